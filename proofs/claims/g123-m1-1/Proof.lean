import JvmDerived
import JvmDerived.Pilot.@@N@@Statement
import JvmDerived.Pilot.@@N@@Code
set_option linter.unusedVariables false
set_option linter.unusedSimpArgs false
namespace Jvm.Pilot.@@N@@
open Jvm Jvm.ClassFile Sem Op Lib Jvm.Free Jvm.Stand Jvm.LawKit Jvm.RoadKit Bundle Jvm.Pilot.@@N@@.Jvm.D
section OwnLayer
variable {p : Program} {l : Launch} {e : Env} {R : Room} {s : State} {m : MethodId} {args : Array Value} {below : List Frame} {meth : Method} {c : Code} {T : State} {locs : List Loc} {cells slots : Nat}
/-- what is to be shown from the state S on: the run comes back, Q holds of what it leaves -/
def own_G (p : Program) (e : Env) (below : List Frame) (s : State) (k n : Nat) (Q : Option Value → Heap → List Loc → Prop) (S : State) : Prop :=
  ∃ t o, Steps p.tables e below S t ∧ t.status = .running ∧ Ended t below o ∧ ∃ v L, o = .returned v ∧ Q v t.heap L ∧ FrameEnd s o t L k n
theorem own_to {k n : Nat} {Q : Option Value → Heap → List Loc → Prop} {S S' : State} (h : ∀ t, Steps p.tables e below S' t → Steps p.tables e below S t) (g : own_G p e below s k n Q S') : own_G p e below s k n Q S := by
  obtain ⟨t, o, h1, h2⟩ := g
  exact ⟨t, o, h t h1, h2⟩
theorem own_retI {k n : Nat} {Q : Option Value → Heap → List Loc → Prop} (X : Stand p l e R s m args below meth c T locs cells slots) (hx : p.tables.exec = Jvm.exec) {pc : Nat} {Ls : Array Slot} {z : Int32} (hret : meth.sig.returnType = some .int) (hd : decode c.code pc = .ok (.ireturn, 1)) (hlk : meth.locks = false) (hk : cells ≤ k) (hn : slots ≤ n) (hq : Q (some (.int z)) T.heap locs) :
    own_G p e below s k n Q (T.setTop (mkF m pc Ls [.int z])) := by
  obtain ⟨fs, hr, hrun, hended, hW, hsame⟩ := X.leave (v := some (.int z)) (fun h => by rw [hret] at h; cases h) hlk
  exact ⟨_, _, X.ireturnOut hx hret rfl (Or.inl rfl) hd hr, hrun, hended, _, _, rfl, hq, ⟨_, rfl⟩, hW, hsame.mono hk hn⟩
theorem own_retN {k n : Nat} {Q : Option Value → Heap → List Loc → Prop} (X : Stand p l e R s m args below meth c T locs cells slots) (hx : p.tables.exec = Jvm.exec) {pc : Nat} {Ls : Array Slot} {z : Int32} {t : FieldType} {rest : List Value} (hret : meth.sig.returnType = some t) (ht : t = .boolean ∨ t = .byte ∨ t = .char ∨ t = .short) (hd : decode c.code pc = .ok (.ireturn, 1)) (hlk : meth.locks = false) (hk : cells ≤ k) (hn : slots ≤ n) (hq : Q (some (.int (nar t z))) T.heap locs) :
    own_G p e below s k n Q (T.setTop (mkF m pc Ls (.int z :: rest))) := by
  obtain ⟨fs, hr, hrun, hended, hW, hsame⟩ := X.leave (v := some (.int (nar t z))) (fun h => by rw [hret] at h; cases h) hlk
  exact ⟨_, _, retN X hx hret ht hd hr, hrun, hended, _, _, rfl, hq, ⟨_, rfl⟩, hW, hsame.mono hk hn⟩
theorem own_retJ {k n : Nat} {Q : Option Value → Heap → List Loc → Prop} (X : Stand p l e R s m args below meth c T locs cells slots) (hx : p.tables.exec = Jvm.exec) {pc : Nat} {Ls : Array Slot} {z : Int64} (hret : meth.sig.returnType = some .long) (hd : decode c.code pc = .ok (.lreturn, 1)) (hlk : meth.locks = false) (hk : cells ≤ k) (hn : slots ≤ n) (hq : Q (some (.long z)) T.heap locs) :
    own_G p e below s k n Q (T.setTop (mkF m pc Ls [.long z])) := by
  obtain ⟨fs, hr, hrun, hended, hW, hsame⟩ := X.leave (v := some (.long z)) (fun h => by rw [hret] at h; cases h) hlk
  exact ⟨_, _, X.lreturnOut hx hret hd hr, hrun, hended, _, _, rfl, hq, ⟨_, rfl⟩, hW, hsame.mono hk hn⟩
theorem own_retA {k n : Nat} {Q : Option Value → Heap → List Loc → Prop} (X : Stand p l e R s m args below meth c T locs cells slots) (hx : p.tables.exec = Jvm.exec) {pc : Nat} {Ls : Array Slot} {w : Value} {t : FieldType} (hw : w.isRef = true) (hret : meth.sig.returnType = some t) (ht : t.isReference = true) (hd : decode c.code pc = .ok (.areturn, 1)) (hlk : meth.locks = false) (hk : cells ≤ k) (hn : slots ≤ n) (hq : Q (some w) T.heap locs) :
    own_G p e below s k n Q (T.setTop (mkF m pc Ls [w])) := by
  obtain ⟨fs, hr, hrun, hended, hW, hsame⟩ := X.leave (v := some w) (fun h => by rw [hret] at h; cases h) hlk
  exact ⟨_, _, X.areturnOut hx hw hret ht hd hr, hrun, hended, _, _, rfl, hq, ⟨_, rfl⟩, hW, hsame.mono hk hn⟩
theorem own_retV {k n : Nat} {Q : Option Value → Heap → List Loc → Prop} (X : Stand p l e R s m args below meth c T locs cells slots) (hx : p.tables.exec = Jvm.exec) {pc : Nat} {Ls : Array Slot} (hret : meth.sig.returnType = none) (hd : decode c.code pc = .ok (.return_, 1)) (hlk : meth.locks = false) (hk : cells ≤ k) (hn : slots ≤ n) (hq : Q none T.heap locs) :
    own_G p e below s k n Q (T.setTop (mkF m pc Ls [])) := by
  obtain ⟨fs, hr, hrun, hended, hW, hsame⟩ := X.leave (v := none) (fun _ => rfl) hlk
  exact ⟨_, _, X.returnOut hx hret hd hr, hrun, hended, _, _, rfl, hq, ⟨_, rfl⟩, hW, hsame.mono hk hn⟩
end OwnLayer
/-- a callee that leaves the heap as it was and returns r -/
def own_Qp (r : Option Value) (h0 : Heap) (n0 : Nat) (v : Option Value) (h : Heap) (L : List Loc) : Prop := v = r ∧ Fr n0 L ∧ h = h0
/-- the law itself -/
def own_Ql (n0 : Nat) (v : Option Value) (h : Heap) (L : List Loc) : Prop := v = some (.int 1) ∧ Fr n0 L
/-- a reference's int field, out of the case's words -/
theorem own_ord {args : Array Value} {s : State} {t : Jvm.Term} {C n d : String} {k : Int32} {x : Addr} (ht : t.eval args s none [] s = some (.ref x)) (h : (Jvm.Cond.eq (.field t C n d) (.int k)).value args s none s [] = some true) : s.fieldOf? x C n d = some (.int k) := by
  obtain ⟨u, w, e1, e2, K1, K2⟩ := cmp_v (Or.inl h)
  have e3 : some w = some (.int k) := e2.symm.trans (Term.int_eval k)
  obtain rfl := Option.some.inj e3
  obtain ⟨z, rfl⟩ := K2
  have e4 := gotT (Cond.eq_ints e1 e2) h
  rw [fld_at ht] at e1
  rw [e1, e4]
theorem own_ord_ne {s : State} {C n d : String} {x y : Addr} {k k' : Int32} (h : s.fieldOf? x C n d = some (.int k)) (h' : s.fieldOf? y C n d = some (.int k')) (hk : k ≠ k') : ¬ (x = y) := fun q => by
  subst q
  rw [h] at h'
  exact hk (Value.int.inj (Option.some.inj h'))
theorem own_pn0 : plainName "com/example/ansehen/ansehen/util/Utf8IsTextPinLaw" = true := by first | (simp [plainName, overriddenIn]; done) | decide +kernel
theorem own_pn1 : plainName "com/example/ansehen/ansehen/util/Utf8" = true := by first | (simp [plainName, overriddenIn]; done) | decide +kernel
theorem own_pd0 : parseMethodDescriptor "([BII)I" = some ⟨[.array .byte, .int, .int], some .int⟩ := by decide +kernel
theorem own_pd1 : parseMethodDescriptor "([BII)Z" = some ⟨[.array .byte, .int, .int], some .boolean⟩ := by decide +kernel
theorem d_method_3_0 : decode method_3_code 0 = .ok (.iload_n 1, 1) := by decide +kernel
theorem d_method_3_1 : decode method_3_code 1 = .ok (.ifCond .lt 8, 3) := by decide +kernel
theorem d_method_3_4 : decode method_3_code 4 = .ok (.iload_n 1, 1) := by decide +kernel
theorem d_method_3_5 : decode method_3_code 5 = .ok (.iload_n 2, 1) := by decide +kernel
theorem d_method_3_6 : decode method_3_code 6 = .ok (.if_icmp .lt 5, 3) := by decide +kernel
theorem d_method_3_9 : decode method_3_code 9 = .ok (.iload_n 1, 1) := by decide +kernel
theorem d_method_3_10 : decode method_3_code 10 = .ok (.ireturn, 1) := by decide +kernel
theorem d_method_3_11 : decode method_3_code 11 = .ok (.aload_n 0, 1) := by decide +kernel
theorem d_method_3_12 : decode method_3_code 12 = .ok (.iload_n 1, 1) := by decide +kernel
theorem d_method_3_13 : decode method_3_code 13 = .ok (.baload, 1) := by decide +kernel
theorem d_method_3_14 : decode method_3_code 14 = .ok (.sipush 255, 3) := by decide +kernel
theorem d_method_3_17 : decode method_3_code 17 = .ok (.iand, 1) := by decide +kernel
theorem d_method_3_18 : decode method_3_code 18 = .ok (.istore_n 3, 1) := by decide +kernel
theorem d_method_3_19 : decode method_3_code 19 = .ok (.iload_n 3, 1) := by decide +kernel
theorem d_method_3_20 : decode method_3_code 20 = .ok (.sipush 128, 3) := by decide +kernel
theorem d_method_3_23 : decode method_3_code 23 = .ok (.iand, 1) := by decide +kernel
theorem d_method_3_24 : decode method_3_code 24 = .ok (.ifCond .ne 7, 3) := by decide +kernel
theorem d_method_3_27 : decode method_3_code 27 = .ok (.iload_n 1, 1) := by decide +kernel
theorem d_method_3_28 : decode method_3_code 28 = .ok (.iconst 1, 1) := by decide +kernel
theorem d_method_3_29 : decode method_3_code 29 = .ok (.iadd, 1) := by decide +kernel
theorem d_method_3_30 : decode method_3_code 30 = .ok (.ireturn, 1) := by decide +kernel
theorem d_method_3_31 : decode method_3_code 31 = .ok (.iload_n 3, 1) := by decide +kernel
theorem d_method_3_32 : decode method_3_code 32 = .ok (.sipush 224, 3) := by decide +kernel
theorem d_method_3_35 : decode method_3_code 35 = .ok (.iand, 1) := by decide +kernel
theorem d_method_3_36 : decode method_3_code 36 = .ok (.sipush 192, 3) := by decide +kernel
theorem d_method_3_39 : decode method_3_code 39 = .ok (.if_icmp .ne 15, 3) := by decide +kernel
theorem d_method_3_42 : decode method_3_code 42 = .ok (.iconst 2, 1) := by decide +kernel
theorem d_method_3_43 : decode method_3_code 43 = .ok (.istore 4, 2) := by decide +kernel
theorem d_method_3_45 : decode method_3_code 45 = .ok (.iload_n 3, 1) := by decide +kernel
theorem d_method_3_46 : decode method_3_code 46 = .ok (.bipush 31, 2) := by decide +kernel
theorem d_method_3_48 : decode method_3_code 48 = .ok (.iand, 1) := by decide +kernel
theorem d_method_3_49 : decode method_3_code 49 = .ok (.istore 5, 2) := by decide +kernel
theorem d_method_3_51 : decode method_3_code 51 = .ok (.goto 51, 3) := by decide +kernel
theorem d_method_3_54 : decode method_3_code 54 = .ok (.iload_n 3, 1) := by decide +kernel
theorem d_method_3_55 : decode method_3_code 55 = .ok (.sipush 240, 3) := by decide +kernel
theorem d_method_3_58 : decode method_3_code 58 = .ok (.iand, 1) := by decide +kernel
theorem d_method_3_59 : decode method_3_code 59 = .ok (.sipush 224, 3) := by decide +kernel
theorem d_method_3_62 : decode method_3_code 62 = .ok (.if_icmp .ne 15, 3) := by decide +kernel
theorem d_method_3_65 : decode method_3_code 65 = .ok (.iconst 3, 1) := by decide +kernel
theorem d_method_3_66 : decode method_3_code 66 = .ok (.istore 4, 2) := by decide +kernel
theorem d_method_3_68 : decode method_3_code 68 = .ok (.iload_n 3, 1) := by decide +kernel
theorem d_method_3_69 : decode method_3_code 69 = .ok (.bipush 15, 2) := by decide +kernel
theorem d_method_3_71 : decode method_3_code 71 = .ok (.iand, 1) := by decide +kernel
theorem d_method_3_72 : decode method_3_code 72 = .ok (.istore 5, 2) := by decide +kernel
theorem d_method_3_74 : decode method_3_code 74 = .ok (.goto 28, 3) := by decide +kernel
theorem d_method_3_77 : decode method_3_code 77 = .ok (.iload_n 3, 1) := by decide +kernel
theorem d_method_3_78 : decode method_3_code 78 = .ok (.sipush 248, 3) := by decide +kernel
theorem d_method_3_81 : decode method_3_code 81 = .ok (.iand, 1) := by decide +kernel
theorem d_method_3_82 : decode method_3_code 82 = .ok (.sipush 240, 3) := by decide +kernel
theorem d_method_3_85 : decode method_3_code 85 = .ok (.if_icmp .ne 15, 3) := by decide +kernel
theorem d_method_3_88 : decode method_3_code 88 = .ok (.iconst 4, 1) := by decide +kernel
theorem d_method_3_89 : decode method_3_code 89 = .ok (.istore 4, 2) := by decide +kernel
theorem d_method_3_91 : decode method_3_code 91 = .ok (.iload_n 3, 1) := by decide +kernel
theorem d_method_3_92 : decode method_3_code 92 = .ok (.bipush 7, 2) := by decide +kernel
theorem d_method_3_94 : decode method_3_code 94 = .ok (.iand, 1) := by decide +kernel
theorem d_method_3_95 : decode method_3_code 95 = .ok (.istore 5, 2) := by decide +kernel
theorem d_method_3_97 : decode method_3_code 97 = .ok (.goto 5, 3) := by decide +kernel
theorem d_method_3_100 : decode method_3_code 100 = .ok (.iconst (-1), 1) := by decide +kernel
theorem d_method_3_101 : decode method_3_code 101 = .ok (.ireturn, 1) := by decide +kernel
theorem d_method_3_102 : decode method_3_code 102 = .ok (.iload_n 1, 1) := by decide +kernel
theorem d_method_3_103 : decode method_3_code 103 = .ok (.iload 4, 2) := by decide +kernel
theorem d_method_3_105 : decode method_3_code 105 = .ok (.iadd, 1) := by decide +kernel
theorem d_method_3_106 : decode method_3_code 106 = .ok (.iload_n 2, 1) := by decide +kernel
theorem d_method_3_107 : decode method_3_code 107 = .ok (.if_icmp .le 5, 3) := by decide +kernel
theorem d_method_3_110 : decode method_3_code 110 = .ok (.iconst (-1), 1) := by decide +kernel
theorem d_method_3_111 : decode method_3_code 111 = .ok (.ireturn, 1) := by decide +kernel
theorem d_method_3_112 : decode method_3_code 112 = .ok (.aload_n 0, 1) := by decide +kernel
theorem d_method_3_113 : decode method_3_code 113 = .ok (.iload_n 1, 1) := by decide +kernel
theorem d_method_3_114 : decode method_3_code 114 = .ok (.iconst 1, 1) := by decide +kernel
theorem d_method_3_115 : decode method_3_code 115 = .ok (.iadd, 1) := by decide +kernel
theorem d_method_3_116 : decode method_3_code 116 = .ok (.baload, 1) := by decide +kernel
theorem d_method_3_117 : decode method_3_code 117 = .ok (.sipush 255, 3) := by decide +kernel
theorem d_method_3_120 : decode method_3_code 120 = .ok (.iand, 1) := by decide +kernel
theorem d_method_3_121 : decode method_3_code 121 = .ok (.istore 6, 2) := by decide +kernel
theorem d_method_3_123 : decode method_3_code 123 = .ok (.iload 6, 2) := by decide +kernel
theorem d_method_3_125 : decode method_3_code 125 = .ok (.sipush 192, 3) := by decide +kernel
theorem d_method_3_128 : decode method_3_code 128 = .ok (.iand, 1) := by decide +kernel
theorem d_method_3_129 : decode method_3_code 129 = .ok (.sipush 128, 3) := by decide +kernel
theorem d_method_3_132 : decode method_3_code 132 = .ok (.if_icmp .eq 5, 3) := by decide +kernel
theorem d_method_3_135 : decode method_3_code 135 = .ok (.iconst (-1), 1) := by decide +kernel
theorem d_method_3_136 : decode method_3_code 136 = .ok (.ireturn, 1) := by decide +kernel
theorem d_method_3_137 : decode method_3_code 137 = .ok (.iload 5, 2) := by decide +kernel
theorem d_method_3_139 : decode method_3_code 139 = .ok (.bipush 6, 2) := by decide +kernel
theorem d_method_3_141 : decode method_3_code 141 = .ok (.ishl, 1) := by decide +kernel
theorem d_method_3_142 : decode method_3_code 142 = .ok (.iload 6, 2) := by decide +kernel
theorem d_method_3_144 : decode method_3_code 144 = .ok (.bipush 63, 2) := by decide +kernel
theorem d_method_3_146 : decode method_3_code 146 = .ok (.iand, 1) := by decide +kernel
theorem d_method_3_147 : decode method_3_code 147 = .ok (.ior, 1) := by decide +kernel
theorem d_method_3_148 : decode method_3_code 148 = .ok (.istore 5, 2) := by decide +kernel
theorem d_method_3_150 : decode method_3_code 150 = .ok (.iload 4, 2) := by decide +kernel
theorem d_method_3_152 : decode method_3_code 152 = .ok (.iconst 3, 1) := by decide +kernel
theorem d_method_3_153 : decode method_3_code 153 = .ok (.if_icmp .lt 41, 3) := by decide +kernel
theorem d_method_3_156 : decode method_3_code 156 = .ok (.aload_n 0, 1) := by decide +kernel
theorem d_method_3_157 : decode method_3_code 157 = .ok (.iload_n 1, 1) := by decide +kernel
theorem d_method_3_158 : decode method_3_code 158 = .ok (.iconst 2, 1) := by decide +kernel
theorem d_method_3_159 : decode method_3_code 159 = .ok (.iadd, 1) := by decide +kernel
theorem d_method_3_160 : decode method_3_code 160 = .ok (.baload, 1) := by decide +kernel
theorem d_method_3_161 : decode method_3_code 161 = .ok (.sipush 255, 3) := by decide +kernel
theorem d_method_3_164 : decode method_3_code 164 = .ok (.iand, 1) := by decide +kernel
theorem d_method_3_165 : decode method_3_code 165 = .ok (.istore 7, 2) := by decide +kernel
theorem d_method_3_167 : decode method_3_code 167 = .ok (.iload 7, 2) := by decide +kernel
theorem d_method_3_169 : decode method_3_code 169 = .ok (.sipush 192, 3) := by decide +kernel
theorem d_method_3_172 : decode method_3_code 172 = .ok (.iand, 1) := by decide +kernel
theorem d_method_3_173 : decode method_3_code 173 = .ok (.sipush 128, 3) := by decide +kernel
theorem d_method_3_176 : decode method_3_code 176 = .ok (.if_icmp .eq 5, 3) := by decide +kernel
theorem d_method_3_179 : decode method_3_code 179 = .ok (.iconst (-1), 1) := by decide +kernel
theorem d_method_3_180 : decode method_3_code 180 = .ok (.ireturn, 1) := by decide +kernel
theorem d_method_3_181 : decode method_3_code 181 = .ok (.iload 5, 2) := by decide +kernel
theorem d_method_3_183 : decode method_3_code 183 = .ok (.bipush 6, 2) := by decide +kernel
theorem d_method_3_185 : decode method_3_code 185 = .ok (.ishl, 1) := by decide +kernel
theorem d_method_3_186 : decode method_3_code 186 = .ok (.iload 7, 2) := by decide +kernel
theorem d_method_3_188 : decode method_3_code 188 = .ok (.bipush 63, 2) := by decide +kernel
theorem d_method_3_190 : decode method_3_code 190 = .ok (.iand, 1) := by decide +kernel
theorem d_method_3_191 : decode method_3_code 191 = .ok (.ior, 1) := by decide +kernel
theorem d_method_3_192 : decode method_3_code 192 = .ok (.istore 5, 2) := by decide +kernel
theorem d_method_3_194 : decode method_3_code 194 = .ok (.iload 4, 2) := by decide +kernel
theorem d_method_3_196 : decode method_3_code 196 = .ok (.iconst 4, 1) := by decide +kernel
theorem d_method_3_197 : decode method_3_code 197 = .ok (.if_icmp .ne 41, 3) := by decide +kernel
theorem d_method_3_200 : decode method_3_code 200 = .ok (.aload_n 0, 1) := by decide +kernel
theorem d_method_3_201 : decode method_3_code 201 = .ok (.iload_n 1, 1) := by decide +kernel
theorem d_method_3_202 : decode method_3_code 202 = .ok (.iconst 3, 1) := by decide +kernel
theorem d_method_3_203 : decode method_3_code 203 = .ok (.iadd, 1) := by decide +kernel
theorem d_method_3_204 : decode method_3_code 204 = .ok (.baload, 1) := by decide +kernel
theorem d_method_3_205 : decode method_3_code 205 = .ok (.sipush 255, 3) := by decide +kernel
theorem d_method_3_208 : decode method_3_code 208 = .ok (.iand, 1) := by decide +kernel
theorem d_method_3_209 : decode method_3_code 209 = .ok (.istore 7, 2) := by decide +kernel
theorem d_method_3_211 : decode method_3_code 211 = .ok (.iload 7, 2) := by decide +kernel
theorem d_method_3_213 : decode method_3_code 213 = .ok (.sipush 192, 3) := by decide +kernel
theorem d_method_3_216 : decode method_3_code 216 = .ok (.iand, 1) := by decide +kernel
theorem d_method_3_217 : decode method_3_code 217 = .ok (.sipush 128, 3) := by decide +kernel
theorem d_method_3_220 : decode method_3_code 220 = .ok (.if_icmp .eq 5, 3) := by decide +kernel
theorem d_method_3_223 : decode method_3_code 223 = .ok (.iconst (-1), 1) := by decide +kernel
theorem d_method_3_224 : decode method_3_code 224 = .ok (.ireturn, 1) := by decide +kernel
theorem d_method_3_225 : decode method_3_code 225 = .ok (.iload 5, 2) := by decide +kernel
theorem d_method_3_227 : decode method_3_code 227 = .ok (.bipush 6, 2) := by decide +kernel
theorem d_method_3_229 : decode method_3_code 229 = .ok (.ishl, 1) := by decide +kernel
theorem d_method_3_230 : decode method_3_code 230 = .ok (.iload 7, 2) := by decide +kernel
theorem d_method_3_232 : decode method_3_code 232 = .ok (.bipush 63, 2) := by decide +kernel
theorem d_method_3_234 : decode method_3_code 234 = .ok (.iand, 1) := by decide +kernel
theorem d_method_3_235 : decode method_3_code 235 = .ok (.ior, 1) := by decide +kernel
theorem d_method_3_236 : decode method_3_code 236 = .ok (.istore 5, 2) := by decide +kernel
theorem d_method_3_238 : decode method_3_code 238 = .ok (.iload 4, 2) := by decide +kernel
theorem d_method_3_240 : decode method_3_code 240 = .ok (.iconst 2, 1) := by decide +kernel
theorem d_method_3_241 : decode method_3_code 241 = .ok (.if_icmp .ne 13, 3) := by decide +kernel
theorem d_method_3_244 : decode method_3_code 244 = .ok (.iload 5, 2) := by decide +kernel
theorem d_method_3_246 : decode method_3_code 246 = .ok (.sipush 128, 3) := by decide +kernel
theorem d_method_3_249 : decode method_3_code 249 = .ok (.if_icmp .ge 5, 3) := by decide +kernel
theorem d_method_3_252 : decode method_3_code 252 = .ok (.iconst (-1), 1) := by decide +kernel
theorem d_method_3_253 : decode method_3_code 253 = .ok (.ireturn, 1) := by decide +kernel
theorem d_method_3_254 : decode method_3_code 254 = .ok (.iload 4, 2) := by decide +kernel
theorem d_method_3_256 : decode method_3_code 256 = .ok (.iconst 3, 1) := by decide +kernel
theorem d_method_3_257 : decode method_3_code 257 = .ok (.if_icmp .ne 27, 3) := by decide +kernel
theorem d_method_3_260 : decode method_3_code 260 = .ok (.iload 5, 2) := by decide +kernel
theorem d_method_3_262 : decode method_3_code 262 = .ok (.sipush 2048, 3) := by decide +kernel
theorem d_method_3_265 : decode method_3_code 265 = .ok (.if_icmp .lt 17, 3) := by decide +kernel
theorem d_method_3_268 : decode method_3_code 268 = .ok (.iload 5, 2) := by decide +kernel
theorem d_method_3_270 : decode method_3_code 270 = .ok (.ldc 20, 2) := by decide +kernel
theorem d_method_3_272 : decode method_3_code 272 = .ok (.if_icmp .lt 12, 3) := by decide +kernel
theorem d_method_3_275 : decode method_3_code 275 = .ok (.iload 5, 2) := by decide +kernel
theorem d_method_3_277 : decode method_3_code 277 = .ok (.ldc 21, 2) := by decide +kernel
theorem d_method_3_279 : decode method_3_code 279 = .ok (.if_icmp .gt 5, 3) := by decide +kernel
theorem d_method_3_282 : decode method_3_code 282 = .ok (.iconst (-1), 1) := by decide +kernel
theorem d_method_3_283 : decode method_3_code 283 = .ok (.ireturn, 1) := by decide +kernel
theorem d_method_3_284 : decode method_3_code 284 = .ok (.iload 4, 2) := by decide +kernel
theorem d_method_3_286 : decode method_3_code 286 = .ok (.iconst 4, 1) := by decide +kernel
theorem d_method_3_287 : decode method_3_code 287 = .ok (.if_icmp .ne 19, 3) := by decide +kernel
theorem d_method_3_290 : decode method_3_code 290 = .ok (.iload 5, 2) := by decide +kernel
theorem d_method_3_292 : decode method_3_code 292 = .ok (.ldc 22, 2) := by decide +kernel
theorem d_method_3_294 : decode method_3_code 294 = .ok (.if_icmp .lt 10, 3) := by decide +kernel
theorem d_method_3_297 : decode method_3_code 297 = .ok (.iload 5, 2) := by decide +kernel
theorem d_method_3_299 : decode method_3_code 299 = .ok (.ldc 23, 2) := by decide +kernel
theorem d_method_3_301 : decode method_3_code 301 = .ok (.if_icmp .le 5, 3) := by decide +kernel
theorem d_method_3_304 : decode method_3_code 304 = .ok (.iconst (-1), 1) := by decide +kernel
theorem d_method_3_305 : decode method_3_code 305 = .ok (.ireturn, 1) := by decide +kernel
theorem d_method_3_306 : decode method_3_code 306 = .ok (.iload_n 1, 1) := by decide +kernel
theorem d_method_3_307 : decode method_3_code 307 = .ok (.iload 4, 2) := by decide +kernel
theorem d_method_3_309 : decode method_3_code 309 = .ok (.iadd, 1) := by decide +kernel
theorem d_method_3_310 : decode method_3_code 310 = .ok (.ireturn, 1) := by decide +kernel
theorem d_prog_37_method_2_0 : decode prog_37_method_2_code 0 = .ok (.iload_n 1, 1) := by decide +kernel
theorem d_prog_37_method_2_1 : decode prog_37_method_2_code 1 = .ok (.istore_n 3, 1) := by decide +kernel
theorem d_prog_37_method_2_2 : decode prog_37_method_2_code 2 = .ok (.iload_n 3, 1) := by decide +kernel
theorem d_prog_37_method_2_3 : decode prog_37_method_2_code 3 = .ok (.iload_n 2, 1) := by decide +kernel
theorem d_prog_37_method_2_4 : decode prog_37_method_2_code 4 = .ok (.if_icmp .ge 259, 3) := by decide +kernel
theorem d_prog_37_method_2_7 : decode prog_37_method_2_code 7 = .ok (.aload_n 0, 1) := by decide +kernel
theorem d_prog_37_method_2_8 : decode prog_37_method_2_code 8 = .ok (.iload_n 3, 1) := by decide +kernel
theorem d_prog_37_method_2_9 : decode prog_37_method_2_code 9 = .ok (.baload, 1) := by decide +kernel
theorem d_prog_37_method_2_10 : decode prog_37_method_2_code 10 = .ok (.sipush 255, 3) := by decide +kernel
theorem d_prog_37_method_2_13 : decode prog_37_method_2_code 13 = .ok (.iand, 1) := by decide +kernel
theorem d_prog_37_method_2_14 : decode prog_37_method_2_code 14 = .ok (.istore 4, 2) := by decide +kernel
theorem d_prog_37_method_2_16 : decode prog_37_method_2_code 16 = .ok (.iload 4, 2) := by decide +kernel
theorem d_prog_37_method_2_18 : decode prog_37_method_2_code 18 = .ok (.sipush 128, 3) := by decide +kernel
theorem d_prog_37_method_2_21 : decode prog_37_method_2_code 21 = .ok (.if_icmp .ge 9, 3) := by decide +kernel
theorem d_prog_37_method_2_24 : decode prog_37_method_2_code 24 = .ok (.iinc 3 1, 3) := by decide +kernel
theorem d_prog_37_method_2_27 : decode prog_37_method_2_code 27 = .ok (.goto (-25), 3) := by decide +kernel
theorem d_prog_37_method_2_30 : decode prog_37_method_2_code 30 = .ok (.sipush 128, 3) := by decide +kernel
theorem d_prog_37_method_2_33 : decode prog_37_method_2_code 33 = .ok (.istore 6, 2) := by decide +kernel
theorem d_prog_37_method_2_35 : decode prog_37_method_2_code 35 = .ok (.sipush 191, 3) := by decide +kernel
theorem d_prog_37_method_2_38 : decode prog_37_method_2_code 38 = .ok (.istore 7, 2) := by decide +kernel
theorem d_prog_37_method_2_40 : decode prog_37_method_2_code 40 = .ok (.iload 4, 2) := by decide +kernel
theorem d_prog_37_method_2_42 : decode prog_37_method_2_code 42 = .ok (.sipush 194, 3) := by decide +kernel
theorem d_prog_37_method_2_45 : decode prog_37_method_2_code 45 = .ok (.if_icmp .lt 17, 3) := by decide +kernel
theorem d_prog_37_method_2_48 : decode prog_37_method_2_code 48 = .ok (.iload 4, 2) := by decide +kernel
theorem d_prog_37_method_2_50 : decode prog_37_method_2_code 50 = .ok (.sipush 223, 3) := by decide +kernel
theorem d_prog_37_method_2_53 : decode prog_37_method_2_code 53 = .ok (.if_icmp .gt 9, 3) := by decide +kernel
theorem d_prog_37_method_2_56 : decode prog_37_method_2_code 56 = .ok (.iconst 1, 1) := by decide +kernel
theorem d_prog_37_method_2_57 : decode prog_37_method_2_code 57 = .ok (.istore 5, 2) := by decide +kernel
theorem d_prog_37_method_2_59 : decode prog_37_method_2_code 59 = .ok (.goto 121, 3) := by decide +kernel
theorem d_prog_37_method_2_62 : decode prog_37_method_2_code 62 = .ok (.iload 4, 2) := by decide +kernel
theorem d_prog_37_method_2_64 : decode prog_37_method_2_code 64 = .ok (.sipush 224, 3) := by decide +kernel
theorem d_prog_37_method_2_67 : decode prog_37_method_2_code 67 = .ok (.if_icmp .lt 53, 3) := by decide +kernel
theorem d_prog_37_method_2_70 : decode prog_37_method_2_code 70 = .ok (.iload 4, 2) := by decide +kernel
theorem d_prog_37_method_2_72 : decode prog_37_method_2_code 72 = .ok (.sipush 239, 3) := by decide +kernel
theorem d_prog_37_method_2_75 : decode prog_37_method_2_code 75 = .ok (.if_icmp .gt 45, 3) := by decide +kernel
theorem d_prog_37_method_2_78 : decode prog_37_method_2_code 78 = .ok (.iconst 2, 1) := by decide +kernel
theorem d_prog_37_method_2_79 : decode prog_37_method_2_code 79 = .ok (.istore 5, 2) := by decide +kernel
theorem d_prog_37_method_2_81 : decode prog_37_method_2_code 81 = .ok (.iload 4, 2) := by decide +kernel
theorem d_prog_37_method_2_83 : decode prog_37_method_2_code 83 = .ok (.sipush 224, 3) := by decide +kernel
theorem d_prog_37_method_2_86 : decode prog_37_method_2_code 86 = .ok (.if_icmp .ne 9, 3) := by decide +kernel
theorem d_prog_37_method_2_89 : decode prog_37_method_2_code 89 = .ok (.sipush 160, 3) := by decide +kernel
theorem d_prog_37_method_2_92 : decode prog_37_method_2_code 92 = .ok (.goto 5, 3) := by decide +kernel
theorem d_prog_37_method_2_95 : decode prog_37_method_2_code 95 = .ok (.iload 6, 2) := by decide +kernel
theorem d_prog_37_method_2_97 : decode prog_37_method_2_code 97 = .ok (.istore 6, 2) := by decide +kernel
theorem d_prog_37_method_2_99 : decode prog_37_method_2_code 99 = .ok (.iload 4, 2) := by decide +kernel
theorem d_prog_37_method_2_101 : decode prog_37_method_2_code 101 = .ok (.sipush 237, 3) := by decide +kernel
theorem d_prog_37_method_2_104 : decode prog_37_method_2_code 104 = .ok (.if_icmp .ne 9, 3) := by decide +kernel
theorem d_prog_37_method_2_107 : decode prog_37_method_2_code 107 = .ok (.sipush 159, 3) := by decide +kernel
theorem d_prog_37_method_2_110 : decode prog_37_method_2_code 110 = .ok (.goto 5, 3) := by decide +kernel
theorem d_prog_37_method_2_113 : decode prog_37_method_2_code 113 = .ok (.iload 7, 2) := by decide +kernel
theorem d_prog_37_method_2_115 : decode prog_37_method_2_code 115 = .ok (.istore 7, 2) := by decide +kernel
theorem d_prog_37_method_2_117 : decode prog_37_method_2_code 117 = .ok (.goto 63, 3) := by decide +kernel
theorem d_prog_37_method_2_120 : decode prog_37_method_2_code 120 = .ok (.iload 4, 2) := by decide +kernel
theorem d_prog_37_method_2_122 : decode prog_37_method_2_code 122 = .ok (.sipush 240, 3) := by decide +kernel
theorem d_prog_37_method_2_125 : decode prog_37_method_2_code 125 = .ok (.if_icmp .lt 53, 3) := by decide +kernel
theorem d_prog_37_method_2_128 : decode prog_37_method_2_code 128 = .ok (.iload 4, 2) := by decide +kernel
theorem d_prog_37_method_2_130 : decode prog_37_method_2_code 130 = .ok (.sipush 244, 3) := by decide +kernel
theorem d_prog_37_method_2_133 : decode prog_37_method_2_code 133 = .ok (.if_icmp .gt 45, 3) := by decide +kernel
theorem d_prog_37_method_2_136 : decode prog_37_method_2_code 136 = .ok (.iconst 3, 1) := by decide +kernel
theorem d_prog_37_method_2_137 : decode prog_37_method_2_code 137 = .ok (.istore 5, 2) := by decide +kernel
theorem d_prog_37_method_2_139 : decode prog_37_method_2_code 139 = .ok (.iload 4, 2) := by decide +kernel
theorem d_prog_37_method_2_141 : decode prog_37_method_2_code 141 = .ok (.sipush 240, 3) := by decide +kernel
theorem d_prog_37_method_2_144 : decode prog_37_method_2_code 144 = .ok (.if_icmp .ne 9, 3) := by decide +kernel
theorem d_prog_37_method_2_147 : decode prog_37_method_2_code 147 = .ok (.sipush 144, 3) := by decide +kernel
theorem d_prog_37_method_2_150 : decode prog_37_method_2_code 150 = .ok (.goto 5, 3) := by decide +kernel
theorem d_prog_37_method_2_153 : decode prog_37_method_2_code 153 = .ok (.iload 6, 2) := by decide +kernel
theorem d_prog_37_method_2_155 : decode prog_37_method_2_code 155 = .ok (.istore 6, 2) := by decide +kernel
theorem d_prog_37_method_2_157 : decode prog_37_method_2_code 157 = .ok (.iload 4, 2) := by decide +kernel
theorem d_prog_37_method_2_159 : decode prog_37_method_2_code 159 = .ok (.sipush 244, 3) := by decide +kernel
theorem d_prog_37_method_2_162 : decode prog_37_method_2_code 162 = .ok (.if_icmp .ne 9, 3) := by decide +kernel
theorem d_prog_37_method_2_165 : decode prog_37_method_2_code 165 = .ok (.sipush 143, 3) := by decide +kernel
theorem d_prog_37_method_2_168 : decode prog_37_method_2_code 168 = .ok (.goto 5, 3) := by decide +kernel
theorem d_prog_37_method_2_171 : decode prog_37_method_2_code 171 = .ok (.iload 7, 2) := by decide +kernel
theorem d_prog_37_method_2_173 : decode prog_37_method_2_code 173 = .ok (.istore 7, 2) := by decide +kernel
theorem d_prog_37_method_2_175 : decode prog_37_method_2_code 175 = .ok (.goto 5, 3) := by decide +kernel
theorem d_prog_37_method_2_178 : decode prog_37_method_2_code 178 = .ok (.iconst 0, 1) := by decide +kernel
theorem d_prog_37_method_2_179 : decode prog_37_method_2_code 179 = .ok (.ireturn, 1) := by decide +kernel
theorem d_prog_37_method_2_180 : decode prog_37_method_2_code 180 = .ok (.iload_n 2, 1) := by decide +kernel
theorem d_prog_37_method_2_181 : decode prog_37_method_2_code 181 = .ok (.iload_n 3, 1) := by decide +kernel
theorem d_prog_37_method_2_182 : decode prog_37_method_2_code 182 = .ok (.isub, 1) := by decide +kernel
theorem d_prog_37_method_2_183 : decode prog_37_method_2_code 183 = .ok (.iload 5, 2) := by decide +kernel
theorem d_prog_37_method_2_185 : decode prog_37_method_2_code 185 = .ok (.if_icmp .gt 5, 3) := by decide +kernel
theorem d_prog_37_method_2_188 : decode prog_37_method_2_code 188 = .ok (.iconst 0, 1) := by decide +kernel
theorem d_prog_37_method_2_189 : decode prog_37_method_2_code 189 = .ok (.ireturn, 1) := by decide +kernel
theorem d_prog_37_method_2_190 : decode prog_37_method_2_code 190 = .ok (.aload_n 0, 1) := by decide +kernel
theorem d_prog_37_method_2_191 : decode prog_37_method_2_code 191 = .ok (.iload_n 3, 1) := by decide +kernel
theorem d_prog_37_method_2_192 : decode prog_37_method_2_code 192 = .ok (.iconst 1, 1) := by decide +kernel
theorem d_prog_37_method_2_193 : decode prog_37_method_2_code 193 = .ok (.iadd, 1) := by decide +kernel
theorem d_prog_37_method_2_194 : decode prog_37_method_2_code 194 = .ok (.baload, 1) := by decide +kernel
theorem d_prog_37_method_2_195 : decode prog_37_method_2_code 195 = .ok (.sipush 255, 3) := by decide +kernel
theorem d_prog_37_method_2_198 : decode prog_37_method_2_code 198 = .ok (.iand, 1) := by decide +kernel
theorem d_prog_37_method_2_199 : decode prog_37_method_2_code 199 = .ok (.istore 8, 2) := by decide +kernel
theorem d_prog_37_method_2_201 : decode prog_37_method_2_code 201 = .ok (.iload 8, 2) := by decide +kernel
theorem d_prog_37_method_2_203 : decode prog_37_method_2_code 203 = .ok (.iload 6, 2) := by decide +kernel
theorem d_prog_37_method_2_205 : decode prog_37_method_2_code 205 = .ok (.if_icmp .lt 10, 3) := by decide +kernel
theorem d_prog_37_method_2_208 : decode prog_37_method_2_code 208 = .ok (.iload 8, 2) := by decide +kernel
theorem d_prog_37_method_2_210 : decode prog_37_method_2_code 210 = .ok (.iload 7, 2) := by decide +kernel
theorem d_prog_37_method_2_212 : decode prog_37_method_2_code 212 = .ok (.if_icmp .le 5, 3) := by decide +kernel
theorem d_prog_37_method_2_215 : decode prog_37_method_2_code 215 = .ok (.iconst 0, 1) := by decide +kernel
theorem d_prog_37_method_2_216 : decode prog_37_method_2_code 216 = .ok (.ireturn, 1) := by decide +kernel
theorem d_prog_37_method_2_217 : decode prog_37_method_2_code 217 = .ok (.iload_n 3, 1) := by decide +kernel
theorem d_prog_37_method_2_218 : decode prog_37_method_2_code 218 = .ok (.iconst 2, 1) := by decide +kernel
theorem d_prog_37_method_2_219 : decode prog_37_method_2_code 219 = .ok (.iadd, 1) := by decide +kernel
theorem d_prog_37_method_2_220 : decode prog_37_method_2_code 220 = .ok (.istore 9, 2) := by decide +kernel
theorem d_prog_37_method_2_222 : decode prog_37_method_2_code 222 = .ok (.iload 9, 2) := by decide +kernel
theorem d_prog_37_method_2_224 : decode prog_37_method_2_code 224 = .ok (.iload_n 3, 1) := by decide +kernel
theorem d_prog_37_method_2_225 : decode prog_37_method_2_code 225 = .ok (.iload 5, 2) := by decide +kernel
theorem d_prog_37_method_2_227 : decode prog_37_method_2_code 227 = .ok (.iadd, 1) := by decide +kernel
theorem d_prog_37_method_2_228 : decode prog_37_method_2_code 228 = .ok (.if_icmp .gt 25, 3) := by decide +kernel
theorem d_prog_37_method_2_231 : decode prog_37_method_2_code 231 = .ok (.aload_n 0, 1) := by decide +kernel
theorem d_prog_37_method_2_232 : decode prog_37_method_2_code 232 = .ok (.iload 9, 2) := by decide +kernel
theorem d_prog_37_method_2_234 : decode prog_37_method_2_code 234 = .ok (.baload, 1) := by decide +kernel
theorem d_prog_37_method_2_235 : decode prog_37_method_2_code 235 = .ok (.sipush 192, 3) := by decide +kernel
theorem d_prog_37_method_2_238 : decode prog_37_method_2_code 238 = .ok (.iand, 1) := by decide +kernel
theorem d_prog_37_method_2_239 : decode prog_37_method_2_code 239 = .ok (.sipush 128, 3) := by decide +kernel
theorem d_prog_37_method_2_242 : decode prog_37_method_2_code 242 = .ok (.if_icmp .eq 5, 3) := by decide +kernel
theorem d_prog_37_method_2_245 : decode prog_37_method_2_code 245 = .ok (.iconst 0, 1) := by decide +kernel
theorem d_prog_37_method_2_246 : decode prog_37_method_2_code 246 = .ok (.ireturn, 1) := by decide +kernel
theorem d_prog_37_method_2_247 : decode prog_37_method_2_code 247 = .ok (.iinc 9 1, 3) := by decide +kernel
theorem d_prog_37_method_2_250 : decode prog_37_method_2_code 250 = .ok (.goto (-28), 3) := by decide +kernel
theorem d_prog_37_method_2_253 : decode prog_37_method_2_code 253 = .ok (.iload_n 3, 1) := by decide +kernel
theorem d_prog_37_method_2_254 : decode prog_37_method_2_code 254 = .ok (.iload 5, 2) := by decide +kernel
theorem d_prog_37_method_2_256 : decode prog_37_method_2_code 256 = .ok (.iconst 1, 1) := by decide +kernel
theorem d_prog_37_method_2_257 : decode prog_37_method_2_code 257 = .ok (.iadd, 1) := by decide +kernel
theorem d_prog_37_method_2_258 : decode prog_37_method_2_code 258 = .ok (.iadd, 1) := by decide +kernel
theorem d_prog_37_method_2_259 : decode prog_37_method_2_code 259 = .ok (.istore_n 3, 1) := by decide +kernel
theorem d_prog_37_method_2_260 : decode prog_37_method_2_code 260 = .ok (.goto (-258), 3) := by decide +kernel
theorem d_prog_37_method_2_263 : decode prog_37_method_2_code 263 = .ok (.iconst 1, 1) := by decide +kernel
theorem d_prog_37_method_2_264 : decode prog_37_method_2_code 264 = .ok (.ireturn, 1) := by decide +kernel
section OwnArr
variable {Z : State} {h h' : Heap} {a b : Addr} {ty : FieldType} {vs : List Value} {xs : List Int32} {ys : List Int64}
/-- the array at a holds just the values vs -/
def own_V (Z : State) (h : Heap) (a : Addr) (ty : FieldType) (vs : List Value) : Prop := ∃ c : Cell, Arr Z h a c ty ∧ c.slots.toList = vs ∧ vs.length < 2 ^ 31
theorem own_V_lt (F : own_V Z h a ty vs) : a < h.size := by obtain ⟨c, A, -⟩ := F; exact A.lt
theorem own_V_ext (F : own_V Z h a ty vs) (E : Ext h h') : own_V Z h' a ty vs := by obtain ⟨c, A, r⟩ := F; exact ⟨c, A.ext E, r⟩
theorem own_V_other {sl : Nat} {v : Value} (F : own_V Z h b ty vs) (W : Wr h h' a sl v) (q : b ≠ a) : own_V Z h' b ty vs := by obtain ⟨c, A, r⟩ := F; exact ⟨c, A.other W q, r⟩
theorem own_V_keep {ws : List Addr} (F : own_V Z h a ty vs) (K : Keep h h' ws) (q : a ∉ ws) : own_V Z h' a ty vs := by
  obtain ⟨c, A, r⟩ := F
  exact ⟨c, ⟨K.2.1 a c A.1 q, A.2⟩, r⟩
theorem own_V_set {j : Int32} {k : Nat} {v : Value} (F : own_V Z h a ty vs) (W : Wr h h' a j.toNatClampNeg v) (hj : j.toNatClampNeg = k) : own_V Z h' a ty (vs.set k v) := by
  obtain ⟨c, A, r, q⟩ := F
  subst hj r
  refine ⟨_, A.same W, ?_, ?_⟩
  · simp [Cell.setSlot]
  · rw [List.length_set]; exact q
theorem own_V_new {k : ClassId} {n : Int32} {m : Nat} (A : Arr Z h a (newA k ty n) ty) (hm : n.toNatClampNeg = m) (hn : m < 2 ^ 31) : own_V Z h a ty (List.replicate m (defaultValue ty)) := by
  subst hm
  refine ⟨_, A, by simp [newA], ?_⟩
  rw [List.length_replicate]; exact hn
theorem own_tn {j : Int32} (h0 : 0 ≤ j.toInt) : (j.toNatClampNeg : Int) = j.toInt := by
  show ((j.toInt.toNat : Nat) : Int) = j.toInt
  omega
theorem own_neg {j : Int32} (h0 : 0 ≤ j.toInt) : ¬ j < 0 := by
  rw [Int32.lt_iff_toInt_lt, show (0 : Int32).toInt = 0 from rfl]; omega
theorem own_hin {c : Cell} {j : Int32} (S : c.slots.toList = vs) (h0 : 0 ≤ j.toInt) (h1 : j.toInt < vs.length) : ¬ (j < 0 ∨ c.slots.size ≤ j.toNatClampNeg) := by
  have e := own_tn h0
  have e2 : c.slots.size = vs.length := by rw [← S]; simp
  intro q
  rcases q with q | q
  · exact own_neg h0 q
  · omega
theorem own_hink {c : Cell} {j : Int32} {k : Nat} (S : c.slots.toList = vs) (h0 : ¬ j < 0) (hj : j.toNatClampNeg = k) (hk : k < vs.length) : ¬ (j < 0 ∨ c.slots.size ≤ j.toNatClampNeg) := by
  have e2 : c.slots.size = vs.length := by rw [← S]; simp
  intro q
  rcases q with q | q
  · exact h0 q
  · omega
theorem own_hatk {c : Cell} {j : Int32} {k : Nat} {v : Value} (S : c.slots.toList = vs) (hj : j.toNatClampNeg = k) (hv : vs[k]? = some v) : c.slots[j.toNatClampNeg]? = some v := by
  rw [hj, ← hv, ← S]; simp
theorem own_hatkD {c : Cell} {j : Int32} {v : Value} (S : c.slots.toList = vs) (hv : vs[j.toNatClampNeg]? = some v) : c.slots[j.toNatClampNeg]? = some v := own_hatk S rfl hv
theorem own_hatI {c : Cell} {j : Int32} (S : c.slots.toList = xs.map Value.int) (h0 : 0 ≤ j.toInt) (h1 : j.toInt < xs.length) : c.slots[j.toNatClampNeg]? = some (.int (xs.getD j.toNatClampNeg 0)) := by
  have e := own_tn h0
  have hl : j.toNatClampNeg < xs.length := by omega
  refine own_hatk S rfl ?_
  simp [hl]
theorem own_hatJ {c : Cell} {j : Int32} (S : c.slots.toList = ys.map Value.long) (h0 : 0 ≤ j.toInt) (h1 : j.toInt < ys.length) : c.slots[j.toNatClampNeg]? = some (.long (ys.getD j.toNatClampNeg 0)) := by
  have e := own_tn h0
  have hl : j.toNatClampNeg < ys.length := by omega
  refine own_hatk S rfl ?_
  simp [hl]
theorem own_len {c : Cell} {n : Int32} (S : c.slots.toList = vs) (hn : n.toInt = vs.length) : c.slots.size.toInt32 = n := by
  have e2 : c.slots.size = vs.length := by rw [← S]; simp
  have e := own_tn (j := n) (by omega)
  refine len_of ?_ (own_neg (by omega))
  omega
end OwnArr
theorem own_ofN {d : Nat} (h : d < 2147483648) : (Int32.ofNat d).toInt = d := Int32.toInt_ofNat_of_lt (by omega)
theorem own_tnO {d : Nat} (h : d < 2147483648) : (Int32.ofNat d).toNatClampNeg = d := by
  have := own_tn (j := Int32.ofNat d) (by rw [own_ofN h]; omega)
  rw [own_ofN h] at this; omega
theorem own_ltO {d k : Nat} (h : d < 2147483648) (hk : k < 2147483648) : Int32.ofNat d < Int32.ofNat k ↔ d < k := by
  rw [Int32.lt_iff_toInt_lt, own_ofN h, own_ofN hk]; omega
theorem own_eqO {d k : Nat} (h : d < 2147483648) (hk : k < 2147483648) : Int32.ofNat d = Int32.ofNat k ↔ d = k := by
  rw [← Int32.toInt_inj, own_ofN h, own_ofN hk]; omega
theorem own_pred {d : Nat} (h1 : 1 ≤ d) : Int32.ofNat d - (1 : Int32) = Int32.ofNat (d - 1) := by
  have e : Int32.ofNat d = Int32.ofNat (d - 1) + (1 : Int32) := by
    rw [show (1 : Int32) = Int32.ofNat 1 from rfl, ← Int32.ofNat_add]; congr 1; omega
  rw [e, Int32.add_sub_cancel]
theorem own_addk (p k : Nat) : Int32.ofNat p + Int32.ofNat k = Int32.ofNat (p + k) := (Int32.ofNat_add p k).symm
theorem own_subk {p k : Nat} (h : k ≤ p) : Int32.ofNat p - Int32.ofNat k = Int32.ofNat (p - k) := by
  have e : Int32.ofNat p = Int32.ofNat (p - k) + Int32.ofNat k := by
    rw [own_addk]; congr 1; omega
  rw [e, Int32.add_sub_cancel]
theorem own_atI {xs : List Int32} {k : Nat} (h : k < xs.length) : (xs.map Value.int)[k]? = some (.int (xs.getD k 0)) := by simp [h]
theorem own_atJ {xs : List Int64} {k : Nat} (h : k < xs.length) : (xs.map Value.long)[k]? = some (.long (xs.getD k 0)) := by simp [h]
theorem own_toN {x : Int32} (h : 0 ≤ x.toInt) : x = Int32.ofNat x.toInt.toNat := by
  apply Int32.toInt_inj.mp
  have := x.toInt_lt
  rw [own_ofN (by omega)]; omega
theorem own_ni_0 {a : Addr} : a ∉ ([] : List Addr) := List.not_mem_nil
theorem own_ni_1 {a x : Addr} (h : a ≠ x) : a ∉ [x] := by simp [h]
theorem own_ni_2 {a x y : Addr} (h : a ≠ x) (h' : a ≠ y) : a ∉ [x, y] := by simp [h, h']
theorem own_ni_3 {a x y z : Addr} (h : a ≠ x) (h' : a ≠ y) (h'' : a ≠ z) : a ∉ [x, y, z] := by simp [h, h', h'']
theorem own_sub_0 {P : Addr → Prop} : ∀ x ∈ ([] : List Addr), P x := fun x h => absurd h List.not_mem_nil
theorem own_sub_1 {P : Addr → Prop} {a : Addr} (h : P a) : ∀ x ∈ [a], P x := fun x q => by
  obtain rfl : x = a := by simpa using q
  exact h
theorem own_rep {n j : Nat} {x : Int32} (h : j < n) : (List.replicate n x).getD j 0 = x := by simp [h]
theorem own_ni_4 {a x y z w : Addr} (h1 : a ≠ x) (h2 : a ≠ y) (h3 : a ≠ z) (h4 : a ≠ w) : a ∉ [x, y, z, w] := by simp [h1, h2, h3, h4]

/-- a byte, unsigned -/
def own_u (x : Int32) : Nat := (x &&& (255 : Int32)).toBitVec.toNat
theorem own_ub (x : Int32) : own_u x < 256 := by
  have h : (x &&& (255 : Int32)).toBitVec.toNat ≤ 255 := by
    simp only [Int32.toBitVec_and, BitVec.toNat_and]
    exact Nat.and_le_right
  unfold own_u; omega
theorem own_ue (x : Int32) : x &&& (255 : Int32) = Int32.ofNat (own_u x) := by
  apply Int32.toBitVec_inj.mp
  show _ = BitVec.ofNat 32 _
  rw [own_u, BitVec.ofNat_toNat]; simp
def own_f (xs : List Int32) (i : Nat) : Nat := own_u (xs.getD i 0)
theorem own_fb (xs : List Int32) (i : Nat) : own_f xs i < 256 := own_ub _
theorem own_fe (xs : List Int32) (i : Nat) : xs.getD i 0 &&& (255 : Int32) = Int32.ofNat (own_f xs i) := own_ue _
theorem own_m128' : ∀ n, n < 256 → ((Int32.ofNat n &&& (128 : Int32)) = (0 : Int32) ↔ n < 128) := by decide +kernel
theorem own_m224' : ∀ n, n < 256 → ((Int32.ofNat n &&& (224 : Int32)) = (192 : Int32) ↔ 192 ≤ n ∧ n < 224) := by decide +kernel
theorem own_m240' : ∀ n, n < 256 → ((Int32.ofNat n &&& (240 : Int32)) = (224 : Int32) ↔ 224 ≤ n ∧ n < 240) := by decide +kernel
theorem own_m248' : ∀ n, n < 256 → ((Int32.ofNat n &&& (248 : Int32)) = (240 : Int32) ↔ 240 ≤ n ∧ n < 248) := by decide +kernel
theorem own_m192' : ∀ n, n < 256 → ((Int32.ofNat n &&& (192 : Int32)) = (128 : Int32) ↔ 128 ≤ n ∧ n < 192) := by decide +kernel
theorem own_a31' : ∀ n, n < 256 → (Int32.ofNat n &&& (31 : Int32)) = Int32.ofNat (n % 32) := by decide +kernel
theorem own_a15' : ∀ n, n < 256 → (Int32.ofNat n &&& (15 : Int32)) = Int32.ofNat (n % 16) := by decide +kernel
theorem own_a7' : ∀ n, n < 256 → (Int32.ofNat n &&& (7 : Int32)) = Int32.ofNat (n % 8) := by decide +kernel
theorem own_a63' : ∀ n, n < 256 → (Int32.ofNat n &&& (63 : Int32)) = Int32.ofNat (n % 64) := by decide +kernel
theorem own_c192 (x : Int32) : x &&& (192 : Int32) = Int32.ofNat (own_u x) &&& (192 : Int32) := by
  rw [← own_ue, Int32.and_assoc, show ((255 : Int32) &&& (192 : Int32)) = (192 : Int32) by decide]
theorem own_shor {a b : Nat} (ha : a < 1048576) (hb : b < 64) : (Int32.ofNat a <<< ((6 : Int32) &&& 31)) ||| Int32.ofNat b = Int32.ofNat (a * 64 + b) := by
  apply Int32.toInt_inj.mp
  have h1 := c_ishl (Int32.ofNat a) (6 : Int32) 6 (by decide)
  have h2 := c_or (Int32.ofNat a <<< ((6 : Int32) &&& 31)) (Int32.ofNat b) 6 (by decide) 64 (by decide)
  have r1 := rng32 (Int32.ofNat a <<< ((6 : Int32) &&& 31))
  have r2 := rng32 ((Int32.ofNat a <<< ((6 : Int32) &&& 31)) ||| Int32.ofNat b)
  rw [own_ofN (by omega)] at h1
  rw [own_ofN (by omega)] at h2
  rw [own_ofN (by omega)]
  have h3 := h2 (by omega) (by omega) (by omega)
  omega
/-- how many bytes the character at hand has; 0: none that is right -/
def own_n (b0 b1 b2 b3 rem : Nat) : Nat :=
  if b0 < 128 then 1
  else if 194 ≤ b0 ∧ b0 ≤ 223 then (if 2 ≤ rem ∧ 128 ≤ b1 ∧ b1 ≤ 191 then 2 else 0)
  else if 224 ≤ b0 ∧ b0 ≤ 239 then (if 3 ≤ rem ∧ 128 ≤ b1 ∧ b1 ≤ 191 ∧ (b0 = 224 → 160 ≤ b1) ∧ (b0 = 237 → b1 ≤ 159) ∧ 128 ≤ b2 ∧ b2 ≤ 191 then 3 else 0)
  else if 240 ≤ b0 ∧ b0 ≤ 244 then (if 4 ≤ rem ∧ 128 ≤ b1 ∧ b1 ≤ 191 ∧ (b0 = 240 → 144 ≤ b1) ∧ (b0 = 244 → b1 ≤ 143) ∧ 128 ≤ b2 ∧ b2 ≤ 191 ∧ 128 ≤ b3 ∧ b3 ≤ 191 then 4 else 0)
  else 0
theorem own_n_le (b0 b1 b2 b3 rem : Nat) (h : 1 ≤ rem) : own_n b0 b1 b2 b3 rem ≤ rem := by
  unfold own_n; (repeat' split) <;> omega
def own_N (xs : List Int32) (e p : Nat) : Nat := own_n (own_f xs p) (own_f xs (p + 1)) (own_f xs (p + 2)) (own_f xs (p + 3)) (e - p)
def own_st (xs : List Int32) (e : Nat) : Option Nat → Option Nat
  | none => none
  | some p => if e ≤ p then some p else if own_N xs e p = 0 then none else some (p + own_N xs e p)
def own_enc : Option Nat → Int32
  | none => (-1 : Int32)
  | some p => Int32.ofNat p
def own_T (xs : List Int32) (e : Nat) : Nat → Nat → Bool
  | 0, _ => true
  | k + 1, p => if e ≤ p then true else if own_N xs e p = 0 then false else own_T xs e k (p + own_N xs e p)
def own_it (xs : List Int32) (e : Nat) : Nat → Option Nat → Option Nat
  | 0, o => o
  | k + 1, o => own_it xs e k (own_st xs e o)
theorem own_Nle {xs : List Int32} {e p : Nat} (h : p < e) : own_N xs e p ≤ e - p := own_n_le _ _ _ _ _ (by omega)
theorem own_T_fuel (xs : List Int32) (e : Nat) : ∀ (k k' p : Nat), e - p ≤ k → e - p ≤ k' → own_T xs e k p = own_T xs e k' p := by
  intro k
  induction k with
  | zero =>
    intro k' p h h'
    have hp : e ≤ p := by omega
    cases k' with
    | zero => rfl
    | succ k' => simp [own_T, hp]
  | succ k ih =>
    intro k' p h h'
    by_cases hp : e ≤ p
    · cases k' with
      | zero => simp [own_T, hp]
      | succ k' => simp [own_T, hp]
    · cases k' with
      | zero => omega
      | succ k' =>
        simp only [own_T, hp, if_false]
        by_cases hn : own_N xs e p = 0
        · simp [hn]
        · simp only [hn, if_false]
          exact ih k' _ (by omega) (by omega)
theorem own_it_none (xs : List Int32) (e : Nat) : ∀ k, own_it xs e k none = none := by
  intro k
  induction k with
  | zero => rfl
  | succ k ih => exact ih
theorem own_it_end (xs : List Int32) (e : Nat) : ∀ k, own_it xs e k (some e) = some e := by
  intro k
  induction k with
  | zero => rfl
  | succ k ih => simp only [own_it, own_st, Nat.le_refl, if_true]; exact ih
theorem own_it_T (xs : List Int32) (e : Nat) : ∀ (k p : Nat), e - p ≤ k → p ≤ e → own_it xs e k (some p) = if own_T xs e k p then some e else none := by
  intro k
  induction k with
  | zero =>
    intro p h hp
    have : p = e := by omega
    subst this; rfl
  | succ k ih =>
    intro p h hp
    by_cases hq : e ≤ p
    · have : p = e := by omega
      subst this
      rw [own_it_end]; simp [own_T]
    · simp only [own_it, own_st, own_T, hq, if_false]
      by_cases hn : own_N xs e p = 0
      · simp only [hn, if_true]; rw [own_it_none]; rfl
      · simp only [hn, if_false]
        have := own_Nle (xs := xs) (e := e) (p := p) (by omega)
        exact ih _ (by omega) (by omega)
theorem own_st_le {xs : List Int32} {e : Nat} {o : Option Nat} (h : ∀ p, o = some p → p ≤ e) : ∀ p, own_st xs e o = some p → p ≤ e := by
  intro p hp
  cases o with
  | none => simp [own_st] at hp
  | some q =>
    have hq := h q rfl
    simp only [own_st] at hp
    split at hp
    · cases hp; exact hq
    · split at hp
      · cases hp
      · have := own_Nle (xs := xs) (e := e) (p := q) (by omega)
        cases hp; omega
theorem own_st_ok {xs : List Int32} {e p N : Nat} (hpe : p < e) (hn : own_N xs e p = N) (h0 : N ≠ 0) : own_enc (own_st xs e (some p)) = Int32.ofNat p + Int32.ofNat N := by
  have h1 : ¬ e ≤ p := by omega
  rw [own_addk]
  simp [own_st, h1, hn, h0, own_enc]
theorem own_st_bad {xs : List Int32} {e p : Nat} (hpe : p < e) (hn : own_N xs e p = 0) : own_enc (own_st xs e (some p)) = (-1 : Int32) := by
  have h1 : ¬ e ≤ p := by omega
  simp [own_st, h1, hn, own_enc]
theorem own_enc_inj {o : Option Nat} {e : Nat} (ho : ∀ p, o = some p → p ≤ 8) (he : e ≤ 8) : own_enc o = Int32.ofNat e ↔ o = some e := by
  cases o with
  | none =>
    simp only [own_enc]
    constructor
    · intro q
      have := congrArg Int32.toInt q
      rw [own_ofN (by omega)] at this
      exact absurd this (by have : (-1 : Int32).toInt = -1 := by decide
                            omega)
    · intro q; cases q
  | some p =>
    have := ho p rfl
    simp only [own_enc, own_eqO (show p < 2147483648 by omega) (show e < 2147483648 by omega), Option.some.injEq]
theorem own_start (x : Int32) (m : Int32) (d : Nat) (hm : m.toInt = d) (hd : 0 < d) : ∃ n : Nat, n < d ∧ ((x &&& (2147483647 : Int32)) - ((x &&& (2147483647 : Int32)) / m) * m) = Int32.ofNat n := by
  have h1 := c_mask x (2147483647 : Int32) 31 (by decide) (by decide)
  rw [irem_eq_mod]
  have h2 := (c_irem (x &&& (2147483647 : Int32)) m d hm).1 (by omega)
  have h3 : 0 ≤ ((x &&& (2147483647 : Int32)) % m).toInt ∧ ((x &&& (2147483647 : Int32)) % m).toInt < d := by
    rw [h2]; exact ⟨Int.emod_nonneg _ (by omega), Int.emod_lt_of_pos _ (by omega)⟩
  exact ⟨_, by omega, own_toN h3.1⟩

theorem own_stop {xs : List Int32} {e8 : Nat} {o : Option Nat} {pp : Int32} (ho : ∀ p, o = some p → p ≤ e8) (he : e8 ≤ 8) (hpp : pp = own_enc o) (h : pp < (0 : Int32) ∨ ¬ pp < Int32.ofNat e8) : pp = own_enc (own_st xs e8 o) := by
  cases o with
  | none => rw [hpp]; rfl
  | some q =>
    have hq := ho q rfl
    subst hpp
    have h' : e8 ≤ q := by
      rcases h with h | h
      · exact absurd h (own_neg (by simp only [own_enc]; rw [own_ofN (by omega)]; omega))
      · simp only [own_enc, own_ltO (show q < 2147483648 by omega) (show e8 < 2147483648 by omega)] at h; omega
    simp [own_st, h', own_enc]

theorem own_T_step {xs : List Int32} {e8 q N : Nat} (hq : q < e8) (he : e8 ≤ 8) (hn : own_N xs e8 q = N) (h0 : N ≠ 0) : own_T xs e8 8 q = own_T xs e8 8 (q + N) := by
  have h1 : ¬ e8 ≤ q := by omega
  rw [show own_T xs e8 8 q = own_T xs e8 7 (q + N) by simp [own_T, h1, hn, h0]]
  exact own_T_fuel xs e8 7 8 _ (by omega) (by omega)
theorem own_T_bad {xs : List Int32} {e8 q : Nat} (hq : q < e8) (hn : own_N xs e8 q = 0) : own_T xs e8 8 q = false := by
  have h1 : ¬ e8 ≤ q := by omega
  simp [own_T, h1, hn]
theorem own_T_end {xs : List Int32} {e8 q : Nat} (hq : e8 ≤ q) : own_T xs e8 8 q = true := by simp [own_T, hq]

theorem own_fin {xs : List Int32} {e8 q0 : Nat} (hq : q0 ≤ e8) (he : e8 ≤ 8) (ho : ∀ p, own_it xs e8 8 (some q0) = some p → p ≤ e8) : (if own_T xs e8 8 q0 then (1 : Int32) else 0) = if own_enc (own_it xs e8 8 (some q0)) = Int32.ofNat e8 then (1 : Int32) else (0 : Int32) := by
  have hiff := own_enc_inj (o := own_it xs e8 8 (some q0)) (e := e8) (fun p z => Nat.le_trans (ho p z) he) he
  have hT := own_it_T xs e8 8 q0 (by omega) hq
  cases hz : own_T xs e8 8 q0 with
  | true =>
    have e1 : own_it xs e8 8 (some q0) = some e8 := by rw [hT, hz]; rfl
    rw [if_pos rfl, if_pos (hiff.mpr e1)]
  | false =>
    have e1 : own_it xs e8 8 (some q0) = none := by rw [hT, hz]; rfl
    rw [if_neg (by decide), if_neg (fun z => by have q := hiff.mp z; rw [e1] at q; cases q)]

theorem own_ef_own_rm_step (m : MethodId) (x0 : Addr) (x1 : Int32) (x2 : Int32) : entryFrame m #[(.ref x0), (.int x1), (.int x2)] 8 = mkF m 0 #[.val (.ref x0), .val (.int x1), .val (.int x2), .unset, .unset, .unset, .unset, .unset] [] := by first | (simp [entryFrame, mkF, argsToLocals, Value.category]; done) | rfl
set_option maxRecDepth 65536 in
set_option maxHeartbeats 40000000 in
theorem own_rm_step (l : Launch) (Z : State) (a0 : Array Value) (hw : ∀ d ∈ tables_1, d.before a0 Z = true) (ws : List Jvm.Cond) (b : Addr) (pp : Int32) (h0 : Heap) (n0 : Nat) (Z0 : n0 ≤ h0.size) (xs : List Int32) (hxl : xs.length = 8) (V : own_V Z h0 b .byte (xs.map Value.int)) (e8 : Nat) (he8 : e8 ≤ 8) (o : Option Nat) (ho : ∀ p, o = some p → p ≤ e8) (hpp : pp = own_enc o) :
    MetFree l (⟨"com/example/ansehen/ansehen/util/Utf8IsTextPinLaw", "step", "([BII)I"⟩ : MethodName) (head1 (Jvm.Cond.code (⟨"com/example/ansehen/ansehen/util/Utf8IsTextPinLaw", "step", "([BII)I"⟩ : MethodName) method_3_code 8 (some .int) :: ws) ({ frames := 0, cells := 0, slots := 0, locals := 0 } : Room)) (fun aq Uq => aq = #[(.ref b), (.int pp), (.int (Int32.ofNat e8))] ∧ Z.Warmed39 Uq.vm ∧ Uq.heap = h0) (fun _ _ _ _ _ => True) (fun _ Uq oq Uq' => ∃ vq Lq, oq = .returned vq ∧ (own_Qp (some (.int (own_enc (own_st xs e8 o)))) h0 n0) vq Uq'.heap Lq ∧ FrameEnd Uq oq Uq' Lq ({ frames := 0, cells := 0, slots := 0, locals := 0 } : Room).cells ({ frames := 0, cells := 0, slots := 0, locals := 0 } : Room).slots) := by
  refine MetFree.of_bodySF (plainFor_of_name own_pn0) hisR ?_
  intro p e s m args below meth c s₁ Bd hml0 hP hK
  obtain ⟨rfl, hZ, hh⟩ := hP
  have hx := Bd.exec
  have hby := Bd.bytes
  have hml : c.maxLocals = 8 := hml0
  have hown : s.vm.findClass "com/example/ansehen/ansehen/util/Utf8IsTextPinLaw" = some m.cls := findClass_of_methodNamed Bd.named
  have hnm := (name_of_methodNamed Bd.named Bd.method).1
  have X0 : Stand p l e ({ frames := 0, cells := 0, slots := 0, locals := 0 } : Room) s m #[(.ref b), (.int pp), (.int (Int32.ofNat e8))] below meth c s₁ [] 0 0 := Stand.of_body Bd
  have e0 : s₁.heap = h0 := by rw [← hh, Bd.state]; rfl
  have N0 := Fr.nil n0
  have hlk : meth.locks = false := by first | exact BodyLoose.notSynchronized Bd | exact Body.notSynchronized Bd
  obtain ⟨G, hG⟩ : ∃ G : State → Prop, G = own_G p e below s ({ frames := 0, cells := 0, slots := 0, locals := 0 } : Room).cells ({ frames := 0, cells := 0, slots := 0, locals := 0 } : Room).slots ((own_Qp (some (.int (own_enc (own_st xs e8 o)))) h0 n0)) := ⟨_, rfl⟩
  have go : ∀ {S S' : State}, (∀ t, Steps p.tables e below S' t → Steps p.tables e below S t) → G S' → G S := by rw [hG]; exact own_to
  suffices hs : G (s₁.setTop (mkF m 0 #[.val (.ref b), .val (.int pp), .val (.int (Int32.ofNat e8)), .unset, .unset, .unset, .unset, .unset] [])) by
    rw [hG] at hs
    exact own_to (fun _ kont => castTop (own_ef_own_rm_step m b pp (Int32.ofNat e8)) kont) hs
  obtain ⟨cl, Ar, Sl, Ml⟩ := id V
  refine go (fun _ kont => XS.iloadN X0.here hx rfl (hb hby d_method_3_0) rfl  kont) ?_
  show G (s₁.setTop (mkF m 1 #[.val (.ref b), .val (.int pp), .val (.int (Int32.ofNat e8)), .unset, .unset, .unset, .unset, .unset] [(.int pp)]))
  by_cases hc1 : pp < (0 : Int32)
  · refine go (fun _ kont => XS.ifYes X0.here hx rfl (pc0 := 1) (pc' := 9) rfl (hb hby d_method_3_1) rfl ((if0 _ _).trans (tlt hc1).1) (by decide) (by decide) kont) ?_
    show G (s₁.setTop (mkF m 9 #[.val (.ref b), .val (.int pp), .val (.int (Int32.ofNat e8)), .unset, .unset, .unset, .unset, .unset] []))
    refine go (fun _ kont => XS.iloadN X0.here hx rfl (hb hby d_method_3_9) rfl  kont) ?_
    show G (s₁.setTop (mkF m 10 #[.val (.ref b), .val (.int pp), .val (.int (Int32.ofNat e8)), .unset, .unset, .unset, .unset, .unset] [(.int pp)]))
    rw [hG]
    exact own_retI X0 hx Bd.returns (hb hby d_method_3_10) hlk (by decide) (by decide) ⟨by congr 2; exact own_stop ho he8 hpp (by first | exact Or.inl hc1 | exact Or.inr hc6), N0, e0⟩
  · refine go (fun _ kont => XS.ifNo X0.here hx rfl (hb hby d_method_3_1) rfl ((if0 _ _).trans (flt hc1).1) kont) ?_
    show G (s₁.setTop (mkF m 4 #[.val (.ref b), .val (.int pp), .val (.int (Int32.ofNat e8)), .unset, .unset, .unset, .unset, .unset] []))
    refine go (fun _ kont => XS.iloadN X0.here hx rfl (hb hby d_method_3_4) rfl  kont) ?_
    show G (s₁.setTop (mkF m 5 #[.val (.ref b), .val (.int pp), .val (.int (Int32.ofNat e8)), .unset, .unset, .unset, .unset, .unset] [(.int pp)]))
    refine go (fun _ kont => XS.iloadN X0.here hx rfl (hb hby d_method_3_5) rfl  kont) ?_
    show G (s₁.setTop (mkF m 6 #[.val (.ref b), .val (.int pp), .val (.int (Int32.ofNat e8)), .unset, .unset, .unset, .unset, .unset] [(.int (Int32.ofNat e8)), (.int pp)]))
    by_cases hc6 : pp < (Int32.ofNat e8)
    · refine go (fun _ kont => XS.icmpYes X0.here hx rfl (pc0 := 6) (pc' := 11) rfl (hb hby d_method_3_6) rfl (tlt hc6).1 (by decide) (by decide) kont) ?_
      show G (s₁.setTop (mkF m 11 #[.val (.ref b), .val (.int pp), .val (.int (Int32.ofNat e8)), .unset, .unset, .unset, .unset, .unset] []))
      obtain ⟨q, rfl⟩ : ∃ q, o = some q := by
        cases o with
        | none => exact absurd (show own_enc none < (0 : Int32) by decide) (by rw [← hpp]; exact hc1)
        | some q => exact ⟨q, rfl⟩
      have hq := ho q rfl
      subst hpp
      have hc6' : q < e8 := (own_ltO (by omega) (by omega)).mp hc6
      have hb0 := own_fb xs q
      have hb1 := own_fb xs (q + 1)
      have hb2 := own_fb xs (q + 2)
      have hb3 := own_fb xs (q + 3)
      show G (s₁.setTop (mkF m 11 #[.val (.ref b), .val (.int (Int32.ofNat q)), .val (.int (Int32.ofNat e8)), .unset, .unset, .unset, .unset, .unset] []))
      refine go (fun _ kont => XS.aloadN X0.here hx rfl (hb hby d_method_3_11) rfl rfl kont) ?_
      show G (s₁.setTop (mkF m 12 #[.val (.ref b), .val (.int (Int32.ofNat q)), .val (.int (Int32.ofNat e8)), .unset, .unset, .unset, .unset, .unset] [(.ref b)]))
      refine go (fun _ kont => XS.iloadN X0.here hx rfl (hb hby d_method_3_12) rfl  kont) ?_
      show G (s₁.setTop (mkF m 13 #[.val (.ref b), .val (.int (Int32.ofNat q)), .val (.int (Int32.ofNat e8)), .unset, .unset, .unset, .unset, .unset] [(.int (Int32.ofNat q)), (.ref b)]))
      refine go (fun _ kont => X0.baloadBytes hx (j := (Int32.ofNat q)) (v := (.int (xs.getD (q) 0))) (by rw [e0]; exact Ar.1) (State.isArrayOf_alike hZ.alike Ar.2.1) Ar.2.2 (own_hink Sl (own_neg (by rw [own_ofN (by omega)]; omega)) (own_tnO (by omega)) (k := q) (by rw [List.length_map]; omega)) (own_hatk Sl (own_tnO (by omega)) (own_atI (k := q) (by omega))) (g := (mkF m 13 #[.val (.ref b), .val (.int (Int32.ofNat q)), .val (.int (Int32.ofNat e8)), .unset, .unset, .unset, .unset, .unset] [(.int (Int32.ofNat q)), (.ref b)])) rfl rfl (hb hby d_method_3_13) _ kont) ?_
      show G (s₁.setTop (mkF m 14 #[.val (.ref b), .val (.int (Int32.ofNat q)), .val (.int (Int32.ofNat e8)), .unset, .unset, .unset, .unset, .unset] [(.int (xs.getD (q) 0))]))
      refine go (fun _ kont => XS.sipush X0.here hx rfl (hb hby d_method_3_14) kont) ?_
      show G (s₁.setTop (mkF m 17 #[.val (.ref b), .val (.int (Int32.ofNat q)), .val (.int (Int32.ofNat e8)), .unset, .unset, .unset, .unset, .unset] [(.int (255 : Int32)), (.int (xs.getD (q) 0))]))
      refine go (fun _ kont => XS.iand X0.here hx rfl (hb hby d_method_3_17) rfl kont) ?_
      show G (s₁.setTop (mkF m 18 #[.val (.ref b), .val (.int (Int32.ofNat q)), .val (.int (Int32.ofNat e8)), .unset, .unset, .unset, .unset, .unset] [(.int ((xs.getD (q) 0) &&& (255 : Int32)))]))
      rw [own_fe xs (q)]
      show G (s₁.setTop (mkF m 18 #[.val (.ref b), .val (.int (Int32.ofNat q)), .val (.int (Int32.ofNat e8)), .unset, .unset, .unset, .unset, .unset] [(.int (Int32.ofNat (own_f xs (q))))]))
      refine go (fun _ kont => XS.istoreN X0.here hx rfl (hb hby d_method_3_18) rfl (l' := #[.val (.ref b), .val (.int (Int32.ofNat q)), .val (.int (Int32.ofNat e8)), .val (.int (Int32.ofNat (own_f xs (q)))), .unset, .unset, .unset, .unset]) rfl kont) ?_
      show G (s₁.setTop (mkF m 19 #[.val (.ref b), .val (.int (Int32.ofNat q)), .val (.int (Int32.ofNat e8)), .val (.int (Int32.ofNat (own_f xs (q)))), .unset, .unset, .unset, .unset] []))
      refine go (fun _ kont => XS.iloadN X0.here hx rfl (hb hby d_method_3_19) rfl  kont) ?_
      show G (s₁.setTop (mkF m 20 #[.val (.ref b), .val (.int (Int32.ofNat q)), .val (.int (Int32.ofNat e8)), .val (.int (Int32.ofNat (own_f xs (q)))), .unset, .unset, .unset, .unset] [(.int (Int32.ofNat (own_f xs (q))))]))
      refine go (fun _ kont => XS.sipush X0.here hx rfl (hb hby d_method_3_20) kont) ?_
      show G (s₁.setTop (mkF m 23 #[.val (.ref b), .val (.int (Int32.ofNat q)), .val (.int (Int32.ofNat e8)), .val (.int (Int32.ofNat (own_f xs (q)))), .unset, .unset, .unset, .unset] [(.int (128 : Int32)), (.int (Int32.ofNat (own_f xs (q))))]))
      refine go (fun _ kont => XS.iand X0.here hx rfl (hb hby d_method_3_23) rfl kont) ?_
      show G (s₁.setTop (mkF m 24 #[.val (.ref b), .val (.int (Int32.ofNat q)), .val (.int (Int32.ofNat e8)), .val (.int (Int32.ofNat (own_f xs (q)))), .unset, .unset, .unset, .unset] [(.int ((Int32.ofNat (own_f xs (q))) &&& (128 : Int32)))]))
      by_cases hc24 : ((Int32.ofNat (own_f xs (q))) &&& (128 : Int32)) = (0 : Int32)
      · refine go (fun _ kont => XS.ifNo X0.here hx rfl (hb hby d_method_3_24) rfl ((if0 _ _).trans (teq hc24).2) kont) ?_
        show G (s₁.setTop (mkF m 27 #[.val (.ref b), .val (.int (Int32.ofNat q)), .val (.int (Int32.ofNat e8)), .val (.int (Int32.ofNat (own_f xs (q)))), .unset, .unset, .unset, .unset] []))
        rw [own_m128' _ hb0] at hc24
        refine go (fun _ kont => XS.iloadN X0.here hx rfl (hb hby d_method_3_27) rfl  kont) ?_
        show G (s₁.setTop (mkF m 28 #[.val (.ref b), .val (.int (Int32.ofNat q)), .val (.int (Int32.ofNat e8)), .val (.int (Int32.ofNat (own_f xs (q)))), .unset, .unset, .unset, .unset] [(.int (Int32.ofNat q))]))
        refine go (fun _ kont => XS.iconst X0.here hx rfl (hb hby d_method_3_28) kont) ?_
        show G (s₁.setTop (mkF m 29 #[.val (.ref b), .val (.int (Int32.ofNat q)), .val (.int (Int32.ofNat e8)), .val (.int (Int32.ofNat (own_f xs (q)))), .unset, .unset, .unset, .unset] [(.int (1 : Int32)), (.int (Int32.ofNat q))]))
        refine go (fun _ kont => XS.iadd X0.here hx rfl (hb hby d_method_3_29) rfl kont) ?_
        show G (s₁.setTop (mkF m 30 #[.val (.ref b), .val (.int (Int32.ofNat q)), .val (.int (Int32.ofNat e8)), .val (.int (Int32.ofNat (own_f xs (q)))), .unset, .unset, .unset, .unset] [(.int ((Int32.ofNat q) + (1 : Int32)))]))
        rw [hG]
        exact own_retI X0 hx Bd.returns (hb hby d_method_3_30) hlk (by decide) (by decide) ⟨by congr 2; exact (own_st_ok (N := 1) hc6' (by unfold own_N own_n; (repeat' split) <;> omega) (by decide)).symm, N0, e0⟩
      · refine go (fun _ kont => XS.ifYes X0.here hx rfl (pc0 := 24) (pc' := 31) rfl (hb hby d_method_3_24) rfl ((if0 _ _).trans (feq hc24).2) (by decide) (by decide) kont) ?_
        show G (s₁.setTop (mkF m 31 #[.val (.ref b), .val (.int (Int32.ofNat q)), .val (.int (Int32.ofNat e8)), .val (.int (Int32.ofNat (own_f xs (q)))), .unset, .unset, .unset, .unset] []))
        rw [own_m128' _ hb0] at hc24
        refine go (fun _ kont => XS.iloadN X0.here hx rfl (hb hby d_method_3_31) rfl  kont) ?_
        show G (s₁.setTop (mkF m 32 #[.val (.ref b), .val (.int (Int32.ofNat q)), .val (.int (Int32.ofNat e8)), .val (.int (Int32.ofNat (own_f xs (q)))), .unset, .unset, .unset, .unset] [(.int (Int32.ofNat (own_f xs (q))))]))
        refine go (fun _ kont => XS.sipush X0.here hx rfl (hb hby d_method_3_32) kont) ?_
        show G (s₁.setTop (mkF m 35 #[.val (.ref b), .val (.int (Int32.ofNat q)), .val (.int (Int32.ofNat e8)), .val (.int (Int32.ofNat (own_f xs (q)))), .unset, .unset, .unset, .unset] [(.int (224 : Int32)), (.int (Int32.ofNat (own_f xs (q))))]))
        refine go (fun _ kont => XS.iand X0.here hx rfl (hb hby d_method_3_35) rfl kont) ?_
        show G (s₁.setTop (mkF m 36 #[.val (.ref b), .val (.int (Int32.ofNat q)), .val (.int (Int32.ofNat e8)), .val (.int (Int32.ofNat (own_f xs (q)))), .unset, .unset, .unset, .unset] [(.int ((Int32.ofNat (own_f xs (q))) &&& (224 : Int32)))]))
        refine go (fun _ kont => XS.sipush X0.here hx rfl (hb hby d_method_3_36) kont) ?_
        show G (s₁.setTop (mkF m 39 #[.val (.ref b), .val (.int (Int32.ofNat q)), .val (.int (Int32.ofNat e8)), .val (.int (Int32.ofNat (own_f xs (q)))), .unset, .unset, .unset, .unset] [(.int (192 : Int32)), (.int ((Int32.ofNat (own_f xs (q))) &&& (224 : Int32)))]))
        by_cases hc39 : ((Int32.ofNat (own_f xs (q))) &&& (224 : Int32)) = (192 : Int32)
        · refine go (fun _ kont => XS.icmpNo X0.here hx rfl (hb hby d_method_3_39) rfl (teq hc39).2 kont) ?_
          show G (s₁.setTop (mkF m 42 #[.val (.ref b), .val (.int (Int32.ofNat q)), .val (.int (Int32.ofNat e8)), .val (.int (Int32.ofNat (own_f xs (q)))), .unset, .unset, .unset, .unset] []))
          rw [own_m224' _ hb0] at hc39
          refine go (fun _ kont => XS.iconst X0.here hx rfl (hb hby d_method_3_42) kont) ?_
          show G (s₁.setTop (mkF m 43 #[.val (.ref b), .val (.int (Int32.ofNat q)), .val (.int (Int32.ofNat e8)), .val (.int (Int32.ofNat (own_f xs (q)))), .unset, .unset, .unset, .unset] [(.int (2 : Int32))]))
          refine go (fun _ kont => XS.istore X0.here hx rfl (hb hby d_method_3_43) rfl (l' := #[.val (.ref b), .val (.int (Int32.ofNat q)), .val (.int (Int32.ofNat e8)), .val (.int (Int32.ofNat (own_f xs (q)))), .val (.int (2 : Int32)), .unset, .unset, .unset]) rfl kont) ?_
          show G (s₁.setTop (mkF m 45 #[.val (.ref b), .val (.int (Int32.ofNat q)), .val (.int (Int32.ofNat e8)), .val (.int (Int32.ofNat (own_f xs (q)))), .val (.int (2 : Int32)), .unset, .unset, .unset] []))
          refine go (fun _ kont => XS.iloadN X0.here hx rfl (hb hby d_method_3_45) rfl  kont) ?_
          show G (s₁.setTop (mkF m 46 #[.val (.ref b), .val (.int (Int32.ofNat q)), .val (.int (Int32.ofNat e8)), .val (.int (Int32.ofNat (own_f xs (q)))), .val (.int (2 : Int32)), .unset, .unset, .unset] [(.int (Int32.ofNat (own_f xs (q))))]))
          refine go (fun _ kont => XS.bipush X0.here hx rfl (hb hby d_method_3_46) kont) ?_
          show G (s₁.setTop (mkF m 48 #[.val (.ref b), .val (.int (Int32.ofNat q)), .val (.int (Int32.ofNat e8)), .val (.int (Int32.ofNat (own_f xs (q)))), .val (.int (2 : Int32)), .unset, .unset, .unset] [(.int (31 : Int32)), (.int (Int32.ofNat (own_f xs (q))))]))
          refine go (fun _ kont => XS.iand X0.here hx rfl (hb hby d_method_3_48) rfl kont) ?_
          show G (s₁.setTop (mkF m 49 #[.val (.ref b), .val (.int (Int32.ofNat q)), .val (.int (Int32.ofNat e8)), .val (.int (Int32.ofNat (own_f xs (q)))), .val (.int (2 : Int32)), .unset, .unset, .unset] [(.int ((Int32.ofNat (own_f xs (q))) &&& (31 : Int32)))]))
          rw [own_a31' _ (own_fb xs (q))]
          show G (s₁.setTop (mkF m 49 #[.val (.ref b), .val (.int (Int32.ofNat q)), .val (.int (Int32.ofNat e8)), .val (.int (Int32.ofNat (own_f xs (q)))), .val (.int (2 : Int32)), .unset, .unset, .unset] [(.int (Int32.ofNat (own_f xs (q) % 32)))]))
          refine go (fun _ kont => XS.istore X0.here hx rfl (hb hby d_method_3_49) rfl (l' := #[.val (.ref b), .val (.int (Int32.ofNat q)), .val (.int (Int32.ofNat e8)), .val (.int (Int32.ofNat (own_f xs (q)))), .val (.int (2 : Int32)), .val (.int (Int32.ofNat (own_f xs (q) % 32))), .unset, .unset]) rfl kont) ?_
          show G (s₁.setTop (mkF m 51 #[.val (.ref b), .val (.int (Int32.ofNat q)), .val (.int (Int32.ofNat e8)), .val (.int (Int32.ofNat (own_f xs (q)))), .val (.int (2 : Int32)), .val (.int (Int32.ofNat (own_f xs (q) % 32))), .unset, .unset] []))
          refine go (fun _ kont => XS.goto X0.here hx rfl (pc0 := 51) (pc' := 102) rfl (hb hby d_method_3_51) (by decide) (by decide) kont) ?_
          show G (s₁.setTop (mkF m 102 #[.val (.ref b), .val (.int (Int32.ofNat q)), .val (.int (Int32.ofNat e8)), .val (.int (Int32.ofNat (own_f xs (q)))), .val (.int (2 : Int32)), .val (.int (Int32.ofNat (own_f xs (q) % 32))), .unset, .unset] []))
          refine go (fun _ kont => XS.iloadN X0.here hx rfl (hb hby d_method_3_102) rfl  kont) ?_
          show G (s₁.setTop (mkF m 103 #[.val (.ref b), .val (.int (Int32.ofNat q)), .val (.int (Int32.ofNat e8)), .val (.int (Int32.ofNat (own_f xs (q)))), .val (.int (2 : Int32)), .val (.int (Int32.ofNat (own_f xs (q) % 32))), .unset, .unset] [(.int (Int32.ofNat q))]))
          refine go (fun _ kont => XS.iload X0.here hx rfl (hb hby d_method_3_103) rfl  kont) ?_
          show G (s₁.setTop (mkF m 105 #[.val (.ref b), .val (.int (Int32.ofNat q)), .val (.int (Int32.ofNat e8)), .val (.int (Int32.ofNat (own_f xs (q)))), .val (.int (2 : Int32)), .val (.int (Int32.ofNat (own_f xs (q) % 32))), .unset, .unset] [(.int (2 : Int32)), (.int (Int32.ofNat q))]))
          refine go (fun _ kont => XS.iadd X0.here hx rfl (hb hby d_method_3_105) rfl kont) ?_
          show G (s₁.setTop (mkF m 106 #[.val (.ref b), .val (.int (Int32.ofNat q)), .val (.int (Int32.ofNat e8)), .val (.int (Int32.ofNat (own_f xs (q)))), .val (.int (2 : Int32)), .val (.int (Int32.ofNat (own_f xs (q) % 32))), .unset, .unset] [(.int ((Int32.ofNat q) + (2 : Int32)))]))
          refine go (fun _ kont => XS.iloadN X0.here hx rfl (hb hby d_method_3_106) rfl  kont) ?_
          show G (s₁.setTop (mkF m 107 #[.val (.ref b), .val (.int (Int32.ofNat q)), .val (.int (Int32.ofNat e8)), .val (.int (Int32.ofNat (own_f xs (q)))), .val (.int (2 : Int32)), .val (.int (Int32.ofNat (own_f xs (q) % 32))), .unset, .unset] [(.int (Int32.ofNat e8)), (.int ((Int32.ofNat q) + (2 : Int32)))]))
          by_cases hc107 : (Int32.ofNat e8) < ((Int32.ofNat q) + (2 : Int32))
          · refine go (fun _ kont => XS.icmpNo X0.here hx rfl (hb hby d_method_3_107) rfl (tlt hc107).2.2.2 kont) ?_
            show G (s₁.setTop (mkF m 110 #[.val (.ref b), .val (.int (Int32.ofNat q)), .val (.int (Int32.ofNat e8)), .val (.int (Int32.ofNat (own_f xs (q)))), .val (.int (2 : Int32)), .val (.int (Int32.ofNat (own_f xs (q) % 32))), .unset, .unset] []))
            rw [show Int32.ofNat q + (2 : Int32) = Int32.ofNat (q + 2) from own_addk q 2, own_ltO (by omega) (by omega)] at hc107
            refine go (fun _ kont => XS.iconst X0.here hx rfl (hb hby d_method_3_110) kont) ?_
            show G (s₁.setTop (mkF m 111 #[.val (.ref b), .val (.int (Int32.ofNat q)), .val (.int (Int32.ofNat e8)), .val (.int (Int32.ofNat (own_f xs (q)))), .val (.int (2 : Int32)), .val (.int (Int32.ofNat (own_f xs (q) % 32))), .unset, .unset] [(.int (-1 : Int32))]))
            rw [hG]
            exact own_retI X0 hx Bd.returns (hb hby d_method_3_111) hlk (by decide) (by decide) ⟨by congr 2; exact (own_st_bad hc6' (by unfold own_N own_n; (repeat' split) <;> omega)).symm, N0, e0⟩
          · refine go (fun _ kont => XS.icmpYes X0.here hx rfl (pc0 := 107) (pc' := 112) rfl (hb hby d_method_3_107) rfl (flt hc107).2.2.2 (by decide) (by decide) kont) ?_
            show G (s₁.setTop (mkF m 112 #[.val (.ref b), .val (.int (Int32.ofNat q)), .val (.int (Int32.ofNat e8)), .val (.int (Int32.ofNat (own_f xs (q)))), .val (.int (2 : Int32)), .val (.int (Int32.ofNat (own_f xs (q) % 32))), .unset, .unset] []))
            rw [show Int32.ofNat q + (2 : Int32) = Int32.ofNat (q + 2) from own_addk q 2, own_ltO (by omega) (by omega)] at hc107
            refine go (fun _ kont => XS.aloadN X0.here hx rfl (hb hby d_method_3_112) rfl rfl kont) ?_
            show G (s₁.setTop (mkF m 113 #[.val (.ref b), .val (.int (Int32.ofNat q)), .val (.int (Int32.ofNat e8)), .val (.int (Int32.ofNat (own_f xs (q)))), .val (.int (2 : Int32)), .val (.int (Int32.ofNat (own_f xs (q) % 32))), .unset, .unset] [(.ref b)]))
            refine go (fun _ kont => XS.iloadN X0.here hx rfl (hb hby d_method_3_113) rfl  kont) ?_
            show G (s₁.setTop (mkF m 114 #[.val (.ref b), .val (.int (Int32.ofNat q)), .val (.int (Int32.ofNat e8)), .val (.int (Int32.ofNat (own_f xs (q)))), .val (.int (2 : Int32)), .val (.int (Int32.ofNat (own_f xs (q) % 32))), .unset, .unset] [(.int (Int32.ofNat q)), (.ref b)]))
            refine go (fun _ kont => XS.iconst X0.here hx rfl (hb hby d_method_3_114) kont) ?_
            show G (s₁.setTop (mkF m 115 #[.val (.ref b), .val (.int (Int32.ofNat q)), .val (.int (Int32.ofNat e8)), .val (.int (Int32.ofNat (own_f xs (q)))), .val (.int (2 : Int32)), .val (.int (Int32.ofNat (own_f xs (q) % 32))), .unset, .unset] [(.int (1 : Int32)), (.int (Int32.ofNat q)), (.ref b)]))
            refine go (fun _ kont => XS.iadd X0.here hx rfl (hb hby d_method_3_115) rfl kont) ?_
            show G (s₁.setTop (mkF m 116 #[.val (.ref b), .val (.int (Int32.ofNat q)), .val (.int (Int32.ofNat e8)), .val (.int (Int32.ofNat (own_f xs (q)))), .val (.int (2 : Int32)), .val (.int (Int32.ofNat (own_f xs (q) % 32))), .unset, .unset] [(.int ((Int32.ofNat q) + (1 : Int32))), (.ref b)]))
            rw [show Int32.ofNat q + (1 : Int32) = Int32.ofNat (q + 1) from own_addk q 1]
            show G (s₁.setTop (mkF m 116 #[.val (.ref b), .val (.int (Int32.ofNat q)), .val (.int (Int32.ofNat e8)), .val (.int (Int32.ofNat (own_f xs (q)))), .val (.int (2 : Int32)), .val (.int (Int32.ofNat (own_f xs (q) % 32))), .unset, .unset] [(.int (Int32.ofNat (q + 1))), (.ref b)]))
            refine go (fun _ kont => X0.baloadBytes hx (j := (Int32.ofNat (q + 1))) (v := (.int (xs.getD (q + 1) 0))) (by rw [e0]; exact Ar.1) (State.isArrayOf_alike hZ.alike Ar.2.1) Ar.2.2 (own_hink Sl (own_neg (by rw [own_ofN (by omega)]; omega)) (own_tnO (by omega)) (k := q + 1) (by rw [List.length_map]; omega)) (own_hatk Sl (own_tnO (by omega)) (own_atI (k := q + 1) (by omega))) (g := (mkF m 116 #[.val (.ref b), .val (.int (Int32.ofNat q)), .val (.int (Int32.ofNat e8)), .val (.int (Int32.ofNat (own_f xs (q)))), .val (.int (2 : Int32)), .val (.int (Int32.ofNat (own_f xs (q) % 32))), .unset, .unset] [(.int (Int32.ofNat (q + 1))), (.ref b)])) rfl rfl (hb hby d_method_3_116) _ kont) ?_
            show G (s₁.setTop (mkF m 117 #[.val (.ref b), .val (.int (Int32.ofNat q)), .val (.int (Int32.ofNat e8)), .val (.int (Int32.ofNat (own_f xs (q)))), .val (.int (2 : Int32)), .val (.int (Int32.ofNat (own_f xs (q) % 32))), .unset, .unset] [(.int (xs.getD (q + 1) 0))]))
            refine go (fun _ kont => XS.sipush X0.here hx rfl (hb hby d_method_3_117) kont) ?_
            show G (s₁.setTop (mkF m 120 #[.val (.ref b), .val (.int (Int32.ofNat q)), .val (.int (Int32.ofNat e8)), .val (.int (Int32.ofNat (own_f xs (q)))), .val (.int (2 : Int32)), .val (.int (Int32.ofNat (own_f xs (q) % 32))), .unset, .unset] [(.int (255 : Int32)), (.int (xs.getD (q + 1) 0))]))
            refine go (fun _ kont => XS.iand X0.here hx rfl (hb hby d_method_3_120) rfl kont) ?_
            show G (s₁.setTop (mkF m 121 #[.val (.ref b), .val (.int (Int32.ofNat q)), .val (.int (Int32.ofNat e8)), .val (.int (Int32.ofNat (own_f xs (q)))), .val (.int (2 : Int32)), .val (.int (Int32.ofNat (own_f xs (q) % 32))), .unset, .unset] [(.int ((xs.getD (q + 1) 0) &&& (255 : Int32)))]))
            rw [own_fe xs (q + 1)]
            show G (s₁.setTop (mkF m 121 #[.val (.ref b), .val (.int (Int32.ofNat q)), .val (.int (Int32.ofNat e8)), .val (.int (Int32.ofNat (own_f xs (q)))), .val (.int (2 : Int32)), .val (.int (Int32.ofNat (own_f xs (q) % 32))), .unset, .unset] [(.int (Int32.ofNat (own_f xs (q + 1))))]))
            refine go (fun _ kont => XS.istore X0.here hx rfl (hb hby d_method_3_121) rfl (l' := #[.val (.ref b), .val (.int (Int32.ofNat q)), .val (.int (Int32.ofNat e8)), .val (.int (Int32.ofNat (own_f xs (q)))), .val (.int (2 : Int32)), .val (.int (Int32.ofNat (own_f xs (q) % 32))), .val (.int (Int32.ofNat (own_f xs (q + 1)))), .unset]) rfl kont) ?_
            show G (s₁.setTop (mkF m 123 #[.val (.ref b), .val (.int (Int32.ofNat q)), .val (.int (Int32.ofNat e8)), .val (.int (Int32.ofNat (own_f xs (q)))), .val (.int (2 : Int32)), .val (.int (Int32.ofNat (own_f xs (q) % 32))), .val (.int (Int32.ofNat (own_f xs (q + 1)))), .unset] []))
            refine go (fun _ kont => XS.iload X0.here hx rfl (hb hby d_method_3_123) rfl  kont) ?_
            show G (s₁.setTop (mkF m 125 #[.val (.ref b), .val (.int (Int32.ofNat q)), .val (.int (Int32.ofNat e8)), .val (.int (Int32.ofNat (own_f xs (q)))), .val (.int (2 : Int32)), .val (.int (Int32.ofNat (own_f xs (q) % 32))), .val (.int (Int32.ofNat (own_f xs (q + 1)))), .unset] [(.int (Int32.ofNat (own_f xs (q + 1))))]))
            refine go (fun _ kont => XS.sipush X0.here hx rfl (hb hby d_method_3_125) kont) ?_
            show G (s₁.setTop (mkF m 128 #[.val (.ref b), .val (.int (Int32.ofNat q)), .val (.int (Int32.ofNat e8)), .val (.int (Int32.ofNat (own_f xs (q)))), .val (.int (2 : Int32)), .val (.int (Int32.ofNat (own_f xs (q) % 32))), .val (.int (Int32.ofNat (own_f xs (q + 1)))), .unset] [(.int (192 : Int32)), (.int (Int32.ofNat (own_f xs (q + 1))))]))
            refine go (fun _ kont => XS.iand X0.here hx rfl (hb hby d_method_3_128) rfl kont) ?_
            show G (s₁.setTop (mkF m 129 #[.val (.ref b), .val (.int (Int32.ofNat q)), .val (.int (Int32.ofNat e8)), .val (.int (Int32.ofNat (own_f xs (q)))), .val (.int (2 : Int32)), .val (.int (Int32.ofNat (own_f xs (q) % 32))), .val (.int (Int32.ofNat (own_f xs (q + 1)))), .unset] [(.int ((Int32.ofNat (own_f xs (q + 1))) &&& (192 : Int32)))]))
            refine go (fun _ kont => XS.sipush X0.here hx rfl (hb hby d_method_3_129) kont) ?_
            show G (s₁.setTop (mkF m 132 #[.val (.ref b), .val (.int (Int32.ofNat q)), .val (.int (Int32.ofNat e8)), .val (.int (Int32.ofNat (own_f xs (q)))), .val (.int (2 : Int32)), .val (.int (Int32.ofNat (own_f xs (q) % 32))), .val (.int (Int32.ofNat (own_f xs (q + 1)))), .unset] [(.int (128 : Int32)), (.int ((Int32.ofNat (own_f xs (q + 1))) &&& (192 : Int32)))]))
            by_cases hc132 : ((Int32.ofNat (own_f xs (q + 1))) &&& (192 : Int32)) = (128 : Int32)
            · refine go (fun _ kont => XS.icmpYes X0.here hx rfl (pc0 := 132) (pc' := 137) rfl (hb hby d_method_3_132) rfl (teq hc132).1 (by decide) (by decide) kont) ?_
              show G (s₁.setTop (mkF m 137 #[.val (.ref b), .val (.int (Int32.ofNat q)), .val (.int (Int32.ofNat e8)), .val (.int (Int32.ofNat (own_f xs (q)))), .val (.int (2 : Int32)), .val (.int (Int32.ofNat (own_f xs (q) % 32))), .val (.int (Int32.ofNat (own_f xs (q + 1)))), .unset] []))
              rw [own_m192' _ hb1] at hc132
              refine go (fun _ kont => XS.iload X0.here hx rfl (hb hby d_method_3_137) rfl  kont) ?_
              show G (s₁.setTop (mkF m 139 #[.val (.ref b), .val (.int (Int32.ofNat q)), .val (.int (Int32.ofNat e8)), .val (.int (Int32.ofNat (own_f xs (q)))), .val (.int (2 : Int32)), .val (.int (Int32.ofNat (own_f xs (q) % 32))), .val (.int (Int32.ofNat (own_f xs (q + 1)))), .unset] [(.int (Int32.ofNat (own_f xs (q) % 32)))]))
              refine go (fun _ kont => XS.bipush X0.here hx rfl (hb hby d_method_3_139) kont) ?_
              show G (s₁.setTop (mkF m 141 #[.val (.ref b), .val (.int (Int32.ofNat q)), .val (.int (Int32.ofNat e8)), .val (.int (Int32.ofNat (own_f xs (q)))), .val (.int (2 : Int32)), .val (.int (Int32.ofNat (own_f xs (q) % 32))), .val (.int (Int32.ofNat (own_f xs (q + 1)))), .unset] [(.int (6 : Int32)), (.int (Int32.ofNat (own_f xs (q) % 32)))]))
              refine go (fun _ kont => XS.ishl X0.here hx rfl (hb hby d_method_3_141) rfl kont) ?_
              show G (s₁.setTop (mkF m 142 #[.val (.ref b), .val (.int (Int32.ofNat q)), .val (.int (Int32.ofNat e8)), .val (.int (Int32.ofNat (own_f xs (q)))), .val (.int (2 : Int32)), .val (.int (Int32.ofNat (own_f xs (q) % 32))), .val (.int (Int32.ofNat (own_f xs (q + 1)))), .unset] [(.int ((Int32.ofNat (own_f xs (q) % 32)) <<< ((6 : Int32) &&& 31)))]))
              refine go (fun _ kont => XS.iload X0.here hx rfl (hb hby d_method_3_142) rfl  kont) ?_
              show G (s₁.setTop (mkF m 144 #[.val (.ref b), .val (.int (Int32.ofNat q)), .val (.int (Int32.ofNat e8)), .val (.int (Int32.ofNat (own_f xs (q)))), .val (.int (2 : Int32)), .val (.int (Int32.ofNat (own_f xs (q) % 32))), .val (.int (Int32.ofNat (own_f xs (q + 1)))), .unset] [(.int (Int32.ofNat (own_f xs (q + 1)))), (.int ((Int32.ofNat (own_f xs (q) % 32)) <<< ((6 : Int32) &&& 31)))]))
              refine go (fun _ kont => XS.bipush X0.here hx rfl (hb hby d_method_3_144) kont) ?_
              show G (s₁.setTop (mkF m 146 #[.val (.ref b), .val (.int (Int32.ofNat q)), .val (.int (Int32.ofNat e8)), .val (.int (Int32.ofNat (own_f xs (q)))), .val (.int (2 : Int32)), .val (.int (Int32.ofNat (own_f xs (q) % 32))), .val (.int (Int32.ofNat (own_f xs (q + 1)))), .unset] [(.int (63 : Int32)), (.int (Int32.ofNat (own_f xs (q + 1)))), (.int ((Int32.ofNat (own_f xs (q) % 32)) <<< ((6 : Int32) &&& 31)))]))
              refine go (fun _ kont => XS.iand X0.here hx rfl (hb hby d_method_3_146) rfl kont) ?_
              show G (s₁.setTop (mkF m 147 #[.val (.ref b), .val (.int (Int32.ofNat q)), .val (.int (Int32.ofNat e8)), .val (.int (Int32.ofNat (own_f xs (q)))), .val (.int (2 : Int32)), .val (.int (Int32.ofNat (own_f xs (q) % 32))), .val (.int (Int32.ofNat (own_f xs (q + 1)))), .unset] [(.int ((Int32.ofNat (own_f xs (q + 1))) &&& (63 : Int32))), (.int ((Int32.ofNat (own_f xs (q) % 32)) <<< ((6 : Int32) &&& 31)))]))
              rw [own_a63' _ (own_fb xs (q + 1))]
              show G (s₁.setTop (mkF m 147 #[.val (.ref b), .val (.int (Int32.ofNat q)), .val (.int (Int32.ofNat e8)), .val (.int (Int32.ofNat (own_f xs (q)))), .val (.int (2 : Int32)), .val (.int (Int32.ofNat (own_f xs (q) % 32))), .val (.int (Int32.ofNat (own_f xs (q + 1)))), .unset] [(.int (Int32.ofNat (own_f xs (q + 1) % 64))), (.int ((Int32.ofNat (own_f xs (q) % 32)) <<< ((6 : Int32) &&& 31)))]))
              refine go (fun _ kont => XS.ior X0.here hx rfl (hb hby d_method_3_147) rfl kont) ?_
              show G (s₁.setTop (mkF m 148 #[.val (.ref b), .val (.int (Int32.ofNat q)), .val (.int (Int32.ofNat e8)), .val (.int (Int32.ofNat (own_f xs (q)))), .val (.int (2 : Int32)), .val (.int (Int32.ofNat (own_f xs (q) % 32))), .val (.int (Int32.ofNat (own_f xs (q + 1)))), .unset] [(.int (((Int32.ofNat (own_f xs (q) % 32)) <<< ((6 : Int32) &&& 31)) ||| (Int32.ofNat (own_f xs (q + 1) % 64))))]))
              rw [own_shor (a := (own_f xs (q) % 32)) (b := (own_f xs (q + 1) % 64)) (by omega) (by omega)]
              show G (s₁.setTop (mkF m 148 #[.val (.ref b), .val (.int (Int32.ofNat q)), .val (.int (Int32.ofNat e8)), .val (.int (Int32.ofNat (own_f xs (q)))), .val (.int (2 : Int32)), .val (.int (Int32.ofNat (own_f xs (q) % 32))), .val (.int (Int32.ofNat (own_f xs (q + 1)))), .unset] [(.int (Int32.ofNat ((own_f xs (q) % 32) * 64 + (own_f xs (q + 1) % 64))))]))
              refine go (fun _ kont => XS.istore X0.here hx rfl (hb hby d_method_3_148) rfl (l' := #[.val (.ref b), .val (.int (Int32.ofNat q)), .val (.int (Int32.ofNat e8)), .val (.int (Int32.ofNat (own_f xs (q)))), .val (.int (2 : Int32)), .val (.int (Int32.ofNat ((own_f xs (q) % 32) * 64 + (own_f xs (q + 1) % 64)))), .val (.int (Int32.ofNat (own_f xs (q + 1)))), .unset]) rfl kont) ?_
              show G (s₁.setTop (mkF m 150 #[.val (.ref b), .val (.int (Int32.ofNat q)), .val (.int (Int32.ofNat e8)), .val (.int (Int32.ofNat (own_f xs (q)))), .val (.int (2 : Int32)), .val (.int (Int32.ofNat ((own_f xs (q) % 32) * 64 + (own_f xs (q + 1) % 64)))), .val (.int (Int32.ofNat (own_f xs (q + 1)))), .unset] []))
              refine go (fun _ kont => XS.iload X0.here hx rfl (hb hby d_method_3_150) rfl  kont) ?_
              show G (s₁.setTop (mkF m 152 #[.val (.ref b), .val (.int (Int32.ofNat q)), .val (.int (Int32.ofNat e8)), .val (.int (Int32.ofNat (own_f xs (q)))), .val (.int (2 : Int32)), .val (.int (Int32.ofNat ((own_f xs (q) % 32) * 64 + (own_f xs (q + 1) % 64)))), .val (.int (Int32.ofNat (own_f xs (q + 1)))), .unset] [(.int (2 : Int32))]))
              refine go (fun _ kont => XS.iconst X0.here hx rfl (hb hby d_method_3_152) kont) ?_
              show G (s₁.setTop (mkF m 153 #[.val (.ref b), .val (.int (Int32.ofNat q)), .val (.int (Int32.ofNat e8)), .val (.int (Int32.ofNat (own_f xs (q)))), .val (.int (2 : Int32)), .val (.int (Int32.ofNat ((own_f xs (q) % 32) * 64 + (own_f xs (q + 1) % 64)))), .val (.int (Int32.ofNat (own_f xs (q + 1)))), .unset] [(.int (3 : Int32)), (.int (2 : Int32))]))
              refine go (fun _ kont => XS.icmpYes X0.here hx rfl (pc0 := 153) (pc' := 194) rfl (hb hby d_method_3_153) rfl (tlt (by decide)).1 (by decide) (by decide) kont) ?_
              show G (s₁.setTop (mkF m 194 #[.val (.ref b), .val (.int (Int32.ofNat q)), .val (.int (Int32.ofNat e8)), .val (.int (Int32.ofNat (own_f xs (q)))), .val (.int (2 : Int32)), .val (.int (Int32.ofNat ((own_f xs (q) % 32) * 64 + (own_f xs (q + 1) % 64)))), .val (.int (Int32.ofNat (own_f xs (q + 1)))), .unset] []))
              refine go (fun _ kont => XS.iload X0.here hx rfl (hb hby d_method_3_194) rfl  kont) ?_
              show G (s₁.setTop (mkF m 196 #[.val (.ref b), .val (.int (Int32.ofNat q)), .val (.int (Int32.ofNat e8)), .val (.int (Int32.ofNat (own_f xs (q)))), .val (.int (2 : Int32)), .val (.int (Int32.ofNat ((own_f xs (q) % 32) * 64 + (own_f xs (q + 1) % 64)))), .val (.int (Int32.ofNat (own_f xs (q + 1)))), .unset] [(.int (2 : Int32))]))
              refine go (fun _ kont => XS.iconst X0.here hx rfl (hb hby d_method_3_196) kont) ?_
              show G (s₁.setTop (mkF m 197 #[.val (.ref b), .val (.int (Int32.ofNat q)), .val (.int (Int32.ofNat e8)), .val (.int (Int32.ofNat (own_f xs (q)))), .val (.int (2 : Int32)), .val (.int (Int32.ofNat ((own_f xs (q) % 32) * 64 + (own_f xs (q + 1) % 64)))), .val (.int (Int32.ofNat (own_f xs (q + 1)))), .unset] [(.int (4 : Int32)), (.int (2 : Int32))]))
              refine go (fun _ kont => XS.icmpYes X0.here hx rfl (pc0 := 197) (pc' := 238) rfl (hb hby d_method_3_197) rfl (feq (by decide)).2 (by decide) (by decide) kont) ?_
              show G (s₁.setTop (mkF m 238 #[.val (.ref b), .val (.int (Int32.ofNat q)), .val (.int (Int32.ofNat e8)), .val (.int (Int32.ofNat (own_f xs (q)))), .val (.int (2 : Int32)), .val (.int (Int32.ofNat ((own_f xs (q) % 32) * 64 + (own_f xs (q + 1) % 64)))), .val (.int (Int32.ofNat (own_f xs (q + 1)))), .unset] []))
              refine go (fun _ kont => XS.iload X0.here hx rfl (hb hby d_method_3_238) rfl  kont) ?_
              show G (s₁.setTop (mkF m 240 #[.val (.ref b), .val (.int (Int32.ofNat q)), .val (.int (Int32.ofNat e8)), .val (.int (Int32.ofNat (own_f xs (q)))), .val (.int (2 : Int32)), .val (.int (Int32.ofNat ((own_f xs (q) % 32) * 64 + (own_f xs (q + 1) % 64)))), .val (.int (Int32.ofNat (own_f xs (q + 1)))), .unset] [(.int (2 : Int32))]))
              refine go (fun _ kont => XS.iconst X0.here hx rfl (hb hby d_method_3_240) kont) ?_
              show G (s₁.setTop (mkF m 241 #[.val (.ref b), .val (.int (Int32.ofNat q)), .val (.int (Int32.ofNat e8)), .val (.int (Int32.ofNat (own_f xs (q)))), .val (.int (2 : Int32)), .val (.int (Int32.ofNat ((own_f xs (q) % 32) * 64 + (own_f xs (q + 1) % 64)))), .val (.int (Int32.ofNat (own_f xs (q + 1)))), .unset] [(.int (2 : Int32)), (.int (2 : Int32))]))
              refine go (fun _ kont => XS.icmpNo X0.here hx rfl (hb hby d_method_3_241) rfl (teq (by decide)).2 kont) ?_
              show G (s₁.setTop (mkF m 244 #[.val (.ref b), .val (.int (Int32.ofNat q)), .val (.int (Int32.ofNat e8)), .val (.int (Int32.ofNat (own_f xs (q)))), .val (.int (2 : Int32)), .val (.int (Int32.ofNat ((own_f xs (q) % 32) * 64 + (own_f xs (q + 1) % 64)))), .val (.int (Int32.ofNat (own_f xs (q + 1)))), .unset] []))
              refine go (fun _ kont => XS.iload X0.here hx rfl (hb hby d_method_3_244) rfl  kont) ?_
              show G (s₁.setTop (mkF m 246 #[.val (.ref b), .val (.int (Int32.ofNat q)), .val (.int (Int32.ofNat e8)), .val (.int (Int32.ofNat (own_f xs (q)))), .val (.int (2 : Int32)), .val (.int (Int32.ofNat ((own_f xs (q) % 32) * 64 + (own_f xs (q + 1) % 64)))), .val (.int (Int32.ofNat (own_f xs (q + 1)))), .unset] [(.int (Int32.ofNat ((own_f xs (q) % 32) * 64 + (own_f xs (q + 1) % 64))))]))
              refine go (fun _ kont => XS.sipush X0.here hx rfl (hb hby d_method_3_246) kont) ?_
              show G (s₁.setTop (mkF m 249 #[.val (.ref b), .val (.int (Int32.ofNat q)), .val (.int (Int32.ofNat e8)), .val (.int (Int32.ofNat (own_f xs (q)))), .val (.int (2 : Int32)), .val (.int (Int32.ofNat ((own_f xs (q) % 32) * 64 + (own_f xs (q + 1) % 64)))), .val (.int (Int32.ofNat (own_f xs (q + 1)))), .unset] [(.int (128 : Int32)), (.int (Int32.ofNat ((own_f xs (q) % 32) * 64 + (own_f xs (q + 1) % 64))))]))
              by_cases hc249 : (Int32.ofNat ((own_f xs (q) % 32) * 64 + (own_f xs (q + 1) % 64))) < (128 : Int32)
              · refine go (fun _ kont => XS.icmpNo X0.here hx rfl (hb hby d_method_3_249) rfl (tlt hc249).2.1 kont) ?_
                show G (s₁.setTop (mkF m 252 #[.val (.ref b), .val (.int (Int32.ofNat q)), .val (.int (Int32.ofNat e8)), .val (.int (Int32.ofNat (own_f xs (q)))), .val (.int (2 : Int32)), .val (.int (Int32.ofNat ((own_f xs (q) % 32) * 64 + (own_f xs (q + 1) % 64)))), .val (.int (Int32.ofNat (own_f xs (q + 1)))), .unset] []))
                rw [show Int32.ofNat ((own_f xs (q) % 32) * 64 + (own_f xs (q + 1) % 64)) < (128 : Int32) ↔ ((own_f xs (q) % 32) * 64 + (own_f xs (q + 1) % 64)) < 128 from own_ltO (d := ((own_f xs (q) % 32) * 64 + (own_f xs (q + 1) % 64))) (k := 128) (by omega) (by omega)] at hc249
                refine go (fun _ kont => XS.iconst X0.here hx rfl (hb hby d_method_3_252) kont) ?_
                show G (s₁.setTop (mkF m 253 #[.val (.ref b), .val (.int (Int32.ofNat q)), .val (.int (Int32.ofNat e8)), .val (.int (Int32.ofNat (own_f xs (q)))), .val (.int (2 : Int32)), .val (.int (Int32.ofNat ((own_f xs (q) % 32) * 64 + (own_f xs (q + 1) % 64)))), .val (.int (Int32.ofNat (own_f xs (q + 1)))), .unset] [(.int (-1 : Int32))]))
                rw [hG]
                exact own_retI X0 hx Bd.returns (hb hby d_method_3_253) hlk (by decide) (by decide) ⟨by congr 2; exact (own_st_bad hc6' (by unfold own_N own_n; (repeat' split) <;> omega)).symm, N0, e0⟩
              · refine go (fun _ kont => XS.icmpYes X0.here hx rfl (pc0 := 249) (pc' := 254) rfl (hb hby d_method_3_249) rfl (flt hc249).2.1 (by decide) (by decide) kont) ?_
                show G (s₁.setTop (mkF m 254 #[.val (.ref b), .val (.int (Int32.ofNat q)), .val (.int (Int32.ofNat e8)), .val (.int (Int32.ofNat (own_f xs (q)))), .val (.int (2 : Int32)), .val (.int (Int32.ofNat ((own_f xs (q) % 32) * 64 + (own_f xs (q + 1) % 64)))), .val (.int (Int32.ofNat (own_f xs (q + 1)))), .unset] []))
                rw [show Int32.ofNat ((own_f xs (q) % 32) * 64 + (own_f xs (q + 1) % 64)) < (128 : Int32) ↔ ((own_f xs (q) % 32) * 64 + (own_f xs (q + 1) % 64)) < 128 from own_ltO (d := ((own_f xs (q) % 32) * 64 + (own_f xs (q + 1) % 64))) (k := 128) (by omega) (by omega)] at hc249
                refine go (fun _ kont => XS.iload X0.here hx rfl (hb hby d_method_3_254) rfl  kont) ?_
                show G (s₁.setTop (mkF m 256 #[.val (.ref b), .val (.int (Int32.ofNat q)), .val (.int (Int32.ofNat e8)), .val (.int (Int32.ofNat (own_f xs (q)))), .val (.int (2 : Int32)), .val (.int (Int32.ofNat ((own_f xs (q) % 32) * 64 + (own_f xs (q + 1) % 64)))), .val (.int (Int32.ofNat (own_f xs (q + 1)))), .unset] [(.int (2 : Int32))]))
                refine go (fun _ kont => XS.iconst X0.here hx rfl (hb hby d_method_3_256) kont) ?_
                show G (s₁.setTop (mkF m 257 #[.val (.ref b), .val (.int (Int32.ofNat q)), .val (.int (Int32.ofNat e8)), .val (.int (Int32.ofNat (own_f xs (q)))), .val (.int (2 : Int32)), .val (.int (Int32.ofNat ((own_f xs (q) % 32) * 64 + (own_f xs (q + 1) % 64)))), .val (.int (Int32.ofNat (own_f xs (q + 1)))), .unset] [(.int (3 : Int32)), (.int (2 : Int32))]))
                refine go (fun _ kont => XS.icmpYes X0.here hx rfl (pc0 := 257) (pc' := 284) rfl (hb hby d_method_3_257) rfl (feq (by decide)).2 (by decide) (by decide) kont) ?_
                show G (s₁.setTop (mkF m 284 #[.val (.ref b), .val (.int (Int32.ofNat q)), .val (.int (Int32.ofNat e8)), .val (.int (Int32.ofNat (own_f xs (q)))), .val (.int (2 : Int32)), .val (.int (Int32.ofNat ((own_f xs (q) % 32) * 64 + (own_f xs (q + 1) % 64)))), .val (.int (Int32.ofNat (own_f xs (q + 1)))), .unset] []))
                refine go (fun _ kont => XS.iload X0.here hx rfl (hb hby d_method_3_284) rfl  kont) ?_
                show G (s₁.setTop (mkF m 286 #[.val (.ref b), .val (.int (Int32.ofNat q)), .val (.int (Int32.ofNat e8)), .val (.int (Int32.ofNat (own_f xs (q)))), .val (.int (2 : Int32)), .val (.int (Int32.ofNat ((own_f xs (q) % 32) * 64 + (own_f xs (q + 1) % 64)))), .val (.int (Int32.ofNat (own_f xs (q + 1)))), .unset] [(.int (2 : Int32))]))
                refine go (fun _ kont => XS.iconst X0.here hx rfl (hb hby d_method_3_286) kont) ?_
                show G (s₁.setTop (mkF m 287 #[.val (.ref b), .val (.int (Int32.ofNat q)), .val (.int (Int32.ofNat e8)), .val (.int (Int32.ofNat (own_f xs (q)))), .val (.int (2 : Int32)), .val (.int (Int32.ofNat ((own_f xs (q) % 32) * 64 + (own_f xs (q + 1) % 64)))), .val (.int (Int32.ofNat (own_f xs (q + 1)))), .unset] [(.int (4 : Int32)), (.int (2 : Int32))]))
                refine go (fun _ kont => XS.icmpYes X0.here hx rfl (pc0 := 287) (pc' := 306) rfl (hb hby d_method_3_287) rfl (feq (by decide)).2 (by decide) (by decide) kont) ?_
                show G (s₁.setTop (mkF m 306 #[.val (.ref b), .val (.int (Int32.ofNat q)), .val (.int (Int32.ofNat e8)), .val (.int (Int32.ofNat (own_f xs (q)))), .val (.int (2 : Int32)), .val (.int (Int32.ofNat ((own_f xs (q) % 32) * 64 + (own_f xs (q + 1) % 64)))), .val (.int (Int32.ofNat (own_f xs (q + 1)))), .unset] []))
                refine go (fun _ kont => XS.iloadN X0.here hx rfl (hb hby d_method_3_306) rfl  kont) ?_
                show G (s₁.setTop (mkF m 307 #[.val (.ref b), .val (.int (Int32.ofNat q)), .val (.int (Int32.ofNat e8)), .val (.int (Int32.ofNat (own_f xs (q)))), .val (.int (2 : Int32)), .val (.int (Int32.ofNat ((own_f xs (q) % 32) * 64 + (own_f xs (q + 1) % 64)))), .val (.int (Int32.ofNat (own_f xs (q + 1)))), .unset] [(.int (Int32.ofNat q))]))
                refine go (fun _ kont => XS.iload X0.here hx rfl (hb hby d_method_3_307) rfl  kont) ?_
                show G (s₁.setTop (mkF m 309 #[.val (.ref b), .val (.int (Int32.ofNat q)), .val (.int (Int32.ofNat e8)), .val (.int (Int32.ofNat (own_f xs (q)))), .val (.int (2 : Int32)), .val (.int (Int32.ofNat ((own_f xs (q) % 32) * 64 + (own_f xs (q + 1) % 64)))), .val (.int (Int32.ofNat (own_f xs (q + 1)))), .unset] [(.int (2 : Int32)), (.int (Int32.ofNat q))]))
                refine go (fun _ kont => XS.iadd X0.here hx rfl (hb hby d_method_3_309) rfl kont) ?_
                show G (s₁.setTop (mkF m 310 #[.val (.ref b), .val (.int (Int32.ofNat q)), .val (.int (Int32.ofNat e8)), .val (.int (Int32.ofNat (own_f xs (q)))), .val (.int (2 : Int32)), .val (.int (Int32.ofNat ((own_f xs (q) % 32) * 64 + (own_f xs (q + 1) % 64)))), .val (.int (Int32.ofNat (own_f xs (q + 1)))), .unset] [(.int ((Int32.ofNat q) + (2 : Int32)))]))
                rw [hG]
                exact own_retI X0 hx Bd.returns (hb hby d_method_3_310) hlk (by decide) (by decide) ⟨by congr 2; exact (own_st_ok (N := 2) hc6' (by unfold own_N own_n; (repeat' split) <;> omega) (by decide)).symm, N0, e0⟩
            · refine go (fun _ kont => XS.icmpNo X0.here hx rfl (hb hby d_method_3_132) rfl (feq hc132).1 kont) ?_
              show G (s₁.setTop (mkF m 135 #[.val (.ref b), .val (.int (Int32.ofNat q)), .val (.int (Int32.ofNat e8)), .val (.int (Int32.ofNat (own_f xs (q)))), .val (.int (2 : Int32)), .val (.int (Int32.ofNat (own_f xs (q) % 32))), .val (.int (Int32.ofNat (own_f xs (q + 1)))), .unset] []))
              rw [own_m192' _ hb1] at hc132
              refine go (fun _ kont => XS.iconst X0.here hx rfl (hb hby d_method_3_135) kont) ?_
              show G (s₁.setTop (mkF m 136 #[.val (.ref b), .val (.int (Int32.ofNat q)), .val (.int (Int32.ofNat e8)), .val (.int (Int32.ofNat (own_f xs (q)))), .val (.int (2 : Int32)), .val (.int (Int32.ofNat (own_f xs (q) % 32))), .val (.int (Int32.ofNat (own_f xs (q + 1)))), .unset] [(.int (-1 : Int32))]))
              rw [hG]
              exact own_retI X0 hx Bd.returns (hb hby d_method_3_136) hlk (by decide) (by decide) ⟨by congr 2; exact (own_st_bad hc6' (by unfold own_N own_n; (repeat' split) <;> omega)).symm, N0, e0⟩
        · refine go (fun _ kont => XS.icmpYes X0.here hx rfl (pc0 := 39) (pc' := 54) rfl (hb hby d_method_3_39) rfl (feq hc39).2 (by decide) (by decide) kont) ?_
          show G (s₁.setTop (mkF m 54 #[.val (.ref b), .val (.int (Int32.ofNat q)), .val (.int (Int32.ofNat e8)), .val (.int (Int32.ofNat (own_f xs (q)))), .unset, .unset, .unset, .unset] []))
          rw [own_m224' _ hb0] at hc39
          refine go (fun _ kont => XS.iloadN X0.here hx rfl (hb hby d_method_3_54) rfl  kont) ?_
          show G (s₁.setTop (mkF m 55 #[.val (.ref b), .val (.int (Int32.ofNat q)), .val (.int (Int32.ofNat e8)), .val (.int (Int32.ofNat (own_f xs (q)))), .unset, .unset, .unset, .unset] [(.int (Int32.ofNat (own_f xs (q))))]))
          refine go (fun _ kont => XS.sipush X0.here hx rfl (hb hby d_method_3_55) kont) ?_
          show G (s₁.setTop (mkF m 58 #[.val (.ref b), .val (.int (Int32.ofNat q)), .val (.int (Int32.ofNat e8)), .val (.int (Int32.ofNat (own_f xs (q)))), .unset, .unset, .unset, .unset] [(.int (240 : Int32)), (.int (Int32.ofNat (own_f xs (q))))]))
          refine go (fun _ kont => XS.iand X0.here hx rfl (hb hby d_method_3_58) rfl kont) ?_
          show G (s₁.setTop (mkF m 59 #[.val (.ref b), .val (.int (Int32.ofNat q)), .val (.int (Int32.ofNat e8)), .val (.int (Int32.ofNat (own_f xs (q)))), .unset, .unset, .unset, .unset] [(.int ((Int32.ofNat (own_f xs (q))) &&& (240 : Int32)))]))
          refine go (fun _ kont => XS.sipush X0.here hx rfl (hb hby d_method_3_59) kont) ?_
          show G (s₁.setTop (mkF m 62 #[.val (.ref b), .val (.int (Int32.ofNat q)), .val (.int (Int32.ofNat e8)), .val (.int (Int32.ofNat (own_f xs (q)))), .unset, .unset, .unset, .unset] [(.int (224 : Int32)), (.int ((Int32.ofNat (own_f xs (q))) &&& (240 : Int32)))]))
          by_cases hc62 : ((Int32.ofNat (own_f xs (q))) &&& (240 : Int32)) = (224 : Int32)
          · refine go (fun _ kont => XS.icmpNo X0.here hx rfl (hb hby d_method_3_62) rfl (teq hc62).2 kont) ?_
            show G (s₁.setTop (mkF m 65 #[.val (.ref b), .val (.int (Int32.ofNat q)), .val (.int (Int32.ofNat e8)), .val (.int (Int32.ofNat (own_f xs (q)))), .unset, .unset, .unset, .unset] []))
            rw [own_m240' _ hb0] at hc62
            refine go (fun _ kont => XS.iconst X0.here hx rfl (hb hby d_method_3_65) kont) ?_
            show G (s₁.setTop (mkF m 66 #[.val (.ref b), .val (.int (Int32.ofNat q)), .val (.int (Int32.ofNat e8)), .val (.int (Int32.ofNat (own_f xs (q)))), .unset, .unset, .unset, .unset] [(.int (3 : Int32))]))
            refine go (fun _ kont => XS.istore X0.here hx rfl (hb hby d_method_3_66) rfl (l' := #[.val (.ref b), .val (.int (Int32.ofNat q)), .val (.int (Int32.ofNat e8)), .val (.int (Int32.ofNat (own_f xs (q)))), .val (.int (3 : Int32)), .unset, .unset, .unset]) rfl kont) ?_
            show G (s₁.setTop (mkF m 68 #[.val (.ref b), .val (.int (Int32.ofNat q)), .val (.int (Int32.ofNat e8)), .val (.int (Int32.ofNat (own_f xs (q)))), .val (.int (3 : Int32)), .unset, .unset, .unset] []))
            refine go (fun _ kont => XS.iloadN X0.here hx rfl (hb hby d_method_3_68) rfl  kont) ?_
            show G (s₁.setTop (mkF m 69 #[.val (.ref b), .val (.int (Int32.ofNat q)), .val (.int (Int32.ofNat e8)), .val (.int (Int32.ofNat (own_f xs (q)))), .val (.int (3 : Int32)), .unset, .unset, .unset] [(.int (Int32.ofNat (own_f xs (q))))]))
            refine go (fun _ kont => XS.bipush X0.here hx rfl (hb hby d_method_3_69) kont) ?_
            show G (s₁.setTop (mkF m 71 #[.val (.ref b), .val (.int (Int32.ofNat q)), .val (.int (Int32.ofNat e8)), .val (.int (Int32.ofNat (own_f xs (q)))), .val (.int (3 : Int32)), .unset, .unset, .unset] [(.int (15 : Int32)), (.int (Int32.ofNat (own_f xs (q))))]))
            refine go (fun _ kont => XS.iand X0.here hx rfl (hb hby d_method_3_71) rfl kont) ?_
            show G (s₁.setTop (mkF m 72 #[.val (.ref b), .val (.int (Int32.ofNat q)), .val (.int (Int32.ofNat e8)), .val (.int (Int32.ofNat (own_f xs (q)))), .val (.int (3 : Int32)), .unset, .unset, .unset] [(.int ((Int32.ofNat (own_f xs (q))) &&& (15 : Int32)))]))
            rw [own_a15' _ (own_fb xs (q))]
            show G (s₁.setTop (mkF m 72 #[.val (.ref b), .val (.int (Int32.ofNat q)), .val (.int (Int32.ofNat e8)), .val (.int (Int32.ofNat (own_f xs (q)))), .val (.int (3 : Int32)), .unset, .unset, .unset] [(.int (Int32.ofNat (own_f xs (q) % 16)))]))
            refine go (fun _ kont => XS.istore X0.here hx rfl (hb hby d_method_3_72) rfl (l' := #[.val (.ref b), .val (.int (Int32.ofNat q)), .val (.int (Int32.ofNat e8)), .val (.int (Int32.ofNat (own_f xs (q)))), .val (.int (3 : Int32)), .val (.int (Int32.ofNat (own_f xs (q) % 16))), .unset, .unset]) rfl kont) ?_
            show G (s₁.setTop (mkF m 74 #[.val (.ref b), .val (.int (Int32.ofNat q)), .val (.int (Int32.ofNat e8)), .val (.int (Int32.ofNat (own_f xs (q)))), .val (.int (3 : Int32)), .val (.int (Int32.ofNat (own_f xs (q) % 16))), .unset, .unset] []))
            refine go (fun _ kont => XS.goto X0.here hx rfl (pc0 := 74) (pc' := 102) rfl (hb hby d_method_3_74) (by decide) (by decide) kont) ?_
            show G (s₁.setTop (mkF m 102 #[.val (.ref b), .val (.int (Int32.ofNat q)), .val (.int (Int32.ofNat e8)), .val (.int (Int32.ofNat (own_f xs (q)))), .val (.int (3 : Int32)), .val (.int (Int32.ofNat (own_f xs (q) % 16))), .unset, .unset] []))
            refine go (fun _ kont => XS.iloadN X0.here hx rfl (hb hby d_method_3_102) rfl  kont) ?_
            show G (s₁.setTop (mkF m 103 #[.val (.ref b), .val (.int (Int32.ofNat q)), .val (.int (Int32.ofNat e8)), .val (.int (Int32.ofNat (own_f xs (q)))), .val (.int (3 : Int32)), .val (.int (Int32.ofNat (own_f xs (q) % 16))), .unset, .unset] [(.int (Int32.ofNat q))]))
            refine go (fun _ kont => XS.iload X0.here hx rfl (hb hby d_method_3_103) rfl  kont) ?_
            show G (s₁.setTop (mkF m 105 #[.val (.ref b), .val (.int (Int32.ofNat q)), .val (.int (Int32.ofNat e8)), .val (.int (Int32.ofNat (own_f xs (q)))), .val (.int (3 : Int32)), .val (.int (Int32.ofNat (own_f xs (q) % 16))), .unset, .unset] [(.int (3 : Int32)), (.int (Int32.ofNat q))]))
            refine go (fun _ kont => XS.iadd X0.here hx rfl (hb hby d_method_3_105) rfl kont) ?_
            show G (s₁.setTop (mkF m 106 #[.val (.ref b), .val (.int (Int32.ofNat q)), .val (.int (Int32.ofNat e8)), .val (.int (Int32.ofNat (own_f xs (q)))), .val (.int (3 : Int32)), .val (.int (Int32.ofNat (own_f xs (q) % 16))), .unset, .unset] [(.int ((Int32.ofNat q) + (3 : Int32)))]))
            refine go (fun _ kont => XS.iloadN X0.here hx rfl (hb hby d_method_3_106) rfl  kont) ?_
            show G (s₁.setTop (mkF m 107 #[.val (.ref b), .val (.int (Int32.ofNat q)), .val (.int (Int32.ofNat e8)), .val (.int (Int32.ofNat (own_f xs (q)))), .val (.int (3 : Int32)), .val (.int (Int32.ofNat (own_f xs (q) % 16))), .unset, .unset] [(.int (Int32.ofNat e8)), (.int ((Int32.ofNat q) + (3 : Int32)))]))
            by_cases hc107 : (Int32.ofNat e8) < ((Int32.ofNat q) + (3 : Int32))
            · refine go (fun _ kont => XS.icmpNo X0.here hx rfl (hb hby d_method_3_107) rfl (tlt hc107).2.2.2 kont) ?_
              show G (s₁.setTop (mkF m 110 #[.val (.ref b), .val (.int (Int32.ofNat q)), .val (.int (Int32.ofNat e8)), .val (.int (Int32.ofNat (own_f xs (q)))), .val (.int (3 : Int32)), .val (.int (Int32.ofNat (own_f xs (q) % 16))), .unset, .unset] []))
              rw [show Int32.ofNat q + (3 : Int32) = Int32.ofNat (q + 3) from own_addk q 3, own_ltO (by omega) (by omega)] at hc107
              refine go (fun _ kont => XS.iconst X0.here hx rfl (hb hby d_method_3_110) kont) ?_
              show G (s₁.setTop (mkF m 111 #[.val (.ref b), .val (.int (Int32.ofNat q)), .val (.int (Int32.ofNat e8)), .val (.int (Int32.ofNat (own_f xs (q)))), .val (.int (3 : Int32)), .val (.int (Int32.ofNat (own_f xs (q) % 16))), .unset, .unset] [(.int (-1 : Int32))]))
              rw [hG]
              exact own_retI X0 hx Bd.returns (hb hby d_method_3_111) hlk (by decide) (by decide) ⟨by congr 2; exact (own_st_bad hc6' (by unfold own_N own_n; (repeat' split) <;> omega)).symm, N0, e0⟩
            · refine go (fun _ kont => XS.icmpYes X0.here hx rfl (pc0 := 107) (pc' := 112) rfl (hb hby d_method_3_107) rfl (flt hc107).2.2.2 (by decide) (by decide) kont) ?_
              show G (s₁.setTop (mkF m 112 #[.val (.ref b), .val (.int (Int32.ofNat q)), .val (.int (Int32.ofNat e8)), .val (.int (Int32.ofNat (own_f xs (q)))), .val (.int (3 : Int32)), .val (.int (Int32.ofNat (own_f xs (q) % 16))), .unset, .unset] []))
              rw [show Int32.ofNat q + (3 : Int32) = Int32.ofNat (q + 3) from own_addk q 3, own_ltO (by omega) (by omega)] at hc107
              refine go (fun _ kont => XS.aloadN X0.here hx rfl (hb hby d_method_3_112) rfl rfl kont) ?_
              show G (s₁.setTop (mkF m 113 #[.val (.ref b), .val (.int (Int32.ofNat q)), .val (.int (Int32.ofNat e8)), .val (.int (Int32.ofNat (own_f xs (q)))), .val (.int (3 : Int32)), .val (.int (Int32.ofNat (own_f xs (q) % 16))), .unset, .unset] [(.ref b)]))
              refine go (fun _ kont => XS.iloadN X0.here hx rfl (hb hby d_method_3_113) rfl  kont) ?_
              show G (s₁.setTop (mkF m 114 #[.val (.ref b), .val (.int (Int32.ofNat q)), .val (.int (Int32.ofNat e8)), .val (.int (Int32.ofNat (own_f xs (q)))), .val (.int (3 : Int32)), .val (.int (Int32.ofNat (own_f xs (q) % 16))), .unset, .unset] [(.int (Int32.ofNat q)), (.ref b)]))
              refine go (fun _ kont => XS.iconst X0.here hx rfl (hb hby d_method_3_114) kont) ?_
              show G (s₁.setTop (mkF m 115 #[.val (.ref b), .val (.int (Int32.ofNat q)), .val (.int (Int32.ofNat e8)), .val (.int (Int32.ofNat (own_f xs (q)))), .val (.int (3 : Int32)), .val (.int (Int32.ofNat (own_f xs (q) % 16))), .unset, .unset] [(.int (1 : Int32)), (.int (Int32.ofNat q)), (.ref b)]))
              refine go (fun _ kont => XS.iadd X0.here hx rfl (hb hby d_method_3_115) rfl kont) ?_
              show G (s₁.setTop (mkF m 116 #[.val (.ref b), .val (.int (Int32.ofNat q)), .val (.int (Int32.ofNat e8)), .val (.int (Int32.ofNat (own_f xs (q)))), .val (.int (3 : Int32)), .val (.int (Int32.ofNat (own_f xs (q) % 16))), .unset, .unset] [(.int ((Int32.ofNat q) + (1 : Int32))), (.ref b)]))
              rw [show Int32.ofNat q + (1 : Int32) = Int32.ofNat (q + 1) from own_addk q 1]
              show G (s₁.setTop (mkF m 116 #[.val (.ref b), .val (.int (Int32.ofNat q)), .val (.int (Int32.ofNat e8)), .val (.int (Int32.ofNat (own_f xs (q)))), .val (.int (3 : Int32)), .val (.int (Int32.ofNat (own_f xs (q) % 16))), .unset, .unset] [(.int (Int32.ofNat (q + 1))), (.ref b)]))
              refine go (fun _ kont => X0.baloadBytes hx (j := (Int32.ofNat (q + 1))) (v := (.int (xs.getD (q + 1) 0))) (by rw [e0]; exact Ar.1) (State.isArrayOf_alike hZ.alike Ar.2.1) Ar.2.2 (own_hink Sl (own_neg (by rw [own_ofN (by omega)]; omega)) (own_tnO (by omega)) (k := q + 1) (by rw [List.length_map]; omega)) (own_hatk Sl (own_tnO (by omega)) (own_atI (k := q + 1) (by omega))) (g := (mkF m 116 #[.val (.ref b), .val (.int (Int32.ofNat q)), .val (.int (Int32.ofNat e8)), .val (.int (Int32.ofNat (own_f xs (q)))), .val (.int (3 : Int32)), .val (.int (Int32.ofNat (own_f xs (q) % 16))), .unset, .unset] [(.int (Int32.ofNat (q + 1))), (.ref b)])) rfl rfl (hb hby d_method_3_116) _ kont) ?_
              show G (s₁.setTop (mkF m 117 #[.val (.ref b), .val (.int (Int32.ofNat q)), .val (.int (Int32.ofNat e8)), .val (.int (Int32.ofNat (own_f xs (q)))), .val (.int (3 : Int32)), .val (.int (Int32.ofNat (own_f xs (q) % 16))), .unset, .unset] [(.int (xs.getD (q + 1) 0))]))
              refine go (fun _ kont => XS.sipush X0.here hx rfl (hb hby d_method_3_117) kont) ?_
              show G (s₁.setTop (mkF m 120 #[.val (.ref b), .val (.int (Int32.ofNat q)), .val (.int (Int32.ofNat e8)), .val (.int (Int32.ofNat (own_f xs (q)))), .val (.int (3 : Int32)), .val (.int (Int32.ofNat (own_f xs (q) % 16))), .unset, .unset] [(.int (255 : Int32)), (.int (xs.getD (q + 1) 0))]))
              refine go (fun _ kont => XS.iand X0.here hx rfl (hb hby d_method_3_120) rfl kont) ?_
              show G (s₁.setTop (mkF m 121 #[.val (.ref b), .val (.int (Int32.ofNat q)), .val (.int (Int32.ofNat e8)), .val (.int (Int32.ofNat (own_f xs (q)))), .val (.int (3 : Int32)), .val (.int (Int32.ofNat (own_f xs (q) % 16))), .unset, .unset] [(.int ((xs.getD (q + 1) 0) &&& (255 : Int32)))]))
              rw [own_fe xs (q + 1)]
              show G (s₁.setTop (mkF m 121 #[.val (.ref b), .val (.int (Int32.ofNat q)), .val (.int (Int32.ofNat e8)), .val (.int (Int32.ofNat (own_f xs (q)))), .val (.int (3 : Int32)), .val (.int (Int32.ofNat (own_f xs (q) % 16))), .unset, .unset] [(.int (Int32.ofNat (own_f xs (q + 1))))]))
              refine go (fun _ kont => XS.istore X0.here hx rfl (hb hby d_method_3_121) rfl (l' := #[.val (.ref b), .val (.int (Int32.ofNat q)), .val (.int (Int32.ofNat e8)), .val (.int (Int32.ofNat (own_f xs (q)))), .val (.int (3 : Int32)), .val (.int (Int32.ofNat (own_f xs (q) % 16))), .val (.int (Int32.ofNat (own_f xs (q + 1)))), .unset]) rfl kont) ?_
              show G (s₁.setTop (mkF m 123 #[.val (.ref b), .val (.int (Int32.ofNat q)), .val (.int (Int32.ofNat e8)), .val (.int (Int32.ofNat (own_f xs (q)))), .val (.int (3 : Int32)), .val (.int (Int32.ofNat (own_f xs (q) % 16))), .val (.int (Int32.ofNat (own_f xs (q + 1)))), .unset] []))
              refine go (fun _ kont => XS.iload X0.here hx rfl (hb hby d_method_3_123) rfl  kont) ?_
              show G (s₁.setTop (mkF m 125 #[.val (.ref b), .val (.int (Int32.ofNat q)), .val (.int (Int32.ofNat e8)), .val (.int (Int32.ofNat (own_f xs (q)))), .val (.int (3 : Int32)), .val (.int (Int32.ofNat (own_f xs (q) % 16))), .val (.int (Int32.ofNat (own_f xs (q + 1)))), .unset] [(.int (Int32.ofNat (own_f xs (q + 1))))]))
              refine go (fun _ kont => XS.sipush X0.here hx rfl (hb hby d_method_3_125) kont) ?_
              show G (s₁.setTop (mkF m 128 #[.val (.ref b), .val (.int (Int32.ofNat q)), .val (.int (Int32.ofNat e8)), .val (.int (Int32.ofNat (own_f xs (q)))), .val (.int (3 : Int32)), .val (.int (Int32.ofNat (own_f xs (q) % 16))), .val (.int (Int32.ofNat (own_f xs (q + 1)))), .unset] [(.int (192 : Int32)), (.int (Int32.ofNat (own_f xs (q + 1))))]))
              refine go (fun _ kont => XS.iand X0.here hx rfl (hb hby d_method_3_128) rfl kont) ?_
              show G (s₁.setTop (mkF m 129 #[.val (.ref b), .val (.int (Int32.ofNat q)), .val (.int (Int32.ofNat e8)), .val (.int (Int32.ofNat (own_f xs (q)))), .val (.int (3 : Int32)), .val (.int (Int32.ofNat (own_f xs (q) % 16))), .val (.int (Int32.ofNat (own_f xs (q + 1)))), .unset] [(.int ((Int32.ofNat (own_f xs (q + 1))) &&& (192 : Int32)))]))
              refine go (fun _ kont => XS.sipush X0.here hx rfl (hb hby d_method_3_129) kont) ?_
              show G (s₁.setTop (mkF m 132 #[.val (.ref b), .val (.int (Int32.ofNat q)), .val (.int (Int32.ofNat e8)), .val (.int (Int32.ofNat (own_f xs (q)))), .val (.int (3 : Int32)), .val (.int (Int32.ofNat (own_f xs (q) % 16))), .val (.int (Int32.ofNat (own_f xs (q + 1)))), .unset] [(.int (128 : Int32)), (.int ((Int32.ofNat (own_f xs (q + 1))) &&& (192 : Int32)))]))
              by_cases hc132 : ((Int32.ofNat (own_f xs (q + 1))) &&& (192 : Int32)) = (128 : Int32)
              · refine go (fun _ kont => XS.icmpYes X0.here hx rfl (pc0 := 132) (pc' := 137) rfl (hb hby d_method_3_132) rfl (teq hc132).1 (by decide) (by decide) kont) ?_
                show G (s₁.setTop (mkF m 137 #[.val (.ref b), .val (.int (Int32.ofNat q)), .val (.int (Int32.ofNat e8)), .val (.int (Int32.ofNat (own_f xs (q)))), .val (.int (3 : Int32)), .val (.int (Int32.ofNat (own_f xs (q) % 16))), .val (.int (Int32.ofNat (own_f xs (q + 1)))), .unset] []))
                rw [own_m192' _ hb1] at hc132
                refine go (fun _ kont => XS.iload X0.here hx rfl (hb hby d_method_3_137) rfl  kont) ?_
                show G (s₁.setTop (mkF m 139 #[.val (.ref b), .val (.int (Int32.ofNat q)), .val (.int (Int32.ofNat e8)), .val (.int (Int32.ofNat (own_f xs (q)))), .val (.int (3 : Int32)), .val (.int (Int32.ofNat (own_f xs (q) % 16))), .val (.int (Int32.ofNat (own_f xs (q + 1)))), .unset] [(.int (Int32.ofNat (own_f xs (q) % 16)))]))
                refine go (fun _ kont => XS.bipush X0.here hx rfl (hb hby d_method_3_139) kont) ?_
                show G (s₁.setTop (mkF m 141 #[.val (.ref b), .val (.int (Int32.ofNat q)), .val (.int (Int32.ofNat e8)), .val (.int (Int32.ofNat (own_f xs (q)))), .val (.int (3 : Int32)), .val (.int (Int32.ofNat (own_f xs (q) % 16))), .val (.int (Int32.ofNat (own_f xs (q + 1)))), .unset] [(.int (6 : Int32)), (.int (Int32.ofNat (own_f xs (q) % 16)))]))
                refine go (fun _ kont => XS.ishl X0.here hx rfl (hb hby d_method_3_141) rfl kont) ?_
                show G (s₁.setTop (mkF m 142 #[.val (.ref b), .val (.int (Int32.ofNat q)), .val (.int (Int32.ofNat e8)), .val (.int (Int32.ofNat (own_f xs (q)))), .val (.int (3 : Int32)), .val (.int (Int32.ofNat (own_f xs (q) % 16))), .val (.int (Int32.ofNat (own_f xs (q + 1)))), .unset] [(.int ((Int32.ofNat (own_f xs (q) % 16)) <<< ((6 : Int32) &&& 31)))]))
                refine go (fun _ kont => XS.iload X0.here hx rfl (hb hby d_method_3_142) rfl  kont) ?_
                show G (s₁.setTop (mkF m 144 #[.val (.ref b), .val (.int (Int32.ofNat q)), .val (.int (Int32.ofNat e8)), .val (.int (Int32.ofNat (own_f xs (q)))), .val (.int (3 : Int32)), .val (.int (Int32.ofNat (own_f xs (q) % 16))), .val (.int (Int32.ofNat (own_f xs (q + 1)))), .unset] [(.int (Int32.ofNat (own_f xs (q + 1)))), (.int ((Int32.ofNat (own_f xs (q) % 16)) <<< ((6 : Int32) &&& 31)))]))
                refine go (fun _ kont => XS.bipush X0.here hx rfl (hb hby d_method_3_144) kont) ?_
                show G (s₁.setTop (mkF m 146 #[.val (.ref b), .val (.int (Int32.ofNat q)), .val (.int (Int32.ofNat e8)), .val (.int (Int32.ofNat (own_f xs (q)))), .val (.int (3 : Int32)), .val (.int (Int32.ofNat (own_f xs (q) % 16))), .val (.int (Int32.ofNat (own_f xs (q + 1)))), .unset] [(.int (63 : Int32)), (.int (Int32.ofNat (own_f xs (q + 1)))), (.int ((Int32.ofNat (own_f xs (q) % 16)) <<< ((6 : Int32) &&& 31)))]))
                refine go (fun _ kont => XS.iand X0.here hx rfl (hb hby d_method_3_146) rfl kont) ?_
                show G (s₁.setTop (mkF m 147 #[.val (.ref b), .val (.int (Int32.ofNat q)), .val (.int (Int32.ofNat e8)), .val (.int (Int32.ofNat (own_f xs (q)))), .val (.int (3 : Int32)), .val (.int (Int32.ofNat (own_f xs (q) % 16))), .val (.int (Int32.ofNat (own_f xs (q + 1)))), .unset] [(.int ((Int32.ofNat (own_f xs (q + 1))) &&& (63 : Int32))), (.int ((Int32.ofNat (own_f xs (q) % 16)) <<< ((6 : Int32) &&& 31)))]))
                rw [own_a63' _ (own_fb xs (q + 1))]
                show G (s₁.setTop (mkF m 147 #[.val (.ref b), .val (.int (Int32.ofNat q)), .val (.int (Int32.ofNat e8)), .val (.int (Int32.ofNat (own_f xs (q)))), .val (.int (3 : Int32)), .val (.int (Int32.ofNat (own_f xs (q) % 16))), .val (.int (Int32.ofNat (own_f xs (q + 1)))), .unset] [(.int (Int32.ofNat (own_f xs (q + 1) % 64))), (.int ((Int32.ofNat (own_f xs (q) % 16)) <<< ((6 : Int32) &&& 31)))]))
                refine go (fun _ kont => XS.ior X0.here hx rfl (hb hby d_method_3_147) rfl kont) ?_
                show G (s₁.setTop (mkF m 148 #[.val (.ref b), .val (.int (Int32.ofNat q)), .val (.int (Int32.ofNat e8)), .val (.int (Int32.ofNat (own_f xs (q)))), .val (.int (3 : Int32)), .val (.int (Int32.ofNat (own_f xs (q) % 16))), .val (.int (Int32.ofNat (own_f xs (q + 1)))), .unset] [(.int (((Int32.ofNat (own_f xs (q) % 16)) <<< ((6 : Int32) &&& 31)) ||| (Int32.ofNat (own_f xs (q + 1) % 64))))]))
                rw [own_shor (a := (own_f xs (q) % 16)) (b := (own_f xs (q + 1) % 64)) (by omega) (by omega)]
                show G (s₁.setTop (mkF m 148 #[.val (.ref b), .val (.int (Int32.ofNat q)), .val (.int (Int32.ofNat e8)), .val (.int (Int32.ofNat (own_f xs (q)))), .val (.int (3 : Int32)), .val (.int (Int32.ofNat (own_f xs (q) % 16))), .val (.int (Int32.ofNat (own_f xs (q + 1)))), .unset] [(.int (Int32.ofNat ((own_f xs (q) % 16) * 64 + (own_f xs (q + 1) % 64))))]))
                refine go (fun _ kont => XS.istore X0.here hx rfl (hb hby d_method_3_148) rfl (l' := #[.val (.ref b), .val (.int (Int32.ofNat q)), .val (.int (Int32.ofNat e8)), .val (.int (Int32.ofNat (own_f xs (q)))), .val (.int (3 : Int32)), .val (.int (Int32.ofNat ((own_f xs (q) % 16) * 64 + (own_f xs (q + 1) % 64)))), .val (.int (Int32.ofNat (own_f xs (q + 1)))), .unset]) rfl kont) ?_
                show G (s₁.setTop (mkF m 150 #[.val (.ref b), .val (.int (Int32.ofNat q)), .val (.int (Int32.ofNat e8)), .val (.int (Int32.ofNat (own_f xs (q)))), .val (.int (3 : Int32)), .val (.int (Int32.ofNat ((own_f xs (q) % 16) * 64 + (own_f xs (q + 1) % 64)))), .val (.int (Int32.ofNat (own_f xs (q + 1)))), .unset] []))
                refine go (fun _ kont => XS.iload X0.here hx rfl (hb hby d_method_3_150) rfl  kont) ?_
                show G (s₁.setTop (mkF m 152 #[.val (.ref b), .val (.int (Int32.ofNat q)), .val (.int (Int32.ofNat e8)), .val (.int (Int32.ofNat (own_f xs (q)))), .val (.int (3 : Int32)), .val (.int (Int32.ofNat ((own_f xs (q) % 16) * 64 + (own_f xs (q + 1) % 64)))), .val (.int (Int32.ofNat (own_f xs (q + 1)))), .unset] [(.int (3 : Int32))]))
                refine go (fun _ kont => XS.iconst X0.here hx rfl (hb hby d_method_3_152) kont) ?_
                show G (s₁.setTop (mkF m 153 #[.val (.ref b), .val (.int (Int32.ofNat q)), .val (.int (Int32.ofNat e8)), .val (.int (Int32.ofNat (own_f xs (q)))), .val (.int (3 : Int32)), .val (.int (Int32.ofNat ((own_f xs (q) % 16) * 64 + (own_f xs (q + 1) % 64)))), .val (.int (Int32.ofNat (own_f xs (q + 1)))), .unset] [(.int (3 : Int32)), (.int (3 : Int32))]))
                refine go (fun _ kont => XS.icmpNo X0.here hx rfl (hb hby d_method_3_153) rfl (flt (by decide)).1 kont) ?_
                show G (s₁.setTop (mkF m 156 #[.val (.ref b), .val (.int (Int32.ofNat q)), .val (.int (Int32.ofNat e8)), .val (.int (Int32.ofNat (own_f xs (q)))), .val (.int (3 : Int32)), .val (.int (Int32.ofNat ((own_f xs (q) % 16) * 64 + (own_f xs (q + 1) % 64)))), .val (.int (Int32.ofNat (own_f xs (q + 1)))), .unset] []))
                refine go (fun _ kont => XS.aloadN X0.here hx rfl (hb hby d_method_3_156) rfl rfl kont) ?_
                show G (s₁.setTop (mkF m 157 #[.val (.ref b), .val (.int (Int32.ofNat q)), .val (.int (Int32.ofNat e8)), .val (.int (Int32.ofNat (own_f xs (q)))), .val (.int (3 : Int32)), .val (.int (Int32.ofNat ((own_f xs (q) % 16) * 64 + (own_f xs (q + 1) % 64)))), .val (.int (Int32.ofNat (own_f xs (q + 1)))), .unset] [(.ref b)]))
                refine go (fun _ kont => XS.iloadN X0.here hx rfl (hb hby d_method_3_157) rfl  kont) ?_
                show G (s₁.setTop (mkF m 158 #[.val (.ref b), .val (.int (Int32.ofNat q)), .val (.int (Int32.ofNat e8)), .val (.int (Int32.ofNat (own_f xs (q)))), .val (.int (3 : Int32)), .val (.int (Int32.ofNat ((own_f xs (q) % 16) * 64 + (own_f xs (q + 1) % 64)))), .val (.int (Int32.ofNat (own_f xs (q + 1)))), .unset] [(.int (Int32.ofNat q)), (.ref b)]))
                refine go (fun _ kont => XS.iconst X0.here hx rfl (hb hby d_method_3_158) kont) ?_
                show G (s₁.setTop (mkF m 159 #[.val (.ref b), .val (.int (Int32.ofNat q)), .val (.int (Int32.ofNat e8)), .val (.int (Int32.ofNat (own_f xs (q)))), .val (.int (3 : Int32)), .val (.int (Int32.ofNat ((own_f xs (q) % 16) * 64 + (own_f xs (q + 1) % 64)))), .val (.int (Int32.ofNat (own_f xs (q + 1)))), .unset] [(.int (2 : Int32)), (.int (Int32.ofNat q)), (.ref b)]))
                refine go (fun _ kont => XS.iadd X0.here hx rfl (hb hby d_method_3_159) rfl kont) ?_
                show G (s₁.setTop (mkF m 160 #[.val (.ref b), .val (.int (Int32.ofNat q)), .val (.int (Int32.ofNat e8)), .val (.int (Int32.ofNat (own_f xs (q)))), .val (.int (3 : Int32)), .val (.int (Int32.ofNat ((own_f xs (q) % 16) * 64 + (own_f xs (q + 1) % 64)))), .val (.int (Int32.ofNat (own_f xs (q + 1)))), .unset] [(.int ((Int32.ofNat q) + (2 : Int32))), (.ref b)]))
                rw [show Int32.ofNat q + (2 : Int32) = Int32.ofNat (q + 2) from own_addk q 2]
                show G (s₁.setTop (mkF m 160 #[.val (.ref b), .val (.int (Int32.ofNat q)), .val (.int (Int32.ofNat e8)), .val (.int (Int32.ofNat (own_f xs (q)))), .val (.int (3 : Int32)), .val (.int (Int32.ofNat ((own_f xs (q) % 16) * 64 + (own_f xs (q + 1) % 64)))), .val (.int (Int32.ofNat (own_f xs (q + 1)))), .unset] [(.int (Int32.ofNat (q + 2))), (.ref b)]))
                refine go (fun _ kont => X0.baloadBytes hx (j := (Int32.ofNat (q + 2))) (v := (.int (xs.getD (q + 2) 0))) (by rw [e0]; exact Ar.1) (State.isArrayOf_alike hZ.alike Ar.2.1) Ar.2.2 (own_hink Sl (own_neg (by rw [own_ofN (by omega)]; omega)) (own_tnO (by omega)) (k := q + 2) (by rw [List.length_map]; omega)) (own_hatk Sl (own_tnO (by omega)) (own_atI (k := q + 2) (by omega))) (g := (mkF m 160 #[.val (.ref b), .val (.int (Int32.ofNat q)), .val (.int (Int32.ofNat e8)), .val (.int (Int32.ofNat (own_f xs (q)))), .val (.int (3 : Int32)), .val (.int (Int32.ofNat ((own_f xs (q) % 16) * 64 + (own_f xs (q + 1) % 64)))), .val (.int (Int32.ofNat (own_f xs (q + 1)))), .unset] [(.int (Int32.ofNat (q + 2))), (.ref b)])) rfl rfl (hb hby d_method_3_160) _ kont) ?_
                show G (s₁.setTop (mkF m 161 #[.val (.ref b), .val (.int (Int32.ofNat q)), .val (.int (Int32.ofNat e8)), .val (.int (Int32.ofNat (own_f xs (q)))), .val (.int (3 : Int32)), .val (.int (Int32.ofNat ((own_f xs (q) % 16) * 64 + (own_f xs (q + 1) % 64)))), .val (.int (Int32.ofNat (own_f xs (q + 1)))), .unset] [(.int (xs.getD (q + 2) 0))]))
                refine go (fun _ kont => XS.sipush X0.here hx rfl (hb hby d_method_3_161) kont) ?_
                show G (s₁.setTop (mkF m 164 #[.val (.ref b), .val (.int (Int32.ofNat q)), .val (.int (Int32.ofNat e8)), .val (.int (Int32.ofNat (own_f xs (q)))), .val (.int (3 : Int32)), .val (.int (Int32.ofNat ((own_f xs (q) % 16) * 64 + (own_f xs (q + 1) % 64)))), .val (.int (Int32.ofNat (own_f xs (q + 1)))), .unset] [(.int (255 : Int32)), (.int (xs.getD (q + 2) 0))]))
                refine go (fun _ kont => XS.iand X0.here hx rfl (hb hby d_method_3_164) rfl kont) ?_
                show G (s₁.setTop (mkF m 165 #[.val (.ref b), .val (.int (Int32.ofNat q)), .val (.int (Int32.ofNat e8)), .val (.int (Int32.ofNat (own_f xs (q)))), .val (.int (3 : Int32)), .val (.int (Int32.ofNat ((own_f xs (q) % 16) * 64 + (own_f xs (q + 1) % 64)))), .val (.int (Int32.ofNat (own_f xs (q + 1)))), .unset] [(.int ((xs.getD (q + 2) 0) &&& (255 : Int32)))]))
                rw [own_fe xs (q + 2)]
                show G (s₁.setTop (mkF m 165 #[.val (.ref b), .val (.int (Int32.ofNat q)), .val (.int (Int32.ofNat e8)), .val (.int (Int32.ofNat (own_f xs (q)))), .val (.int (3 : Int32)), .val (.int (Int32.ofNat ((own_f xs (q) % 16) * 64 + (own_f xs (q + 1) % 64)))), .val (.int (Int32.ofNat (own_f xs (q + 1)))), .unset] [(.int (Int32.ofNat (own_f xs (q + 2))))]))
                refine go (fun _ kont => XS.istore X0.here hx rfl (hb hby d_method_3_165) rfl (l' := #[.val (.ref b), .val (.int (Int32.ofNat q)), .val (.int (Int32.ofNat e8)), .val (.int (Int32.ofNat (own_f xs (q)))), .val (.int (3 : Int32)), .val (.int (Int32.ofNat ((own_f xs (q) % 16) * 64 + (own_f xs (q + 1) % 64)))), .val (.int (Int32.ofNat (own_f xs (q + 1)))), .val (.int (Int32.ofNat (own_f xs (q + 2))))]) rfl kont) ?_
                show G (s₁.setTop (mkF m 167 #[.val (.ref b), .val (.int (Int32.ofNat q)), .val (.int (Int32.ofNat e8)), .val (.int (Int32.ofNat (own_f xs (q)))), .val (.int (3 : Int32)), .val (.int (Int32.ofNat ((own_f xs (q) % 16) * 64 + (own_f xs (q + 1) % 64)))), .val (.int (Int32.ofNat (own_f xs (q + 1)))), .val (.int (Int32.ofNat (own_f xs (q + 2))))] []))
                refine go (fun _ kont => XS.iload X0.here hx rfl (hb hby d_method_3_167) rfl  kont) ?_
                show G (s₁.setTop (mkF m 169 #[.val (.ref b), .val (.int (Int32.ofNat q)), .val (.int (Int32.ofNat e8)), .val (.int (Int32.ofNat (own_f xs (q)))), .val (.int (3 : Int32)), .val (.int (Int32.ofNat ((own_f xs (q) % 16) * 64 + (own_f xs (q + 1) % 64)))), .val (.int (Int32.ofNat (own_f xs (q + 1)))), .val (.int (Int32.ofNat (own_f xs (q + 2))))] [(.int (Int32.ofNat (own_f xs (q + 2))))]))
                refine go (fun _ kont => XS.sipush X0.here hx rfl (hb hby d_method_3_169) kont) ?_
                show G (s₁.setTop (mkF m 172 #[.val (.ref b), .val (.int (Int32.ofNat q)), .val (.int (Int32.ofNat e8)), .val (.int (Int32.ofNat (own_f xs (q)))), .val (.int (3 : Int32)), .val (.int (Int32.ofNat ((own_f xs (q) % 16) * 64 + (own_f xs (q + 1) % 64)))), .val (.int (Int32.ofNat (own_f xs (q + 1)))), .val (.int (Int32.ofNat (own_f xs (q + 2))))] [(.int (192 : Int32)), (.int (Int32.ofNat (own_f xs (q + 2))))]))
                refine go (fun _ kont => XS.iand X0.here hx rfl (hb hby d_method_3_172) rfl kont) ?_
                show G (s₁.setTop (mkF m 173 #[.val (.ref b), .val (.int (Int32.ofNat q)), .val (.int (Int32.ofNat e8)), .val (.int (Int32.ofNat (own_f xs (q)))), .val (.int (3 : Int32)), .val (.int (Int32.ofNat ((own_f xs (q) % 16) * 64 + (own_f xs (q + 1) % 64)))), .val (.int (Int32.ofNat (own_f xs (q + 1)))), .val (.int (Int32.ofNat (own_f xs (q + 2))))] [(.int ((Int32.ofNat (own_f xs (q + 2))) &&& (192 : Int32)))]))
                refine go (fun _ kont => XS.sipush X0.here hx rfl (hb hby d_method_3_173) kont) ?_
                show G (s₁.setTop (mkF m 176 #[.val (.ref b), .val (.int (Int32.ofNat q)), .val (.int (Int32.ofNat e8)), .val (.int (Int32.ofNat (own_f xs (q)))), .val (.int (3 : Int32)), .val (.int (Int32.ofNat ((own_f xs (q) % 16) * 64 + (own_f xs (q + 1) % 64)))), .val (.int (Int32.ofNat (own_f xs (q + 1)))), .val (.int (Int32.ofNat (own_f xs (q + 2))))] [(.int (128 : Int32)), (.int ((Int32.ofNat (own_f xs (q + 2))) &&& (192 : Int32)))]))
                by_cases hc176 : ((Int32.ofNat (own_f xs (q + 2))) &&& (192 : Int32)) = (128 : Int32)
                · refine go (fun _ kont => XS.icmpYes X0.here hx rfl (pc0 := 176) (pc' := 181) rfl (hb hby d_method_3_176) rfl (teq hc176).1 (by decide) (by decide) kont) ?_
                  show G (s₁.setTop (mkF m 181 #[.val (.ref b), .val (.int (Int32.ofNat q)), .val (.int (Int32.ofNat e8)), .val (.int (Int32.ofNat (own_f xs (q)))), .val (.int (3 : Int32)), .val (.int (Int32.ofNat ((own_f xs (q) % 16) * 64 + (own_f xs (q + 1) % 64)))), .val (.int (Int32.ofNat (own_f xs (q + 1)))), .val (.int (Int32.ofNat (own_f xs (q + 2))))] []))
                  rw [own_m192' _ hb2] at hc176
                  refine go (fun _ kont => XS.iload X0.here hx rfl (hb hby d_method_3_181) rfl  kont) ?_
                  show G (s₁.setTop (mkF m 183 #[.val (.ref b), .val (.int (Int32.ofNat q)), .val (.int (Int32.ofNat e8)), .val (.int (Int32.ofNat (own_f xs (q)))), .val (.int (3 : Int32)), .val (.int (Int32.ofNat ((own_f xs (q) % 16) * 64 + (own_f xs (q + 1) % 64)))), .val (.int (Int32.ofNat (own_f xs (q + 1)))), .val (.int (Int32.ofNat (own_f xs (q + 2))))] [(.int (Int32.ofNat ((own_f xs (q) % 16) * 64 + (own_f xs (q + 1) % 64))))]))
                  refine go (fun _ kont => XS.bipush X0.here hx rfl (hb hby d_method_3_183) kont) ?_
                  show G (s₁.setTop (mkF m 185 #[.val (.ref b), .val (.int (Int32.ofNat q)), .val (.int (Int32.ofNat e8)), .val (.int (Int32.ofNat (own_f xs (q)))), .val (.int (3 : Int32)), .val (.int (Int32.ofNat ((own_f xs (q) % 16) * 64 + (own_f xs (q + 1) % 64)))), .val (.int (Int32.ofNat (own_f xs (q + 1)))), .val (.int (Int32.ofNat (own_f xs (q + 2))))] [(.int (6 : Int32)), (.int (Int32.ofNat ((own_f xs (q) % 16) * 64 + (own_f xs (q + 1) % 64))))]))
                  refine go (fun _ kont => XS.ishl X0.here hx rfl (hb hby d_method_3_185) rfl kont) ?_
                  show G (s₁.setTop (mkF m 186 #[.val (.ref b), .val (.int (Int32.ofNat q)), .val (.int (Int32.ofNat e8)), .val (.int (Int32.ofNat (own_f xs (q)))), .val (.int (3 : Int32)), .val (.int (Int32.ofNat ((own_f xs (q) % 16) * 64 + (own_f xs (q + 1) % 64)))), .val (.int (Int32.ofNat (own_f xs (q + 1)))), .val (.int (Int32.ofNat (own_f xs (q + 2))))] [(.int ((Int32.ofNat ((own_f xs (q) % 16) * 64 + (own_f xs (q + 1) % 64))) <<< ((6 : Int32) &&& 31)))]))
                  refine go (fun _ kont => XS.iload X0.here hx rfl (hb hby d_method_3_186) rfl  kont) ?_
                  show G (s₁.setTop (mkF m 188 #[.val (.ref b), .val (.int (Int32.ofNat q)), .val (.int (Int32.ofNat e8)), .val (.int (Int32.ofNat (own_f xs (q)))), .val (.int (3 : Int32)), .val (.int (Int32.ofNat ((own_f xs (q) % 16) * 64 + (own_f xs (q + 1) % 64)))), .val (.int (Int32.ofNat (own_f xs (q + 1)))), .val (.int (Int32.ofNat (own_f xs (q + 2))))] [(.int (Int32.ofNat (own_f xs (q + 2)))), (.int ((Int32.ofNat ((own_f xs (q) % 16) * 64 + (own_f xs (q + 1) % 64))) <<< ((6 : Int32) &&& 31)))]))
                  refine go (fun _ kont => XS.bipush X0.here hx rfl (hb hby d_method_3_188) kont) ?_
                  show G (s₁.setTop (mkF m 190 #[.val (.ref b), .val (.int (Int32.ofNat q)), .val (.int (Int32.ofNat e8)), .val (.int (Int32.ofNat (own_f xs (q)))), .val (.int (3 : Int32)), .val (.int (Int32.ofNat ((own_f xs (q) % 16) * 64 + (own_f xs (q + 1) % 64)))), .val (.int (Int32.ofNat (own_f xs (q + 1)))), .val (.int (Int32.ofNat (own_f xs (q + 2))))] [(.int (63 : Int32)), (.int (Int32.ofNat (own_f xs (q + 2)))), (.int ((Int32.ofNat ((own_f xs (q) % 16) * 64 + (own_f xs (q + 1) % 64))) <<< ((6 : Int32) &&& 31)))]))
                  refine go (fun _ kont => XS.iand X0.here hx rfl (hb hby d_method_3_190) rfl kont) ?_
                  show G (s₁.setTop (mkF m 191 #[.val (.ref b), .val (.int (Int32.ofNat q)), .val (.int (Int32.ofNat e8)), .val (.int (Int32.ofNat (own_f xs (q)))), .val (.int (3 : Int32)), .val (.int (Int32.ofNat ((own_f xs (q) % 16) * 64 + (own_f xs (q + 1) % 64)))), .val (.int (Int32.ofNat (own_f xs (q + 1)))), .val (.int (Int32.ofNat (own_f xs (q + 2))))] [(.int ((Int32.ofNat (own_f xs (q + 2))) &&& (63 : Int32))), (.int ((Int32.ofNat ((own_f xs (q) % 16) * 64 + (own_f xs (q + 1) % 64))) <<< ((6 : Int32) &&& 31)))]))
                  rw [own_a63' _ (own_fb xs (q + 2))]
                  show G (s₁.setTop (mkF m 191 #[.val (.ref b), .val (.int (Int32.ofNat q)), .val (.int (Int32.ofNat e8)), .val (.int (Int32.ofNat (own_f xs (q)))), .val (.int (3 : Int32)), .val (.int (Int32.ofNat ((own_f xs (q) % 16) * 64 + (own_f xs (q + 1) % 64)))), .val (.int (Int32.ofNat (own_f xs (q + 1)))), .val (.int (Int32.ofNat (own_f xs (q + 2))))] [(.int (Int32.ofNat (own_f xs (q + 2) % 64))), (.int ((Int32.ofNat ((own_f xs (q) % 16) * 64 + (own_f xs (q + 1) % 64))) <<< ((6 : Int32) &&& 31)))]))
                  refine go (fun _ kont => XS.ior X0.here hx rfl (hb hby d_method_3_191) rfl kont) ?_
                  show G (s₁.setTop (mkF m 192 #[.val (.ref b), .val (.int (Int32.ofNat q)), .val (.int (Int32.ofNat e8)), .val (.int (Int32.ofNat (own_f xs (q)))), .val (.int (3 : Int32)), .val (.int (Int32.ofNat ((own_f xs (q) % 16) * 64 + (own_f xs (q + 1) % 64)))), .val (.int (Int32.ofNat (own_f xs (q + 1)))), .val (.int (Int32.ofNat (own_f xs (q + 2))))] [(.int (((Int32.ofNat ((own_f xs (q) % 16) * 64 + (own_f xs (q + 1) % 64))) <<< ((6 : Int32) &&& 31)) ||| (Int32.ofNat (own_f xs (q + 2) % 64))))]))
                  rw [own_shor (a := ((own_f xs (q) % 16) * 64 + (own_f xs (q + 1) % 64))) (b := (own_f xs (q + 2) % 64)) (by omega) (by omega)]
                  show G (s₁.setTop (mkF m 192 #[.val (.ref b), .val (.int (Int32.ofNat q)), .val (.int (Int32.ofNat e8)), .val (.int (Int32.ofNat (own_f xs (q)))), .val (.int (3 : Int32)), .val (.int (Int32.ofNat ((own_f xs (q) % 16) * 64 + (own_f xs (q + 1) % 64)))), .val (.int (Int32.ofNat (own_f xs (q + 1)))), .val (.int (Int32.ofNat (own_f xs (q + 2))))] [(.int (Int32.ofNat (((own_f xs (q) % 16) * 64 + (own_f xs (q + 1) % 64)) * 64 + (own_f xs (q + 2) % 64))))]))
                  refine go (fun _ kont => XS.istore X0.here hx rfl (hb hby d_method_3_192) rfl (l' := #[.val (.ref b), .val (.int (Int32.ofNat q)), .val (.int (Int32.ofNat e8)), .val (.int (Int32.ofNat (own_f xs (q)))), .val (.int (3 : Int32)), .val (.int (Int32.ofNat (((own_f xs (q) % 16) * 64 + (own_f xs (q + 1) % 64)) * 64 + (own_f xs (q + 2) % 64)))), .val (.int (Int32.ofNat (own_f xs (q + 1)))), .val (.int (Int32.ofNat (own_f xs (q + 2))))]) rfl kont) ?_
                  show G (s₁.setTop (mkF m 194 #[.val (.ref b), .val (.int (Int32.ofNat q)), .val (.int (Int32.ofNat e8)), .val (.int (Int32.ofNat (own_f xs (q)))), .val (.int (3 : Int32)), .val (.int (Int32.ofNat (((own_f xs (q) % 16) * 64 + (own_f xs (q + 1) % 64)) * 64 + (own_f xs (q + 2) % 64)))), .val (.int (Int32.ofNat (own_f xs (q + 1)))), .val (.int (Int32.ofNat (own_f xs (q + 2))))] []))
                  refine go (fun _ kont => XS.iload X0.here hx rfl (hb hby d_method_3_194) rfl  kont) ?_
                  show G (s₁.setTop (mkF m 196 #[.val (.ref b), .val (.int (Int32.ofNat q)), .val (.int (Int32.ofNat e8)), .val (.int (Int32.ofNat (own_f xs (q)))), .val (.int (3 : Int32)), .val (.int (Int32.ofNat (((own_f xs (q) % 16) * 64 + (own_f xs (q + 1) % 64)) * 64 + (own_f xs (q + 2) % 64)))), .val (.int (Int32.ofNat (own_f xs (q + 1)))), .val (.int (Int32.ofNat (own_f xs (q + 2))))] [(.int (3 : Int32))]))
                  refine go (fun _ kont => XS.iconst X0.here hx rfl (hb hby d_method_3_196) kont) ?_
                  show G (s₁.setTop (mkF m 197 #[.val (.ref b), .val (.int (Int32.ofNat q)), .val (.int (Int32.ofNat e8)), .val (.int (Int32.ofNat (own_f xs (q)))), .val (.int (3 : Int32)), .val (.int (Int32.ofNat (((own_f xs (q) % 16) * 64 + (own_f xs (q + 1) % 64)) * 64 + (own_f xs (q + 2) % 64)))), .val (.int (Int32.ofNat (own_f xs (q + 1)))), .val (.int (Int32.ofNat (own_f xs (q + 2))))] [(.int (4 : Int32)), (.int (3 : Int32))]))
                  refine go (fun _ kont => XS.icmpYes X0.here hx rfl (pc0 := 197) (pc' := 238) rfl (hb hby d_method_3_197) rfl (feq (by decide)).2 (by decide) (by decide) kont) ?_
                  show G (s₁.setTop (mkF m 238 #[.val (.ref b), .val (.int (Int32.ofNat q)), .val (.int (Int32.ofNat e8)), .val (.int (Int32.ofNat (own_f xs (q)))), .val (.int (3 : Int32)), .val (.int (Int32.ofNat (((own_f xs (q) % 16) * 64 + (own_f xs (q + 1) % 64)) * 64 + (own_f xs (q + 2) % 64)))), .val (.int (Int32.ofNat (own_f xs (q + 1)))), .val (.int (Int32.ofNat (own_f xs (q + 2))))] []))
                  refine go (fun _ kont => XS.iload X0.here hx rfl (hb hby d_method_3_238) rfl  kont) ?_
                  show G (s₁.setTop (mkF m 240 #[.val (.ref b), .val (.int (Int32.ofNat q)), .val (.int (Int32.ofNat e8)), .val (.int (Int32.ofNat (own_f xs (q)))), .val (.int (3 : Int32)), .val (.int (Int32.ofNat (((own_f xs (q) % 16) * 64 + (own_f xs (q + 1) % 64)) * 64 + (own_f xs (q + 2) % 64)))), .val (.int (Int32.ofNat (own_f xs (q + 1)))), .val (.int (Int32.ofNat (own_f xs (q + 2))))] [(.int (3 : Int32))]))
                  refine go (fun _ kont => XS.iconst X0.here hx rfl (hb hby d_method_3_240) kont) ?_
                  show G (s₁.setTop (mkF m 241 #[.val (.ref b), .val (.int (Int32.ofNat q)), .val (.int (Int32.ofNat e8)), .val (.int (Int32.ofNat (own_f xs (q)))), .val (.int (3 : Int32)), .val (.int (Int32.ofNat (((own_f xs (q) % 16) * 64 + (own_f xs (q + 1) % 64)) * 64 + (own_f xs (q + 2) % 64)))), .val (.int (Int32.ofNat (own_f xs (q + 1)))), .val (.int (Int32.ofNat (own_f xs (q + 2))))] [(.int (2 : Int32)), (.int (3 : Int32))]))
                  refine go (fun _ kont => XS.icmpYes X0.here hx rfl (pc0 := 241) (pc' := 254) rfl (hb hby d_method_3_241) rfl (feq (by decide)).2 (by decide) (by decide) kont) ?_
                  show G (s₁.setTop (mkF m 254 #[.val (.ref b), .val (.int (Int32.ofNat q)), .val (.int (Int32.ofNat e8)), .val (.int (Int32.ofNat (own_f xs (q)))), .val (.int (3 : Int32)), .val (.int (Int32.ofNat (((own_f xs (q) % 16) * 64 + (own_f xs (q + 1) % 64)) * 64 + (own_f xs (q + 2) % 64)))), .val (.int (Int32.ofNat (own_f xs (q + 1)))), .val (.int (Int32.ofNat (own_f xs (q + 2))))] []))
                  refine go (fun _ kont => XS.iload X0.here hx rfl (hb hby d_method_3_254) rfl  kont) ?_
                  show G (s₁.setTop (mkF m 256 #[.val (.ref b), .val (.int (Int32.ofNat q)), .val (.int (Int32.ofNat e8)), .val (.int (Int32.ofNat (own_f xs (q)))), .val (.int (3 : Int32)), .val (.int (Int32.ofNat (((own_f xs (q) % 16) * 64 + (own_f xs (q + 1) % 64)) * 64 + (own_f xs (q + 2) % 64)))), .val (.int (Int32.ofNat (own_f xs (q + 1)))), .val (.int (Int32.ofNat (own_f xs (q + 2))))] [(.int (3 : Int32))]))
                  refine go (fun _ kont => XS.iconst X0.here hx rfl (hb hby d_method_3_256) kont) ?_
                  show G (s₁.setTop (mkF m 257 #[.val (.ref b), .val (.int (Int32.ofNat q)), .val (.int (Int32.ofNat e8)), .val (.int (Int32.ofNat (own_f xs (q)))), .val (.int (3 : Int32)), .val (.int (Int32.ofNat (((own_f xs (q) % 16) * 64 + (own_f xs (q + 1) % 64)) * 64 + (own_f xs (q + 2) % 64)))), .val (.int (Int32.ofNat (own_f xs (q + 1)))), .val (.int (Int32.ofNat (own_f xs (q + 2))))] [(.int (3 : Int32)), (.int (3 : Int32))]))
                  refine go (fun _ kont => XS.icmpNo X0.here hx rfl (hb hby d_method_3_257) rfl (teq (by decide)).2 kont) ?_
                  show G (s₁.setTop (mkF m 260 #[.val (.ref b), .val (.int (Int32.ofNat q)), .val (.int (Int32.ofNat e8)), .val (.int (Int32.ofNat (own_f xs (q)))), .val (.int (3 : Int32)), .val (.int (Int32.ofNat (((own_f xs (q) % 16) * 64 + (own_f xs (q + 1) % 64)) * 64 + (own_f xs (q + 2) % 64)))), .val (.int (Int32.ofNat (own_f xs (q + 1)))), .val (.int (Int32.ofNat (own_f xs (q + 2))))] []))
                  refine go (fun _ kont => XS.iload X0.here hx rfl (hb hby d_method_3_260) rfl  kont) ?_
                  show G (s₁.setTop (mkF m 262 #[.val (.ref b), .val (.int (Int32.ofNat q)), .val (.int (Int32.ofNat e8)), .val (.int (Int32.ofNat (own_f xs (q)))), .val (.int (3 : Int32)), .val (.int (Int32.ofNat (((own_f xs (q) % 16) * 64 + (own_f xs (q + 1) % 64)) * 64 + (own_f xs (q + 2) % 64)))), .val (.int (Int32.ofNat (own_f xs (q + 1)))), .val (.int (Int32.ofNat (own_f xs (q + 2))))] [(.int (Int32.ofNat (((own_f xs (q) % 16) * 64 + (own_f xs (q + 1) % 64)) * 64 + (own_f xs (q + 2) % 64))))]))
                  refine go (fun _ kont => XS.sipush X0.here hx rfl (hb hby d_method_3_262) kont) ?_
                  show G (s₁.setTop (mkF m 265 #[.val (.ref b), .val (.int (Int32.ofNat q)), .val (.int (Int32.ofNat e8)), .val (.int (Int32.ofNat (own_f xs (q)))), .val (.int (3 : Int32)), .val (.int (Int32.ofNat (((own_f xs (q) % 16) * 64 + (own_f xs (q + 1) % 64)) * 64 + (own_f xs (q + 2) % 64)))), .val (.int (Int32.ofNat (own_f xs (q + 1)))), .val (.int (Int32.ofNat (own_f xs (q + 2))))] [(.int (2048 : Int32)), (.int (Int32.ofNat (((own_f xs (q) % 16) * 64 + (own_f xs (q + 1) % 64)) * 64 + (own_f xs (q + 2) % 64))))]))
                  by_cases hc265 : (Int32.ofNat (((own_f xs (q) % 16) * 64 + (own_f xs (q + 1) % 64)) * 64 + (own_f xs (q + 2) % 64))) < (2048 : Int32)
                  · refine go (fun _ kont => XS.icmpYes X0.here hx rfl (pc0 := 265) (pc' := 282) rfl (hb hby d_method_3_265) rfl (tlt hc265).1 (by decide) (by decide) kont) ?_
                    show G (s₁.setTop (mkF m 282 #[.val (.ref b), .val (.int (Int32.ofNat q)), .val (.int (Int32.ofNat e8)), .val (.int (Int32.ofNat (own_f xs (q)))), .val (.int (3 : Int32)), .val (.int (Int32.ofNat (((own_f xs (q) % 16) * 64 + (own_f xs (q + 1) % 64)) * 64 + (own_f xs (q + 2) % 64)))), .val (.int (Int32.ofNat (own_f xs (q + 1)))), .val (.int (Int32.ofNat (own_f xs (q + 2))))] []))
                    rw [show Int32.ofNat (((own_f xs (q) % 16) * 64 + (own_f xs (q + 1) % 64)) * 64 + (own_f xs (q + 2) % 64)) < (2048 : Int32) ↔ (((own_f xs (q) % 16) * 64 + (own_f xs (q + 1) % 64)) * 64 + (own_f xs (q + 2) % 64)) < 2048 from own_ltO (d := (((own_f xs (q) % 16) * 64 + (own_f xs (q + 1) % 64)) * 64 + (own_f xs (q + 2) % 64))) (k := 2048) (by omega) (by omega)] at hc265
                    refine go (fun _ kont => XS.iconst X0.here hx rfl (hb hby d_method_3_282) kont) ?_
                    show G (s₁.setTop (mkF m 283 #[.val (.ref b), .val (.int (Int32.ofNat q)), .val (.int (Int32.ofNat e8)), .val (.int (Int32.ofNat (own_f xs (q)))), .val (.int (3 : Int32)), .val (.int (Int32.ofNat (((own_f xs (q) % 16) * 64 + (own_f xs (q + 1) % 64)) * 64 + (own_f xs (q + 2) % 64)))), .val (.int (Int32.ofNat (own_f xs (q + 1)))), .val (.int (Int32.ofNat (own_f xs (q + 2))))] [(.int (-1 : Int32))]))
                    rw [hG]
                    exact own_retI X0 hx Bd.returns (hb hby d_method_3_283) hlk (by decide) (by decide) ⟨by congr 2; exact (own_st_bad hc6' (by unfold own_N own_n; (repeat' split) <;> omega)).symm, N0, e0⟩
                  · refine go (fun _ kont => XS.icmpNo X0.here hx rfl (hb hby d_method_3_265) rfl (flt hc265).1 kont) ?_
                    show G (s₁.setTop (mkF m 268 #[.val (.ref b), .val (.int (Int32.ofNat q)), .val (.int (Int32.ofNat e8)), .val (.int (Int32.ofNat (own_f xs (q)))), .val (.int (3 : Int32)), .val (.int (Int32.ofNat (((own_f xs (q) % 16) * 64 + (own_f xs (q + 1) % 64)) * 64 + (own_f xs (q + 2) % 64)))), .val (.int (Int32.ofNat (own_f xs (q + 1)))), .val (.int (Int32.ofNat (own_f xs (q + 2))))] []))
                    rw [show Int32.ofNat (((own_f xs (q) % 16) * 64 + (own_f xs (q + 1) % 64)) * 64 + (own_f xs (q + 2) % 64)) < (2048 : Int32) ↔ (((own_f xs (q) % 16) * 64 + (own_f xs (q + 1) % 64)) * 64 + (own_f xs (q + 2) % 64)) < 2048 from own_ltO (d := (((own_f xs (q) % 16) * 64 + (own_f xs (q + 1) % 64)) * 64 + (own_f xs (q + 2) % 64))) (k := 2048) (by omega) (by omega)] at hc265
                    refine go (fun _ kont => XS.iload X0.here hx rfl (hb hby d_method_3_268) rfl  kont) ?_
                    show G (s₁.setTop (mkF m 270 #[.val (.ref b), .val (.int (Int32.ofNat q)), .val (.int (Int32.ofNat e8)), .val (.int (Int32.ofNat (own_f xs (q)))), .val (.int (3 : Int32)), .val (.int (Int32.ofNat (((own_f xs (q) % 16) * 64 + (own_f xs (q + 1) % 64)) * 64 + (own_f xs (q + 2) % 64)))), .val (.int (Int32.ofNat (own_f xs (q + 1)))), .val (.int (Int32.ofNat (own_f xs (q + 2))))] [(.int (Int32.ofNat (((own_f xs (q) % 16) * 64 + (own_f xs (q + 1) % 64)) * 64 + (own_f xs (q + 2) % 64))))]))
                    refine go (fun _ kont => X0.ldcInt hx hown (mvT hZ (hw _ (List.mem_of_getElem? (i := 10) rfl))) (g := (mkF m 270 #[.val (.ref b), .val (.int (Int32.ofNat q)), .val (.int (Int32.ofNat e8)), .val (.int (Int32.ofNat (own_f xs (q)))), .val (.int (3 : Int32)), .val (.int (Int32.ofNat (((own_f xs (q) % 16) * 64 + (own_f xs (q + 1) % 64)) * 64 + (own_f xs (q + 2) % 64)))), .val (.int (Int32.ofNat (own_f xs (q + 1)))), .val (.int (Int32.ofNat (own_f xs (q + 2))))] [(.int (Int32.ofNat (((own_f xs (q) % 16) * 64 + (own_f xs (q + 1) % 64)) * 64 + (own_f xs (q + 2) % 64))))])) rfl (hb hby d_method_3_270) _ kont) ?_
                    show G (s₁.setTop (mkF m 272 #[.val (.ref b), .val (.int (Int32.ofNat q)), .val (.int (Int32.ofNat e8)), .val (.int (Int32.ofNat (own_f xs (q)))), .val (.int (3 : Int32)), .val (.int (Int32.ofNat (((own_f xs (q) % 16) * 64 + (own_f xs (q + 1) % 64)) * 64 + (own_f xs (q + 2) % 64)))), .val (.int (Int32.ofNat (own_f xs (q + 1)))), .val (.int (Int32.ofNat (own_f xs (q + 2))))] [(.int (55296 : Int32)), (.int (Int32.ofNat (((own_f xs (q) % 16) * 64 + (own_f xs (q + 1) % 64)) * 64 + (own_f xs (q + 2) % 64))))]))
                    by_cases hc272 : (Int32.ofNat (((own_f xs (q) % 16) * 64 + (own_f xs (q + 1) % 64)) * 64 + (own_f xs (q + 2) % 64))) < (55296 : Int32)
                    · refine go (fun _ kont => XS.icmpYes X0.here hx rfl (pc0 := 272) (pc' := 284) rfl (hb hby d_method_3_272) rfl (tlt hc272).1 (by decide) (by decide) kont) ?_
                      show G (s₁.setTop (mkF m 284 #[.val (.ref b), .val (.int (Int32.ofNat q)), .val (.int (Int32.ofNat e8)), .val (.int (Int32.ofNat (own_f xs (q)))), .val (.int (3 : Int32)), .val (.int (Int32.ofNat (((own_f xs (q) % 16) * 64 + (own_f xs (q + 1) % 64)) * 64 + (own_f xs (q + 2) % 64)))), .val (.int (Int32.ofNat (own_f xs (q + 1)))), .val (.int (Int32.ofNat (own_f xs (q + 2))))] []))
                      rw [show Int32.ofNat (((own_f xs (q) % 16) * 64 + (own_f xs (q + 1) % 64)) * 64 + (own_f xs (q + 2) % 64)) < (55296 : Int32) ↔ (((own_f xs (q) % 16) * 64 + (own_f xs (q + 1) % 64)) * 64 + (own_f xs (q + 2) % 64)) < 55296 from own_ltO (d := (((own_f xs (q) % 16) * 64 + (own_f xs (q + 1) % 64)) * 64 + (own_f xs (q + 2) % 64))) (k := 55296) (by omega) (by omega)] at hc272
                      refine go (fun _ kont => XS.iload X0.here hx rfl (hb hby d_method_3_284) rfl  kont) ?_
                      show G (s₁.setTop (mkF m 286 #[.val (.ref b), .val (.int (Int32.ofNat q)), .val (.int (Int32.ofNat e8)), .val (.int (Int32.ofNat (own_f xs (q)))), .val (.int (3 : Int32)), .val (.int (Int32.ofNat (((own_f xs (q) % 16) * 64 + (own_f xs (q + 1) % 64)) * 64 + (own_f xs (q + 2) % 64)))), .val (.int (Int32.ofNat (own_f xs (q + 1)))), .val (.int (Int32.ofNat (own_f xs (q + 2))))] [(.int (3 : Int32))]))
                      refine go (fun _ kont => XS.iconst X0.here hx rfl (hb hby d_method_3_286) kont) ?_
                      show G (s₁.setTop (mkF m 287 #[.val (.ref b), .val (.int (Int32.ofNat q)), .val (.int (Int32.ofNat e8)), .val (.int (Int32.ofNat (own_f xs (q)))), .val (.int (3 : Int32)), .val (.int (Int32.ofNat (((own_f xs (q) % 16) * 64 + (own_f xs (q + 1) % 64)) * 64 + (own_f xs (q + 2) % 64)))), .val (.int (Int32.ofNat (own_f xs (q + 1)))), .val (.int (Int32.ofNat (own_f xs (q + 2))))] [(.int (4 : Int32)), (.int (3 : Int32))]))
                      refine go (fun _ kont => XS.icmpYes X0.here hx rfl (pc0 := 287) (pc' := 306) rfl (hb hby d_method_3_287) rfl (feq (by decide)).2 (by decide) (by decide) kont) ?_
                      show G (s₁.setTop (mkF m 306 #[.val (.ref b), .val (.int (Int32.ofNat q)), .val (.int (Int32.ofNat e8)), .val (.int (Int32.ofNat (own_f xs (q)))), .val (.int (3 : Int32)), .val (.int (Int32.ofNat (((own_f xs (q) % 16) * 64 + (own_f xs (q + 1) % 64)) * 64 + (own_f xs (q + 2) % 64)))), .val (.int (Int32.ofNat (own_f xs (q + 1)))), .val (.int (Int32.ofNat (own_f xs (q + 2))))] []))
                      refine go (fun _ kont => XS.iloadN X0.here hx rfl (hb hby d_method_3_306) rfl  kont) ?_
                      show G (s₁.setTop (mkF m 307 #[.val (.ref b), .val (.int (Int32.ofNat q)), .val (.int (Int32.ofNat e8)), .val (.int (Int32.ofNat (own_f xs (q)))), .val (.int (3 : Int32)), .val (.int (Int32.ofNat (((own_f xs (q) % 16) * 64 + (own_f xs (q + 1) % 64)) * 64 + (own_f xs (q + 2) % 64)))), .val (.int (Int32.ofNat (own_f xs (q + 1)))), .val (.int (Int32.ofNat (own_f xs (q + 2))))] [(.int (Int32.ofNat q))]))
                      refine go (fun _ kont => XS.iload X0.here hx rfl (hb hby d_method_3_307) rfl  kont) ?_
                      show G (s₁.setTop (mkF m 309 #[.val (.ref b), .val (.int (Int32.ofNat q)), .val (.int (Int32.ofNat e8)), .val (.int (Int32.ofNat (own_f xs (q)))), .val (.int (3 : Int32)), .val (.int (Int32.ofNat (((own_f xs (q) % 16) * 64 + (own_f xs (q + 1) % 64)) * 64 + (own_f xs (q + 2) % 64)))), .val (.int (Int32.ofNat (own_f xs (q + 1)))), .val (.int (Int32.ofNat (own_f xs (q + 2))))] [(.int (3 : Int32)), (.int (Int32.ofNat q))]))
                      refine go (fun _ kont => XS.iadd X0.here hx rfl (hb hby d_method_3_309) rfl kont) ?_
                      show G (s₁.setTop (mkF m 310 #[.val (.ref b), .val (.int (Int32.ofNat q)), .val (.int (Int32.ofNat e8)), .val (.int (Int32.ofNat (own_f xs (q)))), .val (.int (3 : Int32)), .val (.int (Int32.ofNat (((own_f xs (q) % 16) * 64 + (own_f xs (q + 1) % 64)) * 64 + (own_f xs (q + 2) % 64)))), .val (.int (Int32.ofNat (own_f xs (q + 1)))), .val (.int (Int32.ofNat (own_f xs (q + 2))))] [(.int ((Int32.ofNat q) + (3 : Int32)))]))
                      rw [hG]
                      exact own_retI X0 hx Bd.returns (hb hby d_method_3_310) hlk (by decide) (by decide) ⟨by congr 2; exact (own_st_ok (N := 3) hc6' (by unfold own_N own_n; (repeat' split) <;> omega) (by decide)).symm, N0, e0⟩
                    · refine go (fun _ kont => XS.icmpNo X0.here hx rfl (hb hby d_method_3_272) rfl (flt hc272).1 kont) ?_
                      show G (s₁.setTop (mkF m 275 #[.val (.ref b), .val (.int (Int32.ofNat q)), .val (.int (Int32.ofNat e8)), .val (.int (Int32.ofNat (own_f xs (q)))), .val (.int (3 : Int32)), .val (.int (Int32.ofNat (((own_f xs (q) % 16) * 64 + (own_f xs (q + 1) % 64)) * 64 + (own_f xs (q + 2) % 64)))), .val (.int (Int32.ofNat (own_f xs (q + 1)))), .val (.int (Int32.ofNat (own_f xs (q + 2))))] []))
                      rw [show Int32.ofNat (((own_f xs (q) % 16) * 64 + (own_f xs (q + 1) % 64)) * 64 + (own_f xs (q + 2) % 64)) < (55296 : Int32) ↔ (((own_f xs (q) % 16) * 64 + (own_f xs (q + 1) % 64)) * 64 + (own_f xs (q + 2) % 64)) < 55296 from own_ltO (d := (((own_f xs (q) % 16) * 64 + (own_f xs (q + 1) % 64)) * 64 + (own_f xs (q + 2) % 64))) (k := 55296) (by omega) (by omega)] at hc272
                      refine go (fun _ kont => XS.iload X0.here hx rfl (hb hby d_method_3_275) rfl  kont) ?_
                      show G (s₁.setTop (mkF m 277 #[.val (.ref b), .val (.int (Int32.ofNat q)), .val (.int (Int32.ofNat e8)), .val (.int (Int32.ofNat (own_f xs (q)))), .val (.int (3 : Int32)), .val (.int (Int32.ofNat (((own_f xs (q) % 16) * 64 + (own_f xs (q + 1) % 64)) * 64 + (own_f xs (q + 2) % 64)))), .val (.int (Int32.ofNat (own_f xs (q + 1)))), .val (.int (Int32.ofNat (own_f xs (q + 2))))] [(.int (Int32.ofNat (((own_f xs (q) % 16) * 64 + (own_f xs (q + 1) % 64)) * 64 + (own_f xs (q + 2) % 64))))]))
                      refine go (fun _ kont => X0.ldcInt hx hown (mvT hZ (hw _ (List.mem_of_getElem? (i := 11) rfl))) (g := (mkF m 277 #[.val (.ref b), .val (.int (Int32.ofNat q)), .val (.int (Int32.ofNat e8)), .val (.int (Int32.ofNat (own_f xs (q)))), .val (.int (3 : Int32)), .val (.int (Int32.ofNat (((own_f xs (q) % 16) * 64 + (own_f xs (q + 1) % 64)) * 64 + (own_f xs (q + 2) % 64)))), .val (.int (Int32.ofNat (own_f xs (q + 1)))), .val (.int (Int32.ofNat (own_f xs (q + 2))))] [(.int (Int32.ofNat (((own_f xs (q) % 16) * 64 + (own_f xs (q + 1) % 64)) * 64 + (own_f xs (q + 2) % 64))))])) rfl (hb hby d_method_3_277) _ kont) ?_
                      show G (s₁.setTop (mkF m 279 #[.val (.ref b), .val (.int (Int32.ofNat q)), .val (.int (Int32.ofNat e8)), .val (.int (Int32.ofNat (own_f xs (q)))), .val (.int (3 : Int32)), .val (.int (Int32.ofNat (((own_f xs (q) % 16) * 64 + (own_f xs (q + 1) % 64)) * 64 + (own_f xs (q + 2) % 64)))), .val (.int (Int32.ofNat (own_f xs (q + 1)))), .val (.int (Int32.ofNat (own_f xs (q + 2))))] [(.int (57343 : Int32)), (.int (Int32.ofNat (((own_f xs (q) % 16) * 64 + (own_f xs (q + 1) % 64)) * 64 + (own_f xs (q + 2) % 64))))]))
                      by_cases hc279 : (57343 : Int32) < (Int32.ofNat (((own_f xs (q) % 16) * 64 + (own_f xs (q + 1) % 64)) * 64 + (own_f xs (q + 2) % 64)))
                      · refine go (fun _ kont => XS.icmpYes X0.here hx rfl (pc0 := 279) (pc' := 284) rfl (hb hby d_method_3_279) rfl (tlt hc279).2.2.1 (by decide) (by decide) kont) ?_
                        show G (s₁.setTop (mkF m 284 #[.val (.ref b), .val (.int (Int32.ofNat q)), .val (.int (Int32.ofNat e8)), .val (.int (Int32.ofNat (own_f xs (q)))), .val (.int (3 : Int32)), .val (.int (Int32.ofNat (((own_f xs (q) % 16) * 64 + (own_f xs (q + 1) % 64)) * 64 + (own_f xs (q + 2) % 64)))), .val (.int (Int32.ofNat (own_f xs (q + 1)))), .val (.int (Int32.ofNat (own_f xs (q + 2))))] []))
                        rw [show (57343 : Int32) < Int32.ofNat (((own_f xs (q) % 16) * 64 + (own_f xs (q + 1) % 64)) * 64 + (own_f xs (q + 2) % 64)) ↔ 57343 < (((own_f xs (q) % 16) * 64 + (own_f xs (q + 1) % 64)) * 64 + (own_f xs (q + 2) % 64)) from own_ltO (d := 57343) (k := (((own_f xs (q) % 16) * 64 + (own_f xs (q + 1) % 64)) * 64 + (own_f xs (q + 2) % 64))) (by omega) (by omega)] at hc279
                        refine go (fun _ kont => XS.iload X0.here hx rfl (hb hby d_method_3_284) rfl  kont) ?_
                        show G (s₁.setTop (mkF m 286 #[.val (.ref b), .val (.int (Int32.ofNat q)), .val (.int (Int32.ofNat e8)), .val (.int (Int32.ofNat (own_f xs (q)))), .val (.int (3 : Int32)), .val (.int (Int32.ofNat (((own_f xs (q) % 16) * 64 + (own_f xs (q + 1) % 64)) * 64 + (own_f xs (q + 2) % 64)))), .val (.int (Int32.ofNat (own_f xs (q + 1)))), .val (.int (Int32.ofNat (own_f xs (q + 2))))] [(.int (3 : Int32))]))
                        refine go (fun _ kont => XS.iconst X0.here hx rfl (hb hby d_method_3_286) kont) ?_
                        show G (s₁.setTop (mkF m 287 #[.val (.ref b), .val (.int (Int32.ofNat q)), .val (.int (Int32.ofNat e8)), .val (.int (Int32.ofNat (own_f xs (q)))), .val (.int (3 : Int32)), .val (.int (Int32.ofNat (((own_f xs (q) % 16) * 64 + (own_f xs (q + 1) % 64)) * 64 + (own_f xs (q + 2) % 64)))), .val (.int (Int32.ofNat (own_f xs (q + 1)))), .val (.int (Int32.ofNat (own_f xs (q + 2))))] [(.int (4 : Int32)), (.int (3 : Int32))]))
                        refine go (fun _ kont => XS.icmpYes X0.here hx rfl (pc0 := 287) (pc' := 306) rfl (hb hby d_method_3_287) rfl (feq (by decide)).2 (by decide) (by decide) kont) ?_
                        show G (s₁.setTop (mkF m 306 #[.val (.ref b), .val (.int (Int32.ofNat q)), .val (.int (Int32.ofNat e8)), .val (.int (Int32.ofNat (own_f xs (q)))), .val (.int (3 : Int32)), .val (.int (Int32.ofNat (((own_f xs (q) % 16) * 64 + (own_f xs (q + 1) % 64)) * 64 + (own_f xs (q + 2) % 64)))), .val (.int (Int32.ofNat (own_f xs (q + 1)))), .val (.int (Int32.ofNat (own_f xs (q + 2))))] []))
                        refine go (fun _ kont => XS.iloadN X0.here hx rfl (hb hby d_method_3_306) rfl  kont) ?_
                        show G (s₁.setTop (mkF m 307 #[.val (.ref b), .val (.int (Int32.ofNat q)), .val (.int (Int32.ofNat e8)), .val (.int (Int32.ofNat (own_f xs (q)))), .val (.int (3 : Int32)), .val (.int (Int32.ofNat (((own_f xs (q) % 16) * 64 + (own_f xs (q + 1) % 64)) * 64 + (own_f xs (q + 2) % 64)))), .val (.int (Int32.ofNat (own_f xs (q + 1)))), .val (.int (Int32.ofNat (own_f xs (q + 2))))] [(.int (Int32.ofNat q))]))
                        refine go (fun _ kont => XS.iload X0.here hx rfl (hb hby d_method_3_307) rfl  kont) ?_
                        show G (s₁.setTop (mkF m 309 #[.val (.ref b), .val (.int (Int32.ofNat q)), .val (.int (Int32.ofNat e8)), .val (.int (Int32.ofNat (own_f xs (q)))), .val (.int (3 : Int32)), .val (.int (Int32.ofNat (((own_f xs (q) % 16) * 64 + (own_f xs (q + 1) % 64)) * 64 + (own_f xs (q + 2) % 64)))), .val (.int (Int32.ofNat (own_f xs (q + 1)))), .val (.int (Int32.ofNat (own_f xs (q + 2))))] [(.int (3 : Int32)), (.int (Int32.ofNat q))]))
                        refine go (fun _ kont => XS.iadd X0.here hx rfl (hb hby d_method_3_309) rfl kont) ?_
                        show G (s₁.setTop (mkF m 310 #[.val (.ref b), .val (.int (Int32.ofNat q)), .val (.int (Int32.ofNat e8)), .val (.int (Int32.ofNat (own_f xs (q)))), .val (.int (3 : Int32)), .val (.int (Int32.ofNat (((own_f xs (q) % 16) * 64 + (own_f xs (q + 1) % 64)) * 64 + (own_f xs (q + 2) % 64)))), .val (.int (Int32.ofNat (own_f xs (q + 1)))), .val (.int (Int32.ofNat (own_f xs (q + 2))))] [(.int ((Int32.ofNat q) + (3 : Int32)))]))
                        rw [hG]
                        exact own_retI X0 hx Bd.returns (hb hby d_method_3_310) hlk (by decide) (by decide) ⟨by congr 2; exact (own_st_ok (N := 3) hc6' (by unfold own_N own_n; (repeat' split) <;> omega) (by decide)).symm, N0, e0⟩
                      · refine go (fun _ kont => XS.icmpNo X0.here hx rfl (hb hby d_method_3_279) rfl (flt hc279).2.2.1 kont) ?_
                        show G (s₁.setTop (mkF m 282 #[.val (.ref b), .val (.int (Int32.ofNat q)), .val (.int (Int32.ofNat e8)), .val (.int (Int32.ofNat (own_f xs (q)))), .val (.int (3 : Int32)), .val (.int (Int32.ofNat (((own_f xs (q) % 16) * 64 + (own_f xs (q + 1) % 64)) * 64 + (own_f xs (q + 2) % 64)))), .val (.int (Int32.ofNat (own_f xs (q + 1)))), .val (.int (Int32.ofNat (own_f xs (q + 2))))] []))
                        rw [show (57343 : Int32) < Int32.ofNat (((own_f xs (q) % 16) * 64 + (own_f xs (q + 1) % 64)) * 64 + (own_f xs (q + 2) % 64)) ↔ 57343 < (((own_f xs (q) % 16) * 64 + (own_f xs (q + 1) % 64)) * 64 + (own_f xs (q + 2) % 64)) from own_ltO (d := 57343) (k := (((own_f xs (q) % 16) * 64 + (own_f xs (q + 1) % 64)) * 64 + (own_f xs (q + 2) % 64))) (by omega) (by omega)] at hc279
                        refine go (fun _ kont => XS.iconst X0.here hx rfl (hb hby d_method_3_282) kont) ?_
                        show G (s₁.setTop (mkF m 283 #[.val (.ref b), .val (.int (Int32.ofNat q)), .val (.int (Int32.ofNat e8)), .val (.int (Int32.ofNat (own_f xs (q)))), .val (.int (3 : Int32)), .val (.int (Int32.ofNat (((own_f xs (q) % 16) * 64 + (own_f xs (q + 1) % 64)) * 64 + (own_f xs (q + 2) % 64)))), .val (.int (Int32.ofNat (own_f xs (q + 1)))), .val (.int (Int32.ofNat (own_f xs (q + 2))))] [(.int (-1 : Int32))]))
                        rw [hG]
                        exact own_retI X0 hx Bd.returns (hb hby d_method_3_283) hlk (by decide) (by decide) ⟨by congr 2; exact (own_st_bad hc6' (by unfold own_N own_n; (repeat' split) <;> omega)).symm, N0, e0⟩
                · refine go (fun _ kont => XS.icmpNo X0.here hx rfl (hb hby d_method_3_176) rfl (feq hc176).1 kont) ?_
                  show G (s₁.setTop (mkF m 179 #[.val (.ref b), .val (.int (Int32.ofNat q)), .val (.int (Int32.ofNat e8)), .val (.int (Int32.ofNat (own_f xs (q)))), .val (.int (3 : Int32)), .val (.int (Int32.ofNat ((own_f xs (q) % 16) * 64 + (own_f xs (q + 1) % 64)))), .val (.int (Int32.ofNat (own_f xs (q + 1)))), .val (.int (Int32.ofNat (own_f xs (q + 2))))] []))
                  rw [own_m192' _ hb2] at hc176
                  refine go (fun _ kont => XS.iconst X0.here hx rfl (hb hby d_method_3_179) kont) ?_
                  show G (s₁.setTop (mkF m 180 #[.val (.ref b), .val (.int (Int32.ofNat q)), .val (.int (Int32.ofNat e8)), .val (.int (Int32.ofNat (own_f xs (q)))), .val (.int (3 : Int32)), .val (.int (Int32.ofNat ((own_f xs (q) % 16) * 64 + (own_f xs (q + 1) % 64)))), .val (.int (Int32.ofNat (own_f xs (q + 1)))), .val (.int (Int32.ofNat (own_f xs (q + 2))))] [(.int (-1 : Int32))]))
                  rw [hG]
                  exact own_retI X0 hx Bd.returns (hb hby d_method_3_180) hlk (by decide) (by decide) ⟨by congr 2; exact (own_st_bad hc6' (by unfold own_N own_n; (repeat' split) <;> omega)).symm, N0, e0⟩
              · refine go (fun _ kont => XS.icmpNo X0.here hx rfl (hb hby d_method_3_132) rfl (feq hc132).1 kont) ?_
                show G (s₁.setTop (mkF m 135 #[.val (.ref b), .val (.int (Int32.ofNat q)), .val (.int (Int32.ofNat e8)), .val (.int (Int32.ofNat (own_f xs (q)))), .val (.int (3 : Int32)), .val (.int (Int32.ofNat (own_f xs (q) % 16))), .val (.int (Int32.ofNat (own_f xs (q + 1)))), .unset] []))
                rw [own_m192' _ hb1] at hc132
                refine go (fun _ kont => XS.iconst X0.here hx rfl (hb hby d_method_3_135) kont) ?_
                show G (s₁.setTop (mkF m 136 #[.val (.ref b), .val (.int (Int32.ofNat q)), .val (.int (Int32.ofNat e8)), .val (.int (Int32.ofNat (own_f xs (q)))), .val (.int (3 : Int32)), .val (.int (Int32.ofNat (own_f xs (q) % 16))), .val (.int (Int32.ofNat (own_f xs (q + 1)))), .unset] [(.int (-1 : Int32))]))
                rw [hG]
                exact own_retI X0 hx Bd.returns (hb hby d_method_3_136) hlk (by decide) (by decide) ⟨by congr 2; exact (own_st_bad hc6' (by unfold own_N own_n; (repeat' split) <;> omega)).symm, N0, e0⟩
          · refine go (fun _ kont => XS.icmpYes X0.here hx rfl (pc0 := 62) (pc' := 77) rfl (hb hby d_method_3_62) rfl (feq hc62).2 (by decide) (by decide) kont) ?_
            show G (s₁.setTop (mkF m 77 #[.val (.ref b), .val (.int (Int32.ofNat q)), .val (.int (Int32.ofNat e8)), .val (.int (Int32.ofNat (own_f xs (q)))), .unset, .unset, .unset, .unset] []))
            rw [own_m240' _ hb0] at hc62
            refine go (fun _ kont => XS.iloadN X0.here hx rfl (hb hby d_method_3_77) rfl  kont) ?_
            show G (s₁.setTop (mkF m 78 #[.val (.ref b), .val (.int (Int32.ofNat q)), .val (.int (Int32.ofNat e8)), .val (.int (Int32.ofNat (own_f xs (q)))), .unset, .unset, .unset, .unset] [(.int (Int32.ofNat (own_f xs (q))))]))
            refine go (fun _ kont => XS.sipush X0.here hx rfl (hb hby d_method_3_78) kont) ?_
            show G (s₁.setTop (mkF m 81 #[.val (.ref b), .val (.int (Int32.ofNat q)), .val (.int (Int32.ofNat e8)), .val (.int (Int32.ofNat (own_f xs (q)))), .unset, .unset, .unset, .unset] [(.int (248 : Int32)), (.int (Int32.ofNat (own_f xs (q))))]))
            refine go (fun _ kont => XS.iand X0.here hx rfl (hb hby d_method_3_81) rfl kont) ?_
            show G (s₁.setTop (mkF m 82 #[.val (.ref b), .val (.int (Int32.ofNat q)), .val (.int (Int32.ofNat e8)), .val (.int (Int32.ofNat (own_f xs (q)))), .unset, .unset, .unset, .unset] [(.int ((Int32.ofNat (own_f xs (q))) &&& (248 : Int32)))]))
            refine go (fun _ kont => XS.sipush X0.here hx rfl (hb hby d_method_3_82) kont) ?_
            show G (s₁.setTop (mkF m 85 #[.val (.ref b), .val (.int (Int32.ofNat q)), .val (.int (Int32.ofNat e8)), .val (.int (Int32.ofNat (own_f xs (q)))), .unset, .unset, .unset, .unset] [(.int (240 : Int32)), (.int ((Int32.ofNat (own_f xs (q))) &&& (248 : Int32)))]))
            by_cases hc85 : ((Int32.ofNat (own_f xs (q))) &&& (248 : Int32)) = (240 : Int32)
            · refine go (fun _ kont => XS.icmpNo X0.here hx rfl (hb hby d_method_3_85) rfl (teq hc85).2 kont) ?_
              show G (s₁.setTop (mkF m 88 #[.val (.ref b), .val (.int (Int32.ofNat q)), .val (.int (Int32.ofNat e8)), .val (.int (Int32.ofNat (own_f xs (q)))), .unset, .unset, .unset, .unset] []))
              rw [own_m248' _ hb0] at hc85
              refine go (fun _ kont => XS.iconst X0.here hx rfl (hb hby d_method_3_88) kont) ?_
              show G (s₁.setTop (mkF m 89 #[.val (.ref b), .val (.int (Int32.ofNat q)), .val (.int (Int32.ofNat e8)), .val (.int (Int32.ofNat (own_f xs (q)))), .unset, .unset, .unset, .unset] [(.int (4 : Int32))]))
              refine go (fun _ kont => XS.istore X0.here hx rfl (hb hby d_method_3_89) rfl (l' := #[.val (.ref b), .val (.int (Int32.ofNat q)), .val (.int (Int32.ofNat e8)), .val (.int (Int32.ofNat (own_f xs (q)))), .val (.int (4 : Int32)), .unset, .unset, .unset]) rfl kont) ?_
              show G (s₁.setTop (mkF m 91 #[.val (.ref b), .val (.int (Int32.ofNat q)), .val (.int (Int32.ofNat e8)), .val (.int (Int32.ofNat (own_f xs (q)))), .val (.int (4 : Int32)), .unset, .unset, .unset] []))
              refine go (fun _ kont => XS.iloadN X0.here hx rfl (hb hby d_method_3_91) rfl  kont) ?_
              show G (s₁.setTop (mkF m 92 #[.val (.ref b), .val (.int (Int32.ofNat q)), .val (.int (Int32.ofNat e8)), .val (.int (Int32.ofNat (own_f xs (q)))), .val (.int (4 : Int32)), .unset, .unset, .unset] [(.int (Int32.ofNat (own_f xs (q))))]))
              refine go (fun _ kont => XS.bipush X0.here hx rfl (hb hby d_method_3_92) kont) ?_
              show G (s₁.setTop (mkF m 94 #[.val (.ref b), .val (.int (Int32.ofNat q)), .val (.int (Int32.ofNat e8)), .val (.int (Int32.ofNat (own_f xs (q)))), .val (.int (4 : Int32)), .unset, .unset, .unset] [(.int (7 : Int32)), (.int (Int32.ofNat (own_f xs (q))))]))
              refine go (fun _ kont => XS.iand X0.here hx rfl (hb hby d_method_3_94) rfl kont) ?_
              show G (s₁.setTop (mkF m 95 #[.val (.ref b), .val (.int (Int32.ofNat q)), .val (.int (Int32.ofNat e8)), .val (.int (Int32.ofNat (own_f xs (q)))), .val (.int (4 : Int32)), .unset, .unset, .unset] [(.int ((Int32.ofNat (own_f xs (q))) &&& (7 : Int32)))]))
              rw [own_a7' _ (own_fb xs (q))]
              show G (s₁.setTop (mkF m 95 #[.val (.ref b), .val (.int (Int32.ofNat q)), .val (.int (Int32.ofNat e8)), .val (.int (Int32.ofNat (own_f xs (q)))), .val (.int (4 : Int32)), .unset, .unset, .unset] [(.int (Int32.ofNat (own_f xs (q) % 8)))]))
              refine go (fun _ kont => XS.istore X0.here hx rfl (hb hby d_method_3_95) rfl (l' := #[.val (.ref b), .val (.int (Int32.ofNat q)), .val (.int (Int32.ofNat e8)), .val (.int (Int32.ofNat (own_f xs (q)))), .val (.int (4 : Int32)), .val (.int (Int32.ofNat (own_f xs (q) % 8))), .unset, .unset]) rfl kont) ?_
              show G (s₁.setTop (mkF m 97 #[.val (.ref b), .val (.int (Int32.ofNat q)), .val (.int (Int32.ofNat e8)), .val (.int (Int32.ofNat (own_f xs (q)))), .val (.int (4 : Int32)), .val (.int (Int32.ofNat (own_f xs (q) % 8))), .unset, .unset] []))
              refine go (fun _ kont => XS.goto X0.here hx rfl (pc0 := 97) (pc' := 102) rfl (hb hby d_method_3_97) (by decide) (by decide) kont) ?_
              show G (s₁.setTop (mkF m 102 #[.val (.ref b), .val (.int (Int32.ofNat q)), .val (.int (Int32.ofNat e8)), .val (.int (Int32.ofNat (own_f xs (q)))), .val (.int (4 : Int32)), .val (.int (Int32.ofNat (own_f xs (q) % 8))), .unset, .unset] []))
              refine go (fun _ kont => XS.iloadN X0.here hx rfl (hb hby d_method_3_102) rfl  kont) ?_
              show G (s₁.setTop (mkF m 103 #[.val (.ref b), .val (.int (Int32.ofNat q)), .val (.int (Int32.ofNat e8)), .val (.int (Int32.ofNat (own_f xs (q)))), .val (.int (4 : Int32)), .val (.int (Int32.ofNat (own_f xs (q) % 8))), .unset, .unset] [(.int (Int32.ofNat q))]))
              refine go (fun _ kont => XS.iload X0.here hx rfl (hb hby d_method_3_103) rfl  kont) ?_
              show G (s₁.setTop (mkF m 105 #[.val (.ref b), .val (.int (Int32.ofNat q)), .val (.int (Int32.ofNat e8)), .val (.int (Int32.ofNat (own_f xs (q)))), .val (.int (4 : Int32)), .val (.int (Int32.ofNat (own_f xs (q) % 8))), .unset, .unset] [(.int (4 : Int32)), (.int (Int32.ofNat q))]))
              refine go (fun _ kont => XS.iadd X0.here hx rfl (hb hby d_method_3_105) rfl kont) ?_
              show G (s₁.setTop (mkF m 106 #[.val (.ref b), .val (.int (Int32.ofNat q)), .val (.int (Int32.ofNat e8)), .val (.int (Int32.ofNat (own_f xs (q)))), .val (.int (4 : Int32)), .val (.int (Int32.ofNat (own_f xs (q) % 8))), .unset, .unset] [(.int ((Int32.ofNat q) + (4 : Int32)))]))
              refine go (fun _ kont => XS.iloadN X0.here hx rfl (hb hby d_method_3_106) rfl  kont) ?_
              show G (s₁.setTop (mkF m 107 #[.val (.ref b), .val (.int (Int32.ofNat q)), .val (.int (Int32.ofNat e8)), .val (.int (Int32.ofNat (own_f xs (q)))), .val (.int (4 : Int32)), .val (.int (Int32.ofNat (own_f xs (q) % 8))), .unset, .unset] [(.int (Int32.ofNat e8)), (.int ((Int32.ofNat q) + (4 : Int32)))]))
              by_cases hc107 : (Int32.ofNat e8) < ((Int32.ofNat q) + (4 : Int32))
              · refine go (fun _ kont => XS.icmpNo X0.here hx rfl (hb hby d_method_3_107) rfl (tlt hc107).2.2.2 kont) ?_
                show G (s₁.setTop (mkF m 110 #[.val (.ref b), .val (.int (Int32.ofNat q)), .val (.int (Int32.ofNat e8)), .val (.int (Int32.ofNat (own_f xs (q)))), .val (.int (4 : Int32)), .val (.int (Int32.ofNat (own_f xs (q) % 8))), .unset, .unset] []))
                rw [show Int32.ofNat q + (4 : Int32) = Int32.ofNat (q + 4) from own_addk q 4, own_ltO (by omega) (by omega)] at hc107
                refine go (fun _ kont => XS.iconst X0.here hx rfl (hb hby d_method_3_110) kont) ?_
                show G (s₁.setTop (mkF m 111 #[.val (.ref b), .val (.int (Int32.ofNat q)), .val (.int (Int32.ofNat e8)), .val (.int (Int32.ofNat (own_f xs (q)))), .val (.int (4 : Int32)), .val (.int (Int32.ofNat (own_f xs (q) % 8))), .unset, .unset] [(.int (-1 : Int32))]))
                rw [hG]
                exact own_retI X0 hx Bd.returns (hb hby d_method_3_111) hlk (by decide) (by decide) ⟨by congr 2; exact (own_st_bad hc6' (by unfold own_N own_n; (repeat' split) <;> omega)).symm, N0, e0⟩
              · refine go (fun _ kont => XS.icmpYes X0.here hx rfl (pc0 := 107) (pc' := 112) rfl (hb hby d_method_3_107) rfl (flt hc107).2.2.2 (by decide) (by decide) kont) ?_
                show G (s₁.setTop (mkF m 112 #[.val (.ref b), .val (.int (Int32.ofNat q)), .val (.int (Int32.ofNat e8)), .val (.int (Int32.ofNat (own_f xs (q)))), .val (.int (4 : Int32)), .val (.int (Int32.ofNat (own_f xs (q) % 8))), .unset, .unset] []))
                rw [show Int32.ofNat q + (4 : Int32) = Int32.ofNat (q + 4) from own_addk q 4, own_ltO (by omega) (by omega)] at hc107
                refine go (fun _ kont => XS.aloadN X0.here hx rfl (hb hby d_method_3_112) rfl rfl kont) ?_
                show G (s₁.setTop (mkF m 113 #[.val (.ref b), .val (.int (Int32.ofNat q)), .val (.int (Int32.ofNat e8)), .val (.int (Int32.ofNat (own_f xs (q)))), .val (.int (4 : Int32)), .val (.int (Int32.ofNat (own_f xs (q) % 8))), .unset, .unset] [(.ref b)]))
                refine go (fun _ kont => XS.iloadN X0.here hx rfl (hb hby d_method_3_113) rfl  kont) ?_
                show G (s₁.setTop (mkF m 114 #[.val (.ref b), .val (.int (Int32.ofNat q)), .val (.int (Int32.ofNat e8)), .val (.int (Int32.ofNat (own_f xs (q)))), .val (.int (4 : Int32)), .val (.int (Int32.ofNat (own_f xs (q) % 8))), .unset, .unset] [(.int (Int32.ofNat q)), (.ref b)]))
                refine go (fun _ kont => XS.iconst X0.here hx rfl (hb hby d_method_3_114) kont) ?_
                show G (s₁.setTop (mkF m 115 #[.val (.ref b), .val (.int (Int32.ofNat q)), .val (.int (Int32.ofNat e8)), .val (.int (Int32.ofNat (own_f xs (q)))), .val (.int (4 : Int32)), .val (.int (Int32.ofNat (own_f xs (q) % 8))), .unset, .unset] [(.int (1 : Int32)), (.int (Int32.ofNat q)), (.ref b)]))
                refine go (fun _ kont => XS.iadd X0.here hx rfl (hb hby d_method_3_115) rfl kont) ?_
                show G (s₁.setTop (mkF m 116 #[.val (.ref b), .val (.int (Int32.ofNat q)), .val (.int (Int32.ofNat e8)), .val (.int (Int32.ofNat (own_f xs (q)))), .val (.int (4 : Int32)), .val (.int (Int32.ofNat (own_f xs (q) % 8))), .unset, .unset] [(.int ((Int32.ofNat q) + (1 : Int32))), (.ref b)]))
                rw [show Int32.ofNat q + (1 : Int32) = Int32.ofNat (q + 1) from own_addk q 1]
                show G (s₁.setTop (mkF m 116 #[.val (.ref b), .val (.int (Int32.ofNat q)), .val (.int (Int32.ofNat e8)), .val (.int (Int32.ofNat (own_f xs (q)))), .val (.int (4 : Int32)), .val (.int (Int32.ofNat (own_f xs (q) % 8))), .unset, .unset] [(.int (Int32.ofNat (q + 1))), (.ref b)]))
                refine go (fun _ kont => X0.baloadBytes hx (j := (Int32.ofNat (q + 1))) (v := (.int (xs.getD (q + 1) 0))) (by rw [e0]; exact Ar.1) (State.isArrayOf_alike hZ.alike Ar.2.1) Ar.2.2 (own_hink Sl (own_neg (by rw [own_ofN (by omega)]; omega)) (own_tnO (by omega)) (k := q + 1) (by rw [List.length_map]; omega)) (own_hatk Sl (own_tnO (by omega)) (own_atI (k := q + 1) (by omega))) (g := (mkF m 116 #[.val (.ref b), .val (.int (Int32.ofNat q)), .val (.int (Int32.ofNat e8)), .val (.int (Int32.ofNat (own_f xs (q)))), .val (.int (4 : Int32)), .val (.int (Int32.ofNat (own_f xs (q) % 8))), .unset, .unset] [(.int (Int32.ofNat (q + 1))), (.ref b)])) rfl rfl (hb hby d_method_3_116) _ kont) ?_
                show G (s₁.setTop (mkF m 117 #[.val (.ref b), .val (.int (Int32.ofNat q)), .val (.int (Int32.ofNat e8)), .val (.int (Int32.ofNat (own_f xs (q)))), .val (.int (4 : Int32)), .val (.int (Int32.ofNat (own_f xs (q) % 8))), .unset, .unset] [(.int (xs.getD (q + 1) 0))]))
                refine go (fun _ kont => XS.sipush X0.here hx rfl (hb hby d_method_3_117) kont) ?_
                show G (s₁.setTop (mkF m 120 #[.val (.ref b), .val (.int (Int32.ofNat q)), .val (.int (Int32.ofNat e8)), .val (.int (Int32.ofNat (own_f xs (q)))), .val (.int (4 : Int32)), .val (.int (Int32.ofNat (own_f xs (q) % 8))), .unset, .unset] [(.int (255 : Int32)), (.int (xs.getD (q + 1) 0))]))
                refine go (fun _ kont => XS.iand X0.here hx rfl (hb hby d_method_3_120) rfl kont) ?_
                show G (s₁.setTop (mkF m 121 #[.val (.ref b), .val (.int (Int32.ofNat q)), .val (.int (Int32.ofNat e8)), .val (.int (Int32.ofNat (own_f xs (q)))), .val (.int (4 : Int32)), .val (.int (Int32.ofNat (own_f xs (q) % 8))), .unset, .unset] [(.int ((xs.getD (q + 1) 0) &&& (255 : Int32)))]))
                rw [own_fe xs (q + 1)]
                show G (s₁.setTop (mkF m 121 #[.val (.ref b), .val (.int (Int32.ofNat q)), .val (.int (Int32.ofNat e8)), .val (.int (Int32.ofNat (own_f xs (q)))), .val (.int (4 : Int32)), .val (.int (Int32.ofNat (own_f xs (q) % 8))), .unset, .unset] [(.int (Int32.ofNat (own_f xs (q + 1))))]))
                refine go (fun _ kont => XS.istore X0.here hx rfl (hb hby d_method_3_121) rfl (l' := #[.val (.ref b), .val (.int (Int32.ofNat q)), .val (.int (Int32.ofNat e8)), .val (.int (Int32.ofNat (own_f xs (q)))), .val (.int (4 : Int32)), .val (.int (Int32.ofNat (own_f xs (q) % 8))), .val (.int (Int32.ofNat (own_f xs (q + 1)))), .unset]) rfl kont) ?_
                show G (s₁.setTop (mkF m 123 #[.val (.ref b), .val (.int (Int32.ofNat q)), .val (.int (Int32.ofNat e8)), .val (.int (Int32.ofNat (own_f xs (q)))), .val (.int (4 : Int32)), .val (.int (Int32.ofNat (own_f xs (q) % 8))), .val (.int (Int32.ofNat (own_f xs (q + 1)))), .unset] []))
                refine go (fun _ kont => XS.iload X0.here hx rfl (hb hby d_method_3_123) rfl  kont) ?_
                show G (s₁.setTop (mkF m 125 #[.val (.ref b), .val (.int (Int32.ofNat q)), .val (.int (Int32.ofNat e8)), .val (.int (Int32.ofNat (own_f xs (q)))), .val (.int (4 : Int32)), .val (.int (Int32.ofNat (own_f xs (q) % 8))), .val (.int (Int32.ofNat (own_f xs (q + 1)))), .unset] [(.int (Int32.ofNat (own_f xs (q + 1))))]))
                refine go (fun _ kont => XS.sipush X0.here hx rfl (hb hby d_method_3_125) kont) ?_
                show G (s₁.setTop (mkF m 128 #[.val (.ref b), .val (.int (Int32.ofNat q)), .val (.int (Int32.ofNat e8)), .val (.int (Int32.ofNat (own_f xs (q)))), .val (.int (4 : Int32)), .val (.int (Int32.ofNat (own_f xs (q) % 8))), .val (.int (Int32.ofNat (own_f xs (q + 1)))), .unset] [(.int (192 : Int32)), (.int (Int32.ofNat (own_f xs (q + 1))))]))
                refine go (fun _ kont => XS.iand X0.here hx rfl (hb hby d_method_3_128) rfl kont) ?_
                show G (s₁.setTop (mkF m 129 #[.val (.ref b), .val (.int (Int32.ofNat q)), .val (.int (Int32.ofNat e8)), .val (.int (Int32.ofNat (own_f xs (q)))), .val (.int (4 : Int32)), .val (.int (Int32.ofNat (own_f xs (q) % 8))), .val (.int (Int32.ofNat (own_f xs (q + 1)))), .unset] [(.int ((Int32.ofNat (own_f xs (q + 1))) &&& (192 : Int32)))]))
                refine go (fun _ kont => XS.sipush X0.here hx rfl (hb hby d_method_3_129) kont) ?_
                show G (s₁.setTop (mkF m 132 #[.val (.ref b), .val (.int (Int32.ofNat q)), .val (.int (Int32.ofNat e8)), .val (.int (Int32.ofNat (own_f xs (q)))), .val (.int (4 : Int32)), .val (.int (Int32.ofNat (own_f xs (q) % 8))), .val (.int (Int32.ofNat (own_f xs (q + 1)))), .unset] [(.int (128 : Int32)), (.int ((Int32.ofNat (own_f xs (q + 1))) &&& (192 : Int32)))]))
                by_cases hc132 : ((Int32.ofNat (own_f xs (q + 1))) &&& (192 : Int32)) = (128 : Int32)
                · refine go (fun _ kont => XS.icmpYes X0.here hx rfl (pc0 := 132) (pc' := 137) rfl (hb hby d_method_3_132) rfl (teq hc132).1 (by decide) (by decide) kont) ?_
                  show G (s₁.setTop (mkF m 137 #[.val (.ref b), .val (.int (Int32.ofNat q)), .val (.int (Int32.ofNat e8)), .val (.int (Int32.ofNat (own_f xs (q)))), .val (.int (4 : Int32)), .val (.int (Int32.ofNat (own_f xs (q) % 8))), .val (.int (Int32.ofNat (own_f xs (q + 1)))), .unset] []))
                  rw [own_m192' _ hb1] at hc132
                  refine go (fun _ kont => XS.iload X0.here hx rfl (hb hby d_method_3_137) rfl  kont) ?_
                  show G (s₁.setTop (mkF m 139 #[.val (.ref b), .val (.int (Int32.ofNat q)), .val (.int (Int32.ofNat e8)), .val (.int (Int32.ofNat (own_f xs (q)))), .val (.int (4 : Int32)), .val (.int (Int32.ofNat (own_f xs (q) % 8))), .val (.int (Int32.ofNat (own_f xs (q + 1)))), .unset] [(.int (Int32.ofNat (own_f xs (q) % 8)))]))
                  refine go (fun _ kont => XS.bipush X0.here hx rfl (hb hby d_method_3_139) kont) ?_
                  show G (s₁.setTop (mkF m 141 #[.val (.ref b), .val (.int (Int32.ofNat q)), .val (.int (Int32.ofNat e8)), .val (.int (Int32.ofNat (own_f xs (q)))), .val (.int (4 : Int32)), .val (.int (Int32.ofNat (own_f xs (q) % 8))), .val (.int (Int32.ofNat (own_f xs (q + 1)))), .unset] [(.int (6 : Int32)), (.int (Int32.ofNat (own_f xs (q) % 8)))]))
                  refine go (fun _ kont => XS.ishl X0.here hx rfl (hb hby d_method_3_141) rfl kont) ?_
                  show G (s₁.setTop (mkF m 142 #[.val (.ref b), .val (.int (Int32.ofNat q)), .val (.int (Int32.ofNat e8)), .val (.int (Int32.ofNat (own_f xs (q)))), .val (.int (4 : Int32)), .val (.int (Int32.ofNat (own_f xs (q) % 8))), .val (.int (Int32.ofNat (own_f xs (q + 1)))), .unset] [(.int ((Int32.ofNat (own_f xs (q) % 8)) <<< ((6 : Int32) &&& 31)))]))
                  refine go (fun _ kont => XS.iload X0.here hx rfl (hb hby d_method_3_142) rfl  kont) ?_
                  show G (s₁.setTop (mkF m 144 #[.val (.ref b), .val (.int (Int32.ofNat q)), .val (.int (Int32.ofNat e8)), .val (.int (Int32.ofNat (own_f xs (q)))), .val (.int (4 : Int32)), .val (.int (Int32.ofNat (own_f xs (q) % 8))), .val (.int (Int32.ofNat (own_f xs (q + 1)))), .unset] [(.int (Int32.ofNat (own_f xs (q + 1)))), (.int ((Int32.ofNat (own_f xs (q) % 8)) <<< ((6 : Int32) &&& 31)))]))
                  refine go (fun _ kont => XS.bipush X0.here hx rfl (hb hby d_method_3_144) kont) ?_
                  show G (s₁.setTop (mkF m 146 #[.val (.ref b), .val (.int (Int32.ofNat q)), .val (.int (Int32.ofNat e8)), .val (.int (Int32.ofNat (own_f xs (q)))), .val (.int (4 : Int32)), .val (.int (Int32.ofNat (own_f xs (q) % 8))), .val (.int (Int32.ofNat (own_f xs (q + 1)))), .unset] [(.int (63 : Int32)), (.int (Int32.ofNat (own_f xs (q + 1)))), (.int ((Int32.ofNat (own_f xs (q) % 8)) <<< ((6 : Int32) &&& 31)))]))
                  refine go (fun _ kont => XS.iand X0.here hx rfl (hb hby d_method_3_146) rfl kont) ?_
                  show G (s₁.setTop (mkF m 147 #[.val (.ref b), .val (.int (Int32.ofNat q)), .val (.int (Int32.ofNat e8)), .val (.int (Int32.ofNat (own_f xs (q)))), .val (.int (4 : Int32)), .val (.int (Int32.ofNat (own_f xs (q) % 8))), .val (.int (Int32.ofNat (own_f xs (q + 1)))), .unset] [(.int ((Int32.ofNat (own_f xs (q + 1))) &&& (63 : Int32))), (.int ((Int32.ofNat (own_f xs (q) % 8)) <<< ((6 : Int32) &&& 31)))]))
                  rw [own_a63' _ (own_fb xs (q + 1))]
                  show G (s₁.setTop (mkF m 147 #[.val (.ref b), .val (.int (Int32.ofNat q)), .val (.int (Int32.ofNat e8)), .val (.int (Int32.ofNat (own_f xs (q)))), .val (.int (4 : Int32)), .val (.int (Int32.ofNat (own_f xs (q) % 8))), .val (.int (Int32.ofNat (own_f xs (q + 1)))), .unset] [(.int (Int32.ofNat (own_f xs (q + 1) % 64))), (.int ((Int32.ofNat (own_f xs (q) % 8)) <<< ((6 : Int32) &&& 31)))]))
                  refine go (fun _ kont => XS.ior X0.here hx rfl (hb hby d_method_3_147) rfl kont) ?_
                  show G (s₁.setTop (mkF m 148 #[.val (.ref b), .val (.int (Int32.ofNat q)), .val (.int (Int32.ofNat e8)), .val (.int (Int32.ofNat (own_f xs (q)))), .val (.int (4 : Int32)), .val (.int (Int32.ofNat (own_f xs (q) % 8))), .val (.int (Int32.ofNat (own_f xs (q + 1)))), .unset] [(.int (((Int32.ofNat (own_f xs (q) % 8)) <<< ((6 : Int32) &&& 31)) ||| (Int32.ofNat (own_f xs (q + 1) % 64))))]))
                  rw [own_shor (a := (own_f xs (q) % 8)) (b := (own_f xs (q + 1) % 64)) (by omega) (by omega)]
                  show G (s₁.setTop (mkF m 148 #[.val (.ref b), .val (.int (Int32.ofNat q)), .val (.int (Int32.ofNat e8)), .val (.int (Int32.ofNat (own_f xs (q)))), .val (.int (4 : Int32)), .val (.int (Int32.ofNat (own_f xs (q) % 8))), .val (.int (Int32.ofNat (own_f xs (q + 1)))), .unset] [(.int (Int32.ofNat ((own_f xs (q) % 8) * 64 + (own_f xs (q + 1) % 64))))]))
                  refine go (fun _ kont => XS.istore X0.here hx rfl (hb hby d_method_3_148) rfl (l' := #[.val (.ref b), .val (.int (Int32.ofNat q)), .val (.int (Int32.ofNat e8)), .val (.int (Int32.ofNat (own_f xs (q)))), .val (.int (4 : Int32)), .val (.int (Int32.ofNat ((own_f xs (q) % 8) * 64 + (own_f xs (q + 1) % 64)))), .val (.int (Int32.ofNat (own_f xs (q + 1)))), .unset]) rfl kont) ?_
                  show G (s₁.setTop (mkF m 150 #[.val (.ref b), .val (.int (Int32.ofNat q)), .val (.int (Int32.ofNat e8)), .val (.int (Int32.ofNat (own_f xs (q)))), .val (.int (4 : Int32)), .val (.int (Int32.ofNat ((own_f xs (q) % 8) * 64 + (own_f xs (q + 1) % 64)))), .val (.int (Int32.ofNat (own_f xs (q + 1)))), .unset] []))
                  refine go (fun _ kont => XS.iload X0.here hx rfl (hb hby d_method_3_150) rfl  kont) ?_
                  show G (s₁.setTop (mkF m 152 #[.val (.ref b), .val (.int (Int32.ofNat q)), .val (.int (Int32.ofNat e8)), .val (.int (Int32.ofNat (own_f xs (q)))), .val (.int (4 : Int32)), .val (.int (Int32.ofNat ((own_f xs (q) % 8) * 64 + (own_f xs (q + 1) % 64)))), .val (.int (Int32.ofNat (own_f xs (q + 1)))), .unset] [(.int (4 : Int32))]))
                  refine go (fun _ kont => XS.iconst X0.here hx rfl (hb hby d_method_3_152) kont) ?_
                  show G (s₁.setTop (mkF m 153 #[.val (.ref b), .val (.int (Int32.ofNat q)), .val (.int (Int32.ofNat e8)), .val (.int (Int32.ofNat (own_f xs (q)))), .val (.int (4 : Int32)), .val (.int (Int32.ofNat ((own_f xs (q) % 8) * 64 + (own_f xs (q + 1) % 64)))), .val (.int (Int32.ofNat (own_f xs (q + 1)))), .unset] [(.int (3 : Int32)), (.int (4 : Int32))]))
                  refine go (fun _ kont => XS.icmpNo X0.here hx rfl (hb hby d_method_3_153) rfl (flt (by decide)).1 kont) ?_
                  show G (s₁.setTop (mkF m 156 #[.val (.ref b), .val (.int (Int32.ofNat q)), .val (.int (Int32.ofNat e8)), .val (.int (Int32.ofNat (own_f xs (q)))), .val (.int (4 : Int32)), .val (.int (Int32.ofNat ((own_f xs (q) % 8) * 64 + (own_f xs (q + 1) % 64)))), .val (.int (Int32.ofNat (own_f xs (q + 1)))), .unset] []))
                  refine go (fun _ kont => XS.aloadN X0.here hx rfl (hb hby d_method_3_156) rfl rfl kont) ?_
                  show G (s₁.setTop (mkF m 157 #[.val (.ref b), .val (.int (Int32.ofNat q)), .val (.int (Int32.ofNat e8)), .val (.int (Int32.ofNat (own_f xs (q)))), .val (.int (4 : Int32)), .val (.int (Int32.ofNat ((own_f xs (q) % 8) * 64 + (own_f xs (q + 1) % 64)))), .val (.int (Int32.ofNat (own_f xs (q + 1)))), .unset] [(.ref b)]))
                  refine go (fun _ kont => XS.iloadN X0.here hx rfl (hb hby d_method_3_157) rfl  kont) ?_
                  show G (s₁.setTop (mkF m 158 #[.val (.ref b), .val (.int (Int32.ofNat q)), .val (.int (Int32.ofNat e8)), .val (.int (Int32.ofNat (own_f xs (q)))), .val (.int (4 : Int32)), .val (.int (Int32.ofNat ((own_f xs (q) % 8) * 64 + (own_f xs (q + 1) % 64)))), .val (.int (Int32.ofNat (own_f xs (q + 1)))), .unset] [(.int (Int32.ofNat q)), (.ref b)]))
                  refine go (fun _ kont => XS.iconst X0.here hx rfl (hb hby d_method_3_158) kont) ?_
                  show G (s₁.setTop (mkF m 159 #[.val (.ref b), .val (.int (Int32.ofNat q)), .val (.int (Int32.ofNat e8)), .val (.int (Int32.ofNat (own_f xs (q)))), .val (.int (4 : Int32)), .val (.int (Int32.ofNat ((own_f xs (q) % 8) * 64 + (own_f xs (q + 1) % 64)))), .val (.int (Int32.ofNat (own_f xs (q + 1)))), .unset] [(.int (2 : Int32)), (.int (Int32.ofNat q)), (.ref b)]))
                  refine go (fun _ kont => XS.iadd X0.here hx rfl (hb hby d_method_3_159) rfl kont) ?_
                  show G (s₁.setTop (mkF m 160 #[.val (.ref b), .val (.int (Int32.ofNat q)), .val (.int (Int32.ofNat e8)), .val (.int (Int32.ofNat (own_f xs (q)))), .val (.int (4 : Int32)), .val (.int (Int32.ofNat ((own_f xs (q) % 8) * 64 + (own_f xs (q + 1) % 64)))), .val (.int (Int32.ofNat (own_f xs (q + 1)))), .unset] [(.int ((Int32.ofNat q) + (2 : Int32))), (.ref b)]))
                  rw [show Int32.ofNat q + (2 : Int32) = Int32.ofNat (q + 2) from own_addk q 2]
                  show G (s₁.setTop (mkF m 160 #[.val (.ref b), .val (.int (Int32.ofNat q)), .val (.int (Int32.ofNat e8)), .val (.int (Int32.ofNat (own_f xs (q)))), .val (.int (4 : Int32)), .val (.int (Int32.ofNat ((own_f xs (q) % 8) * 64 + (own_f xs (q + 1) % 64)))), .val (.int (Int32.ofNat (own_f xs (q + 1)))), .unset] [(.int (Int32.ofNat (q + 2))), (.ref b)]))
                  refine go (fun _ kont => X0.baloadBytes hx (j := (Int32.ofNat (q + 2))) (v := (.int (xs.getD (q + 2) 0))) (by rw [e0]; exact Ar.1) (State.isArrayOf_alike hZ.alike Ar.2.1) Ar.2.2 (own_hink Sl (own_neg (by rw [own_ofN (by omega)]; omega)) (own_tnO (by omega)) (k := q + 2) (by rw [List.length_map]; omega)) (own_hatk Sl (own_tnO (by omega)) (own_atI (k := q + 2) (by omega))) (g := (mkF m 160 #[.val (.ref b), .val (.int (Int32.ofNat q)), .val (.int (Int32.ofNat e8)), .val (.int (Int32.ofNat (own_f xs (q)))), .val (.int (4 : Int32)), .val (.int (Int32.ofNat ((own_f xs (q) % 8) * 64 + (own_f xs (q + 1) % 64)))), .val (.int (Int32.ofNat (own_f xs (q + 1)))), .unset] [(.int (Int32.ofNat (q + 2))), (.ref b)])) rfl rfl (hb hby d_method_3_160) _ kont) ?_
                  show G (s₁.setTop (mkF m 161 #[.val (.ref b), .val (.int (Int32.ofNat q)), .val (.int (Int32.ofNat e8)), .val (.int (Int32.ofNat (own_f xs (q)))), .val (.int (4 : Int32)), .val (.int (Int32.ofNat ((own_f xs (q) % 8) * 64 + (own_f xs (q + 1) % 64)))), .val (.int (Int32.ofNat (own_f xs (q + 1)))), .unset] [(.int (xs.getD (q + 2) 0))]))
                  refine go (fun _ kont => XS.sipush X0.here hx rfl (hb hby d_method_3_161) kont) ?_
                  show G (s₁.setTop (mkF m 164 #[.val (.ref b), .val (.int (Int32.ofNat q)), .val (.int (Int32.ofNat e8)), .val (.int (Int32.ofNat (own_f xs (q)))), .val (.int (4 : Int32)), .val (.int (Int32.ofNat ((own_f xs (q) % 8) * 64 + (own_f xs (q + 1) % 64)))), .val (.int (Int32.ofNat (own_f xs (q + 1)))), .unset] [(.int (255 : Int32)), (.int (xs.getD (q + 2) 0))]))
                  refine go (fun _ kont => XS.iand X0.here hx rfl (hb hby d_method_3_164) rfl kont) ?_
                  show G (s₁.setTop (mkF m 165 #[.val (.ref b), .val (.int (Int32.ofNat q)), .val (.int (Int32.ofNat e8)), .val (.int (Int32.ofNat (own_f xs (q)))), .val (.int (4 : Int32)), .val (.int (Int32.ofNat ((own_f xs (q) % 8) * 64 + (own_f xs (q + 1) % 64)))), .val (.int (Int32.ofNat (own_f xs (q + 1)))), .unset] [(.int ((xs.getD (q + 2) 0) &&& (255 : Int32)))]))
                  rw [own_fe xs (q + 2)]
                  show G (s₁.setTop (mkF m 165 #[.val (.ref b), .val (.int (Int32.ofNat q)), .val (.int (Int32.ofNat e8)), .val (.int (Int32.ofNat (own_f xs (q)))), .val (.int (4 : Int32)), .val (.int (Int32.ofNat ((own_f xs (q) % 8) * 64 + (own_f xs (q + 1) % 64)))), .val (.int (Int32.ofNat (own_f xs (q + 1)))), .unset] [(.int (Int32.ofNat (own_f xs (q + 2))))]))
                  refine go (fun _ kont => XS.istore X0.here hx rfl (hb hby d_method_3_165) rfl (l' := #[.val (.ref b), .val (.int (Int32.ofNat q)), .val (.int (Int32.ofNat e8)), .val (.int (Int32.ofNat (own_f xs (q)))), .val (.int (4 : Int32)), .val (.int (Int32.ofNat ((own_f xs (q) % 8) * 64 + (own_f xs (q + 1) % 64)))), .val (.int (Int32.ofNat (own_f xs (q + 1)))), .val (.int (Int32.ofNat (own_f xs (q + 2))))]) rfl kont) ?_
                  show G (s₁.setTop (mkF m 167 #[.val (.ref b), .val (.int (Int32.ofNat q)), .val (.int (Int32.ofNat e8)), .val (.int (Int32.ofNat (own_f xs (q)))), .val (.int (4 : Int32)), .val (.int (Int32.ofNat ((own_f xs (q) % 8) * 64 + (own_f xs (q + 1) % 64)))), .val (.int (Int32.ofNat (own_f xs (q + 1)))), .val (.int (Int32.ofNat (own_f xs (q + 2))))] []))
                  refine go (fun _ kont => XS.iload X0.here hx rfl (hb hby d_method_3_167) rfl  kont) ?_
                  show G (s₁.setTop (mkF m 169 #[.val (.ref b), .val (.int (Int32.ofNat q)), .val (.int (Int32.ofNat e8)), .val (.int (Int32.ofNat (own_f xs (q)))), .val (.int (4 : Int32)), .val (.int (Int32.ofNat ((own_f xs (q) % 8) * 64 + (own_f xs (q + 1) % 64)))), .val (.int (Int32.ofNat (own_f xs (q + 1)))), .val (.int (Int32.ofNat (own_f xs (q + 2))))] [(.int (Int32.ofNat (own_f xs (q + 2))))]))
                  refine go (fun _ kont => XS.sipush X0.here hx rfl (hb hby d_method_3_169) kont) ?_
                  show G (s₁.setTop (mkF m 172 #[.val (.ref b), .val (.int (Int32.ofNat q)), .val (.int (Int32.ofNat e8)), .val (.int (Int32.ofNat (own_f xs (q)))), .val (.int (4 : Int32)), .val (.int (Int32.ofNat ((own_f xs (q) % 8) * 64 + (own_f xs (q + 1) % 64)))), .val (.int (Int32.ofNat (own_f xs (q + 1)))), .val (.int (Int32.ofNat (own_f xs (q + 2))))] [(.int (192 : Int32)), (.int (Int32.ofNat (own_f xs (q + 2))))]))
                  refine go (fun _ kont => XS.iand X0.here hx rfl (hb hby d_method_3_172) rfl kont) ?_
                  show G (s₁.setTop (mkF m 173 #[.val (.ref b), .val (.int (Int32.ofNat q)), .val (.int (Int32.ofNat e8)), .val (.int (Int32.ofNat (own_f xs (q)))), .val (.int (4 : Int32)), .val (.int (Int32.ofNat ((own_f xs (q) % 8) * 64 + (own_f xs (q + 1) % 64)))), .val (.int (Int32.ofNat (own_f xs (q + 1)))), .val (.int (Int32.ofNat (own_f xs (q + 2))))] [(.int ((Int32.ofNat (own_f xs (q + 2))) &&& (192 : Int32)))]))
                  refine go (fun _ kont => XS.sipush X0.here hx rfl (hb hby d_method_3_173) kont) ?_
                  show G (s₁.setTop (mkF m 176 #[.val (.ref b), .val (.int (Int32.ofNat q)), .val (.int (Int32.ofNat e8)), .val (.int (Int32.ofNat (own_f xs (q)))), .val (.int (4 : Int32)), .val (.int (Int32.ofNat ((own_f xs (q) % 8) * 64 + (own_f xs (q + 1) % 64)))), .val (.int (Int32.ofNat (own_f xs (q + 1)))), .val (.int (Int32.ofNat (own_f xs (q + 2))))] [(.int (128 : Int32)), (.int ((Int32.ofNat (own_f xs (q + 2))) &&& (192 : Int32)))]))
                  by_cases hc176 : ((Int32.ofNat (own_f xs (q + 2))) &&& (192 : Int32)) = (128 : Int32)
                  · refine go (fun _ kont => XS.icmpYes X0.here hx rfl (pc0 := 176) (pc' := 181) rfl (hb hby d_method_3_176) rfl (teq hc176).1 (by decide) (by decide) kont) ?_
                    show G (s₁.setTop (mkF m 181 #[.val (.ref b), .val (.int (Int32.ofNat q)), .val (.int (Int32.ofNat e8)), .val (.int (Int32.ofNat (own_f xs (q)))), .val (.int (4 : Int32)), .val (.int (Int32.ofNat ((own_f xs (q) % 8) * 64 + (own_f xs (q + 1) % 64)))), .val (.int (Int32.ofNat (own_f xs (q + 1)))), .val (.int (Int32.ofNat (own_f xs (q + 2))))] []))
                    rw [own_m192' _ hb2] at hc176
                    refine go (fun _ kont => XS.iload X0.here hx rfl (hb hby d_method_3_181) rfl  kont) ?_
                    show G (s₁.setTop (mkF m 183 #[.val (.ref b), .val (.int (Int32.ofNat q)), .val (.int (Int32.ofNat e8)), .val (.int (Int32.ofNat (own_f xs (q)))), .val (.int (4 : Int32)), .val (.int (Int32.ofNat ((own_f xs (q) % 8) * 64 + (own_f xs (q + 1) % 64)))), .val (.int (Int32.ofNat (own_f xs (q + 1)))), .val (.int (Int32.ofNat (own_f xs (q + 2))))] [(.int (Int32.ofNat ((own_f xs (q) % 8) * 64 + (own_f xs (q + 1) % 64))))]))
                    refine go (fun _ kont => XS.bipush X0.here hx rfl (hb hby d_method_3_183) kont) ?_
                    show G (s₁.setTop (mkF m 185 #[.val (.ref b), .val (.int (Int32.ofNat q)), .val (.int (Int32.ofNat e8)), .val (.int (Int32.ofNat (own_f xs (q)))), .val (.int (4 : Int32)), .val (.int (Int32.ofNat ((own_f xs (q) % 8) * 64 + (own_f xs (q + 1) % 64)))), .val (.int (Int32.ofNat (own_f xs (q + 1)))), .val (.int (Int32.ofNat (own_f xs (q + 2))))] [(.int (6 : Int32)), (.int (Int32.ofNat ((own_f xs (q) % 8) * 64 + (own_f xs (q + 1) % 64))))]))
                    refine go (fun _ kont => XS.ishl X0.here hx rfl (hb hby d_method_3_185) rfl kont) ?_
                    show G (s₁.setTop (mkF m 186 #[.val (.ref b), .val (.int (Int32.ofNat q)), .val (.int (Int32.ofNat e8)), .val (.int (Int32.ofNat (own_f xs (q)))), .val (.int (4 : Int32)), .val (.int (Int32.ofNat ((own_f xs (q) % 8) * 64 + (own_f xs (q + 1) % 64)))), .val (.int (Int32.ofNat (own_f xs (q + 1)))), .val (.int (Int32.ofNat (own_f xs (q + 2))))] [(.int ((Int32.ofNat ((own_f xs (q) % 8) * 64 + (own_f xs (q + 1) % 64))) <<< ((6 : Int32) &&& 31)))]))
                    refine go (fun _ kont => XS.iload X0.here hx rfl (hb hby d_method_3_186) rfl  kont) ?_
                    show G (s₁.setTop (mkF m 188 #[.val (.ref b), .val (.int (Int32.ofNat q)), .val (.int (Int32.ofNat e8)), .val (.int (Int32.ofNat (own_f xs (q)))), .val (.int (4 : Int32)), .val (.int (Int32.ofNat ((own_f xs (q) % 8) * 64 + (own_f xs (q + 1) % 64)))), .val (.int (Int32.ofNat (own_f xs (q + 1)))), .val (.int (Int32.ofNat (own_f xs (q + 2))))] [(.int (Int32.ofNat (own_f xs (q + 2)))), (.int ((Int32.ofNat ((own_f xs (q) % 8) * 64 + (own_f xs (q + 1) % 64))) <<< ((6 : Int32) &&& 31)))]))
                    refine go (fun _ kont => XS.bipush X0.here hx rfl (hb hby d_method_3_188) kont) ?_
                    show G (s₁.setTop (mkF m 190 #[.val (.ref b), .val (.int (Int32.ofNat q)), .val (.int (Int32.ofNat e8)), .val (.int (Int32.ofNat (own_f xs (q)))), .val (.int (4 : Int32)), .val (.int (Int32.ofNat ((own_f xs (q) % 8) * 64 + (own_f xs (q + 1) % 64)))), .val (.int (Int32.ofNat (own_f xs (q + 1)))), .val (.int (Int32.ofNat (own_f xs (q + 2))))] [(.int (63 : Int32)), (.int (Int32.ofNat (own_f xs (q + 2)))), (.int ((Int32.ofNat ((own_f xs (q) % 8) * 64 + (own_f xs (q + 1) % 64))) <<< ((6 : Int32) &&& 31)))]))
                    refine go (fun _ kont => XS.iand X0.here hx rfl (hb hby d_method_3_190) rfl kont) ?_
                    show G (s₁.setTop (mkF m 191 #[.val (.ref b), .val (.int (Int32.ofNat q)), .val (.int (Int32.ofNat e8)), .val (.int (Int32.ofNat (own_f xs (q)))), .val (.int (4 : Int32)), .val (.int (Int32.ofNat ((own_f xs (q) % 8) * 64 + (own_f xs (q + 1) % 64)))), .val (.int (Int32.ofNat (own_f xs (q + 1)))), .val (.int (Int32.ofNat (own_f xs (q + 2))))] [(.int ((Int32.ofNat (own_f xs (q + 2))) &&& (63 : Int32))), (.int ((Int32.ofNat ((own_f xs (q) % 8) * 64 + (own_f xs (q + 1) % 64))) <<< ((6 : Int32) &&& 31)))]))
                    rw [own_a63' _ (own_fb xs (q + 2))]
                    show G (s₁.setTop (mkF m 191 #[.val (.ref b), .val (.int (Int32.ofNat q)), .val (.int (Int32.ofNat e8)), .val (.int (Int32.ofNat (own_f xs (q)))), .val (.int (4 : Int32)), .val (.int (Int32.ofNat ((own_f xs (q) % 8) * 64 + (own_f xs (q + 1) % 64)))), .val (.int (Int32.ofNat (own_f xs (q + 1)))), .val (.int (Int32.ofNat (own_f xs (q + 2))))] [(.int (Int32.ofNat (own_f xs (q + 2) % 64))), (.int ((Int32.ofNat ((own_f xs (q) % 8) * 64 + (own_f xs (q + 1) % 64))) <<< ((6 : Int32) &&& 31)))]))
                    refine go (fun _ kont => XS.ior X0.here hx rfl (hb hby d_method_3_191) rfl kont) ?_
                    show G (s₁.setTop (mkF m 192 #[.val (.ref b), .val (.int (Int32.ofNat q)), .val (.int (Int32.ofNat e8)), .val (.int (Int32.ofNat (own_f xs (q)))), .val (.int (4 : Int32)), .val (.int (Int32.ofNat ((own_f xs (q) % 8) * 64 + (own_f xs (q + 1) % 64)))), .val (.int (Int32.ofNat (own_f xs (q + 1)))), .val (.int (Int32.ofNat (own_f xs (q + 2))))] [(.int (((Int32.ofNat ((own_f xs (q) % 8) * 64 + (own_f xs (q + 1) % 64))) <<< ((6 : Int32) &&& 31)) ||| (Int32.ofNat (own_f xs (q + 2) % 64))))]))
                    rw [own_shor (a := ((own_f xs (q) % 8) * 64 + (own_f xs (q + 1) % 64))) (b := (own_f xs (q + 2) % 64)) (by omega) (by omega)]
                    show G (s₁.setTop (mkF m 192 #[.val (.ref b), .val (.int (Int32.ofNat q)), .val (.int (Int32.ofNat e8)), .val (.int (Int32.ofNat (own_f xs (q)))), .val (.int (4 : Int32)), .val (.int (Int32.ofNat ((own_f xs (q) % 8) * 64 + (own_f xs (q + 1) % 64)))), .val (.int (Int32.ofNat (own_f xs (q + 1)))), .val (.int (Int32.ofNat (own_f xs (q + 2))))] [(.int (Int32.ofNat (((own_f xs (q) % 8) * 64 + (own_f xs (q + 1) % 64)) * 64 + (own_f xs (q + 2) % 64))))]))
                    refine go (fun _ kont => XS.istore X0.here hx rfl (hb hby d_method_3_192) rfl (l' := #[.val (.ref b), .val (.int (Int32.ofNat q)), .val (.int (Int32.ofNat e8)), .val (.int (Int32.ofNat (own_f xs (q)))), .val (.int (4 : Int32)), .val (.int (Int32.ofNat (((own_f xs (q) % 8) * 64 + (own_f xs (q + 1) % 64)) * 64 + (own_f xs (q + 2) % 64)))), .val (.int (Int32.ofNat (own_f xs (q + 1)))), .val (.int (Int32.ofNat (own_f xs (q + 2))))]) rfl kont) ?_
                    show G (s₁.setTop (mkF m 194 #[.val (.ref b), .val (.int (Int32.ofNat q)), .val (.int (Int32.ofNat e8)), .val (.int (Int32.ofNat (own_f xs (q)))), .val (.int (4 : Int32)), .val (.int (Int32.ofNat (((own_f xs (q) % 8) * 64 + (own_f xs (q + 1) % 64)) * 64 + (own_f xs (q + 2) % 64)))), .val (.int (Int32.ofNat (own_f xs (q + 1)))), .val (.int (Int32.ofNat (own_f xs (q + 2))))] []))
                    refine go (fun _ kont => XS.iload X0.here hx rfl (hb hby d_method_3_194) rfl  kont) ?_
                    show G (s₁.setTop (mkF m 196 #[.val (.ref b), .val (.int (Int32.ofNat q)), .val (.int (Int32.ofNat e8)), .val (.int (Int32.ofNat (own_f xs (q)))), .val (.int (4 : Int32)), .val (.int (Int32.ofNat (((own_f xs (q) % 8) * 64 + (own_f xs (q + 1) % 64)) * 64 + (own_f xs (q + 2) % 64)))), .val (.int (Int32.ofNat (own_f xs (q + 1)))), .val (.int (Int32.ofNat (own_f xs (q + 2))))] [(.int (4 : Int32))]))
                    refine go (fun _ kont => XS.iconst X0.here hx rfl (hb hby d_method_3_196) kont) ?_
                    show G (s₁.setTop (mkF m 197 #[.val (.ref b), .val (.int (Int32.ofNat q)), .val (.int (Int32.ofNat e8)), .val (.int (Int32.ofNat (own_f xs (q)))), .val (.int (4 : Int32)), .val (.int (Int32.ofNat (((own_f xs (q) % 8) * 64 + (own_f xs (q + 1) % 64)) * 64 + (own_f xs (q + 2) % 64)))), .val (.int (Int32.ofNat (own_f xs (q + 1)))), .val (.int (Int32.ofNat (own_f xs (q + 2))))] [(.int (4 : Int32)), (.int (4 : Int32))]))
                    refine go (fun _ kont => XS.icmpNo X0.here hx rfl (hb hby d_method_3_197) rfl (teq (by decide)).2 kont) ?_
                    show G (s₁.setTop (mkF m 200 #[.val (.ref b), .val (.int (Int32.ofNat q)), .val (.int (Int32.ofNat e8)), .val (.int (Int32.ofNat (own_f xs (q)))), .val (.int (4 : Int32)), .val (.int (Int32.ofNat (((own_f xs (q) % 8) * 64 + (own_f xs (q + 1) % 64)) * 64 + (own_f xs (q + 2) % 64)))), .val (.int (Int32.ofNat (own_f xs (q + 1)))), .val (.int (Int32.ofNat (own_f xs (q + 2))))] []))
                    refine go (fun _ kont => XS.aloadN X0.here hx rfl (hb hby d_method_3_200) rfl rfl kont) ?_
                    show G (s₁.setTop (mkF m 201 #[.val (.ref b), .val (.int (Int32.ofNat q)), .val (.int (Int32.ofNat e8)), .val (.int (Int32.ofNat (own_f xs (q)))), .val (.int (4 : Int32)), .val (.int (Int32.ofNat (((own_f xs (q) % 8) * 64 + (own_f xs (q + 1) % 64)) * 64 + (own_f xs (q + 2) % 64)))), .val (.int (Int32.ofNat (own_f xs (q + 1)))), .val (.int (Int32.ofNat (own_f xs (q + 2))))] [(.ref b)]))
                    refine go (fun _ kont => XS.iloadN X0.here hx rfl (hb hby d_method_3_201) rfl  kont) ?_
                    show G (s₁.setTop (mkF m 202 #[.val (.ref b), .val (.int (Int32.ofNat q)), .val (.int (Int32.ofNat e8)), .val (.int (Int32.ofNat (own_f xs (q)))), .val (.int (4 : Int32)), .val (.int (Int32.ofNat (((own_f xs (q) % 8) * 64 + (own_f xs (q + 1) % 64)) * 64 + (own_f xs (q + 2) % 64)))), .val (.int (Int32.ofNat (own_f xs (q + 1)))), .val (.int (Int32.ofNat (own_f xs (q + 2))))] [(.int (Int32.ofNat q)), (.ref b)]))
                    refine go (fun _ kont => XS.iconst X0.here hx rfl (hb hby d_method_3_202) kont) ?_
                    show G (s₁.setTop (mkF m 203 #[.val (.ref b), .val (.int (Int32.ofNat q)), .val (.int (Int32.ofNat e8)), .val (.int (Int32.ofNat (own_f xs (q)))), .val (.int (4 : Int32)), .val (.int (Int32.ofNat (((own_f xs (q) % 8) * 64 + (own_f xs (q + 1) % 64)) * 64 + (own_f xs (q + 2) % 64)))), .val (.int (Int32.ofNat (own_f xs (q + 1)))), .val (.int (Int32.ofNat (own_f xs (q + 2))))] [(.int (3 : Int32)), (.int (Int32.ofNat q)), (.ref b)]))
                    refine go (fun _ kont => XS.iadd X0.here hx rfl (hb hby d_method_3_203) rfl kont) ?_
                    show G (s₁.setTop (mkF m 204 #[.val (.ref b), .val (.int (Int32.ofNat q)), .val (.int (Int32.ofNat e8)), .val (.int (Int32.ofNat (own_f xs (q)))), .val (.int (4 : Int32)), .val (.int (Int32.ofNat (((own_f xs (q) % 8) * 64 + (own_f xs (q + 1) % 64)) * 64 + (own_f xs (q + 2) % 64)))), .val (.int (Int32.ofNat (own_f xs (q + 1)))), .val (.int (Int32.ofNat (own_f xs (q + 2))))] [(.int ((Int32.ofNat q) + (3 : Int32))), (.ref b)]))
                    rw [show Int32.ofNat q + (3 : Int32) = Int32.ofNat (q + 3) from own_addk q 3]
                    show G (s₁.setTop (mkF m 204 #[.val (.ref b), .val (.int (Int32.ofNat q)), .val (.int (Int32.ofNat e8)), .val (.int (Int32.ofNat (own_f xs (q)))), .val (.int (4 : Int32)), .val (.int (Int32.ofNat (((own_f xs (q) % 8) * 64 + (own_f xs (q + 1) % 64)) * 64 + (own_f xs (q + 2) % 64)))), .val (.int (Int32.ofNat (own_f xs (q + 1)))), .val (.int (Int32.ofNat (own_f xs (q + 2))))] [(.int (Int32.ofNat (q + 3))), (.ref b)]))
                    refine go (fun _ kont => X0.baloadBytes hx (j := (Int32.ofNat (q + 3))) (v := (.int (xs.getD (q + 3) 0))) (by rw [e0]; exact Ar.1) (State.isArrayOf_alike hZ.alike Ar.2.1) Ar.2.2 (own_hink Sl (own_neg (by rw [own_ofN (by omega)]; omega)) (own_tnO (by omega)) (k := q + 3) (by rw [List.length_map]; omega)) (own_hatk Sl (own_tnO (by omega)) (own_atI (k := q + 3) (by omega))) (g := (mkF m 204 #[.val (.ref b), .val (.int (Int32.ofNat q)), .val (.int (Int32.ofNat e8)), .val (.int (Int32.ofNat (own_f xs (q)))), .val (.int (4 : Int32)), .val (.int (Int32.ofNat (((own_f xs (q) % 8) * 64 + (own_f xs (q + 1) % 64)) * 64 + (own_f xs (q + 2) % 64)))), .val (.int (Int32.ofNat (own_f xs (q + 1)))), .val (.int (Int32.ofNat (own_f xs (q + 2))))] [(.int (Int32.ofNat (q + 3))), (.ref b)])) rfl rfl (hb hby d_method_3_204) _ kont) ?_
                    show G (s₁.setTop (mkF m 205 #[.val (.ref b), .val (.int (Int32.ofNat q)), .val (.int (Int32.ofNat e8)), .val (.int (Int32.ofNat (own_f xs (q)))), .val (.int (4 : Int32)), .val (.int (Int32.ofNat (((own_f xs (q) % 8) * 64 + (own_f xs (q + 1) % 64)) * 64 + (own_f xs (q + 2) % 64)))), .val (.int (Int32.ofNat (own_f xs (q + 1)))), .val (.int (Int32.ofNat (own_f xs (q + 2))))] [(.int (xs.getD (q + 3) 0))]))
                    refine go (fun _ kont => XS.sipush X0.here hx rfl (hb hby d_method_3_205) kont) ?_
                    show G (s₁.setTop (mkF m 208 #[.val (.ref b), .val (.int (Int32.ofNat q)), .val (.int (Int32.ofNat e8)), .val (.int (Int32.ofNat (own_f xs (q)))), .val (.int (4 : Int32)), .val (.int (Int32.ofNat (((own_f xs (q) % 8) * 64 + (own_f xs (q + 1) % 64)) * 64 + (own_f xs (q + 2) % 64)))), .val (.int (Int32.ofNat (own_f xs (q + 1)))), .val (.int (Int32.ofNat (own_f xs (q + 2))))] [(.int (255 : Int32)), (.int (xs.getD (q + 3) 0))]))
                    refine go (fun _ kont => XS.iand X0.here hx rfl (hb hby d_method_3_208) rfl kont) ?_
                    show G (s₁.setTop (mkF m 209 #[.val (.ref b), .val (.int (Int32.ofNat q)), .val (.int (Int32.ofNat e8)), .val (.int (Int32.ofNat (own_f xs (q)))), .val (.int (4 : Int32)), .val (.int (Int32.ofNat (((own_f xs (q) % 8) * 64 + (own_f xs (q + 1) % 64)) * 64 + (own_f xs (q + 2) % 64)))), .val (.int (Int32.ofNat (own_f xs (q + 1)))), .val (.int (Int32.ofNat (own_f xs (q + 2))))] [(.int ((xs.getD (q + 3) 0) &&& (255 : Int32)))]))
                    rw [own_fe xs (q + 3)]
                    show G (s₁.setTop (mkF m 209 #[.val (.ref b), .val (.int (Int32.ofNat q)), .val (.int (Int32.ofNat e8)), .val (.int (Int32.ofNat (own_f xs (q)))), .val (.int (4 : Int32)), .val (.int (Int32.ofNat (((own_f xs (q) % 8) * 64 + (own_f xs (q + 1) % 64)) * 64 + (own_f xs (q + 2) % 64)))), .val (.int (Int32.ofNat (own_f xs (q + 1)))), .val (.int (Int32.ofNat (own_f xs (q + 2))))] [(.int (Int32.ofNat (own_f xs (q + 3))))]))
                    refine go (fun _ kont => XS.istore X0.here hx rfl (hb hby d_method_3_209) rfl (l' := #[.val (.ref b), .val (.int (Int32.ofNat q)), .val (.int (Int32.ofNat e8)), .val (.int (Int32.ofNat (own_f xs (q)))), .val (.int (4 : Int32)), .val (.int (Int32.ofNat (((own_f xs (q) % 8) * 64 + (own_f xs (q + 1) % 64)) * 64 + (own_f xs (q + 2) % 64)))), .val (.int (Int32.ofNat (own_f xs (q + 1)))), .val (.int (Int32.ofNat (own_f xs (q + 3))))]) rfl kont) ?_
                    show G (s₁.setTop (mkF m 211 #[.val (.ref b), .val (.int (Int32.ofNat q)), .val (.int (Int32.ofNat e8)), .val (.int (Int32.ofNat (own_f xs (q)))), .val (.int (4 : Int32)), .val (.int (Int32.ofNat (((own_f xs (q) % 8) * 64 + (own_f xs (q + 1) % 64)) * 64 + (own_f xs (q + 2) % 64)))), .val (.int (Int32.ofNat (own_f xs (q + 1)))), .val (.int (Int32.ofNat (own_f xs (q + 3))))] []))
                    refine go (fun _ kont => XS.iload X0.here hx rfl (hb hby d_method_3_211) rfl  kont) ?_
                    show G (s₁.setTop (mkF m 213 #[.val (.ref b), .val (.int (Int32.ofNat q)), .val (.int (Int32.ofNat e8)), .val (.int (Int32.ofNat (own_f xs (q)))), .val (.int (4 : Int32)), .val (.int (Int32.ofNat (((own_f xs (q) % 8) * 64 + (own_f xs (q + 1) % 64)) * 64 + (own_f xs (q + 2) % 64)))), .val (.int (Int32.ofNat (own_f xs (q + 1)))), .val (.int (Int32.ofNat (own_f xs (q + 3))))] [(.int (Int32.ofNat (own_f xs (q + 3))))]))
                    refine go (fun _ kont => XS.sipush X0.here hx rfl (hb hby d_method_3_213) kont) ?_
                    show G (s₁.setTop (mkF m 216 #[.val (.ref b), .val (.int (Int32.ofNat q)), .val (.int (Int32.ofNat e8)), .val (.int (Int32.ofNat (own_f xs (q)))), .val (.int (4 : Int32)), .val (.int (Int32.ofNat (((own_f xs (q) % 8) * 64 + (own_f xs (q + 1) % 64)) * 64 + (own_f xs (q + 2) % 64)))), .val (.int (Int32.ofNat (own_f xs (q + 1)))), .val (.int (Int32.ofNat (own_f xs (q + 3))))] [(.int (192 : Int32)), (.int (Int32.ofNat (own_f xs (q + 3))))]))
                    refine go (fun _ kont => XS.iand X0.here hx rfl (hb hby d_method_3_216) rfl kont) ?_
                    show G (s₁.setTop (mkF m 217 #[.val (.ref b), .val (.int (Int32.ofNat q)), .val (.int (Int32.ofNat e8)), .val (.int (Int32.ofNat (own_f xs (q)))), .val (.int (4 : Int32)), .val (.int (Int32.ofNat (((own_f xs (q) % 8) * 64 + (own_f xs (q + 1) % 64)) * 64 + (own_f xs (q + 2) % 64)))), .val (.int (Int32.ofNat (own_f xs (q + 1)))), .val (.int (Int32.ofNat (own_f xs (q + 3))))] [(.int ((Int32.ofNat (own_f xs (q + 3))) &&& (192 : Int32)))]))
                    refine go (fun _ kont => XS.sipush X0.here hx rfl (hb hby d_method_3_217) kont) ?_
                    show G (s₁.setTop (mkF m 220 #[.val (.ref b), .val (.int (Int32.ofNat q)), .val (.int (Int32.ofNat e8)), .val (.int (Int32.ofNat (own_f xs (q)))), .val (.int (4 : Int32)), .val (.int (Int32.ofNat (((own_f xs (q) % 8) * 64 + (own_f xs (q + 1) % 64)) * 64 + (own_f xs (q + 2) % 64)))), .val (.int (Int32.ofNat (own_f xs (q + 1)))), .val (.int (Int32.ofNat (own_f xs (q + 3))))] [(.int (128 : Int32)), (.int ((Int32.ofNat (own_f xs (q + 3))) &&& (192 : Int32)))]))
                    by_cases hc220 : ((Int32.ofNat (own_f xs (q + 3))) &&& (192 : Int32)) = (128 : Int32)
                    · refine go (fun _ kont => XS.icmpYes X0.here hx rfl (pc0 := 220) (pc' := 225) rfl (hb hby d_method_3_220) rfl (teq hc220).1 (by decide) (by decide) kont) ?_
                      show G (s₁.setTop (mkF m 225 #[.val (.ref b), .val (.int (Int32.ofNat q)), .val (.int (Int32.ofNat e8)), .val (.int (Int32.ofNat (own_f xs (q)))), .val (.int (4 : Int32)), .val (.int (Int32.ofNat (((own_f xs (q) % 8) * 64 + (own_f xs (q + 1) % 64)) * 64 + (own_f xs (q + 2) % 64)))), .val (.int (Int32.ofNat (own_f xs (q + 1)))), .val (.int (Int32.ofNat (own_f xs (q + 3))))] []))
                      rw [own_m192' _ hb3] at hc220
                      refine go (fun _ kont => XS.iload X0.here hx rfl (hb hby d_method_3_225) rfl  kont) ?_
                      show G (s₁.setTop (mkF m 227 #[.val (.ref b), .val (.int (Int32.ofNat q)), .val (.int (Int32.ofNat e8)), .val (.int (Int32.ofNat (own_f xs (q)))), .val (.int (4 : Int32)), .val (.int (Int32.ofNat (((own_f xs (q) % 8) * 64 + (own_f xs (q + 1) % 64)) * 64 + (own_f xs (q + 2) % 64)))), .val (.int (Int32.ofNat (own_f xs (q + 1)))), .val (.int (Int32.ofNat (own_f xs (q + 3))))] [(.int (Int32.ofNat (((own_f xs (q) % 8) * 64 + (own_f xs (q + 1) % 64)) * 64 + (own_f xs (q + 2) % 64))))]))
                      refine go (fun _ kont => XS.bipush X0.here hx rfl (hb hby d_method_3_227) kont) ?_
                      show G (s₁.setTop (mkF m 229 #[.val (.ref b), .val (.int (Int32.ofNat q)), .val (.int (Int32.ofNat e8)), .val (.int (Int32.ofNat (own_f xs (q)))), .val (.int (4 : Int32)), .val (.int (Int32.ofNat (((own_f xs (q) % 8) * 64 + (own_f xs (q + 1) % 64)) * 64 + (own_f xs (q + 2) % 64)))), .val (.int (Int32.ofNat (own_f xs (q + 1)))), .val (.int (Int32.ofNat (own_f xs (q + 3))))] [(.int (6 : Int32)), (.int (Int32.ofNat (((own_f xs (q) % 8) * 64 + (own_f xs (q + 1) % 64)) * 64 + (own_f xs (q + 2) % 64))))]))
                      refine go (fun _ kont => XS.ishl X0.here hx rfl (hb hby d_method_3_229) rfl kont) ?_
                      show G (s₁.setTop (mkF m 230 #[.val (.ref b), .val (.int (Int32.ofNat q)), .val (.int (Int32.ofNat e8)), .val (.int (Int32.ofNat (own_f xs (q)))), .val (.int (4 : Int32)), .val (.int (Int32.ofNat (((own_f xs (q) % 8) * 64 + (own_f xs (q + 1) % 64)) * 64 + (own_f xs (q + 2) % 64)))), .val (.int (Int32.ofNat (own_f xs (q + 1)))), .val (.int (Int32.ofNat (own_f xs (q + 3))))] [(.int ((Int32.ofNat (((own_f xs (q) % 8) * 64 + (own_f xs (q + 1) % 64)) * 64 + (own_f xs (q + 2) % 64))) <<< ((6 : Int32) &&& 31)))]))
                      refine go (fun _ kont => XS.iload X0.here hx rfl (hb hby d_method_3_230) rfl  kont) ?_
                      show G (s₁.setTop (mkF m 232 #[.val (.ref b), .val (.int (Int32.ofNat q)), .val (.int (Int32.ofNat e8)), .val (.int (Int32.ofNat (own_f xs (q)))), .val (.int (4 : Int32)), .val (.int (Int32.ofNat (((own_f xs (q) % 8) * 64 + (own_f xs (q + 1) % 64)) * 64 + (own_f xs (q + 2) % 64)))), .val (.int (Int32.ofNat (own_f xs (q + 1)))), .val (.int (Int32.ofNat (own_f xs (q + 3))))] [(.int (Int32.ofNat (own_f xs (q + 3)))), (.int ((Int32.ofNat (((own_f xs (q) % 8) * 64 + (own_f xs (q + 1) % 64)) * 64 + (own_f xs (q + 2) % 64))) <<< ((6 : Int32) &&& 31)))]))
                      refine go (fun _ kont => XS.bipush X0.here hx rfl (hb hby d_method_3_232) kont) ?_
                      show G (s₁.setTop (mkF m 234 #[.val (.ref b), .val (.int (Int32.ofNat q)), .val (.int (Int32.ofNat e8)), .val (.int (Int32.ofNat (own_f xs (q)))), .val (.int (4 : Int32)), .val (.int (Int32.ofNat (((own_f xs (q) % 8) * 64 + (own_f xs (q + 1) % 64)) * 64 + (own_f xs (q + 2) % 64)))), .val (.int (Int32.ofNat (own_f xs (q + 1)))), .val (.int (Int32.ofNat (own_f xs (q + 3))))] [(.int (63 : Int32)), (.int (Int32.ofNat (own_f xs (q + 3)))), (.int ((Int32.ofNat (((own_f xs (q) % 8) * 64 + (own_f xs (q + 1) % 64)) * 64 + (own_f xs (q + 2) % 64))) <<< ((6 : Int32) &&& 31)))]))
                      refine go (fun _ kont => XS.iand X0.here hx rfl (hb hby d_method_3_234) rfl kont) ?_
                      show G (s₁.setTop (mkF m 235 #[.val (.ref b), .val (.int (Int32.ofNat q)), .val (.int (Int32.ofNat e8)), .val (.int (Int32.ofNat (own_f xs (q)))), .val (.int (4 : Int32)), .val (.int (Int32.ofNat (((own_f xs (q) % 8) * 64 + (own_f xs (q + 1) % 64)) * 64 + (own_f xs (q + 2) % 64)))), .val (.int (Int32.ofNat (own_f xs (q + 1)))), .val (.int (Int32.ofNat (own_f xs (q + 3))))] [(.int ((Int32.ofNat (own_f xs (q + 3))) &&& (63 : Int32))), (.int ((Int32.ofNat (((own_f xs (q) % 8) * 64 + (own_f xs (q + 1) % 64)) * 64 + (own_f xs (q + 2) % 64))) <<< ((6 : Int32) &&& 31)))]))
                      rw [own_a63' _ (own_fb xs (q + 3))]
                      show G (s₁.setTop (mkF m 235 #[.val (.ref b), .val (.int (Int32.ofNat q)), .val (.int (Int32.ofNat e8)), .val (.int (Int32.ofNat (own_f xs (q)))), .val (.int (4 : Int32)), .val (.int (Int32.ofNat (((own_f xs (q) % 8) * 64 + (own_f xs (q + 1) % 64)) * 64 + (own_f xs (q + 2) % 64)))), .val (.int (Int32.ofNat (own_f xs (q + 1)))), .val (.int (Int32.ofNat (own_f xs (q + 3))))] [(.int (Int32.ofNat (own_f xs (q + 3) % 64))), (.int ((Int32.ofNat (((own_f xs (q) % 8) * 64 + (own_f xs (q + 1) % 64)) * 64 + (own_f xs (q + 2) % 64))) <<< ((6 : Int32) &&& 31)))]))
                      refine go (fun _ kont => XS.ior X0.here hx rfl (hb hby d_method_3_235) rfl kont) ?_
                      show G (s₁.setTop (mkF m 236 #[.val (.ref b), .val (.int (Int32.ofNat q)), .val (.int (Int32.ofNat e8)), .val (.int (Int32.ofNat (own_f xs (q)))), .val (.int (4 : Int32)), .val (.int (Int32.ofNat (((own_f xs (q) % 8) * 64 + (own_f xs (q + 1) % 64)) * 64 + (own_f xs (q + 2) % 64)))), .val (.int (Int32.ofNat (own_f xs (q + 1)))), .val (.int (Int32.ofNat (own_f xs (q + 3))))] [(.int (((Int32.ofNat (((own_f xs (q) % 8) * 64 + (own_f xs (q + 1) % 64)) * 64 + (own_f xs (q + 2) % 64))) <<< ((6 : Int32) &&& 31)) ||| (Int32.ofNat (own_f xs (q + 3) % 64))))]))
                      rw [own_shor (a := (((own_f xs (q) % 8) * 64 + (own_f xs (q + 1) % 64)) * 64 + (own_f xs (q + 2) % 64))) (b := (own_f xs (q + 3) % 64)) (by omega) (by omega)]
                      show G (s₁.setTop (mkF m 236 #[.val (.ref b), .val (.int (Int32.ofNat q)), .val (.int (Int32.ofNat e8)), .val (.int (Int32.ofNat (own_f xs (q)))), .val (.int (4 : Int32)), .val (.int (Int32.ofNat (((own_f xs (q) % 8) * 64 + (own_f xs (q + 1) % 64)) * 64 + (own_f xs (q + 2) % 64)))), .val (.int (Int32.ofNat (own_f xs (q + 1)))), .val (.int (Int32.ofNat (own_f xs (q + 3))))] [(.int (Int32.ofNat ((((own_f xs (q) % 8) * 64 + (own_f xs (q + 1) % 64)) * 64 + (own_f xs (q + 2) % 64)) * 64 + (own_f xs (q + 3) % 64))))]))
                      refine go (fun _ kont => XS.istore X0.here hx rfl (hb hby d_method_3_236) rfl (l' := #[.val (.ref b), .val (.int (Int32.ofNat q)), .val (.int (Int32.ofNat e8)), .val (.int (Int32.ofNat (own_f xs (q)))), .val (.int (4 : Int32)), .val (.int (Int32.ofNat ((((own_f xs (q) % 8) * 64 + (own_f xs (q + 1) % 64)) * 64 + (own_f xs (q + 2) % 64)) * 64 + (own_f xs (q + 3) % 64)))), .val (.int (Int32.ofNat (own_f xs (q + 1)))), .val (.int (Int32.ofNat (own_f xs (q + 3))))]) rfl kont) ?_
                      show G (s₁.setTop (mkF m 238 #[.val (.ref b), .val (.int (Int32.ofNat q)), .val (.int (Int32.ofNat e8)), .val (.int (Int32.ofNat (own_f xs (q)))), .val (.int (4 : Int32)), .val (.int (Int32.ofNat ((((own_f xs (q) % 8) * 64 + (own_f xs (q + 1) % 64)) * 64 + (own_f xs (q + 2) % 64)) * 64 + (own_f xs (q + 3) % 64)))), .val (.int (Int32.ofNat (own_f xs (q + 1)))), .val (.int (Int32.ofNat (own_f xs (q + 3))))] []))
                      refine go (fun _ kont => XS.iload X0.here hx rfl (hb hby d_method_3_238) rfl  kont) ?_
                      show G (s₁.setTop (mkF m 240 #[.val (.ref b), .val (.int (Int32.ofNat q)), .val (.int (Int32.ofNat e8)), .val (.int (Int32.ofNat (own_f xs (q)))), .val (.int (4 : Int32)), .val (.int (Int32.ofNat ((((own_f xs (q) % 8) * 64 + (own_f xs (q + 1) % 64)) * 64 + (own_f xs (q + 2) % 64)) * 64 + (own_f xs (q + 3) % 64)))), .val (.int (Int32.ofNat (own_f xs (q + 1)))), .val (.int (Int32.ofNat (own_f xs (q + 3))))] [(.int (4 : Int32))]))
                      refine go (fun _ kont => XS.iconst X0.here hx rfl (hb hby d_method_3_240) kont) ?_
                      show G (s₁.setTop (mkF m 241 #[.val (.ref b), .val (.int (Int32.ofNat q)), .val (.int (Int32.ofNat e8)), .val (.int (Int32.ofNat (own_f xs (q)))), .val (.int (4 : Int32)), .val (.int (Int32.ofNat ((((own_f xs (q) % 8) * 64 + (own_f xs (q + 1) % 64)) * 64 + (own_f xs (q + 2) % 64)) * 64 + (own_f xs (q + 3) % 64)))), .val (.int (Int32.ofNat (own_f xs (q + 1)))), .val (.int (Int32.ofNat (own_f xs (q + 3))))] [(.int (2 : Int32)), (.int (4 : Int32))]))
                      refine go (fun _ kont => XS.icmpYes X0.here hx rfl (pc0 := 241) (pc' := 254) rfl (hb hby d_method_3_241) rfl (feq (by decide)).2 (by decide) (by decide) kont) ?_
                      show G (s₁.setTop (mkF m 254 #[.val (.ref b), .val (.int (Int32.ofNat q)), .val (.int (Int32.ofNat e8)), .val (.int (Int32.ofNat (own_f xs (q)))), .val (.int (4 : Int32)), .val (.int (Int32.ofNat ((((own_f xs (q) % 8) * 64 + (own_f xs (q + 1) % 64)) * 64 + (own_f xs (q + 2) % 64)) * 64 + (own_f xs (q + 3) % 64)))), .val (.int (Int32.ofNat (own_f xs (q + 1)))), .val (.int (Int32.ofNat (own_f xs (q + 3))))] []))
                      refine go (fun _ kont => XS.iload X0.here hx rfl (hb hby d_method_3_254) rfl  kont) ?_
                      show G (s₁.setTop (mkF m 256 #[.val (.ref b), .val (.int (Int32.ofNat q)), .val (.int (Int32.ofNat e8)), .val (.int (Int32.ofNat (own_f xs (q)))), .val (.int (4 : Int32)), .val (.int (Int32.ofNat ((((own_f xs (q) % 8) * 64 + (own_f xs (q + 1) % 64)) * 64 + (own_f xs (q + 2) % 64)) * 64 + (own_f xs (q + 3) % 64)))), .val (.int (Int32.ofNat (own_f xs (q + 1)))), .val (.int (Int32.ofNat (own_f xs (q + 3))))] [(.int (4 : Int32))]))
                      refine go (fun _ kont => XS.iconst X0.here hx rfl (hb hby d_method_3_256) kont) ?_
                      show G (s₁.setTop (mkF m 257 #[.val (.ref b), .val (.int (Int32.ofNat q)), .val (.int (Int32.ofNat e8)), .val (.int (Int32.ofNat (own_f xs (q)))), .val (.int (4 : Int32)), .val (.int (Int32.ofNat ((((own_f xs (q) % 8) * 64 + (own_f xs (q + 1) % 64)) * 64 + (own_f xs (q + 2) % 64)) * 64 + (own_f xs (q + 3) % 64)))), .val (.int (Int32.ofNat (own_f xs (q + 1)))), .val (.int (Int32.ofNat (own_f xs (q + 3))))] [(.int (3 : Int32)), (.int (4 : Int32))]))
                      refine go (fun _ kont => XS.icmpYes X0.here hx rfl (pc0 := 257) (pc' := 284) rfl (hb hby d_method_3_257) rfl (feq (by decide)).2 (by decide) (by decide) kont) ?_
                      show G (s₁.setTop (mkF m 284 #[.val (.ref b), .val (.int (Int32.ofNat q)), .val (.int (Int32.ofNat e8)), .val (.int (Int32.ofNat (own_f xs (q)))), .val (.int (4 : Int32)), .val (.int (Int32.ofNat ((((own_f xs (q) % 8) * 64 + (own_f xs (q + 1) % 64)) * 64 + (own_f xs (q + 2) % 64)) * 64 + (own_f xs (q + 3) % 64)))), .val (.int (Int32.ofNat (own_f xs (q + 1)))), .val (.int (Int32.ofNat (own_f xs (q + 3))))] []))
                      refine go (fun _ kont => XS.iload X0.here hx rfl (hb hby d_method_3_284) rfl  kont) ?_
                      show G (s₁.setTop (mkF m 286 #[.val (.ref b), .val (.int (Int32.ofNat q)), .val (.int (Int32.ofNat e8)), .val (.int (Int32.ofNat (own_f xs (q)))), .val (.int (4 : Int32)), .val (.int (Int32.ofNat ((((own_f xs (q) % 8) * 64 + (own_f xs (q + 1) % 64)) * 64 + (own_f xs (q + 2) % 64)) * 64 + (own_f xs (q + 3) % 64)))), .val (.int (Int32.ofNat (own_f xs (q + 1)))), .val (.int (Int32.ofNat (own_f xs (q + 3))))] [(.int (4 : Int32))]))
                      refine go (fun _ kont => XS.iconst X0.here hx rfl (hb hby d_method_3_286) kont) ?_
                      show G (s₁.setTop (mkF m 287 #[.val (.ref b), .val (.int (Int32.ofNat q)), .val (.int (Int32.ofNat e8)), .val (.int (Int32.ofNat (own_f xs (q)))), .val (.int (4 : Int32)), .val (.int (Int32.ofNat ((((own_f xs (q) % 8) * 64 + (own_f xs (q + 1) % 64)) * 64 + (own_f xs (q + 2) % 64)) * 64 + (own_f xs (q + 3) % 64)))), .val (.int (Int32.ofNat (own_f xs (q + 1)))), .val (.int (Int32.ofNat (own_f xs (q + 3))))] [(.int (4 : Int32)), (.int (4 : Int32))]))
                      refine go (fun _ kont => XS.icmpNo X0.here hx rfl (hb hby d_method_3_287) rfl (teq (by decide)).2 kont) ?_
                      show G (s₁.setTop (mkF m 290 #[.val (.ref b), .val (.int (Int32.ofNat q)), .val (.int (Int32.ofNat e8)), .val (.int (Int32.ofNat (own_f xs (q)))), .val (.int (4 : Int32)), .val (.int (Int32.ofNat ((((own_f xs (q) % 8) * 64 + (own_f xs (q + 1) % 64)) * 64 + (own_f xs (q + 2) % 64)) * 64 + (own_f xs (q + 3) % 64)))), .val (.int (Int32.ofNat (own_f xs (q + 1)))), .val (.int (Int32.ofNat (own_f xs (q + 3))))] []))
                      refine go (fun _ kont => XS.iload X0.here hx rfl (hb hby d_method_3_290) rfl  kont) ?_
                      show G (s₁.setTop (mkF m 292 #[.val (.ref b), .val (.int (Int32.ofNat q)), .val (.int (Int32.ofNat e8)), .val (.int (Int32.ofNat (own_f xs (q)))), .val (.int (4 : Int32)), .val (.int (Int32.ofNat ((((own_f xs (q) % 8) * 64 + (own_f xs (q + 1) % 64)) * 64 + (own_f xs (q + 2) % 64)) * 64 + (own_f xs (q + 3) % 64)))), .val (.int (Int32.ofNat (own_f xs (q + 1)))), .val (.int (Int32.ofNat (own_f xs (q + 3))))] [(.int (Int32.ofNat ((((own_f xs (q) % 8) * 64 + (own_f xs (q + 1) % 64)) * 64 + (own_f xs (q + 2) % 64)) * 64 + (own_f xs (q + 3) % 64))))]))
                      refine go (fun _ kont => X0.ldcInt hx hown (mvT hZ (hw _ (List.mem_of_getElem? (i := 12) rfl))) (g := (mkF m 292 #[.val (.ref b), .val (.int (Int32.ofNat q)), .val (.int (Int32.ofNat e8)), .val (.int (Int32.ofNat (own_f xs (q)))), .val (.int (4 : Int32)), .val (.int (Int32.ofNat ((((own_f xs (q) % 8) * 64 + (own_f xs (q + 1) % 64)) * 64 + (own_f xs (q + 2) % 64)) * 64 + (own_f xs (q + 3) % 64)))), .val (.int (Int32.ofNat (own_f xs (q + 1)))), .val (.int (Int32.ofNat (own_f xs (q + 3))))] [(.int (Int32.ofNat ((((own_f xs (q) % 8) * 64 + (own_f xs (q + 1) % 64)) * 64 + (own_f xs (q + 2) % 64)) * 64 + (own_f xs (q + 3) % 64))))])) rfl (hb hby d_method_3_292) _ kont) ?_
                      show G (s₁.setTop (mkF m 294 #[.val (.ref b), .val (.int (Int32.ofNat q)), .val (.int (Int32.ofNat e8)), .val (.int (Int32.ofNat (own_f xs (q)))), .val (.int (4 : Int32)), .val (.int (Int32.ofNat ((((own_f xs (q) % 8) * 64 + (own_f xs (q + 1) % 64)) * 64 + (own_f xs (q + 2) % 64)) * 64 + (own_f xs (q + 3) % 64)))), .val (.int (Int32.ofNat (own_f xs (q + 1)))), .val (.int (Int32.ofNat (own_f xs (q + 3))))] [(.int (65536 : Int32)), (.int (Int32.ofNat ((((own_f xs (q) % 8) * 64 + (own_f xs (q + 1) % 64)) * 64 + (own_f xs (q + 2) % 64)) * 64 + (own_f xs (q + 3) % 64))))]))
                      by_cases hc294 : (Int32.ofNat ((((own_f xs (q) % 8) * 64 + (own_f xs (q + 1) % 64)) * 64 + (own_f xs (q + 2) % 64)) * 64 + (own_f xs (q + 3) % 64))) < (65536 : Int32)
                      · refine go (fun _ kont => XS.icmpYes X0.here hx rfl (pc0 := 294) (pc' := 304) rfl (hb hby d_method_3_294) rfl (tlt hc294).1 (by decide) (by decide) kont) ?_
                        show G (s₁.setTop (mkF m 304 #[.val (.ref b), .val (.int (Int32.ofNat q)), .val (.int (Int32.ofNat e8)), .val (.int (Int32.ofNat (own_f xs (q)))), .val (.int (4 : Int32)), .val (.int (Int32.ofNat ((((own_f xs (q) % 8) * 64 + (own_f xs (q + 1) % 64)) * 64 + (own_f xs (q + 2) % 64)) * 64 + (own_f xs (q + 3) % 64)))), .val (.int (Int32.ofNat (own_f xs (q + 1)))), .val (.int (Int32.ofNat (own_f xs (q + 3))))] []))
                        rw [show Int32.ofNat ((((own_f xs (q) % 8) * 64 + (own_f xs (q + 1) % 64)) * 64 + (own_f xs (q + 2) % 64)) * 64 + (own_f xs (q + 3) % 64)) < (65536 : Int32) ↔ ((((own_f xs (q) % 8) * 64 + (own_f xs (q + 1) % 64)) * 64 + (own_f xs (q + 2) % 64)) * 64 + (own_f xs (q + 3) % 64)) < 65536 from own_ltO (d := ((((own_f xs (q) % 8) * 64 + (own_f xs (q + 1) % 64)) * 64 + (own_f xs (q + 2) % 64)) * 64 + (own_f xs (q + 3) % 64))) (k := 65536) (by omega) (by omega)] at hc294
                        refine go (fun _ kont => XS.iconst X0.here hx rfl (hb hby d_method_3_304) kont) ?_
                        show G (s₁.setTop (mkF m 305 #[.val (.ref b), .val (.int (Int32.ofNat q)), .val (.int (Int32.ofNat e8)), .val (.int (Int32.ofNat (own_f xs (q)))), .val (.int (4 : Int32)), .val (.int (Int32.ofNat ((((own_f xs (q) % 8) * 64 + (own_f xs (q + 1) % 64)) * 64 + (own_f xs (q + 2) % 64)) * 64 + (own_f xs (q + 3) % 64)))), .val (.int (Int32.ofNat (own_f xs (q + 1)))), .val (.int (Int32.ofNat (own_f xs (q + 3))))] [(.int (-1 : Int32))]))
                        rw [hG]
                        exact own_retI X0 hx Bd.returns (hb hby d_method_3_305) hlk (by decide) (by decide) ⟨by congr 2; exact (own_st_bad hc6' (by unfold own_N own_n; (repeat' split) <;> omega)).symm, N0, e0⟩
                      · refine go (fun _ kont => XS.icmpNo X0.here hx rfl (hb hby d_method_3_294) rfl (flt hc294).1 kont) ?_
                        show G (s₁.setTop (mkF m 297 #[.val (.ref b), .val (.int (Int32.ofNat q)), .val (.int (Int32.ofNat e8)), .val (.int (Int32.ofNat (own_f xs (q)))), .val (.int (4 : Int32)), .val (.int (Int32.ofNat ((((own_f xs (q) % 8) * 64 + (own_f xs (q + 1) % 64)) * 64 + (own_f xs (q + 2) % 64)) * 64 + (own_f xs (q + 3) % 64)))), .val (.int (Int32.ofNat (own_f xs (q + 1)))), .val (.int (Int32.ofNat (own_f xs (q + 3))))] []))
                        rw [show Int32.ofNat ((((own_f xs (q) % 8) * 64 + (own_f xs (q + 1) % 64)) * 64 + (own_f xs (q + 2) % 64)) * 64 + (own_f xs (q + 3) % 64)) < (65536 : Int32) ↔ ((((own_f xs (q) % 8) * 64 + (own_f xs (q + 1) % 64)) * 64 + (own_f xs (q + 2) % 64)) * 64 + (own_f xs (q + 3) % 64)) < 65536 from own_ltO (d := ((((own_f xs (q) % 8) * 64 + (own_f xs (q + 1) % 64)) * 64 + (own_f xs (q + 2) % 64)) * 64 + (own_f xs (q + 3) % 64))) (k := 65536) (by omega) (by omega)] at hc294
                        refine go (fun _ kont => XS.iload X0.here hx rfl (hb hby d_method_3_297) rfl  kont) ?_
                        show G (s₁.setTop (mkF m 299 #[.val (.ref b), .val (.int (Int32.ofNat q)), .val (.int (Int32.ofNat e8)), .val (.int (Int32.ofNat (own_f xs (q)))), .val (.int (4 : Int32)), .val (.int (Int32.ofNat ((((own_f xs (q) % 8) * 64 + (own_f xs (q + 1) % 64)) * 64 + (own_f xs (q + 2) % 64)) * 64 + (own_f xs (q + 3) % 64)))), .val (.int (Int32.ofNat (own_f xs (q + 1)))), .val (.int (Int32.ofNat (own_f xs (q + 3))))] [(.int (Int32.ofNat ((((own_f xs (q) % 8) * 64 + (own_f xs (q + 1) % 64)) * 64 + (own_f xs (q + 2) % 64)) * 64 + (own_f xs (q + 3) % 64))))]))
                        refine go (fun _ kont => X0.ldcInt hx hown (mvT hZ (hw _ (List.mem_of_getElem? (i := 13) rfl))) (g := (mkF m 299 #[.val (.ref b), .val (.int (Int32.ofNat q)), .val (.int (Int32.ofNat e8)), .val (.int (Int32.ofNat (own_f xs (q)))), .val (.int (4 : Int32)), .val (.int (Int32.ofNat ((((own_f xs (q) % 8) * 64 + (own_f xs (q + 1) % 64)) * 64 + (own_f xs (q + 2) % 64)) * 64 + (own_f xs (q + 3) % 64)))), .val (.int (Int32.ofNat (own_f xs (q + 1)))), .val (.int (Int32.ofNat (own_f xs (q + 3))))] [(.int (Int32.ofNat ((((own_f xs (q) % 8) * 64 + (own_f xs (q + 1) % 64)) * 64 + (own_f xs (q + 2) % 64)) * 64 + (own_f xs (q + 3) % 64))))])) rfl (hb hby d_method_3_299) _ kont) ?_
                        show G (s₁.setTop (mkF m 301 #[.val (.ref b), .val (.int (Int32.ofNat q)), .val (.int (Int32.ofNat e8)), .val (.int (Int32.ofNat (own_f xs (q)))), .val (.int (4 : Int32)), .val (.int (Int32.ofNat ((((own_f xs (q) % 8) * 64 + (own_f xs (q + 1) % 64)) * 64 + (own_f xs (q + 2) % 64)) * 64 + (own_f xs (q + 3) % 64)))), .val (.int (Int32.ofNat (own_f xs (q + 1)))), .val (.int (Int32.ofNat (own_f xs (q + 3))))] [(.int (1114111 : Int32)), (.int (Int32.ofNat ((((own_f xs (q) % 8) * 64 + (own_f xs (q + 1) % 64)) * 64 + (own_f xs (q + 2) % 64)) * 64 + (own_f xs (q + 3) % 64))))]))
                        by_cases hc301 : (1114111 : Int32) < (Int32.ofNat ((((own_f xs (q) % 8) * 64 + (own_f xs (q + 1) % 64)) * 64 + (own_f xs (q + 2) % 64)) * 64 + (own_f xs (q + 3) % 64)))
                        · refine go (fun _ kont => XS.icmpNo X0.here hx rfl (hb hby d_method_3_301) rfl (tlt hc301).2.2.2 kont) ?_
                          show G (s₁.setTop (mkF m 304 #[.val (.ref b), .val (.int (Int32.ofNat q)), .val (.int (Int32.ofNat e8)), .val (.int (Int32.ofNat (own_f xs (q)))), .val (.int (4 : Int32)), .val (.int (Int32.ofNat ((((own_f xs (q) % 8) * 64 + (own_f xs (q + 1) % 64)) * 64 + (own_f xs (q + 2) % 64)) * 64 + (own_f xs (q + 3) % 64)))), .val (.int (Int32.ofNat (own_f xs (q + 1)))), .val (.int (Int32.ofNat (own_f xs (q + 3))))] []))
                          rw [show (1114111 : Int32) < Int32.ofNat ((((own_f xs (q) % 8) * 64 + (own_f xs (q + 1) % 64)) * 64 + (own_f xs (q + 2) % 64)) * 64 + (own_f xs (q + 3) % 64)) ↔ 1114111 < ((((own_f xs (q) % 8) * 64 + (own_f xs (q + 1) % 64)) * 64 + (own_f xs (q + 2) % 64)) * 64 + (own_f xs (q + 3) % 64)) from own_ltO (d := 1114111) (k := ((((own_f xs (q) % 8) * 64 + (own_f xs (q + 1) % 64)) * 64 + (own_f xs (q + 2) % 64)) * 64 + (own_f xs (q + 3) % 64))) (by omega) (by omega)] at hc301
                          refine go (fun _ kont => XS.iconst X0.here hx rfl (hb hby d_method_3_304) kont) ?_
                          show G (s₁.setTop (mkF m 305 #[.val (.ref b), .val (.int (Int32.ofNat q)), .val (.int (Int32.ofNat e8)), .val (.int (Int32.ofNat (own_f xs (q)))), .val (.int (4 : Int32)), .val (.int (Int32.ofNat ((((own_f xs (q) % 8) * 64 + (own_f xs (q + 1) % 64)) * 64 + (own_f xs (q + 2) % 64)) * 64 + (own_f xs (q + 3) % 64)))), .val (.int (Int32.ofNat (own_f xs (q + 1)))), .val (.int (Int32.ofNat (own_f xs (q + 3))))] [(.int (-1 : Int32))]))
                          rw [hG]
                          exact own_retI X0 hx Bd.returns (hb hby d_method_3_305) hlk (by decide) (by decide) ⟨by congr 2; exact (own_st_bad hc6' (by unfold own_N own_n; (repeat' split) <;> omega)).symm, N0, e0⟩
                        · refine go (fun _ kont => XS.icmpYes X0.here hx rfl (pc0 := 301) (pc' := 306) rfl (hb hby d_method_3_301) rfl (flt hc301).2.2.2 (by decide) (by decide) kont) ?_
                          show G (s₁.setTop (mkF m 306 #[.val (.ref b), .val (.int (Int32.ofNat q)), .val (.int (Int32.ofNat e8)), .val (.int (Int32.ofNat (own_f xs (q)))), .val (.int (4 : Int32)), .val (.int (Int32.ofNat ((((own_f xs (q) % 8) * 64 + (own_f xs (q + 1) % 64)) * 64 + (own_f xs (q + 2) % 64)) * 64 + (own_f xs (q + 3) % 64)))), .val (.int (Int32.ofNat (own_f xs (q + 1)))), .val (.int (Int32.ofNat (own_f xs (q + 3))))] []))
                          rw [show (1114111 : Int32) < Int32.ofNat ((((own_f xs (q) % 8) * 64 + (own_f xs (q + 1) % 64)) * 64 + (own_f xs (q + 2) % 64)) * 64 + (own_f xs (q + 3) % 64)) ↔ 1114111 < ((((own_f xs (q) % 8) * 64 + (own_f xs (q + 1) % 64)) * 64 + (own_f xs (q + 2) % 64)) * 64 + (own_f xs (q + 3) % 64)) from own_ltO (d := 1114111) (k := ((((own_f xs (q) % 8) * 64 + (own_f xs (q + 1) % 64)) * 64 + (own_f xs (q + 2) % 64)) * 64 + (own_f xs (q + 3) % 64))) (by omega) (by omega)] at hc301
                          refine go (fun _ kont => XS.iloadN X0.here hx rfl (hb hby d_method_3_306) rfl  kont) ?_
                          show G (s₁.setTop (mkF m 307 #[.val (.ref b), .val (.int (Int32.ofNat q)), .val (.int (Int32.ofNat e8)), .val (.int (Int32.ofNat (own_f xs (q)))), .val (.int (4 : Int32)), .val (.int (Int32.ofNat ((((own_f xs (q) % 8) * 64 + (own_f xs (q + 1) % 64)) * 64 + (own_f xs (q + 2) % 64)) * 64 + (own_f xs (q + 3) % 64)))), .val (.int (Int32.ofNat (own_f xs (q + 1)))), .val (.int (Int32.ofNat (own_f xs (q + 3))))] [(.int (Int32.ofNat q))]))
                          refine go (fun _ kont => XS.iload X0.here hx rfl (hb hby d_method_3_307) rfl  kont) ?_
                          show G (s₁.setTop (mkF m 309 #[.val (.ref b), .val (.int (Int32.ofNat q)), .val (.int (Int32.ofNat e8)), .val (.int (Int32.ofNat (own_f xs (q)))), .val (.int (4 : Int32)), .val (.int (Int32.ofNat ((((own_f xs (q) % 8) * 64 + (own_f xs (q + 1) % 64)) * 64 + (own_f xs (q + 2) % 64)) * 64 + (own_f xs (q + 3) % 64)))), .val (.int (Int32.ofNat (own_f xs (q + 1)))), .val (.int (Int32.ofNat (own_f xs (q + 3))))] [(.int (4 : Int32)), (.int (Int32.ofNat q))]))
                          refine go (fun _ kont => XS.iadd X0.here hx rfl (hb hby d_method_3_309) rfl kont) ?_
                          show G (s₁.setTop (mkF m 310 #[.val (.ref b), .val (.int (Int32.ofNat q)), .val (.int (Int32.ofNat e8)), .val (.int (Int32.ofNat (own_f xs (q)))), .val (.int (4 : Int32)), .val (.int (Int32.ofNat ((((own_f xs (q) % 8) * 64 + (own_f xs (q + 1) % 64)) * 64 + (own_f xs (q + 2) % 64)) * 64 + (own_f xs (q + 3) % 64)))), .val (.int (Int32.ofNat (own_f xs (q + 1)))), .val (.int (Int32.ofNat (own_f xs (q + 3))))] [(.int ((Int32.ofNat q) + (4 : Int32)))]))
                          rw [hG]
                          exact own_retI X0 hx Bd.returns (hb hby d_method_3_310) hlk (by decide) (by decide) ⟨by congr 2; exact (own_st_ok (N := 4) hc6' (by unfold own_N own_n; (repeat' split) <;> omega) (by decide)).symm, N0, e0⟩
                    · refine go (fun _ kont => XS.icmpNo X0.here hx rfl (hb hby d_method_3_220) rfl (feq hc220).1 kont) ?_
                      show G (s₁.setTop (mkF m 223 #[.val (.ref b), .val (.int (Int32.ofNat q)), .val (.int (Int32.ofNat e8)), .val (.int (Int32.ofNat (own_f xs (q)))), .val (.int (4 : Int32)), .val (.int (Int32.ofNat (((own_f xs (q) % 8) * 64 + (own_f xs (q + 1) % 64)) * 64 + (own_f xs (q + 2) % 64)))), .val (.int (Int32.ofNat (own_f xs (q + 1)))), .val (.int (Int32.ofNat (own_f xs (q + 3))))] []))
                      rw [own_m192' _ hb3] at hc220
                      refine go (fun _ kont => XS.iconst X0.here hx rfl (hb hby d_method_3_223) kont) ?_
                      show G (s₁.setTop (mkF m 224 #[.val (.ref b), .val (.int (Int32.ofNat q)), .val (.int (Int32.ofNat e8)), .val (.int (Int32.ofNat (own_f xs (q)))), .val (.int (4 : Int32)), .val (.int (Int32.ofNat (((own_f xs (q) % 8) * 64 + (own_f xs (q + 1) % 64)) * 64 + (own_f xs (q + 2) % 64)))), .val (.int (Int32.ofNat (own_f xs (q + 1)))), .val (.int (Int32.ofNat (own_f xs (q + 3))))] [(.int (-1 : Int32))]))
                      rw [hG]
                      exact own_retI X0 hx Bd.returns (hb hby d_method_3_224) hlk (by decide) (by decide) ⟨by congr 2; exact (own_st_bad hc6' (by unfold own_N own_n; (repeat' split) <;> omega)).symm, N0, e0⟩
                  · refine go (fun _ kont => XS.icmpNo X0.here hx rfl (hb hby d_method_3_176) rfl (feq hc176).1 kont) ?_
                    show G (s₁.setTop (mkF m 179 #[.val (.ref b), .val (.int (Int32.ofNat q)), .val (.int (Int32.ofNat e8)), .val (.int (Int32.ofNat (own_f xs (q)))), .val (.int (4 : Int32)), .val (.int (Int32.ofNat ((own_f xs (q) % 8) * 64 + (own_f xs (q + 1) % 64)))), .val (.int (Int32.ofNat (own_f xs (q + 1)))), .val (.int (Int32.ofNat (own_f xs (q + 2))))] []))
                    rw [own_m192' _ hb2] at hc176
                    refine go (fun _ kont => XS.iconst X0.here hx rfl (hb hby d_method_3_179) kont) ?_
                    show G (s₁.setTop (mkF m 180 #[.val (.ref b), .val (.int (Int32.ofNat q)), .val (.int (Int32.ofNat e8)), .val (.int (Int32.ofNat (own_f xs (q)))), .val (.int (4 : Int32)), .val (.int (Int32.ofNat ((own_f xs (q) % 8) * 64 + (own_f xs (q + 1) % 64)))), .val (.int (Int32.ofNat (own_f xs (q + 1)))), .val (.int (Int32.ofNat (own_f xs (q + 2))))] [(.int (-1 : Int32))]))
                    rw [hG]
                    exact own_retI X0 hx Bd.returns (hb hby d_method_3_180) hlk (by decide) (by decide) ⟨by congr 2; exact (own_st_bad hc6' (by unfold own_N own_n; (repeat' split) <;> omega)).symm, N0, e0⟩
                · refine go (fun _ kont => XS.icmpNo X0.here hx rfl (hb hby d_method_3_132) rfl (feq hc132).1 kont) ?_
                  show G (s₁.setTop (mkF m 135 #[.val (.ref b), .val (.int (Int32.ofNat q)), .val (.int (Int32.ofNat e8)), .val (.int (Int32.ofNat (own_f xs (q)))), .val (.int (4 : Int32)), .val (.int (Int32.ofNat (own_f xs (q) % 8))), .val (.int (Int32.ofNat (own_f xs (q + 1)))), .unset] []))
                  rw [own_m192' _ hb1] at hc132
                  refine go (fun _ kont => XS.iconst X0.here hx rfl (hb hby d_method_3_135) kont) ?_
                  show G (s₁.setTop (mkF m 136 #[.val (.ref b), .val (.int (Int32.ofNat q)), .val (.int (Int32.ofNat e8)), .val (.int (Int32.ofNat (own_f xs (q)))), .val (.int (4 : Int32)), .val (.int (Int32.ofNat (own_f xs (q) % 8))), .val (.int (Int32.ofNat (own_f xs (q + 1)))), .unset] [(.int (-1 : Int32))]))
                  rw [hG]
                  exact own_retI X0 hx Bd.returns (hb hby d_method_3_136) hlk (by decide) (by decide) ⟨by congr 2; exact (own_st_bad hc6' (by unfold own_N own_n; (repeat' split) <;> omega)).symm, N0, e0⟩
            · refine go (fun _ kont => XS.icmpYes X0.here hx rfl (pc0 := 85) (pc' := 100) rfl (hb hby d_method_3_85) rfl (feq hc85).2 (by decide) (by decide) kont) ?_
              show G (s₁.setTop (mkF m 100 #[.val (.ref b), .val (.int (Int32.ofNat q)), .val (.int (Int32.ofNat e8)), .val (.int (Int32.ofNat (own_f xs (q)))), .unset, .unset, .unset, .unset] []))
              rw [own_m248' _ hb0] at hc85
              refine go (fun _ kont => XS.iconst X0.here hx rfl (hb hby d_method_3_100) kont) ?_
              show G (s₁.setTop (mkF m 101 #[.val (.ref b), .val (.int (Int32.ofNat q)), .val (.int (Int32.ofNat e8)), .val (.int (Int32.ofNat (own_f xs (q)))), .unset, .unset, .unset, .unset] [(.int (-1 : Int32))]))
              rw [hG]
              exact own_retI X0 hx Bd.returns (hb hby d_method_3_101) hlk (by decide) (by decide) ⟨by congr 2; exact (own_st_bad hc6' (by unfold own_N own_n; (repeat' split) <;> omega)).symm, N0, e0⟩
    · refine go (fun _ kont => XS.icmpNo X0.here hx rfl (hb hby d_method_3_6) rfl (flt hc6).1 kont) ?_
      show G (s₁.setTop (mkF m 9 #[.val (.ref b), .val (.int pp), .val (.int (Int32.ofNat e8)), .unset, .unset, .unset, .unset, .unset] []))
      refine go (fun _ kont => XS.iloadN X0.here hx rfl (hb hby d_method_3_9) rfl  kont) ?_
      show G (s₁.setTop (mkF m 10 #[.val (.ref b), .val (.int pp), .val (.int (Int32.ofNat e8)), .unset, .unset, .unset, .unset, .unset] [(.int pp)]))
      rw [hG]
      exact own_retI X0 hx Bd.returns (hb hby d_method_3_10) hlk (by decide) (by decide) ⟨by congr 2; exact own_stop ho he8 hpp (by first | exact Or.inl hc1 | exact Or.inr hc6), N0, e0⟩
theorem own_ef_own_rm_isText (m : MethodId) (x0 : Addr) (x1 : Int32) (x2 : Int32) : entryFrame m #[(.ref x0), (.int x1), (.int x2)] 10 = mkF m 0 #[.val (.ref x0), .val (.int x1), .val (.int x2), .unset, .unset, .unset, .unset, .unset, .unset, .unset] [] := by first | (simp [entryFrame, mkF, argsToLocals, Value.category]; done) | rfl
set_option maxRecDepth 65536 in
set_option maxHeartbeats 40000000 in
theorem own_rm_isText (l : Launch) (Z : State) (a0 : Array Value) (hw : ∀ d ∈ tables_1, d.before a0 Z = true) (ws : List Jvm.Cond) (b : Addr) (h0 : Heap) (n0 : Nat) (Z0 : n0 ≤ h0.size) (xs : List Int32) (hxl : xs.length = 8) (V : own_V Z h0 b .byte (xs.map Value.int)) (e8 : Nat) (he8 : e8 ≤ 8) (q0 : Nat) (hq0 : q0 ≤ e8) :
    MetFree l (⟨"com/example/ansehen/ansehen/util/Utf8", "isText", "([BII)Z"⟩ : MethodName) (head1 (Jvm.Cond.code (⟨"com/example/ansehen/ansehen/util/Utf8", "isText", "([BII)Z"⟩ : MethodName) prog_37_method_2_code 10 (some .boolean) :: ws) ({ frames := 0, cells := 0, slots := 0, locals := 0 } : Room)) (fun aq Uq => aq = #[(.ref b), (.int (Int32.ofNat q0)), (.int (Int32.ofNat e8))] ∧ Z.Warmed39 Uq.vm ∧ Uq.heap = h0) (fun _ _ _ _ _ => True) (fun _ Uq oq Uq' => ∃ vq Lq, oq = .returned vq ∧ (own_Qp (some (.int (if own_T xs e8 8 q0 then 1 else 0))) h0 n0) vq Uq'.heap Lq ∧ FrameEnd Uq oq Uq' Lq ({ frames := 0, cells := 0, slots := 0, locals := 0 } : Room).cells ({ frames := 0, cells := 0, slots := 0, locals := 0 } : Room).slots) := by
  refine MetFree.of_bodySF (plainFor_of_name own_pn1) hisR ?_
  intro p e s m args below meth c s₁ Bd hml0 hP hK
  obtain ⟨rfl, hZ, hh⟩ := hP
  have hx := Bd.exec
  have hby := Bd.bytes
  have hml : c.maxLocals = 10 := hml0
  have hown : s.vm.findClass "com/example/ansehen/ansehen/util/Utf8" = some m.cls := findClass_of_methodNamed Bd.named
  have hnm := (name_of_methodNamed Bd.named Bd.method).1
  have X0 : Stand p l e ({ frames := 0, cells := 0, slots := 0, locals := 0 } : Room) s m #[(.ref b), (.int (Int32.ofNat q0)), (.int (Int32.ofNat e8))] below meth c s₁ [] 0 0 := Stand.of_body Bd
  have e0 : s₁.heap = h0 := by rw [← hh, Bd.state]; rfl
  have N0 := Fr.nil n0
  have hlk : meth.locks = false := by first | exact BodyLoose.notSynchronized Bd | exact Body.notSynchronized Bd
  obtain ⟨G, hG⟩ : ∃ G : State → Prop, G = own_G p e below s ({ frames := 0, cells := 0, slots := 0, locals := 0 } : Room).cells ({ frames := 0, cells := 0, slots := 0, locals := 0 } : Room).slots ((own_Qp (some (.int (if own_T xs e8 8 q0 then 1 else 0))) h0 n0)) := ⟨_, rfl⟩
  have go : ∀ {S S' : State}, (∀ t, Steps p.tables e below S' t → Steps p.tables e below S t) → G S' → G S := by rw [hG]; exact own_to
  suffices hs : G (s₁.setTop (mkF m 0 #[.val (.ref b), .val (.int (Int32.ofNat q0)), .val (.int (Int32.ofNat e8)), .unset, .unset, .unset, .unset, .unset, .unset, .unset] [])) by
    rw [hG] at hs
    exact own_to (fun _ kont => castTop (own_ef_own_rm_isText m b (Int32.ofNat q0) (Int32.ofNat e8)) kont) hs
  obtain ⟨cl, Ar, Sl, Ml⟩ := id V
  have loop : ∀ (k q : Nat), e8 - q < k → q ≤ e8 → own_T xs e8 8 q0 = own_T xs e8 8 q → ∀ (s4 s5 s6 s7 s8 s9 : Slot), One s4 → One s5 → One s6 → One s7 → One s8 → One s9 → ∀ (T' : State), Stand p l e ({ frames := 0, cells := 0, slots := 0, locals := 0 } : Room) s m #[(.ref b), (.int (Int32.ofNat q0)), (.int (Int32.ofNat e8))] below meth c T' [] 0 0 → T'.heap = h0 → G (T'.setTop (mkF m 2 #[.val (.ref b), .val (.int (Int32.ofNat q0)), .val (.int (Int32.ofNat e8)), .val (.int (Int32.ofNat q)), s4, s5, s6, s7, s8, s9] [])) := by
    intro k
    induction k with
    | zero => intro q hk; omega
    | succ k ih =>
      intro q hk hqe hT s4 s5 s6 s7 s8 s9 hs4 hs5 hs6 hs7 hs8 hs9 T' X' e'
      have hb0 := own_fb xs q
      have hb1 := own_fb xs (q + 1)
      have hb2 := own_fb xs (q + 2)
      have hb3 := own_fb xs (q + 3)
      show G (T'.setTop (mkF m 2 #[.val (.ref b), .val (.int (Int32.ofNat q0)), .val (.int (Int32.ofNat e8)), .val (.int (Int32.ofNat q)), s4, s5, s6, s7, s8, s9] []))
      refine go (fun _ kont => XS.iloadN X'.here hx rfl (hb hby d_prog_37_method_2_2) rfl  kont) ?_
      show G (T'.setTop (mkF m 3 #[.val (.ref b), .val (.int (Int32.ofNat q0)), .val (.int (Int32.ofNat e8)), .val (.int (Int32.ofNat q)), s4, s5, s6, s7, s8, s9] [(.int (Int32.ofNat q))]))
      refine go (fun _ kont => XS.iloadN X'.here hx rfl (hb hby d_prog_37_method_2_3) rfl  kont) ?_
      show G (T'.setTop (mkF m 4 #[.val (.ref b), .val (.int (Int32.ofNat q0)), .val (.int (Int32.ofNat e8)), .val (.int (Int32.ofNat q)), s4, s5, s6, s7, s8, s9] [(.int (Int32.ofNat e8)), (.int (Int32.ofNat q))]))
      by_cases hc4 : (Int32.ofNat q) < (Int32.ofNat e8)
      · refine go (fun _ kont => XS.icmpNo X'.here hx rfl (hb hby d_prog_37_method_2_4) rfl (tlt hc4).2.1 kont) ?_
        show G (T'.setTop (mkF m 7 #[.val (.ref b), .val (.int (Int32.ofNat q0)), .val (.int (Int32.ofNat e8)), .val (.int (Int32.ofNat q)), s4, s5, s6, s7, s8, s9] []))
        rw [own_ltO (by omega) (by omega)] at hc4
        refine go (fun _ kont => XS.aloadN X'.here hx rfl (hb hby d_prog_37_method_2_7) rfl rfl kont) ?_
        show G (T'.setTop (mkF m 8 #[.val (.ref b), .val (.int (Int32.ofNat q0)), .val (.int (Int32.ofNat e8)), .val (.int (Int32.ofNat q)), s4, s5, s6, s7, s8, s9] [(.ref b)]))
        refine go (fun _ kont => XS.iloadN X'.here hx rfl (hb hby d_prog_37_method_2_8) rfl  kont) ?_
        show G (T'.setTop (mkF m 9 #[.val (.ref b), .val (.int (Int32.ofNat q0)), .val (.int (Int32.ofNat e8)), .val (.int (Int32.ofNat q)), s4, s5, s6, s7, s8, s9] [(.int (Int32.ofNat q)), (.ref b)]))
        refine go (fun _ kont => X'.baloadBytes hx (j := (Int32.ofNat q)) (v := (.int (xs.getD (q) 0))) (by rw [e']; exact Ar.1) (State.isArrayOf_alike hZ.alike Ar.2.1) Ar.2.2 (own_hink Sl (own_neg (by rw [own_ofN (by omega)]; omega)) (own_tnO (by omega)) (k := q) (by rw [List.length_map]; omega)) (own_hatk Sl (own_tnO (by omega)) (own_atI (k := q) (by omega))) (g := (mkF m 9 #[.val (.ref b), .val (.int (Int32.ofNat q0)), .val (.int (Int32.ofNat e8)), .val (.int (Int32.ofNat q)), s4, s5, s6, s7, s8, s9] [(.int (Int32.ofNat q)), (.ref b)])) rfl rfl (hb hby d_prog_37_method_2_9) _ kont) ?_
        show G (T'.setTop (mkF m 10 #[.val (.ref b), .val (.int (Int32.ofNat q0)), .val (.int (Int32.ofNat e8)), .val (.int (Int32.ofNat q)), s4, s5, s6, s7, s8, s9] [(.int (xs.getD (q) 0))]))
        refine go (fun _ kont => XS.sipush X'.here hx rfl (hb hby d_prog_37_method_2_10) kont) ?_
        show G (T'.setTop (mkF m 13 #[.val (.ref b), .val (.int (Int32.ofNat q0)), .val (.int (Int32.ofNat e8)), .val (.int (Int32.ofNat q)), s4, s5, s6, s7, s8, s9] [(.int (255 : Int32)), (.int (xs.getD (q) 0))]))
        refine go (fun _ kont => XS.iand X'.here hx rfl (hb hby d_prog_37_method_2_13) rfl kont) ?_
        show G (T'.setTop (mkF m 14 #[.val (.ref b), .val (.int (Int32.ofNat q0)), .val (.int (Int32.ofNat e8)), .val (.int (Int32.ofNat q)), s4, s5, s6, s7, s8, s9] [(.int ((xs.getD (q) 0) &&& (255 : Int32)))]))
        rw [own_fe xs (q)]
        show G (T'.setTop (mkF m 14 #[.val (.ref b), .val (.int (Int32.ofNat q0)), .val (.int (Int32.ofNat e8)), .val (.int (Int32.ofNat q)), s4, s5, s6, s7, s8, s9] [(.int (Int32.ofNat (own_f xs (q))))]))
        refine go (fun _ kont => XS.istore X'.here hx rfl (hb hby d_prog_37_method_2_14) rfl (l' := #[.val (.ref b), .val (.int (Int32.ofNat q0)), .val (.int (Int32.ofNat e8)), .val (.int (Int32.ofNat q)), .val (.int (Int32.ofNat (own_f xs (q)))), s5, s6, s7, s8, s9]) (by rcases hs4 with rfl | ⟨w, rfl, hw⟩ <;> first | rfl | (cases w <;> first | rfl | (simp [Value.category] at hw))) kont) ?_
        show G (T'.setTop (mkF m 16 #[.val (.ref b), .val (.int (Int32.ofNat q0)), .val (.int (Int32.ofNat e8)), .val (.int (Int32.ofNat q)), .val (.int (Int32.ofNat (own_f xs (q)))), s5, s6, s7, s8, s9] []))
        refine go (fun _ kont => XS.iload X'.here hx rfl (hb hby d_prog_37_method_2_16) rfl  kont) ?_
        show G (T'.setTop (mkF m 18 #[.val (.ref b), .val (.int (Int32.ofNat q0)), .val (.int (Int32.ofNat e8)), .val (.int (Int32.ofNat q)), .val (.int (Int32.ofNat (own_f xs (q)))), s5, s6, s7, s8, s9] [(.int (Int32.ofNat (own_f xs (q))))]))
        refine go (fun _ kont => XS.sipush X'.here hx rfl (hb hby d_prog_37_method_2_18) kont) ?_
        show G (T'.setTop (mkF m 21 #[.val (.ref b), .val (.int (Int32.ofNat q0)), .val (.int (Int32.ofNat e8)), .val (.int (Int32.ofNat q)), .val (.int (Int32.ofNat (own_f xs (q)))), s5, s6, s7, s8, s9] [(.int (128 : Int32)), (.int (Int32.ofNat (own_f xs (q))))]))
        by_cases hc21 : (Int32.ofNat (own_f xs (q))) < (128 : Int32)
        · refine go (fun _ kont => XS.icmpNo X'.here hx rfl (hb hby d_prog_37_method_2_21) rfl (tlt hc21).2.1 kont) ?_
          show G (T'.setTop (mkF m 24 #[.val (.ref b), .val (.int (Int32.ofNat q0)), .val (.int (Int32.ofNat e8)), .val (.int (Int32.ofNat q)), .val (.int (Int32.ofNat (own_f xs (q)))), s5, s6, s7, s8, s9] []))
          rw [show Int32.ofNat (own_f xs (q)) < (128 : Int32) ↔ own_f xs (q) < 128 from own_ltO (d := own_f xs (q)) (k := 128) (by omega) (by omega)] at hc21
          refine go (fun _ kont => XS.iinc X'.here hx rfl (hb hby d_prog_37_method_2_24) rfl (l' := #[.val (.ref b), .val (.int (Int32.ofNat q0)), .val (.int (Int32.ofNat e8)), .val (.int ((Int32.ofNat q) + (1 : Int32))), .val (.int (Int32.ofNat (own_f xs (q)))), s5, s6, s7, s8, s9]) rfl kont) ?_
          show G (T'.setTop (mkF m 27 #[.val (.ref b), .val (.int (Int32.ofNat q0)), .val (.int (Int32.ofNat e8)), .val (.int ((Int32.ofNat q) + (1 : Int32))), .val (.int (Int32.ofNat (own_f xs (q)))), s5, s6, s7, s8, s9] []))
          refine go (fun _ kont => XS.goto X'.here hx rfl (pc0 := 27) (pc' := 2) rfl (hb hby d_prog_37_method_2_27) (by decide) (by decide) kont) ?_
          show G (T'.setTop (mkF m 2 #[.val (.ref b), .val (.int (Int32.ofNat q0)), .val (.int (Int32.ofNat e8)), .val (.int ((Int32.ofNat q) + (1 : Int32))), .val (.int (Int32.ofNat (own_f xs (q)))), s5, s6, s7, s8, s9] []))
          rw [show Int32.ofNat q + (1 : Int32) = Int32.ofNat (q + 1) from own_addk q 1]
          exact ih (q + 1) (by omega) (by omega) (hT.trans (own_T_step (N := 1) (by omega) he8 (by unfold own_N own_n; (repeat' split) <;> omega) (by decide))) _ _ _ _ _ _ (One.val rfl) hs5 hs6 hs7 hs8 hs9 _ X' e'
        · refine go (fun _ kont => XS.icmpYes X'.here hx rfl (pc0 := 21) (pc' := 30) rfl (hb hby d_prog_37_method_2_21) rfl (flt hc21).2.1 (by decide) (by decide) kont) ?_
          show G (T'.setTop (mkF m 30 #[.val (.ref b), .val (.int (Int32.ofNat q0)), .val (.int (Int32.ofNat e8)), .val (.int (Int32.ofNat q)), .val (.int (Int32.ofNat (own_f xs (q)))), s5, s6, s7, s8, s9] []))
          rw [show Int32.ofNat (own_f xs (q)) < (128 : Int32) ↔ own_f xs (q) < 128 from own_ltO (d := own_f xs (q)) (k := 128) (by omega) (by omega)] at hc21
          refine go (fun _ kont => XS.sipush X'.here hx rfl (hb hby d_prog_37_method_2_30) kont) ?_
          show G (T'.setTop (mkF m 33 #[.val (.ref b), .val (.int (Int32.ofNat q0)), .val (.int (Int32.ofNat e8)), .val (.int (Int32.ofNat q)), .val (.int (Int32.ofNat (own_f xs (q)))), s5, s6, s7, s8, s9] [(.int (128 : Int32))]))
          refine go (fun _ kont => XS.istore X'.here hx rfl (hb hby d_prog_37_method_2_33) rfl (l' := #[.val (.ref b), .val (.int (Int32.ofNat q0)), .val (.int (Int32.ofNat e8)), .val (.int (Int32.ofNat q)), .val (.int (Int32.ofNat (own_f xs (q)))), s5, .val (.int (128 : Int32)), s7, s8, s9]) (by rcases hs6 with rfl | ⟨w, rfl, hw⟩ <;> first | rfl | (cases w <;> first | rfl | (simp [Value.category] at hw))) kont) ?_
          show G (T'.setTop (mkF m 35 #[.val (.ref b), .val (.int (Int32.ofNat q0)), .val (.int (Int32.ofNat e8)), .val (.int (Int32.ofNat q)), .val (.int (Int32.ofNat (own_f xs (q)))), s5, .val (.int (128 : Int32)), s7, s8, s9] []))
          refine go (fun _ kont => XS.sipush X'.here hx rfl (hb hby d_prog_37_method_2_35) kont) ?_
          show G (T'.setTop (mkF m 38 #[.val (.ref b), .val (.int (Int32.ofNat q0)), .val (.int (Int32.ofNat e8)), .val (.int (Int32.ofNat q)), .val (.int (Int32.ofNat (own_f xs (q)))), s5, .val (.int (128 : Int32)), s7, s8, s9] [(.int (191 : Int32))]))
          refine go (fun _ kont => XS.istore X'.here hx rfl (hb hby d_prog_37_method_2_38) rfl (l' := #[.val (.ref b), .val (.int (Int32.ofNat q0)), .val (.int (Int32.ofNat e8)), .val (.int (Int32.ofNat q)), .val (.int (Int32.ofNat (own_f xs (q)))), s5, .val (.int (128 : Int32)), .val (.int (191 : Int32)), s8, s9]) (by rcases hs7 with rfl | ⟨w, rfl, hw⟩ <;> first | rfl | (cases w <;> first | rfl | (simp [Value.category] at hw))) kont) ?_
          show G (T'.setTop (mkF m 40 #[.val (.ref b), .val (.int (Int32.ofNat q0)), .val (.int (Int32.ofNat e8)), .val (.int (Int32.ofNat q)), .val (.int (Int32.ofNat (own_f xs (q)))), s5, .val (.int (128 : Int32)), .val (.int (191 : Int32)), s8, s9] []))
          refine go (fun _ kont => XS.iload X'.here hx rfl (hb hby d_prog_37_method_2_40) rfl  kont) ?_
          show G (T'.setTop (mkF m 42 #[.val (.ref b), .val (.int (Int32.ofNat q0)), .val (.int (Int32.ofNat e8)), .val (.int (Int32.ofNat q)), .val (.int (Int32.ofNat (own_f xs (q)))), s5, .val (.int (128 : Int32)), .val (.int (191 : Int32)), s8, s9] [(.int (Int32.ofNat (own_f xs (q))))]))
          refine go (fun _ kont => XS.sipush X'.here hx rfl (hb hby d_prog_37_method_2_42) kont) ?_
          show G (T'.setTop (mkF m 45 #[.val (.ref b), .val (.int (Int32.ofNat q0)), .val (.int (Int32.ofNat e8)), .val (.int (Int32.ofNat q)), .val (.int (Int32.ofNat (own_f xs (q)))), s5, .val (.int (128 : Int32)), .val (.int (191 : Int32)), s8, s9] [(.int (194 : Int32)), (.int (Int32.ofNat (own_f xs (q))))]))
          by_cases hc45 : (Int32.ofNat (own_f xs (q))) < (194 : Int32)
          · refine go (fun _ kont => XS.icmpYes X'.here hx rfl (pc0 := 45) (pc' := 62) rfl (hb hby d_prog_37_method_2_45) rfl (tlt hc45).1 (by decide) (by decide) kont) ?_
            show G (T'.setTop (mkF m 62 #[.val (.ref b), .val (.int (Int32.ofNat q0)), .val (.int (Int32.ofNat e8)), .val (.int (Int32.ofNat q)), .val (.int (Int32.ofNat (own_f xs (q)))), s5, .val (.int (128 : Int32)), .val (.int (191 : Int32)), s8, s9] []))
            rw [show Int32.ofNat (own_f xs (q)) < (194 : Int32) ↔ own_f xs (q) < 194 from own_ltO (d := own_f xs (q)) (k := 194) (by omega) (by omega)] at hc45
            refine go (fun _ kont => XS.iload X'.here hx rfl (hb hby d_prog_37_method_2_62) rfl  kont) ?_
            show G (T'.setTop (mkF m 64 #[.val (.ref b), .val (.int (Int32.ofNat q0)), .val (.int (Int32.ofNat e8)), .val (.int (Int32.ofNat q)), .val (.int (Int32.ofNat (own_f xs (q)))), s5, .val (.int (128 : Int32)), .val (.int (191 : Int32)), s8, s9] [(.int (Int32.ofNat (own_f xs (q))))]))
            refine go (fun _ kont => XS.sipush X'.here hx rfl (hb hby d_prog_37_method_2_64) kont) ?_
            show G (T'.setTop (mkF m 67 #[.val (.ref b), .val (.int (Int32.ofNat q0)), .val (.int (Int32.ofNat e8)), .val (.int (Int32.ofNat q)), .val (.int (Int32.ofNat (own_f xs (q)))), s5, .val (.int (128 : Int32)), .val (.int (191 : Int32)), s8, s9] [(.int (224 : Int32)), (.int (Int32.ofNat (own_f xs (q))))]))
            by_cases hc67 : (Int32.ofNat (own_f xs (q))) < (224 : Int32)
            · refine go (fun _ kont => XS.icmpYes X'.here hx rfl (pc0 := 67) (pc' := 120) rfl (hb hby d_prog_37_method_2_67) rfl (tlt hc67).1 (by decide) (by decide) kont) ?_
              show G (T'.setTop (mkF m 120 #[.val (.ref b), .val (.int (Int32.ofNat q0)), .val (.int (Int32.ofNat e8)), .val (.int (Int32.ofNat q)), .val (.int (Int32.ofNat (own_f xs (q)))), s5, .val (.int (128 : Int32)), .val (.int (191 : Int32)), s8, s9] []))
              rw [show Int32.ofNat (own_f xs (q)) < (224 : Int32) ↔ own_f xs (q) < 224 from own_ltO (d := own_f xs (q)) (k := 224) (by omega) (by omega)] at hc67
              refine go (fun _ kont => XS.iload X'.here hx rfl (hb hby d_prog_37_method_2_120) rfl  kont) ?_
              show G (T'.setTop (mkF m 122 #[.val (.ref b), .val (.int (Int32.ofNat q0)), .val (.int (Int32.ofNat e8)), .val (.int (Int32.ofNat q)), .val (.int (Int32.ofNat (own_f xs (q)))), s5, .val (.int (128 : Int32)), .val (.int (191 : Int32)), s8, s9] [(.int (Int32.ofNat (own_f xs (q))))]))
              refine go (fun _ kont => XS.sipush X'.here hx rfl (hb hby d_prog_37_method_2_122) kont) ?_
              show G (T'.setTop (mkF m 125 #[.val (.ref b), .val (.int (Int32.ofNat q0)), .val (.int (Int32.ofNat e8)), .val (.int (Int32.ofNat q)), .val (.int (Int32.ofNat (own_f xs (q)))), s5, .val (.int (128 : Int32)), .val (.int (191 : Int32)), s8, s9] [(.int (240 : Int32)), (.int (Int32.ofNat (own_f xs (q))))]))
              by_cases hc125 : (Int32.ofNat (own_f xs (q))) < (240 : Int32)
              · refine go (fun _ kont => XS.icmpYes X'.here hx rfl (pc0 := 125) (pc' := 178) rfl (hb hby d_prog_37_method_2_125) rfl (tlt hc125).1 (by decide) (by decide) kont) ?_
                show G (T'.setTop (mkF m 178 #[.val (.ref b), .val (.int (Int32.ofNat q0)), .val (.int (Int32.ofNat e8)), .val (.int (Int32.ofNat q)), .val (.int (Int32.ofNat (own_f xs (q)))), s5, .val (.int (128 : Int32)), .val (.int (191 : Int32)), s8, s9] []))
                rw [show Int32.ofNat (own_f xs (q)) < (240 : Int32) ↔ own_f xs (q) < 240 from own_ltO (d := own_f xs (q)) (k := 240) (by omega) (by omega)] at hc125
                refine go (fun _ kont => XS.iconst X'.here hx rfl (hb hby d_prog_37_method_2_178) kont) ?_
                show G (T'.setTop (mkF m 179 #[.val (.ref b), .val (.int (Int32.ofNat q0)), .val (.int (Int32.ofNat e8)), .val (.int (Int32.ofNat q)), .val (.int (Int32.ofNat (own_f xs (q)))), s5, .val (.int (128 : Int32)), .val (.int (191 : Int32)), s8, s9] [(.int (0 : Int32))]))
                rw [hG]
                exact own_retN X' hx (t := .boolean) Bd.returns (by simp) (hb hby d_prog_37_method_2_179) hlk (by decide) (by decide) ⟨by rw [hT, own_T_bad (by omega) (by unfold own_N own_n; (repeat' split) <;> omega)]; rfl, N0, e'⟩
              · refine go (fun _ kont => XS.icmpNo X'.here hx rfl (hb hby d_prog_37_method_2_125) rfl (flt hc125).1 kont) ?_
                show G (T'.setTop (mkF m 128 #[.val (.ref b), .val (.int (Int32.ofNat q0)), .val (.int (Int32.ofNat e8)), .val (.int (Int32.ofNat q)), .val (.int (Int32.ofNat (own_f xs (q)))), s5, .val (.int (128 : Int32)), .val (.int (191 : Int32)), s8, s9] []))
                rw [show Int32.ofNat (own_f xs (q)) < (240 : Int32) ↔ own_f xs (q) < 240 from own_ltO (d := own_f xs (q)) (k := 240) (by omega) (by omega)] at hc125
                refine go (fun _ kont => XS.iload X'.here hx rfl (hb hby d_prog_37_method_2_128) rfl  kont) ?_
                show G (T'.setTop (mkF m 130 #[.val (.ref b), .val (.int (Int32.ofNat q0)), .val (.int (Int32.ofNat e8)), .val (.int (Int32.ofNat q)), .val (.int (Int32.ofNat (own_f xs (q)))), s5, .val (.int (128 : Int32)), .val (.int (191 : Int32)), s8, s9] [(.int (Int32.ofNat (own_f xs (q))))]))
                refine go (fun _ kont => XS.sipush X'.here hx rfl (hb hby d_prog_37_method_2_130) kont) ?_
                show G (T'.setTop (mkF m 133 #[.val (.ref b), .val (.int (Int32.ofNat q0)), .val (.int (Int32.ofNat e8)), .val (.int (Int32.ofNat q)), .val (.int (Int32.ofNat (own_f xs (q)))), s5, .val (.int (128 : Int32)), .val (.int (191 : Int32)), s8, s9] [(.int (244 : Int32)), (.int (Int32.ofNat (own_f xs (q))))]))
                by_cases hc133 : (244 : Int32) < (Int32.ofNat (own_f xs (q)))
                · refine go (fun _ kont => XS.icmpYes X'.here hx rfl (pc0 := 133) (pc' := 178) rfl (hb hby d_prog_37_method_2_133) rfl (tlt hc133).2.2.1 (by decide) (by decide) kont) ?_
                  show G (T'.setTop (mkF m 178 #[.val (.ref b), .val (.int (Int32.ofNat q0)), .val (.int (Int32.ofNat e8)), .val (.int (Int32.ofNat q)), .val (.int (Int32.ofNat (own_f xs (q)))), s5, .val (.int (128 : Int32)), .val (.int (191 : Int32)), s8, s9] []))
                  rw [show (244 : Int32) < Int32.ofNat (own_f xs (q)) ↔ 244 < own_f xs (q) from own_ltO (d := 244) (k := own_f xs (q)) (by omega) (by omega)] at hc133
                  refine go (fun _ kont => XS.iconst X'.here hx rfl (hb hby d_prog_37_method_2_178) kont) ?_
                  show G (T'.setTop (mkF m 179 #[.val (.ref b), .val (.int (Int32.ofNat q0)), .val (.int (Int32.ofNat e8)), .val (.int (Int32.ofNat q)), .val (.int (Int32.ofNat (own_f xs (q)))), s5, .val (.int (128 : Int32)), .val (.int (191 : Int32)), s8, s9] [(.int (0 : Int32))]))
                  rw [hG]
                  exact own_retN X' hx (t := .boolean) Bd.returns (by simp) (hb hby d_prog_37_method_2_179) hlk (by decide) (by decide) ⟨by rw [hT, own_T_bad (by omega) (by unfold own_N own_n; (repeat' split) <;> omega)]; rfl, N0, e'⟩
                · refine go (fun _ kont => XS.icmpNo X'.here hx rfl (hb hby d_prog_37_method_2_133) rfl (flt hc133).2.2.1 kont) ?_
                  show G (T'.setTop (mkF m 136 #[.val (.ref b), .val (.int (Int32.ofNat q0)), .val (.int (Int32.ofNat e8)), .val (.int (Int32.ofNat q)), .val (.int (Int32.ofNat (own_f xs (q)))), s5, .val (.int (128 : Int32)), .val (.int (191 : Int32)), s8, s9] []))
                  rw [show (244 : Int32) < Int32.ofNat (own_f xs (q)) ↔ 244 < own_f xs (q) from own_ltO (d := 244) (k := own_f xs (q)) (by omega) (by omega)] at hc133
                  refine go (fun _ kont => XS.iconst X'.here hx rfl (hb hby d_prog_37_method_2_136) kont) ?_
                  show G (T'.setTop (mkF m 137 #[.val (.ref b), .val (.int (Int32.ofNat q0)), .val (.int (Int32.ofNat e8)), .val (.int (Int32.ofNat q)), .val (.int (Int32.ofNat (own_f xs (q)))), s5, .val (.int (128 : Int32)), .val (.int (191 : Int32)), s8, s9] [(.int (3 : Int32))]))
                  refine go (fun _ kont => XS.istore X'.here hx rfl (hb hby d_prog_37_method_2_137) rfl (l' := #[.val (.ref b), .val (.int (Int32.ofNat q0)), .val (.int (Int32.ofNat e8)), .val (.int (Int32.ofNat q)), .val (.int (Int32.ofNat (own_f xs (q)))), .val (.int (3 : Int32)), .val (.int (128 : Int32)), .val (.int (191 : Int32)), s8, s9]) (by rcases hs5 with rfl | ⟨w, rfl, hw⟩ <;> first | rfl | (cases w <;> first | rfl | (simp [Value.category] at hw))) kont) ?_
                  show G (T'.setTop (mkF m 139 #[.val (.ref b), .val (.int (Int32.ofNat q0)), .val (.int (Int32.ofNat e8)), .val (.int (Int32.ofNat q)), .val (.int (Int32.ofNat (own_f xs (q)))), .val (.int (3 : Int32)), .val (.int (128 : Int32)), .val (.int (191 : Int32)), s8, s9] []))
                  refine go (fun _ kont => XS.iload X'.here hx rfl (hb hby d_prog_37_method_2_139) rfl  kont) ?_
                  show G (T'.setTop (mkF m 141 #[.val (.ref b), .val (.int (Int32.ofNat q0)), .val (.int (Int32.ofNat e8)), .val (.int (Int32.ofNat q)), .val (.int (Int32.ofNat (own_f xs (q)))), .val (.int (3 : Int32)), .val (.int (128 : Int32)), .val (.int (191 : Int32)), s8, s9] [(.int (Int32.ofNat (own_f xs (q))))]))
                  refine go (fun _ kont => XS.sipush X'.here hx rfl (hb hby d_prog_37_method_2_141) kont) ?_
                  show G (T'.setTop (mkF m 144 #[.val (.ref b), .val (.int (Int32.ofNat q0)), .val (.int (Int32.ofNat e8)), .val (.int (Int32.ofNat q)), .val (.int (Int32.ofNat (own_f xs (q)))), .val (.int (3 : Int32)), .val (.int (128 : Int32)), .val (.int (191 : Int32)), s8, s9] [(.int (240 : Int32)), (.int (Int32.ofNat (own_f xs (q))))]))
                  have j1 : ∀ (s144_0 : Int32), s144_0 = (if (Int32.ofNat (own_f xs (q))) = (240 : Int32) then (144 : Int32) else (128 : Int32)) → G (T'.setTop (mkF m 155 #[.val (.ref b), .val (.int (Int32.ofNat q0)), .val (.int (Int32.ofNat e8)), .val (.int (Int32.ofNat q)), .val (.int (Int32.ofNat (own_f xs (q)))), .val (.int (3 : Int32)), .val (.int (128 : Int32)), .val (.int (191 : Int32)), s8, s9] [(.int s144_0)])) := by
                    intro s144_0 hs144_0
                    refine go (fun _ kont => XS.istore X'.here hx rfl (hb hby d_prog_37_method_2_155) rfl (l' := #[.val (.ref b), .val (.int (Int32.ofNat q0)), .val (.int (Int32.ofNat e8)), .val (.int (Int32.ofNat q)), .val (.int (Int32.ofNat (own_f xs (q)))), .val (.int (3 : Int32)), .val (.int s144_0), .val (.int (191 : Int32)), s8, s9]) rfl kont) ?_
                    show G (T'.setTop (mkF m 157 #[.val (.ref b), .val (.int (Int32.ofNat q0)), .val (.int (Int32.ofNat e8)), .val (.int (Int32.ofNat q)), .val (.int (Int32.ofNat (own_f xs (q)))), .val (.int (3 : Int32)), .val (.int s144_0), .val (.int (191 : Int32)), s8, s9] []))
                    refine go (fun _ kont => XS.iload X'.here hx rfl (hb hby d_prog_37_method_2_157) rfl  kont) ?_
                    show G (T'.setTop (mkF m 159 #[.val (.ref b), .val (.int (Int32.ofNat q0)), .val (.int (Int32.ofNat e8)), .val (.int (Int32.ofNat q)), .val (.int (Int32.ofNat (own_f xs (q)))), .val (.int (3 : Int32)), .val (.int s144_0), .val (.int (191 : Int32)), s8, s9] [(.int (Int32.ofNat (own_f xs (q))))]))
                    refine go (fun _ kont => XS.sipush X'.here hx rfl (hb hby d_prog_37_method_2_159) kont) ?_
                    show G (T'.setTop (mkF m 162 #[.val (.ref b), .val (.int (Int32.ofNat q0)), .val (.int (Int32.ofNat e8)), .val (.int (Int32.ofNat q)), .val (.int (Int32.ofNat (own_f xs (q)))), .val (.int (3 : Int32)), .val (.int s144_0), .val (.int (191 : Int32)), s8, s9] [(.int (244 : Int32)), (.int (Int32.ofNat (own_f xs (q))))]))
                    have j2 : ∀ (s162_0 : Int32), s162_0 = (if (Int32.ofNat (own_f xs (q))) = (244 : Int32) then (143 : Int32) else (191 : Int32)) → G (T'.setTop (mkF m 173 #[.val (.ref b), .val (.int (Int32.ofNat q0)), .val (.int (Int32.ofNat e8)), .val (.int (Int32.ofNat q)), .val (.int (Int32.ofNat (own_f xs (q)))), .val (.int (3 : Int32)), .val (.int s144_0), .val (.int (191 : Int32)), s8, s9] [(.int s162_0)])) := by
                      intro s162_0 hs162_0
                      refine go (fun _ kont => XS.istore X'.here hx rfl (hb hby d_prog_37_method_2_173) rfl (l' := #[.val (.ref b), .val (.int (Int32.ofNat q0)), .val (.int (Int32.ofNat e8)), .val (.int (Int32.ofNat q)), .val (.int (Int32.ofNat (own_f xs (q)))), .val (.int (3 : Int32)), .val (.int s144_0), .val (.int s162_0), s8, s9]) rfl kont) ?_
                      show G (T'.setTop (mkF m 175 #[.val (.ref b), .val (.int (Int32.ofNat q0)), .val (.int (Int32.ofNat e8)), .val (.int (Int32.ofNat q)), .val (.int (Int32.ofNat (own_f xs (q)))), .val (.int (3 : Int32)), .val (.int s144_0), .val (.int s162_0), s8, s9] []))
                      refine go (fun _ kont => XS.goto X'.here hx rfl (pc0 := 175) (pc' := 180) rfl (hb hby d_prog_37_method_2_175) (by decide) (by decide) kont) ?_
                      show G (T'.setTop (mkF m 180 #[.val (.ref b), .val (.int (Int32.ofNat q0)), .val (.int (Int32.ofNat e8)), .val (.int (Int32.ofNat q)), .val (.int (Int32.ofNat (own_f xs (q)))), .val (.int (3 : Int32)), .val (.int s144_0), .val (.int s162_0), s8, s9] []))
                      obtain ⟨lo, hlo, hlo1, hlo2⟩ : ∃ z : Nat, s144_0 = Int32.ofNat z ∧ (own_f xs (q) = 240 → z = 144) ∧ (own_f xs (q) ≠ 240 → z = 128) := by
                        rw [hs144_0]
                        by_cases hz : own_f xs (q) = 240
                        · exact ⟨144, by rw [if_pos (show Int32.ofNat (own_f xs (q)) = (240 : Int32) from by rw [hz]; rfl)]; rfl, fun _ => rfl, fun z => absurd hz z⟩
                        · exact ⟨128, by rw [if_neg (show ¬ (Int32.ofNat (own_f xs (q)) = (240 : Int32)) from fun z => hz ((own_eqO (d := own_f xs (q)) (k := 240) (by omega) (by omega)).mp z))]; rfl, fun z => absurd z hz, fun _ => rfl⟩
                      obtain ⟨hi, hhi, hhi1, hhi2⟩ : ∃ z : Nat, s162_0 = Int32.ofNat z ∧ (own_f xs (q) = 244 → z = 143) ∧ (own_f xs (q) ≠ 244 → z = 191) := by
                        rw [hs162_0]
                        by_cases hz : own_f xs (q) = 244
                        · exact ⟨143, by rw [if_pos (show Int32.ofNat (own_f xs (q)) = (244 : Int32) from by rw [hz]; rfl)]; rfl, fun _ => rfl, fun z => absurd hz z⟩
                        · exact ⟨191, by rw [if_neg (show ¬ (Int32.ofNat (own_f xs (q)) = (244 : Int32)) from fun z => hz ((own_eqO (d := own_f xs (q)) (k := 244) (by omega) (by omega)).mp z))]; rfl, fun z => absurd z hz, fun _ => rfl⟩
                      refine go (fun _ kont => XS.iloadN X'.here hx rfl (hb hby d_prog_37_method_2_180) rfl  kont) ?_
                      show G (T'.setTop (mkF m 181 #[.val (.ref b), .val (.int (Int32.ofNat q0)), .val (.int (Int32.ofNat e8)), .val (.int (Int32.ofNat q)), .val (.int (Int32.ofNat (own_f xs (q)))), .val (.int (3 : Int32)), .val (.int s144_0), .val (.int s162_0), s8, s9] [(.int (Int32.ofNat e8))]))
                      refine go (fun _ kont => XS.iloadN X'.here hx rfl (hb hby d_prog_37_method_2_181) rfl  kont) ?_
                      show G (T'.setTop (mkF m 182 #[.val (.ref b), .val (.int (Int32.ofNat q0)), .val (.int (Int32.ofNat e8)), .val (.int (Int32.ofNat q)), .val (.int (Int32.ofNat (own_f xs (q)))), .val (.int (3 : Int32)), .val (.int s144_0), .val (.int s162_0), s8, s9] [(.int (Int32.ofNat q)), (.int (Int32.ofNat e8))]))
                      refine go (fun _ kont => XS.isub X'.here hx rfl (hb hby d_prog_37_method_2_182) rfl kont) ?_
                      show G (T'.setTop (mkF m 183 #[.val (.ref b), .val (.int (Int32.ofNat q0)), .val (.int (Int32.ofNat e8)), .val (.int (Int32.ofNat q)), .val (.int (Int32.ofNat (own_f xs (q)))), .val (.int (3 : Int32)), .val (.int s144_0), .val (.int s162_0), s8, s9] [(.int ((Int32.ofNat e8) - (Int32.ofNat q)))]))
                      rw [own_subk (p := e8) (k := q) (by omega)]
                      show G (T'.setTop (mkF m 183 #[.val (.ref b), .val (.int (Int32.ofNat q0)), .val (.int (Int32.ofNat e8)), .val (.int (Int32.ofNat q)), .val (.int (Int32.ofNat (own_f xs (q)))), .val (.int (3 : Int32)), .val (.int s144_0), .val (.int s162_0), s8, s9] [(.int (Int32.ofNat (e8 - q)))]))
                      refine go (fun _ kont => XS.iload X'.here hx rfl (hb hby d_prog_37_method_2_183) rfl  kont) ?_
                      show G (T'.setTop (mkF m 185 #[.val (.ref b), .val (.int (Int32.ofNat q0)), .val (.int (Int32.ofNat e8)), .val (.int (Int32.ofNat q)), .val (.int (Int32.ofNat (own_f xs (q)))), .val (.int (3 : Int32)), .val (.int s144_0), .val (.int s162_0), s8, s9] [(.int (3 : Int32)), (.int (Int32.ofNat (e8 - q)))]))
                      by_cases hc185 : (3 : Int32) < (Int32.ofNat (e8 - q))
                      · refine go (fun _ kont => XS.icmpYes X'.here hx rfl (pc0 := 185) (pc' := 190) rfl (hb hby d_prog_37_method_2_185) rfl (tlt hc185).2.2.1 (by decide) (by decide) kont) ?_
                        show G (T'.setTop (mkF m 190 #[.val (.ref b), .val (.int (Int32.ofNat q0)), .val (.int (Int32.ofNat e8)), .val (.int (Int32.ofNat q)), .val (.int (Int32.ofNat (own_f xs (q)))), .val (.int (3 : Int32)), .val (.int s144_0), .val (.int s162_0), s8, s9] []))
                        rw [show (3 : Int32) < Int32.ofNat (e8 - q) ↔ 3 < e8 - q from own_ltO (d := 3) (k := e8 - q) (by omega) (by omega)] at hc185
                        refine go (fun _ kont => XS.aloadN X'.here hx rfl (hb hby d_prog_37_method_2_190) rfl rfl kont) ?_
                        show G (T'.setTop (mkF m 191 #[.val (.ref b), .val (.int (Int32.ofNat q0)), .val (.int (Int32.ofNat e8)), .val (.int (Int32.ofNat q)), .val (.int (Int32.ofNat (own_f xs (q)))), .val (.int (3 : Int32)), .val (.int s144_0), .val (.int s162_0), s8, s9] [(.ref b)]))
                        refine go (fun _ kont => XS.iloadN X'.here hx rfl (hb hby d_prog_37_method_2_191) rfl  kont) ?_
                        show G (T'.setTop (mkF m 192 #[.val (.ref b), .val (.int (Int32.ofNat q0)), .val (.int (Int32.ofNat e8)), .val (.int (Int32.ofNat q)), .val (.int (Int32.ofNat (own_f xs (q)))), .val (.int (3 : Int32)), .val (.int s144_0), .val (.int s162_0), s8, s9] [(.int (Int32.ofNat q)), (.ref b)]))
                        refine go (fun _ kont => XS.iconst X'.here hx rfl (hb hby d_prog_37_method_2_192) kont) ?_
                        show G (T'.setTop (mkF m 193 #[.val (.ref b), .val (.int (Int32.ofNat q0)), .val (.int (Int32.ofNat e8)), .val (.int (Int32.ofNat q)), .val (.int (Int32.ofNat (own_f xs (q)))), .val (.int (3 : Int32)), .val (.int s144_0), .val (.int s162_0), s8, s9] [(.int (1 : Int32)), (.int (Int32.ofNat q)), (.ref b)]))
                        refine go (fun _ kont => XS.iadd X'.here hx rfl (hb hby d_prog_37_method_2_193) rfl kont) ?_
                        show G (T'.setTop (mkF m 194 #[.val (.ref b), .val (.int (Int32.ofNat q0)), .val (.int (Int32.ofNat e8)), .val (.int (Int32.ofNat q)), .val (.int (Int32.ofNat (own_f xs (q)))), .val (.int (3 : Int32)), .val (.int s144_0), .val (.int s162_0), s8, s9] [(.int ((Int32.ofNat q) + (1 : Int32))), (.ref b)]))
                        rw [show Int32.ofNat q + (1 : Int32) = Int32.ofNat (q + 1) from own_addk q 1]
                        show G (T'.setTop (mkF m 194 #[.val (.ref b), .val (.int (Int32.ofNat q0)), .val (.int (Int32.ofNat e8)), .val (.int (Int32.ofNat q)), .val (.int (Int32.ofNat (own_f xs (q)))), .val (.int (3 : Int32)), .val (.int s144_0), .val (.int s162_0), s8, s9] [(.int (Int32.ofNat (q + 1))), (.ref b)]))
                        refine go (fun _ kont => X'.baloadBytes hx (j := (Int32.ofNat (q + 1))) (v := (.int (xs.getD (q + 1) 0))) (by rw [e']; exact Ar.1) (State.isArrayOf_alike hZ.alike Ar.2.1) Ar.2.2 (own_hink Sl (own_neg (by rw [own_ofN (by omega)]; omega)) (own_tnO (by omega)) (k := q + 1) (by rw [List.length_map]; omega)) (own_hatk Sl (own_tnO (by omega)) (own_atI (k := q + 1) (by omega))) (g := (mkF m 194 #[.val (.ref b), .val (.int (Int32.ofNat q0)), .val (.int (Int32.ofNat e8)), .val (.int (Int32.ofNat q)), .val (.int (Int32.ofNat (own_f xs (q)))), .val (.int (3 : Int32)), .val (.int s144_0), .val (.int s162_0), s8, s9] [(.int (Int32.ofNat (q + 1))), (.ref b)])) rfl rfl (hb hby d_prog_37_method_2_194) _ kont) ?_
                        show G (T'.setTop (mkF m 195 #[.val (.ref b), .val (.int (Int32.ofNat q0)), .val (.int (Int32.ofNat e8)), .val (.int (Int32.ofNat q)), .val (.int (Int32.ofNat (own_f xs (q)))), .val (.int (3 : Int32)), .val (.int s144_0), .val (.int s162_0), s8, s9] [(.int (xs.getD (q + 1) 0))]))
                        refine go (fun _ kont => XS.sipush X'.here hx rfl (hb hby d_prog_37_method_2_195) kont) ?_
                        show G (T'.setTop (mkF m 198 #[.val (.ref b), .val (.int (Int32.ofNat q0)), .val (.int (Int32.ofNat e8)), .val (.int (Int32.ofNat q)), .val (.int (Int32.ofNat (own_f xs (q)))), .val (.int (3 : Int32)), .val (.int s144_0), .val (.int s162_0), s8, s9] [(.int (255 : Int32)), (.int (xs.getD (q + 1) 0))]))
                        refine go (fun _ kont => XS.iand X'.here hx rfl (hb hby d_prog_37_method_2_198) rfl kont) ?_
                        show G (T'.setTop (mkF m 199 #[.val (.ref b), .val (.int (Int32.ofNat q0)), .val (.int (Int32.ofNat e8)), .val (.int (Int32.ofNat q)), .val (.int (Int32.ofNat (own_f xs (q)))), .val (.int (3 : Int32)), .val (.int s144_0), .val (.int s162_0), s8, s9] [(.int ((xs.getD (q + 1) 0) &&& (255 : Int32)))]))
                        rw [own_fe xs (q + 1)]
                        show G (T'.setTop (mkF m 199 #[.val (.ref b), .val (.int (Int32.ofNat q0)), .val (.int (Int32.ofNat e8)), .val (.int (Int32.ofNat q)), .val (.int (Int32.ofNat (own_f xs (q)))), .val (.int (3 : Int32)), .val (.int s144_0), .val (.int s162_0), s8, s9] [(.int (Int32.ofNat (own_f xs (q + 1))))]))
                        refine go (fun _ kont => XS.istore X'.here hx rfl (hb hby d_prog_37_method_2_199) rfl (l' := #[.val (.ref b), .val (.int (Int32.ofNat q0)), .val (.int (Int32.ofNat e8)), .val (.int (Int32.ofNat q)), .val (.int (Int32.ofNat (own_f xs (q)))), .val (.int (3 : Int32)), .val (.int s144_0), .val (.int s162_0), .val (.int (Int32.ofNat (own_f xs (q + 1)))), s9]) (by rcases hs8 with rfl | ⟨w, rfl, hw⟩ <;> first | rfl | (cases w <;> first | rfl | (simp [Value.category] at hw))) kont) ?_
                        show G (T'.setTop (mkF m 201 #[.val (.ref b), .val (.int (Int32.ofNat q0)), .val (.int (Int32.ofNat e8)), .val (.int (Int32.ofNat q)), .val (.int (Int32.ofNat (own_f xs (q)))), .val (.int (3 : Int32)), .val (.int s144_0), .val (.int s162_0), .val (.int (Int32.ofNat (own_f xs (q + 1)))), s9] []))
                        refine go (fun _ kont => XS.iload X'.here hx rfl (hb hby d_prog_37_method_2_201) rfl  kont) ?_
                        show G (T'.setTop (mkF m 203 #[.val (.ref b), .val (.int (Int32.ofNat q0)), .val (.int (Int32.ofNat e8)), .val (.int (Int32.ofNat q)), .val (.int (Int32.ofNat (own_f xs (q)))), .val (.int (3 : Int32)), .val (.int s144_0), .val (.int s162_0), .val (.int (Int32.ofNat (own_f xs (q + 1)))), s9] [(.int (Int32.ofNat (own_f xs (q + 1))))]))
                        refine go (fun _ kont => XS.iload X'.here hx rfl (hb hby d_prog_37_method_2_203) rfl  kont) ?_
                        show G (T'.setTop (mkF m 205 #[.val (.ref b), .val (.int (Int32.ofNat q0)), .val (.int (Int32.ofNat e8)), .val (.int (Int32.ofNat q)), .val (.int (Int32.ofNat (own_f xs (q)))), .val (.int (3 : Int32)), .val (.int s144_0), .val (.int s162_0), .val (.int (Int32.ofNat (own_f xs (q + 1)))), s9] [(.int s144_0), (.int (Int32.ofNat (own_f xs (q + 1))))]))
                        by_cases hc205 : (Int32.ofNat (own_f xs (q + 1))) < s144_0
                        · refine go (fun _ kont => XS.icmpYes X'.here hx rfl (pc0 := 205) (pc' := 215) rfl (hb hby d_prog_37_method_2_205) rfl (tlt hc205).1 (by decide) (by decide) kont) ?_
                          show G (T'.setTop (mkF m 215 #[.val (.ref b), .val (.int (Int32.ofNat q0)), .val (.int (Int32.ofNat e8)), .val (.int (Int32.ofNat q)), .val (.int (Int32.ofNat (own_f xs (q)))), .val (.int (3 : Int32)), .val (.int s144_0), .val (.int s162_0), .val (.int (Int32.ofNat (own_f xs (q + 1)))), s9] []))
                          rw [hlo, show Int32.ofNat (own_f xs (q + 1)) < Int32.ofNat lo ↔ own_f xs (q + 1) < lo from own_ltO (d := own_f xs (q + 1)) (k := lo) (by omega) (by first | omega | (split <;> omega))] at hc205
                          refine go (fun _ kont => XS.iconst X'.here hx rfl (hb hby d_prog_37_method_2_215) kont) ?_
                          show G (T'.setTop (mkF m 216 #[.val (.ref b), .val (.int (Int32.ofNat q0)), .val (.int (Int32.ofNat e8)), .val (.int (Int32.ofNat q)), .val (.int (Int32.ofNat (own_f xs (q)))), .val (.int (3 : Int32)), .val (.int s144_0), .val (.int s162_0), .val (.int (Int32.ofNat (own_f xs (q + 1)))), s9] [(.int (0 : Int32))]))
                          rw [hG]
                          exact own_retN X' hx (t := .boolean) Bd.returns (by simp) (hb hby d_prog_37_method_2_216) hlk (by decide) (by decide) ⟨by rw [hT, own_T_bad (by omega) (by unfold own_N own_n; (repeat' split) <;> omega)]; rfl, N0, e'⟩
                        · refine go (fun _ kont => XS.icmpNo X'.here hx rfl (hb hby d_prog_37_method_2_205) rfl (flt hc205).1 kont) ?_
                          show G (T'.setTop (mkF m 208 #[.val (.ref b), .val (.int (Int32.ofNat q0)), .val (.int (Int32.ofNat e8)), .val (.int (Int32.ofNat q)), .val (.int (Int32.ofNat (own_f xs (q)))), .val (.int (3 : Int32)), .val (.int s144_0), .val (.int s162_0), .val (.int (Int32.ofNat (own_f xs (q + 1)))), s9] []))
                          rw [hlo, show Int32.ofNat (own_f xs (q + 1)) < Int32.ofNat lo ↔ own_f xs (q + 1) < lo from own_ltO (d := own_f xs (q + 1)) (k := lo) (by omega) (by first | omega | (split <;> omega))] at hc205
                          refine go (fun _ kont => XS.iload X'.here hx rfl (hb hby d_prog_37_method_2_208) rfl  kont) ?_
                          show G (T'.setTop (mkF m 210 #[.val (.ref b), .val (.int (Int32.ofNat q0)), .val (.int (Int32.ofNat e8)), .val (.int (Int32.ofNat q)), .val (.int (Int32.ofNat (own_f xs (q)))), .val (.int (3 : Int32)), .val (.int s144_0), .val (.int s162_0), .val (.int (Int32.ofNat (own_f xs (q + 1)))), s9] [(.int (Int32.ofNat (own_f xs (q + 1))))]))
                          refine go (fun _ kont => XS.iload X'.here hx rfl (hb hby d_prog_37_method_2_210) rfl  kont) ?_
                          show G (T'.setTop (mkF m 212 #[.val (.ref b), .val (.int (Int32.ofNat q0)), .val (.int (Int32.ofNat e8)), .val (.int (Int32.ofNat q)), .val (.int (Int32.ofNat (own_f xs (q)))), .val (.int (3 : Int32)), .val (.int s144_0), .val (.int s162_0), .val (.int (Int32.ofNat (own_f xs (q + 1)))), s9] [(.int s162_0), (.int (Int32.ofNat (own_f xs (q + 1))))]))
                          by_cases hc212 : s162_0 < (Int32.ofNat (own_f xs (q + 1)))
                          · refine go (fun _ kont => XS.icmpNo X'.here hx rfl (hb hby d_prog_37_method_2_212) rfl (tlt hc212).2.2.2 kont) ?_
                            show G (T'.setTop (mkF m 215 #[.val (.ref b), .val (.int (Int32.ofNat q0)), .val (.int (Int32.ofNat e8)), .val (.int (Int32.ofNat q)), .val (.int (Int32.ofNat (own_f xs (q)))), .val (.int (3 : Int32)), .val (.int s144_0), .val (.int s162_0), .val (.int (Int32.ofNat (own_f xs (q + 1)))), s9] []))
                            rw [hhi, show Int32.ofNat hi < Int32.ofNat (own_f xs (q + 1)) ↔ hi < own_f xs (q + 1) from own_ltO (d := hi) (k := own_f xs (q + 1)) (by first | omega | (split <;> omega)) (by omega)] at hc212
                            refine go (fun _ kont => XS.iconst X'.here hx rfl (hb hby d_prog_37_method_2_215) kont) ?_
                            show G (T'.setTop (mkF m 216 #[.val (.ref b), .val (.int (Int32.ofNat q0)), .val (.int (Int32.ofNat e8)), .val (.int (Int32.ofNat q)), .val (.int (Int32.ofNat (own_f xs (q)))), .val (.int (3 : Int32)), .val (.int s144_0), .val (.int s162_0), .val (.int (Int32.ofNat (own_f xs (q + 1)))), s9] [(.int (0 : Int32))]))
                            rw [hG]
                            exact own_retN X' hx (t := .boolean) Bd.returns (by simp) (hb hby d_prog_37_method_2_216) hlk (by decide) (by decide) ⟨by rw [hT, own_T_bad (by omega) (by unfold own_N own_n; (repeat' split) <;> omega)]; rfl, N0, e'⟩
                          · refine go (fun _ kont => XS.icmpYes X'.here hx rfl (pc0 := 212) (pc' := 217) rfl (hb hby d_prog_37_method_2_212) rfl (flt hc212).2.2.2 (by decide) (by decide) kont) ?_
                            show G (T'.setTop (mkF m 217 #[.val (.ref b), .val (.int (Int32.ofNat q0)), .val (.int (Int32.ofNat e8)), .val (.int (Int32.ofNat q)), .val (.int (Int32.ofNat (own_f xs (q)))), .val (.int (3 : Int32)), .val (.int s144_0), .val (.int s162_0), .val (.int (Int32.ofNat (own_f xs (q + 1)))), s9] []))
                            rw [hhi, show Int32.ofNat hi < Int32.ofNat (own_f xs (q + 1)) ↔ hi < own_f xs (q + 1) from own_ltO (d := hi) (k := own_f xs (q + 1)) (by first | omega | (split <;> omega)) (by omega)] at hc212
                            refine go (fun _ kont => XS.iloadN X'.here hx rfl (hb hby d_prog_37_method_2_217) rfl  kont) ?_
                            show G (T'.setTop (mkF m 218 #[.val (.ref b), .val (.int (Int32.ofNat q0)), .val (.int (Int32.ofNat e8)), .val (.int (Int32.ofNat q)), .val (.int (Int32.ofNat (own_f xs (q)))), .val (.int (3 : Int32)), .val (.int s144_0), .val (.int s162_0), .val (.int (Int32.ofNat (own_f xs (q + 1)))), s9] [(.int (Int32.ofNat q))]))
                            refine go (fun _ kont => XS.iconst X'.here hx rfl (hb hby d_prog_37_method_2_218) kont) ?_
                            show G (T'.setTop (mkF m 219 #[.val (.ref b), .val (.int (Int32.ofNat q0)), .val (.int (Int32.ofNat e8)), .val (.int (Int32.ofNat q)), .val (.int (Int32.ofNat (own_f xs (q)))), .val (.int (3 : Int32)), .val (.int s144_0), .val (.int s162_0), .val (.int (Int32.ofNat (own_f xs (q + 1)))), s9] [(.int (2 : Int32)), (.int (Int32.ofNat q))]))
                            refine go (fun _ kont => XS.iadd X'.here hx rfl (hb hby d_prog_37_method_2_219) rfl kont) ?_
                            show G (T'.setTop (mkF m 220 #[.val (.ref b), .val (.int (Int32.ofNat q0)), .val (.int (Int32.ofNat e8)), .val (.int (Int32.ofNat q)), .val (.int (Int32.ofNat (own_f xs (q)))), .val (.int (3 : Int32)), .val (.int s144_0), .val (.int s162_0), .val (.int (Int32.ofNat (own_f xs (q + 1)))), s9] [(.int ((Int32.ofNat q) + (2 : Int32)))]))
                            rw [show Int32.ofNat q + (2 : Int32) = Int32.ofNat (q + 2) from own_addk q 2]
                            show G (T'.setTop (mkF m 220 #[.val (.ref b), .val (.int (Int32.ofNat q0)), .val (.int (Int32.ofNat e8)), .val (.int (Int32.ofNat q)), .val (.int (Int32.ofNat (own_f xs (q)))), .val (.int (3 : Int32)), .val (.int s144_0), .val (.int s162_0), .val (.int (Int32.ofNat (own_f xs (q + 1)))), s9] [(.int (Int32.ofNat (q + 2)))]))
                            refine go (fun _ kont => XS.istore X'.here hx rfl (hb hby d_prog_37_method_2_220) rfl (l' := #[.val (.ref b), .val (.int (Int32.ofNat q0)), .val (.int (Int32.ofNat e8)), .val (.int (Int32.ofNat q)), .val (.int (Int32.ofNat (own_f xs (q)))), .val (.int (3 : Int32)), .val (.int s144_0), .val (.int s162_0), .val (.int (Int32.ofNat (own_f xs (q + 1)))), .val (.int (Int32.ofNat (q + 2)))]) (by rcases hs9 with rfl | ⟨w, rfl, hw⟩ <;> first | rfl | (cases w <;> first | rfl | (simp [Value.category] at hw))) kont) ?_
                            show G (T'.setTop (mkF m 222 #[.val (.ref b), .val (.int (Int32.ofNat q0)), .val (.int (Int32.ofNat e8)), .val (.int (Int32.ofNat q)), .val (.int (Int32.ofNat (own_f xs (q)))), .val (.int (3 : Int32)), .val (.int s144_0), .val (.int s162_0), .val (.int (Int32.ofNat (own_f xs (q + 1)))), .val (.int (Int32.ofNat (q + 2)))] []))
                            refine go (fun _ kont => XS.iload X'.here hx rfl (hb hby d_prog_37_method_2_222) rfl  kont) ?_
                            show G (T'.setTop (mkF m 224 #[.val (.ref b), .val (.int (Int32.ofNat q0)), .val (.int (Int32.ofNat e8)), .val (.int (Int32.ofNat q)), .val (.int (Int32.ofNat (own_f xs (q)))), .val (.int (3 : Int32)), .val (.int s144_0), .val (.int s162_0), .val (.int (Int32.ofNat (own_f xs (q + 1)))), .val (.int (Int32.ofNat (q + 2)))] [(.int (Int32.ofNat (q + 2)))]))
                            refine go (fun _ kont => XS.iloadN X'.here hx rfl (hb hby d_prog_37_method_2_224) rfl  kont) ?_
                            show G (T'.setTop (mkF m 225 #[.val (.ref b), .val (.int (Int32.ofNat q0)), .val (.int (Int32.ofNat e8)), .val (.int (Int32.ofNat q)), .val (.int (Int32.ofNat (own_f xs (q)))), .val (.int (3 : Int32)), .val (.int s144_0), .val (.int s162_0), .val (.int (Int32.ofNat (own_f xs (q + 1)))), .val (.int (Int32.ofNat (q + 2)))] [(.int (Int32.ofNat q)), (.int (Int32.ofNat (q + 2)))]))
                            refine go (fun _ kont => XS.iload X'.here hx rfl (hb hby d_prog_37_method_2_225) rfl  kont) ?_
                            show G (T'.setTop (mkF m 227 #[.val (.ref b), .val (.int (Int32.ofNat q0)), .val (.int (Int32.ofNat e8)), .val (.int (Int32.ofNat q)), .val (.int (Int32.ofNat (own_f xs (q)))), .val (.int (3 : Int32)), .val (.int s144_0), .val (.int s162_0), .val (.int (Int32.ofNat (own_f xs (q + 1)))), .val (.int (Int32.ofNat (q + 2)))] [(.int (3 : Int32)), (.int (Int32.ofNat q)), (.int (Int32.ofNat (q + 2)))]))
                            refine go (fun _ kont => XS.iadd X'.here hx rfl (hb hby d_prog_37_method_2_227) rfl kont) ?_
                            show G (T'.setTop (mkF m 228 #[.val (.ref b), .val (.int (Int32.ofNat q0)), .val (.int (Int32.ofNat e8)), .val (.int (Int32.ofNat q)), .val (.int (Int32.ofNat (own_f xs (q)))), .val (.int (3 : Int32)), .val (.int s144_0), .val (.int s162_0), .val (.int (Int32.ofNat (own_f xs (q + 1)))), .val (.int (Int32.ofNat (q + 2)))] [(.int ((Int32.ofNat q) + (3 : Int32))), (.int (Int32.ofNat (q + 2)))]))
                            rw [show Int32.ofNat q + (3 : Int32) = Int32.ofNat (q + 3) from own_addk q 3]
                            show G (T'.setTop (mkF m 228 #[.val (.ref b), .val (.int (Int32.ofNat q0)), .val (.int (Int32.ofNat e8)), .val (.int (Int32.ofNat q)), .val (.int (Int32.ofNat (own_f xs (q)))), .val (.int (3 : Int32)), .val (.int s144_0), .val (.int s162_0), .val (.int (Int32.ofNat (own_f xs (q + 1)))), .val (.int (Int32.ofNat (q + 2)))] [(.int (Int32.ofNat (q + 3))), (.int (Int32.ofNat (q + 2)))]))
                            refine go (fun _ kont => XS.icmpNo X'.here hx rfl (hb hby d_prog_37_method_2_228) rfl (flt (fun z => absurd ((own_ltO (d := q + 3) (k := q + 2) (by omega) (by omega)).mp z) (by omega))).2.2.1 kont) ?_
                            show G (T'.setTop (mkF m 231 #[.val (.ref b), .val (.int (Int32.ofNat q0)), .val (.int (Int32.ofNat e8)), .val (.int (Int32.ofNat q)), .val (.int (Int32.ofNat (own_f xs (q)))), .val (.int (3 : Int32)), .val (.int s144_0), .val (.int s162_0), .val (.int (Int32.ofNat (own_f xs (q + 1)))), .val (.int (Int32.ofNat (q + 2)))] []))
                            refine go (fun _ kont => XS.aloadN X'.here hx rfl (hb hby d_prog_37_method_2_231) rfl rfl kont) ?_
                            show G (T'.setTop (mkF m 232 #[.val (.ref b), .val (.int (Int32.ofNat q0)), .val (.int (Int32.ofNat e8)), .val (.int (Int32.ofNat q)), .val (.int (Int32.ofNat (own_f xs (q)))), .val (.int (3 : Int32)), .val (.int s144_0), .val (.int s162_0), .val (.int (Int32.ofNat (own_f xs (q + 1)))), .val (.int (Int32.ofNat (q + 2)))] [(.ref b)]))
                            refine go (fun _ kont => XS.iload X'.here hx rfl (hb hby d_prog_37_method_2_232) rfl  kont) ?_
                            show G (T'.setTop (mkF m 234 #[.val (.ref b), .val (.int (Int32.ofNat q0)), .val (.int (Int32.ofNat e8)), .val (.int (Int32.ofNat q)), .val (.int (Int32.ofNat (own_f xs (q)))), .val (.int (3 : Int32)), .val (.int s144_0), .val (.int s162_0), .val (.int (Int32.ofNat (own_f xs (q + 1)))), .val (.int (Int32.ofNat (q + 2)))] [(.int (Int32.ofNat (q + 2))), (.ref b)]))
                            refine go (fun _ kont => X'.baloadBytes hx (j := (Int32.ofNat (q + 2))) (v := (.int (xs.getD (q + 2) 0))) (by rw [e']; exact Ar.1) (State.isArrayOf_alike hZ.alike Ar.2.1) Ar.2.2 (own_hink Sl (own_neg (by rw [own_ofN (by omega)]; omega)) (own_tnO (by omega)) (k := q + 2) (by rw [List.length_map]; omega)) (own_hatk Sl (own_tnO (by omega)) (own_atI (k := q + 2) (by omega))) (g := (mkF m 234 #[.val (.ref b), .val (.int (Int32.ofNat q0)), .val (.int (Int32.ofNat e8)), .val (.int (Int32.ofNat q)), .val (.int (Int32.ofNat (own_f xs (q)))), .val (.int (3 : Int32)), .val (.int s144_0), .val (.int s162_0), .val (.int (Int32.ofNat (own_f xs (q + 1)))), .val (.int (Int32.ofNat (q + 2)))] [(.int (Int32.ofNat (q + 2))), (.ref b)])) rfl rfl (hb hby d_prog_37_method_2_234) _ kont) ?_
                            show G (T'.setTop (mkF m 235 #[.val (.ref b), .val (.int (Int32.ofNat q0)), .val (.int (Int32.ofNat e8)), .val (.int (Int32.ofNat q)), .val (.int (Int32.ofNat (own_f xs (q)))), .val (.int (3 : Int32)), .val (.int s144_0), .val (.int s162_0), .val (.int (Int32.ofNat (own_f xs (q + 1)))), .val (.int (Int32.ofNat (q + 2)))] [(.int (xs.getD (q + 2) 0))]))
                            refine go (fun _ kont => XS.sipush X'.here hx rfl (hb hby d_prog_37_method_2_235) kont) ?_
                            show G (T'.setTop (mkF m 238 #[.val (.ref b), .val (.int (Int32.ofNat q0)), .val (.int (Int32.ofNat e8)), .val (.int (Int32.ofNat q)), .val (.int (Int32.ofNat (own_f xs (q)))), .val (.int (3 : Int32)), .val (.int s144_0), .val (.int s162_0), .val (.int (Int32.ofNat (own_f xs (q + 1)))), .val (.int (Int32.ofNat (q + 2)))] [(.int (192 : Int32)), (.int (xs.getD (q + 2) 0))]))
                            refine go (fun _ kont => XS.iand X'.here hx rfl (hb hby d_prog_37_method_2_238) rfl kont) ?_
                            show G (T'.setTop (mkF m 239 #[.val (.ref b), .val (.int (Int32.ofNat q0)), .val (.int (Int32.ofNat e8)), .val (.int (Int32.ofNat q)), .val (.int (Int32.ofNat (own_f xs (q)))), .val (.int (3 : Int32)), .val (.int s144_0), .val (.int s162_0), .val (.int (Int32.ofNat (own_f xs (q + 1)))), .val (.int (Int32.ofNat (q + 2)))] [(.int ((xs.getD (q + 2) 0) &&& (192 : Int32)))]))
                            rw [own_c192 (xs.getD (q + 2) 0)]
                            show G (T'.setTop (mkF m 239 #[.val (.ref b), .val (.int (Int32.ofNat q0)), .val (.int (Int32.ofNat e8)), .val (.int (Int32.ofNat q)), .val (.int (Int32.ofNat (own_f xs (q)))), .val (.int (3 : Int32)), .val (.int s144_0), .val (.int s162_0), .val (.int (Int32.ofNat (own_f xs (q + 1)))), .val (.int (Int32.ofNat (q + 2)))] [(.int ((Int32.ofNat (own_f xs (q + 2))) &&& (192 : Int32)))]))
                            refine go (fun _ kont => XS.sipush X'.here hx rfl (hb hby d_prog_37_method_2_239) kont) ?_
                            show G (T'.setTop (mkF m 242 #[.val (.ref b), .val (.int (Int32.ofNat q0)), .val (.int (Int32.ofNat e8)), .val (.int (Int32.ofNat q)), .val (.int (Int32.ofNat (own_f xs (q)))), .val (.int (3 : Int32)), .val (.int s144_0), .val (.int s162_0), .val (.int (Int32.ofNat (own_f xs (q + 1)))), .val (.int (Int32.ofNat (q + 2)))] [(.int (128 : Int32)), (.int ((Int32.ofNat (own_f xs (q + 2))) &&& (192 : Int32)))]))
                            by_cases hc242 : ((Int32.ofNat (own_f xs (q + 2))) &&& (192 : Int32)) = (128 : Int32)
                            · refine go (fun _ kont => XS.icmpYes X'.here hx rfl (pc0 := 242) (pc' := 247) rfl (hb hby d_prog_37_method_2_242) rfl (teq hc242).1 (by decide) (by decide) kont) ?_
                              show G (T'.setTop (mkF m 247 #[.val (.ref b), .val (.int (Int32.ofNat q0)), .val (.int (Int32.ofNat e8)), .val (.int (Int32.ofNat q)), .val (.int (Int32.ofNat (own_f xs (q)))), .val (.int (3 : Int32)), .val (.int s144_0), .val (.int s162_0), .val (.int (Int32.ofNat (own_f xs (q + 1)))), .val (.int (Int32.ofNat (q + 2)))] []))
                              rw [show _ ↔ _ from own_m192' _ hb2] at hc242
                              refine go (fun _ kont => XS.iinc X'.here hx rfl (hb hby d_prog_37_method_2_247) rfl (l' := #[.val (.ref b), .val (.int (Int32.ofNat q0)), .val (.int (Int32.ofNat e8)), .val (.int (Int32.ofNat q)), .val (.int (Int32.ofNat (own_f xs (q)))), .val (.int (3 : Int32)), .val (.int s144_0), .val (.int s162_0), .val (.int (Int32.ofNat (own_f xs (q + 1)))), .val (.int ((Int32.ofNat (q + 2)) + (1 : Int32)))]) rfl kont) ?_
                              show G (T'.setTop (mkF m 250 #[.val (.ref b), .val (.int (Int32.ofNat q0)), .val (.int (Int32.ofNat e8)), .val (.int (Int32.ofNat q)), .val (.int (Int32.ofNat (own_f xs (q)))), .val (.int (3 : Int32)), .val (.int s144_0), .val (.int s162_0), .val (.int (Int32.ofNat (own_f xs (q + 1)))), .val (.int ((Int32.ofNat (q + 2)) + (1 : Int32)))] []))
                              rw [show Int32.ofNat (q + 2) + (1 : Int32) = Int32.ofNat (q + 3) from own_addk (q + 2) 1]
                              show G (T'.setTop (mkF m 250 #[.val (.ref b), .val (.int (Int32.ofNat q0)), .val (.int (Int32.ofNat e8)), .val (.int (Int32.ofNat q)), .val (.int (Int32.ofNat (own_f xs (q)))), .val (.int (3 : Int32)), .val (.int s144_0), .val (.int s162_0), .val (.int (Int32.ofNat (own_f xs (q + 1)))), .val (.int (Int32.ofNat (q + 3)))] []))
                              refine go (fun _ kont => XS.goto X'.here hx rfl (pc0 := 250) (pc' := 222) rfl (hb hby d_prog_37_method_2_250) (by decide) (by decide) kont) ?_
                              show G (T'.setTop (mkF m 222 #[.val (.ref b), .val (.int (Int32.ofNat q0)), .val (.int (Int32.ofNat e8)), .val (.int (Int32.ofNat q)), .val (.int (Int32.ofNat (own_f xs (q)))), .val (.int (3 : Int32)), .val (.int s144_0), .val (.int s162_0), .val (.int (Int32.ofNat (own_f xs (q + 1)))), .val (.int (Int32.ofNat (q + 3)))] []))
                              refine go (fun _ kont => XS.iload X'.here hx rfl (hb hby d_prog_37_method_2_222) rfl  kont) ?_
                              show G (T'.setTop (mkF m 224 #[.val (.ref b), .val (.int (Int32.ofNat q0)), .val (.int (Int32.ofNat e8)), .val (.int (Int32.ofNat q)), .val (.int (Int32.ofNat (own_f xs (q)))), .val (.int (3 : Int32)), .val (.int s144_0), .val (.int s162_0), .val (.int (Int32.ofNat (own_f xs (q + 1)))), .val (.int (Int32.ofNat (q + 3)))] [(.int (Int32.ofNat (q + 3)))]))
                              refine go (fun _ kont => XS.iloadN X'.here hx rfl (hb hby d_prog_37_method_2_224) rfl  kont) ?_
                              show G (T'.setTop (mkF m 225 #[.val (.ref b), .val (.int (Int32.ofNat q0)), .val (.int (Int32.ofNat e8)), .val (.int (Int32.ofNat q)), .val (.int (Int32.ofNat (own_f xs (q)))), .val (.int (3 : Int32)), .val (.int s144_0), .val (.int s162_0), .val (.int (Int32.ofNat (own_f xs (q + 1)))), .val (.int (Int32.ofNat (q + 3)))] [(.int (Int32.ofNat q)), (.int (Int32.ofNat (q + 3)))]))
                              refine go (fun _ kont => XS.iload X'.here hx rfl (hb hby d_prog_37_method_2_225) rfl  kont) ?_
                              show G (T'.setTop (mkF m 227 #[.val (.ref b), .val (.int (Int32.ofNat q0)), .val (.int (Int32.ofNat e8)), .val (.int (Int32.ofNat q)), .val (.int (Int32.ofNat (own_f xs (q)))), .val (.int (3 : Int32)), .val (.int s144_0), .val (.int s162_0), .val (.int (Int32.ofNat (own_f xs (q + 1)))), .val (.int (Int32.ofNat (q + 3)))] [(.int (3 : Int32)), (.int (Int32.ofNat q)), (.int (Int32.ofNat (q + 3)))]))
                              refine go (fun _ kont => XS.iadd X'.here hx rfl (hb hby d_prog_37_method_2_227) rfl kont) ?_
                              show G (T'.setTop (mkF m 228 #[.val (.ref b), .val (.int (Int32.ofNat q0)), .val (.int (Int32.ofNat e8)), .val (.int (Int32.ofNat q)), .val (.int (Int32.ofNat (own_f xs (q)))), .val (.int (3 : Int32)), .val (.int s144_0), .val (.int s162_0), .val (.int (Int32.ofNat (own_f xs (q + 1)))), .val (.int (Int32.ofNat (q + 3)))] [(.int ((Int32.ofNat q) + (3 : Int32))), (.int (Int32.ofNat (q + 3)))]))
                              rw [show Int32.ofNat q + (3 : Int32) = Int32.ofNat (q + 3) from own_addk q 3]
                              show G (T'.setTop (mkF m 228 #[.val (.ref b), .val (.int (Int32.ofNat q0)), .val (.int (Int32.ofNat e8)), .val (.int (Int32.ofNat q)), .val (.int (Int32.ofNat (own_f xs (q)))), .val (.int (3 : Int32)), .val (.int s144_0), .val (.int s162_0), .val (.int (Int32.ofNat (own_f xs (q + 1)))), .val (.int (Int32.ofNat (q + 3)))] [(.int (Int32.ofNat (q + 3))), (.int (Int32.ofNat (q + 3)))]))
                              refine go (fun _ kont => XS.icmpNo X'.here hx rfl (hb hby d_prog_37_method_2_228) rfl (flt (fun z => absurd ((own_ltO (d := q + 3) (k := q + 3) (by omega) (by omega)).mp z) (by omega))).2.2.1 kont) ?_
                              show G (T'.setTop (mkF m 231 #[.val (.ref b), .val (.int (Int32.ofNat q0)), .val (.int (Int32.ofNat e8)), .val (.int (Int32.ofNat q)), .val (.int (Int32.ofNat (own_f xs (q)))), .val (.int (3 : Int32)), .val (.int s144_0), .val (.int s162_0), .val (.int (Int32.ofNat (own_f xs (q + 1)))), .val (.int (Int32.ofNat (q + 3)))] []))
                              refine go (fun _ kont => XS.aloadN X'.here hx rfl (hb hby d_prog_37_method_2_231) rfl rfl kont) ?_
                              show G (T'.setTop (mkF m 232 #[.val (.ref b), .val (.int (Int32.ofNat q0)), .val (.int (Int32.ofNat e8)), .val (.int (Int32.ofNat q)), .val (.int (Int32.ofNat (own_f xs (q)))), .val (.int (3 : Int32)), .val (.int s144_0), .val (.int s162_0), .val (.int (Int32.ofNat (own_f xs (q + 1)))), .val (.int (Int32.ofNat (q + 3)))] [(.ref b)]))
                              refine go (fun _ kont => XS.iload X'.here hx rfl (hb hby d_prog_37_method_2_232) rfl  kont) ?_
                              show G (T'.setTop (mkF m 234 #[.val (.ref b), .val (.int (Int32.ofNat q0)), .val (.int (Int32.ofNat e8)), .val (.int (Int32.ofNat q)), .val (.int (Int32.ofNat (own_f xs (q)))), .val (.int (3 : Int32)), .val (.int s144_0), .val (.int s162_0), .val (.int (Int32.ofNat (own_f xs (q + 1)))), .val (.int (Int32.ofNat (q + 3)))] [(.int (Int32.ofNat (q + 3))), (.ref b)]))
                              refine go (fun _ kont => X'.baloadBytes hx (j := (Int32.ofNat (q + 3))) (v := (.int (xs.getD (q + 3) 0))) (by rw [e']; exact Ar.1) (State.isArrayOf_alike hZ.alike Ar.2.1) Ar.2.2 (own_hink Sl (own_neg (by rw [own_ofN (by omega)]; omega)) (own_tnO (by omega)) (k := q + 3) (by rw [List.length_map]; omega)) (own_hatk Sl (own_tnO (by omega)) (own_atI (k := q + 3) (by omega))) (g := (mkF m 234 #[.val (.ref b), .val (.int (Int32.ofNat q0)), .val (.int (Int32.ofNat e8)), .val (.int (Int32.ofNat q)), .val (.int (Int32.ofNat (own_f xs (q)))), .val (.int (3 : Int32)), .val (.int s144_0), .val (.int s162_0), .val (.int (Int32.ofNat (own_f xs (q + 1)))), .val (.int (Int32.ofNat (q + 3)))] [(.int (Int32.ofNat (q + 3))), (.ref b)])) rfl rfl (hb hby d_prog_37_method_2_234) _ kont) ?_
                              show G (T'.setTop (mkF m 235 #[.val (.ref b), .val (.int (Int32.ofNat q0)), .val (.int (Int32.ofNat e8)), .val (.int (Int32.ofNat q)), .val (.int (Int32.ofNat (own_f xs (q)))), .val (.int (3 : Int32)), .val (.int s144_0), .val (.int s162_0), .val (.int (Int32.ofNat (own_f xs (q + 1)))), .val (.int (Int32.ofNat (q + 3)))] [(.int (xs.getD (q + 3) 0))]))
                              refine go (fun _ kont => XS.sipush X'.here hx rfl (hb hby d_prog_37_method_2_235) kont) ?_
                              show G (T'.setTop (mkF m 238 #[.val (.ref b), .val (.int (Int32.ofNat q0)), .val (.int (Int32.ofNat e8)), .val (.int (Int32.ofNat q)), .val (.int (Int32.ofNat (own_f xs (q)))), .val (.int (3 : Int32)), .val (.int s144_0), .val (.int s162_0), .val (.int (Int32.ofNat (own_f xs (q + 1)))), .val (.int (Int32.ofNat (q + 3)))] [(.int (192 : Int32)), (.int (xs.getD (q + 3) 0))]))
                              refine go (fun _ kont => XS.iand X'.here hx rfl (hb hby d_prog_37_method_2_238) rfl kont) ?_
                              show G (T'.setTop (mkF m 239 #[.val (.ref b), .val (.int (Int32.ofNat q0)), .val (.int (Int32.ofNat e8)), .val (.int (Int32.ofNat q)), .val (.int (Int32.ofNat (own_f xs (q)))), .val (.int (3 : Int32)), .val (.int s144_0), .val (.int s162_0), .val (.int (Int32.ofNat (own_f xs (q + 1)))), .val (.int (Int32.ofNat (q + 3)))] [(.int ((xs.getD (q + 3) 0) &&& (192 : Int32)))]))
                              rw [own_c192 (xs.getD (q + 3) 0)]
                              show G (T'.setTop (mkF m 239 #[.val (.ref b), .val (.int (Int32.ofNat q0)), .val (.int (Int32.ofNat e8)), .val (.int (Int32.ofNat q)), .val (.int (Int32.ofNat (own_f xs (q)))), .val (.int (3 : Int32)), .val (.int s144_0), .val (.int s162_0), .val (.int (Int32.ofNat (own_f xs (q + 1)))), .val (.int (Int32.ofNat (q + 3)))] [(.int ((Int32.ofNat (own_f xs (q + 3))) &&& (192 : Int32)))]))
                              refine go (fun _ kont => XS.sipush X'.here hx rfl (hb hby d_prog_37_method_2_239) kont) ?_
                              show G (T'.setTop (mkF m 242 #[.val (.ref b), .val (.int (Int32.ofNat q0)), .val (.int (Int32.ofNat e8)), .val (.int (Int32.ofNat q)), .val (.int (Int32.ofNat (own_f xs (q)))), .val (.int (3 : Int32)), .val (.int s144_0), .val (.int s162_0), .val (.int (Int32.ofNat (own_f xs (q + 1)))), .val (.int (Int32.ofNat (q + 3)))] [(.int (128 : Int32)), (.int ((Int32.ofNat (own_f xs (q + 3))) &&& (192 : Int32)))]))
                              by_cases hc242_3 : ((Int32.ofNat (own_f xs (q + 3))) &&& (192 : Int32)) = (128 : Int32)
                              · refine go (fun _ kont => XS.icmpYes X'.here hx rfl (pc0 := 242) (pc' := 247) rfl (hb hby d_prog_37_method_2_242) rfl (teq hc242_3).1 (by decide) (by decide) kont) ?_
                                show G (T'.setTop (mkF m 247 #[.val (.ref b), .val (.int (Int32.ofNat q0)), .val (.int (Int32.ofNat e8)), .val (.int (Int32.ofNat q)), .val (.int (Int32.ofNat (own_f xs (q)))), .val (.int (3 : Int32)), .val (.int s144_0), .val (.int s162_0), .val (.int (Int32.ofNat (own_f xs (q + 1)))), .val (.int (Int32.ofNat (q + 3)))] []))
                                rw [show _ ↔ _ from own_m192' _ hb3] at hc242_3
                                refine go (fun _ kont => XS.iinc X'.here hx rfl (hb hby d_prog_37_method_2_247) rfl (l' := #[.val (.ref b), .val (.int (Int32.ofNat q0)), .val (.int (Int32.ofNat e8)), .val (.int (Int32.ofNat q)), .val (.int (Int32.ofNat (own_f xs (q)))), .val (.int (3 : Int32)), .val (.int s144_0), .val (.int s162_0), .val (.int (Int32.ofNat (own_f xs (q + 1)))), .val (.int ((Int32.ofNat (q + 3)) + (1 : Int32)))]) rfl kont) ?_
                                show G (T'.setTop (mkF m 250 #[.val (.ref b), .val (.int (Int32.ofNat q0)), .val (.int (Int32.ofNat e8)), .val (.int (Int32.ofNat q)), .val (.int (Int32.ofNat (own_f xs (q)))), .val (.int (3 : Int32)), .val (.int s144_0), .val (.int s162_0), .val (.int (Int32.ofNat (own_f xs (q + 1)))), .val (.int ((Int32.ofNat (q + 3)) + (1 : Int32)))] []))
                                rw [show Int32.ofNat (q + 3) + (1 : Int32) = Int32.ofNat (q + 4) from own_addk (q + 3) 1]
                                show G (T'.setTop (mkF m 250 #[.val (.ref b), .val (.int (Int32.ofNat q0)), .val (.int (Int32.ofNat e8)), .val (.int (Int32.ofNat q)), .val (.int (Int32.ofNat (own_f xs (q)))), .val (.int (3 : Int32)), .val (.int s144_0), .val (.int s162_0), .val (.int (Int32.ofNat (own_f xs (q + 1)))), .val (.int (Int32.ofNat (q + 4)))] []))
                                refine go (fun _ kont => XS.goto X'.here hx rfl (pc0 := 250) (pc' := 222) rfl (hb hby d_prog_37_method_2_250) (by decide) (by decide) kont) ?_
                                show G (T'.setTop (mkF m 222 #[.val (.ref b), .val (.int (Int32.ofNat q0)), .val (.int (Int32.ofNat e8)), .val (.int (Int32.ofNat q)), .val (.int (Int32.ofNat (own_f xs (q)))), .val (.int (3 : Int32)), .val (.int s144_0), .val (.int s162_0), .val (.int (Int32.ofNat (own_f xs (q + 1)))), .val (.int (Int32.ofNat (q + 4)))] []))
                                refine go (fun _ kont => XS.iload X'.here hx rfl (hb hby d_prog_37_method_2_222) rfl  kont) ?_
                                show G (T'.setTop (mkF m 224 #[.val (.ref b), .val (.int (Int32.ofNat q0)), .val (.int (Int32.ofNat e8)), .val (.int (Int32.ofNat q)), .val (.int (Int32.ofNat (own_f xs (q)))), .val (.int (3 : Int32)), .val (.int s144_0), .val (.int s162_0), .val (.int (Int32.ofNat (own_f xs (q + 1)))), .val (.int (Int32.ofNat (q + 4)))] [(.int (Int32.ofNat (q + 4)))]))
                                refine go (fun _ kont => XS.iloadN X'.here hx rfl (hb hby d_prog_37_method_2_224) rfl  kont) ?_
                                show G (T'.setTop (mkF m 225 #[.val (.ref b), .val (.int (Int32.ofNat q0)), .val (.int (Int32.ofNat e8)), .val (.int (Int32.ofNat q)), .val (.int (Int32.ofNat (own_f xs (q)))), .val (.int (3 : Int32)), .val (.int s144_0), .val (.int s162_0), .val (.int (Int32.ofNat (own_f xs (q + 1)))), .val (.int (Int32.ofNat (q + 4)))] [(.int (Int32.ofNat q)), (.int (Int32.ofNat (q + 4)))]))
                                refine go (fun _ kont => XS.iload X'.here hx rfl (hb hby d_prog_37_method_2_225) rfl  kont) ?_
                                show G (T'.setTop (mkF m 227 #[.val (.ref b), .val (.int (Int32.ofNat q0)), .val (.int (Int32.ofNat e8)), .val (.int (Int32.ofNat q)), .val (.int (Int32.ofNat (own_f xs (q)))), .val (.int (3 : Int32)), .val (.int s144_0), .val (.int s162_0), .val (.int (Int32.ofNat (own_f xs (q + 1)))), .val (.int (Int32.ofNat (q + 4)))] [(.int (3 : Int32)), (.int (Int32.ofNat q)), (.int (Int32.ofNat (q + 4)))]))
                                refine go (fun _ kont => XS.iadd X'.here hx rfl (hb hby d_prog_37_method_2_227) rfl kont) ?_
                                show G (T'.setTop (mkF m 228 #[.val (.ref b), .val (.int (Int32.ofNat q0)), .val (.int (Int32.ofNat e8)), .val (.int (Int32.ofNat q)), .val (.int (Int32.ofNat (own_f xs (q)))), .val (.int (3 : Int32)), .val (.int s144_0), .val (.int s162_0), .val (.int (Int32.ofNat (own_f xs (q + 1)))), .val (.int (Int32.ofNat (q + 4)))] [(.int ((Int32.ofNat q) + (3 : Int32))), (.int (Int32.ofNat (q + 4)))]))
                                rw [show Int32.ofNat q + (3 : Int32) = Int32.ofNat (q + 3) from own_addk q 3]
                                show G (T'.setTop (mkF m 228 #[.val (.ref b), .val (.int (Int32.ofNat q0)), .val (.int (Int32.ofNat e8)), .val (.int (Int32.ofNat q)), .val (.int (Int32.ofNat (own_f xs (q)))), .val (.int (3 : Int32)), .val (.int s144_0), .val (.int s162_0), .val (.int (Int32.ofNat (own_f xs (q + 1)))), .val (.int (Int32.ofNat (q + 4)))] [(.int (Int32.ofNat (q + 3))), (.int (Int32.ofNat (q + 4)))]))
                                refine go (fun _ kont => XS.icmpYes X'.here hx rfl (pc0 := 228) (pc' := 253) rfl (hb hby d_prog_37_method_2_228) rfl (tlt ((own_ltO (d := q + 3) (k := q + 4) (by omega) (by omega)).mpr (by omega))).2.2.1 (by decide) (by decide) kont) ?_
                                show G (T'.setTop (mkF m 253 #[.val (.ref b), .val (.int (Int32.ofNat q0)), .val (.int (Int32.ofNat e8)), .val (.int (Int32.ofNat q)), .val (.int (Int32.ofNat (own_f xs (q)))), .val (.int (3 : Int32)), .val (.int s144_0), .val (.int s162_0), .val (.int (Int32.ofNat (own_f xs (q + 1)))), .val (.int (Int32.ofNat (q + 4)))] []))
                                refine go (fun _ kont => XS.iloadN X'.here hx rfl (hb hby d_prog_37_method_2_253) rfl  kont) ?_
                                show G (T'.setTop (mkF m 254 #[.val (.ref b), .val (.int (Int32.ofNat q0)), .val (.int (Int32.ofNat e8)), .val (.int (Int32.ofNat q)), .val (.int (Int32.ofNat (own_f xs (q)))), .val (.int (3 : Int32)), .val (.int s144_0), .val (.int s162_0), .val (.int (Int32.ofNat (own_f xs (q + 1)))), .val (.int (Int32.ofNat (q + 4)))] [(.int (Int32.ofNat q))]))
                                refine go (fun _ kont => XS.iload X'.here hx rfl (hb hby d_prog_37_method_2_254) rfl  kont) ?_
                                show G (T'.setTop (mkF m 256 #[.val (.ref b), .val (.int (Int32.ofNat q0)), .val (.int (Int32.ofNat e8)), .val (.int (Int32.ofNat q)), .val (.int (Int32.ofNat (own_f xs (q)))), .val (.int (3 : Int32)), .val (.int s144_0), .val (.int s162_0), .val (.int (Int32.ofNat (own_f xs (q + 1)))), .val (.int (Int32.ofNat (q + 4)))] [(.int (3 : Int32)), (.int (Int32.ofNat q))]))
                                refine go (fun _ kont => XS.iconst X'.here hx rfl (hb hby d_prog_37_method_2_256) kont) ?_
                                show G (T'.setTop (mkF m 257 #[.val (.ref b), .val (.int (Int32.ofNat q0)), .val (.int (Int32.ofNat e8)), .val (.int (Int32.ofNat q)), .val (.int (Int32.ofNat (own_f xs (q)))), .val (.int (3 : Int32)), .val (.int s144_0), .val (.int s162_0), .val (.int (Int32.ofNat (own_f xs (q + 1)))), .val (.int (Int32.ofNat (q + 4)))] [(.int (1 : Int32)), (.int (3 : Int32)), (.int (Int32.ofNat q))]))
                                refine go (fun _ kont => XS.iadd X'.here hx rfl (hb hby d_prog_37_method_2_257) rfl kont) ?_
                                show G (T'.setTop (mkF m 258 #[.val (.ref b), .val (.int (Int32.ofNat q0)), .val (.int (Int32.ofNat e8)), .val (.int (Int32.ofNat q)), .val (.int (Int32.ofNat (own_f xs (q)))), .val (.int (3 : Int32)), .val (.int s144_0), .val (.int s162_0), .val (.int (Int32.ofNat (own_f xs (q + 1)))), .val (.int (Int32.ofNat (q + 4)))] [(.int ((3 : Int32) + (1 : Int32))), (.int (Int32.ofNat q))]))
                                refine go (fun _ kont => XS.iadd X'.here hx rfl (hb hby d_prog_37_method_2_258) rfl kont) ?_
                                show G (T'.setTop (mkF m 259 #[.val (.ref b), .val (.int (Int32.ofNat q0)), .val (.int (Int32.ofNat e8)), .val (.int (Int32.ofNat q)), .val (.int (Int32.ofNat (own_f xs (q)))), .val (.int (3 : Int32)), .val (.int s144_0), .val (.int s162_0), .val (.int (Int32.ofNat (own_f xs (q + 1)))), .val (.int (Int32.ofNat (q + 4)))] [(.int ((Int32.ofNat q) + ((3 : Int32) + (1 : Int32))))]))
                                refine go (fun _ kont => XS.istoreN X'.here hx rfl (hb hby d_prog_37_method_2_259) rfl (l' := #[.val (.ref b), .val (.int (Int32.ofNat q0)), .val (.int (Int32.ofNat e8)), .val (.int ((Int32.ofNat q) + ((3 : Int32) + (1 : Int32)))), .val (.int (Int32.ofNat (own_f xs (q)))), .val (.int (3 : Int32)), .val (.int s144_0), .val (.int s162_0), .val (.int (Int32.ofNat (own_f xs (q + 1)))), .val (.int (Int32.ofNat (q + 4)))]) rfl kont) ?_
                                show G (T'.setTop (mkF m 260 #[.val (.ref b), .val (.int (Int32.ofNat q0)), .val (.int (Int32.ofNat e8)), .val (.int ((Int32.ofNat q) + ((3 : Int32) + (1 : Int32)))), .val (.int (Int32.ofNat (own_f xs (q)))), .val (.int (3 : Int32)), .val (.int s144_0), .val (.int s162_0), .val (.int (Int32.ofNat (own_f xs (q + 1)))), .val (.int (Int32.ofNat (q + 4)))] []))
                                refine go (fun _ kont => XS.goto X'.here hx rfl (pc0 := 260) (pc' := 2) rfl (hb hby d_prog_37_method_2_260) (by decide) (by decide) kont) ?_
                                show G (T'.setTop (mkF m 2 #[.val (.ref b), .val (.int (Int32.ofNat q0)), .val (.int (Int32.ofNat e8)), .val (.int ((Int32.ofNat q) + ((3 : Int32) + (1 : Int32)))), .val (.int (Int32.ofNat (own_f xs (q)))), .val (.int (3 : Int32)), .val (.int s144_0), .val (.int s162_0), .val (.int (Int32.ofNat (own_f xs (q + 1)))), .val (.int (Int32.ofNat (q + 4)))] []))
                                rw [show Int32.ofNat q + ((3 : Int32) + (1 : Int32)) = Int32.ofNat (q + 4) from own_addk q 4]
                                exact ih (q + 4) (by omega) (by omega) (hT.trans (own_T_step (N := 4) (by omega) he8 (by unfold own_N own_n; (repeat' split) <;> omega) (by decide))) _ _ _ _ _ _ (One.val rfl) (One.val rfl) (One.val rfl) (One.val rfl) (One.val rfl) (One.val rfl) _ X' e'
                              · refine go (fun _ kont => XS.icmpNo X'.here hx rfl (hb hby d_prog_37_method_2_242) rfl (feq hc242_3).1 kont) ?_
                                show G (T'.setTop (mkF m 245 #[.val (.ref b), .val (.int (Int32.ofNat q0)), .val (.int (Int32.ofNat e8)), .val (.int (Int32.ofNat q)), .val (.int (Int32.ofNat (own_f xs (q)))), .val (.int (3 : Int32)), .val (.int s144_0), .val (.int s162_0), .val (.int (Int32.ofNat (own_f xs (q + 1)))), .val (.int (Int32.ofNat (q + 3)))] []))
                                rw [show _ ↔ _ from own_m192' _ hb3] at hc242_3
                                refine go (fun _ kont => XS.iconst X'.here hx rfl (hb hby d_prog_37_method_2_245) kont) ?_
                                show G (T'.setTop (mkF m 246 #[.val (.ref b), .val (.int (Int32.ofNat q0)), .val (.int (Int32.ofNat e8)), .val (.int (Int32.ofNat q)), .val (.int (Int32.ofNat (own_f xs (q)))), .val (.int (3 : Int32)), .val (.int s144_0), .val (.int s162_0), .val (.int (Int32.ofNat (own_f xs (q + 1)))), .val (.int (Int32.ofNat (q + 3)))] [(.int (0 : Int32))]))
                                rw [hG]
                                exact own_retN X' hx (t := .boolean) Bd.returns (by simp) (hb hby d_prog_37_method_2_246) hlk (by decide) (by decide) ⟨by rw [hT, own_T_bad (by omega) (by unfold own_N own_n; (repeat' split) <;> omega)]; rfl, N0, e'⟩
                            · refine go (fun _ kont => XS.icmpNo X'.here hx rfl (hb hby d_prog_37_method_2_242) rfl (feq hc242).1 kont) ?_
                              show G (T'.setTop (mkF m 245 #[.val (.ref b), .val (.int (Int32.ofNat q0)), .val (.int (Int32.ofNat e8)), .val (.int (Int32.ofNat q)), .val (.int (Int32.ofNat (own_f xs (q)))), .val (.int (3 : Int32)), .val (.int s144_0), .val (.int s162_0), .val (.int (Int32.ofNat (own_f xs (q + 1)))), .val (.int (Int32.ofNat (q + 2)))] []))
                              rw [show _ ↔ _ from own_m192' _ hb2] at hc242
                              refine go (fun _ kont => XS.iconst X'.here hx rfl (hb hby d_prog_37_method_2_245) kont) ?_
                              show G (T'.setTop (mkF m 246 #[.val (.ref b), .val (.int (Int32.ofNat q0)), .val (.int (Int32.ofNat e8)), .val (.int (Int32.ofNat q)), .val (.int (Int32.ofNat (own_f xs (q)))), .val (.int (3 : Int32)), .val (.int s144_0), .val (.int s162_0), .val (.int (Int32.ofNat (own_f xs (q + 1)))), .val (.int (Int32.ofNat (q + 2)))] [(.int (0 : Int32))]))
                              rw [hG]
                              exact own_retN X' hx (t := .boolean) Bd.returns (by simp) (hb hby d_prog_37_method_2_246) hlk (by decide) (by decide) ⟨by rw [hT, own_T_bad (by omega) (by unfold own_N own_n; (repeat' split) <;> omega)]; rfl, N0, e'⟩
                      · refine go (fun _ kont => XS.icmpNo X'.here hx rfl (hb hby d_prog_37_method_2_185) rfl (flt hc185).2.2.1 kont) ?_
                        show G (T'.setTop (mkF m 188 #[.val (.ref b), .val (.int (Int32.ofNat q0)), .val (.int (Int32.ofNat e8)), .val (.int (Int32.ofNat q)), .val (.int (Int32.ofNat (own_f xs (q)))), .val (.int (3 : Int32)), .val (.int s144_0), .val (.int s162_0), s8, s9] []))
                        rw [show (3 : Int32) < Int32.ofNat (e8 - q) ↔ 3 < e8 - q from own_ltO (d := 3) (k := e8 - q) (by omega) (by omega)] at hc185
                        refine go (fun _ kont => XS.iconst X'.here hx rfl (hb hby d_prog_37_method_2_188) kont) ?_
                        show G (T'.setTop (mkF m 189 #[.val (.ref b), .val (.int (Int32.ofNat q0)), .val (.int (Int32.ofNat e8)), .val (.int (Int32.ofNat q)), .val (.int (Int32.ofNat (own_f xs (q)))), .val (.int (3 : Int32)), .val (.int s144_0), .val (.int s162_0), s8, s9] [(.int (0 : Int32))]))
                        rw [hG]
                        exact own_retN X' hx (t := .boolean) Bd.returns (by simp) (hb hby d_prog_37_method_2_189) hlk (by decide) (by decide) ⟨by rw [hT, own_T_bad (by omega) (by unfold own_N own_n; (repeat' split) <;> omega)]; rfl, N0, e'⟩
                    by_cases hc162 : (Int32.ofNat (own_f xs (q))) = (244 : Int32)
                    · refine go (fun _ kont => XS.icmpNo X'.here hx rfl (hb hby d_prog_37_method_2_162) rfl (teq hc162).2 kont) ?_
                      show G (T'.setTop (mkF m 165 #[.val (.ref b), .val (.int (Int32.ofNat q0)), .val (.int (Int32.ofNat e8)), .val (.int (Int32.ofNat q)), .val (.int (Int32.ofNat (own_f xs (q)))), .val (.int (3 : Int32)), .val (.int s144_0), .val (.int (191 : Int32)), s8, s9] []))
                      refine go (fun _ kont => XS.sipush X'.here hx rfl (hb hby d_prog_37_method_2_165) kont) ?_
                      show G (T'.setTop (mkF m 168 #[.val (.ref b), .val (.int (Int32.ofNat q0)), .val (.int (Int32.ofNat e8)), .val (.int (Int32.ofNat q)), .val (.int (Int32.ofNat (own_f xs (q)))), .val (.int (3 : Int32)), .val (.int s144_0), .val (.int (191 : Int32)), s8, s9] [(.int (143 : Int32))]))
                      refine go (fun _ kont => XS.goto X'.here hx rfl (pc0 := 168) (pc' := 173) rfl (hb hby d_prog_37_method_2_168) (by decide) (by decide) kont) ?_
                      show G (T'.setTop (mkF m 173 #[.val (.ref b), .val (.int (Int32.ofNat q0)), .val (.int (Int32.ofNat e8)), .val (.int (Int32.ofNat q)), .val (.int (Int32.ofNat (own_f xs (q)))), .val (.int (3 : Int32)), .val (.int s144_0), .val (.int (191 : Int32)), s8, s9] [(.int (143 : Int32))]))
                      exact j2 _ (by first | exact (if_pos hc162).symm | (rw [if_pos hc162]; assumption))
                    · refine go (fun _ kont => XS.icmpYes X'.here hx rfl (pc0 := 162) (pc' := 171) rfl (hb hby d_prog_37_method_2_162) rfl (feq hc162).2 (by decide) (by decide) kont) ?_
                      show G (T'.setTop (mkF m 171 #[.val (.ref b), .val (.int (Int32.ofNat q0)), .val (.int (Int32.ofNat e8)), .val (.int (Int32.ofNat q)), .val (.int (Int32.ofNat (own_f xs (q)))), .val (.int (3 : Int32)), .val (.int s144_0), .val (.int (191 : Int32)), s8, s9] []))
                      refine go (fun _ kont => XS.iload X'.here hx rfl (hb hby d_prog_37_method_2_171) rfl  kont) ?_
                      show G (T'.setTop (mkF m 173 #[.val (.ref b), .val (.int (Int32.ofNat q0)), .val (.int (Int32.ofNat e8)), .val (.int (Int32.ofNat q)), .val (.int (Int32.ofNat (own_f xs (q)))), .val (.int (3 : Int32)), .val (.int s144_0), .val (.int (191 : Int32)), s8, s9] [(.int (191 : Int32))]))
                      exact j2 _ (by first | exact (if_neg hc162).symm | (rw [if_neg hc162]; assumption))
                  by_cases hc144 : (Int32.ofNat (own_f xs (q))) = (240 : Int32)
                  · refine go (fun _ kont => XS.icmpNo X'.here hx rfl (hb hby d_prog_37_method_2_144) rfl (teq hc144).2 kont) ?_
                    show G (T'.setTop (mkF m 147 #[.val (.ref b), .val (.int (Int32.ofNat q0)), .val (.int (Int32.ofNat e8)), .val (.int (Int32.ofNat q)), .val (.int (Int32.ofNat (own_f xs (q)))), .val (.int (3 : Int32)), .val (.int (128 : Int32)), .val (.int (191 : Int32)), s8, s9] []))
                    refine go (fun _ kont => XS.sipush X'.here hx rfl (hb hby d_prog_37_method_2_147) kont) ?_
                    show G (T'.setTop (mkF m 150 #[.val (.ref b), .val (.int (Int32.ofNat q0)), .val (.int (Int32.ofNat e8)), .val (.int (Int32.ofNat q)), .val (.int (Int32.ofNat (own_f xs (q)))), .val (.int (3 : Int32)), .val (.int (128 : Int32)), .val (.int (191 : Int32)), s8, s9] [(.int (144 : Int32))]))
                    refine go (fun _ kont => XS.goto X'.here hx rfl (pc0 := 150) (pc' := 155) rfl (hb hby d_prog_37_method_2_150) (by decide) (by decide) kont) ?_
                    show G (T'.setTop (mkF m 155 #[.val (.ref b), .val (.int (Int32.ofNat q0)), .val (.int (Int32.ofNat e8)), .val (.int (Int32.ofNat q)), .val (.int (Int32.ofNat (own_f xs (q)))), .val (.int (3 : Int32)), .val (.int (128 : Int32)), .val (.int (191 : Int32)), s8, s9] [(.int (144 : Int32))]))
                    exact j1 _ (by first | exact (if_pos hc144).symm | (rw [if_pos hc144]; assumption))
                  · refine go (fun _ kont => XS.icmpYes X'.here hx rfl (pc0 := 144) (pc' := 153) rfl (hb hby d_prog_37_method_2_144) rfl (feq hc144).2 (by decide) (by decide) kont) ?_
                    show G (T'.setTop (mkF m 153 #[.val (.ref b), .val (.int (Int32.ofNat q0)), .val (.int (Int32.ofNat e8)), .val (.int (Int32.ofNat q)), .val (.int (Int32.ofNat (own_f xs (q)))), .val (.int (3 : Int32)), .val (.int (128 : Int32)), .val (.int (191 : Int32)), s8, s9] []))
                    refine go (fun _ kont => XS.iload X'.here hx rfl (hb hby d_prog_37_method_2_153) rfl  kont) ?_
                    show G (T'.setTop (mkF m 155 #[.val (.ref b), .val (.int (Int32.ofNat q0)), .val (.int (Int32.ofNat e8)), .val (.int (Int32.ofNat q)), .val (.int (Int32.ofNat (own_f xs (q)))), .val (.int (3 : Int32)), .val (.int (128 : Int32)), .val (.int (191 : Int32)), s8, s9] [(.int (128 : Int32))]))
                    exact j1 _ (by first | exact (if_neg hc144).symm | (rw [if_neg hc144]; assumption))
            · refine go (fun _ kont => XS.icmpNo X'.here hx rfl (hb hby d_prog_37_method_2_67) rfl (flt hc67).1 kont) ?_
              show G (T'.setTop (mkF m 70 #[.val (.ref b), .val (.int (Int32.ofNat q0)), .val (.int (Int32.ofNat e8)), .val (.int (Int32.ofNat q)), .val (.int (Int32.ofNat (own_f xs (q)))), s5, .val (.int (128 : Int32)), .val (.int (191 : Int32)), s8, s9] []))
              rw [show Int32.ofNat (own_f xs (q)) < (224 : Int32) ↔ own_f xs (q) < 224 from own_ltO (d := own_f xs (q)) (k := 224) (by omega) (by omega)] at hc67
              refine go (fun _ kont => XS.iload X'.here hx rfl (hb hby d_prog_37_method_2_70) rfl  kont) ?_
              show G (T'.setTop (mkF m 72 #[.val (.ref b), .val (.int (Int32.ofNat q0)), .val (.int (Int32.ofNat e8)), .val (.int (Int32.ofNat q)), .val (.int (Int32.ofNat (own_f xs (q)))), s5, .val (.int (128 : Int32)), .val (.int (191 : Int32)), s8, s9] [(.int (Int32.ofNat (own_f xs (q))))]))
              refine go (fun _ kont => XS.sipush X'.here hx rfl (hb hby d_prog_37_method_2_72) kont) ?_
              show G (T'.setTop (mkF m 75 #[.val (.ref b), .val (.int (Int32.ofNat q0)), .val (.int (Int32.ofNat e8)), .val (.int (Int32.ofNat q)), .val (.int (Int32.ofNat (own_f xs (q)))), s5, .val (.int (128 : Int32)), .val (.int (191 : Int32)), s8, s9] [(.int (239 : Int32)), (.int (Int32.ofNat (own_f xs (q))))]))
              by_cases hc75 : (239 : Int32) < (Int32.ofNat (own_f xs (q)))
              · refine go (fun _ kont => XS.icmpYes X'.here hx rfl (pc0 := 75) (pc' := 120) rfl (hb hby d_prog_37_method_2_75) rfl (tlt hc75).2.2.1 (by decide) (by decide) kont) ?_
                show G (T'.setTop (mkF m 120 #[.val (.ref b), .val (.int (Int32.ofNat q0)), .val (.int (Int32.ofNat e8)), .val (.int (Int32.ofNat q)), .val (.int (Int32.ofNat (own_f xs (q)))), s5, .val (.int (128 : Int32)), .val (.int (191 : Int32)), s8, s9] []))
                rw [show (239 : Int32) < Int32.ofNat (own_f xs (q)) ↔ 239 < own_f xs (q) from own_ltO (d := 239) (k := own_f xs (q)) (by omega) (by omega)] at hc75
                refine go (fun _ kont => XS.iload X'.here hx rfl (hb hby d_prog_37_method_2_120) rfl  kont) ?_
                show G (T'.setTop (mkF m 122 #[.val (.ref b), .val (.int (Int32.ofNat q0)), .val (.int (Int32.ofNat e8)), .val (.int (Int32.ofNat q)), .val (.int (Int32.ofNat (own_f xs (q)))), s5, .val (.int (128 : Int32)), .val (.int (191 : Int32)), s8, s9] [(.int (Int32.ofNat (own_f xs (q))))]))
                refine go (fun _ kont => XS.sipush X'.here hx rfl (hb hby d_prog_37_method_2_122) kont) ?_
                show G (T'.setTop (mkF m 125 #[.val (.ref b), .val (.int (Int32.ofNat q0)), .val (.int (Int32.ofNat e8)), .val (.int (Int32.ofNat q)), .val (.int (Int32.ofNat (own_f xs (q)))), s5, .val (.int (128 : Int32)), .val (.int (191 : Int32)), s8, s9] [(.int (240 : Int32)), (.int (Int32.ofNat (own_f xs (q))))]))
                by_cases hc125 : (Int32.ofNat (own_f xs (q))) < (240 : Int32)
                · refine go (fun _ kont => XS.icmpYes X'.here hx rfl (pc0 := 125) (pc' := 178) rfl (hb hby d_prog_37_method_2_125) rfl (tlt hc125).1 (by decide) (by decide) kont) ?_
                  show G (T'.setTop (mkF m 178 #[.val (.ref b), .val (.int (Int32.ofNat q0)), .val (.int (Int32.ofNat e8)), .val (.int (Int32.ofNat q)), .val (.int (Int32.ofNat (own_f xs (q)))), s5, .val (.int (128 : Int32)), .val (.int (191 : Int32)), s8, s9] []))
                  rw [show Int32.ofNat (own_f xs (q)) < (240 : Int32) ↔ own_f xs (q) < 240 from own_ltO (d := own_f xs (q)) (k := 240) (by omega) (by omega)] at hc125
                  refine go (fun _ kont => XS.iconst X'.here hx rfl (hb hby d_prog_37_method_2_178) kont) ?_
                  show G (T'.setTop (mkF m 179 #[.val (.ref b), .val (.int (Int32.ofNat q0)), .val (.int (Int32.ofNat e8)), .val (.int (Int32.ofNat q)), .val (.int (Int32.ofNat (own_f xs (q)))), s5, .val (.int (128 : Int32)), .val (.int (191 : Int32)), s8, s9] [(.int (0 : Int32))]))
                  rw [hG]
                  exact own_retN X' hx (t := .boolean) Bd.returns (by simp) (hb hby d_prog_37_method_2_179) hlk (by decide) (by decide) ⟨by rw [hT, own_T_bad (by omega) (by unfold own_N own_n; (repeat' split) <;> omega)]; rfl, N0, e'⟩
                · refine go (fun _ kont => XS.icmpNo X'.here hx rfl (hb hby d_prog_37_method_2_125) rfl (flt hc125).1 kont) ?_
                  show G (T'.setTop (mkF m 128 #[.val (.ref b), .val (.int (Int32.ofNat q0)), .val (.int (Int32.ofNat e8)), .val (.int (Int32.ofNat q)), .val (.int (Int32.ofNat (own_f xs (q)))), s5, .val (.int (128 : Int32)), .val (.int (191 : Int32)), s8, s9] []))
                  rw [show Int32.ofNat (own_f xs (q)) < (240 : Int32) ↔ own_f xs (q) < 240 from own_ltO (d := own_f xs (q)) (k := 240) (by omega) (by omega)] at hc125
                  refine go (fun _ kont => XS.iload X'.here hx rfl (hb hby d_prog_37_method_2_128) rfl  kont) ?_
                  show G (T'.setTop (mkF m 130 #[.val (.ref b), .val (.int (Int32.ofNat q0)), .val (.int (Int32.ofNat e8)), .val (.int (Int32.ofNat q)), .val (.int (Int32.ofNat (own_f xs (q)))), s5, .val (.int (128 : Int32)), .val (.int (191 : Int32)), s8, s9] [(.int (Int32.ofNat (own_f xs (q))))]))
                  refine go (fun _ kont => XS.sipush X'.here hx rfl (hb hby d_prog_37_method_2_130) kont) ?_
                  show G (T'.setTop (mkF m 133 #[.val (.ref b), .val (.int (Int32.ofNat q0)), .val (.int (Int32.ofNat e8)), .val (.int (Int32.ofNat q)), .val (.int (Int32.ofNat (own_f xs (q)))), s5, .val (.int (128 : Int32)), .val (.int (191 : Int32)), s8, s9] [(.int (244 : Int32)), (.int (Int32.ofNat (own_f xs (q))))]))
                  by_cases hc133 : (244 : Int32) < (Int32.ofNat (own_f xs (q)))
                  · refine go (fun _ kont => XS.icmpYes X'.here hx rfl (pc0 := 133) (pc' := 178) rfl (hb hby d_prog_37_method_2_133) rfl (tlt hc133).2.2.1 (by decide) (by decide) kont) ?_
                    show G (T'.setTop (mkF m 178 #[.val (.ref b), .val (.int (Int32.ofNat q0)), .val (.int (Int32.ofNat e8)), .val (.int (Int32.ofNat q)), .val (.int (Int32.ofNat (own_f xs (q)))), s5, .val (.int (128 : Int32)), .val (.int (191 : Int32)), s8, s9] []))
                    rw [show (244 : Int32) < Int32.ofNat (own_f xs (q)) ↔ 244 < own_f xs (q) from own_ltO (d := 244) (k := own_f xs (q)) (by omega) (by omega)] at hc133
                    refine go (fun _ kont => XS.iconst X'.here hx rfl (hb hby d_prog_37_method_2_178) kont) ?_
                    show G (T'.setTop (mkF m 179 #[.val (.ref b), .val (.int (Int32.ofNat q0)), .val (.int (Int32.ofNat e8)), .val (.int (Int32.ofNat q)), .val (.int (Int32.ofNat (own_f xs (q)))), s5, .val (.int (128 : Int32)), .val (.int (191 : Int32)), s8, s9] [(.int (0 : Int32))]))
                    rw [hG]
                    exact own_retN X' hx (t := .boolean) Bd.returns (by simp) (hb hby d_prog_37_method_2_179) hlk (by decide) (by decide) ⟨by rw [hT, own_T_bad (by omega) (by unfold own_N own_n; (repeat' split) <;> omega)]; rfl, N0, e'⟩
                  · refine go (fun _ kont => XS.icmpNo X'.here hx rfl (hb hby d_prog_37_method_2_133) rfl (flt hc133).2.2.1 kont) ?_
                    show G (T'.setTop (mkF m 136 #[.val (.ref b), .val (.int (Int32.ofNat q0)), .val (.int (Int32.ofNat e8)), .val (.int (Int32.ofNat q)), .val (.int (Int32.ofNat (own_f xs (q)))), s5, .val (.int (128 : Int32)), .val (.int (191 : Int32)), s8, s9] []))
                    rw [show (244 : Int32) < Int32.ofNat (own_f xs (q)) ↔ 244 < own_f xs (q) from own_ltO (d := 244) (k := own_f xs (q)) (by omega) (by omega)] at hc133
                    refine go (fun _ kont => XS.iconst X'.here hx rfl (hb hby d_prog_37_method_2_136) kont) ?_
                    show G (T'.setTop (mkF m 137 #[.val (.ref b), .val (.int (Int32.ofNat q0)), .val (.int (Int32.ofNat e8)), .val (.int (Int32.ofNat q)), .val (.int (Int32.ofNat (own_f xs (q)))), s5, .val (.int (128 : Int32)), .val (.int (191 : Int32)), s8, s9] [(.int (3 : Int32))]))
                    refine go (fun _ kont => XS.istore X'.here hx rfl (hb hby d_prog_37_method_2_137) rfl (l' := #[.val (.ref b), .val (.int (Int32.ofNat q0)), .val (.int (Int32.ofNat e8)), .val (.int (Int32.ofNat q)), .val (.int (Int32.ofNat (own_f xs (q)))), .val (.int (3 : Int32)), .val (.int (128 : Int32)), .val (.int (191 : Int32)), s8, s9]) (by rcases hs5 with rfl | ⟨w, rfl, hw⟩ <;> first | rfl | (cases w <;> first | rfl | (simp [Value.category] at hw))) kont) ?_
                    show G (T'.setTop (mkF m 139 #[.val (.ref b), .val (.int (Int32.ofNat q0)), .val (.int (Int32.ofNat e8)), .val (.int (Int32.ofNat q)), .val (.int (Int32.ofNat (own_f xs (q)))), .val (.int (3 : Int32)), .val (.int (128 : Int32)), .val (.int (191 : Int32)), s8, s9] []))
                    refine go (fun _ kont => XS.iload X'.here hx rfl (hb hby d_prog_37_method_2_139) rfl  kont) ?_
                    show G (T'.setTop (mkF m 141 #[.val (.ref b), .val (.int (Int32.ofNat q0)), .val (.int (Int32.ofNat e8)), .val (.int (Int32.ofNat q)), .val (.int (Int32.ofNat (own_f xs (q)))), .val (.int (3 : Int32)), .val (.int (128 : Int32)), .val (.int (191 : Int32)), s8, s9] [(.int (Int32.ofNat (own_f xs (q))))]))
                    refine go (fun _ kont => XS.sipush X'.here hx rfl (hb hby d_prog_37_method_2_141) kont) ?_
                    show G (T'.setTop (mkF m 144 #[.val (.ref b), .val (.int (Int32.ofNat q0)), .val (.int (Int32.ofNat e8)), .val (.int (Int32.ofNat q)), .val (.int (Int32.ofNat (own_f xs (q)))), .val (.int (3 : Int32)), .val (.int (128 : Int32)), .val (.int (191 : Int32)), s8, s9] [(.int (240 : Int32)), (.int (Int32.ofNat (own_f xs (q))))]))
                    have j3 : ∀ (s144_0 : Int32), s144_0 = (if (Int32.ofNat (own_f xs (q))) = (240 : Int32) then (144 : Int32) else (128 : Int32)) → G (T'.setTop (mkF m 155 #[.val (.ref b), .val (.int (Int32.ofNat q0)), .val (.int (Int32.ofNat e8)), .val (.int (Int32.ofNat q)), .val (.int (Int32.ofNat (own_f xs (q)))), .val (.int (3 : Int32)), .val (.int (128 : Int32)), .val (.int (191 : Int32)), s8, s9] [(.int s144_0)])) := by
                      intro s144_0 hs144_0
                      refine go (fun _ kont => XS.istore X'.here hx rfl (hb hby d_prog_37_method_2_155) rfl (l' := #[.val (.ref b), .val (.int (Int32.ofNat q0)), .val (.int (Int32.ofNat e8)), .val (.int (Int32.ofNat q)), .val (.int (Int32.ofNat (own_f xs (q)))), .val (.int (3 : Int32)), .val (.int s144_0), .val (.int (191 : Int32)), s8, s9]) rfl kont) ?_
                      show G (T'.setTop (mkF m 157 #[.val (.ref b), .val (.int (Int32.ofNat q0)), .val (.int (Int32.ofNat e8)), .val (.int (Int32.ofNat q)), .val (.int (Int32.ofNat (own_f xs (q)))), .val (.int (3 : Int32)), .val (.int s144_0), .val (.int (191 : Int32)), s8, s9] []))
                      refine go (fun _ kont => XS.iload X'.here hx rfl (hb hby d_prog_37_method_2_157) rfl  kont) ?_
                      show G (T'.setTop (mkF m 159 #[.val (.ref b), .val (.int (Int32.ofNat q0)), .val (.int (Int32.ofNat e8)), .val (.int (Int32.ofNat q)), .val (.int (Int32.ofNat (own_f xs (q)))), .val (.int (3 : Int32)), .val (.int s144_0), .val (.int (191 : Int32)), s8, s9] [(.int (Int32.ofNat (own_f xs (q))))]))
                      refine go (fun _ kont => XS.sipush X'.here hx rfl (hb hby d_prog_37_method_2_159) kont) ?_
                      show G (T'.setTop (mkF m 162 #[.val (.ref b), .val (.int (Int32.ofNat q0)), .val (.int (Int32.ofNat e8)), .val (.int (Int32.ofNat q)), .val (.int (Int32.ofNat (own_f xs (q)))), .val (.int (3 : Int32)), .val (.int s144_0), .val (.int (191 : Int32)), s8, s9] [(.int (244 : Int32)), (.int (Int32.ofNat (own_f xs (q))))]))
                      have j4 : ∀ (s162_0 : Int32), s162_0 = (if (Int32.ofNat (own_f xs (q))) = (244 : Int32) then (143 : Int32) else (191 : Int32)) → G (T'.setTop (mkF m 173 #[.val (.ref b), .val (.int (Int32.ofNat q0)), .val (.int (Int32.ofNat e8)), .val (.int (Int32.ofNat q)), .val (.int (Int32.ofNat (own_f xs (q)))), .val (.int (3 : Int32)), .val (.int s144_0), .val (.int (191 : Int32)), s8, s9] [(.int s162_0)])) := by
                        intro s162_0 hs162_0
                        refine go (fun _ kont => XS.istore X'.here hx rfl (hb hby d_prog_37_method_2_173) rfl (l' := #[.val (.ref b), .val (.int (Int32.ofNat q0)), .val (.int (Int32.ofNat e8)), .val (.int (Int32.ofNat q)), .val (.int (Int32.ofNat (own_f xs (q)))), .val (.int (3 : Int32)), .val (.int s144_0), .val (.int s162_0), s8, s9]) rfl kont) ?_
                        show G (T'.setTop (mkF m 175 #[.val (.ref b), .val (.int (Int32.ofNat q0)), .val (.int (Int32.ofNat e8)), .val (.int (Int32.ofNat q)), .val (.int (Int32.ofNat (own_f xs (q)))), .val (.int (3 : Int32)), .val (.int s144_0), .val (.int s162_0), s8, s9] []))
                        refine go (fun _ kont => XS.goto X'.here hx rfl (pc0 := 175) (pc' := 180) rfl (hb hby d_prog_37_method_2_175) (by decide) (by decide) kont) ?_
                        show G (T'.setTop (mkF m 180 #[.val (.ref b), .val (.int (Int32.ofNat q0)), .val (.int (Int32.ofNat e8)), .val (.int (Int32.ofNat q)), .val (.int (Int32.ofNat (own_f xs (q)))), .val (.int (3 : Int32)), .val (.int s144_0), .val (.int s162_0), s8, s9] []))
                        obtain ⟨lo, hlo, hlo1, hlo2⟩ : ∃ z : Nat, s144_0 = Int32.ofNat z ∧ (own_f xs (q) = 240 → z = 144) ∧ (own_f xs (q) ≠ 240 → z = 128) := by
                          rw [hs144_0]
                          by_cases hz : own_f xs (q) = 240
                          · exact ⟨144, by rw [if_pos (show Int32.ofNat (own_f xs (q)) = (240 : Int32) from by rw [hz]; rfl)]; rfl, fun _ => rfl, fun z => absurd hz z⟩
                          · exact ⟨128, by rw [if_neg (show ¬ (Int32.ofNat (own_f xs (q)) = (240 : Int32)) from fun z => hz ((own_eqO (d := own_f xs (q)) (k := 240) (by omega) (by omega)).mp z))]; rfl, fun z => absurd z hz, fun _ => rfl⟩
                        obtain ⟨hi, hhi, hhi1, hhi2⟩ : ∃ z : Nat, s162_0 = Int32.ofNat z ∧ (own_f xs (q) = 244 → z = 143) ∧ (own_f xs (q) ≠ 244 → z = 191) := by
                          rw [hs162_0]
                          by_cases hz : own_f xs (q) = 244
                          · exact ⟨143, by rw [if_pos (show Int32.ofNat (own_f xs (q)) = (244 : Int32) from by rw [hz]; rfl)]; rfl, fun _ => rfl, fun z => absurd hz z⟩
                          · exact ⟨191, by rw [if_neg (show ¬ (Int32.ofNat (own_f xs (q)) = (244 : Int32)) from fun z => hz ((own_eqO (d := own_f xs (q)) (k := 244) (by omega) (by omega)).mp z))]; rfl, fun z => absurd z hz, fun _ => rfl⟩
                        refine go (fun _ kont => XS.iloadN X'.here hx rfl (hb hby d_prog_37_method_2_180) rfl  kont) ?_
                        show G (T'.setTop (mkF m 181 #[.val (.ref b), .val (.int (Int32.ofNat q0)), .val (.int (Int32.ofNat e8)), .val (.int (Int32.ofNat q)), .val (.int (Int32.ofNat (own_f xs (q)))), .val (.int (3 : Int32)), .val (.int s144_0), .val (.int s162_0), s8, s9] [(.int (Int32.ofNat e8))]))
                        refine go (fun _ kont => XS.iloadN X'.here hx rfl (hb hby d_prog_37_method_2_181) rfl  kont) ?_
                        show G (T'.setTop (mkF m 182 #[.val (.ref b), .val (.int (Int32.ofNat q0)), .val (.int (Int32.ofNat e8)), .val (.int (Int32.ofNat q)), .val (.int (Int32.ofNat (own_f xs (q)))), .val (.int (3 : Int32)), .val (.int s144_0), .val (.int s162_0), s8, s9] [(.int (Int32.ofNat q)), (.int (Int32.ofNat e8))]))
                        refine go (fun _ kont => XS.isub X'.here hx rfl (hb hby d_prog_37_method_2_182) rfl kont) ?_
                        show G (T'.setTop (mkF m 183 #[.val (.ref b), .val (.int (Int32.ofNat q0)), .val (.int (Int32.ofNat e8)), .val (.int (Int32.ofNat q)), .val (.int (Int32.ofNat (own_f xs (q)))), .val (.int (3 : Int32)), .val (.int s144_0), .val (.int s162_0), s8, s9] [(.int ((Int32.ofNat e8) - (Int32.ofNat q)))]))
                        rw [own_subk (p := e8) (k := q) (by omega)]
                        show G (T'.setTop (mkF m 183 #[.val (.ref b), .val (.int (Int32.ofNat q0)), .val (.int (Int32.ofNat e8)), .val (.int (Int32.ofNat q)), .val (.int (Int32.ofNat (own_f xs (q)))), .val (.int (3 : Int32)), .val (.int s144_0), .val (.int s162_0), s8, s9] [(.int (Int32.ofNat (e8 - q)))]))
                        refine go (fun _ kont => XS.iload X'.here hx rfl (hb hby d_prog_37_method_2_183) rfl  kont) ?_
                        show G (T'.setTop (mkF m 185 #[.val (.ref b), .val (.int (Int32.ofNat q0)), .val (.int (Int32.ofNat e8)), .val (.int (Int32.ofNat q)), .val (.int (Int32.ofNat (own_f xs (q)))), .val (.int (3 : Int32)), .val (.int s144_0), .val (.int s162_0), s8, s9] [(.int (3 : Int32)), (.int (Int32.ofNat (e8 - q)))]))
                        by_cases hc185 : (3 : Int32) < (Int32.ofNat (e8 - q))
                        · refine go (fun _ kont => XS.icmpYes X'.here hx rfl (pc0 := 185) (pc' := 190) rfl (hb hby d_prog_37_method_2_185) rfl (tlt hc185).2.2.1 (by decide) (by decide) kont) ?_
                          show G (T'.setTop (mkF m 190 #[.val (.ref b), .val (.int (Int32.ofNat q0)), .val (.int (Int32.ofNat e8)), .val (.int (Int32.ofNat q)), .val (.int (Int32.ofNat (own_f xs (q)))), .val (.int (3 : Int32)), .val (.int s144_0), .val (.int s162_0), s8, s9] []))
                          rw [show (3 : Int32) < Int32.ofNat (e8 - q) ↔ 3 < e8 - q from own_ltO (d := 3) (k := e8 - q) (by omega) (by omega)] at hc185
                          refine go (fun _ kont => XS.aloadN X'.here hx rfl (hb hby d_prog_37_method_2_190) rfl rfl kont) ?_
                          show G (T'.setTop (mkF m 191 #[.val (.ref b), .val (.int (Int32.ofNat q0)), .val (.int (Int32.ofNat e8)), .val (.int (Int32.ofNat q)), .val (.int (Int32.ofNat (own_f xs (q)))), .val (.int (3 : Int32)), .val (.int s144_0), .val (.int s162_0), s8, s9] [(.ref b)]))
                          refine go (fun _ kont => XS.iloadN X'.here hx rfl (hb hby d_prog_37_method_2_191) rfl  kont) ?_
                          show G (T'.setTop (mkF m 192 #[.val (.ref b), .val (.int (Int32.ofNat q0)), .val (.int (Int32.ofNat e8)), .val (.int (Int32.ofNat q)), .val (.int (Int32.ofNat (own_f xs (q)))), .val (.int (3 : Int32)), .val (.int s144_0), .val (.int s162_0), s8, s9] [(.int (Int32.ofNat q)), (.ref b)]))
                          refine go (fun _ kont => XS.iconst X'.here hx rfl (hb hby d_prog_37_method_2_192) kont) ?_
                          show G (T'.setTop (mkF m 193 #[.val (.ref b), .val (.int (Int32.ofNat q0)), .val (.int (Int32.ofNat e8)), .val (.int (Int32.ofNat q)), .val (.int (Int32.ofNat (own_f xs (q)))), .val (.int (3 : Int32)), .val (.int s144_0), .val (.int s162_0), s8, s9] [(.int (1 : Int32)), (.int (Int32.ofNat q)), (.ref b)]))
                          refine go (fun _ kont => XS.iadd X'.here hx rfl (hb hby d_prog_37_method_2_193) rfl kont) ?_
                          show G (T'.setTop (mkF m 194 #[.val (.ref b), .val (.int (Int32.ofNat q0)), .val (.int (Int32.ofNat e8)), .val (.int (Int32.ofNat q)), .val (.int (Int32.ofNat (own_f xs (q)))), .val (.int (3 : Int32)), .val (.int s144_0), .val (.int s162_0), s8, s9] [(.int ((Int32.ofNat q) + (1 : Int32))), (.ref b)]))
                          rw [show Int32.ofNat q + (1 : Int32) = Int32.ofNat (q + 1) from own_addk q 1]
                          show G (T'.setTop (mkF m 194 #[.val (.ref b), .val (.int (Int32.ofNat q0)), .val (.int (Int32.ofNat e8)), .val (.int (Int32.ofNat q)), .val (.int (Int32.ofNat (own_f xs (q)))), .val (.int (3 : Int32)), .val (.int s144_0), .val (.int s162_0), s8, s9] [(.int (Int32.ofNat (q + 1))), (.ref b)]))
                          refine go (fun _ kont => X'.baloadBytes hx (j := (Int32.ofNat (q + 1))) (v := (.int (xs.getD (q + 1) 0))) (by rw [e']; exact Ar.1) (State.isArrayOf_alike hZ.alike Ar.2.1) Ar.2.2 (own_hink Sl (own_neg (by rw [own_ofN (by omega)]; omega)) (own_tnO (by omega)) (k := q + 1) (by rw [List.length_map]; omega)) (own_hatk Sl (own_tnO (by omega)) (own_atI (k := q + 1) (by omega))) (g := (mkF m 194 #[.val (.ref b), .val (.int (Int32.ofNat q0)), .val (.int (Int32.ofNat e8)), .val (.int (Int32.ofNat q)), .val (.int (Int32.ofNat (own_f xs (q)))), .val (.int (3 : Int32)), .val (.int s144_0), .val (.int s162_0), s8, s9] [(.int (Int32.ofNat (q + 1))), (.ref b)])) rfl rfl (hb hby d_prog_37_method_2_194) _ kont) ?_
                          show G (T'.setTop (mkF m 195 #[.val (.ref b), .val (.int (Int32.ofNat q0)), .val (.int (Int32.ofNat e8)), .val (.int (Int32.ofNat q)), .val (.int (Int32.ofNat (own_f xs (q)))), .val (.int (3 : Int32)), .val (.int s144_0), .val (.int s162_0), s8, s9] [(.int (xs.getD (q + 1) 0))]))
                          refine go (fun _ kont => XS.sipush X'.here hx rfl (hb hby d_prog_37_method_2_195) kont) ?_
                          show G (T'.setTop (mkF m 198 #[.val (.ref b), .val (.int (Int32.ofNat q0)), .val (.int (Int32.ofNat e8)), .val (.int (Int32.ofNat q)), .val (.int (Int32.ofNat (own_f xs (q)))), .val (.int (3 : Int32)), .val (.int s144_0), .val (.int s162_0), s8, s9] [(.int (255 : Int32)), (.int (xs.getD (q + 1) 0))]))
                          refine go (fun _ kont => XS.iand X'.here hx rfl (hb hby d_prog_37_method_2_198) rfl kont) ?_
                          show G (T'.setTop (mkF m 199 #[.val (.ref b), .val (.int (Int32.ofNat q0)), .val (.int (Int32.ofNat e8)), .val (.int (Int32.ofNat q)), .val (.int (Int32.ofNat (own_f xs (q)))), .val (.int (3 : Int32)), .val (.int s144_0), .val (.int s162_0), s8, s9] [(.int ((xs.getD (q + 1) 0) &&& (255 : Int32)))]))
                          rw [own_fe xs (q + 1)]
                          show G (T'.setTop (mkF m 199 #[.val (.ref b), .val (.int (Int32.ofNat q0)), .val (.int (Int32.ofNat e8)), .val (.int (Int32.ofNat q)), .val (.int (Int32.ofNat (own_f xs (q)))), .val (.int (3 : Int32)), .val (.int s144_0), .val (.int s162_0), s8, s9] [(.int (Int32.ofNat (own_f xs (q + 1))))]))
                          refine go (fun _ kont => XS.istore X'.here hx rfl (hb hby d_prog_37_method_2_199) rfl (l' := #[.val (.ref b), .val (.int (Int32.ofNat q0)), .val (.int (Int32.ofNat e8)), .val (.int (Int32.ofNat q)), .val (.int (Int32.ofNat (own_f xs (q)))), .val (.int (3 : Int32)), .val (.int s144_0), .val (.int s162_0), .val (.int (Int32.ofNat (own_f xs (q + 1)))), s9]) (by rcases hs8 with rfl | ⟨w, rfl, hw⟩ <;> first | rfl | (cases w <;> first | rfl | (simp [Value.category] at hw))) kont) ?_
                          show G (T'.setTop (mkF m 201 #[.val (.ref b), .val (.int (Int32.ofNat q0)), .val (.int (Int32.ofNat e8)), .val (.int (Int32.ofNat q)), .val (.int (Int32.ofNat (own_f xs (q)))), .val (.int (3 : Int32)), .val (.int s144_0), .val (.int s162_0), .val (.int (Int32.ofNat (own_f xs (q + 1)))), s9] []))
                          refine go (fun _ kont => XS.iload X'.here hx rfl (hb hby d_prog_37_method_2_201) rfl  kont) ?_
                          show G (T'.setTop (mkF m 203 #[.val (.ref b), .val (.int (Int32.ofNat q0)), .val (.int (Int32.ofNat e8)), .val (.int (Int32.ofNat q)), .val (.int (Int32.ofNat (own_f xs (q)))), .val (.int (3 : Int32)), .val (.int s144_0), .val (.int s162_0), .val (.int (Int32.ofNat (own_f xs (q + 1)))), s9] [(.int (Int32.ofNat (own_f xs (q + 1))))]))
                          refine go (fun _ kont => XS.iload X'.here hx rfl (hb hby d_prog_37_method_2_203) rfl  kont) ?_
                          show G (T'.setTop (mkF m 205 #[.val (.ref b), .val (.int (Int32.ofNat q0)), .val (.int (Int32.ofNat e8)), .val (.int (Int32.ofNat q)), .val (.int (Int32.ofNat (own_f xs (q)))), .val (.int (3 : Int32)), .val (.int s144_0), .val (.int s162_0), .val (.int (Int32.ofNat (own_f xs (q + 1)))), s9] [(.int s144_0), (.int (Int32.ofNat (own_f xs (q + 1))))]))
                          by_cases hc205 : (Int32.ofNat (own_f xs (q + 1))) < s144_0
                          · refine go (fun _ kont => XS.icmpYes X'.here hx rfl (pc0 := 205) (pc' := 215) rfl (hb hby d_prog_37_method_2_205) rfl (tlt hc205).1 (by decide) (by decide) kont) ?_
                            show G (T'.setTop (mkF m 215 #[.val (.ref b), .val (.int (Int32.ofNat q0)), .val (.int (Int32.ofNat e8)), .val (.int (Int32.ofNat q)), .val (.int (Int32.ofNat (own_f xs (q)))), .val (.int (3 : Int32)), .val (.int s144_0), .val (.int s162_0), .val (.int (Int32.ofNat (own_f xs (q + 1)))), s9] []))
                            rw [hlo, show Int32.ofNat (own_f xs (q + 1)) < Int32.ofNat lo ↔ own_f xs (q + 1) < lo from own_ltO (d := own_f xs (q + 1)) (k := lo) (by omega) (by first | omega | (split <;> omega))] at hc205
                            refine go (fun _ kont => XS.iconst X'.here hx rfl (hb hby d_prog_37_method_2_215) kont) ?_
                            show G (T'.setTop (mkF m 216 #[.val (.ref b), .val (.int (Int32.ofNat q0)), .val (.int (Int32.ofNat e8)), .val (.int (Int32.ofNat q)), .val (.int (Int32.ofNat (own_f xs (q)))), .val (.int (3 : Int32)), .val (.int s144_0), .val (.int s162_0), .val (.int (Int32.ofNat (own_f xs (q + 1)))), s9] [(.int (0 : Int32))]))
                            rw [hG]
                            exact own_retN X' hx (t := .boolean) Bd.returns (by simp) (hb hby d_prog_37_method_2_216) hlk (by decide) (by decide) ⟨by rw [hT, own_T_bad (by omega) (by unfold own_N own_n; (repeat' split) <;> omega)]; rfl, N0, e'⟩
                          · refine go (fun _ kont => XS.icmpNo X'.here hx rfl (hb hby d_prog_37_method_2_205) rfl (flt hc205).1 kont) ?_
                            show G (T'.setTop (mkF m 208 #[.val (.ref b), .val (.int (Int32.ofNat q0)), .val (.int (Int32.ofNat e8)), .val (.int (Int32.ofNat q)), .val (.int (Int32.ofNat (own_f xs (q)))), .val (.int (3 : Int32)), .val (.int s144_0), .val (.int s162_0), .val (.int (Int32.ofNat (own_f xs (q + 1)))), s9] []))
                            rw [hlo, show Int32.ofNat (own_f xs (q + 1)) < Int32.ofNat lo ↔ own_f xs (q + 1) < lo from own_ltO (d := own_f xs (q + 1)) (k := lo) (by omega) (by first | omega | (split <;> omega))] at hc205
                            refine go (fun _ kont => XS.iload X'.here hx rfl (hb hby d_prog_37_method_2_208) rfl  kont) ?_
                            show G (T'.setTop (mkF m 210 #[.val (.ref b), .val (.int (Int32.ofNat q0)), .val (.int (Int32.ofNat e8)), .val (.int (Int32.ofNat q)), .val (.int (Int32.ofNat (own_f xs (q)))), .val (.int (3 : Int32)), .val (.int s144_0), .val (.int s162_0), .val (.int (Int32.ofNat (own_f xs (q + 1)))), s9] [(.int (Int32.ofNat (own_f xs (q + 1))))]))
                            refine go (fun _ kont => XS.iload X'.here hx rfl (hb hby d_prog_37_method_2_210) rfl  kont) ?_
                            show G (T'.setTop (mkF m 212 #[.val (.ref b), .val (.int (Int32.ofNat q0)), .val (.int (Int32.ofNat e8)), .val (.int (Int32.ofNat q)), .val (.int (Int32.ofNat (own_f xs (q)))), .val (.int (3 : Int32)), .val (.int s144_0), .val (.int s162_0), .val (.int (Int32.ofNat (own_f xs (q + 1)))), s9] [(.int s162_0), (.int (Int32.ofNat (own_f xs (q + 1))))]))
                            by_cases hc212 : s162_0 < (Int32.ofNat (own_f xs (q + 1)))
                            · refine go (fun _ kont => XS.icmpNo X'.here hx rfl (hb hby d_prog_37_method_2_212) rfl (tlt hc212).2.2.2 kont) ?_
                              show G (T'.setTop (mkF m 215 #[.val (.ref b), .val (.int (Int32.ofNat q0)), .val (.int (Int32.ofNat e8)), .val (.int (Int32.ofNat q)), .val (.int (Int32.ofNat (own_f xs (q)))), .val (.int (3 : Int32)), .val (.int s144_0), .val (.int s162_0), .val (.int (Int32.ofNat (own_f xs (q + 1)))), s9] []))
                              rw [hhi, show Int32.ofNat hi < Int32.ofNat (own_f xs (q + 1)) ↔ hi < own_f xs (q + 1) from own_ltO (d := hi) (k := own_f xs (q + 1)) (by first | omega | (split <;> omega)) (by omega)] at hc212
                              refine go (fun _ kont => XS.iconst X'.here hx rfl (hb hby d_prog_37_method_2_215) kont) ?_
                              show G (T'.setTop (mkF m 216 #[.val (.ref b), .val (.int (Int32.ofNat q0)), .val (.int (Int32.ofNat e8)), .val (.int (Int32.ofNat q)), .val (.int (Int32.ofNat (own_f xs (q)))), .val (.int (3 : Int32)), .val (.int s144_0), .val (.int s162_0), .val (.int (Int32.ofNat (own_f xs (q + 1)))), s9] [(.int (0 : Int32))]))
                              rw [hG]
                              exact own_retN X' hx (t := .boolean) Bd.returns (by simp) (hb hby d_prog_37_method_2_216) hlk (by decide) (by decide) ⟨by rw [hT, own_T_bad (by omega) (by unfold own_N own_n; (repeat' split) <;> omega)]; rfl, N0, e'⟩
                            · refine go (fun _ kont => XS.icmpYes X'.here hx rfl (pc0 := 212) (pc' := 217) rfl (hb hby d_prog_37_method_2_212) rfl (flt hc212).2.2.2 (by decide) (by decide) kont) ?_
                              show G (T'.setTop (mkF m 217 #[.val (.ref b), .val (.int (Int32.ofNat q0)), .val (.int (Int32.ofNat e8)), .val (.int (Int32.ofNat q)), .val (.int (Int32.ofNat (own_f xs (q)))), .val (.int (3 : Int32)), .val (.int s144_0), .val (.int s162_0), .val (.int (Int32.ofNat (own_f xs (q + 1)))), s9] []))
                              rw [hhi, show Int32.ofNat hi < Int32.ofNat (own_f xs (q + 1)) ↔ hi < own_f xs (q + 1) from own_ltO (d := hi) (k := own_f xs (q + 1)) (by first | omega | (split <;> omega)) (by omega)] at hc212
                              refine go (fun _ kont => XS.iloadN X'.here hx rfl (hb hby d_prog_37_method_2_217) rfl  kont) ?_
                              show G (T'.setTop (mkF m 218 #[.val (.ref b), .val (.int (Int32.ofNat q0)), .val (.int (Int32.ofNat e8)), .val (.int (Int32.ofNat q)), .val (.int (Int32.ofNat (own_f xs (q)))), .val (.int (3 : Int32)), .val (.int s144_0), .val (.int s162_0), .val (.int (Int32.ofNat (own_f xs (q + 1)))), s9] [(.int (Int32.ofNat q))]))
                              refine go (fun _ kont => XS.iconst X'.here hx rfl (hb hby d_prog_37_method_2_218) kont) ?_
                              show G (T'.setTop (mkF m 219 #[.val (.ref b), .val (.int (Int32.ofNat q0)), .val (.int (Int32.ofNat e8)), .val (.int (Int32.ofNat q)), .val (.int (Int32.ofNat (own_f xs (q)))), .val (.int (3 : Int32)), .val (.int s144_0), .val (.int s162_0), .val (.int (Int32.ofNat (own_f xs (q + 1)))), s9] [(.int (2 : Int32)), (.int (Int32.ofNat q))]))
                              refine go (fun _ kont => XS.iadd X'.here hx rfl (hb hby d_prog_37_method_2_219) rfl kont) ?_
                              show G (T'.setTop (mkF m 220 #[.val (.ref b), .val (.int (Int32.ofNat q0)), .val (.int (Int32.ofNat e8)), .val (.int (Int32.ofNat q)), .val (.int (Int32.ofNat (own_f xs (q)))), .val (.int (3 : Int32)), .val (.int s144_0), .val (.int s162_0), .val (.int (Int32.ofNat (own_f xs (q + 1)))), s9] [(.int ((Int32.ofNat q) + (2 : Int32)))]))
                              rw [show Int32.ofNat q + (2 : Int32) = Int32.ofNat (q + 2) from own_addk q 2]
                              show G (T'.setTop (mkF m 220 #[.val (.ref b), .val (.int (Int32.ofNat q0)), .val (.int (Int32.ofNat e8)), .val (.int (Int32.ofNat q)), .val (.int (Int32.ofNat (own_f xs (q)))), .val (.int (3 : Int32)), .val (.int s144_0), .val (.int s162_0), .val (.int (Int32.ofNat (own_f xs (q + 1)))), s9] [(.int (Int32.ofNat (q + 2)))]))
                              refine go (fun _ kont => XS.istore X'.here hx rfl (hb hby d_prog_37_method_2_220) rfl (l' := #[.val (.ref b), .val (.int (Int32.ofNat q0)), .val (.int (Int32.ofNat e8)), .val (.int (Int32.ofNat q)), .val (.int (Int32.ofNat (own_f xs (q)))), .val (.int (3 : Int32)), .val (.int s144_0), .val (.int s162_0), .val (.int (Int32.ofNat (own_f xs (q + 1)))), .val (.int (Int32.ofNat (q + 2)))]) (by rcases hs9 with rfl | ⟨w, rfl, hw⟩ <;> first | rfl | (cases w <;> first | rfl | (simp [Value.category] at hw))) kont) ?_
                              show G (T'.setTop (mkF m 222 #[.val (.ref b), .val (.int (Int32.ofNat q0)), .val (.int (Int32.ofNat e8)), .val (.int (Int32.ofNat q)), .val (.int (Int32.ofNat (own_f xs (q)))), .val (.int (3 : Int32)), .val (.int s144_0), .val (.int s162_0), .val (.int (Int32.ofNat (own_f xs (q + 1)))), .val (.int (Int32.ofNat (q + 2)))] []))
                              refine go (fun _ kont => XS.iload X'.here hx rfl (hb hby d_prog_37_method_2_222) rfl  kont) ?_
                              show G (T'.setTop (mkF m 224 #[.val (.ref b), .val (.int (Int32.ofNat q0)), .val (.int (Int32.ofNat e8)), .val (.int (Int32.ofNat q)), .val (.int (Int32.ofNat (own_f xs (q)))), .val (.int (3 : Int32)), .val (.int s144_0), .val (.int s162_0), .val (.int (Int32.ofNat (own_f xs (q + 1)))), .val (.int (Int32.ofNat (q + 2)))] [(.int (Int32.ofNat (q + 2)))]))
                              refine go (fun _ kont => XS.iloadN X'.here hx rfl (hb hby d_prog_37_method_2_224) rfl  kont) ?_
                              show G (T'.setTop (mkF m 225 #[.val (.ref b), .val (.int (Int32.ofNat q0)), .val (.int (Int32.ofNat e8)), .val (.int (Int32.ofNat q)), .val (.int (Int32.ofNat (own_f xs (q)))), .val (.int (3 : Int32)), .val (.int s144_0), .val (.int s162_0), .val (.int (Int32.ofNat (own_f xs (q + 1)))), .val (.int (Int32.ofNat (q + 2)))] [(.int (Int32.ofNat q)), (.int (Int32.ofNat (q + 2)))]))
                              refine go (fun _ kont => XS.iload X'.here hx rfl (hb hby d_prog_37_method_2_225) rfl  kont) ?_
                              show G (T'.setTop (mkF m 227 #[.val (.ref b), .val (.int (Int32.ofNat q0)), .val (.int (Int32.ofNat e8)), .val (.int (Int32.ofNat q)), .val (.int (Int32.ofNat (own_f xs (q)))), .val (.int (3 : Int32)), .val (.int s144_0), .val (.int s162_0), .val (.int (Int32.ofNat (own_f xs (q + 1)))), .val (.int (Int32.ofNat (q + 2)))] [(.int (3 : Int32)), (.int (Int32.ofNat q)), (.int (Int32.ofNat (q + 2)))]))
                              refine go (fun _ kont => XS.iadd X'.here hx rfl (hb hby d_prog_37_method_2_227) rfl kont) ?_
                              show G (T'.setTop (mkF m 228 #[.val (.ref b), .val (.int (Int32.ofNat q0)), .val (.int (Int32.ofNat e8)), .val (.int (Int32.ofNat q)), .val (.int (Int32.ofNat (own_f xs (q)))), .val (.int (3 : Int32)), .val (.int s144_0), .val (.int s162_0), .val (.int (Int32.ofNat (own_f xs (q + 1)))), .val (.int (Int32.ofNat (q + 2)))] [(.int ((Int32.ofNat q) + (3 : Int32))), (.int (Int32.ofNat (q + 2)))]))
                              rw [show Int32.ofNat q + (3 : Int32) = Int32.ofNat (q + 3) from own_addk q 3]
                              show G (T'.setTop (mkF m 228 #[.val (.ref b), .val (.int (Int32.ofNat q0)), .val (.int (Int32.ofNat e8)), .val (.int (Int32.ofNat q)), .val (.int (Int32.ofNat (own_f xs (q)))), .val (.int (3 : Int32)), .val (.int s144_0), .val (.int s162_0), .val (.int (Int32.ofNat (own_f xs (q + 1)))), .val (.int (Int32.ofNat (q + 2)))] [(.int (Int32.ofNat (q + 3))), (.int (Int32.ofNat (q + 2)))]))
                              refine go (fun _ kont => XS.icmpNo X'.here hx rfl (hb hby d_prog_37_method_2_228) rfl (flt (fun z => absurd ((own_ltO (d := q + 3) (k := q + 2) (by omega) (by omega)).mp z) (by omega))).2.2.1 kont) ?_
                              show G (T'.setTop (mkF m 231 #[.val (.ref b), .val (.int (Int32.ofNat q0)), .val (.int (Int32.ofNat e8)), .val (.int (Int32.ofNat q)), .val (.int (Int32.ofNat (own_f xs (q)))), .val (.int (3 : Int32)), .val (.int s144_0), .val (.int s162_0), .val (.int (Int32.ofNat (own_f xs (q + 1)))), .val (.int (Int32.ofNat (q + 2)))] []))
                              refine go (fun _ kont => XS.aloadN X'.here hx rfl (hb hby d_prog_37_method_2_231) rfl rfl kont) ?_
                              show G (T'.setTop (mkF m 232 #[.val (.ref b), .val (.int (Int32.ofNat q0)), .val (.int (Int32.ofNat e8)), .val (.int (Int32.ofNat q)), .val (.int (Int32.ofNat (own_f xs (q)))), .val (.int (3 : Int32)), .val (.int s144_0), .val (.int s162_0), .val (.int (Int32.ofNat (own_f xs (q + 1)))), .val (.int (Int32.ofNat (q + 2)))] [(.ref b)]))
                              refine go (fun _ kont => XS.iload X'.here hx rfl (hb hby d_prog_37_method_2_232) rfl  kont) ?_
                              show G (T'.setTop (mkF m 234 #[.val (.ref b), .val (.int (Int32.ofNat q0)), .val (.int (Int32.ofNat e8)), .val (.int (Int32.ofNat q)), .val (.int (Int32.ofNat (own_f xs (q)))), .val (.int (3 : Int32)), .val (.int s144_0), .val (.int s162_0), .val (.int (Int32.ofNat (own_f xs (q + 1)))), .val (.int (Int32.ofNat (q + 2)))] [(.int (Int32.ofNat (q + 2))), (.ref b)]))
                              refine go (fun _ kont => X'.baloadBytes hx (j := (Int32.ofNat (q + 2))) (v := (.int (xs.getD (q + 2) 0))) (by rw [e']; exact Ar.1) (State.isArrayOf_alike hZ.alike Ar.2.1) Ar.2.2 (own_hink Sl (own_neg (by rw [own_ofN (by omega)]; omega)) (own_tnO (by omega)) (k := q + 2) (by rw [List.length_map]; omega)) (own_hatk Sl (own_tnO (by omega)) (own_atI (k := q + 2) (by omega))) (g := (mkF m 234 #[.val (.ref b), .val (.int (Int32.ofNat q0)), .val (.int (Int32.ofNat e8)), .val (.int (Int32.ofNat q)), .val (.int (Int32.ofNat (own_f xs (q)))), .val (.int (3 : Int32)), .val (.int s144_0), .val (.int s162_0), .val (.int (Int32.ofNat (own_f xs (q + 1)))), .val (.int (Int32.ofNat (q + 2)))] [(.int (Int32.ofNat (q + 2))), (.ref b)])) rfl rfl (hb hby d_prog_37_method_2_234) _ kont) ?_
                              show G (T'.setTop (mkF m 235 #[.val (.ref b), .val (.int (Int32.ofNat q0)), .val (.int (Int32.ofNat e8)), .val (.int (Int32.ofNat q)), .val (.int (Int32.ofNat (own_f xs (q)))), .val (.int (3 : Int32)), .val (.int s144_0), .val (.int s162_0), .val (.int (Int32.ofNat (own_f xs (q + 1)))), .val (.int (Int32.ofNat (q + 2)))] [(.int (xs.getD (q + 2) 0))]))
                              refine go (fun _ kont => XS.sipush X'.here hx rfl (hb hby d_prog_37_method_2_235) kont) ?_
                              show G (T'.setTop (mkF m 238 #[.val (.ref b), .val (.int (Int32.ofNat q0)), .val (.int (Int32.ofNat e8)), .val (.int (Int32.ofNat q)), .val (.int (Int32.ofNat (own_f xs (q)))), .val (.int (3 : Int32)), .val (.int s144_0), .val (.int s162_0), .val (.int (Int32.ofNat (own_f xs (q + 1)))), .val (.int (Int32.ofNat (q + 2)))] [(.int (192 : Int32)), (.int (xs.getD (q + 2) 0))]))
                              refine go (fun _ kont => XS.iand X'.here hx rfl (hb hby d_prog_37_method_2_238) rfl kont) ?_
                              show G (T'.setTop (mkF m 239 #[.val (.ref b), .val (.int (Int32.ofNat q0)), .val (.int (Int32.ofNat e8)), .val (.int (Int32.ofNat q)), .val (.int (Int32.ofNat (own_f xs (q)))), .val (.int (3 : Int32)), .val (.int s144_0), .val (.int s162_0), .val (.int (Int32.ofNat (own_f xs (q + 1)))), .val (.int (Int32.ofNat (q + 2)))] [(.int ((xs.getD (q + 2) 0) &&& (192 : Int32)))]))
                              rw [own_c192 (xs.getD (q + 2) 0)]
                              show G (T'.setTop (mkF m 239 #[.val (.ref b), .val (.int (Int32.ofNat q0)), .val (.int (Int32.ofNat e8)), .val (.int (Int32.ofNat q)), .val (.int (Int32.ofNat (own_f xs (q)))), .val (.int (3 : Int32)), .val (.int s144_0), .val (.int s162_0), .val (.int (Int32.ofNat (own_f xs (q + 1)))), .val (.int (Int32.ofNat (q + 2)))] [(.int ((Int32.ofNat (own_f xs (q + 2))) &&& (192 : Int32)))]))
                              refine go (fun _ kont => XS.sipush X'.here hx rfl (hb hby d_prog_37_method_2_239) kont) ?_
                              show G (T'.setTop (mkF m 242 #[.val (.ref b), .val (.int (Int32.ofNat q0)), .val (.int (Int32.ofNat e8)), .val (.int (Int32.ofNat q)), .val (.int (Int32.ofNat (own_f xs (q)))), .val (.int (3 : Int32)), .val (.int s144_0), .val (.int s162_0), .val (.int (Int32.ofNat (own_f xs (q + 1)))), .val (.int (Int32.ofNat (q + 2)))] [(.int (128 : Int32)), (.int ((Int32.ofNat (own_f xs (q + 2))) &&& (192 : Int32)))]))
                              by_cases hc242 : ((Int32.ofNat (own_f xs (q + 2))) &&& (192 : Int32)) = (128 : Int32)
                              · refine go (fun _ kont => XS.icmpYes X'.here hx rfl (pc0 := 242) (pc' := 247) rfl (hb hby d_prog_37_method_2_242) rfl (teq hc242).1 (by decide) (by decide) kont) ?_
                                show G (T'.setTop (mkF m 247 #[.val (.ref b), .val (.int (Int32.ofNat q0)), .val (.int (Int32.ofNat e8)), .val (.int (Int32.ofNat q)), .val (.int (Int32.ofNat (own_f xs (q)))), .val (.int (3 : Int32)), .val (.int s144_0), .val (.int s162_0), .val (.int (Int32.ofNat (own_f xs (q + 1)))), .val (.int (Int32.ofNat (q + 2)))] []))
                                rw [show _ ↔ _ from own_m192' _ hb2] at hc242
                                refine go (fun _ kont => XS.iinc X'.here hx rfl (hb hby d_prog_37_method_2_247) rfl (l' := #[.val (.ref b), .val (.int (Int32.ofNat q0)), .val (.int (Int32.ofNat e8)), .val (.int (Int32.ofNat q)), .val (.int (Int32.ofNat (own_f xs (q)))), .val (.int (3 : Int32)), .val (.int s144_0), .val (.int s162_0), .val (.int (Int32.ofNat (own_f xs (q + 1)))), .val (.int ((Int32.ofNat (q + 2)) + (1 : Int32)))]) rfl kont) ?_
                                show G (T'.setTop (mkF m 250 #[.val (.ref b), .val (.int (Int32.ofNat q0)), .val (.int (Int32.ofNat e8)), .val (.int (Int32.ofNat q)), .val (.int (Int32.ofNat (own_f xs (q)))), .val (.int (3 : Int32)), .val (.int s144_0), .val (.int s162_0), .val (.int (Int32.ofNat (own_f xs (q + 1)))), .val (.int ((Int32.ofNat (q + 2)) + (1 : Int32)))] []))
                                rw [show Int32.ofNat (q + 2) + (1 : Int32) = Int32.ofNat (q + 3) from own_addk (q + 2) 1]
                                show G (T'.setTop (mkF m 250 #[.val (.ref b), .val (.int (Int32.ofNat q0)), .val (.int (Int32.ofNat e8)), .val (.int (Int32.ofNat q)), .val (.int (Int32.ofNat (own_f xs (q)))), .val (.int (3 : Int32)), .val (.int s144_0), .val (.int s162_0), .val (.int (Int32.ofNat (own_f xs (q + 1)))), .val (.int (Int32.ofNat (q + 3)))] []))
                                refine go (fun _ kont => XS.goto X'.here hx rfl (pc0 := 250) (pc' := 222) rfl (hb hby d_prog_37_method_2_250) (by decide) (by decide) kont) ?_
                                show G (T'.setTop (mkF m 222 #[.val (.ref b), .val (.int (Int32.ofNat q0)), .val (.int (Int32.ofNat e8)), .val (.int (Int32.ofNat q)), .val (.int (Int32.ofNat (own_f xs (q)))), .val (.int (3 : Int32)), .val (.int s144_0), .val (.int s162_0), .val (.int (Int32.ofNat (own_f xs (q + 1)))), .val (.int (Int32.ofNat (q + 3)))] []))
                                refine go (fun _ kont => XS.iload X'.here hx rfl (hb hby d_prog_37_method_2_222) rfl  kont) ?_
                                show G (T'.setTop (mkF m 224 #[.val (.ref b), .val (.int (Int32.ofNat q0)), .val (.int (Int32.ofNat e8)), .val (.int (Int32.ofNat q)), .val (.int (Int32.ofNat (own_f xs (q)))), .val (.int (3 : Int32)), .val (.int s144_0), .val (.int s162_0), .val (.int (Int32.ofNat (own_f xs (q + 1)))), .val (.int (Int32.ofNat (q + 3)))] [(.int (Int32.ofNat (q + 3)))]))
                                refine go (fun _ kont => XS.iloadN X'.here hx rfl (hb hby d_prog_37_method_2_224) rfl  kont) ?_
                                show G (T'.setTop (mkF m 225 #[.val (.ref b), .val (.int (Int32.ofNat q0)), .val (.int (Int32.ofNat e8)), .val (.int (Int32.ofNat q)), .val (.int (Int32.ofNat (own_f xs (q)))), .val (.int (3 : Int32)), .val (.int s144_0), .val (.int s162_0), .val (.int (Int32.ofNat (own_f xs (q + 1)))), .val (.int (Int32.ofNat (q + 3)))] [(.int (Int32.ofNat q)), (.int (Int32.ofNat (q + 3)))]))
                                refine go (fun _ kont => XS.iload X'.here hx rfl (hb hby d_prog_37_method_2_225) rfl  kont) ?_
                                show G (T'.setTop (mkF m 227 #[.val (.ref b), .val (.int (Int32.ofNat q0)), .val (.int (Int32.ofNat e8)), .val (.int (Int32.ofNat q)), .val (.int (Int32.ofNat (own_f xs (q)))), .val (.int (3 : Int32)), .val (.int s144_0), .val (.int s162_0), .val (.int (Int32.ofNat (own_f xs (q + 1)))), .val (.int (Int32.ofNat (q + 3)))] [(.int (3 : Int32)), (.int (Int32.ofNat q)), (.int (Int32.ofNat (q + 3)))]))
                                refine go (fun _ kont => XS.iadd X'.here hx rfl (hb hby d_prog_37_method_2_227) rfl kont) ?_
                                show G (T'.setTop (mkF m 228 #[.val (.ref b), .val (.int (Int32.ofNat q0)), .val (.int (Int32.ofNat e8)), .val (.int (Int32.ofNat q)), .val (.int (Int32.ofNat (own_f xs (q)))), .val (.int (3 : Int32)), .val (.int s144_0), .val (.int s162_0), .val (.int (Int32.ofNat (own_f xs (q + 1)))), .val (.int (Int32.ofNat (q + 3)))] [(.int ((Int32.ofNat q) + (3 : Int32))), (.int (Int32.ofNat (q + 3)))]))
                                rw [show Int32.ofNat q + (3 : Int32) = Int32.ofNat (q + 3) from own_addk q 3]
                                show G (T'.setTop (mkF m 228 #[.val (.ref b), .val (.int (Int32.ofNat q0)), .val (.int (Int32.ofNat e8)), .val (.int (Int32.ofNat q)), .val (.int (Int32.ofNat (own_f xs (q)))), .val (.int (3 : Int32)), .val (.int s144_0), .val (.int s162_0), .val (.int (Int32.ofNat (own_f xs (q + 1)))), .val (.int (Int32.ofNat (q + 3)))] [(.int (Int32.ofNat (q + 3))), (.int (Int32.ofNat (q + 3)))]))
                                refine go (fun _ kont => XS.icmpNo X'.here hx rfl (hb hby d_prog_37_method_2_228) rfl (flt (fun z => absurd ((own_ltO (d := q + 3) (k := q + 3) (by omega) (by omega)).mp z) (by omega))).2.2.1 kont) ?_
                                show G (T'.setTop (mkF m 231 #[.val (.ref b), .val (.int (Int32.ofNat q0)), .val (.int (Int32.ofNat e8)), .val (.int (Int32.ofNat q)), .val (.int (Int32.ofNat (own_f xs (q)))), .val (.int (3 : Int32)), .val (.int s144_0), .val (.int s162_0), .val (.int (Int32.ofNat (own_f xs (q + 1)))), .val (.int (Int32.ofNat (q + 3)))] []))
                                refine go (fun _ kont => XS.aloadN X'.here hx rfl (hb hby d_prog_37_method_2_231) rfl rfl kont) ?_
                                show G (T'.setTop (mkF m 232 #[.val (.ref b), .val (.int (Int32.ofNat q0)), .val (.int (Int32.ofNat e8)), .val (.int (Int32.ofNat q)), .val (.int (Int32.ofNat (own_f xs (q)))), .val (.int (3 : Int32)), .val (.int s144_0), .val (.int s162_0), .val (.int (Int32.ofNat (own_f xs (q + 1)))), .val (.int (Int32.ofNat (q + 3)))] [(.ref b)]))
                                refine go (fun _ kont => XS.iload X'.here hx rfl (hb hby d_prog_37_method_2_232) rfl  kont) ?_
                                show G (T'.setTop (mkF m 234 #[.val (.ref b), .val (.int (Int32.ofNat q0)), .val (.int (Int32.ofNat e8)), .val (.int (Int32.ofNat q)), .val (.int (Int32.ofNat (own_f xs (q)))), .val (.int (3 : Int32)), .val (.int s144_0), .val (.int s162_0), .val (.int (Int32.ofNat (own_f xs (q + 1)))), .val (.int (Int32.ofNat (q + 3)))] [(.int (Int32.ofNat (q + 3))), (.ref b)]))
                                refine go (fun _ kont => X'.baloadBytes hx (j := (Int32.ofNat (q + 3))) (v := (.int (xs.getD (q + 3) 0))) (by rw [e']; exact Ar.1) (State.isArrayOf_alike hZ.alike Ar.2.1) Ar.2.2 (own_hink Sl (own_neg (by rw [own_ofN (by omega)]; omega)) (own_tnO (by omega)) (k := q + 3) (by rw [List.length_map]; omega)) (own_hatk Sl (own_tnO (by omega)) (own_atI (k := q + 3) (by omega))) (g := (mkF m 234 #[.val (.ref b), .val (.int (Int32.ofNat q0)), .val (.int (Int32.ofNat e8)), .val (.int (Int32.ofNat q)), .val (.int (Int32.ofNat (own_f xs (q)))), .val (.int (3 : Int32)), .val (.int s144_0), .val (.int s162_0), .val (.int (Int32.ofNat (own_f xs (q + 1)))), .val (.int (Int32.ofNat (q + 3)))] [(.int (Int32.ofNat (q + 3))), (.ref b)])) rfl rfl (hb hby d_prog_37_method_2_234) _ kont) ?_
                                show G (T'.setTop (mkF m 235 #[.val (.ref b), .val (.int (Int32.ofNat q0)), .val (.int (Int32.ofNat e8)), .val (.int (Int32.ofNat q)), .val (.int (Int32.ofNat (own_f xs (q)))), .val (.int (3 : Int32)), .val (.int s144_0), .val (.int s162_0), .val (.int (Int32.ofNat (own_f xs (q + 1)))), .val (.int (Int32.ofNat (q + 3)))] [(.int (xs.getD (q + 3) 0))]))
                                refine go (fun _ kont => XS.sipush X'.here hx rfl (hb hby d_prog_37_method_2_235) kont) ?_
                                show G (T'.setTop (mkF m 238 #[.val (.ref b), .val (.int (Int32.ofNat q0)), .val (.int (Int32.ofNat e8)), .val (.int (Int32.ofNat q)), .val (.int (Int32.ofNat (own_f xs (q)))), .val (.int (3 : Int32)), .val (.int s144_0), .val (.int s162_0), .val (.int (Int32.ofNat (own_f xs (q + 1)))), .val (.int (Int32.ofNat (q + 3)))] [(.int (192 : Int32)), (.int (xs.getD (q + 3) 0))]))
                                refine go (fun _ kont => XS.iand X'.here hx rfl (hb hby d_prog_37_method_2_238) rfl kont) ?_
                                show G (T'.setTop (mkF m 239 #[.val (.ref b), .val (.int (Int32.ofNat q0)), .val (.int (Int32.ofNat e8)), .val (.int (Int32.ofNat q)), .val (.int (Int32.ofNat (own_f xs (q)))), .val (.int (3 : Int32)), .val (.int s144_0), .val (.int s162_0), .val (.int (Int32.ofNat (own_f xs (q + 1)))), .val (.int (Int32.ofNat (q + 3)))] [(.int ((xs.getD (q + 3) 0) &&& (192 : Int32)))]))
                                rw [own_c192 (xs.getD (q + 3) 0)]
                                show G (T'.setTop (mkF m 239 #[.val (.ref b), .val (.int (Int32.ofNat q0)), .val (.int (Int32.ofNat e8)), .val (.int (Int32.ofNat q)), .val (.int (Int32.ofNat (own_f xs (q)))), .val (.int (3 : Int32)), .val (.int s144_0), .val (.int s162_0), .val (.int (Int32.ofNat (own_f xs (q + 1)))), .val (.int (Int32.ofNat (q + 3)))] [(.int ((Int32.ofNat (own_f xs (q + 3))) &&& (192 : Int32)))]))
                                refine go (fun _ kont => XS.sipush X'.here hx rfl (hb hby d_prog_37_method_2_239) kont) ?_
                                show G (T'.setTop (mkF m 242 #[.val (.ref b), .val (.int (Int32.ofNat q0)), .val (.int (Int32.ofNat e8)), .val (.int (Int32.ofNat q)), .val (.int (Int32.ofNat (own_f xs (q)))), .val (.int (3 : Int32)), .val (.int s144_0), .val (.int s162_0), .val (.int (Int32.ofNat (own_f xs (q + 1)))), .val (.int (Int32.ofNat (q + 3)))] [(.int (128 : Int32)), (.int ((Int32.ofNat (own_f xs (q + 3))) &&& (192 : Int32)))]))
                                by_cases hc242_3 : ((Int32.ofNat (own_f xs (q + 3))) &&& (192 : Int32)) = (128 : Int32)
                                · refine go (fun _ kont => XS.icmpYes X'.here hx rfl (pc0 := 242) (pc' := 247) rfl (hb hby d_prog_37_method_2_242) rfl (teq hc242_3).1 (by decide) (by decide) kont) ?_
                                  show G (T'.setTop (mkF m 247 #[.val (.ref b), .val (.int (Int32.ofNat q0)), .val (.int (Int32.ofNat e8)), .val (.int (Int32.ofNat q)), .val (.int (Int32.ofNat (own_f xs (q)))), .val (.int (3 : Int32)), .val (.int s144_0), .val (.int s162_0), .val (.int (Int32.ofNat (own_f xs (q + 1)))), .val (.int (Int32.ofNat (q + 3)))] []))
                                  rw [show _ ↔ _ from own_m192' _ hb3] at hc242_3
                                  refine go (fun _ kont => XS.iinc X'.here hx rfl (hb hby d_prog_37_method_2_247) rfl (l' := #[.val (.ref b), .val (.int (Int32.ofNat q0)), .val (.int (Int32.ofNat e8)), .val (.int (Int32.ofNat q)), .val (.int (Int32.ofNat (own_f xs (q)))), .val (.int (3 : Int32)), .val (.int s144_0), .val (.int s162_0), .val (.int (Int32.ofNat (own_f xs (q + 1)))), .val (.int ((Int32.ofNat (q + 3)) + (1 : Int32)))]) rfl kont) ?_
                                  show G (T'.setTop (mkF m 250 #[.val (.ref b), .val (.int (Int32.ofNat q0)), .val (.int (Int32.ofNat e8)), .val (.int (Int32.ofNat q)), .val (.int (Int32.ofNat (own_f xs (q)))), .val (.int (3 : Int32)), .val (.int s144_0), .val (.int s162_0), .val (.int (Int32.ofNat (own_f xs (q + 1)))), .val (.int ((Int32.ofNat (q + 3)) + (1 : Int32)))] []))
                                  rw [show Int32.ofNat (q + 3) + (1 : Int32) = Int32.ofNat (q + 4) from own_addk (q + 3) 1]
                                  show G (T'.setTop (mkF m 250 #[.val (.ref b), .val (.int (Int32.ofNat q0)), .val (.int (Int32.ofNat e8)), .val (.int (Int32.ofNat q)), .val (.int (Int32.ofNat (own_f xs (q)))), .val (.int (3 : Int32)), .val (.int s144_0), .val (.int s162_0), .val (.int (Int32.ofNat (own_f xs (q + 1)))), .val (.int (Int32.ofNat (q + 4)))] []))
                                  refine go (fun _ kont => XS.goto X'.here hx rfl (pc0 := 250) (pc' := 222) rfl (hb hby d_prog_37_method_2_250) (by decide) (by decide) kont) ?_
                                  show G (T'.setTop (mkF m 222 #[.val (.ref b), .val (.int (Int32.ofNat q0)), .val (.int (Int32.ofNat e8)), .val (.int (Int32.ofNat q)), .val (.int (Int32.ofNat (own_f xs (q)))), .val (.int (3 : Int32)), .val (.int s144_0), .val (.int s162_0), .val (.int (Int32.ofNat (own_f xs (q + 1)))), .val (.int (Int32.ofNat (q + 4)))] []))
                                  refine go (fun _ kont => XS.iload X'.here hx rfl (hb hby d_prog_37_method_2_222) rfl  kont) ?_
                                  show G (T'.setTop (mkF m 224 #[.val (.ref b), .val (.int (Int32.ofNat q0)), .val (.int (Int32.ofNat e8)), .val (.int (Int32.ofNat q)), .val (.int (Int32.ofNat (own_f xs (q)))), .val (.int (3 : Int32)), .val (.int s144_0), .val (.int s162_0), .val (.int (Int32.ofNat (own_f xs (q + 1)))), .val (.int (Int32.ofNat (q + 4)))] [(.int (Int32.ofNat (q + 4)))]))
                                  refine go (fun _ kont => XS.iloadN X'.here hx rfl (hb hby d_prog_37_method_2_224) rfl  kont) ?_
                                  show G (T'.setTop (mkF m 225 #[.val (.ref b), .val (.int (Int32.ofNat q0)), .val (.int (Int32.ofNat e8)), .val (.int (Int32.ofNat q)), .val (.int (Int32.ofNat (own_f xs (q)))), .val (.int (3 : Int32)), .val (.int s144_0), .val (.int s162_0), .val (.int (Int32.ofNat (own_f xs (q + 1)))), .val (.int (Int32.ofNat (q + 4)))] [(.int (Int32.ofNat q)), (.int (Int32.ofNat (q + 4)))]))
                                  refine go (fun _ kont => XS.iload X'.here hx rfl (hb hby d_prog_37_method_2_225) rfl  kont) ?_
                                  show G (T'.setTop (mkF m 227 #[.val (.ref b), .val (.int (Int32.ofNat q0)), .val (.int (Int32.ofNat e8)), .val (.int (Int32.ofNat q)), .val (.int (Int32.ofNat (own_f xs (q)))), .val (.int (3 : Int32)), .val (.int s144_0), .val (.int s162_0), .val (.int (Int32.ofNat (own_f xs (q + 1)))), .val (.int (Int32.ofNat (q + 4)))] [(.int (3 : Int32)), (.int (Int32.ofNat q)), (.int (Int32.ofNat (q + 4)))]))
                                  refine go (fun _ kont => XS.iadd X'.here hx rfl (hb hby d_prog_37_method_2_227) rfl kont) ?_
                                  show G (T'.setTop (mkF m 228 #[.val (.ref b), .val (.int (Int32.ofNat q0)), .val (.int (Int32.ofNat e8)), .val (.int (Int32.ofNat q)), .val (.int (Int32.ofNat (own_f xs (q)))), .val (.int (3 : Int32)), .val (.int s144_0), .val (.int s162_0), .val (.int (Int32.ofNat (own_f xs (q + 1)))), .val (.int (Int32.ofNat (q + 4)))] [(.int ((Int32.ofNat q) + (3 : Int32))), (.int (Int32.ofNat (q + 4)))]))
                                  rw [show Int32.ofNat q + (3 : Int32) = Int32.ofNat (q + 3) from own_addk q 3]
                                  show G (T'.setTop (mkF m 228 #[.val (.ref b), .val (.int (Int32.ofNat q0)), .val (.int (Int32.ofNat e8)), .val (.int (Int32.ofNat q)), .val (.int (Int32.ofNat (own_f xs (q)))), .val (.int (3 : Int32)), .val (.int s144_0), .val (.int s162_0), .val (.int (Int32.ofNat (own_f xs (q + 1)))), .val (.int (Int32.ofNat (q + 4)))] [(.int (Int32.ofNat (q + 3))), (.int (Int32.ofNat (q + 4)))]))
                                  refine go (fun _ kont => XS.icmpYes X'.here hx rfl (pc0 := 228) (pc' := 253) rfl (hb hby d_prog_37_method_2_228) rfl (tlt ((own_ltO (d := q + 3) (k := q + 4) (by omega) (by omega)).mpr (by omega))).2.2.1 (by decide) (by decide) kont) ?_
                                  show G (T'.setTop (mkF m 253 #[.val (.ref b), .val (.int (Int32.ofNat q0)), .val (.int (Int32.ofNat e8)), .val (.int (Int32.ofNat q)), .val (.int (Int32.ofNat (own_f xs (q)))), .val (.int (3 : Int32)), .val (.int s144_0), .val (.int s162_0), .val (.int (Int32.ofNat (own_f xs (q + 1)))), .val (.int (Int32.ofNat (q + 4)))] []))
                                  refine go (fun _ kont => XS.iloadN X'.here hx rfl (hb hby d_prog_37_method_2_253) rfl  kont) ?_
                                  show G (T'.setTop (mkF m 254 #[.val (.ref b), .val (.int (Int32.ofNat q0)), .val (.int (Int32.ofNat e8)), .val (.int (Int32.ofNat q)), .val (.int (Int32.ofNat (own_f xs (q)))), .val (.int (3 : Int32)), .val (.int s144_0), .val (.int s162_0), .val (.int (Int32.ofNat (own_f xs (q + 1)))), .val (.int (Int32.ofNat (q + 4)))] [(.int (Int32.ofNat q))]))
                                  refine go (fun _ kont => XS.iload X'.here hx rfl (hb hby d_prog_37_method_2_254) rfl  kont) ?_
                                  show G (T'.setTop (mkF m 256 #[.val (.ref b), .val (.int (Int32.ofNat q0)), .val (.int (Int32.ofNat e8)), .val (.int (Int32.ofNat q)), .val (.int (Int32.ofNat (own_f xs (q)))), .val (.int (3 : Int32)), .val (.int s144_0), .val (.int s162_0), .val (.int (Int32.ofNat (own_f xs (q + 1)))), .val (.int (Int32.ofNat (q + 4)))] [(.int (3 : Int32)), (.int (Int32.ofNat q))]))
                                  refine go (fun _ kont => XS.iconst X'.here hx rfl (hb hby d_prog_37_method_2_256) kont) ?_
                                  show G (T'.setTop (mkF m 257 #[.val (.ref b), .val (.int (Int32.ofNat q0)), .val (.int (Int32.ofNat e8)), .val (.int (Int32.ofNat q)), .val (.int (Int32.ofNat (own_f xs (q)))), .val (.int (3 : Int32)), .val (.int s144_0), .val (.int s162_0), .val (.int (Int32.ofNat (own_f xs (q + 1)))), .val (.int (Int32.ofNat (q + 4)))] [(.int (1 : Int32)), (.int (3 : Int32)), (.int (Int32.ofNat q))]))
                                  refine go (fun _ kont => XS.iadd X'.here hx rfl (hb hby d_prog_37_method_2_257) rfl kont) ?_
                                  show G (T'.setTop (mkF m 258 #[.val (.ref b), .val (.int (Int32.ofNat q0)), .val (.int (Int32.ofNat e8)), .val (.int (Int32.ofNat q)), .val (.int (Int32.ofNat (own_f xs (q)))), .val (.int (3 : Int32)), .val (.int s144_0), .val (.int s162_0), .val (.int (Int32.ofNat (own_f xs (q + 1)))), .val (.int (Int32.ofNat (q + 4)))] [(.int ((3 : Int32) + (1 : Int32))), (.int (Int32.ofNat q))]))
                                  refine go (fun _ kont => XS.iadd X'.here hx rfl (hb hby d_prog_37_method_2_258) rfl kont) ?_
                                  show G (T'.setTop (mkF m 259 #[.val (.ref b), .val (.int (Int32.ofNat q0)), .val (.int (Int32.ofNat e8)), .val (.int (Int32.ofNat q)), .val (.int (Int32.ofNat (own_f xs (q)))), .val (.int (3 : Int32)), .val (.int s144_0), .val (.int s162_0), .val (.int (Int32.ofNat (own_f xs (q + 1)))), .val (.int (Int32.ofNat (q + 4)))] [(.int ((Int32.ofNat q) + ((3 : Int32) + (1 : Int32))))]))
                                  refine go (fun _ kont => XS.istoreN X'.here hx rfl (hb hby d_prog_37_method_2_259) rfl (l' := #[.val (.ref b), .val (.int (Int32.ofNat q0)), .val (.int (Int32.ofNat e8)), .val (.int ((Int32.ofNat q) + ((3 : Int32) + (1 : Int32)))), .val (.int (Int32.ofNat (own_f xs (q)))), .val (.int (3 : Int32)), .val (.int s144_0), .val (.int s162_0), .val (.int (Int32.ofNat (own_f xs (q + 1)))), .val (.int (Int32.ofNat (q + 4)))]) rfl kont) ?_
                                  show G (T'.setTop (mkF m 260 #[.val (.ref b), .val (.int (Int32.ofNat q0)), .val (.int (Int32.ofNat e8)), .val (.int ((Int32.ofNat q) + ((3 : Int32) + (1 : Int32)))), .val (.int (Int32.ofNat (own_f xs (q)))), .val (.int (3 : Int32)), .val (.int s144_0), .val (.int s162_0), .val (.int (Int32.ofNat (own_f xs (q + 1)))), .val (.int (Int32.ofNat (q + 4)))] []))
                                  refine go (fun _ kont => XS.goto X'.here hx rfl (pc0 := 260) (pc' := 2) rfl (hb hby d_prog_37_method_2_260) (by decide) (by decide) kont) ?_
                                  show G (T'.setTop (mkF m 2 #[.val (.ref b), .val (.int (Int32.ofNat q0)), .val (.int (Int32.ofNat e8)), .val (.int ((Int32.ofNat q) + ((3 : Int32) + (1 : Int32)))), .val (.int (Int32.ofNat (own_f xs (q)))), .val (.int (3 : Int32)), .val (.int s144_0), .val (.int s162_0), .val (.int (Int32.ofNat (own_f xs (q + 1)))), .val (.int (Int32.ofNat (q + 4)))] []))
                                  rw [show Int32.ofNat q + ((3 : Int32) + (1 : Int32)) = Int32.ofNat (q + 4) from own_addk q 4]
                                  exact ih (q + 4) (by omega) (by omega) (hT.trans (own_T_step (N := 4) (by omega) he8 (by unfold own_N own_n; (repeat' split) <;> omega) (by decide))) _ _ _ _ _ _ (One.val rfl) (One.val rfl) (One.val rfl) (One.val rfl) (One.val rfl) (One.val rfl) _ X' e'
                                · refine go (fun _ kont => XS.icmpNo X'.here hx rfl (hb hby d_prog_37_method_2_242) rfl (feq hc242_3).1 kont) ?_
                                  show G (T'.setTop (mkF m 245 #[.val (.ref b), .val (.int (Int32.ofNat q0)), .val (.int (Int32.ofNat e8)), .val (.int (Int32.ofNat q)), .val (.int (Int32.ofNat (own_f xs (q)))), .val (.int (3 : Int32)), .val (.int s144_0), .val (.int s162_0), .val (.int (Int32.ofNat (own_f xs (q + 1)))), .val (.int (Int32.ofNat (q + 3)))] []))
                                  rw [show _ ↔ _ from own_m192' _ hb3] at hc242_3
                                  refine go (fun _ kont => XS.iconst X'.here hx rfl (hb hby d_prog_37_method_2_245) kont) ?_
                                  show G (T'.setTop (mkF m 246 #[.val (.ref b), .val (.int (Int32.ofNat q0)), .val (.int (Int32.ofNat e8)), .val (.int (Int32.ofNat q)), .val (.int (Int32.ofNat (own_f xs (q)))), .val (.int (3 : Int32)), .val (.int s144_0), .val (.int s162_0), .val (.int (Int32.ofNat (own_f xs (q + 1)))), .val (.int (Int32.ofNat (q + 3)))] [(.int (0 : Int32))]))
                                  rw [hG]
                                  exact own_retN X' hx (t := .boolean) Bd.returns (by simp) (hb hby d_prog_37_method_2_246) hlk (by decide) (by decide) ⟨by rw [hT, own_T_bad (by omega) (by unfold own_N own_n; (repeat' split) <;> omega)]; rfl, N0, e'⟩
                              · refine go (fun _ kont => XS.icmpNo X'.here hx rfl (hb hby d_prog_37_method_2_242) rfl (feq hc242).1 kont) ?_
                                show G (T'.setTop (mkF m 245 #[.val (.ref b), .val (.int (Int32.ofNat q0)), .val (.int (Int32.ofNat e8)), .val (.int (Int32.ofNat q)), .val (.int (Int32.ofNat (own_f xs (q)))), .val (.int (3 : Int32)), .val (.int s144_0), .val (.int s162_0), .val (.int (Int32.ofNat (own_f xs (q + 1)))), .val (.int (Int32.ofNat (q + 2)))] []))
                                rw [show _ ↔ _ from own_m192' _ hb2] at hc242
                                refine go (fun _ kont => XS.iconst X'.here hx rfl (hb hby d_prog_37_method_2_245) kont) ?_
                                show G (T'.setTop (mkF m 246 #[.val (.ref b), .val (.int (Int32.ofNat q0)), .val (.int (Int32.ofNat e8)), .val (.int (Int32.ofNat q)), .val (.int (Int32.ofNat (own_f xs (q)))), .val (.int (3 : Int32)), .val (.int s144_0), .val (.int s162_0), .val (.int (Int32.ofNat (own_f xs (q + 1)))), .val (.int (Int32.ofNat (q + 2)))] [(.int (0 : Int32))]))
                                rw [hG]
                                exact own_retN X' hx (t := .boolean) Bd.returns (by simp) (hb hby d_prog_37_method_2_246) hlk (by decide) (by decide) ⟨by rw [hT, own_T_bad (by omega) (by unfold own_N own_n; (repeat' split) <;> omega)]; rfl, N0, e'⟩
                        · refine go (fun _ kont => XS.icmpNo X'.here hx rfl (hb hby d_prog_37_method_2_185) rfl (flt hc185).2.2.1 kont) ?_
                          show G (T'.setTop (mkF m 188 #[.val (.ref b), .val (.int (Int32.ofNat q0)), .val (.int (Int32.ofNat e8)), .val (.int (Int32.ofNat q)), .val (.int (Int32.ofNat (own_f xs (q)))), .val (.int (3 : Int32)), .val (.int s144_0), .val (.int s162_0), s8, s9] []))
                          rw [show (3 : Int32) < Int32.ofNat (e8 - q) ↔ 3 < e8 - q from own_ltO (d := 3) (k := e8 - q) (by omega) (by omega)] at hc185
                          refine go (fun _ kont => XS.iconst X'.here hx rfl (hb hby d_prog_37_method_2_188) kont) ?_
                          show G (T'.setTop (mkF m 189 #[.val (.ref b), .val (.int (Int32.ofNat q0)), .val (.int (Int32.ofNat e8)), .val (.int (Int32.ofNat q)), .val (.int (Int32.ofNat (own_f xs (q)))), .val (.int (3 : Int32)), .val (.int s144_0), .val (.int s162_0), s8, s9] [(.int (0 : Int32))]))
                          rw [hG]
                          exact own_retN X' hx (t := .boolean) Bd.returns (by simp) (hb hby d_prog_37_method_2_189) hlk (by decide) (by decide) ⟨by rw [hT, own_T_bad (by omega) (by unfold own_N own_n; (repeat' split) <;> omega)]; rfl, N0, e'⟩
                      by_cases hc162 : (Int32.ofNat (own_f xs (q))) = (244 : Int32)
                      · refine go (fun _ kont => XS.icmpNo X'.here hx rfl (hb hby d_prog_37_method_2_162) rfl (teq hc162).2 kont) ?_
                        show G (T'.setTop (mkF m 165 #[.val (.ref b), .val (.int (Int32.ofNat q0)), .val (.int (Int32.ofNat e8)), .val (.int (Int32.ofNat q)), .val (.int (Int32.ofNat (own_f xs (q)))), .val (.int (3 : Int32)), .val (.int s144_0), .val (.int (191 : Int32)), s8, s9] []))
                        refine go (fun _ kont => XS.sipush X'.here hx rfl (hb hby d_prog_37_method_2_165) kont) ?_
                        show G (T'.setTop (mkF m 168 #[.val (.ref b), .val (.int (Int32.ofNat q0)), .val (.int (Int32.ofNat e8)), .val (.int (Int32.ofNat q)), .val (.int (Int32.ofNat (own_f xs (q)))), .val (.int (3 : Int32)), .val (.int s144_0), .val (.int (191 : Int32)), s8, s9] [(.int (143 : Int32))]))
                        refine go (fun _ kont => XS.goto X'.here hx rfl (pc0 := 168) (pc' := 173) rfl (hb hby d_prog_37_method_2_168) (by decide) (by decide) kont) ?_
                        show G (T'.setTop (mkF m 173 #[.val (.ref b), .val (.int (Int32.ofNat q0)), .val (.int (Int32.ofNat e8)), .val (.int (Int32.ofNat q)), .val (.int (Int32.ofNat (own_f xs (q)))), .val (.int (3 : Int32)), .val (.int s144_0), .val (.int (191 : Int32)), s8, s9] [(.int (143 : Int32))]))
                        exact j4 _ (by first | exact (if_pos hc162).symm | (rw [if_pos hc162]; assumption))
                      · refine go (fun _ kont => XS.icmpYes X'.here hx rfl (pc0 := 162) (pc' := 171) rfl (hb hby d_prog_37_method_2_162) rfl (feq hc162).2 (by decide) (by decide) kont) ?_
                        show G (T'.setTop (mkF m 171 #[.val (.ref b), .val (.int (Int32.ofNat q0)), .val (.int (Int32.ofNat e8)), .val (.int (Int32.ofNat q)), .val (.int (Int32.ofNat (own_f xs (q)))), .val (.int (3 : Int32)), .val (.int s144_0), .val (.int (191 : Int32)), s8, s9] []))
                        refine go (fun _ kont => XS.iload X'.here hx rfl (hb hby d_prog_37_method_2_171) rfl  kont) ?_
                        show G (T'.setTop (mkF m 173 #[.val (.ref b), .val (.int (Int32.ofNat q0)), .val (.int (Int32.ofNat e8)), .val (.int (Int32.ofNat q)), .val (.int (Int32.ofNat (own_f xs (q)))), .val (.int (3 : Int32)), .val (.int s144_0), .val (.int (191 : Int32)), s8, s9] [(.int (191 : Int32))]))
                        exact j4 _ (by first | exact (if_neg hc162).symm | (rw [if_neg hc162]; assumption))
                    by_cases hc144 : (Int32.ofNat (own_f xs (q))) = (240 : Int32)
                    · refine go (fun _ kont => XS.icmpNo X'.here hx rfl (hb hby d_prog_37_method_2_144) rfl (teq hc144).2 kont) ?_
                      show G (T'.setTop (mkF m 147 #[.val (.ref b), .val (.int (Int32.ofNat q0)), .val (.int (Int32.ofNat e8)), .val (.int (Int32.ofNat q)), .val (.int (Int32.ofNat (own_f xs (q)))), .val (.int (3 : Int32)), .val (.int (128 : Int32)), .val (.int (191 : Int32)), s8, s9] []))
                      refine go (fun _ kont => XS.sipush X'.here hx rfl (hb hby d_prog_37_method_2_147) kont) ?_
                      show G (T'.setTop (mkF m 150 #[.val (.ref b), .val (.int (Int32.ofNat q0)), .val (.int (Int32.ofNat e8)), .val (.int (Int32.ofNat q)), .val (.int (Int32.ofNat (own_f xs (q)))), .val (.int (3 : Int32)), .val (.int (128 : Int32)), .val (.int (191 : Int32)), s8, s9] [(.int (144 : Int32))]))
                      refine go (fun _ kont => XS.goto X'.here hx rfl (pc0 := 150) (pc' := 155) rfl (hb hby d_prog_37_method_2_150) (by decide) (by decide) kont) ?_
                      show G (T'.setTop (mkF m 155 #[.val (.ref b), .val (.int (Int32.ofNat q0)), .val (.int (Int32.ofNat e8)), .val (.int (Int32.ofNat q)), .val (.int (Int32.ofNat (own_f xs (q)))), .val (.int (3 : Int32)), .val (.int (128 : Int32)), .val (.int (191 : Int32)), s8, s9] [(.int (144 : Int32))]))
                      exact j3 _ (by first | exact (if_pos hc144).symm | (rw [if_pos hc144]; assumption))
                    · refine go (fun _ kont => XS.icmpYes X'.here hx rfl (pc0 := 144) (pc' := 153) rfl (hb hby d_prog_37_method_2_144) rfl (feq hc144).2 (by decide) (by decide) kont) ?_
                      show G (T'.setTop (mkF m 153 #[.val (.ref b), .val (.int (Int32.ofNat q0)), .val (.int (Int32.ofNat e8)), .val (.int (Int32.ofNat q)), .val (.int (Int32.ofNat (own_f xs (q)))), .val (.int (3 : Int32)), .val (.int (128 : Int32)), .val (.int (191 : Int32)), s8, s9] []))
                      refine go (fun _ kont => XS.iload X'.here hx rfl (hb hby d_prog_37_method_2_153) rfl  kont) ?_
                      show G (T'.setTop (mkF m 155 #[.val (.ref b), .val (.int (Int32.ofNat q0)), .val (.int (Int32.ofNat e8)), .val (.int (Int32.ofNat q)), .val (.int (Int32.ofNat (own_f xs (q)))), .val (.int (3 : Int32)), .val (.int (128 : Int32)), .val (.int (191 : Int32)), s8, s9] [(.int (128 : Int32))]))
                      exact j3 _ (by first | exact (if_neg hc144).symm | (rw [if_neg hc144]; assumption))
              · refine go (fun _ kont => XS.icmpNo X'.here hx rfl (hb hby d_prog_37_method_2_75) rfl (flt hc75).2.2.1 kont) ?_
                show G (T'.setTop (mkF m 78 #[.val (.ref b), .val (.int (Int32.ofNat q0)), .val (.int (Int32.ofNat e8)), .val (.int (Int32.ofNat q)), .val (.int (Int32.ofNat (own_f xs (q)))), s5, .val (.int (128 : Int32)), .val (.int (191 : Int32)), s8, s9] []))
                rw [show (239 : Int32) < Int32.ofNat (own_f xs (q)) ↔ 239 < own_f xs (q) from own_ltO (d := 239) (k := own_f xs (q)) (by omega) (by omega)] at hc75
                refine go (fun _ kont => XS.iconst X'.here hx rfl (hb hby d_prog_37_method_2_78) kont) ?_
                show G (T'.setTop (mkF m 79 #[.val (.ref b), .val (.int (Int32.ofNat q0)), .val (.int (Int32.ofNat e8)), .val (.int (Int32.ofNat q)), .val (.int (Int32.ofNat (own_f xs (q)))), s5, .val (.int (128 : Int32)), .val (.int (191 : Int32)), s8, s9] [(.int (2 : Int32))]))
                refine go (fun _ kont => XS.istore X'.here hx rfl (hb hby d_prog_37_method_2_79) rfl (l' := #[.val (.ref b), .val (.int (Int32.ofNat q0)), .val (.int (Int32.ofNat e8)), .val (.int (Int32.ofNat q)), .val (.int (Int32.ofNat (own_f xs (q)))), .val (.int (2 : Int32)), .val (.int (128 : Int32)), .val (.int (191 : Int32)), s8, s9]) (by rcases hs5 with rfl | ⟨w, rfl, hw⟩ <;> first | rfl | (cases w <;> first | rfl | (simp [Value.category] at hw))) kont) ?_
                show G (T'.setTop (mkF m 81 #[.val (.ref b), .val (.int (Int32.ofNat q0)), .val (.int (Int32.ofNat e8)), .val (.int (Int32.ofNat q)), .val (.int (Int32.ofNat (own_f xs (q)))), .val (.int (2 : Int32)), .val (.int (128 : Int32)), .val (.int (191 : Int32)), s8, s9] []))
                refine go (fun _ kont => XS.iload X'.here hx rfl (hb hby d_prog_37_method_2_81) rfl  kont) ?_
                show G (T'.setTop (mkF m 83 #[.val (.ref b), .val (.int (Int32.ofNat q0)), .val (.int (Int32.ofNat e8)), .val (.int (Int32.ofNat q)), .val (.int (Int32.ofNat (own_f xs (q)))), .val (.int (2 : Int32)), .val (.int (128 : Int32)), .val (.int (191 : Int32)), s8, s9] [(.int (Int32.ofNat (own_f xs (q))))]))
                refine go (fun _ kont => XS.sipush X'.here hx rfl (hb hby d_prog_37_method_2_83) kont) ?_
                show G (T'.setTop (mkF m 86 #[.val (.ref b), .val (.int (Int32.ofNat q0)), .val (.int (Int32.ofNat e8)), .val (.int (Int32.ofNat q)), .val (.int (Int32.ofNat (own_f xs (q)))), .val (.int (2 : Int32)), .val (.int (128 : Int32)), .val (.int (191 : Int32)), s8, s9] [(.int (224 : Int32)), (.int (Int32.ofNat (own_f xs (q))))]))
                have j5 : ∀ (s86_0 : Int32), s86_0 = (if (Int32.ofNat (own_f xs (q))) = (224 : Int32) then (160 : Int32) else (128 : Int32)) → G (T'.setTop (mkF m 97 #[.val (.ref b), .val (.int (Int32.ofNat q0)), .val (.int (Int32.ofNat e8)), .val (.int (Int32.ofNat q)), .val (.int (Int32.ofNat (own_f xs (q)))), .val (.int (2 : Int32)), .val (.int (128 : Int32)), .val (.int (191 : Int32)), s8, s9] [(.int s86_0)])) := by
                  intro s86_0 hs86_0
                  refine go (fun _ kont => XS.istore X'.here hx rfl (hb hby d_prog_37_method_2_97) rfl (l' := #[.val (.ref b), .val (.int (Int32.ofNat q0)), .val (.int (Int32.ofNat e8)), .val (.int (Int32.ofNat q)), .val (.int (Int32.ofNat (own_f xs (q)))), .val (.int (2 : Int32)), .val (.int s86_0), .val (.int (191 : Int32)), s8, s9]) rfl kont) ?_
                  show G (T'.setTop (mkF m 99 #[.val (.ref b), .val (.int (Int32.ofNat q0)), .val (.int (Int32.ofNat e8)), .val (.int (Int32.ofNat q)), .val (.int (Int32.ofNat (own_f xs (q)))), .val (.int (2 : Int32)), .val (.int s86_0), .val (.int (191 : Int32)), s8, s9] []))
                  refine go (fun _ kont => XS.iload X'.here hx rfl (hb hby d_prog_37_method_2_99) rfl  kont) ?_
                  show G (T'.setTop (mkF m 101 #[.val (.ref b), .val (.int (Int32.ofNat q0)), .val (.int (Int32.ofNat e8)), .val (.int (Int32.ofNat q)), .val (.int (Int32.ofNat (own_f xs (q)))), .val (.int (2 : Int32)), .val (.int s86_0), .val (.int (191 : Int32)), s8, s9] [(.int (Int32.ofNat (own_f xs (q))))]))
                  refine go (fun _ kont => XS.sipush X'.here hx rfl (hb hby d_prog_37_method_2_101) kont) ?_
                  show G (T'.setTop (mkF m 104 #[.val (.ref b), .val (.int (Int32.ofNat q0)), .val (.int (Int32.ofNat e8)), .val (.int (Int32.ofNat q)), .val (.int (Int32.ofNat (own_f xs (q)))), .val (.int (2 : Int32)), .val (.int s86_0), .val (.int (191 : Int32)), s8, s9] [(.int (237 : Int32)), (.int (Int32.ofNat (own_f xs (q))))]))
                  have j6 : ∀ (s104_0 : Int32), s104_0 = (if (Int32.ofNat (own_f xs (q))) = (237 : Int32) then (159 : Int32) else (191 : Int32)) → G (T'.setTop (mkF m 115 #[.val (.ref b), .val (.int (Int32.ofNat q0)), .val (.int (Int32.ofNat e8)), .val (.int (Int32.ofNat q)), .val (.int (Int32.ofNat (own_f xs (q)))), .val (.int (2 : Int32)), .val (.int s86_0), .val (.int (191 : Int32)), s8, s9] [(.int s104_0)])) := by
                    intro s104_0 hs104_0
                    refine go (fun _ kont => XS.istore X'.here hx rfl (hb hby d_prog_37_method_2_115) rfl (l' := #[.val (.ref b), .val (.int (Int32.ofNat q0)), .val (.int (Int32.ofNat e8)), .val (.int (Int32.ofNat q)), .val (.int (Int32.ofNat (own_f xs (q)))), .val (.int (2 : Int32)), .val (.int s86_0), .val (.int s104_0), s8, s9]) rfl kont) ?_
                    show G (T'.setTop (mkF m 117 #[.val (.ref b), .val (.int (Int32.ofNat q0)), .val (.int (Int32.ofNat e8)), .val (.int (Int32.ofNat q)), .val (.int (Int32.ofNat (own_f xs (q)))), .val (.int (2 : Int32)), .val (.int s86_0), .val (.int s104_0), s8, s9] []))
                    refine go (fun _ kont => XS.goto X'.here hx rfl (pc0 := 117) (pc' := 180) rfl (hb hby d_prog_37_method_2_117) (by decide) (by decide) kont) ?_
                    show G (T'.setTop (mkF m 180 #[.val (.ref b), .val (.int (Int32.ofNat q0)), .val (.int (Int32.ofNat e8)), .val (.int (Int32.ofNat q)), .val (.int (Int32.ofNat (own_f xs (q)))), .val (.int (2 : Int32)), .val (.int s86_0), .val (.int s104_0), s8, s9] []))
                    obtain ⟨lo, hlo, hlo1, hlo2⟩ : ∃ z : Nat, s86_0 = Int32.ofNat z ∧ (own_f xs (q) = 224 → z = 160) ∧ (own_f xs (q) ≠ 224 → z = 128) := by
                      rw [hs86_0]
                      by_cases hz : own_f xs (q) = 224
                      · exact ⟨160, by rw [if_pos (show Int32.ofNat (own_f xs (q)) = (224 : Int32) from by rw [hz]; rfl)]; rfl, fun _ => rfl, fun z => absurd hz z⟩
                      · exact ⟨128, by rw [if_neg (show ¬ (Int32.ofNat (own_f xs (q)) = (224 : Int32)) from fun z => hz ((own_eqO (d := own_f xs (q)) (k := 224) (by omega) (by omega)).mp z))]; rfl, fun z => absurd z hz, fun _ => rfl⟩
                    obtain ⟨hi, hhi, hhi1, hhi2⟩ : ∃ z : Nat, s104_0 = Int32.ofNat z ∧ (own_f xs (q) = 237 → z = 159) ∧ (own_f xs (q) ≠ 237 → z = 191) := by
                      rw [hs104_0]
                      by_cases hz : own_f xs (q) = 237
                      · exact ⟨159, by rw [if_pos (show Int32.ofNat (own_f xs (q)) = (237 : Int32) from by rw [hz]; rfl)]; rfl, fun _ => rfl, fun z => absurd hz z⟩
                      · exact ⟨191, by rw [if_neg (show ¬ (Int32.ofNat (own_f xs (q)) = (237 : Int32)) from fun z => hz ((own_eqO (d := own_f xs (q)) (k := 237) (by omega) (by omega)).mp z))]; rfl, fun z => absurd z hz, fun _ => rfl⟩
                    refine go (fun _ kont => XS.iloadN X'.here hx rfl (hb hby d_prog_37_method_2_180) rfl  kont) ?_
                    show G (T'.setTop (mkF m 181 #[.val (.ref b), .val (.int (Int32.ofNat q0)), .val (.int (Int32.ofNat e8)), .val (.int (Int32.ofNat q)), .val (.int (Int32.ofNat (own_f xs (q)))), .val (.int (2 : Int32)), .val (.int s86_0), .val (.int s104_0), s8, s9] [(.int (Int32.ofNat e8))]))
                    refine go (fun _ kont => XS.iloadN X'.here hx rfl (hb hby d_prog_37_method_2_181) rfl  kont) ?_
                    show G (T'.setTop (mkF m 182 #[.val (.ref b), .val (.int (Int32.ofNat q0)), .val (.int (Int32.ofNat e8)), .val (.int (Int32.ofNat q)), .val (.int (Int32.ofNat (own_f xs (q)))), .val (.int (2 : Int32)), .val (.int s86_0), .val (.int s104_0), s8, s9] [(.int (Int32.ofNat q)), (.int (Int32.ofNat e8))]))
                    refine go (fun _ kont => XS.isub X'.here hx rfl (hb hby d_prog_37_method_2_182) rfl kont) ?_
                    show G (T'.setTop (mkF m 183 #[.val (.ref b), .val (.int (Int32.ofNat q0)), .val (.int (Int32.ofNat e8)), .val (.int (Int32.ofNat q)), .val (.int (Int32.ofNat (own_f xs (q)))), .val (.int (2 : Int32)), .val (.int s86_0), .val (.int s104_0), s8, s9] [(.int ((Int32.ofNat e8) - (Int32.ofNat q)))]))
                    rw [own_subk (p := e8) (k := q) (by omega)]
                    show G (T'.setTop (mkF m 183 #[.val (.ref b), .val (.int (Int32.ofNat q0)), .val (.int (Int32.ofNat e8)), .val (.int (Int32.ofNat q)), .val (.int (Int32.ofNat (own_f xs (q)))), .val (.int (2 : Int32)), .val (.int s86_0), .val (.int s104_0), s8, s9] [(.int (Int32.ofNat (e8 - q)))]))
                    refine go (fun _ kont => XS.iload X'.here hx rfl (hb hby d_prog_37_method_2_183) rfl  kont) ?_
                    show G (T'.setTop (mkF m 185 #[.val (.ref b), .val (.int (Int32.ofNat q0)), .val (.int (Int32.ofNat e8)), .val (.int (Int32.ofNat q)), .val (.int (Int32.ofNat (own_f xs (q)))), .val (.int (2 : Int32)), .val (.int s86_0), .val (.int s104_0), s8, s9] [(.int (2 : Int32)), (.int (Int32.ofNat (e8 - q)))]))
                    by_cases hc185 : (2 : Int32) < (Int32.ofNat (e8 - q))
                    · refine go (fun _ kont => XS.icmpYes X'.here hx rfl (pc0 := 185) (pc' := 190) rfl (hb hby d_prog_37_method_2_185) rfl (tlt hc185).2.2.1 (by decide) (by decide) kont) ?_
                      show G (T'.setTop (mkF m 190 #[.val (.ref b), .val (.int (Int32.ofNat q0)), .val (.int (Int32.ofNat e8)), .val (.int (Int32.ofNat q)), .val (.int (Int32.ofNat (own_f xs (q)))), .val (.int (2 : Int32)), .val (.int s86_0), .val (.int s104_0), s8, s9] []))
                      rw [show (2 : Int32) < Int32.ofNat (e8 - q) ↔ 2 < e8 - q from own_ltO (d := 2) (k := e8 - q) (by omega) (by omega)] at hc185
                      refine go (fun _ kont => XS.aloadN X'.here hx rfl (hb hby d_prog_37_method_2_190) rfl rfl kont) ?_
                      show G (T'.setTop (mkF m 191 #[.val (.ref b), .val (.int (Int32.ofNat q0)), .val (.int (Int32.ofNat e8)), .val (.int (Int32.ofNat q)), .val (.int (Int32.ofNat (own_f xs (q)))), .val (.int (2 : Int32)), .val (.int s86_0), .val (.int s104_0), s8, s9] [(.ref b)]))
                      refine go (fun _ kont => XS.iloadN X'.here hx rfl (hb hby d_prog_37_method_2_191) rfl  kont) ?_
                      show G (T'.setTop (mkF m 192 #[.val (.ref b), .val (.int (Int32.ofNat q0)), .val (.int (Int32.ofNat e8)), .val (.int (Int32.ofNat q)), .val (.int (Int32.ofNat (own_f xs (q)))), .val (.int (2 : Int32)), .val (.int s86_0), .val (.int s104_0), s8, s9] [(.int (Int32.ofNat q)), (.ref b)]))
                      refine go (fun _ kont => XS.iconst X'.here hx rfl (hb hby d_prog_37_method_2_192) kont) ?_
                      show G (T'.setTop (mkF m 193 #[.val (.ref b), .val (.int (Int32.ofNat q0)), .val (.int (Int32.ofNat e8)), .val (.int (Int32.ofNat q)), .val (.int (Int32.ofNat (own_f xs (q)))), .val (.int (2 : Int32)), .val (.int s86_0), .val (.int s104_0), s8, s9] [(.int (1 : Int32)), (.int (Int32.ofNat q)), (.ref b)]))
                      refine go (fun _ kont => XS.iadd X'.here hx rfl (hb hby d_prog_37_method_2_193) rfl kont) ?_
                      show G (T'.setTop (mkF m 194 #[.val (.ref b), .val (.int (Int32.ofNat q0)), .val (.int (Int32.ofNat e8)), .val (.int (Int32.ofNat q)), .val (.int (Int32.ofNat (own_f xs (q)))), .val (.int (2 : Int32)), .val (.int s86_0), .val (.int s104_0), s8, s9] [(.int ((Int32.ofNat q) + (1 : Int32))), (.ref b)]))
                      rw [show Int32.ofNat q + (1 : Int32) = Int32.ofNat (q + 1) from own_addk q 1]
                      show G (T'.setTop (mkF m 194 #[.val (.ref b), .val (.int (Int32.ofNat q0)), .val (.int (Int32.ofNat e8)), .val (.int (Int32.ofNat q)), .val (.int (Int32.ofNat (own_f xs (q)))), .val (.int (2 : Int32)), .val (.int s86_0), .val (.int s104_0), s8, s9] [(.int (Int32.ofNat (q + 1))), (.ref b)]))
                      refine go (fun _ kont => X'.baloadBytes hx (j := (Int32.ofNat (q + 1))) (v := (.int (xs.getD (q + 1) 0))) (by rw [e']; exact Ar.1) (State.isArrayOf_alike hZ.alike Ar.2.1) Ar.2.2 (own_hink Sl (own_neg (by rw [own_ofN (by omega)]; omega)) (own_tnO (by omega)) (k := q + 1) (by rw [List.length_map]; omega)) (own_hatk Sl (own_tnO (by omega)) (own_atI (k := q + 1) (by omega))) (g := (mkF m 194 #[.val (.ref b), .val (.int (Int32.ofNat q0)), .val (.int (Int32.ofNat e8)), .val (.int (Int32.ofNat q)), .val (.int (Int32.ofNat (own_f xs (q)))), .val (.int (2 : Int32)), .val (.int s86_0), .val (.int s104_0), s8, s9] [(.int (Int32.ofNat (q + 1))), (.ref b)])) rfl rfl (hb hby d_prog_37_method_2_194) _ kont) ?_
                      show G (T'.setTop (mkF m 195 #[.val (.ref b), .val (.int (Int32.ofNat q0)), .val (.int (Int32.ofNat e8)), .val (.int (Int32.ofNat q)), .val (.int (Int32.ofNat (own_f xs (q)))), .val (.int (2 : Int32)), .val (.int s86_0), .val (.int s104_0), s8, s9] [(.int (xs.getD (q + 1) 0))]))
                      refine go (fun _ kont => XS.sipush X'.here hx rfl (hb hby d_prog_37_method_2_195) kont) ?_
                      show G (T'.setTop (mkF m 198 #[.val (.ref b), .val (.int (Int32.ofNat q0)), .val (.int (Int32.ofNat e8)), .val (.int (Int32.ofNat q)), .val (.int (Int32.ofNat (own_f xs (q)))), .val (.int (2 : Int32)), .val (.int s86_0), .val (.int s104_0), s8, s9] [(.int (255 : Int32)), (.int (xs.getD (q + 1) 0))]))
                      refine go (fun _ kont => XS.iand X'.here hx rfl (hb hby d_prog_37_method_2_198) rfl kont) ?_
                      show G (T'.setTop (mkF m 199 #[.val (.ref b), .val (.int (Int32.ofNat q0)), .val (.int (Int32.ofNat e8)), .val (.int (Int32.ofNat q)), .val (.int (Int32.ofNat (own_f xs (q)))), .val (.int (2 : Int32)), .val (.int s86_0), .val (.int s104_0), s8, s9] [(.int ((xs.getD (q + 1) 0) &&& (255 : Int32)))]))
                      rw [own_fe xs (q + 1)]
                      show G (T'.setTop (mkF m 199 #[.val (.ref b), .val (.int (Int32.ofNat q0)), .val (.int (Int32.ofNat e8)), .val (.int (Int32.ofNat q)), .val (.int (Int32.ofNat (own_f xs (q)))), .val (.int (2 : Int32)), .val (.int s86_0), .val (.int s104_0), s8, s9] [(.int (Int32.ofNat (own_f xs (q + 1))))]))
                      refine go (fun _ kont => XS.istore X'.here hx rfl (hb hby d_prog_37_method_2_199) rfl (l' := #[.val (.ref b), .val (.int (Int32.ofNat q0)), .val (.int (Int32.ofNat e8)), .val (.int (Int32.ofNat q)), .val (.int (Int32.ofNat (own_f xs (q)))), .val (.int (2 : Int32)), .val (.int s86_0), .val (.int s104_0), .val (.int (Int32.ofNat (own_f xs (q + 1)))), s9]) (by rcases hs8 with rfl | ⟨w, rfl, hw⟩ <;> first | rfl | (cases w <;> first | rfl | (simp [Value.category] at hw))) kont) ?_
                      show G (T'.setTop (mkF m 201 #[.val (.ref b), .val (.int (Int32.ofNat q0)), .val (.int (Int32.ofNat e8)), .val (.int (Int32.ofNat q)), .val (.int (Int32.ofNat (own_f xs (q)))), .val (.int (2 : Int32)), .val (.int s86_0), .val (.int s104_0), .val (.int (Int32.ofNat (own_f xs (q + 1)))), s9] []))
                      refine go (fun _ kont => XS.iload X'.here hx rfl (hb hby d_prog_37_method_2_201) rfl  kont) ?_
                      show G (T'.setTop (mkF m 203 #[.val (.ref b), .val (.int (Int32.ofNat q0)), .val (.int (Int32.ofNat e8)), .val (.int (Int32.ofNat q)), .val (.int (Int32.ofNat (own_f xs (q)))), .val (.int (2 : Int32)), .val (.int s86_0), .val (.int s104_0), .val (.int (Int32.ofNat (own_f xs (q + 1)))), s9] [(.int (Int32.ofNat (own_f xs (q + 1))))]))
                      refine go (fun _ kont => XS.iload X'.here hx rfl (hb hby d_prog_37_method_2_203) rfl  kont) ?_
                      show G (T'.setTop (mkF m 205 #[.val (.ref b), .val (.int (Int32.ofNat q0)), .val (.int (Int32.ofNat e8)), .val (.int (Int32.ofNat q)), .val (.int (Int32.ofNat (own_f xs (q)))), .val (.int (2 : Int32)), .val (.int s86_0), .val (.int s104_0), .val (.int (Int32.ofNat (own_f xs (q + 1)))), s9] [(.int s86_0), (.int (Int32.ofNat (own_f xs (q + 1))))]))
                      by_cases hc205 : (Int32.ofNat (own_f xs (q + 1))) < s86_0
                      · refine go (fun _ kont => XS.icmpYes X'.here hx rfl (pc0 := 205) (pc' := 215) rfl (hb hby d_prog_37_method_2_205) rfl (tlt hc205).1 (by decide) (by decide) kont) ?_
                        show G (T'.setTop (mkF m 215 #[.val (.ref b), .val (.int (Int32.ofNat q0)), .val (.int (Int32.ofNat e8)), .val (.int (Int32.ofNat q)), .val (.int (Int32.ofNat (own_f xs (q)))), .val (.int (2 : Int32)), .val (.int s86_0), .val (.int s104_0), .val (.int (Int32.ofNat (own_f xs (q + 1)))), s9] []))
                        rw [hlo, show Int32.ofNat (own_f xs (q + 1)) < Int32.ofNat lo ↔ own_f xs (q + 1) < lo from own_ltO (d := own_f xs (q + 1)) (k := lo) (by omega) (by first | omega | (split <;> omega))] at hc205
                        refine go (fun _ kont => XS.iconst X'.here hx rfl (hb hby d_prog_37_method_2_215) kont) ?_
                        show G (T'.setTop (mkF m 216 #[.val (.ref b), .val (.int (Int32.ofNat q0)), .val (.int (Int32.ofNat e8)), .val (.int (Int32.ofNat q)), .val (.int (Int32.ofNat (own_f xs (q)))), .val (.int (2 : Int32)), .val (.int s86_0), .val (.int s104_0), .val (.int (Int32.ofNat (own_f xs (q + 1)))), s9] [(.int (0 : Int32))]))
                        rw [hG]
                        exact own_retN X' hx (t := .boolean) Bd.returns (by simp) (hb hby d_prog_37_method_2_216) hlk (by decide) (by decide) ⟨by rw [hT, own_T_bad (by omega) (by unfold own_N own_n; (repeat' split) <;> omega)]; rfl, N0, e'⟩
                      · refine go (fun _ kont => XS.icmpNo X'.here hx rfl (hb hby d_prog_37_method_2_205) rfl (flt hc205).1 kont) ?_
                        show G (T'.setTop (mkF m 208 #[.val (.ref b), .val (.int (Int32.ofNat q0)), .val (.int (Int32.ofNat e8)), .val (.int (Int32.ofNat q)), .val (.int (Int32.ofNat (own_f xs (q)))), .val (.int (2 : Int32)), .val (.int s86_0), .val (.int s104_0), .val (.int (Int32.ofNat (own_f xs (q + 1)))), s9] []))
                        rw [hlo, show Int32.ofNat (own_f xs (q + 1)) < Int32.ofNat lo ↔ own_f xs (q + 1) < lo from own_ltO (d := own_f xs (q + 1)) (k := lo) (by omega) (by first | omega | (split <;> omega))] at hc205
                        refine go (fun _ kont => XS.iload X'.here hx rfl (hb hby d_prog_37_method_2_208) rfl  kont) ?_
                        show G (T'.setTop (mkF m 210 #[.val (.ref b), .val (.int (Int32.ofNat q0)), .val (.int (Int32.ofNat e8)), .val (.int (Int32.ofNat q)), .val (.int (Int32.ofNat (own_f xs (q)))), .val (.int (2 : Int32)), .val (.int s86_0), .val (.int s104_0), .val (.int (Int32.ofNat (own_f xs (q + 1)))), s9] [(.int (Int32.ofNat (own_f xs (q + 1))))]))
                        refine go (fun _ kont => XS.iload X'.here hx rfl (hb hby d_prog_37_method_2_210) rfl  kont) ?_
                        show G (T'.setTop (mkF m 212 #[.val (.ref b), .val (.int (Int32.ofNat q0)), .val (.int (Int32.ofNat e8)), .val (.int (Int32.ofNat q)), .val (.int (Int32.ofNat (own_f xs (q)))), .val (.int (2 : Int32)), .val (.int s86_0), .val (.int s104_0), .val (.int (Int32.ofNat (own_f xs (q + 1)))), s9] [(.int s104_0), (.int (Int32.ofNat (own_f xs (q + 1))))]))
                        by_cases hc212 : s104_0 < (Int32.ofNat (own_f xs (q + 1)))
                        · refine go (fun _ kont => XS.icmpNo X'.here hx rfl (hb hby d_prog_37_method_2_212) rfl (tlt hc212).2.2.2 kont) ?_
                          show G (T'.setTop (mkF m 215 #[.val (.ref b), .val (.int (Int32.ofNat q0)), .val (.int (Int32.ofNat e8)), .val (.int (Int32.ofNat q)), .val (.int (Int32.ofNat (own_f xs (q)))), .val (.int (2 : Int32)), .val (.int s86_0), .val (.int s104_0), .val (.int (Int32.ofNat (own_f xs (q + 1)))), s9] []))
                          rw [hhi, show Int32.ofNat hi < Int32.ofNat (own_f xs (q + 1)) ↔ hi < own_f xs (q + 1) from own_ltO (d := hi) (k := own_f xs (q + 1)) (by first | omega | (split <;> omega)) (by omega)] at hc212
                          refine go (fun _ kont => XS.iconst X'.here hx rfl (hb hby d_prog_37_method_2_215) kont) ?_
                          show G (T'.setTop (mkF m 216 #[.val (.ref b), .val (.int (Int32.ofNat q0)), .val (.int (Int32.ofNat e8)), .val (.int (Int32.ofNat q)), .val (.int (Int32.ofNat (own_f xs (q)))), .val (.int (2 : Int32)), .val (.int s86_0), .val (.int s104_0), .val (.int (Int32.ofNat (own_f xs (q + 1)))), s9] [(.int (0 : Int32))]))
                          rw [hG]
                          exact own_retN X' hx (t := .boolean) Bd.returns (by simp) (hb hby d_prog_37_method_2_216) hlk (by decide) (by decide) ⟨by rw [hT, own_T_bad (by omega) (by unfold own_N own_n; (repeat' split) <;> omega)]; rfl, N0, e'⟩
                        · refine go (fun _ kont => XS.icmpYes X'.here hx rfl (pc0 := 212) (pc' := 217) rfl (hb hby d_prog_37_method_2_212) rfl (flt hc212).2.2.2 (by decide) (by decide) kont) ?_
                          show G (T'.setTop (mkF m 217 #[.val (.ref b), .val (.int (Int32.ofNat q0)), .val (.int (Int32.ofNat e8)), .val (.int (Int32.ofNat q)), .val (.int (Int32.ofNat (own_f xs (q)))), .val (.int (2 : Int32)), .val (.int s86_0), .val (.int s104_0), .val (.int (Int32.ofNat (own_f xs (q + 1)))), s9] []))
                          rw [hhi, show Int32.ofNat hi < Int32.ofNat (own_f xs (q + 1)) ↔ hi < own_f xs (q + 1) from own_ltO (d := hi) (k := own_f xs (q + 1)) (by first | omega | (split <;> omega)) (by omega)] at hc212
                          refine go (fun _ kont => XS.iloadN X'.here hx rfl (hb hby d_prog_37_method_2_217) rfl  kont) ?_
                          show G (T'.setTop (mkF m 218 #[.val (.ref b), .val (.int (Int32.ofNat q0)), .val (.int (Int32.ofNat e8)), .val (.int (Int32.ofNat q)), .val (.int (Int32.ofNat (own_f xs (q)))), .val (.int (2 : Int32)), .val (.int s86_0), .val (.int s104_0), .val (.int (Int32.ofNat (own_f xs (q + 1)))), s9] [(.int (Int32.ofNat q))]))
                          refine go (fun _ kont => XS.iconst X'.here hx rfl (hb hby d_prog_37_method_2_218) kont) ?_
                          show G (T'.setTop (mkF m 219 #[.val (.ref b), .val (.int (Int32.ofNat q0)), .val (.int (Int32.ofNat e8)), .val (.int (Int32.ofNat q)), .val (.int (Int32.ofNat (own_f xs (q)))), .val (.int (2 : Int32)), .val (.int s86_0), .val (.int s104_0), .val (.int (Int32.ofNat (own_f xs (q + 1)))), s9] [(.int (2 : Int32)), (.int (Int32.ofNat q))]))
                          refine go (fun _ kont => XS.iadd X'.here hx rfl (hb hby d_prog_37_method_2_219) rfl kont) ?_
                          show G (T'.setTop (mkF m 220 #[.val (.ref b), .val (.int (Int32.ofNat q0)), .val (.int (Int32.ofNat e8)), .val (.int (Int32.ofNat q)), .val (.int (Int32.ofNat (own_f xs (q)))), .val (.int (2 : Int32)), .val (.int s86_0), .val (.int s104_0), .val (.int (Int32.ofNat (own_f xs (q + 1)))), s9] [(.int ((Int32.ofNat q) + (2 : Int32)))]))
                          rw [show Int32.ofNat q + (2 : Int32) = Int32.ofNat (q + 2) from own_addk q 2]
                          show G (T'.setTop (mkF m 220 #[.val (.ref b), .val (.int (Int32.ofNat q0)), .val (.int (Int32.ofNat e8)), .val (.int (Int32.ofNat q)), .val (.int (Int32.ofNat (own_f xs (q)))), .val (.int (2 : Int32)), .val (.int s86_0), .val (.int s104_0), .val (.int (Int32.ofNat (own_f xs (q + 1)))), s9] [(.int (Int32.ofNat (q + 2)))]))
                          refine go (fun _ kont => XS.istore X'.here hx rfl (hb hby d_prog_37_method_2_220) rfl (l' := #[.val (.ref b), .val (.int (Int32.ofNat q0)), .val (.int (Int32.ofNat e8)), .val (.int (Int32.ofNat q)), .val (.int (Int32.ofNat (own_f xs (q)))), .val (.int (2 : Int32)), .val (.int s86_0), .val (.int s104_0), .val (.int (Int32.ofNat (own_f xs (q + 1)))), .val (.int (Int32.ofNat (q + 2)))]) (by rcases hs9 with rfl | ⟨w, rfl, hw⟩ <;> first | rfl | (cases w <;> first | rfl | (simp [Value.category] at hw))) kont) ?_
                          show G (T'.setTop (mkF m 222 #[.val (.ref b), .val (.int (Int32.ofNat q0)), .val (.int (Int32.ofNat e8)), .val (.int (Int32.ofNat q)), .val (.int (Int32.ofNat (own_f xs (q)))), .val (.int (2 : Int32)), .val (.int s86_0), .val (.int s104_0), .val (.int (Int32.ofNat (own_f xs (q + 1)))), .val (.int (Int32.ofNat (q + 2)))] []))
                          refine go (fun _ kont => XS.iload X'.here hx rfl (hb hby d_prog_37_method_2_222) rfl  kont) ?_
                          show G (T'.setTop (mkF m 224 #[.val (.ref b), .val (.int (Int32.ofNat q0)), .val (.int (Int32.ofNat e8)), .val (.int (Int32.ofNat q)), .val (.int (Int32.ofNat (own_f xs (q)))), .val (.int (2 : Int32)), .val (.int s86_0), .val (.int s104_0), .val (.int (Int32.ofNat (own_f xs (q + 1)))), .val (.int (Int32.ofNat (q + 2)))] [(.int (Int32.ofNat (q + 2)))]))
                          refine go (fun _ kont => XS.iloadN X'.here hx rfl (hb hby d_prog_37_method_2_224) rfl  kont) ?_
                          show G (T'.setTop (mkF m 225 #[.val (.ref b), .val (.int (Int32.ofNat q0)), .val (.int (Int32.ofNat e8)), .val (.int (Int32.ofNat q)), .val (.int (Int32.ofNat (own_f xs (q)))), .val (.int (2 : Int32)), .val (.int s86_0), .val (.int s104_0), .val (.int (Int32.ofNat (own_f xs (q + 1)))), .val (.int (Int32.ofNat (q + 2)))] [(.int (Int32.ofNat q)), (.int (Int32.ofNat (q + 2)))]))
                          refine go (fun _ kont => XS.iload X'.here hx rfl (hb hby d_prog_37_method_2_225) rfl  kont) ?_
                          show G (T'.setTop (mkF m 227 #[.val (.ref b), .val (.int (Int32.ofNat q0)), .val (.int (Int32.ofNat e8)), .val (.int (Int32.ofNat q)), .val (.int (Int32.ofNat (own_f xs (q)))), .val (.int (2 : Int32)), .val (.int s86_0), .val (.int s104_0), .val (.int (Int32.ofNat (own_f xs (q + 1)))), .val (.int (Int32.ofNat (q + 2)))] [(.int (2 : Int32)), (.int (Int32.ofNat q)), (.int (Int32.ofNat (q + 2)))]))
                          refine go (fun _ kont => XS.iadd X'.here hx rfl (hb hby d_prog_37_method_2_227) rfl kont) ?_
                          show G (T'.setTop (mkF m 228 #[.val (.ref b), .val (.int (Int32.ofNat q0)), .val (.int (Int32.ofNat e8)), .val (.int (Int32.ofNat q)), .val (.int (Int32.ofNat (own_f xs (q)))), .val (.int (2 : Int32)), .val (.int s86_0), .val (.int s104_0), .val (.int (Int32.ofNat (own_f xs (q + 1)))), .val (.int (Int32.ofNat (q + 2)))] [(.int ((Int32.ofNat q) + (2 : Int32))), (.int (Int32.ofNat (q + 2)))]))
                          rw [show Int32.ofNat q + (2 : Int32) = Int32.ofNat (q + 2) from own_addk q 2]
                          show G (T'.setTop (mkF m 228 #[.val (.ref b), .val (.int (Int32.ofNat q0)), .val (.int (Int32.ofNat e8)), .val (.int (Int32.ofNat q)), .val (.int (Int32.ofNat (own_f xs (q)))), .val (.int (2 : Int32)), .val (.int s86_0), .val (.int s104_0), .val (.int (Int32.ofNat (own_f xs (q + 1)))), .val (.int (Int32.ofNat (q + 2)))] [(.int (Int32.ofNat (q + 2))), (.int (Int32.ofNat (q + 2)))]))
                          refine go (fun _ kont => XS.icmpNo X'.here hx rfl (hb hby d_prog_37_method_2_228) rfl (flt (fun z => absurd ((own_ltO (d := q + 2) (k := q + 2) (by omega) (by omega)).mp z) (by omega))).2.2.1 kont) ?_
                          show G (T'.setTop (mkF m 231 #[.val (.ref b), .val (.int (Int32.ofNat q0)), .val (.int (Int32.ofNat e8)), .val (.int (Int32.ofNat q)), .val (.int (Int32.ofNat (own_f xs (q)))), .val (.int (2 : Int32)), .val (.int s86_0), .val (.int s104_0), .val (.int (Int32.ofNat (own_f xs (q + 1)))), .val (.int (Int32.ofNat (q + 2)))] []))
                          refine go (fun _ kont => XS.aloadN X'.here hx rfl (hb hby d_prog_37_method_2_231) rfl rfl kont) ?_
                          show G (T'.setTop (mkF m 232 #[.val (.ref b), .val (.int (Int32.ofNat q0)), .val (.int (Int32.ofNat e8)), .val (.int (Int32.ofNat q)), .val (.int (Int32.ofNat (own_f xs (q)))), .val (.int (2 : Int32)), .val (.int s86_0), .val (.int s104_0), .val (.int (Int32.ofNat (own_f xs (q + 1)))), .val (.int (Int32.ofNat (q + 2)))] [(.ref b)]))
                          refine go (fun _ kont => XS.iload X'.here hx rfl (hb hby d_prog_37_method_2_232) rfl  kont) ?_
                          show G (T'.setTop (mkF m 234 #[.val (.ref b), .val (.int (Int32.ofNat q0)), .val (.int (Int32.ofNat e8)), .val (.int (Int32.ofNat q)), .val (.int (Int32.ofNat (own_f xs (q)))), .val (.int (2 : Int32)), .val (.int s86_0), .val (.int s104_0), .val (.int (Int32.ofNat (own_f xs (q + 1)))), .val (.int (Int32.ofNat (q + 2)))] [(.int (Int32.ofNat (q + 2))), (.ref b)]))
                          refine go (fun _ kont => X'.baloadBytes hx (j := (Int32.ofNat (q + 2))) (v := (.int (xs.getD (q + 2) 0))) (by rw [e']; exact Ar.1) (State.isArrayOf_alike hZ.alike Ar.2.1) Ar.2.2 (own_hink Sl (own_neg (by rw [own_ofN (by omega)]; omega)) (own_tnO (by omega)) (k := q + 2) (by rw [List.length_map]; omega)) (own_hatk Sl (own_tnO (by omega)) (own_atI (k := q + 2) (by omega))) (g := (mkF m 234 #[.val (.ref b), .val (.int (Int32.ofNat q0)), .val (.int (Int32.ofNat e8)), .val (.int (Int32.ofNat q)), .val (.int (Int32.ofNat (own_f xs (q)))), .val (.int (2 : Int32)), .val (.int s86_0), .val (.int s104_0), .val (.int (Int32.ofNat (own_f xs (q + 1)))), .val (.int (Int32.ofNat (q + 2)))] [(.int (Int32.ofNat (q + 2))), (.ref b)])) rfl rfl (hb hby d_prog_37_method_2_234) _ kont) ?_
                          show G (T'.setTop (mkF m 235 #[.val (.ref b), .val (.int (Int32.ofNat q0)), .val (.int (Int32.ofNat e8)), .val (.int (Int32.ofNat q)), .val (.int (Int32.ofNat (own_f xs (q)))), .val (.int (2 : Int32)), .val (.int s86_0), .val (.int s104_0), .val (.int (Int32.ofNat (own_f xs (q + 1)))), .val (.int (Int32.ofNat (q + 2)))] [(.int (xs.getD (q + 2) 0))]))
                          refine go (fun _ kont => XS.sipush X'.here hx rfl (hb hby d_prog_37_method_2_235) kont) ?_
                          show G (T'.setTop (mkF m 238 #[.val (.ref b), .val (.int (Int32.ofNat q0)), .val (.int (Int32.ofNat e8)), .val (.int (Int32.ofNat q)), .val (.int (Int32.ofNat (own_f xs (q)))), .val (.int (2 : Int32)), .val (.int s86_0), .val (.int s104_0), .val (.int (Int32.ofNat (own_f xs (q + 1)))), .val (.int (Int32.ofNat (q + 2)))] [(.int (192 : Int32)), (.int (xs.getD (q + 2) 0))]))
                          refine go (fun _ kont => XS.iand X'.here hx rfl (hb hby d_prog_37_method_2_238) rfl kont) ?_
                          show G (T'.setTop (mkF m 239 #[.val (.ref b), .val (.int (Int32.ofNat q0)), .val (.int (Int32.ofNat e8)), .val (.int (Int32.ofNat q)), .val (.int (Int32.ofNat (own_f xs (q)))), .val (.int (2 : Int32)), .val (.int s86_0), .val (.int s104_0), .val (.int (Int32.ofNat (own_f xs (q + 1)))), .val (.int (Int32.ofNat (q + 2)))] [(.int ((xs.getD (q + 2) 0) &&& (192 : Int32)))]))
                          rw [own_c192 (xs.getD (q + 2) 0)]
                          show G (T'.setTop (mkF m 239 #[.val (.ref b), .val (.int (Int32.ofNat q0)), .val (.int (Int32.ofNat e8)), .val (.int (Int32.ofNat q)), .val (.int (Int32.ofNat (own_f xs (q)))), .val (.int (2 : Int32)), .val (.int s86_0), .val (.int s104_0), .val (.int (Int32.ofNat (own_f xs (q + 1)))), .val (.int (Int32.ofNat (q + 2)))] [(.int ((Int32.ofNat (own_f xs (q + 2))) &&& (192 : Int32)))]))
                          refine go (fun _ kont => XS.sipush X'.here hx rfl (hb hby d_prog_37_method_2_239) kont) ?_
                          show G (T'.setTop (mkF m 242 #[.val (.ref b), .val (.int (Int32.ofNat q0)), .val (.int (Int32.ofNat e8)), .val (.int (Int32.ofNat q)), .val (.int (Int32.ofNat (own_f xs (q)))), .val (.int (2 : Int32)), .val (.int s86_0), .val (.int s104_0), .val (.int (Int32.ofNat (own_f xs (q + 1)))), .val (.int (Int32.ofNat (q + 2)))] [(.int (128 : Int32)), (.int ((Int32.ofNat (own_f xs (q + 2))) &&& (192 : Int32)))]))
                          by_cases hc242 : ((Int32.ofNat (own_f xs (q + 2))) &&& (192 : Int32)) = (128 : Int32)
                          · refine go (fun _ kont => XS.icmpYes X'.here hx rfl (pc0 := 242) (pc' := 247) rfl (hb hby d_prog_37_method_2_242) rfl (teq hc242).1 (by decide) (by decide) kont) ?_
                            show G (T'.setTop (mkF m 247 #[.val (.ref b), .val (.int (Int32.ofNat q0)), .val (.int (Int32.ofNat e8)), .val (.int (Int32.ofNat q)), .val (.int (Int32.ofNat (own_f xs (q)))), .val (.int (2 : Int32)), .val (.int s86_0), .val (.int s104_0), .val (.int (Int32.ofNat (own_f xs (q + 1)))), .val (.int (Int32.ofNat (q + 2)))] []))
                            rw [show _ ↔ _ from own_m192' _ hb2] at hc242
                            refine go (fun _ kont => XS.iinc X'.here hx rfl (hb hby d_prog_37_method_2_247) rfl (l' := #[.val (.ref b), .val (.int (Int32.ofNat q0)), .val (.int (Int32.ofNat e8)), .val (.int (Int32.ofNat q)), .val (.int (Int32.ofNat (own_f xs (q)))), .val (.int (2 : Int32)), .val (.int s86_0), .val (.int s104_0), .val (.int (Int32.ofNat (own_f xs (q + 1)))), .val (.int ((Int32.ofNat (q + 2)) + (1 : Int32)))]) rfl kont) ?_
                            show G (T'.setTop (mkF m 250 #[.val (.ref b), .val (.int (Int32.ofNat q0)), .val (.int (Int32.ofNat e8)), .val (.int (Int32.ofNat q)), .val (.int (Int32.ofNat (own_f xs (q)))), .val (.int (2 : Int32)), .val (.int s86_0), .val (.int s104_0), .val (.int (Int32.ofNat (own_f xs (q + 1)))), .val (.int ((Int32.ofNat (q + 2)) + (1 : Int32)))] []))
                            rw [show Int32.ofNat (q + 2) + (1 : Int32) = Int32.ofNat (q + 3) from own_addk (q + 2) 1]
                            show G (T'.setTop (mkF m 250 #[.val (.ref b), .val (.int (Int32.ofNat q0)), .val (.int (Int32.ofNat e8)), .val (.int (Int32.ofNat q)), .val (.int (Int32.ofNat (own_f xs (q)))), .val (.int (2 : Int32)), .val (.int s86_0), .val (.int s104_0), .val (.int (Int32.ofNat (own_f xs (q + 1)))), .val (.int (Int32.ofNat (q + 3)))] []))
                            refine go (fun _ kont => XS.goto X'.here hx rfl (pc0 := 250) (pc' := 222) rfl (hb hby d_prog_37_method_2_250) (by decide) (by decide) kont) ?_
                            show G (T'.setTop (mkF m 222 #[.val (.ref b), .val (.int (Int32.ofNat q0)), .val (.int (Int32.ofNat e8)), .val (.int (Int32.ofNat q)), .val (.int (Int32.ofNat (own_f xs (q)))), .val (.int (2 : Int32)), .val (.int s86_0), .val (.int s104_0), .val (.int (Int32.ofNat (own_f xs (q + 1)))), .val (.int (Int32.ofNat (q + 3)))] []))
                            refine go (fun _ kont => XS.iload X'.here hx rfl (hb hby d_prog_37_method_2_222) rfl  kont) ?_
                            show G (T'.setTop (mkF m 224 #[.val (.ref b), .val (.int (Int32.ofNat q0)), .val (.int (Int32.ofNat e8)), .val (.int (Int32.ofNat q)), .val (.int (Int32.ofNat (own_f xs (q)))), .val (.int (2 : Int32)), .val (.int s86_0), .val (.int s104_0), .val (.int (Int32.ofNat (own_f xs (q + 1)))), .val (.int (Int32.ofNat (q + 3)))] [(.int (Int32.ofNat (q + 3)))]))
                            refine go (fun _ kont => XS.iloadN X'.here hx rfl (hb hby d_prog_37_method_2_224) rfl  kont) ?_
                            show G (T'.setTop (mkF m 225 #[.val (.ref b), .val (.int (Int32.ofNat q0)), .val (.int (Int32.ofNat e8)), .val (.int (Int32.ofNat q)), .val (.int (Int32.ofNat (own_f xs (q)))), .val (.int (2 : Int32)), .val (.int s86_0), .val (.int s104_0), .val (.int (Int32.ofNat (own_f xs (q + 1)))), .val (.int (Int32.ofNat (q + 3)))] [(.int (Int32.ofNat q)), (.int (Int32.ofNat (q + 3)))]))
                            refine go (fun _ kont => XS.iload X'.here hx rfl (hb hby d_prog_37_method_2_225) rfl  kont) ?_
                            show G (T'.setTop (mkF m 227 #[.val (.ref b), .val (.int (Int32.ofNat q0)), .val (.int (Int32.ofNat e8)), .val (.int (Int32.ofNat q)), .val (.int (Int32.ofNat (own_f xs (q)))), .val (.int (2 : Int32)), .val (.int s86_0), .val (.int s104_0), .val (.int (Int32.ofNat (own_f xs (q + 1)))), .val (.int (Int32.ofNat (q + 3)))] [(.int (2 : Int32)), (.int (Int32.ofNat q)), (.int (Int32.ofNat (q + 3)))]))
                            refine go (fun _ kont => XS.iadd X'.here hx rfl (hb hby d_prog_37_method_2_227) rfl kont) ?_
                            show G (T'.setTop (mkF m 228 #[.val (.ref b), .val (.int (Int32.ofNat q0)), .val (.int (Int32.ofNat e8)), .val (.int (Int32.ofNat q)), .val (.int (Int32.ofNat (own_f xs (q)))), .val (.int (2 : Int32)), .val (.int s86_0), .val (.int s104_0), .val (.int (Int32.ofNat (own_f xs (q + 1)))), .val (.int (Int32.ofNat (q + 3)))] [(.int ((Int32.ofNat q) + (2 : Int32))), (.int (Int32.ofNat (q + 3)))]))
                            rw [show Int32.ofNat q + (2 : Int32) = Int32.ofNat (q + 2) from own_addk q 2]
                            show G (T'.setTop (mkF m 228 #[.val (.ref b), .val (.int (Int32.ofNat q0)), .val (.int (Int32.ofNat e8)), .val (.int (Int32.ofNat q)), .val (.int (Int32.ofNat (own_f xs (q)))), .val (.int (2 : Int32)), .val (.int s86_0), .val (.int s104_0), .val (.int (Int32.ofNat (own_f xs (q + 1)))), .val (.int (Int32.ofNat (q + 3)))] [(.int (Int32.ofNat (q + 2))), (.int (Int32.ofNat (q + 3)))]))
                            refine go (fun _ kont => XS.icmpYes X'.here hx rfl (pc0 := 228) (pc' := 253) rfl (hb hby d_prog_37_method_2_228) rfl (tlt ((own_ltO (d := q + 2) (k := q + 3) (by omega) (by omega)).mpr (by omega))).2.2.1 (by decide) (by decide) kont) ?_
                            show G (T'.setTop (mkF m 253 #[.val (.ref b), .val (.int (Int32.ofNat q0)), .val (.int (Int32.ofNat e8)), .val (.int (Int32.ofNat q)), .val (.int (Int32.ofNat (own_f xs (q)))), .val (.int (2 : Int32)), .val (.int s86_0), .val (.int s104_0), .val (.int (Int32.ofNat (own_f xs (q + 1)))), .val (.int (Int32.ofNat (q + 3)))] []))
                            refine go (fun _ kont => XS.iloadN X'.here hx rfl (hb hby d_prog_37_method_2_253) rfl  kont) ?_
                            show G (T'.setTop (mkF m 254 #[.val (.ref b), .val (.int (Int32.ofNat q0)), .val (.int (Int32.ofNat e8)), .val (.int (Int32.ofNat q)), .val (.int (Int32.ofNat (own_f xs (q)))), .val (.int (2 : Int32)), .val (.int s86_0), .val (.int s104_0), .val (.int (Int32.ofNat (own_f xs (q + 1)))), .val (.int (Int32.ofNat (q + 3)))] [(.int (Int32.ofNat q))]))
                            refine go (fun _ kont => XS.iload X'.here hx rfl (hb hby d_prog_37_method_2_254) rfl  kont) ?_
                            show G (T'.setTop (mkF m 256 #[.val (.ref b), .val (.int (Int32.ofNat q0)), .val (.int (Int32.ofNat e8)), .val (.int (Int32.ofNat q)), .val (.int (Int32.ofNat (own_f xs (q)))), .val (.int (2 : Int32)), .val (.int s86_0), .val (.int s104_0), .val (.int (Int32.ofNat (own_f xs (q + 1)))), .val (.int (Int32.ofNat (q + 3)))] [(.int (2 : Int32)), (.int (Int32.ofNat q))]))
                            refine go (fun _ kont => XS.iconst X'.here hx rfl (hb hby d_prog_37_method_2_256) kont) ?_
                            show G (T'.setTop (mkF m 257 #[.val (.ref b), .val (.int (Int32.ofNat q0)), .val (.int (Int32.ofNat e8)), .val (.int (Int32.ofNat q)), .val (.int (Int32.ofNat (own_f xs (q)))), .val (.int (2 : Int32)), .val (.int s86_0), .val (.int s104_0), .val (.int (Int32.ofNat (own_f xs (q + 1)))), .val (.int (Int32.ofNat (q + 3)))] [(.int (1 : Int32)), (.int (2 : Int32)), (.int (Int32.ofNat q))]))
                            refine go (fun _ kont => XS.iadd X'.here hx rfl (hb hby d_prog_37_method_2_257) rfl kont) ?_
                            show G (T'.setTop (mkF m 258 #[.val (.ref b), .val (.int (Int32.ofNat q0)), .val (.int (Int32.ofNat e8)), .val (.int (Int32.ofNat q)), .val (.int (Int32.ofNat (own_f xs (q)))), .val (.int (2 : Int32)), .val (.int s86_0), .val (.int s104_0), .val (.int (Int32.ofNat (own_f xs (q + 1)))), .val (.int (Int32.ofNat (q + 3)))] [(.int ((2 : Int32) + (1 : Int32))), (.int (Int32.ofNat q))]))
                            refine go (fun _ kont => XS.iadd X'.here hx rfl (hb hby d_prog_37_method_2_258) rfl kont) ?_
                            show G (T'.setTop (mkF m 259 #[.val (.ref b), .val (.int (Int32.ofNat q0)), .val (.int (Int32.ofNat e8)), .val (.int (Int32.ofNat q)), .val (.int (Int32.ofNat (own_f xs (q)))), .val (.int (2 : Int32)), .val (.int s86_0), .val (.int s104_0), .val (.int (Int32.ofNat (own_f xs (q + 1)))), .val (.int (Int32.ofNat (q + 3)))] [(.int ((Int32.ofNat q) + ((2 : Int32) + (1 : Int32))))]))
                            refine go (fun _ kont => XS.istoreN X'.here hx rfl (hb hby d_prog_37_method_2_259) rfl (l' := #[.val (.ref b), .val (.int (Int32.ofNat q0)), .val (.int (Int32.ofNat e8)), .val (.int ((Int32.ofNat q) + ((2 : Int32) + (1 : Int32)))), .val (.int (Int32.ofNat (own_f xs (q)))), .val (.int (2 : Int32)), .val (.int s86_0), .val (.int s104_0), .val (.int (Int32.ofNat (own_f xs (q + 1)))), .val (.int (Int32.ofNat (q + 3)))]) rfl kont) ?_
                            show G (T'.setTop (mkF m 260 #[.val (.ref b), .val (.int (Int32.ofNat q0)), .val (.int (Int32.ofNat e8)), .val (.int ((Int32.ofNat q) + ((2 : Int32) + (1 : Int32)))), .val (.int (Int32.ofNat (own_f xs (q)))), .val (.int (2 : Int32)), .val (.int s86_0), .val (.int s104_0), .val (.int (Int32.ofNat (own_f xs (q + 1)))), .val (.int (Int32.ofNat (q + 3)))] []))
                            refine go (fun _ kont => XS.goto X'.here hx rfl (pc0 := 260) (pc' := 2) rfl (hb hby d_prog_37_method_2_260) (by decide) (by decide) kont) ?_
                            show G (T'.setTop (mkF m 2 #[.val (.ref b), .val (.int (Int32.ofNat q0)), .val (.int (Int32.ofNat e8)), .val (.int ((Int32.ofNat q) + ((2 : Int32) + (1 : Int32)))), .val (.int (Int32.ofNat (own_f xs (q)))), .val (.int (2 : Int32)), .val (.int s86_0), .val (.int s104_0), .val (.int (Int32.ofNat (own_f xs (q + 1)))), .val (.int (Int32.ofNat (q + 3)))] []))
                            rw [show Int32.ofNat q + ((2 : Int32) + (1 : Int32)) = Int32.ofNat (q + 3) from own_addk q 3]
                            exact ih (q + 3) (by omega) (by omega) (hT.trans (own_T_step (N := 3) (by omega) he8 (by unfold own_N own_n; (repeat' split) <;> omega) (by decide))) _ _ _ _ _ _ (One.val rfl) (One.val rfl) (One.val rfl) (One.val rfl) (One.val rfl) (One.val rfl) _ X' e'
                          · refine go (fun _ kont => XS.icmpNo X'.here hx rfl (hb hby d_prog_37_method_2_242) rfl (feq hc242).1 kont) ?_
                            show G (T'.setTop (mkF m 245 #[.val (.ref b), .val (.int (Int32.ofNat q0)), .val (.int (Int32.ofNat e8)), .val (.int (Int32.ofNat q)), .val (.int (Int32.ofNat (own_f xs (q)))), .val (.int (2 : Int32)), .val (.int s86_0), .val (.int s104_0), .val (.int (Int32.ofNat (own_f xs (q + 1)))), .val (.int (Int32.ofNat (q + 2)))] []))
                            rw [show _ ↔ _ from own_m192' _ hb2] at hc242
                            refine go (fun _ kont => XS.iconst X'.here hx rfl (hb hby d_prog_37_method_2_245) kont) ?_
                            show G (T'.setTop (mkF m 246 #[.val (.ref b), .val (.int (Int32.ofNat q0)), .val (.int (Int32.ofNat e8)), .val (.int (Int32.ofNat q)), .val (.int (Int32.ofNat (own_f xs (q)))), .val (.int (2 : Int32)), .val (.int s86_0), .val (.int s104_0), .val (.int (Int32.ofNat (own_f xs (q + 1)))), .val (.int (Int32.ofNat (q + 2)))] [(.int (0 : Int32))]))
                            rw [hG]
                            exact own_retN X' hx (t := .boolean) Bd.returns (by simp) (hb hby d_prog_37_method_2_246) hlk (by decide) (by decide) ⟨by rw [hT, own_T_bad (by omega) (by unfold own_N own_n; (repeat' split) <;> omega)]; rfl, N0, e'⟩
                    · refine go (fun _ kont => XS.icmpNo X'.here hx rfl (hb hby d_prog_37_method_2_185) rfl (flt hc185).2.2.1 kont) ?_
                      show G (T'.setTop (mkF m 188 #[.val (.ref b), .val (.int (Int32.ofNat q0)), .val (.int (Int32.ofNat e8)), .val (.int (Int32.ofNat q)), .val (.int (Int32.ofNat (own_f xs (q)))), .val (.int (2 : Int32)), .val (.int s86_0), .val (.int s104_0), s8, s9] []))
                      rw [show (2 : Int32) < Int32.ofNat (e8 - q) ↔ 2 < e8 - q from own_ltO (d := 2) (k := e8 - q) (by omega) (by omega)] at hc185
                      refine go (fun _ kont => XS.iconst X'.here hx rfl (hb hby d_prog_37_method_2_188) kont) ?_
                      show G (T'.setTop (mkF m 189 #[.val (.ref b), .val (.int (Int32.ofNat q0)), .val (.int (Int32.ofNat e8)), .val (.int (Int32.ofNat q)), .val (.int (Int32.ofNat (own_f xs (q)))), .val (.int (2 : Int32)), .val (.int s86_0), .val (.int s104_0), s8, s9] [(.int (0 : Int32))]))
                      rw [hG]
                      exact own_retN X' hx (t := .boolean) Bd.returns (by simp) (hb hby d_prog_37_method_2_189) hlk (by decide) (by decide) ⟨by rw [hT, own_T_bad (by omega) (by unfold own_N own_n; (repeat' split) <;> omega)]; rfl, N0, e'⟩
                  by_cases hc104 : (Int32.ofNat (own_f xs (q))) = (237 : Int32)
                  · refine go (fun _ kont => XS.icmpNo X'.here hx rfl (hb hby d_prog_37_method_2_104) rfl (teq hc104).2 kont) ?_
                    show G (T'.setTop (mkF m 107 #[.val (.ref b), .val (.int (Int32.ofNat q0)), .val (.int (Int32.ofNat e8)), .val (.int (Int32.ofNat q)), .val (.int (Int32.ofNat (own_f xs (q)))), .val (.int (2 : Int32)), .val (.int s86_0), .val (.int (191 : Int32)), s8, s9] []))
                    refine go (fun _ kont => XS.sipush X'.here hx rfl (hb hby d_prog_37_method_2_107) kont) ?_
                    show G (T'.setTop (mkF m 110 #[.val (.ref b), .val (.int (Int32.ofNat q0)), .val (.int (Int32.ofNat e8)), .val (.int (Int32.ofNat q)), .val (.int (Int32.ofNat (own_f xs (q)))), .val (.int (2 : Int32)), .val (.int s86_0), .val (.int (191 : Int32)), s8, s9] [(.int (159 : Int32))]))
                    refine go (fun _ kont => XS.goto X'.here hx rfl (pc0 := 110) (pc' := 115) rfl (hb hby d_prog_37_method_2_110) (by decide) (by decide) kont) ?_
                    show G (T'.setTop (mkF m 115 #[.val (.ref b), .val (.int (Int32.ofNat q0)), .val (.int (Int32.ofNat e8)), .val (.int (Int32.ofNat q)), .val (.int (Int32.ofNat (own_f xs (q)))), .val (.int (2 : Int32)), .val (.int s86_0), .val (.int (191 : Int32)), s8, s9] [(.int (159 : Int32))]))
                    exact j6 _ (by first | exact (if_pos hc104).symm | (rw [if_pos hc104]; assumption))
                  · refine go (fun _ kont => XS.icmpYes X'.here hx rfl (pc0 := 104) (pc' := 113) rfl (hb hby d_prog_37_method_2_104) rfl (feq hc104).2 (by decide) (by decide) kont) ?_
                    show G (T'.setTop (mkF m 113 #[.val (.ref b), .val (.int (Int32.ofNat q0)), .val (.int (Int32.ofNat e8)), .val (.int (Int32.ofNat q)), .val (.int (Int32.ofNat (own_f xs (q)))), .val (.int (2 : Int32)), .val (.int s86_0), .val (.int (191 : Int32)), s8, s9] []))
                    refine go (fun _ kont => XS.iload X'.here hx rfl (hb hby d_prog_37_method_2_113) rfl  kont) ?_
                    show G (T'.setTop (mkF m 115 #[.val (.ref b), .val (.int (Int32.ofNat q0)), .val (.int (Int32.ofNat e8)), .val (.int (Int32.ofNat q)), .val (.int (Int32.ofNat (own_f xs (q)))), .val (.int (2 : Int32)), .val (.int s86_0), .val (.int (191 : Int32)), s8, s9] [(.int (191 : Int32))]))
                    exact j6 _ (by first | exact (if_neg hc104).symm | (rw [if_neg hc104]; assumption))
                by_cases hc86 : (Int32.ofNat (own_f xs (q))) = (224 : Int32)
                · refine go (fun _ kont => XS.icmpNo X'.here hx rfl (hb hby d_prog_37_method_2_86) rfl (teq hc86).2 kont) ?_
                  show G (T'.setTop (mkF m 89 #[.val (.ref b), .val (.int (Int32.ofNat q0)), .val (.int (Int32.ofNat e8)), .val (.int (Int32.ofNat q)), .val (.int (Int32.ofNat (own_f xs (q)))), .val (.int (2 : Int32)), .val (.int (128 : Int32)), .val (.int (191 : Int32)), s8, s9] []))
                  refine go (fun _ kont => XS.sipush X'.here hx rfl (hb hby d_prog_37_method_2_89) kont) ?_
                  show G (T'.setTop (mkF m 92 #[.val (.ref b), .val (.int (Int32.ofNat q0)), .val (.int (Int32.ofNat e8)), .val (.int (Int32.ofNat q)), .val (.int (Int32.ofNat (own_f xs (q)))), .val (.int (2 : Int32)), .val (.int (128 : Int32)), .val (.int (191 : Int32)), s8, s9] [(.int (160 : Int32))]))
                  refine go (fun _ kont => XS.goto X'.here hx rfl (pc0 := 92) (pc' := 97) rfl (hb hby d_prog_37_method_2_92) (by decide) (by decide) kont) ?_
                  show G (T'.setTop (mkF m 97 #[.val (.ref b), .val (.int (Int32.ofNat q0)), .val (.int (Int32.ofNat e8)), .val (.int (Int32.ofNat q)), .val (.int (Int32.ofNat (own_f xs (q)))), .val (.int (2 : Int32)), .val (.int (128 : Int32)), .val (.int (191 : Int32)), s8, s9] [(.int (160 : Int32))]))
                  exact j5 _ (by first | exact (if_pos hc86).symm | (rw [if_pos hc86]; assumption))
                · refine go (fun _ kont => XS.icmpYes X'.here hx rfl (pc0 := 86) (pc' := 95) rfl (hb hby d_prog_37_method_2_86) rfl (feq hc86).2 (by decide) (by decide) kont) ?_
                  show G (T'.setTop (mkF m 95 #[.val (.ref b), .val (.int (Int32.ofNat q0)), .val (.int (Int32.ofNat e8)), .val (.int (Int32.ofNat q)), .val (.int (Int32.ofNat (own_f xs (q)))), .val (.int (2 : Int32)), .val (.int (128 : Int32)), .val (.int (191 : Int32)), s8, s9] []))
                  refine go (fun _ kont => XS.iload X'.here hx rfl (hb hby d_prog_37_method_2_95) rfl  kont) ?_
                  show G (T'.setTop (mkF m 97 #[.val (.ref b), .val (.int (Int32.ofNat q0)), .val (.int (Int32.ofNat e8)), .val (.int (Int32.ofNat q)), .val (.int (Int32.ofNat (own_f xs (q)))), .val (.int (2 : Int32)), .val (.int (128 : Int32)), .val (.int (191 : Int32)), s8, s9] [(.int (128 : Int32))]))
                  exact j5 _ (by first | exact (if_neg hc86).symm | (rw [if_neg hc86]; assumption))
          · refine go (fun _ kont => XS.icmpNo X'.here hx rfl (hb hby d_prog_37_method_2_45) rfl (flt hc45).1 kont) ?_
            show G (T'.setTop (mkF m 48 #[.val (.ref b), .val (.int (Int32.ofNat q0)), .val (.int (Int32.ofNat e8)), .val (.int (Int32.ofNat q)), .val (.int (Int32.ofNat (own_f xs (q)))), s5, .val (.int (128 : Int32)), .val (.int (191 : Int32)), s8, s9] []))
            rw [show Int32.ofNat (own_f xs (q)) < (194 : Int32) ↔ own_f xs (q) < 194 from own_ltO (d := own_f xs (q)) (k := 194) (by omega) (by omega)] at hc45
            refine go (fun _ kont => XS.iload X'.here hx rfl (hb hby d_prog_37_method_2_48) rfl  kont) ?_
            show G (T'.setTop (mkF m 50 #[.val (.ref b), .val (.int (Int32.ofNat q0)), .val (.int (Int32.ofNat e8)), .val (.int (Int32.ofNat q)), .val (.int (Int32.ofNat (own_f xs (q)))), s5, .val (.int (128 : Int32)), .val (.int (191 : Int32)), s8, s9] [(.int (Int32.ofNat (own_f xs (q))))]))
            refine go (fun _ kont => XS.sipush X'.here hx rfl (hb hby d_prog_37_method_2_50) kont) ?_
            show G (T'.setTop (mkF m 53 #[.val (.ref b), .val (.int (Int32.ofNat q0)), .val (.int (Int32.ofNat e8)), .val (.int (Int32.ofNat q)), .val (.int (Int32.ofNat (own_f xs (q)))), s5, .val (.int (128 : Int32)), .val (.int (191 : Int32)), s8, s9] [(.int (223 : Int32)), (.int (Int32.ofNat (own_f xs (q))))]))
            by_cases hc53 : (223 : Int32) < (Int32.ofNat (own_f xs (q)))
            · refine go (fun _ kont => XS.icmpYes X'.here hx rfl (pc0 := 53) (pc' := 62) rfl (hb hby d_prog_37_method_2_53) rfl (tlt hc53).2.2.1 (by decide) (by decide) kont) ?_
              show G (T'.setTop (mkF m 62 #[.val (.ref b), .val (.int (Int32.ofNat q0)), .val (.int (Int32.ofNat e8)), .val (.int (Int32.ofNat q)), .val (.int (Int32.ofNat (own_f xs (q)))), s5, .val (.int (128 : Int32)), .val (.int (191 : Int32)), s8, s9] []))
              rw [show (223 : Int32) < Int32.ofNat (own_f xs (q)) ↔ 223 < own_f xs (q) from own_ltO (d := 223) (k := own_f xs (q)) (by omega) (by omega)] at hc53
              refine go (fun _ kont => XS.iload X'.here hx rfl (hb hby d_prog_37_method_2_62) rfl  kont) ?_
              show G (T'.setTop (mkF m 64 #[.val (.ref b), .val (.int (Int32.ofNat q0)), .val (.int (Int32.ofNat e8)), .val (.int (Int32.ofNat q)), .val (.int (Int32.ofNat (own_f xs (q)))), s5, .val (.int (128 : Int32)), .val (.int (191 : Int32)), s8, s9] [(.int (Int32.ofNat (own_f xs (q))))]))
              refine go (fun _ kont => XS.sipush X'.here hx rfl (hb hby d_prog_37_method_2_64) kont) ?_
              show G (T'.setTop (mkF m 67 #[.val (.ref b), .val (.int (Int32.ofNat q0)), .val (.int (Int32.ofNat e8)), .val (.int (Int32.ofNat q)), .val (.int (Int32.ofNat (own_f xs (q)))), s5, .val (.int (128 : Int32)), .val (.int (191 : Int32)), s8, s9] [(.int (224 : Int32)), (.int (Int32.ofNat (own_f xs (q))))]))
              by_cases hc67 : (Int32.ofNat (own_f xs (q))) < (224 : Int32)
              · refine go (fun _ kont => XS.icmpYes X'.here hx rfl (pc0 := 67) (pc' := 120) rfl (hb hby d_prog_37_method_2_67) rfl (tlt hc67).1 (by decide) (by decide) kont) ?_
                show G (T'.setTop (mkF m 120 #[.val (.ref b), .val (.int (Int32.ofNat q0)), .val (.int (Int32.ofNat e8)), .val (.int (Int32.ofNat q)), .val (.int (Int32.ofNat (own_f xs (q)))), s5, .val (.int (128 : Int32)), .val (.int (191 : Int32)), s8, s9] []))
                rw [show Int32.ofNat (own_f xs (q)) < (224 : Int32) ↔ own_f xs (q) < 224 from own_ltO (d := own_f xs (q)) (k := 224) (by omega) (by omega)] at hc67
                refine go (fun _ kont => XS.iload X'.here hx rfl (hb hby d_prog_37_method_2_120) rfl  kont) ?_
                show G (T'.setTop (mkF m 122 #[.val (.ref b), .val (.int (Int32.ofNat q0)), .val (.int (Int32.ofNat e8)), .val (.int (Int32.ofNat q)), .val (.int (Int32.ofNat (own_f xs (q)))), s5, .val (.int (128 : Int32)), .val (.int (191 : Int32)), s8, s9] [(.int (Int32.ofNat (own_f xs (q))))]))
                refine go (fun _ kont => XS.sipush X'.here hx rfl (hb hby d_prog_37_method_2_122) kont) ?_
                show G (T'.setTop (mkF m 125 #[.val (.ref b), .val (.int (Int32.ofNat q0)), .val (.int (Int32.ofNat e8)), .val (.int (Int32.ofNat q)), .val (.int (Int32.ofNat (own_f xs (q)))), s5, .val (.int (128 : Int32)), .val (.int (191 : Int32)), s8, s9] [(.int (240 : Int32)), (.int (Int32.ofNat (own_f xs (q))))]))
                by_cases hc125 : (Int32.ofNat (own_f xs (q))) < (240 : Int32)
                · refine go (fun _ kont => XS.icmpYes X'.here hx rfl (pc0 := 125) (pc' := 178) rfl (hb hby d_prog_37_method_2_125) rfl (tlt hc125).1 (by decide) (by decide) kont) ?_
                  show G (T'.setTop (mkF m 178 #[.val (.ref b), .val (.int (Int32.ofNat q0)), .val (.int (Int32.ofNat e8)), .val (.int (Int32.ofNat q)), .val (.int (Int32.ofNat (own_f xs (q)))), s5, .val (.int (128 : Int32)), .val (.int (191 : Int32)), s8, s9] []))
                  rw [show Int32.ofNat (own_f xs (q)) < (240 : Int32) ↔ own_f xs (q) < 240 from own_ltO (d := own_f xs (q)) (k := 240) (by omega) (by omega)] at hc125
                  refine go (fun _ kont => XS.iconst X'.here hx rfl (hb hby d_prog_37_method_2_178) kont) ?_
                  show G (T'.setTop (mkF m 179 #[.val (.ref b), .val (.int (Int32.ofNat q0)), .val (.int (Int32.ofNat e8)), .val (.int (Int32.ofNat q)), .val (.int (Int32.ofNat (own_f xs (q)))), s5, .val (.int (128 : Int32)), .val (.int (191 : Int32)), s8, s9] [(.int (0 : Int32))]))
                  rw [hG]
                  exact own_retN X' hx (t := .boolean) Bd.returns (by simp) (hb hby d_prog_37_method_2_179) hlk (by decide) (by decide) ⟨by rw [hT, own_T_bad (by omega) (by unfold own_N own_n; (repeat' split) <;> omega)]; rfl, N0, e'⟩
                · refine go (fun _ kont => XS.icmpNo X'.here hx rfl (hb hby d_prog_37_method_2_125) rfl (flt hc125).1 kont) ?_
                  show G (T'.setTop (mkF m 128 #[.val (.ref b), .val (.int (Int32.ofNat q0)), .val (.int (Int32.ofNat e8)), .val (.int (Int32.ofNat q)), .val (.int (Int32.ofNat (own_f xs (q)))), s5, .val (.int (128 : Int32)), .val (.int (191 : Int32)), s8, s9] []))
                  rw [show Int32.ofNat (own_f xs (q)) < (240 : Int32) ↔ own_f xs (q) < 240 from own_ltO (d := own_f xs (q)) (k := 240) (by omega) (by omega)] at hc125
                  refine go (fun _ kont => XS.iload X'.here hx rfl (hb hby d_prog_37_method_2_128) rfl  kont) ?_
                  show G (T'.setTop (mkF m 130 #[.val (.ref b), .val (.int (Int32.ofNat q0)), .val (.int (Int32.ofNat e8)), .val (.int (Int32.ofNat q)), .val (.int (Int32.ofNat (own_f xs (q)))), s5, .val (.int (128 : Int32)), .val (.int (191 : Int32)), s8, s9] [(.int (Int32.ofNat (own_f xs (q))))]))
                  refine go (fun _ kont => XS.sipush X'.here hx rfl (hb hby d_prog_37_method_2_130) kont) ?_
                  show G (T'.setTop (mkF m 133 #[.val (.ref b), .val (.int (Int32.ofNat q0)), .val (.int (Int32.ofNat e8)), .val (.int (Int32.ofNat q)), .val (.int (Int32.ofNat (own_f xs (q)))), s5, .val (.int (128 : Int32)), .val (.int (191 : Int32)), s8, s9] [(.int (244 : Int32)), (.int (Int32.ofNat (own_f xs (q))))]))
                  by_cases hc133 : (244 : Int32) < (Int32.ofNat (own_f xs (q)))
                  · refine go (fun _ kont => XS.icmpYes X'.here hx rfl (pc0 := 133) (pc' := 178) rfl (hb hby d_prog_37_method_2_133) rfl (tlt hc133).2.2.1 (by decide) (by decide) kont) ?_
                    show G (T'.setTop (mkF m 178 #[.val (.ref b), .val (.int (Int32.ofNat q0)), .val (.int (Int32.ofNat e8)), .val (.int (Int32.ofNat q)), .val (.int (Int32.ofNat (own_f xs (q)))), s5, .val (.int (128 : Int32)), .val (.int (191 : Int32)), s8, s9] []))
                    rw [show (244 : Int32) < Int32.ofNat (own_f xs (q)) ↔ 244 < own_f xs (q) from own_ltO (d := 244) (k := own_f xs (q)) (by omega) (by omega)] at hc133
                    refine go (fun _ kont => XS.iconst X'.here hx rfl (hb hby d_prog_37_method_2_178) kont) ?_
                    show G (T'.setTop (mkF m 179 #[.val (.ref b), .val (.int (Int32.ofNat q0)), .val (.int (Int32.ofNat e8)), .val (.int (Int32.ofNat q)), .val (.int (Int32.ofNat (own_f xs (q)))), s5, .val (.int (128 : Int32)), .val (.int (191 : Int32)), s8, s9] [(.int (0 : Int32))]))
                    rw [hG]
                    exact own_retN X' hx (t := .boolean) Bd.returns (by simp) (hb hby d_prog_37_method_2_179) hlk (by decide) (by decide) ⟨by rw [hT, own_T_bad (by omega) (by unfold own_N own_n; (repeat' split) <;> omega)]; rfl, N0, e'⟩
                  · refine go (fun _ kont => XS.icmpNo X'.here hx rfl (hb hby d_prog_37_method_2_133) rfl (flt hc133).2.2.1 kont) ?_
                    show G (T'.setTop (mkF m 136 #[.val (.ref b), .val (.int (Int32.ofNat q0)), .val (.int (Int32.ofNat e8)), .val (.int (Int32.ofNat q)), .val (.int (Int32.ofNat (own_f xs (q)))), s5, .val (.int (128 : Int32)), .val (.int (191 : Int32)), s8, s9] []))
                    rw [show (244 : Int32) < Int32.ofNat (own_f xs (q)) ↔ 244 < own_f xs (q) from own_ltO (d := 244) (k := own_f xs (q)) (by omega) (by omega)] at hc133
                    refine go (fun _ kont => XS.iconst X'.here hx rfl (hb hby d_prog_37_method_2_136) kont) ?_
                    show G (T'.setTop (mkF m 137 #[.val (.ref b), .val (.int (Int32.ofNat q0)), .val (.int (Int32.ofNat e8)), .val (.int (Int32.ofNat q)), .val (.int (Int32.ofNat (own_f xs (q)))), s5, .val (.int (128 : Int32)), .val (.int (191 : Int32)), s8, s9] [(.int (3 : Int32))]))
                    refine go (fun _ kont => XS.istore X'.here hx rfl (hb hby d_prog_37_method_2_137) rfl (l' := #[.val (.ref b), .val (.int (Int32.ofNat q0)), .val (.int (Int32.ofNat e8)), .val (.int (Int32.ofNat q)), .val (.int (Int32.ofNat (own_f xs (q)))), .val (.int (3 : Int32)), .val (.int (128 : Int32)), .val (.int (191 : Int32)), s8, s9]) (by rcases hs5 with rfl | ⟨w, rfl, hw⟩ <;> first | rfl | (cases w <;> first | rfl | (simp [Value.category] at hw))) kont) ?_
                    show G (T'.setTop (mkF m 139 #[.val (.ref b), .val (.int (Int32.ofNat q0)), .val (.int (Int32.ofNat e8)), .val (.int (Int32.ofNat q)), .val (.int (Int32.ofNat (own_f xs (q)))), .val (.int (3 : Int32)), .val (.int (128 : Int32)), .val (.int (191 : Int32)), s8, s9] []))
                    refine go (fun _ kont => XS.iload X'.here hx rfl (hb hby d_prog_37_method_2_139) rfl  kont) ?_
                    show G (T'.setTop (mkF m 141 #[.val (.ref b), .val (.int (Int32.ofNat q0)), .val (.int (Int32.ofNat e8)), .val (.int (Int32.ofNat q)), .val (.int (Int32.ofNat (own_f xs (q)))), .val (.int (3 : Int32)), .val (.int (128 : Int32)), .val (.int (191 : Int32)), s8, s9] [(.int (Int32.ofNat (own_f xs (q))))]))
                    refine go (fun _ kont => XS.sipush X'.here hx rfl (hb hby d_prog_37_method_2_141) kont) ?_
                    show G (T'.setTop (mkF m 144 #[.val (.ref b), .val (.int (Int32.ofNat q0)), .val (.int (Int32.ofNat e8)), .val (.int (Int32.ofNat q)), .val (.int (Int32.ofNat (own_f xs (q)))), .val (.int (3 : Int32)), .val (.int (128 : Int32)), .val (.int (191 : Int32)), s8, s9] [(.int (240 : Int32)), (.int (Int32.ofNat (own_f xs (q))))]))
                    have j7 : ∀ (s144_0 : Int32), s144_0 = (if (Int32.ofNat (own_f xs (q))) = (240 : Int32) then (144 : Int32) else (128 : Int32)) → G (T'.setTop (mkF m 155 #[.val (.ref b), .val (.int (Int32.ofNat q0)), .val (.int (Int32.ofNat e8)), .val (.int (Int32.ofNat q)), .val (.int (Int32.ofNat (own_f xs (q)))), .val (.int (3 : Int32)), .val (.int (128 : Int32)), .val (.int (191 : Int32)), s8, s9] [(.int s144_0)])) := by
                      intro s144_0 hs144_0
                      refine go (fun _ kont => XS.istore X'.here hx rfl (hb hby d_prog_37_method_2_155) rfl (l' := #[.val (.ref b), .val (.int (Int32.ofNat q0)), .val (.int (Int32.ofNat e8)), .val (.int (Int32.ofNat q)), .val (.int (Int32.ofNat (own_f xs (q)))), .val (.int (3 : Int32)), .val (.int s144_0), .val (.int (191 : Int32)), s8, s9]) rfl kont) ?_
                      show G (T'.setTop (mkF m 157 #[.val (.ref b), .val (.int (Int32.ofNat q0)), .val (.int (Int32.ofNat e8)), .val (.int (Int32.ofNat q)), .val (.int (Int32.ofNat (own_f xs (q)))), .val (.int (3 : Int32)), .val (.int s144_0), .val (.int (191 : Int32)), s8, s9] []))
                      refine go (fun _ kont => XS.iload X'.here hx rfl (hb hby d_prog_37_method_2_157) rfl  kont) ?_
                      show G (T'.setTop (mkF m 159 #[.val (.ref b), .val (.int (Int32.ofNat q0)), .val (.int (Int32.ofNat e8)), .val (.int (Int32.ofNat q)), .val (.int (Int32.ofNat (own_f xs (q)))), .val (.int (3 : Int32)), .val (.int s144_0), .val (.int (191 : Int32)), s8, s9] [(.int (Int32.ofNat (own_f xs (q))))]))
                      refine go (fun _ kont => XS.sipush X'.here hx rfl (hb hby d_prog_37_method_2_159) kont) ?_
                      show G (T'.setTop (mkF m 162 #[.val (.ref b), .val (.int (Int32.ofNat q0)), .val (.int (Int32.ofNat e8)), .val (.int (Int32.ofNat q)), .val (.int (Int32.ofNat (own_f xs (q)))), .val (.int (3 : Int32)), .val (.int s144_0), .val (.int (191 : Int32)), s8, s9] [(.int (244 : Int32)), (.int (Int32.ofNat (own_f xs (q))))]))
                      have j8 : ∀ (s162_0 : Int32), s162_0 = (if (Int32.ofNat (own_f xs (q))) = (244 : Int32) then (143 : Int32) else (191 : Int32)) → G (T'.setTop (mkF m 173 #[.val (.ref b), .val (.int (Int32.ofNat q0)), .val (.int (Int32.ofNat e8)), .val (.int (Int32.ofNat q)), .val (.int (Int32.ofNat (own_f xs (q)))), .val (.int (3 : Int32)), .val (.int s144_0), .val (.int (191 : Int32)), s8, s9] [(.int s162_0)])) := by
                        intro s162_0 hs162_0
                        refine go (fun _ kont => XS.istore X'.here hx rfl (hb hby d_prog_37_method_2_173) rfl (l' := #[.val (.ref b), .val (.int (Int32.ofNat q0)), .val (.int (Int32.ofNat e8)), .val (.int (Int32.ofNat q)), .val (.int (Int32.ofNat (own_f xs (q)))), .val (.int (3 : Int32)), .val (.int s144_0), .val (.int s162_0), s8, s9]) rfl kont) ?_
                        show G (T'.setTop (mkF m 175 #[.val (.ref b), .val (.int (Int32.ofNat q0)), .val (.int (Int32.ofNat e8)), .val (.int (Int32.ofNat q)), .val (.int (Int32.ofNat (own_f xs (q)))), .val (.int (3 : Int32)), .val (.int s144_0), .val (.int s162_0), s8, s9] []))
                        refine go (fun _ kont => XS.goto X'.here hx rfl (pc0 := 175) (pc' := 180) rfl (hb hby d_prog_37_method_2_175) (by decide) (by decide) kont) ?_
                        show G (T'.setTop (mkF m 180 #[.val (.ref b), .val (.int (Int32.ofNat q0)), .val (.int (Int32.ofNat e8)), .val (.int (Int32.ofNat q)), .val (.int (Int32.ofNat (own_f xs (q)))), .val (.int (3 : Int32)), .val (.int s144_0), .val (.int s162_0), s8, s9] []))
                        obtain ⟨lo, hlo, hlo1, hlo2⟩ : ∃ z : Nat, s144_0 = Int32.ofNat z ∧ (own_f xs (q) = 240 → z = 144) ∧ (own_f xs (q) ≠ 240 → z = 128) := by
                          rw [hs144_0]
                          by_cases hz : own_f xs (q) = 240
                          · exact ⟨144, by rw [if_pos (show Int32.ofNat (own_f xs (q)) = (240 : Int32) from by rw [hz]; rfl)]; rfl, fun _ => rfl, fun z => absurd hz z⟩
                          · exact ⟨128, by rw [if_neg (show ¬ (Int32.ofNat (own_f xs (q)) = (240 : Int32)) from fun z => hz ((own_eqO (d := own_f xs (q)) (k := 240) (by omega) (by omega)).mp z))]; rfl, fun z => absurd z hz, fun _ => rfl⟩
                        obtain ⟨hi, hhi, hhi1, hhi2⟩ : ∃ z : Nat, s162_0 = Int32.ofNat z ∧ (own_f xs (q) = 244 → z = 143) ∧ (own_f xs (q) ≠ 244 → z = 191) := by
                          rw [hs162_0]
                          by_cases hz : own_f xs (q) = 244
                          · exact ⟨143, by rw [if_pos (show Int32.ofNat (own_f xs (q)) = (244 : Int32) from by rw [hz]; rfl)]; rfl, fun _ => rfl, fun z => absurd hz z⟩
                          · exact ⟨191, by rw [if_neg (show ¬ (Int32.ofNat (own_f xs (q)) = (244 : Int32)) from fun z => hz ((own_eqO (d := own_f xs (q)) (k := 244) (by omega) (by omega)).mp z))]; rfl, fun z => absurd z hz, fun _ => rfl⟩
                        refine go (fun _ kont => XS.iloadN X'.here hx rfl (hb hby d_prog_37_method_2_180) rfl  kont) ?_
                        show G (T'.setTop (mkF m 181 #[.val (.ref b), .val (.int (Int32.ofNat q0)), .val (.int (Int32.ofNat e8)), .val (.int (Int32.ofNat q)), .val (.int (Int32.ofNat (own_f xs (q)))), .val (.int (3 : Int32)), .val (.int s144_0), .val (.int s162_0), s8, s9] [(.int (Int32.ofNat e8))]))
                        refine go (fun _ kont => XS.iloadN X'.here hx rfl (hb hby d_prog_37_method_2_181) rfl  kont) ?_
                        show G (T'.setTop (mkF m 182 #[.val (.ref b), .val (.int (Int32.ofNat q0)), .val (.int (Int32.ofNat e8)), .val (.int (Int32.ofNat q)), .val (.int (Int32.ofNat (own_f xs (q)))), .val (.int (3 : Int32)), .val (.int s144_0), .val (.int s162_0), s8, s9] [(.int (Int32.ofNat q)), (.int (Int32.ofNat e8))]))
                        refine go (fun _ kont => XS.isub X'.here hx rfl (hb hby d_prog_37_method_2_182) rfl kont) ?_
                        show G (T'.setTop (mkF m 183 #[.val (.ref b), .val (.int (Int32.ofNat q0)), .val (.int (Int32.ofNat e8)), .val (.int (Int32.ofNat q)), .val (.int (Int32.ofNat (own_f xs (q)))), .val (.int (3 : Int32)), .val (.int s144_0), .val (.int s162_0), s8, s9] [(.int ((Int32.ofNat e8) - (Int32.ofNat q)))]))
                        rw [own_subk (p := e8) (k := q) (by omega)]
                        show G (T'.setTop (mkF m 183 #[.val (.ref b), .val (.int (Int32.ofNat q0)), .val (.int (Int32.ofNat e8)), .val (.int (Int32.ofNat q)), .val (.int (Int32.ofNat (own_f xs (q)))), .val (.int (3 : Int32)), .val (.int s144_0), .val (.int s162_0), s8, s9] [(.int (Int32.ofNat (e8 - q)))]))
                        refine go (fun _ kont => XS.iload X'.here hx rfl (hb hby d_prog_37_method_2_183) rfl  kont) ?_
                        show G (T'.setTop (mkF m 185 #[.val (.ref b), .val (.int (Int32.ofNat q0)), .val (.int (Int32.ofNat e8)), .val (.int (Int32.ofNat q)), .val (.int (Int32.ofNat (own_f xs (q)))), .val (.int (3 : Int32)), .val (.int s144_0), .val (.int s162_0), s8, s9] [(.int (3 : Int32)), (.int (Int32.ofNat (e8 - q)))]))
                        by_cases hc185 : (3 : Int32) < (Int32.ofNat (e8 - q))
                        · refine go (fun _ kont => XS.icmpYes X'.here hx rfl (pc0 := 185) (pc' := 190) rfl (hb hby d_prog_37_method_2_185) rfl (tlt hc185).2.2.1 (by decide) (by decide) kont) ?_
                          show G (T'.setTop (mkF m 190 #[.val (.ref b), .val (.int (Int32.ofNat q0)), .val (.int (Int32.ofNat e8)), .val (.int (Int32.ofNat q)), .val (.int (Int32.ofNat (own_f xs (q)))), .val (.int (3 : Int32)), .val (.int s144_0), .val (.int s162_0), s8, s9] []))
                          rw [show (3 : Int32) < Int32.ofNat (e8 - q) ↔ 3 < e8 - q from own_ltO (d := 3) (k := e8 - q) (by omega) (by omega)] at hc185
                          refine go (fun _ kont => XS.aloadN X'.here hx rfl (hb hby d_prog_37_method_2_190) rfl rfl kont) ?_
                          show G (T'.setTop (mkF m 191 #[.val (.ref b), .val (.int (Int32.ofNat q0)), .val (.int (Int32.ofNat e8)), .val (.int (Int32.ofNat q)), .val (.int (Int32.ofNat (own_f xs (q)))), .val (.int (3 : Int32)), .val (.int s144_0), .val (.int s162_0), s8, s9] [(.ref b)]))
                          refine go (fun _ kont => XS.iloadN X'.here hx rfl (hb hby d_prog_37_method_2_191) rfl  kont) ?_
                          show G (T'.setTop (mkF m 192 #[.val (.ref b), .val (.int (Int32.ofNat q0)), .val (.int (Int32.ofNat e8)), .val (.int (Int32.ofNat q)), .val (.int (Int32.ofNat (own_f xs (q)))), .val (.int (3 : Int32)), .val (.int s144_0), .val (.int s162_0), s8, s9] [(.int (Int32.ofNat q)), (.ref b)]))
                          refine go (fun _ kont => XS.iconst X'.here hx rfl (hb hby d_prog_37_method_2_192) kont) ?_
                          show G (T'.setTop (mkF m 193 #[.val (.ref b), .val (.int (Int32.ofNat q0)), .val (.int (Int32.ofNat e8)), .val (.int (Int32.ofNat q)), .val (.int (Int32.ofNat (own_f xs (q)))), .val (.int (3 : Int32)), .val (.int s144_0), .val (.int s162_0), s8, s9] [(.int (1 : Int32)), (.int (Int32.ofNat q)), (.ref b)]))
                          refine go (fun _ kont => XS.iadd X'.here hx rfl (hb hby d_prog_37_method_2_193) rfl kont) ?_
                          show G (T'.setTop (mkF m 194 #[.val (.ref b), .val (.int (Int32.ofNat q0)), .val (.int (Int32.ofNat e8)), .val (.int (Int32.ofNat q)), .val (.int (Int32.ofNat (own_f xs (q)))), .val (.int (3 : Int32)), .val (.int s144_0), .val (.int s162_0), s8, s9] [(.int ((Int32.ofNat q) + (1 : Int32))), (.ref b)]))
                          rw [show Int32.ofNat q + (1 : Int32) = Int32.ofNat (q + 1) from own_addk q 1]
                          show G (T'.setTop (mkF m 194 #[.val (.ref b), .val (.int (Int32.ofNat q0)), .val (.int (Int32.ofNat e8)), .val (.int (Int32.ofNat q)), .val (.int (Int32.ofNat (own_f xs (q)))), .val (.int (3 : Int32)), .val (.int s144_0), .val (.int s162_0), s8, s9] [(.int (Int32.ofNat (q + 1))), (.ref b)]))
                          refine go (fun _ kont => X'.baloadBytes hx (j := (Int32.ofNat (q + 1))) (v := (.int (xs.getD (q + 1) 0))) (by rw [e']; exact Ar.1) (State.isArrayOf_alike hZ.alike Ar.2.1) Ar.2.2 (own_hink Sl (own_neg (by rw [own_ofN (by omega)]; omega)) (own_tnO (by omega)) (k := q + 1) (by rw [List.length_map]; omega)) (own_hatk Sl (own_tnO (by omega)) (own_atI (k := q + 1) (by omega))) (g := (mkF m 194 #[.val (.ref b), .val (.int (Int32.ofNat q0)), .val (.int (Int32.ofNat e8)), .val (.int (Int32.ofNat q)), .val (.int (Int32.ofNat (own_f xs (q)))), .val (.int (3 : Int32)), .val (.int s144_0), .val (.int s162_0), s8, s9] [(.int (Int32.ofNat (q + 1))), (.ref b)])) rfl rfl (hb hby d_prog_37_method_2_194) _ kont) ?_
                          show G (T'.setTop (mkF m 195 #[.val (.ref b), .val (.int (Int32.ofNat q0)), .val (.int (Int32.ofNat e8)), .val (.int (Int32.ofNat q)), .val (.int (Int32.ofNat (own_f xs (q)))), .val (.int (3 : Int32)), .val (.int s144_0), .val (.int s162_0), s8, s9] [(.int (xs.getD (q + 1) 0))]))
                          refine go (fun _ kont => XS.sipush X'.here hx rfl (hb hby d_prog_37_method_2_195) kont) ?_
                          show G (T'.setTop (mkF m 198 #[.val (.ref b), .val (.int (Int32.ofNat q0)), .val (.int (Int32.ofNat e8)), .val (.int (Int32.ofNat q)), .val (.int (Int32.ofNat (own_f xs (q)))), .val (.int (3 : Int32)), .val (.int s144_0), .val (.int s162_0), s8, s9] [(.int (255 : Int32)), (.int (xs.getD (q + 1) 0))]))
                          refine go (fun _ kont => XS.iand X'.here hx rfl (hb hby d_prog_37_method_2_198) rfl kont) ?_
                          show G (T'.setTop (mkF m 199 #[.val (.ref b), .val (.int (Int32.ofNat q0)), .val (.int (Int32.ofNat e8)), .val (.int (Int32.ofNat q)), .val (.int (Int32.ofNat (own_f xs (q)))), .val (.int (3 : Int32)), .val (.int s144_0), .val (.int s162_0), s8, s9] [(.int ((xs.getD (q + 1) 0) &&& (255 : Int32)))]))
                          rw [own_fe xs (q + 1)]
                          show G (T'.setTop (mkF m 199 #[.val (.ref b), .val (.int (Int32.ofNat q0)), .val (.int (Int32.ofNat e8)), .val (.int (Int32.ofNat q)), .val (.int (Int32.ofNat (own_f xs (q)))), .val (.int (3 : Int32)), .val (.int s144_0), .val (.int s162_0), s8, s9] [(.int (Int32.ofNat (own_f xs (q + 1))))]))
                          refine go (fun _ kont => XS.istore X'.here hx rfl (hb hby d_prog_37_method_2_199) rfl (l' := #[.val (.ref b), .val (.int (Int32.ofNat q0)), .val (.int (Int32.ofNat e8)), .val (.int (Int32.ofNat q)), .val (.int (Int32.ofNat (own_f xs (q)))), .val (.int (3 : Int32)), .val (.int s144_0), .val (.int s162_0), .val (.int (Int32.ofNat (own_f xs (q + 1)))), s9]) (by rcases hs8 with rfl | ⟨w, rfl, hw⟩ <;> first | rfl | (cases w <;> first | rfl | (simp [Value.category] at hw))) kont) ?_
                          show G (T'.setTop (mkF m 201 #[.val (.ref b), .val (.int (Int32.ofNat q0)), .val (.int (Int32.ofNat e8)), .val (.int (Int32.ofNat q)), .val (.int (Int32.ofNat (own_f xs (q)))), .val (.int (3 : Int32)), .val (.int s144_0), .val (.int s162_0), .val (.int (Int32.ofNat (own_f xs (q + 1)))), s9] []))
                          refine go (fun _ kont => XS.iload X'.here hx rfl (hb hby d_prog_37_method_2_201) rfl  kont) ?_
                          show G (T'.setTop (mkF m 203 #[.val (.ref b), .val (.int (Int32.ofNat q0)), .val (.int (Int32.ofNat e8)), .val (.int (Int32.ofNat q)), .val (.int (Int32.ofNat (own_f xs (q)))), .val (.int (3 : Int32)), .val (.int s144_0), .val (.int s162_0), .val (.int (Int32.ofNat (own_f xs (q + 1)))), s9] [(.int (Int32.ofNat (own_f xs (q + 1))))]))
                          refine go (fun _ kont => XS.iload X'.here hx rfl (hb hby d_prog_37_method_2_203) rfl  kont) ?_
                          show G (T'.setTop (mkF m 205 #[.val (.ref b), .val (.int (Int32.ofNat q0)), .val (.int (Int32.ofNat e8)), .val (.int (Int32.ofNat q)), .val (.int (Int32.ofNat (own_f xs (q)))), .val (.int (3 : Int32)), .val (.int s144_0), .val (.int s162_0), .val (.int (Int32.ofNat (own_f xs (q + 1)))), s9] [(.int s144_0), (.int (Int32.ofNat (own_f xs (q + 1))))]))
                          by_cases hc205 : (Int32.ofNat (own_f xs (q + 1))) < s144_0
                          · refine go (fun _ kont => XS.icmpYes X'.here hx rfl (pc0 := 205) (pc' := 215) rfl (hb hby d_prog_37_method_2_205) rfl (tlt hc205).1 (by decide) (by decide) kont) ?_
                            show G (T'.setTop (mkF m 215 #[.val (.ref b), .val (.int (Int32.ofNat q0)), .val (.int (Int32.ofNat e8)), .val (.int (Int32.ofNat q)), .val (.int (Int32.ofNat (own_f xs (q)))), .val (.int (3 : Int32)), .val (.int s144_0), .val (.int s162_0), .val (.int (Int32.ofNat (own_f xs (q + 1)))), s9] []))
                            rw [hlo, show Int32.ofNat (own_f xs (q + 1)) < Int32.ofNat lo ↔ own_f xs (q + 1) < lo from own_ltO (d := own_f xs (q + 1)) (k := lo) (by omega) (by first | omega | (split <;> omega))] at hc205
                            refine go (fun _ kont => XS.iconst X'.here hx rfl (hb hby d_prog_37_method_2_215) kont) ?_
                            show G (T'.setTop (mkF m 216 #[.val (.ref b), .val (.int (Int32.ofNat q0)), .val (.int (Int32.ofNat e8)), .val (.int (Int32.ofNat q)), .val (.int (Int32.ofNat (own_f xs (q)))), .val (.int (3 : Int32)), .val (.int s144_0), .val (.int s162_0), .val (.int (Int32.ofNat (own_f xs (q + 1)))), s9] [(.int (0 : Int32))]))
                            rw [hG]
                            exact own_retN X' hx (t := .boolean) Bd.returns (by simp) (hb hby d_prog_37_method_2_216) hlk (by decide) (by decide) ⟨by rw [hT, own_T_bad (by omega) (by unfold own_N own_n; (repeat' split) <;> omega)]; rfl, N0, e'⟩
                          · refine go (fun _ kont => XS.icmpNo X'.here hx rfl (hb hby d_prog_37_method_2_205) rfl (flt hc205).1 kont) ?_
                            show G (T'.setTop (mkF m 208 #[.val (.ref b), .val (.int (Int32.ofNat q0)), .val (.int (Int32.ofNat e8)), .val (.int (Int32.ofNat q)), .val (.int (Int32.ofNat (own_f xs (q)))), .val (.int (3 : Int32)), .val (.int s144_0), .val (.int s162_0), .val (.int (Int32.ofNat (own_f xs (q + 1)))), s9] []))
                            rw [hlo, show Int32.ofNat (own_f xs (q + 1)) < Int32.ofNat lo ↔ own_f xs (q + 1) < lo from own_ltO (d := own_f xs (q + 1)) (k := lo) (by omega) (by first | omega | (split <;> omega))] at hc205
                            refine go (fun _ kont => XS.iload X'.here hx rfl (hb hby d_prog_37_method_2_208) rfl  kont) ?_
                            show G (T'.setTop (mkF m 210 #[.val (.ref b), .val (.int (Int32.ofNat q0)), .val (.int (Int32.ofNat e8)), .val (.int (Int32.ofNat q)), .val (.int (Int32.ofNat (own_f xs (q)))), .val (.int (3 : Int32)), .val (.int s144_0), .val (.int s162_0), .val (.int (Int32.ofNat (own_f xs (q + 1)))), s9] [(.int (Int32.ofNat (own_f xs (q + 1))))]))
                            refine go (fun _ kont => XS.iload X'.here hx rfl (hb hby d_prog_37_method_2_210) rfl  kont) ?_
                            show G (T'.setTop (mkF m 212 #[.val (.ref b), .val (.int (Int32.ofNat q0)), .val (.int (Int32.ofNat e8)), .val (.int (Int32.ofNat q)), .val (.int (Int32.ofNat (own_f xs (q)))), .val (.int (3 : Int32)), .val (.int s144_0), .val (.int s162_0), .val (.int (Int32.ofNat (own_f xs (q + 1)))), s9] [(.int s162_0), (.int (Int32.ofNat (own_f xs (q + 1))))]))
                            by_cases hc212 : s162_0 < (Int32.ofNat (own_f xs (q + 1)))
                            · refine go (fun _ kont => XS.icmpNo X'.here hx rfl (hb hby d_prog_37_method_2_212) rfl (tlt hc212).2.2.2 kont) ?_
                              show G (T'.setTop (mkF m 215 #[.val (.ref b), .val (.int (Int32.ofNat q0)), .val (.int (Int32.ofNat e8)), .val (.int (Int32.ofNat q)), .val (.int (Int32.ofNat (own_f xs (q)))), .val (.int (3 : Int32)), .val (.int s144_0), .val (.int s162_0), .val (.int (Int32.ofNat (own_f xs (q + 1)))), s9] []))
                              rw [hhi, show Int32.ofNat hi < Int32.ofNat (own_f xs (q + 1)) ↔ hi < own_f xs (q + 1) from own_ltO (d := hi) (k := own_f xs (q + 1)) (by first | omega | (split <;> omega)) (by omega)] at hc212
                              refine go (fun _ kont => XS.iconst X'.here hx rfl (hb hby d_prog_37_method_2_215) kont) ?_
                              show G (T'.setTop (mkF m 216 #[.val (.ref b), .val (.int (Int32.ofNat q0)), .val (.int (Int32.ofNat e8)), .val (.int (Int32.ofNat q)), .val (.int (Int32.ofNat (own_f xs (q)))), .val (.int (3 : Int32)), .val (.int s144_0), .val (.int s162_0), .val (.int (Int32.ofNat (own_f xs (q + 1)))), s9] [(.int (0 : Int32))]))
                              rw [hG]
                              exact own_retN X' hx (t := .boolean) Bd.returns (by simp) (hb hby d_prog_37_method_2_216) hlk (by decide) (by decide) ⟨by rw [hT, own_T_bad (by omega) (by unfold own_N own_n; (repeat' split) <;> omega)]; rfl, N0, e'⟩
                            · refine go (fun _ kont => XS.icmpYes X'.here hx rfl (pc0 := 212) (pc' := 217) rfl (hb hby d_prog_37_method_2_212) rfl (flt hc212).2.2.2 (by decide) (by decide) kont) ?_
                              show G (T'.setTop (mkF m 217 #[.val (.ref b), .val (.int (Int32.ofNat q0)), .val (.int (Int32.ofNat e8)), .val (.int (Int32.ofNat q)), .val (.int (Int32.ofNat (own_f xs (q)))), .val (.int (3 : Int32)), .val (.int s144_0), .val (.int s162_0), .val (.int (Int32.ofNat (own_f xs (q + 1)))), s9] []))
                              rw [hhi, show Int32.ofNat hi < Int32.ofNat (own_f xs (q + 1)) ↔ hi < own_f xs (q + 1) from own_ltO (d := hi) (k := own_f xs (q + 1)) (by first | omega | (split <;> omega)) (by omega)] at hc212
                              refine go (fun _ kont => XS.iloadN X'.here hx rfl (hb hby d_prog_37_method_2_217) rfl  kont) ?_
                              show G (T'.setTop (mkF m 218 #[.val (.ref b), .val (.int (Int32.ofNat q0)), .val (.int (Int32.ofNat e8)), .val (.int (Int32.ofNat q)), .val (.int (Int32.ofNat (own_f xs (q)))), .val (.int (3 : Int32)), .val (.int s144_0), .val (.int s162_0), .val (.int (Int32.ofNat (own_f xs (q + 1)))), s9] [(.int (Int32.ofNat q))]))
                              refine go (fun _ kont => XS.iconst X'.here hx rfl (hb hby d_prog_37_method_2_218) kont) ?_
                              show G (T'.setTop (mkF m 219 #[.val (.ref b), .val (.int (Int32.ofNat q0)), .val (.int (Int32.ofNat e8)), .val (.int (Int32.ofNat q)), .val (.int (Int32.ofNat (own_f xs (q)))), .val (.int (3 : Int32)), .val (.int s144_0), .val (.int s162_0), .val (.int (Int32.ofNat (own_f xs (q + 1)))), s9] [(.int (2 : Int32)), (.int (Int32.ofNat q))]))
                              refine go (fun _ kont => XS.iadd X'.here hx rfl (hb hby d_prog_37_method_2_219) rfl kont) ?_
                              show G (T'.setTop (mkF m 220 #[.val (.ref b), .val (.int (Int32.ofNat q0)), .val (.int (Int32.ofNat e8)), .val (.int (Int32.ofNat q)), .val (.int (Int32.ofNat (own_f xs (q)))), .val (.int (3 : Int32)), .val (.int s144_0), .val (.int s162_0), .val (.int (Int32.ofNat (own_f xs (q + 1)))), s9] [(.int ((Int32.ofNat q) + (2 : Int32)))]))
                              rw [show Int32.ofNat q + (2 : Int32) = Int32.ofNat (q + 2) from own_addk q 2]
                              show G (T'.setTop (mkF m 220 #[.val (.ref b), .val (.int (Int32.ofNat q0)), .val (.int (Int32.ofNat e8)), .val (.int (Int32.ofNat q)), .val (.int (Int32.ofNat (own_f xs (q)))), .val (.int (3 : Int32)), .val (.int s144_0), .val (.int s162_0), .val (.int (Int32.ofNat (own_f xs (q + 1)))), s9] [(.int (Int32.ofNat (q + 2)))]))
                              refine go (fun _ kont => XS.istore X'.here hx rfl (hb hby d_prog_37_method_2_220) rfl (l' := #[.val (.ref b), .val (.int (Int32.ofNat q0)), .val (.int (Int32.ofNat e8)), .val (.int (Int32.ofNat q)), .val (.int (Int32.ofNat (own_f xs (q)))), .val (.int (3 : Int32)), .val (.int s144_0), .val (.int s162_0), .val (.int (Int32.ofNat (own_f xs (q + 1)))), .val (.int (Int32.ofNat (q + 2)))]) (by rcases hs9 with rfl | ⟨w, rfl, hw⟩ <;> first | rfl | (cases w <;> first | rfl | (simp [Value.category] at hw))) kont) ?_
                              show G (T'.setTop (mkF m 222 #[.val (.ref b), .val (.int (Int32.ofNat q0)), .val (.int (Int32.ofNat e8)), .val (.int (Int32.ofNat q)), .val (.int (Int32.ofNat (own_f xs (q)))), .val (.int (3 : Int32)), .val (.int s144_0), .val (.int s162_0), .val (.int (Int32.ofNat (own_f xs (q + 1)))), .val (.int (Int32.ofNat (q + 2)))] []))
                              refine go (fun _ kont => XS.iload X'.here hx rfl (hb hby d_prog_37_method_2_222) rfl  kont) ?_
                              show G (T'.setTop (mkF m 224 #[.val (.ref b), .val (.int (Int32.ofNat q0)), .val (.int (Int32.ofNat e8)), .val (.int (Int32.ofNat q)), .val (.int (Int32.ofNat (own_f xs (q)))), .val (.int (3 : Int32)), .val (.int s144_0), .val (.int s162_0), .val (.int (Int32.ofNat (own_f xs (q + 1)))), .val (.int (Int32.ofNat (q + 2)))] [(.int (Int32.ofNat (q + 2)))]))
                              refine go (fun _ kont => XS.iloadN X'.here hx rfl (hb hby d_prog_37_method_2_224) rfl  kont) ?_
                              show G (T'.setTop (mkF m 225 #[.val (.ref b), .val (.int (Int32.ofNat q0)), .val (.int (Int32.ofNat e8)), .val (.int (Int32.ofNat q)), .val (.int (Int32.ofNat (own_f xs (q)))), .val (.int (3 : Int32)), .val (.int s144_0), .val (.int s162_0), .val (.int (Int32.ofNat (own_f xs (q + 1)))), .val (.int (Int32.ofNat (q + 2)))] [(.int (Int32.ofNat q)), (.int (Int32.ofNat (q + 2)))]))
                              refine go (fun _ kont => XS.iload X'.here hx rfl (hb hby d_prog_37_method_2_225) rfl  kont) ?_
                              show G (T'.setTop (mkF m 227 #[.val (.ref b), .val (.int (Int32.ofNat q0)), .val (.int (Int32.ofNat e8)), .val (.int (Int32.ofNat q)), .val (.int (Int32.ofNat (own_f xs (q)))), .val (.int (3 : Int32)), .val (.int s144_0), .val (.int s162_0), .val (.int (Int32.ofNat (own_f xs (q + 1)))), .val (.int (Int32.ofNat (q + 2)))] [(.int (3 : Int32)), (.int (Int32.ofNat q)), (.int (Int32.ofNat (q + 2)))]))
                              refine go (fun _ kont => XS.iadd X'.here hx rfl (hb hby d_prog_37_method_2_227) rfl kont) ?_
                              show G (T'.setTop (mkF m 228 #[.val (.ref b), .val (.int (Int32.ofNat q0)), .val (.int (Int32.ofNat e8)), .val (.int (Int32.ofNat q)), .val (.int (Int32.ofNat (own_f xs (q)))), .val (.int (3 : Int32)), .val (.int s144_0), .val (.int s162_0), .val (.int (Int32.ofNat (own_f xs (q + 1)))), .val (.int (Int32.ofNat (q + 2)))] [(.int ((Int32.ofNat q) + (3 : Int32))), (.int (Int32.ofNat (q + 2)))]))
                              rw [show Int32.ofNat q + (3 : Int32) = Int32.ofNat (q + 3) from own_addk q 3]
                              show G (T'.setTop (mkF m 228 #[.val (.ref b), .val (.int (Int32.ofNat q0)), .val (.int (Int32.ofNat e8)), .val (.int (Int32.ofNat q)), .val (.int (Int32.ofNat (own_f xs (q)))), .val (.int (3 : Int32)), .val (.int s144_0), .val (.int s162_0), .val (.int (Int32.ofNat (own_f xs (q + 1)))), .val (.int (Int32.ofNat (q + 2)))] [(.int (Int32.ofNat (q + 3))), (.int (Int32.ofNat (q + 2)))]))
                              refine go (fun _ kont => XS.icmpNo X'.here hx rfl (hb hby d_prog_37_method_2_228) rfl (flt (fun z => absurd ((own_ltO (d := q + 3) (k := q + 2) (by omega) (by omega)).mp z) (by omega))).2.2.1 kont) ?_
                              show G (T'.setTop (mkF m 231 #[.val (.ref b), .val (.int (Int32.ofNat q0)), .val (.int (Int32.ofNat e8)), .val (.int (Int32.ofNat q)), .val (.int (Int32.ofNat (own_f xs (q)))), .val (.int (3 : Int32)), .val (.int s144_0), .val (.int s162_0), .val (.int (Int32.ofNat (own_f xs (q + 1)))), .val (.int (Int32.ofNat (q + 2)))] []))
                              refine go (fun _ kont => XS.aloadN X'.here hx rfl (hb hby d_prog_37_method_2_231) rfl rfl kont) ?_
                              show G (T'.setTop (mkF m 232 #[.val (.ref b), .val (.int (Int32.ofNat q0)), .val (.int (Int32.ofNat e8)), .val (.int (Int32.ofNat q)), .val (.int (Int32.ofNat (own_f xs (q)))), .val (.int (3 : Int32)), .val (.int s144_0), .val (.int s162_0), .val (.int (Int32.ofNat (own_f xs (q + 1)))), .val (.int (Int32.ofNat (q + 2)))] [(.ref b)]))
                              refine go (fun _ kont => XS.iload X'.here hx rfl (hb hby d_prog_37_method_2_232) rfl  kont) ?_
                              show G (T'.setTop (mkF m 234 #[.val (.ref b), .val (.int (Int32.ofNat q0)), .val (.int (Int32.ofNat e8)), .val (.int (Int32.ofNat q)), .val (.int (Int32.ofNat (own_f xs (q)))), .val (.int (3 : Int32)), .val (.int s144_0), .val (.int s162_0), .val (.int (Int32.ofNat (own_f xs (q + 1)))), .val (.int (Int32.ofNat (q + 2)))] [(.int (Int32.ofNat (q + 2))), (.ref b)]))
                              refine go (fun _ kont => X'.baloadBytes hx (j := (Int32.ofNat (q + 2))) (v := (.int (xs.getD (q + 2) 0))) (by rw [e']; exact Ar.1) (State.isArrayOf_alike hZ.alike Ar.2.1) Ar.2.2 (own_hink Sl (own_neg (by rw [own_ofN (by omega)]; omega)) (own_tnO (by omega)) (k := q + 2) (by rw [List.length_map]; omega)) (own_hatk Sl (own_tnO (by omega)) (own_atI (k := q + 2) (by omega))) (g := (mkF m 234 #[.val (.ref b), .val (.int (Int32.ofNat q0)), .val (.int (Int32.ofNat e8)), .val (.int (Int32.ofNat q)), .val (.int (Int32.ofNat (own_f xs (q)))), .val (.int (3 : Int32)), .val (.int s144_0), .val (.int s162_0), .val (.int (Int32.ofNat (own_f xs (q + 1)))), .val (.int (Int32.ofNat (q + 2)))] [(.int (Int32.ofNat (q + 2))), (.ref b)])) rfl rfl (hb hby d_prog_37_method_2_234) _ kont) ?_
                              show G (T'.setTop (mkF m 235 #[.val (.ref b), .val (.int (Int32.ofNat q0)), .val (.int (Int32.ofNat e8)), .val (.int (Int32.ofNat q)), .val (.int (Int32.ofNat (own_f xs (q)))), .val (.int (3 : Int32)), .val (.int s144_0), .val (.int s162_0), .val (.int (Int32.ofNat (own_f xs (q + 1)))), .val (.int (Int32.ofNat (q + 2)))] [(.int (xs.getD (q + 2) 0))]))
                              refine go (fun _ kont => XS.sipush X'.here hx rfl (hb hby d_prog_37_method_2_235) kont) ?_
                              show G (T'.setTop (mkF m 238 #[.val (.ref b), .val (.int (Int32.ofNat q0)), .val (.int (Int32.ofNat e8)), .val (.int (Int32.ofNat q)), .val (.int (Int32.ofNat (own_f xs (q)))), .val (.int (3 : Int32)), .val (.int s144_0), .val (.int s162_0), .val (.int (Int32.ofNat (own_f xs (q + 1)))), .val (.int (Int32.ofNat (q + 2)))] [(.int (192 : Int32)), (.int (xs.getD (q + 2) 0))]))
                              refine go (fun _ kont => XS.iand X'.here hx rfl (hb hby d_prog_37_method_2_238) rfl kont) ?_
                              show G (T'.setTop (mkF m 239 #[.val (.ref b), .val (.int (Int32.ofNat q0)), .val (.int (Int32.ofNat e8)), .val (.int (Int32.ofNat q)), .val (.int (Int32.ofNat (own_f xs (q)))), .val (.int (3 : Int32)), .val (.int s144_0), .val (.int s162_0), .val (.int (Int32.ofNat (own_f xs (q + 1)))), .val (.int (Int32.ofNat (q + 2)))] [(.int ((xs.getD (q + 2) 0) &&& (192 : Int32)))]))
                              rw [own_c192 (xs.getD (q + 2) 0)]
                              show G (T'.setTop (mkF m 239 #[.val (.ref b), .val (.int (Int32.ofNat q0)), .val (.int (Int32.ofNat e8)), .val (.int (Int32.ofNat q)), .val (.int (Int32.ofNat (own_f xs (q)))), .val (.int (3 : Int32)), .val (.int s144_0), .val (.int s162_0), .val (.int (Int32.ofNat (own_f xs (q + 1)))), .val (.int (Int32.ofNat (q + 2)))] [(.int ((Int32.ofNat (own_f xs (q + 2))) &&& (192 : Int32)))]))
                              refine go (fun _ kont => XS.sipush X'.here hx rfl (hb hby d_prog_37_method_2_239) kont) ?_
                              show G (T'.setTop (mkF m 242 #[.val (.ref b), .val (.int (Int32.ofNat q0)), .val (.int (Int32.ofNat e8)), .val (.int (Int32.ofNat q)), .val (.int (Int32.ofNat (own_f xs (q)))), .val (.int (3 : Int32)), .val (.int s144_0), .val (.int s162_0), .val (.int (Int32.ofNat (own_f xs (q + 1)))), .val (.int (Int32.ofNat (q + 2)))] [(.int (128 : Int32)), (.int ((Int32.ofNat (own_f xs (q + 2))) &&& (192 : Int32)))]))
                              by_cases hc242 : ((Int32.ofNat (own_f xs (q + 2))) &&& (192 : Int32)) = (128 : Int32)
                              · refine go (fun _ kont => XS.icmpYes X'.here hx rfl (pc0 := 242) (pc' := 247) rfl (hb hby d_prog_37_method_2_242) rfl (teq hc242).1 (by decide) (by decide) kont) ?_
                                show G (T'.setTop (mkF m 247 #[.val (.ref b), .val (.int (Int32.ofNat q0)), .val (.int (Int32.ofNat e8)), .val (.int (Int32.ofNat q)), .val (.int (Int32.ofNat (own_f xs (q)))), .val (.int (3 : Int32)), .val (.int s144_0), .val (.int s162_0), .val (.int (Int32.ofNat (own_f xs (q + 1)))), .val (.int (Int32.ofNat (q + 2)))] []))
                                rw [show _ ↔ _ from own_m192' _ hb2] at hc242
                                refine go (fun _ kont => XS.iinc X'.here hx rfl (hb hby d_prog_37_method_2_247) rfl (l' := #[.val (.ref b), .val (.int (Int32.ofNat q0)), .val (.int (Int32.ofNat e8)), .val (.int (Int32.ofNat q)), .val (.int (Int32.ofNat (own_f xs (q)))), .val (.int (3 : Int32)), .val (.int s144_0), .val (.int s162_0), .val (.int (Int32.ofNat (own_f xs (q + 1)))), .val (.int ((Int32.ofNat (q + 2)) + (1 : Int32)))]) rfl kont) ?_
                                show G (T'.setTop (mkF m 250 #[.val (.ref b), .val (.int (Int32.ofNat q0)), .val (.int (Int32.ofNat e8)), .val (.int (Int32.ofNat q)), .val (.int (Int32.ofNat (own_f xs (q)))), .val (.int (3 : Int32)), .val (.int s144_0), .val (.int s162_0), .val (.int (Int32.ofNat (own_f xs (q + 1)))), .val (.int ((Int32.ofNat (q + 2)) + (1 : Int32)))] []))
                                rw [show Int32.ofNat (q + 2) + (1 : Int32) = Int32.ofNat (q + 3) from own_addk (q + 2) 1]
                                show G (T'.setTop (mkF m 250 #[.val (.ref b), .val (.int (Int32.ofNat q0)), .val (.int (Int32.ofNat e8)), .val (.int (Int32.ofNat q)), .val (.int (Int32.ofNat (own_f xs (q)))), .val (.int (3 : Int32)), .val (.int s144_0), .val (.int s162_0), .val (.int (Int32.ofNat (own_f xs (q + 1)))), .val (.int (Int32.ofNat (q + 3)))] []))
                                refine go (fun _ kont => XS.goto X'.here hx rfl (pc0 := 250) (pc' := 222) rfl (hb hby d_prog_37_method_2_250) (by decide) (by decide) kont) ?_
                                show G (T'.setTop (mkF m 222 #[.val (.ref b), .val (.int (Int32.ofNat q0)), .val (.int (Int32.ofNat e8)), .val (.int (Int32.ofNat q)), .val (.int (Int32.ofNat (own_f xs (q)))), .val (.int (3 : Int32)), .val (.int s144_0), .val (.int s162_0), .val (.int (Int32.ofNat (own_f xs (q + 1)))), .val (.int (Int32.ofNat (q + 3)))] []))
                                refine go (fun _ kont => XS.iload X'.here hx rfl (hb hby d_prog_37_method_2_222) rfl  kont) ?_
                                show G (T'.setTop (mkF m 224 #[.val (.ref b), .val (.int (Int32.ofNat q0)), .val (.int (Int32.ofNat e8)), .val (.int (Int32.ofNat q)), .val (.int (Int32.ofNat (own_f xs (q)))), .val (.int (3 : Int32)), .val (.int s144_0), .val (.int s162_0), .val (.int (Int32.ofNat (own_f xs (q + 1)))), .val (.int (Int32.ofNat (q + 3)))] [(.int (Int32.ofNat (q + 3)))]))
                                refine go (fun _ kont => XS.iloadN X'.here hx rfl (hb hby d_prog_37_method_2_224) rfl  kont) ?_
                                show G (T'.setTop (mkF m 225 #[.val (.ref b), .val (.int (Int32.ofNat q0)), .val (.int (Int32.ofNat e8)), .val (.int (Int32.ofNat q)), .val (.int (Int32.ofNat (own_f xs (q)))), .val (.int (3 : Int32)), .val (.int s144_0), .val (.int s162_0), .val (.int (Int32.ofNat (own_f xs (q + 1)))), .val (.int (Int32.ofNat (q + 3)))] [(.int (Int32.ofNat q)), (.int (Int32.ofNat (q + 3)))]))
                                refine go (fun _ kont => XS.iload X'.here hx rfl (hb hby d_prog_37_method_2_225) rfl  kont) ?_
                                show G (T'.setTop (mkF m 227 #[.val (.ref b), .val (.int (Int32.ofNat q0)), .val (.int (Int32.ofNat e8)), .val (.int (Int32.ofNat q)), .val (.int (Int32.ofNat (own_f xs (q)))), .val (.int (3 : Int32)), .val (.int s144_0), .val (.int s162_0), .val (.int (Int32.ofNat (own_f xs (q + 1)))), .val (.int (Int32.ofNat (q + 3)))] [(.int (3 : Int32)), (.int (Int32.ofNat q)), (.int (Int32.ofNat (q + 3)))]))
                                refine go (fun _ kont => XS.iadd X'.here hx rfl (hb hby d_prog_37_method_2_227) rfl kont) ?_
                                show G (T'.setTop (mkF m 228 #[.val (.ref b), .val (.int (Int32.ofNat q0)), .val (.int (Int32.ofNat e8)), .val (.int (Int32.ofNat q)), .val (.int (Int32.ofNat (own_f xs (q)))), .val (.int (3 : Int32)), .val (.int s144_0), .val (.int s162_0), .val (.int (Int32.ofNat (own_f xs (q + 1)))), .val (.int (Int32.ofNat (q + 3)))] [(.int ((Int32.ofNat q) + (3 : Int32))), (.int (Int32.ofNat (q + 3)))]))
                                rw [show Int32.ofNat q + (3 : Int32) = Int32.ofNat (q + 3) from own_addk q 3]
                                show G (T'.setTop (mkF m 228 #[.val (.ref b), .val (.int (Int32.ofNat q0)), .val (.int (Int32.ofNat e8)), .val (.int (Int32.ofNat q)), .val (.int (Int32.ofNat (own_f xs (q)))), .val (.int (3 : Int32)), .val (.int s144_0), .val (.int s162_0), .val (.int (Int32.ofNat (own_f xs (q + 1)))), .val (.int (Int32.ofNat (q + 3)))] [(.int (Int32.ofNat (q + 3))), (.int (Int32.ofNat (q + 3)))]))
                                refine go (fun _ kont => XS.icmpNo X'.here hx rfl (hb hby d_prog_37_method_2_228) rfl (flt (fun z => absurd ((own_ltO (d := q + 3) (k := q + 3) (by omega) (by omega)).mp z) (by omega))).2.2.1 kont) ?_
                                show G (T'.setTop (mkF m 231 #[.val (.ref b), .val (.int (Int32.ofNat q0)), .val (.int (Int32.ofNat e8)), .val (.int (Int32.ofNat q)), .val (.int (Int32.ofNat (own_f xs (q)))), .val (.int (3 : Int32)), .val (.int s144_0), .val (.int s162_0), .val (.int (Int32.ofNat (own_f xs (q + 1)))), .val (.int (Int32.ofNat (q + 3)))] []))
                                refine go (fun _ kont => XS.aloadN X'.here hx rfl (hb hby d_prog_37_method_2_231) rfl rfl kont) ?_
                                show G (T'.setTop (mkF m 232 #[.val (.ref b), .val (.int (Int32.ofNat q0)), .val (.int (Int32.ofNat e8)), .val (.int (Int32.ofNat q)), .val (.int (Int32.ofNat (own_f xs (q)))), .val (.int (3 : Int32)), .val (.int s144_0), .val (.int s162_0), .val (.int (Int32.ofNat (own_f xs (q + 1)))), .val (.int (Int32.ofNat (q + 3)))] [(.ref b)]))
                                refine go (fun _ kont => XS.iload X'.here hx rfl (hb hby d_prog_37_method_2_232) rfl  kont) ?_
                                show G (T'.setTop (mkF m 234 #[.val (.ref b), .val (.int (Int32.ofNat q0)), .val (.int (Int32.ofNat e8)), .val (.int (Int32.ofNat q)), .val (.int (Int32.ofNat (own_f xs (q)))), .val (.int (3 : Int32)), .val (.int s144_0), .val (.int s162_0), .val (.int (Int32.ofNat (own_f xs (q + 1)))), .val (.int (Int32.ofNat (q + 3)))] [(.int (Int32.ofNat (q + 3))), (.ref b)]))
                                refine go (fun _ kont => X'.baloadBytes hx (j := (Int32.ofNat (q + 3))) (v := (.int (xs.getD (q + 3) 0))) (by rw [e']; exact Ar.1) (State.isArrayOf_alike hZ.alike Ar.2.1) Ar.2.2 (own_hink Sl (own_neg (by rw [own_ofN (by omega)]; omega)) (own_tnO (by omega)) (k := q + 3) (by rw [List.length_map]; omega)) (own_hatk Sl (own_tnO (by omega)) (own_atI (k := q + 3) (by omega))) (g := (mkF m 234 #[.val (.ref b), .val (.int (Int32.ofNat q0)), .val (.int (Int32.ofNat e8)), .val (.int (Int32.ofNat q)), .val (.int (Int32.ofNat (own_f xs (q)))), .val (.int (3 : Int32)), .val (.int s144_0), .val (.int s162_0), .val (.int (Int32.ofNat (own_f xs (q + 1)))), .val (.int (Int32.ofNat (q + 3)))] [(.int (Int32.ofNat (q + 3))), (.ref b)])) rfl rfl (hb hby d_prog_37_method_2_234) _ kont) ?_
                                show G (T'.setTop (mkF m 235 #[.val (.ref b), .val (.int (Int32.ofNat q0)), .val (.int (Int32.ofNat e8)), .val (.int (Int32.ofNat q)), .val (.int (Int32.ofNat (own_f xs (q)))), .val (.int (3 : Int32)), .val (.int s144_0), .val (.int s162_0), .val (.int (Int32.ofNat (own_f xs (q + 1)))), .val (.int (Int32.ofNat (q + 3)))] [(.int (xs.getD (q + 3) 0))]))
                                refine go (fun _ kont => XS.sipush X'.here hx rfl (hb hby d_prog_37_method_2_235) kont) ?_
                                show G (T'.setTop (mkF m 238 #[.val (.ref b), .val (.int (Int32.ofNat q0)), .val (.int (Int32.ofNat e8)), .val (.int (Int32.ofNat q)), .val (.int (Int32.ofNat (own_f xs (q)))), .val (.int (3 : Int32)), .val (.int s144_0), .val (.int s162_0), .val (.int (Int32.ofNat (own_f xs (q + 1)))), .val (.int (Int32.ofNat (q + 3)))] [(.int (192 : Int32)), (.int (xs.getD (q + 3) 0))]))
                                refine go (fun _ kont => XS.iand X'.here hx rfl (hb hby d_prog_37_method_2_238) rfl kont) ?_
                                show G (T'.setTop (mkF m 239 #[.val (.ref b), .val (.int (Int32.ofNat q0)), .val (.int (Int32.ofNat e8)), .val (.int (Int32.ofNat q)), .val (.int (Int32.ofNat (own_f xs (q)))), .val (.int (3 : Int32)), .val (.int s144_0), .val (.int s162_0), .val (.int (Int32.ofNat (own_f xs (q + 1)))), .val (.int (Int32.ofNat (q + 3)))] [(.int ((xs.getD (q + 3) 0) &&& (192 : Int32)))]))
                                rw [own_c192 (xs.getD (q + 3) 0)]
                                show G (T'.setTop (mkF m 239 #[.val (.ref b), .val (.int (Int32.ofNat q0)), .val (.int (Int32.ofNat e8)), .val (.int (Int32.ofNat q)), .val (.int (Int32.ofNat (own_f xs (q)))), .val (.int (3 : Int32)), .val (.int s144_0), .val (.int s162_0), .val (.int (Int32.ofNat (own_f xs (q + 1)))), .val (.int (Int32.ofNat (q + 3)))] [(.int ((Int32.ofNat (own_f xs (q + 3))) &&& (192 : Int32)))]))
                                refine go (fun _ kont => XS.sipush X'.here hx rfl (hb hby d_prog_37_method_2_239) kont) ?_
                                show G (T'.setTop (mkF m 242 #[.val (.ref b), .val (.int (Int32.ofNat q0)), .val (.int (Int32.ofNat e8)), .val (.int (Int32.ofNat q)), .val (.int (Int32.ofNat (own_f xs (q)))), .val (.int (3 : Int32)), .val (.int s144_0), .val (.int s162_0), .val (.int (Int32.ofNat (own_f xs (q + 1)))), .val (.int (Int32.ofNat (q + 3)))] [(.int (128 : Int32)), (.int ((Int32.ofNat (own_f xs (q + 3))) &&& (192 : Int32)))]))
                                by_cases hc242_3 : ((Int32.ofNat (own_f xs (q + 3))) &&& (192 : Int32)) = (128 : Int32)
                                · refine go (fun _ kont => XS.icmpYes X'.here hx rfl (pc0 := 242) (pc' := 247) rfl (hb hby d_prog_37_method_2_242) rfl (teq hc242_3).1 (by decide) (by decide) kont) ?_
                                  show G (T'.setTop (mkF m 247 #[.val (.ref b), .val (.int (Int32.ofNat q0)), .val (.int (Int32.ofNat e8)), .val (.int (Int32.ofNat q)), .val (.int (Int32.ofNat (own_f xs (q)))), .val (.int (3 : Int32)), .val (.int s144_0), .val (.int s162_0), .val (.int (Int32.ofNat (own_f xs (q + 1)))), .val (.int (Int32.ofNat (q + 3)))] []))
                                  rw [show _ ↔ _ from own_m192' _ hb3] at hc242_3
                                  refine go (fun _ kont => XS.iinc X'.here hx rfl (hb hby d_prog_37_method_2_247) rfl (l' := #[.val (.ref b), .val (.int (Int32.ofNat q0)), .val (.int (Int32.ofNat e8)), .val (.int (Int32.ofNat q)), .val (.int (Int32.ofNat (own_f xs (q)))), .val (.int (3 : Int32)), .val (.int s144_0), .val (.int s162_0), .val (.int (Int32.ofNat (own_f xs (q + 1)))), .val (.int ((Int32.ofNat (q + 3)) + (1 : Int32)))]) rfl kont) ?_
                                  show G (T'.setTop (mkF m 250 #[.val (.ref b), .val (.int (Int32.ofNat q0)), .val (.int (Int32.ofNat e8)), .val (.int (Int32.ofNat q)), .val (.int (Int32.ofNat (own_f xs (q)))), .val (.int (3 : Int32)), .val (.int s144_0), .val (.int s162_0), .val (.int (Int32.ofNat (own_f xs (q + 1)))), .val (.int ((Int32.ofNat (q + 3)) + (1 : Int32)))] []))
                                  rw [show Int32.ofNat (q + 3) + (1 : Int32) = Int32.ofNat (q + 4) from own_addk (q + 3) 1]
                                  show G (T'.setTop (mkF m 250 #[.val (.ref b), .val (.int (Int32.ofNat q0)), .val (.int (Int32.ofNat e8)), .val (.int (Int32.ofNat q)), .val (.int (Int32.ofNat (own_f xs (q)))), .val (.int (3 : Int32)), .val (.int s144_0), .val (.int s162_0), .val (.int (Int32.ofNat (own_f xs (q + 1)))), .val (.int (Int32.ofNat (q + 4)))] []))
                                  refine go (fun _ kont => XS.goto X'.here hx rfl (pc0 := 250) (pc' := 222) rfl (hb hby d_prog_37_method_2_250) (by decide) (by decide) kont) ?_
                                  show G (T'.setTop (mkF m 222 #[.val (.ref b), .val (.int (Int32.ofNat q0)), .val (.int (Int32.ofNat e8)), .val (.int (Int32.ofNat q)), .val (.int (Int32.ofNat (own_f xs (q)))), .val (.int (3 : Int32)), .val (.int s144_0), .val (.int s162_0), .val (.int (Int32.ofNat (own_f xs (q + 1)))), .val (.int (Int32.ofNat (q + 4)))] []))
                                  refine go (fun _ kont => XS.iload X'.here hx rfl (hb hby d_prog_37_method_2_222) rfl  kont) ?_
                                  show G (T'.setTop (mkF m 224 #[.val (.ref b), .val (.int (Int32.ofNat q0)), .val (.int (Int32.ofNat e8)), .val (.int (Int32.ofNat q)), .val (.int (Int32.ofNat (own_f xs (q)))), .val (.int (3 : Int32)), .val (.int s144_0), .val (.int s162_0), .val (.int (Int32.ofNat (own_f xs (q + 1)))), .val (.int (Int32.ofNat (q + 4)))] [(.int (Int32.ofNat (q + 4)))]))
                                  refine go (fun _ kont => XS.iloadN X'.here hx rfl (hb hby d_prog_37_method_2_224) rfl  kont) ?_
                                  show G (T'.setTop (mkF m 225 #[.val (.ref b), .val (.int (Int32.ofNat q0)), .val (.int (Int32.ofNat e8)), .val (.int (Int32.ofNat q)), .val (.int (Int32.ofNat (own_f xs (q)))), .val (.int (3 : Int32)), .val (.int s144_0), .val (.int s162_0), .val (.int (Int32.ofNat (own_f xs (q + 1)))), .val (.int (Int32.ofNat (q + 4)))] [(.int (Int32.ofNat q)), (.int (Int32.ofNat (q + 4)))]))
                                  refine go (fun _ kont => XS.iload X'.here hx rfl (hb hby d_prog_37_method_2_225) rfl  kont) ?_
                                  show G (T'.setTop (mkF m 227 #[.val (.ref b), .val (.int (Int32.ofNat q0)), .val (.int (Int32.ofNat e8)), .val (.int (Int32.ofNat q)), .val (.int (Int32.ofNat (own_f xs (q)))), .val (.int (3 : Int32)), .val (.int s144_0), .val (.int s162_0), .val (.int (Int32.ofNat (own_f xs (q + 1)))), .val (.int (Int32.ofNat (q + 4)))] [(.int (3 : Int32)), (.int (Int32.ofNat q)), (.int (Int32.ofNat (q + 4)))]))
                                  refine go (fun _ kont => XS.iadd X'.here hx rfl (hb hby d_prog_37_method_2_227) rfl kont) ?_
                                  show G (T'.setTop (mkF m 228 #[.val (.ref b), .val (.int (Int32.ofNat q0)), .val (.int (Int32.ofNat e8)), .val (.int (Int32.ofNat q)), .val (.int (Int32.ofNat (own_f xs (q)))), .val (.int (3 : Int32)), .val (.int s144_0), .val (.int s162_0), .val (.int (Int32.ofNat (own_f xs (q + 1)))), .val (.int (Int32.ofNat (q + 4)))] [(.int ((Int32.ofNat q) + (3 : Int32))), (.int (Int32.ofNat (q + 4)))]))
                                  rw [show Int32.ofNat q + (3 : Int32) = Int32.ofNat (q + 3) from own_addk q 3]
                                  show G (T'.setTop (mkF m 228 #[.val (.ref b), .val (.int (Int32.ofNat q0)), .val (.int (Int32.ofNat e8)), .val (.int (Int32.ofNat q)), .val (.int (Int32.ofNat (own_f xs (q)))), .val (.int (3 : Int32)), .val (.int s144_0), .val (.int s162_0), .val (.int (Int32.ofNat (own_f xs (q + 1)))), .val (.int (Int32.ofNat (q + 4)))] [(.int (Int32.ofNat (q + 3))), (.int (Int32.ofNat (q + 4)))]))
                                  refine go (fun _ kont => XS.icmpYes X'.here hx rfl (pc0 := 228) (pc' := 253) rfl (hb hby d_prog_37_method_2_228) rfl (tlt ((own_ltO (d := q + 3) (k := q + 4) (by omega) (by omega)).mpr (by omega))).2.2.1 (by decide) (by decide) kont) ?_
                                  show G (T'.setTop (mkF m 253 #[.val (.ref b), .val (.int (Int32.ofNat q0)), .val (.int (Int32.ofNat e8)), .val (.int (Int32.ofNat q)), .val (.int (Int32.ofNat (own_f xs (q)))), .val (.int (3 : Int32)), .val (.int s144_0), .val (.int s162_0), .val (.int (Int32.ofNat (own_f xs (q + 1)))), .val (.int (Int32.ofNat (q + 4)))] []))
                                  refine go (fun _ kont => XS.iloadN X'.here hx rfl (hb hby d_prog_37_method_2_253) rfl  kont) ?_
                                  show G (T'.setTop (mkF m 254 #[.val (.ref b), .val (.int (Int32.ofNat q0)), .val (.int (Int32.ofNat e8)), .val (.int (Int32.ofNat q)), .val (.int (Int32.ofNat (own_f xs (q)))), .val (.int (3 : Int32)), .val (.int s144_0), .val (.int s162_0), .val (.int (Int32.ofNat (own_f xs (q + 1)))), .val (.int (Int32.ofNat (q + 4)))] [(.int (Int32.ofNat q))]))
                                  refine go (fun _ kont => XS.iload X'.here hx rfl (hb hby d_prog_37_method_2_254) rfl  kont) ?_
                                  show G (T'.setTop (mkF m 256 #[.val (.ref b), .val (.int (Int32.ofNat q0)), .val (.int (Int32.ofNat e8)), .val (.int (Int32.ofNat q)), .val (.int (Int32.ofNat (own_f xs (q)))), .val (.int (3 : Int32)), .val (.int s144_0), .val (.int s162_0), .val (.int (Int32.ofNat (own_f xs (q + 1)))), .val (.int (Int32.ofNat (q + 4)))] [(.int (3 : Int32)), (.int (Int32.ofNat q))]))
                                  refine go (fun _ kont => XS.iconst X'.here hx rfl (hb hby d_prog_37_method_2_256) kont) ?_
                                  show G (T'.setTop (mkF m 257 #[.val (.ref b), .val (.int (Int32.ofNat q0)), .val (.int (Int32.ofNat e8)), .val (.int (Int32.ofNat q)), .val (.int (Int32.ofNat (own_f xs (q)))), .val (.int (3 : Int32)), .val (.int s144_0), .val (.int s162_0), .val (.int (Int32.ofNat (own_f xs (q + 1)))), .val (.int (Int32.ofNat (q + 4)))] [(.int (1 : Int32)), (.int (3 : Int32)), (.int (Int32.ofNat q))]))
                                  refine go (fun _ kont => XS.iadd X'.here hx rfl (hb hby d_prog_37_method_2_257) rfl kont) ?_
                                  show G (T'.setTop (mkF m 258 #[.val (.ref b), .val (.int (Int32.ofNat q0)), .val (.int (Int32.ofNat e8)), .val (.int (Int32.ofNat q)), .val (.int (Int32.ofNat (own_f xs (q)))), .val (.int (3 : Int32)), .val (.int s144_0), .val (.int s162_0), .val (.int (Int32.ofNat (own_f xs (q + 1)))), .val (.int (Int32.ofNat (q + 4)))] [(.int ((3 : Int32) + (1 : Int32))), (.int (Int32.ofNat q))]))
                                  refine go (fun _ kont => XS.iadd X'.here hx rfl (hb hby d_prog_37_method_2_258) rfl kont) ?_
                                  show G (T'.setTop (mkF m 259 #[.val (.ref b), .val (.int (Int32.ofNat q0)), .val (.int (Int32.ofNat e8)), .val (.int (Int32.ofNat q)), .val (.int (Int32.ofNat (own_f xs (q)))), .val (.int (3 : Int32)), .val (.int s144_0), .val (.int s162_0), .val (.int (Int32.ofNat (own_f xs (q + 1)))), .val (.int (Int32.ofNat (q + 4)))] [(.int ((Int32.ofNat q) + ((3 : Int32) + (1 : Int32))))]))
                                  refine go (fun _ kont => XS.istoreN X'.here hx rfl (hb hby d_prog_37_method_2_259) rfl (l' := #[.val (.ref b), .val (.int (Int32.ofNat q0)), .val (.int (Int32.ofNat e8)), .val (.int ((Int32.ofNat q) + ((3 : Int32) + (1 : Int32)))), .val (.int (Int32.ofNat (own_f xs (q)))), .val (.int (3 : Int32)), .val (.int s144_0), .val (.int s162_0), .val (.int (Int32.ofNat (own_f xs (q + 1)))), .val (.int (Int32.ofNat (q + 4)))]) rfl kont) ?_
                                  show G (T'.setTop (mkF m 260 #[.val (.ref b), .val (.int (Int32.ofNat q0)), .val (.int (Int32.ofNat e8)), .val (.int ((Int32.ofNat q) + ((3 : Int32) + (1 : Int32)))), .val (.int (Int32.ofNat (own_f xs (q)))), .val (.int (3 : Int32)), .val (.int s144_0), .val (.int s162_0), .val (.int (Int32.ofNat (own_f xs (q + 1)))), .val (.int (Int32.ofNat (q + 4)))] []))
                                  refine go (fun _ kont => XS.goto X'.here hx rfl (pc0 := 260) (pc' := 2) rfl (hb hby d_prog_37_method_2_260) (by decide) (by decide) kont) ?_
                                  show G (T'.setTop (mkF m 2 #[.val (.ref b), .val (.int (Int32.ofNat q0)), .val (.int (Int32.ofNat e8)), .val (.int ((Int32.ofNat q) + ((3 : Int32) + (1 : Int32)))), .val (.int (Int32.ofNat (own_f xs (q)))), .val (.int (3 : Int32)), .val (.int s144_0), .val (.int s162_0), .val (.int (Int32.ofNat (own_f xs (q + 1)))), .val (.int (Int32.ofNat (q + 4)))] []))
                                  rw [show Int32.ofNat q + ((3 : Int32) + (1 : Int32)) = Int32.ofNat (q + 4) from own_addk q 4]
                                  exact ih (q + 4) (by omega) (by omega) (hT.trans (own_T_step (N := 4) (by omega) he8 (by unfold own_N own_n; (repeat' split) <;> omega) (by decide))) _ _ _ _ _ _ (One.val rfl) (One.val rfl) (One.val rfl) (One.val rfl) (One.val rfl) (One.val rfl) _ X' e'
                                · refine go (fun _ kont => XS.icmpNo X'.here hx rfl (hb hby d_prog_37_method_2_242) rfl (feq hc242_3).1 kont) ?_
                                  show G (T'.setTop (mkF m 245 #[.val (.ref b), .val (.int (Int32.ofNat q0)), .val (.int (Int32.ofNat e8)), .val (.int (Int32.ofNat q)), .val (.int (Int32.ofNat (own_f xs (q)))), .val (.int (3 : Int32)), .val (.int s144_0), .val (.int s162_0), .val (.int (Int32.ofNat (own_f xs (q + 1)))), .val (.int (Int32.ofNat (q + 3)))] []))
                                  rw [show _ ↔ _ from own_m192' _ hb3] at hc242_3
                                  refine go (fun _ kont => XS.iconst X'.here hx rfl (hb hby d_prog_37_method_2_245) kont) ?_
                                  show G (T'.setTop (mkF m 246 #[.val (.ref b), .val (.int (Int32.ofNat q0)), .val (.int (Int32.ofNat e8)), .val (.int (Int32.ofNat q)), .val (.int (Int32.ofNat (own_f xs (q)))), .val (.int (3 : Int32)), .val (.int s144_0), .val (.int s162_0), .val (.int (Int32.ofNat (own_f xs (q + 1)))), .val (.int (Int32.ofNat (q + 3)))] [(.int (0 : Int32))]))
                                  rw [hG]
                                  exact own_retN X' hx (t := .boolean) Bd.returns (by simp) (hb hby d_prog_37_method_2_246) hlk (by decide) (by decide) ⟨by rw [hT, own_T_bad (by omega) (by unfold own_N own_n; (repeat' split) <;> omega)]; rfl, N0, e'⟩
                              · refine go (fun _ kont => XS.icmpNo X'.here hx rfl (hb hby d_prog_37_method_2_242) rfl (feq hc242).1 kont) ?_
                                show G (T'.setTop (mkF m 245 #[.val (.ref b), .val (.int (Int32.ofNat q0)), .val (.int (Int32.ofNat e8)), .val (.int (Int32.ofNat q)), .val (.int (Int32.ofNat (own_f xs (q)))), .val (.int (3 : Int32)), .val (.int s144_0), .val (.int s162_0), .val (.int (Int32.ofNat (own_f xs (q + 1)))), .val (.int (Int32.ofNat (q + 2)))] []))
                                rw [show _ ↔ _ from own_m192' _ hb2] at hc242
                                refine go (fun _ kont => XS.iconst X'.here hx rfl (hb hby d_prog_37_method_2_245) kont) ?_
                                show G (T'.setTop (mkF m 246 #[.val (.ref b), .val (.int (Int32.ofNat q0)), .val (.int (Int32.ofNat e8)), .val (.int (Int32.ofNat q)), .val (.int (Int32.ofNat (own_f xs (q)))), .val (.int (3 : Int32)), .val (.int s144_0), .val (.int s162_0), .val (.int (Int32.ofNat (own_f xs (q + 1)))), .val (.int (Int32.ofNat (q + 2)))] [(.int (0 : Int32))]))
                                rw [hG]
                                exact own_retN X' hx (t := .boolean) Bd.returns (by simp) (hb hby d_prog_37_method_2_246) hlk (by decide) (by decide) ⟨by rw [hT, own_T_bad (by omega) (by unfold own_N own_n; (repeat' split) <;> omega)]; rfl, N0, e'⟩
                        · refine go (fun _ kont => XS.icmpNo X'.here hx rfl (hb hby d_prog_37_method_2_185) rfl (flt hc185).2.2.1 kont) ?_
                          show G (T'.setTop (mkF m 188 #[.val (.ref b), .val (.int (Int32.ofNat q0)), .val (.int (Int32.ofNat e8)), .val (.int (Int32.ofNat q)), .val (.int (Int32.ofNat (own_f xs (q)))), .val (.int (3 : Int32)), .val (.int s144_0), .val (.int s162_0), s8, s9] []))
                          rw [show (3 : Int32) < Int32.ofNat (e8 - q) ↔ 3 < e8 - q from own_ltO (d := 3) (k := e8 - q) (by omega) (by omega)] at hc185
                          refine go (fun _ kont => XS.iconst X'.here hx rfl (hb hby d_prog_37_method_2_188) kont) ?_
                          show G (T'.setTop (mkF m 189 #[.val (.ref b), .val (.int (Int32.ofNat q0)), .val (.int (Int32.ofNat e8)), .val (.int (Int32.ofNat q)), .val (.int (Int32.ofNat (own_f xs (q)))), .val (.int (3 : Int32)), .val (.int s144_0), .val (.int s162_0), s8, s9] [(.int (0 : Int32))]))
                          rw [hG]
                          exact own_retN X' hx (t := .boolean) Bd.returns (by simp) (hb hby d_prog_37_method_2_189) hlk (by decide) (by decide) ⟨by rw [hT, own_T_bad (by omega) (by unfold own_N own_n; (repeat' split) <;> omega)]; rfl, N0, e'⟩
                      by_cases hc162 : (Int32.ofNat (own_f xs (q))) = (244 : Int32)
                      · refine go (fun _ kont => XS.icmpNo X'.here hx rfl (hb hby d_prog_37_method_2_162) rfl (teq hc162).2 kont) ?_
                        show G (T'.setTop (mkF m 165 #[.val (.ref b), .val (.int (Int32.ofNat q0)), .val (.int (Int32.ofNat e8)), .val (.int (Int32.ofNat q)), .val (.int (Int32.ofNat (own_f xs (q)))), .val (.int (3 : Int32)), .val (.int s144_0), .val (.int (191 : Int32)), s8, s9] []))
                        refine go (fun _ kont => XS.sipush X'.here hx rfl (hb hby d_prog_37_method_2_165) kont) ?_
                        show G (T'.setTop (mkF m 168 #[.val (.ref b), .val (.int (Int32.ofNat q0)), .val (.int (Int32.ofNat e8)), .val (.int (Int32.ofNat q)), .val (.int (Int32.ofNat (own_f xs (q)))), .val (.int (3 : Int32)), .val (.int s144_0), .val (.int (191 : Int32)), s8, s9] [(.int (143 : Int32))]))
                        refine go (fun _ kont => XS.goto X'.here hx rfl (pc0 := 168) (pc' := 173) rfl (hb hby d_prog_37_method_2_168) (by decide) (by decide) kont) ?_
                        show G (T'.setTop (mkF m 173 #[.val (.ref b), .val (.int (Int32.ofNat q0)), .val (.int (Int32.ofNat e8)), .val (.int (Int32.ofNat q)), .val (.int (Int32.ofNat (own_f xs (q)))), .val (.int (3 : Int32)), .val (.int s144_0), .val (.int (191 : Int32)), s8, s9] [(.int (143 : Int32))]))
                        exact j8 _ (by first | exact (if_pos hc162).symm | (rw [if_pos hc162]; assumption))
                      · refine go (fun _ kont => XS.icmpYes X'.here hx rfl (pc0 := 162) (pc' := 171) rfl (hb hby d_prog_37_method_2_162) rfl (feq hc162).2 (by decide) (by decide) kont) ?_
                        show G (T'.setTop (mkF m 171 #[.val (.ref b), .val (.int (Int32.ofNat q0)), .val (.int (Int32.ofNat e8)), .val (.int (Int32.ofNat q)), .val (.int (Int32.ofNat (own_f xs (q)))), .val (.int (3 : Int32)), .val (.int s144_0), .val (.int (191 : Int32)), s8, s9] []))
                        refine go (fun _ kont => XS.iload X'.here hx rfl (hb hby d_prog_37_method_2_171) rfl  kont) ?_
                        show G (T'.setTop (mkF m 173 #[.val (.ref b), .val (.int (Int32.ofNat q0)), .val (.int (Int32.ofNat e8)), .val (.int (Int32.ofNat q)), .val (.int (Int32.ofNat (own_f xs (q)))), .val (.int (3 : Int32)), .val (.int s144_0), .val (.int (191 : Int32)), s8, s9] [(.int (191 : Int32))]))
                        exact j8 _ (by first | exact (if_neg hc162).symm | (rw [if_neg hc162]; assumption))
                    by_cases hc144 : (Int32.ofNat (own_f xs (q))) = (240 : Int32)
                    · refine go (fun _ kont => XS.icmpNo X'.here hx rfl (hb hby d_prog_37_method_2_144) rfl (teq hc144).2 kont) ?_
                      show G (T'.setTop (mkF m 147 #[.val (.ref b), .val (.int (Int32.ofNat q0)), .val (.int (Int32.ofNat e8)), .val (.int (Int32.ofNat q)), .val (.int (Int32.ofNat (own_f xs (q)))), .val (.int (3 : Int32)), .val (.int (128 : Int32)), .val (.int (191 : Int32)), s8, s9] []))
                      refine go (fun _ kont => XS.sipush X'.here hx rfl (hb hby d_prog_37_method_2_147) kont) ?_
                      show G (T'.setTop (mkF m 150 #[.val (.ref b), .val (.int (Int32.ofNat q0)), .val (.int (Int32.ofNat e8)), .val (.int (Int32.ofNat q)), .val (.int (Int32.ofNat (own_f xs (q)))), .val (.int (3 : Int32)), .val (.int (128 : Int32)), .val (.int (191 : Int32)), s8, s9] [(.int (144 : Int32))]))
                      refine go (fun _ kont => XS.goto X'.here hx rfl (pc0 := 150) (pc' := 155) rfl (hb hby d_prog_37_method_2_150) (by decide) (by decide) kont) ?_
                      show G (T'.setTop (mkF m 155 #[.val (.ref b), .val (.int (Int32.ofNat q0)), .val (.int (Int32.ofNat e8)), .val (.int (Int32.ofNat q)), .val (.int (Int32.ofNat (own_f xs (q)))), .val (.int (3 : Int32)), .val (.int (128 : Int32)), .val (.int (191 : Int32)), s8, s9] [(.int (144 : Int32))]))
                      exact j7 _ (by first | exact (if_pos hc144).symm | (rw [if_pos hc144]; assumption))
                    · refine go (fun _ kont => XS.icmpYes X'.here hx rfl (pc0 := 144) (pc' := 153) rfl (hb hby d_prog_37_method_2_144) rfl (feq hc144).2 (by decide) (by decide) kont) ?_
                      show G (T'.setTop (mkF m 153 #[.val (.ref b), .val (.int (Int32.ofNat q0)), .val (.int (Int32.ofNat e8)), .val (.int (Int32.ofNat q)), .val (.int (Int32.ofNat (own_f xs (q)))), .val (.int (3 : Int32)), .val (.int (128 : Int32)), .val (.int (191 : Int32)), s8, s9] []))
                      refine go (fun _ kont => XS.iload X'.here hx rfl (hb hby d_prog_37_method_2_153) rfl  kont) ?_
                      show G (T'.setTop (mkF m 155 #[.val (.ref b), .val (.int (Int32.ofNat q0)), .val (.int (Int32.ofNat e8)), .val (.int (Int32.ofNat q)), .val (.int (Int32.ofNat (own_f xs (q)))), .val (.int (3 : Int32)), .val (.int (128 : Int32)), .val (.int (191 : Int32)), s8, s9] [(.int (128 : Int32))]))
                      exact j7 _ (by first | exact (if_neg hc144).symm | (rw [if_neg hc144]; assumption))
              · refine go (fun _ kont => XS.icmpNo X'.here hx rfl (hb hby d_prog_37_method_2_67) rfl (flt hc67).1 kont) ?_
                show G (T'.setTop (mkF m 70 #[.val (.ref b), .val (.int (Int32.ofNat q0)), .val (.int (Int32.ofNat e8)), .val (.int (Int32.ofNat q)), .val (.int (Int32.ofNat (own_f xs (q)))), s5, .val (.int (128 : Int32)), .val (.int (191 : Int32)), s8, s9] []))
                rw [show Int32.ofNat (own_f xs (q)) < (224 : Int32) ↔ own_f xs (q) < 224 from own_ltO (d := own_f xs (q)) (k := 224) (by omega) (by omega)] at hc67
                refine go (fun _ kont => XS.iload X'.here hx rfl (hb hby d_prog_37_method_2_70) rfl  kont) ?_
                show G (T'.setTop (mkF m 72 #[.val (.ref b), .val (.int (Int32.ofNat q0)), .val (.int (Int32.ofNat e8)), .val (.int (Int32.ofNat q)), .val (.int (Int32.ofNat (own_f xs (q)))), s5, .val (.int (128 : Int32)), .val (.int (191 : Int32)), s8, s9] [(.int (Int32.ofNat (own_f xs (q))))]))
                refine go (fun _ kont => XS.sipush X'.here hx rfl (hb hby d_prog_37_method_2_72) kont) ?_
                show G (T'.setTop (mkF m 75 #[.val (.ref b), .val (.int (Int32.ofNat q0)), .val (.int (Int32.ofNat e8)), .val (.int (Int32.ofNat q)), .val (.int (Int32.ofNat (own_f xs (q)))), s5, .val (.int (128 : Int32)), .val (.int (191 : Int32)), s8, s9] [(.int (239 : Int32)), (.int (Int32.ofNat (own_f xs (q))))]))
                by_cases hc75 : (239 : Int32) < (Int32.ofNat (own_f xs (q)))
                · refine go (fun _ kont => XS.icmpYes X'.here hx rfl (pc0 := 75) (pc' := 120) rfl (hb hby d_prog_37_method_2_75) rfl (tlt hc75).2.2.1 (by decide) (by decide) kont) ?_
                  show G (T'.setTop (mkF m 120 #[.val (.ref b), .val (.int (Int32.ofNat q0)), .val (.int (Int32.ofNat e8)), .val (.int (Int32.ofNat q)), .val (.int (Int32.ofNat (own_f xs (q)))), s5, .val (.int (128 : Int32)), .val (.int (191 : Int32)), s8, s9] []))
                  rw [show (239 : Int32) < Int32.ofNat (own_f xs (q)) ↔ 239 < own_f xs (q) from own_ltO (d := 239) (k := own_f xs (q)) (by omega) (by omega)] at hc75
                  refine go (fun _ kont => XS.iload X'.here hx rfl (hb hby d_prog_37_method_2_120) rfl  kont) ?_
                  show G (T'.setTop (mkF m 122 #[.val (.ref b), .val (.int (Int32.ofNat q0)), .val (.int (Int32.ofNat e8)), .val (.int (Int32.ofNat q)), .val (.int (Int32.ofNat (own_f xs (q)))), s5, .val (.int (128 : Int32)), .val (.int (191 : Int32)), s8, s9] [(.int (Int32.ofNat (own_f xs (q))))]))
                  refine go (fun _ kont => XS.sipush X'.here hx rfl (hb hby d_prog_37_method_2_122) kont) ?_
                  show G (T'.setTop (mkF m 125 #[.val (.ref b), .val (.int (Int32.ofNat q0)), .val (.int (Int32.ofNat e8)), .val (.int (Int32.ofNat q)), .val (.int (Int32.ofNat (own_f xs (q)))), s5, .val (.int (128 : Int32)), .val (.int (191 : Int32)), s8, s9] [(.int (240 : Int32)), (.int (Int32.ofNat (own_f xs (q))))]))
                  by_cases hc125 : (Int32.ofNat (own_f xs (q))) < (240 : Int32)
                  · refine go (fun _ kont => XS.icmpYes X'.here hx rfl (pc0 := 125) (pc' := 178) rfl (hb hby d_prog_37_method_2_125) rfl (tlt hc125).1 (by decide) (by decide) kont) ?_
                    show G (T'.setTop (mkF m 178 #[.val (.ref b), .val (.int (Int32.ofNat q0)), .val (.int (Int32.ofNat e8)), .val (.int (Int32.ofNat q)), .val (.int (Int32.ofNat (own_f xs (q)))), s5, .val (.int (128 : Int32)), .val (.int (191 : Int32)), s8, s9] []))
                    rw [show Int32.ofNat (own_f xs (q)) < (240 : Int32) ↔ own_f xs (q) < 240 from own_ltO (d := own_f xs (q)) (k := 240) (by omega) (by omega)] at hc125
                    refine go (fun _ kont => XS.iconst X'.here hx rfl (hb hby d_prog_37_method_2_178) kont) ?_
                    show G (T'.setTop (mkF m 179 #[.val (.ref b), .val (.int (Int32.ofNat q0)), .val (.int (Int32.ofNat e8)), .val (.int (Int32.ofNat q)), .val (.int (Int32.ofNat (own_f xs (q)))), s5, .val (.int (128 : Int32)), .val (.int (191 : Int32)), s8, s9] [(.int (0 : Int32))]))
                    rw [hG]
                    exact own_retN X' hx (t := .boolean) Bd.returns (by simp) (hb hby d_prog_37_method_2_179) hlk (by decide) (by decide) ⟨by rw [hT, own_T_bad (by omega) (by unfold own_N own_n; (repeat' split) <;> omega)]; rfl, N0, e'⟩
                  · refine go (fun _ kont => XS.icmpNo X'.here hx rfl (hb hby d_prog_37_method_2_125) rfl (flt hc125).1 kont) ?_
                    show G (T'.setTop (mkF m 128 #[.val (.ref b), .val (.int (Int32.ofNat q0)), .val (.int (Int32.ofNat e8)), .val (.int (Int32.ofNat q)), .val (.int (Int32.ofNat (own_f xs (q)))), s5, .val (.int (128 : Int32)), .val (.int (191 : Int32)), s8, s9] []))
                    rw [show Int32.ofNat (own_f xs (q)) < (240 : Int32) ↔ own_f xs (q) < 240 from own_ltO (d := own_f xs (q)) (k := 240) (by omega) (by omega)] at hc125
                    refine go (fun _ kont => XS.iload X'.here hx rfl (hb hby d_prog_37_method_2_128) rfl  kont) ?_
                    show G (T'.setTop (mkF m 130 #[.val (.ref b), .val (.int (Int32.ofNat q0)), .val (.int (Int32.ofNat e8)), .val (.int (Int32.ofNat q)), .val (.int (Int32.ofNat (own_f xs (q)))), s5, .val (.int (128 : Int32)), .val (.int (191 : Int32)), s8, s9] [(.int (Int32.ofNat (own_f xs (q))))]))
                    refine go (fun _ kont => XS.sipush X'.here hx rfl (hb hby d_prog_37_method_2_130) kont) ?_
                    show G (T'.setTop (mkF m 133 #[.val (.ref b), .val (.int (Int32.ofNat q0)), .val (.int (Int32.ofNat e8)), .val (.int (Int32.ofNat q)), .val (.int (Int32.ofNat (own_f xs (q)))), s5, .val (.int (128 : Int32)), .val (.int (191 : Int32)), s8, s9] [(.int (244 : Int32)), (.int (Int32.ofNat (own_f xs (q))))]))
                    by_cases hc133 : (244 : Int32) < (Int32.ofNat (own_f xs (q)))
                    · refine go (fun _ kont => XS.icmpYes X'.here hx rfl (pc0 := 133) (pc' := 178) rfl (hb hby d_prog_37_method_2_133) rfl (tlt hc133).2.2.1 (by decide) (by decide) kont) ?_
                      show G (T'.setTop (mkF m 178 #[.val (.ref b), .val (.int (Int32.ofNat q0)), .val (.int (Int32.ofNat e8)), .val (.int (Int32.ofNat q)), .val (.int (Int32.ofNat (own_f xs (q)))), s5, .val (.int (128 : Int32)), .val (.int (191 : Int32)), s8, s9] []))
                      rw [show (244 : Int32) < Int32.ofNat (own_f xs (q)) ↔ 244 < own_f xs (q) from own_ltO (d := 244) (k := own_f xs (q)) (by omega) (by omega)] at hc133
                      refine go (fun _ kont => XS.iconst X'.here hx rfl (hb hby d_prog_37_method_2_178) kont) ?_
                      show G (T'.setTop (mkF m 179 #[.val (.ref b), .val (.int (Int32.ofNat q0)), .val (.int (Int32.ofNat e8)), .val (.int (Int32.ofNat q)), .val (.int (Int32.ofNat (own_f xs (q)))), s5, .val (.int (128 : Int32)), .val (.int (191 : Int32)), s8, s9] [(.int (0 : Int32))]))
                      rw [hG]
                      exact own_retN X' hx (t := .boolean) Bd.returns (by simp) (hb hby d_prog_37_method_2_179) hlk (by decide) (by decide) ⟨by rw [hT, own_T_bad (by omega) (by unfold own_N own_n; (repeat' split) <;> omega)]; rfl, N0, e'⟩
                    · refine go (fun _ kont => XS.icmpNo X'.here hx rfl (hb hby d_prog_37_method_2_133) rfl (flt hc133).2.2.1 kont) ?_
                      show G (T'.setTop (mkF m 136 #[.val (.ref b), .val (.int (Int32.ofNat q0)), .val (.int (Int32.ofNat e8)), .val (.int (Int32.ofNat q)), .val (.int (Int32.ofNat (own_f xs (q)))), s5, .val (.int (128 : Int32)), .val (.int (191 : Int32)), s8, s9] []))
                      rw [show (244 : Int32) < Int32.ofNat (own_f xs (q)) ↔ 244 < own_f xs (q) from own_ltO (d := 244) (k := own_f xs (q)) (by omega) (by omega)] at hc133
                      refine go (fun _ kont => XS.iconst X'.here hx rfl (hb hby d_prog_37_method_2_136) kont) ?_
                      show G (T'.setTop (mkF m 137 #[.val (.ref b), .val (.int (Int32.ofNat q0)), .val (.int (Int32.ofNat e8)), .val (.int (Int32.ofNat q)), .val (.int (Int32.ofNat (own_f xs (q)))), s5, .val (.int (128 : Int32)), .val (.int (191 : Int32)), s8, s9] [(.int (3 : Int32))]))
                      refine go (fun _ kont => XS.istore X'.here hx rfl (hb hby d_prog_37_method_2_137) rfl (l' := #[.val (.ref b), .val (.int (Int32.ofNat q0)), .val (.int (Int32.ofNat e8)), .val (.int (Int32.ofNat q)), .val (.int (Int32.ofNat (own_f xs (q)))), .val (.int (3 : Int32)), .val (.int (128 : Int32)), .val (.int (191 : Int32)), s8, s9]) (by rcases hs5 with rfl | ⟨w, rfl, hw⟩ <;> first | rfl | (cases w <;> first | rfl | (simp [Value.category] at hw))) kont) ?_
                      show G (T'.setTop (mkF m 139 #[.val (.ref b), .val (.int (Int32.ofNat q0)), .val (.int (Int32.ofNat e8)), .val (.int (Int32.ofNat q)), .val (.int (Int32.ofNat (own_f xs (q)))), .val (.int (3 : Int32)), .val (.int (128 : Int32)), .val (.int (191 : Int32)), s8, s9] []))
                      refine go (fun _ kont => XS.iload X'.here hx rfl (hb hby d_prog_37_method_2_139) rfl  kont) ?_
                      show G (T'.setTop (mkF m 141 #[.val (.ref b), .val (.int (Int32.ofNat q0)), .val (.int (Int32.ofNat e8)), .val (.int (Int32.ofNat q)), .val (.int (Int32.ofNat (own_f xs (q)))), .val (.int (3 : Int32)), .val (.int (128 : Int32)), .val (.int (191 : Int32)), s8, s9] [(.int (Int32.ofNat (own_f xs (q))))]))
                      refine go (fun _ kont => XS.sipush X'.here hx rfl (hb hby d_prog_37_method_2_141) kont) ?_
                      show G (T'.setTop (mkF m 144 #[.val (.ref b), .val (.int (Int32.ofNat q0)), .val (.int (Int32.ofNat e8)), .val (.int (Int32.ofNat q)), .val (.int (Int32.ofNat (own_f xs (q)))), .val (.int (3 : Int32)), .val (.int (128 : Int32)), .val (.int (191 : Int32)), s8, s9] [(.int (240 : Int32)), (.int (Int32.ofNat (own_f xs (q))))]))
                      have j9 : ∀ (s144_0 : Int32), s144_0 = (if (Int32.ofNat (own_f xs (q))) = (240 : Int32) then (144 : Int32) else (128 : Int32)) → G (T'.setTop (mkF m 155 #[.val (.ref b), .val (.int (Int32.ofNat q0)), .val (.int (Int32.ofNat e8)), .val (.int (Int32.ofNat q)), .val (.int (Int32.ofNat (own_f xs (q)))), .val (.int (3 : Int32)), .val (.int (128 : Int32)), .val (.int (191 : Int32)), s8, s9] [(.int s144_0)])) := by
                        intro s144_0 hs144_0
                        refine go (fun _ kont => XS.istore X'.here hx rfl (hb hby d_prog_37_method_2_155) rfl (l' := #[.val (.ref b), .val (.int (Int32.ofNat q0)), .val (.int (Int32.ofNat e8)), .val (.int (Int32.ofNat q)), .val (.int (Int32.ofNat (own_f xs (q)))), .val (.int (3 : Int32)), .val (.int s144_0), .val (.int (191 : Int32)), s8, s9]) rfl kont) ?_
                        show G (T'.setTop (mkF m 157 #[.val (.ref b), .val (.int (Int32.ofNat q0)), .val (.int (Int32.ofNat e8)), .val (.int (Int32.ofNat q)), .val (.int (Int32.ofNat (own_f xs (q)))), .val (.int (3 : Int32)), .val (.int s144_0), .val (.int (191 : Int32)), s8, s9] []))
                        refine go (fun _ kont => XS.iload X'.here hx rfl (hb hby d_prog_37_method_2_157) rfl  kont) ?_
                        show G (T'.setTop (mkF m 159 #[.val (.ref b), .val (.int (Int32.ofNat q0)), .val (.int (Int32.ofNat e8)), .val (.int (Int32.ofNat q)), .val (.int (Int32.ofNat (own_f xs (q)))), .val (.int (3 : Int32)), .val (.int s144_0), .val (.int (191 : Int32)), s8, s9] [(.int (Int32.ofNat (own_f xs (q))))]))
                        refine go (fun _ kont => XS.sipush X'.here hx rfl (hb hby d_prog_37_method_2_159) kont) ?_
                        show G (T'.setTop (mkF m 162 #[.val (.ref b), .val (.int (Int32.ofNat q0)), .val (.int (Int32.ofNat e8)), .val (.int (Int32.ofNat q)), .val (.int (Int32.ofNat (own_f xs (q)))), .val (.int (3 : Int32)), .val (.int s144_0), .val (.int (191 : Int32)), s8, s9] [(.int (244 : Int32)), (.int (Int32.ofNat (own_f xs (q))))]))
                        have j10 : ∀ (s162_0 : Int32), s162_0 = (if (Int32.ofNat (own_f xs (q))) = (244 : Int32) then (143 : Int32) else (191 : Int32)) → G (T'.setTop (mkF m 173 #[.val (.ref b), .val (.int (Int32.ofNat q0)), .val (.int (Int32.ofNat e8)), .val (.int (Int32.ofNat q)), .val (.int (Int32.ofNat (own_f xs (q)))), .val (.int (3 : Int32)), .val (.int s144_0), .val (.int (191 : Int32)), s8, s9] [(.int s162_0)])) := by
                          intro s162_0 hs162_0
                          refine go (fun _ kont => XS.istore X'.here hx rfl (hb hby d_prog_37_method_2_173) rfl (l' := #[.val (.ref b), .val (.int (Int32.ofNat q0)), .val (.int (Int32.ofNat e8)), .val (.int (Int32.ofNat q)), .val (.int (Int32.ofNat (own_f xs (q)))), .val (.int (3 : Int32)), .val (.int s144_0), .val (.int s162_0), s8, s9]) rfl kont) ?_
                          show G (T'.setTop (mkF m 175 #[.val (.ref b), .val (.int (Int32.ofNat q0)), .val (.int (Int32.ofNat e8)), .val (.int (Int32.ofNat q)), .val (.int (Int32.ofNat (own_f xs (q)))), .val (.int (3 : Int32)), .val (.int s144_0), .val (.int s162_0), s8, s9] []))
                          refine go (fun _ kont => XS.goto X'.here hx rfl (pc0 := 175) (pc' := 180) rfl (hb hby d_prog_37_method_2_175) (by decide) (by decide) kont) ?_
                          show G (T'.setTop (mkF m 180 #[.val (.ref b), .val (.int (Int32.ofNat q0)), .val (.int (Int32.ofNat e8)), .val (.int (Int32.ofNat q)), .val (.int (Int32.ofNat (own_f xs (q)))), .val (.int (3 : Int32)), .val (.int s144_0), .val (.int s162_0), s8, s9] []))
                          obtain ⟨lo, hlo, hlo1, hlo2⟩ : ∃ z : Nat, s144_0 = Int32.ofNat z ∧ (own_f xs (q) = 240 → z = 144) ∧ (own_f xs (q) ≠ 240 → z = 128) := by
                            rw [hs144_0]
                            by_cases hz : own_f xs (q) = 240
                            · exact ⟨144, by rw [if_pos (show Int32.ofNat (own_f xs (q)) = (240 : Int32) from by rw [hz]; rfl)]; rfl, fun _ => rfl, fun z => absurd hz z⟩
                            · exact ⟨128, by rw [if_neg (show ¬ (Int32.ofNat (own_f xs (q)) = (240 : Int32)) from fun z => hz ((own_eqO (d := own_f xs (q)) (k := 240) (by omega) (by omega)).mp z))]; rfl, fun z => absurd z hz, fun _ => rfl⟩
                          obtain ⟨hi, hhi, hhi1, hhi2⟩ : ∃ z : Nat, s162_0 = Int32.ofNat z ∧ (own_f xs (q) = 244 → z = 143) ∧ (own_f xs (q) ≠ 244 → z = 191) := by
                            rw [hs162_0]
                            by_cases hz : own_f xs (q) = 244
                            · exact ⟨143, by rw [if_pos (show Int32.ofNat (own_f xs (q)) = (244 : Int32) from by rw [hz]; rfl)]; rfl, fun _ => rfl, fun z => absurd hz z⟩
                            · exact ⟨191, by rw [if_neg (show ¬ (Int32.ofNat (own_f xs (q)) = (244 : Int32)) from fun z => hz ((own_eqO (d := own_f xs (q)) (k := 244) (by omega) (by omega)).mp z))]; rfl, fun z => absurd z hz, fun _ => rfl⟩
                          refine go (fun _ kont => XS.iloadN X'.here hx rfl (hb hby d_prog_37_method_2_180) rfl  kont) ?_
                          show G (T'.setTop (mkF m 181 #[.val (.ref b), .val (.int (Int32.ofNat q0)), .val (.int (Int32.ofNat e8)), .val (.int (Int32.ofNat q)), .val (.int (Int32.ofNat (own_f xs (q)))), .val (.int (3 : Int32)), .val (.int s144_0), .val (.int s162_0), s8, s9] [(.int (Int32.ofNat e8))]))
                          refine go (fun _ kont => XS.iloadN X'.here hx rfl (hb hby d_prog_37_method_2_181) rfl  kont) ?_
                          show G (T'.setTop (mkF m 182 #[.val (.ref b), .val (.int (Int32.ofNat q0)), .val (.int (Int32.ofNat e8)), .val (.int (Int32.ofNat q)), .val (.int (Int32.ofNat (own_f xs (q)))), .val (.int (3 : Int32)), .val (.int s144_0), .val (.int s162_0), s8, s9] [(.int (Int32.ofNat q)), (.int (Int32.ofNat e8))]))
                          refine go (fun _ kont => XS.isub X'.here hx rfl (hb hby d_prog_37_method_2_182) rfl kont) ?_
                          show G (T'.setTop (mkF m 183 #[.val (.ref b), .val (.int (Int32.ofNat q0)), .val (.int (Int32.ofNat e8)), .val (.int (Int32.ofNat q)), .val (.int (Int32.ofNat (own_f xs (q)))), .val (.int (3 : Int32)), .val (.int s144_0), .val (.int s162_0), s8, s9] [(.int ((Int32.ofNat e8) - (Int32.ofNat q)))]))
                          rw [own_subk (p := e8) (k := q) (by omega)]
                          show G (T'.setTop (mkF m 183 #[.val (.ref b), .val (.int (Int32.ofNat q0)), .val (.int (Int32.ofNat e8)), .val (.int (Int32.ofNat q)), .val (.int (Int32.ofNat (own_f xs (q)))), .val (.int (3 : Int32)), .val (.int s144_0), .val (.int s162_0), s8, s9] [(.int (Int32.ofNat (e8 - q)))]))
                          refine go (fun _ kont => XS.iload X'.here hx rfl (hb hby d_prog_37_method_2_183) rfl  kont) ?_
                          show G (T'.setTop (mkF m 185 #[.val (.ref b), .val (.int (Int32.ofNat q0)), .val (.int (Int32.ofNat e8)), .val (.int (Int32.ofNat q)), .val (.int (Int32.ofNat (own_f xs (q)))), .val (.int (3 : Int32)), .val (.int s144_0), .val (.int s162_0), s8, s9] [(.int (3 : Int32)), (.int (Int32.ofNat (e8 - q)))]))
                          by_cases hc185 : (3 : Int32) < (Int32.ofNat (e8 - q))
                          · refine go (fun _ kont => XS.icmpYes X'.here hx rfl (pc0 := 185) (pc' := 190) rfl (hb hby d_prog_37_method_2_185) rfl (tlt hc185).2.2.1 (by decide) (by decide) kont) ?_
                            show G (T'.setTop (mkF m 190 #[.val (.ref b), .val (.int (Int32.ofNat q0)), .val (.int (Int32.ofNat e8)), .val (.int (Int32.ofNat q)), .val (.int (Int32.ofNat (own_f xs (q)))), .val (.int (3 : Int32)), .val (.int s144_0), .val (.int s162_0), s8, s9] []))
                            rw [show (3 : Int32) < Int32.ofNat (e8 - q) ↔ 3 < e8 - q from own_ltO (d := 3) (k := e8 - q) (by omega) (by omega)] at hc185
                            refine go (fun _ kont => XS.aloadN X'.here hx rfl (hb hby d_prog_37_method_2_190) rfl rfl kont) ?_
                            show G (T'.setTop (mkF m 191 #[.val (.ref b), .val (.int (Int32.ofNat q0)), .val (.int (Int32.ofNat e8)), .val (.int (Int32.ofNat q)), .val (.int (Int32.ofNat (own_f xs (q)))), .val (.int (3 : Int32)), .val (.int s144_0), .val (.int s162_0), s8, s9] [(.ref b)]))
                            refine go (fun _ kont => XS.iloadN X'.here hx rfl (hb hby d_prog_37_method_2_191) rfl  kont) ?_
                            show G (T'.setTop (mkF m 192 #[.val (.ref b), .val (.int (Int32.ofNat q0)), .val (.int (Int32.ofNat e8)), .val (.int (Int32.ofNat q)), .val (.int (Int32.ofNat (own_f xs (q)))), .val (.int (3 : Int32)), .val (.int s144_0), .val (.int s162_0), s8, s9] [(.int (Int32.ofNat q)), (.ref b)]))
                            refine go (fun _ kont => XS.iconst X'.here hx rfl (hb hby d_prog_37_method_2_192) kont) ?_
                            show G (T'.setTop (mkF m 193 #[.val (.ref b), .val (.int (Int32.ofNat q0)), .val (.int (Int32.ofNat e8)), .val (.int (Int32.ofNat q)), .val (.int (Int32.ofNat (own_f xs (q)))), .val (.int (3 : Int32)), .val (.int s144_0), .val (.int s162_0), s8, s9] [(.int (1 : Int32)), (.int (Int32.ofNat q)), (.ref b)]))
                            refine go (fun _ kont => XS.iadd X'.here hx rfl (hb hby d_prog_37_method_2_193) rfl kont) ?_
                            show G (T'.setTop (mkF m 194 #[.val (.ref b), .val (.int (Int32.ofNat q0)), .val (.int (Int32.ofNat e8)), .val (.int (Int32.ofNat q)), .val (.int (Int32.ofNat (own_f xs (q)))), .val (.int (3 : Int32)), .val (.int s144_0), .val (.int s162_0), s8, s9] [(.int ((Int32.ofNat q) + (1 : Int32))), (.ref b)]))
                            rw [show Int32.ofNat q + (1 : Int32) = Int32.ofNat (q + 1) from own_addk q 1]
                            show G (T'.setTop (mkF m 194 #[.val (.ref b), .val (.int (Int32.ofNat q0)), .val (.int (Int32.ofNat e8)), .val (.int (Int32.ofNat q)), .val (.int (Int32.ofNat (own_f xs (q)))), .val (.int (3 : Int32)), .val (.int s144_0), .val (.int s162_0), s8, s9] [(.int (Int32.ofNat (q + 1))), (.ref b)]))
                            refine go (fun _ kont => X'.baloadBytes hx (j := (Int32.ofNat (q + 1))) (v := (.int (xs.getD (q + 1) 0))) (by rw [e']; exact Ar.1) (State.isArrayOf_alike hZ.alike Ar.2.1) Ar.2.2 (own_hink Sl (own_neg (by rw [own_ofN (by omega)]; omega)) (own_tnO (by omega)) (k := q + 1) (by rw [List.length_map]; omega)) (own_hatk Sl (own_tnO (by omega)) (own_atI (k := q + 1) (by omega))) (g := (mkF m 194 #[.val (.ref b), .val (.int (Int32.ofNat q0)), .val (.int (Int32.ofNat e8)), .val (.int (Int32.ofNat q)), .val (.int (Int32.ofNat (own_f xs (q)))), .val (.int (3 : Int32)), .val (.int s144_0), .val (.int s162_0), s8, s9] [(.int (Int32.ofNat (q + 1))), (.ref b)])) rfl rfl (hb hby d_prog_37_method_2_194) _ kont) ?_
                            show G (T'.setTop (mkF m 195 #[.val (.ref b), .val (.int (Int32.ofNat q0)), .val (.int (Int32.ofNat e8)), .val (.int (Int32.ofNat q)), .val (.int (Int32.ofNat (own_f xs (q)))), .val (.int (3 : Int32)), .val (.int s144_0), .val (.int s162_0), s8, s9] [(.int (xs.getD (q + 1) 0))]))
                            refine go (fun _ kont => XS.sipush X'.here hx rfl (hb hby d_prog_37_method_2_195) kont) ?_
                            show G (T'.setTop (mkF m 198 #[.val (.ref b), .val (.int (Int32.ofNat q0)), .val (.int (Int32.ofNat e8)), .val (.int (Int32.ofNat q)), .val (.int (Int32.ofNat (own_f xs (q)))), .val (.int (3 : Int32)), .val (.int s144_0), .val (.int s162_0), s8, s9] [(.int (255 : Int32)), (.int (xs.getD (q + 1) 0))]))
                            refine go (fun _ kont => XS.iand X'.here hx rfl (hb hby d_prog_37_method_2_198) rfl kont) ?_
                            show G (T'.setTop (mkF m 199 #[.val (.ref b), .val (.int (Int32.ofNat q0)), .val (.int (Int32.ofNat e8)), .val (.int (Int32.ofNat q)), .val (.int (Int32.ofNat (own_f xs (q)))), .val (.int (3 : Int32)), .val (.int s144_0), .val (.int s162_0), s8, s9] [(.int ((xs.getD (q + 1) 0) &&& (255 : Int32)))]))
                            rw [own_fe xs (q + 1)]
                            show G (T'.setTop (mkF m 199 #[.val (.ref b), .val (.int (Int32.ofNat q0)), .val (.int (Int32.ofNat e8)), .val (.int (Int32.ofNat q)), .val (.int (Int32.ofNat (own_f xs (q)))), .val (.int (3 : Int32)), .val (.int s144_0), .val (.int s162_0), s8, s9] [(.int (Int32.ofNat (own_f xs (q + 1))))]))
                            refine go (fun _ kont => XS.istore X'.here hx rfl (hb hby d_prog_37_method_2_199) rfl (l' := #[.val (.ref b), .val (.int (Int32.ofNat q0)), .val (.int (Int32.ofNat e8)), .val (.int (Int32.ofNat q)), .val (.int (Int32.ofNat (own_f xs (q)))), .val (.int (3 : Int32)), .val (.int s144_0), .val (.int s162_0), .val (.int (Int32.ofNat (own_f xs (q + 1)))), s9]) (by rcases hs8 with rfl | ⟨w, rfl, hw⟩ <;> first | rfl | (cases w <;> first | rfl | (simp [Value.category] at hw))) kont) ?_
                            show G (T'.setTop (mkF m 201 #[.val (.ref b), .val (.int (Int32.ofNat q0)), .val (.int (Int32.ofNat e8)), .val (.int (Int32.ofNat q)), .val (.int (Int32.ofNat (own_f xs (q)))), .val (.int (3 : Int32)), .val (.int s144_0), .val (.int s162_0), .val (.int (Int32.ofNat (own_f xs (q + 1)))), s9] []))
                            refine go (fun _ kont => XS.iload X'.here hx rfl (hb hby d_prog_37_method_2_201) rfl  kont) ?_
                            show G (T'.setTop (mkF m 203 #[.val (.ref b), .val (.int (Int32.ofNat q0)), .val (.int (Int32.ofNat e8)), .val (.int (Int32.ofNat q)), .val (.int (Int32.ofNat (own_f xs (q)))), .val (.int (3 : Int32)), .val (.int s144_0), .val (.int s162_0), .val (.int (Int32.ofNat (own_f xs (q + 1)))), s9] [(.int (Int32.ofNat (own_f xs (q + 1))))]))
                            refine go (fun _ kont => XS.iload X'.here hx rfl (hb hby d_prog_37_method_2_203) rfl  kont) ?_
                            show G (T'.setTop (mkF m 205 #[.val (.ref b), .val (.int (Int32.ofNat q0)), .val (.int (Int32.ofNat e8)), .val (.int (Int32.ofNat q)), .val (.int (Int32.ofNat (own_f xs (q)))), .val (.int (3 : Int32)), .val (.int s144_0), .val (.int s162_0), .val (.int (Int32.ofNat (own_f xs (q + 1)))), s9] [(.int s144_0), (.int (Int32.ofNat (own_f xs (q + 1))))]))
                            by_cases hc205 : (Int32.ofNat (own_f xs (q + 1))) < s144_0
                            · refine go (fun _ kont => XS.icmpYes X'.here hx rfl (pc0 := 205) (pc' := 215) rfl (hb hby d_prog_37_method_2_205) rfl (tlt hc205).1 (by decide) (by decide) kont) ?_
                              show G (T'.setTop (mkF m 215 #[.val (.ref b), .val (.int (Int32.ofNat q0)), .val (.int (Int32.ofNat e8)), .val (.int (Int32.ofNat q)), .val (.int (Int32.ofNat (own_f xs (q)))), .val (.int (3 : Int32)), .val (.int s144_0), .val (.int s162_0), .val (.int (Int32.ofNat (own_f xs (q + 1)))), s9] []))
                              rw [hlo, show Int32.ofNat (own_f xs (q + 1)) < Int32.ofNat lo ↔ own_f xs (q + 1) < lo from own_ltO (d := own_f xs (q + 1)) (k := lo) (by omega) (by first | omega | (split <;> omega))] at hc205
                              refine go (fun _ kont => XS.iconst X'.here hx rfl (hb hby d_prog_37_method_2_215) kont) ?_
                              show G (T'.setTop (mkF m 216 #[.val (.ref b), .val (.int (Int32.ofNat q0)), .val (.int (Int32.ofNat e8)), .val (.int (Int32.ofNat q)), .val (.int (Int32.ofNat (own_f xs (q)))), .val (.int (3 : Int32)), .val (.int s144_0), .val (.int s162_0), .val (.int (Int32.ofNat (own_f xs (q + 1)))), s9] [(.int (0 : Int32))]))
                              rw [hG]
                              exact own_retN X' hx (t := .boolean) Bd.returns (by simp) (hb hby d_prog_37_method_2_216) hlk (by decide) (by decide) ⟨by rw [hT, own_T_bad (by omega) (by unfold own_N own_n; (repeat' split) <;> omega)]; rfl, N0, e'⟩
                            · refine go (fun _ kont => XS.icmpNo X'.here hx rfl (hb hby d_prog_37_method_2_205) rfl (flt hc205).1 kont) ?_
                              show G (T'.setTop (mkF m 208 #[.val (.ref b), .val (.int (Int32.ofNat q0)), .val (.int (Int32.ofNat e8)), .val (.int (Int32.ofNat q)), .val (.int (Int32.ofNat (own_f xs (q)))), .val (.int (3 : Int32)), .val (.int s144_0), .val (.int s162_0), .val (.int (Int32.ofNat (own_f xs (q + 1)))), s9] []))
                              rw [hlo, show Int32.ofNat (own_f xs (q + 1)) < Int32.ofNat lo ↔ own_f xs (q + 1) < lo from own_ltO (d := own_f xs (q + 1)) (k := lo) (by omega) (by first | omega | (split <;> omega))] at hc205
                              refine go (fun _ kont => XS.iload X'.here hx rfl (hb hby d_prog_37_method_2_208) rfl  kont) ?_
                              show G (T'.setTop (mkF m 210 #[.val (.ref b), .val (.int (Int32.ofNat q0)), .val (.int (Int32.ofNat e8)), .val (.int (Int32.ofNat q)), .val (.int (Int32.ofNat (own_f xs (q)))), .val (.int (3 : Int32)), .val (.int s144_0), .val (.int s162_0), .val (.int (Int32.ofNat (own_f xs (q + 1)))), s9] [(.int (Int32.ofNat (own_f xs (q + 1))))]))
                              refine go (fun _ kont => XS.iload X'.here hx rfl (hb hby d_prog_37_method_2_210) rfl  kont) ?_
                              show G (T'.setTop (mkF m 212 #[.val (.ref b), .val (.int (Int32.ofNat q0)), .val (.int (Int32.ofNat e8)), .val (.int (Int32.ofNat q)), .val (.int (Int32.ofNat (own_f xs (q)))), .val (.int (3 : Int32)), .val (.int s144_0), .val (.int s162_0), .val (.int (Int32.ofNat (own_f xs (q + 1)))), s9] [(.int s162_0), (.int (Int32.ofNat (own_f xs (q + 1))))]))
                              by_cases hc212 : s162_0 < (Int32.ofNat (own_f xs (q + 1)))
                              · refine go (fun _ kont => XS.icmpNo X'.here hx rfl (hb hby d_prog_37_method_2_212) rfl (tlt hc212).2.2.2 kont) ?_
                                show G (T'.setTop (mkF m 215 #[.val (.ref b), .val (.int (Int32.ofNat q0)), .val (.int (Int32.ofNat e8)), .val (.int (Int32.ofNat q)), .val (.int (Int32.ofNat (own_f xs (q)))), .val (.int (3 : Int32)), .val (.int s144_0), .val (.int s162_0), .val (.int (Int32.ofNat (own_f xs (q + 1)))), s9] []))
                                rw [hhi, show Int32.ofNat hi < Int32.ofNat (own_f xs (q + 1)) ↔ hi < own_f xs (q + 1) from own_ltO (d := hi) (k := own_f xs (q + 1)) (by first | omega | (split <;> omega)) (by omega)] at hc212
                                refine go (fun _ kont => XS.iconst X'.here hx rfl (hb hby d_prog_37_method_2_215) kont) ?_
                                show G (T'.setTop (mkF m 216 #[.val (.ref b), .val (.int (Int32.ofNat q0)), .val (.int (Int32.ofNat e8)), .val (.int (Int32.ofNat q)), .val (.int (Int32.ofNat (own_f xs (q)))), .val (.int (3 : Int32)), .val (.int s144_0), .val (.int s162_0), .val (.int (Int32.ofNat (own_f xs (q + 1)))), s9] [(.int (0 : Int32))]))
                                rw [hG]
                                exact own_retN X' hx (t := .boolean) Bd.returns (by simp) (hb hby d_prog_37_method_2_216) hlk (by decide) (by decide) ⟨by rw [hT, own_T_bad (by omega) (by unfold own_N own_n; (repeat' split) <;> omega)]; rfl, N0, e'⟩
                              · refine go (fun _ kont => XS.icmpYes X'.here hx rfl (pc0 := 212) (pc' := 217) rfl (hb hby d_prog_37_method_2_212) rfl (flt hc212).2.2.2 (by decide) (by decide) kont) ?_
                                show G (T'.setTop (mkF m 217 #[.val (.ref b), .val (.int (Int32.ofNat q0)), .val (.int (Int32.ofNat e8)), .val (.int (Int32.ofNat q)), .val (.int (Int32.ofNat (own_f xs (q)))), .val (.int (3 : Int32)), .val (.int s144_0), .val (.int s162_0), .val (.int (Int32.ofNat (own_f xs (q + 1)))), s9] []))
                                rw [hhi, show Int32.ofNat hi < Int32.ofNat (own_f xs (q + 1)) ↔ hi < own_f xs (q + 1) from own_ltO (d := hi) (k := own_f xs (q + 1)) (by first | omega | (split <;> omega)) (by omega)] at hc212
                                refine go (fun _ kont => XS.iloadN X'.here hx rfl (hb hby d_prog_37_method_2_217) rfl  kont) ?_
                                show G (T'.setTop (mkF m 218 #[.val (.ref b), .val (.int (Int32.ofNat q0)), .val (.int (Int32.ofNat e8)), .val (.int (Int32.ofNat q)), .val (.int (Int32.ofNat (own_f xs (q)))), .val (.int (3 : Int32)), .val (.int s144_0), .val (.int s162_0), .val (.int (Int32.ofNat (own_f xs (q + 1)))), s9] [(.int (Int32.ofNat q))]))
                                refine go (fun _ kont => XS.iconst X'.here hx rfl (hb hby d_prog_37_method_2_218) kont) ?_
                                show G (T'.setTop (mkF m 219 #[.val (.ref b), .val (.int (Int32.ofNat q0)), .val (.int (Int32.ofNat e8)), .val (.int (Int32.ofNat q)), .val (.int (Int32.ofNat (own_f xs (q)))), .val (.int (3 : Int32)), .val (.int s144_0), .val (.int s162_0), .val (.int (Int32.ofNat (own_f xs (q + 1)))), s9] [(.int (2 : Int32)), (.int (Int32.ofNat q))]))
                                refine go (fun _ kont => XS.iadd X'.here hx rfl (hb hby d_prog_37_method_2_219) rfl kont) ?_
                                show G (T'.setTop (mkF m 220 #[.val (.ref b), .val (.int (Int32.ofNat q0)), .val (.int (Int32.ofNat e8)), .val (.int (Int32.ofNat q)), .val (.int (Int32.ofNat (own_f xs (q)))), .val (.int (3 : Int32)), .val (.int s144_0), .val (.int s162_0), .val (.int (Int32.ofNat (own_f xs (q + 1)))), s9] [(.int ((Int32.ofNat q) + (2 : Int32)))]))
                                rw [show Int32.ofNat q + (2 : Int32) = Int32.ofNat (q + 2) from own_addk q 2]
                                show G (T'.setTop (mkF m 220 #[.val (.ref b), .val (.int (Int32.ofNat q0)), .val (.int (Int32.ofNat e8)), .val (.int (Int32.ofNat q)), .val (.int (Int32.ofNat (own_f xs (q)))), .val (.int (3 : Int32)), .val (.int s144_0), .val (.int s162_0), .val (.int (Int32.ofNat (own_f xs (q + 1)))), s9] [(.int (Int32.ofNat (q + 2)))]))
                                refine go (fun _ kont => XS.istore X'.here hx rfl (hb hby d_prog_37_method_2_220) rfl (l' := #[.val (.ref b), .val (.int (Int32.ofNat q0)), .val (.int (Int32.ofNat e8)), .val (.int (Int32.ofNat q)), .val (.int (Int32.ofNat (own_f xs (q)))), .val (.int (3 : Int32)), .val (.int s144_0), .val (.int s162_0), .val (.int (Int32.ofNat (own_f xs (q + 1)))), .val (.int (Int32.ofNat (q + 2)))]) (by rcases hs9 with rfl | ⟨w, rfl, hw⟩ <;> first | rfl | (cases w <;> first | rfl | (simp [Value.category] at hw))) kont) ?_
                                show G (T'.setTop (mkF m 222 #[.val (.ref b), .val (.int (Int32.ofNat q0)), .val (.int (Int32.ofNat e8)), .val (.int (Int32.ofNat q)), .val (.int (Int32.ofNat (own_f xs (q)))), .val (.int (3 : Int32)), .val (.int s144_0), .val (.int s162_0), .val (.int (Int32.ofNat (own_f xs (q + 1)))), .val (.int (Int32.ofNat (q + 2)))] []))
                                refine go (fun _ kont => XS.iload X'.here hx rfl (hb hby d_prog_37_method_2_222) rfl  kont) ?_
                                show G (T'.setTop (mkF m 224 #[.val (.ref b), .val (.int (Int32.ofNat q0)), .val (.int (Int32.ofNat e8)), .val (.int (Int32.ofNat q)), .val (.int (Int32.ofNat (own_f xs (q)))), .val (.int (3 : Int32)), .val (.int s144_0), .val (.int s162_0), .val (.int (Int32.ofNat (own_f xs (q + 1)))), .val (.int (Int32.ofNat (q + 2)))] [(.int (Int32.ofNat (q + 2)))]))
                                refine go (fun _ kont => XS.iloadN X'.here hx rfl (hb hby d_prog_37_method_2_224) rfl  kont) ?_
                                show G (T'.setTop (mkF m 225 #[.val (.ref b), .val (.int (Int32.ofNat q0)), .val (.int (Int32.ofNat e8)), .val (.int (Int32.ofNat q)), .val (.int (Int32.ofNat (own_f xs (q)))), .val (.int (3 : Int32)), .val (.int s144_0), .val (.int s162_0), .val (.int (Int32.ofNat (own_f xs (q + 1)))), .val (.int (Int32.ofNat (q + 2)))] [(.int (Int32.ofNat q)), (.int (Int32.ofNat (q + 2)))]))
                                refine go (fun _ kont => XS.iload X'.here hx rfl (hb hby d_prog_37_method_2_225) rfl  kont) ?_
                                show G (T'.setTop (mkF m 227 #[.val (.ref b), .val (.int (Int32.ofNat q0)), .val (.int (Int32.ofNat e8)), .val (.int (Int32.ofNat q)), .val (.int (Int32.ofNat (own_f xs (q)))), .val (.int (3 : Int32)), .val (.int s144_0), .val (.int s162_0), .val (.int (Int32.ofNat (own_f xs (q + 1)))), .val (.int (Int32.ofNat (q + 2)))] [(.int (3 : Int32)), (.int (Int32.ofNat q)), (.int (Int32.ofNat (q + 2)))]))
                                refine go (fun _ kont => XS.iadd X'.here hx rfl (hb hby d_prog_37_method_2_227) rfl kont) ?_
                                show G (T'.setTop (mkF m 228 #[.val (.ref b), .val (.int (Int32.ofNat q0)), .val (.int (Int32.ofNat e8)), .val (.int (Int32.ofNat q)), .val (.int (Int32.ofNat (own_f xs (q)))), .val (.int (3 : Int32)), .val (.int s144_0), .val (.int s162_0), .val (.int (Int32.ofNat (own_f xs (q + 1)))), .val (.int (Int32.ofNat (q + 2)))] [(.int ((Int32.ofNat q) + (3 : Int32))), (.int (Int32.ofNat (q + 2)))]))
                                rw [show Int32.ofNat q + (3 : Int32) = Int32.ofNat (q + 3) from own_addk q 3]
                                show G (T'.setTop (mkF m 228 #[.val (.ref b), .val (.int (Int32.ofNat q0)), .val (.int (Int32.ofNat e8)), .val (.int (Int32.ofNat q)), .val (.int (Int32.ofNat (own_f xs (q)))), .val (.int (3 : Int32)), .val (.int s144_0), .val (.int s162_0), .val (.int (Int32.ofNat (own_f xs (q + 1)))), .val (.int (Int32.ofNat (q + 2)))] [(.int (Int32.ofNat (q + 3))), (.int (Int32.ofNat (q + 2)))]))
                                refine go (fun _ kont => XS.icmpNo X'.here hx rfl (hb hby d_prog_37_method_2_228) rfl (flt (fun z => absurd ((own_ltO (d := q + 3) (k := q + 2) (by omega) (by omega)).mp z) (by omega))).2.2.1 kont) ?_
                                show G (T'.setTop (mkF m 231 #[.val (.ref b), .val (.int (Int32.ofNat q0)), .val (.int (Int32.ofNat e8)), .val (.int (Int32.ofNat q)), .val (.int (Int32.ofNat (own_f xs (q)))), .val (.int (3 : Int32)), .val (.int s144_0), .val (.int s162_0), .val (.int (Int32.ofNat (own_f xs (q + 1)))), .val (.int (Int32.ofNat (q + 2)))] []))
                                refine go (fun _ kont => XS.aloadN X'.here hx rfl (hb hby d_prog_37_method_2_231) rfl rfl kont) ?_
                                show G (T'.setTop (mkF m 232 #[.val (.ref b), .val (.int (Int32.ofNat q0)), .val (.int (Int32.ofNat e8)), .val (.int (Int32.ofNat q)), .val (.int (Int32.ofNat (own_f xs (q)))), .val (.int (3 : Int32)), .val (.int s144_0), .val (.int s162_0), .val (.int (Int32.ofNat (own_f xs (q + 1)))), .val (.int (Int32.ofNat (q + 2)))] [(.ref b)]))
                                refine go (fun _ kont => XS.iload X'.here hx rfl (hb hby d_prog_37_method_2_232) rfl  kont) ?_
                                show G (T'.setTop (mkF m 234 #[.val (.ref b), .val (.int (Int32.ofNat q0)), .val (.int (Int32.ofNat e8)), .val (.int (Int32.ofNat q)), .val (.int (Int32.ofNat (own_f xs (q)))), .val (.int (3 : Int32)), .val (.int s144_0), .val (.int s162_0), .val (.int (Int32.ofNat (own_f xs (q + 1)))), .val (.int (Int32.ofNat (q + 2)))] [(.int (Int32.ofNat (q + 2))), (.ref b)]))
                                refine go (fun _ kont => X'.baloadBytes hx (j := (Int32.ofNat (q + 2))) (v := (.int (xs.getD (q + 2) 0))) (by rw [e']; exact Ar.1) (State.isArrayOf_alike hZ.alike Ar.2.1) Ar.2.2 (own_hink Sl (own_neg (by rw [own_ofN (by omega)]; omega)) (own_tnO (by omega)) (k := q + 2) (by rw [List.length_map]; omega)) (own_hatk Sl (own_tnO (by omega)) (own_atI (k := q + 2) (by omega))) (g := (mkF m 234 #[.val (.ref b), .val (.int (Int32.ofNat q0)), .val (.int (Int32.ofNat e8)), .val (.int (Int32.ofNat q)), .val (.int (Int32.ofNat (own_f xs (q)))), .val (.int (3 : Int32)), .val (.int s144_0), .val (.int s162_0), .val (.int (Int32.ofNat (own_f xs (q + 1)))), .val (.int (Int32.ofNat (q + 2)))] [(.int (Int32.ofNat (q + 2))), (.ref b)])) rfl rfl (hb hby d_prog_37_method_2_234) _ kont) ?_
                                show G (T'.setTop (mkF m 235 #[.val (.ref b), .val (.int (Int32.ofNat q0)), .val (.int (Int32.ofNat e8)), .val (.int (Int32.ofNat q)), .val (.int (Int32.ofNat (own_f xs (q)))), .val (.int (3 : Int32)), .val (.int s144_0), .val (.int s162_0), .val (.int (Int32.ofNat (own_f xs (q + 1)))), .val (.int (Int32.ofNat (q + 2)))] [(.int (xs.getD (q + 2) 0))]))
                                refine go (fun _ kont => XS.sipush X'.here hx rfl (hb hby d_prog_37_method_2_235) kont) ?_
                                show G (T'.setTop (mkF m 238 #[.val (.ref b), .val (.int (Int32.ofNat q0)), .val (.int (Int32.ofNat e8)), .val (.int (Int32.ofNat q)), .val (.int (Int32.ofNat (own_f xs (q)))), .val (.int (3 : Int32)), .val (.int s144_0), .val (.int s162_0), .val (.int (Int32.ofNat (own_f xs (q + 1)))), .val (.int (Int32.ofNat (q + 2)))] [(.int (192 : Int32)), (.int (xs.getD (q + 2) 0))]))
                                refine go (fun _ kont => XS.iand X'.here hx rfl (hb hby d_prog_37_method_2_238) rfl kont) ?_
                                show G (T'.setTop (mkF m 239 #[.val (.ref b), .val (.int (Int32.ofNat q0)), .val (.int (Int32.ofNat e8)), .val (.int (Int32.ofNat q)), .val (.int (Int32.ofNat (own_f xs (q)))), .val (.int (3 : Int32)), .val (.int s144_0), .val (.int s162_0), .val (.int (Int32.ofNat (own_f xs (q + 1)))), .val (.int (Int32.ofNat (q + 2)))] [(.int ((xs.getD (q + 2) 0) &&& (192 : Int32)))]))
                                rw [own_c192 (xs.getD (q + 2) 0)]
                                show G (T'.setTop (mkF m 239 #[.val (.ref b), .val (.int (Int32.ofNat q0)), .val (.int (Int32.ofNat e8)), .val (.int (Int32.ofNat q)), .val (.int (Int32.ofNat (own_f xs (q)))), .val (.int (3 : Int32)), .val (.int s144_0), .val (.int s162_0), .val (.int (Int32.ofNat (own_f xs (q + 1)))), .val (.int (Int32.ofNat (q + 2)))] [(.int ((Int32.ofNat (own_f xs (q + 2))) &&& (192 : Int32)))]))
                                refine go (fun _ kont => XS.sipush X'.here hx rfl (hb hby d_prog_37_method_2_239) kont) ?_
                                show G (T'.setTop (mkF m 242 #[.val (.ref b), .val (.int (Int32.ofNat q0)), .val (.int (Int32.ofNat e8)), .val (.int (Int32.ofNat q)), .val (.int (Int32.ofNat (own_f xs (q)))), .val (.int (3 : Int32)), .val (.int s144_0), .val (.int s162_0), .val (.int (Int32.ofNat (own_f xs (q + 1)))), .val (.int (Int32.ofNat (q + 2)))] [(.int (128 : Int32)), (.int ((Int32.ofNat (own_f xs (q + 2))) &&& (192 : Int32)))]))
                                by_cases hc242 : ((Int32.ofNat (own_f xs (q + 2))) &&& (192 : Int32)) = (128 : Int32)
                                · refine go (fun _ kont => XS.icmpYes X'.here hx rfl (pc0 := 242) (pc' := 247) rfl (hb hby d_prog_37_method_2_242) rfl (teq hc242).1 (by decide) (by decide) kont) ?_
                                  show G (T'.setTop (mkF m 247 #[.val (.ref b), .val (.int (Int32.ofNat q0)), .val (.int (Int32.ofNat e8)), .val (.int (Int32.ofNat q)), .val (.int (Int32.ofNat (own_f xs (q)))), .val (.int (3 : Int32)), .val (.int s144_0), .val (.int s162_0), .val (.int (Int32.ofNat (own_f xs (q + 1)))), .val (.int (Int32.ofNat (q + 2)))] []))
                                  rw [show _ ↔ _ from own_m192' _ hb2] at hc242
                                  refine go (fun _ kont => XS.iinc X'.here hx rfl (hb hby d_prog_37_method_2_247) rfl (l' := #[.val (.ref b), .val (.int (Int32.ofNat q0)), .val (.int (Int32.ofNat e8)), .val (.int (Int32.ofNat q)), .val (.int (Int32.ofNat (own_f xs (q)))), .val (.int (3 : Int32)), .val (.int s144_0), .val (.int s162_0), .val (.int (Int32.ofNat (own_f xs (q + 1)))), .val (.int ((Int32.ofNat (q + 2)) + (1 : Int32)))]) rfl kont) ?_
                                  show G (T'.setTop (mkF m 250 #[.val (.ref b), .val (.int (Int32.ofNat q0)), .val (.int (Int32.ofNat e8)), .val (.int (Int32.ofNat q)), .val (.int (Int32.ofNat (own_f xs (q)))), .val (.int (3 : Int32)), .val (.int s144_0), .val (.int s162_0), .val (.int (Int32.ofNat (own_f xs (q + 1)))), .val (.int ((Int32.ofNat (q + 2)) + (1 : Int32)))] []))
                                  rw [show Int32.ofNat (q + 2) + (1 : Int32) = Int32.ofNat (q + 3) from own_addk (q + 2) 1]
                                  show G (T'.setTop (mkF m 250 #[.val (.ref b), .val (.int (Int32.ofNat q0)), .val (.int (Int32.ofNat e8)), .val (.int (Int32.ofNat q)), .val (.int (Int32.ofNat (own_f xs (q)))), .val (.int (3 : Int32)), .val (.int s144_0), .val (.int s162_0), .val (.int (Int32.ofNat (own_f xs (q + 1)))), .val (.int (Int32.ofNat (q + 3)))] []))
                                  refine go (fun _ kont => XS.goto X'.here hx rfl (pc0 := 250) (pc' := 222) rfl (hb hby d_prog_37_method_2_250) (by decide) (by decide) kont) ?_
                                  show G (T'.setTop (mkF m 222 #[.val (.ref b), .val (.int (Int32.ofNat q0)), .val (.int (Int32.ofNat e8)), .val (.int (Int32.ofNat q)), .val (.int (Int32.ofNat (own_f xs (q)))), .val (.int (3 : Int32)), .val (.int s144_0), .val (.int s162_0), .val (.int (Int32.ofNat (own_f xs (q + 1)))), .val (.int (Int32.ofNat (q + 3)))] []))
                                  refine go (fun _ kont => XS.iload X'.here hx rfl (hb hby d_prog_37_method_2_222) rfl  kont) ?_
                                  show G (T'.setTop (mkF m 224 #[.val (.ref b), .val (.int (Int32.ofNat q0)), .val (.int (Int32.ofNat e8)), .val (.int (Int32.ofNat q)), .val (.int (Int32.ofNat (own_f xs (q)))), .val (.int (3 : Int32)), .val (.int s144_0), .val (.int s162_0), .val (.int (Int32.ofNat (own_f xs (q + 1)))), .val (.int (Int32.ofNat (q + 3)))] [(.int (Int32.ofNat (q + 3)))]))
                                  refine go (fun _ kont => XS.iloadN X'.here hx rfl (hb hby d_prog_37_method_2_224) rfl  kont) ?_
                                  show G (T'.setTop (mkF m 225 #[.val (.ref b), .val (.int (Int32.ofNat q0)), .val (.int (Int32.ofNat e8)), .val (.int (Int32.ofNat q)), .val (.int (Int32.ofNat (own_f xs (q)))), .val (.int (3 : Int32)), .val (.int s144_0), .val (.int s162_0), .val (.int (Int32.ofNat (own_f xs (q + 1)))), .val (.int (Int32.ofNat (q + 3)))] [(.int (Int32.ofNat q)), (.int (Int32.ofNat (q + 3)))]))
                                  refine go (fun _ kont => XS.iload X'.here hx rfl (hb hby d_prog_37_method_2_225) rfl  kont) ?_
                                  show G (T'.setTop (mkF m 227 #[.val (.ref b), .val (.int (Int32.ofNat q0)), .val (.int (Int32.ofNat e8)), .val (.int (Int32.ofNat q)), .val (.int (Int32.ofNat (own_f xs (q)))), .val (.int (3 : Int32)), .val (.int s144_0), .val (.int s162_0), .val (.int (Int32.ofNat (own_f xs (q + 1)))), .val (.int (Int32.ofNat (q + 3)))] [(.int (3 : Int32)), (.int (Int32.ofNat q)), (.int (Int32.ofNat (q + 3)))]))
                                  refine go (fun _ kont => XS.iadd X'.here hx rfl (hb hby d_prog_37_method_2_227) rfl kont) ?_
                                  show G (T'.setTop (mkF m 228 #[.val (.ref b), .val (.int (Int32.ofNat q0)), .val (.int (Int32.ofNat e8)), .val (.int (Int32.ofNat q)), .val (.int (Int32.ofNat (own_f xs (q)))), .val (.int (3 : Int32)), .val (.int s144_0), .val (.int s162_0), .val (.int (Int32.ofNat (own_f xs (q + 1)))), .val (.int (Int32.ofNat (q + 3)))] [(.int ((Int32.ofNat q) + (3 : Int32))), (.int (Int32.ofNat (q + 3)))]))
                                  rw [show Int32.ofNat q + (3 : Int32) = Int32.ofNat (q + 3) from own_addk q 3]
                                  show G (T'.setTop (mkF m 228 #[.val (.ref b), .val (.int (Int32.ofNat q0)), .val (.int (Int32.ofNat e8)), .val (.int (Int32.ofNat q)), .val (.int (Int32.ofNat (own_f xs (q)))), .val (.int (3 : Int32)), .val (.int s144_0), .val (.int s162_0), .val (.int (Int32.ofNat (own_f xs (q + 1)))), .val (.int (Int32.ofNat (q + 3)))] [(.int (Int32.ofNat (q + 3))), (.int (Int32.ofNat (q + 3)))]))
                                  refine go (fun _ kont => XS.icmpNo X'.here hx rfl (hb hby d_prog_37_method_2_228) rfl (flt (fun z => absurd ((own_ltO (d := q + 3) (k := q + 3) (by omega) (by omega)).mp z) (by omega))).2.2.1 kont) ?_
                                  show G (T'.setTop (mkF m 231 #[.val (.ref b), .val (.int (Int32.ofNat q0)), .val (.int (Int32.ofNat e8)), .val (.int (Int32.ofNat q)), .val (.int (Int32.ofNat (own_f xs (q)))), .val (.int (3 : Int32)), .val (.int s144_0), .val (.int s162_0), .val (.int (Int32.ofNat (own_f xs (q + 1)))), .val (.int (Int32.ofNat (q + 3)))] []))
                                  refine go (fun _ kont => XS.aloadN X'.here hx rfl (hb hby d_prog_37_method_2_231) rfl rfl kont) ?_
                                  show G (T'.setTop (mkF m 232 #[.val (.ref b), .val (.int (Int32.ofNat q0)), .val (.int (Int32.ofNat e8)), .val (.int (Int32.ofNat q)), .val (.int (Int32.ofNat (own_f xs (q)))), .val (.int (3 : Int32)), .val (.int s144_0), .val (.int s162_0), .val (.int (Int32.ofNat (own_f xs (q + 1)))), .val (.int (Int32.ofNat (q + 3)))] [(.ref b)]))
                                  refine go (fun _ kont => XS.iload X'.here hx rfl (hb hby d_prog_37_method_2_232) rfl  kont) ?_
                                  show G (T'.setTop (mkF m 234 #[.val (.ref b), .val (.int (Int32.ofNat q0)), .val (.int (Int32.ofNat e8)), .val (.int (Int32.ofNat q)), .val (.int (Int32.ofNat (own_f xs (q)))), .val (.int (3 : Int32)), .val (.int s144_0), .val (.int s162_0), .val (.int (Int32.ofNat (own_f xs (q + 1)))), .val (.int (Int32.ofNat (q + 3)))] [(.int (Int32.ofNat (q + 3))), (.ref b)]))
                                  refine go (fun _ kont => X'.baloadBytes hx (j := (Int32.ofNat (q + 3))) (v := (.int (xs.getD (q + 3) 0))) (by rw [e']; exact Ar.1) (State.isArrayOf_alike hZ.alike Ar.2.1) Ar.2.2 (own_hink Sl (own_neg (by rw [own_ofN (by omega)]; omega)) (own_tnO (by omega)) (k := q + 3) (by rw [List.length_map]; omega)) (own_hatk Sl (own_tnO (by omega)) (own_atI (k := q + 3) (by omega))) (g := (mkF m 234 #[.val (.ref b), .val (.int (Int32.ofNat q0)), .val (.int (Int32.ofNat e8)), .val (.int (Int32.ofNat q)), .val (.int (Int32.ofNat (own_f xs (q)))), .val (.int (3 : Int32)), .val (.int s144_0), .val (.int s162_0), .val (.int (Int32.ofNat (own_f xs (q + 1)))), .val (.int (Int32.ofNat (q + 3)))] [(.int (Int32.ofNat (q + 3))), (.ref b)])) rfl rfl (hb hby d_prog_37_method_2_234) _ kont) ?_
                                  show G (T'.setTop (mkF m 235 #[.val (.ref b), .val (.int (Int32.ofNat q0)), .val (.int (Int32.ofNat e8)), .val (.int (Int32.ofNat q)), .val (.int (Int32.ofNat (own_f xs (q)))), .val (.int (3 : Int32)), .val (.int s144_0), .val (.int s162_0), .val (.int (Int32.ofNat (own_f xs (q + 1)))), .val (.int (Int32.ofNat (q + 3)))] [(.int (xs.getD (q + 3) 0))]))
                                  refine go (fun _ kont => XS.sipush X'.here hx rfl (hb hby d_prog_37_method_2_235) kont) ?_
                                  show G (T'.setTop (mkF m 238 #[.val (.ref b), .val (.int (Int32.ofNat q0)), .val (.int (Int32.ofNat e8)), .val (.int (Int32.ofNat q)), .val (.int (Int32.ofNat (own_f xs (q)))), .val (.int (3 : Int32)), .val (.int s144_0), .val (.int s162_0), .val (.int (Int32.ofNat (own_f xs (q + 1)))), .val (.int (Int32.ofNat (q + 3)))] [(.int (192 : Int32)), (.int (xs.getD (q + 3) 0))]))
                                  refine go (fun _ kont => XS.iand X'.here hx rfl (hb hby d_prog_37_method_2_238) rfl kont) ?_
                                  show G (T'.setTop (mkF m 239 #[.val (.ref b), .val (.int (Int32.ofNat q0)), .val (.int (Int32.ofNat e8)), .val (.int (Int32.ofNat q)), .val (.int (Int32.ofNat (own_f xs (q)))), .val (.int (3 : Int32)), .val (.int s144_0), .val (.int s162_0), .val (.int (Int32.ofNat (own_f xs (q + 1)))), .val (.int (Int32.ofNat (q + 3)))] [(.int ((xs.getD (q + 3) 0) &&& (192 : Int32)))]))
                                  rw [own_c192 (xs.getD (q + 3) 0)]
                                  show G (T'.setTop (mkF m 239 #[.val (.ref b), .val (.int (Int32.ofNat q0)), .val (.int (Int32.ofNat e8)), .val (.int (Int32.ofNat q)), .val (.int (Int32.ofNat (own_f xs (q)))), .val (.int (3 : Int32)), .val (.int s144_0), .val (.int s162_0), .val (.int (Int32.ofNat (own_f xs (q + 1)))), .val (.int (Int32.ofNat (q + 3)))] [(.int ((Int32.ofNat (own_f xs (q + 3))) &&& (192 : Int32)))]))
                                  refine go (fun _ kont => XS.sipush X'.here hx rfl (hb hby d_prog_37_method_2_239) kont) ?_
                                  show G (T'.setTop (mkF m 242 #[.val (.ref b), .val (.int (Int32.ofNat q0)), .val (.int (Int32.ofNat e8)), .val (.int (Int32.ofNat q)), .val (.int (Int32.ofNat (own_f xs (q)))), .val (.int (3 : Int32)), .val (.int s144_0), .val (.int s162_0), .val (.int (Int32.ofNat (own_f xs (q + 1)))), .val (.int (Int32.ofNat (q + 3)))] [(.int (128 : Int32)), (.int ((Int32.ofNat (own_f xs (q + 3))) &&& (192 : Int32)))]))
                                  by_cases hc242_3 : ((Int32.ofNat (own_f xs (q + 3))) &&& (192 : Int32)) = (128 : Int32)
                                  · refine go (fun _ kont => XS.icmpYes X'.here hx rfl (pc0 := 242) (pc' := 247) rfl (hb hby d_prog_37_method_2_242) rfl (teq hc242_3).1 (by decide) (by decide) kont) ?_
                                    show G (T'.setTop (mkF m 247 #[.val (.ref b), .val (.int (Int32.ofNat q0)), .val (.int (Int32.ofNat e8)), .val (.int (Int32.ofNat q)), .val (.int (Int32.ofNat (own_f xs (q)))), .val (.int (3 : Int32)), .val (.int s144_0), .val (.int s162_0), .val (.int (Int32.ofNat (own_f xs (q + 1)))), .val (.int (Int32.ofNat (q + 3)))] []))
                                    rw [show _ ↔ _ from own_m192' _ hb3] at hc242_3
                                    refine go (fun _ kont => XS.iinc X'.here hx rfl (hb hby d_prog_37_method_2_247) rfl (l' := #[.val (.ref b), .val (.int (Int32.ofNat q0)), .val (.int (Int32.ofNat e8)), .val (.int (Int32.ofNat q)), .val (.int (Int32.ofNat (own_f xs (q)))), .val (.int (3 : Int32)), .val (.int s144_0), .val (.int s162_0), .val (.int (Int32.ofNat (own_f xs (q + 1)))), .val (.int ((Int32.ofNat (q + 3)) + (1 : Int32)))]) rfl kont) ?_
                                    show G (T'.setTop (mkF m 250 #[.val (.ref b), .val (.int (Int32.ofNat q0)), .val (.int (Int32.ofNat e8)), .val (.int (Int32.ofNat q)), .val (.int (Int32.ofNat (own_f xs (q)))), .val (.int (3 : Int32)), .val (.int s144_0), .val (.int s162_0), .val (.int (Int32.ofNat (own_f xs (q + 1)))), .val (.int ((Int32.ofNat (q + 3)) + (1 : Int32)))] []))
                                    rw [show Int32.ofNat (q + 3) + (1 : Int32) = Int32.ofNat (q + 4) from own_addk (q + 3) 1]
                                    show G (T'.setTop (mkF m 250 #[.val (.ref b), .val (.int (Int32.ofNat q0)), .val (.int (Int32.ofNat e8)), .val (.int (Int32.ofNat q)), .val (.int (Int32.ofNat (own_f xs (q)))), .val (.int (3 : Int32)), .val (.int s144_0), .val (.int s162_0), .val (.int (Int32.ofNat (own_f xs (q + 1)))), .val (.int (Int32.ofNat (q + 4)))] []))
                                    refine go (fun _ kont => XS.goto X'.here hx rfl (pc0 := 250) (pc' := 222) rfl (hb hby d_prog_37_method_2_250) (by decide) (by decide) kont) ?_
                                    show G (T'.setTop (mkF m 222 #[.val (.ref b), .val (.int (Int32.ofNat q0)), .val (.int (Int32.ofNat e8)), .val (.int (Int32.ofNat q)), .val (.int (Int32.ofNat (own_f xs (q)))), .val (.int (3 : Int32)), .val (.int s144_0), .val (.int s162_0), .val (.int (Int32.ofNat (own_f xs (q + 1)))), .val (.int (Int32.ofNat (q + 4)))] []))
                                    refine go (fun _ kont => XS.iload X'.here hx rfl (hb hby d_prog_37_method_2_222) rfl  kont) ?_
                                    show G (T'.setTop (mkF m 224 #[.val (.ref b), .val (.int (Int32.ofNat q0)), .val (.int (Int32.ofNat e8)), .val (.int (Int32.ofNat q)), .val (.int (Int32.ofNat (own_f xs (q)))), .val (.int (3 : Int32)), .val (.int s144_0), .val (.int s162_0), .val (.int (Int32.ofNat (own_f xs (q + 1)))), .val (.int (Int32.ofNat (q + 4)))] [(.int (Int32.ofNat (q + 4)))]))
                                    refine go (fun _ kont => XS.iloadN X'.here hx rfl (hb hby d_prog_37_method_2_224) rfl  kont) ?_
                                    show G (T'.setTop (mkF m 225 #[.val (.ref b), .val (.int (Int32.ofNat q0)), .val (.int (Int32.ofNat e8)), .val (.int (Int32.ofNat q)), .val (.int (Int32.ofNat (own_f xs (q)))), .val (.int (3 : Int32)), .val (.int s144_0), .val (.int s162_0), .val (.int (Int32.ofNat (own_f xs (q + 1)))), .val (.int (Int32.ofNat (q + 4)))] [(.int (Int32.ofNat q)), (.int (Int32.ofNat (q + 4)))]))
                                    refine go (fun _ kont => XS.iload X'.here hx rfl (hb hby d_prog_37_method_2_225) rfl  kont) ?_
                                    show G (T'.setTop (mkF m 227 #[.val (.ref b), .val (.int (Int32.ofNat q0)), .val (.int (Int32.ofNat e8)), .val (.int (Int32.ofNat q)), .val (.int (Int32.ofNat (own_f xs (q)))), .val (.int (3 : Int32)), .val (.int s144_0), .val (.int s162_0), .val (.int (Int32.ofNat (own_f xs (q + 1)))), .val (.int (Int32.ofNat (q + 4)))] [(.int (3 : Int32)), (.int (Int32.ofNat q)), (.int (Int32.ofNat (q + 4)))]))
                                    refine go (fun _ kont => XS.iadd X'.here hx rfl (hb hby d_prog_37_method_2_227) rfl kont) ?_
                                    show G (T'.setTop (mkF m 228 #[.val (.ref b), .val (.int (Int32.ofNat q0)), .val (.int (Int32.ofNat e8)), .val (.int (Int32.ofNat q)), .val (.int (Int32.ofNat (own_f xs (q)))), .val (.int (3 : Int32)), .val (.int s144_0), .val (.int s162_0), .val (.int (Int32.ofNat (own_f xs (q + 1)))), .val (.int (Int32.ofNat (q + 4)))] [(.int ((Int32.ofNat q) + (3 : Int32))), (.int (Int32.ofNat (q + 4)))]))
                                    rw [show Int32.ofNat q + (3 : Int32) = Int32.ofNat (q + 3) from own_addk q 3]
                                    show G (T'.setTop (mkF m 228 #[.val (.ref b), .val (.int (Int32.ofNat q0)), .val (.int (Int32.ofNat e8)), .val (.int (Int32.ofNat q)), .val (.int (Int32.ofNat (own_f xs (q)))), .val (.int (3 : Int32)), .val (.int s144_0), .val (.int s162_0), .val (.int (Int32.ofNat (own_f xs (q + 1)))), .val (.int (Int32.ofNat (q + 4)))] [(.int (Int32.ofNat (q + 3))), (.int (Int32.ofNat (q + 4)))]))
                                    refine go (fun _ kont => XS.icmpYes X'.here hx rfl (pc0 := 228) (pc' := 253) rfl (hb hby d_prog_37_method_2_228) rfl (tlt ((own_ltO (d := q + 3) (k := q + 4) (by omega) (by omega)).mpr (by omega))).2.2.1 (by decide) (by decide) kont) ?_
                                    show G (T'.setTop (mkF m 253 #[.val (.ref b), .val (.int (Int32.ofNat q0)), .val (.int (Int32.ofNat e8)), .val (.int (Int32.ofNat q)), .val (.int (Int32.ofNat (own_f xs (q)))), .val (.int (3 : Int32)), .val (.int s144_0), .val (.int s162_0), .val (.int (Int32.ofNat (own_f xs (q + 1)))), .val (.int (Int32.ofNat (q + 4)))] []))
                                    refine go (fun _ kont => XS.iloadN X'.here hx rfl (hb hby d_prog_37_method_2_253) rfl  kont) ?_
                                    show G (T'.setTop (mkF m 254 #[.val (.ref b), .val (.int (Int32.ofNat q0)), .val (.int (Int32.ofNat e8)), .val (.int (Int32.ofNat q)), .val (.int (Int32.ofNat (own_f xs (q)))), .val (.int (3 : Int32)), .val (.int s144_0), .val (.int s162_0), .val (.int (Int32.ofNat (own_f xs (q + 1)))), .val (.int (Int32.ofNat (q + 4)))] [(.int (Int32.ofNat q))]))
                                    refine go (fun _ kont => XS.iload X'.here hx rfl (hb hby d_prog_37_method_2_254) rfl  kont) ?_
                                    show G (T'.setTop (mkF m 256 #[.val (.ref b), .val (.int (Int32.ofNat q0)), .val (.int (Int32.ofNat e8)), .val (.int (Int32.ofNat q)), .val (.int (Int32.ofNat (own_f xs (q)))), .val (.int (3 : Int32)), .val (.int s144_0), .val (.int s162_0), .val (.int (Int32.ofNat (own_f xs (q + 1)))), .val (.int (Int32.ofNat (q + 4)))] [(.int (3 : Int32)), (.int (Int32.ofNat q))]))
                                    refine go (fun _ kont => XS.iconst X'.here hx rfl (hb hby d_prog_37_method_2_256) kont) ?_
                                    show G (T'.setTop (mkF m 257 #[.val (.ref b), .val (.int (Int32.ofNat q0)), .val (.int (Int32.ofNat e8)), .val (.int (Int32.ofNat q)), .val (.int (Int32.ofNat (own_f xs (q)))), .val (.int (3 : Int32)), .val (.int s144_0), .val (.int s162_0), .val (.int (Int32.ofNat (own_f xs (q + 1)))), .val (.int (Int32.ofNat (q + 4)))] [(.int (1 : Int32)), (.int (3 : Int32)), (.int (Int32.ofNat q))]))
                                    refine go (fun _ kont => XS.iadd X'.here hx rfl (hb hby d_prog_37_method_2_257) rfl kont) ?_
                                    show G (T'.setTop (mkF m 258 #[.val (.ref b), .val (.int (Int32.ofNat q0)), .val (.int (Int32.ofNat e8)), .val (.int (Int32.ofNat q)), .val (.int (Int32.ofNat (own_f xs (q)))), .val (.int (3 : Int32)), .val (.int s144_0), .val (.int s162_0), .val (.int (Int32.ofNat (own_f xs (q + 1)))), .val (.int (Int32.ofNat (q + 4)))] [(.int ((3 : Int32) + (1 : Int32))), (.int (Int32.ofNat q))]))
                                    refine go (fun _ kont => XS.iadd X'.here hx rfl (hb hby d_prog_37_method_2_258) rfl kont) ?_
                                    show G (T'.setTop (mkF m 259 #[.val (.ref b), .val (.int (Int32.ofNat q0)), .val (.int (Int32.ofNat e8)), .val (.int (Int32.ofNat q)), .val (.int (Int32.ofNat (own_f xs (q)))), .val (.int (3 : Int32)), .val (.int s144_0), .val (.int s162_0), .val (.int (Int32.ofNat (own_f xs (q + 1)))), .val (.int (Int32.ofNat (q + 4)))] [(.int ((Int32.ofNat q) + ((3 : Int32) + (1 : Int32))))]))
                                    refine go (fun _ kont => XS.istoreN X'.here hx rfl (hb hby d_prog_37_method_2_259) rfl (l' := #[.val (.ref b), .val (.int (Int32.ofNat q0)), .val (.int (Int32.ofNat e8)), .val (.int ((Int32.ofNat q) + ((3 : Int32) + (1 : Int32)))), .val (.int (Int32.ofNat (own_f xs (q)))), .val (.int (3 : Int32)), .val (.int s144_0), .val (.int s162_0), .val (.int (Int32.ofNat (own_f xs (q + 1)))), .val (.int (Int32.ofNat (q + 4)))]) rfl kont) ?_
                                    show G (T'.setTop (mkF m 260 #[.val (.ref b), .val (.int (Int32.ofNat q0)), .val (.int (Int32.ofNat e8)), .val (.int ((Int32.ofNat q) + ((3 : Int32) + (1 : Int32)))), .val (.int (Int32.ofNat (own_f xs (q)))), .val (.int (3 : Int32)), .val (.int s144_0), .val (.int s162_0), .val (.int (Int32.ofNat (own_f xs (q + 1)))), .val (.int (Int32.ofNat (q + 4)))] []))
                                    refine go (fun _ kont => XS.goto X'.here hx rfl (pc0 := 260) (pc' := 2) rfl (hb hby d_prog_37_method_2_260) (by decide) (by decide) kont) ?_
                                    show G (T'.setTop (mkF m 2 #[.val (.ref b), .val (.int (Int32.ofNat q0)), .val (.int (Int32.ofNat e8)), .val (.int ((Int32.ofNat q) + ((3 : Int32) + (1 : Int32)))), .val (.int (Int32.ofNat (own_f xs (q)))), .val (.int (3 : Int32)), .val (.int s144_0), .val (.int s162_0), .val (.int (Int32.ofNat (own_f xs (q + 1)))), .val (.int (Int32.ofNat (q + 4)))] []))
                                    rw [show Int32.ofNat q + ((3 : Int32) + (1 : Int32)) = Int32.ofNat (q + 4) from own_addk q 4]
                                    exact ih (q + 4) (by omega) (by omega) (hT.trans (own_T_step (N := 4) (by omega) he8 (by unfold own_N own_n; (repeat' split) <;> omega) (by decide))) _ _ _ _ _ _ (One.val rfl) (One.val rfl) (One.val rfl) (One.val rfl) (One.val rfl) (One.val rfl) _ X' e'
                                  · refine go (fun _ kont => XS.icmpNo X'.here hx rfl (hb hby d_prog_37_method_2_242) rfl (feq hc242_3).1 kont) ?_
                                    show G (T'.setTop (mkF m 245 #[.val (.ref b), .val (.int (Int32.ofNat q0)), .val (.int (Int32.ofNat e8)), .val (.int (Int32.ofNat q)), .val (.int (Int32.ofNat (own_f xs (q)))), .val (.int (3 : Int32)), .val (.int s144_0), .val (.int s162_0), .val (.int (Int32.ofNat (own_f xs (q + 1)))), .val (.int (Int32.ofNat (q + 3)))] []))
                                    rw [show _ ↔ _ from own_m192' _ hb3] at hc242_3
                                    refine go (fun _ kont => XS.iconst X'.here hx rfl (hb hby d_prog_37_method_2_245) kont) ?_
                                    show G (T'.setTop (mkF m 246 #[.val (.ref b), .val (.int (Int32.ofNat q0)), .val (.int (Int32.ofNat e8)), .val (.int (Int32.ofNat q)), .val (.int (Int32.ofNat (own_f xs (q)))), .val (.int (3 : Int32)), .val (.int s144_0), .val (.int s162_0), .val (.int (Int32.ofNat (own_f xs (q + 1)))), .val (.int (Int32.ofNat (q + 3)))] [(.int (0 : Int32))]))
                                    rw [hG]
                                    exact own_retN X' hx (t := .boolean) Bd.returns (by simp) (hb hby d_prog_37_method_2_246) hlk (by decide) (by decide) ⟨by rw [hT, own_T_bad (by omega) (by unfold own_N own_n; (repeat' split) <;> omega)]; rfl, N0, e'⟩
                                · refine go (fun _ kont => XS.icmpNo X'.here hx rfl (hb hby d_prog_37_method_2_242) rfl (feq hc242).1 kont) ?_
                                  show G (T'.setTop (mkF m 245 #[.val (.ref b), .val (.int (Int32.ofNat q0)), .val (.int (Int32.ofNat e8)), .val (.int (Int32.ofNat q)), .val (.int (Int32.ofNat (own_f xs (q)))), .val (.int (3 : Int32)), .val (.int s144_0), .val (.int s162_0), .val (.int (Int32.ofNat (own_f xs (q + 1)))), .val (.int (Int32.ofNat (q + 2)))] []))
                                  rw [show _ ↔ _ from own_m192' _ hb2] at hc242
                                  refine go (fun _ kont => XS.iconst X'.here hx rfl (hb hby d_prog_37_method_2_245) kont) ?_
                                  show G (T'.setTop (mkF m 246 #[.val (.ref b), .val (.int (Int32.ofNat q0)), .val (.int (Int32.ofNat e8)), .val (.int (Int32.ofNat q)), .val (.int (Int32.ofNat (own_f xs (q)))), .val (.int (3 : Int32)), .val (.int s144_0), .val (.int s162_0), .val (.int (Int32.ofNat (own_f xs (q + 1)))), .val (.int (Int32.ofNat (q + 2)))] [(.int (0 : Int32))]))
                                  rw [hG]
                                  exact own_retN X' hx (t := .boolean) Bd.returns (by simp) (hb hby d_prog_37_method_2_246) hlk (by decide) (by decide) ⟨by rw [hT, own_T_bad (by omega) (by unfold own_N own_n; (repeat' split) <;> omega)]; rfl, N0, e'⟩
                          · refine go (fun _ kont => XS.icmpNo X'.here hx rfl (hb hby d_prog_37_method_2_185) rfl (flt hc185).2.2.1 kont) ?_
                            show G (T'.setTop (mkF m 188 #[.val (.ref b), .val (.int (Int32.ofNat q0)), .val (.int (Int32.ofNat e8)), .val (.int (Int32.ofNat q)), .val (.int (Int32.ofNat (own_f xs (q)))), .val (.int (3 : Int32)), .val (.int s144_0), .val (.int s162_0), s8, s9] []))
                            rw [show (3 : Int32) < Int32.ofNat (e8 - q) ↔ 3 < e8 - q from own_ltO (d := 3) (k := e8 - q) (by omega) (by omega)] at hc185
                            refine go (fun _ kont => XS.iconst X'.here hx rfl (hb hby d_prog_37_method_2_188) kont) ?_
                            show G (T'.setTop (mkF m 189 #[.val (.ref b), .val (.int (Int32.ofNat q0)), .val (.int (Int32.ofNat e8)), .val (.int (Int32.ofNat q)), .val (.int (Int32.ofNat (own_f xs (q)))), .val (.int (3 : Int32)), .val (.int s144_0), .val (.int s162_0), s8, s9] [(.int (0 : Int32))]))
                            rw [hG]
                            exact own_retN X' hx (t := .boolean) Bd.returns (by simp) (hb hby d_prog_37_method_2_189) hlk (by decide) (by decide) ⟨by rw [hT, own_T_bad (by omega) (by unfold own_N own_n; (repeat' split) <;> omega)]; rfl, N0, e'⟩
                        by_cases hc162 : (Int32.ofNat (own_f xs (q))) = (244 : Int32)
                        · refine go (fun _ kont => XS.icmpNo X'.here hx rfl (hb hby d_prog_37_method_2_162) rfl (teq hc162).2 kont) ?_
                          show G (T'.setTop (mkF m 165 #[.val (.ref b), .val (.int (Int32.ofNat q0)), .val (.int (Int32.ofNat e8)), .val (.int (Int32.ofNat q)), .val (.int (Int32.ofNat (own_f xs (q)))), .val (.int (3 : Int32)), .val (.int s144_0), .val (.int (191 : Int32)), s8, s9] []))
                          refine go (fun _ kont => XS.sipush X'.here hx rfl (hb hby d_prog_37_method_2_165) kont) ?_
                          show G (T'.setTop (mkF m 168 #[.val (.ref b), .val (.int (Int32.ofNat q0)), .val (.int (Int32.ofNat e8)), .val (.int (Int32.ofNat q)), .val (.int (Int32.ofNat (own_f xs (q)))), .val (.int (3 : Int32)), .val (.int s144_0), .val (.int (191 : Int32)), s8, s9] [(.int (143 : Int32))]))
                          refine go (fun _ kont => XS.goto X'.here hx rfl (pc0 := 168) (pc' := 173) rfl (hb hby d_prog_37_method_2_168) (by decide) (by decide) kont) ?_
                          show G (T'.setTop (mkF m 173 #[.val (.ref b), .val (.int (Int32.ofNat q0)), .val (.int (Int32.ofNat e8)), .val (.int (Int32.ofNat q)), .val (.int (Int32.ofNat (own_f xs (q)))), .val (.int (3 : Int32)), .val (.int s144_0), .val (.int (191 : Int32)), s8, s9] [(.int (143 : Int32))]))
                          exact j10 _ (by first | exact (if_pos hc162).symm | (rw [if_pos hc162]; assumption))
                        · refine go (fun _ kont => XS.icmpYes X'.here hx rfl (pc0 := 162) (pc' := 171) rfl (hb hby d_prog_37_method_2_162) rfl (feq hc162).2 (by decide) (by decide) kont) ?_
                          show G (T'.setTop (mkF m 171 #[.val (.ref b), .val (.int (Int32.ofNat q0)), .val (.int (Int32.ofNat e8)), .val (.int (Int32.ofNat q)), .val (.int (Int32.ofNat (own_f xs (q)))), .val (.int (3 : Int32)), .val (.int s144_0), .val (.int (191 : Int32)), s8, s9] []))
                          refine go (fun _ kont => XS.iload X'.here hx rfl (hb hby d_prog_37_method_2_171) rfl  kont) ?_
                          show G (T'.setTop (mkF m 173 #[.val (.ref b), .val (.int (Int32.ofNat q0)), .val (.int (Int32.ofNat e8)), .val (.int (Int32.ofNat q)), .val (.int (Int32.ofNat (own_f xs (q)))), .val (.int (3 : Int32)), .val (.int s144_0), .val (.int (191 : Int32)), s8, s9] [(.int (191 : Int32))]))
                          exact j10 _ (by first | exact (if_neg hc162).symm | (rw [if_neg hc162]; assumption))
                      by_cases hc144 : (Int32.ofNat (own_f xs (q))) = (240 : Int32)
                      · refine go (fun _ kont => XS.icmpNo X'.here hx rfl (hb hby d_prog_37_method_2_144) rfl (teq hc144).2 kont) ?_
                        show G (T'.setTop (mkF m 147 #[.val (.ref b), .val (.int (Int32.ofNat q0)), .val (.int (Int32.ofNat e8)), .val (.int (Int32.ofNat q)), .val (.int (Int32.ofNat (own_f xs (q)))), .val (.int (3 : Int32)), .val (.int (128 : Int32)), .val (.int (191 : Int32)), s8, s9] []))
                        refine go (fun _ kont => XS.sipush X'.here hx rfl (hb hby d_prog_37_method_2_147) kont) ?_
                        show G (T'.setTop (mkF m 150 #[.val (.ref b), .val (.int (Int32.ofNat q0)), .val (.int (Int32.ofNat e8)), .val (.int (Int32.ofNat q)), .val (.int (Int32.ofNat (own_f xs (q)))), .val (.int (3 : Int32)), .val (.int (128 : Int32)), .val (.int (191 : Int32)), s8, s9] [(.int (144 : Int32))]))
                        refine go (fun _ kont => XS.goto X'.here hx rfl (pc0 := 150) (pc' := 155) rfl (hb hby d_prog_37_method_2_150) (by decide) (by decide) kont) ?_
                        show G (T'.setTop (mkF m 155 #[.val (.ref b), .val (.int (Int32.ofNat q0)), .val (.int (Int32.ofNat e8)), .val (.int (Int32.ofNat q)), .val (.int (Int32.ofNat (own_f xs (q)))), .val (.int (3 : Int32)), .val (.int (128 : Int32)), .val (.int (191 : Int32)), s8, s9] [(.int (144 : Int32))]))
                        exact j9 _ (by first | exact (if_pos hc144).symm | (rw [if_pos hc144]; assumption))
                      · refine go (fun _ kont => XS.icmpYes X'.here hx rfl (pc0 := 144) (pc' := 153) rfl (hb hby d_prog_37_method_2_144) rfl (feq hc144).2 (by decide) (by decide) kont) ?_
                        show G (T'.setTop (mkF m 153 #[.val (.ref b), .val (.int (Int32.ofNat q0)), .val (.int (Int32.ofNat e8)), .val (.int (Int32.ofNat q)), .val (.int (Int32.ofNat (own_f xs (q)))), .val (.int (3 : Int32)), .val (.int (128 : Int32)), .val (.int (191 : Int32)), s8, s9] []))
                        refine go (fun _ kont => XS.iload X'.here hx rfl (hb hby d_prog_37_method_2_153) rfl  kont) ?_
                        show G (T'.setTop (mkF m 155 #[.val (.ref b), .val (.int (Int32.ofNat q0)), .val (.int (Int32.ofNat e8)), .val (.int (Int32.ofNat q)), .val (.int (Int32.ofNat (own_f xs (q)))), .val (.int (3 : Int32)), .val (.int (128 : Int32)), .val (.int (191 : Int32)), s8, s9] [(.int (128 : Int32))]))
                        exact j9 _ (by first | exact (if_neg hc144).symm | (rw [if_neg hc144]; assumption))
                · refine go (fun _ kont => XS.icmpNo X'.here hx rfl (hb hby d_prog_37_method_2_75) rfl (flt hc75).2.2.1 kont) ?_
                  show G (T'.setTop (mkF m 78 #[.val (.ref b), .val (.int (Int32.ofNat q0)), .val (.int (Int32.ofNat e8)), .val (.int (Int32.ofNat q)), .val (.int (Int32.ofNat (own_f xs (q)))), s5, .val (.int (128 : Int32)), .val (.int (191 : Int32)), s8, s9] []))
                  rw [show (239 : Int32) < Int32.ofNat (own_f xs (q)) ↔ 239 < own_f xs (q) from own_ltO (d := 239) (k := own_f xs (q)) (by omega) (by omega)] at hc75
                  refine go (fun _ kont => XS.iconst X'.here hx rfl (hb hby d_prog_37_method_2_78) kont) ?_
                  show G (T'.setTop (mkF m 79 #[.val (.ref b), .val (.int (Int32.ofNat q0)), .val (.int (Int32.ofNat e8)), .val (.int (Int32.ofNat q)), .val (.int (Int32.ofNat (own_f xs (q)))), s5, .val (.int (128 : Int32)), .val (.int (191 : Int32)), s8, s9] [(.int (2 : Int32))]))
                  refine go (fun _ kont => XS.istore X'.here hx rfl (hb hby d_prog_37_method_2_79) rfl (l' := #[.val (.ref b), .val (.int (Int32.ofNat q0)), .val (.int (Int32.ofNat e8)), .val (.int (Int32.ofNat q)), .val (.int (Int32.ofNat (own_f xs (q)))), .val (.int (2 : Int32)), .val (.int (128 : Int32)), .val (.int (191 : Int32)), s8, s9]) (by rcases hs5 with rfl | ⟨w, rfl, hw⟩ <;> first | rfl | (cases w <;> first | rfl | (simp [Value.category] at hw))) kont) ?_
                  show G (T'.setTop (mkF m 81 #[.val (.ref b), .val (.int (Int32.ofNat q0)), .val (.int (Int32.ofNat e8)), .val (.int (Int32.ofNat q)), .val (.int (Int32.ofNat (own_f xs (q)))), .val (.int (2 : Int32)), .val (.int (128 : Int32)), .val (.int (191 : Int32)), s8, s9] []))
                  refine go (fun _ kont => XS.iload X'.here hx rfl (hb hby d_prog_37_method_2_81) rfl  kont) ?_
                  show G (T'.setTop (mkF m 83 #[.val (.ref b), .val (.int (Int32.ofNat q0)), .val (.int (Int32.ofNat e8)), .val (.int (Int32.ofNat q)), .val (.int (Int32.ofNat (own_f xs (q)))), .val (.int (2 : Int32)), .val (.int (128 : Int32)), .val (.int (191 : Int32)), s8, s9] [(.int (Int32.ofNat (own_f xs (q))))]))
                  refine go (fun _ kont => XS.sipush X'.here hx rfl (hb hby d_prog_37_method_2_83) kont) ?_
                  show G (T'.setTop (mkF m 86 #[.val (.ref b), .val (.int (Int32.ofNat q0)), .val (.int (Int32.ofNat e8)), .val (.int (Int32.ofNat q)), .val (.int (Int32.ofNat (own_f xs (q)))), .val (.int (2 : Int32)), .val (.int (128 : Int32)), .val (.int (191 : Int32)), s8, s9] [(.int (224 : Int32)), (.int (Int32.ofNat (own_f xs (q))))]))
                  have j11 : ∀ (s86_0 : Int32), s86_0 = (if (Int32.ofNat (own_f xs (q))) = (224 : Int32) then (160 : Int32) else (128 : Int32)) → G (T'.setTop (mkF m 97 #[.val (.ref b), .val (.int (Int32.ofNat q0)), .val (.int (Int32.ofNat e8)), .val (.int (Int32.ofNat q)), .val (.int (Int32.ofNat (own_f xs (q)))), .val (.int (2 : Int32)), .val (.int (128 : Int32)), .val (.int (191 : Int32)), s8, s9] [(.int s86_0)])) := by
                    intro s86_0 hs86_0
                    refine go (fun _ kont => XS.istore X'.here hx rfl (hb hby d_prog_37_method_2_97) rfl (l' := #[.val (.ref b), .val (.int (Int32.ofNat q0)), .val (.int (Int32.ofNat e8)), .val (.int (Int32.ofNat q)), .val (.int (Int32.ofNat (own_f xs (q)))), .val (.int (2 : Int32)), .val (.int s86_0), .val (.int (191 : Int32)), s8, s9]) rfl kont) ?_
                    show G (T'.setTop (mkF m 99 #[.val (.ref b), .val (.int (Int32.ofNat q0)), .val (.int (Int32.ofNat e8)), .val (.int (Int32.ofNat q)), .val (.int (Int32.ofNat (own_f xs (q)))), .val (.int (2 : Int32)), .val (.int s86_0), .val (.int (191 : Int32)), s8, s9] []))
                    refine go (fun _ kont => XS.iload X'.here hx rfl (hb hby d_prog_37_method_2_99) rfl  kont) ?_
                    show G (T'.setTop (mkF m 101 #[.val (.ref b), .val (.int (Int32.ofNat q0)), .val (.int (Int32.ofNat e8)), .val (.int (Int32.ofNat q)), .val (.int (Int32.ofNat (own_f xs (q)))), .val (.int (2 : Int32)), .val (.int s86_0), .val (.int (191 : Int32)), s8, s9] [(.int (Int32.ofNat (own_f xs (q))))]))
                    refine go (fun _ kont => XS.sipush X'.here hx rfl (hb hby d_prog_37_method_2_101) kont) ?_
                    show G (T'.setTop (mkF m 104 #[.val (.ref b), .val (.int (Int32.ofNat q0)), .val (.int (Int32.ofNat e8)), .val (.int (Int32.ofNat q)), .val (.int (Int32.ofNat (own_f xs (q)))), .val (.int (2 : Int32)), .val (.int s86_0), .val (.int (191 : Int32)), s8, s9] [(.int (237 : Int32)), (.int (Int32.ofNat (own_f xs (q))))]))
                    have j12 : ∀ (s104_0 : Int32), s104_0 = (if (Int32.ofNat (own_f xs (q))) = (237 : Int32) then (159 : Int32) else (191 : Int32)) → G (T'.setTop (mkF m 115 #[.val (.ref b), .val (.int (Int32.ofNat q0)), .val (.int (Int32.ofNat e8)), .val (.int (Int32.ofNat q)), .val (.int (Int32.ofNat (own_f xs (q)))), .val (.int (2 : Int32)), .val (.int s86_0), .val (.int (191 : Int32)), s8, s9] [(.int s104_0)])) := by
                      intro s104_0 hs104_0
                      refine go (fun _ kont => XS.istore X'.here hx rfl (hb hby d_prog_37_method_2_115) rfl (l' := #[.val (.ref b), .val (.int (Int32.ofNat q0)), .val (.int (Int32.ofNat e8)), .val (.int (Int32.ofNat q)), .val (.int (Int32.ofNat (own_f xs (q)))), .val (.int (2 : Int32)), .val (.int s86_0), .val (.int s104_0), s8, s9]) rfl kont) ?_
                      show G (T'.setTop (mkF m 117 #[.val (.ref b), .val (.int (Int32.ofNat q0)), .val (.int (Int32.ofNat e8)), .val (.int (Int32.ofNat q)), .val (.int (Int32.ofNat (own_f xs (q)))), .val (.int (2 : Int32)), .val (.int s86_0), .val (.int s104_0), s8, s9] []))
                      refine go (fun _ kont => XS.goto X'.here hx rfl (pc0 := 117) (pc' := 180) rfl (hb hby d_prog_37_method_2_117) (by decide) (by decide) kont) ?_
                      show G (T'.setTop (mkF m 180 #[.val (.ref b), .val (.int (Int32.ofNat q0)), .val (.int (Int32.ofNat e8)), .val (.int (Int32.ofNat q)), .val (.int (Int32.ofNat (own_f xs (q)))), .val (.int (2 : Int32)), .val (.int s86_0), .val (.int s104_0), s8, s9] []))
                      obtain ⟨lo, hlo, hlo1, hlo2⟩ : ∃ z : Nat, s86_0 = Int32.ofNat z ∧ (own_f xs (q) = 224 → z = 160) ∧ (own_f xs (q) ≠ 224 → z = 128) := by
                        rw [hs86_0]
                        by_cases hz : own_f xs (q) = 224
                        · exact ⟨160, by rw [if_pos (show Int32.ofNat (own_f xs (q)) = (224 : Int32) from by rw [hz]; rfl)]; rfl, fun _ => rfl, fun z => absurd hz z⟩
                        · exact ⟨128, by rw [if_neg (show ¬ (Int32.ofNat (own_f xs (q)) = (224 : Int32)) from fun z => hz ((own_eqO (d := own_f xs (q)) (k := 224) (by omega) (by omega)).mp z))]; rfl, fun z => absurd z hz, fun _ => rfl⟩
                      obtain ⟨hi, hhi, hhi1, hhi2⟩ : ∃ z : Nat, s104_0 = Int32.ofNat z ∧ (own_f xs (q) = 237 → z = 159) ∧ (own_f xs (q) ≠ 237 → z = 191) := by
                        rw [hs104_0]
                        by_cases hz : own_f xs (q) = 237
                        · exact ⟨159, by rw [if_pos (show Int32.ofNat (own_f xs (q)) = (237 : Int32) from by rw [hz]; rfl)]; rfl, fun _ => rfl, fun z => absurd hz z⟩
                        · exact ⟨191, by rw [if_neg (show ¬ (Int32.ofNat (own_f xs (q)) = (237 : Int32)) from fun z => hz ((own_eqO (d := own_f xs (q)) (k := 237) (by omega) (by omega)).mp z))]; rfl, fun z => absurd z hz, fun _ => rfl⟩
                      refine go (fun _ kont => XS.iloadN X'.here hx rfl (hb hby d_prog_37_method_2_180) rfl  kont) ?_
                      show G (T'.setTop (mkF m 181 #[.val (.ref b), .val (.int (Int32.ofNat q0)), .val (.int (Int32.ofNat e8)), .val (.int (Int32.ofNat q)), .val (.int (Int32.ofNat (own_f xs (q)))), .val (.int (2 : Int32)), .val (.int s86_0), .val (.int s104_0), s8, s9] [(.int (Int32.ofNat e8))]))
                      refine go (fun _ kont => XS.iloadN X'.here hx rfl (hb hby d_prog_37_method_2_181) rfl  kont) ?_
                      show G (T'.setTop (mkF m 182 #[.val (.ref b), .val (.int (Int32.ofNat q0)), .val (.int (Int32.ofNat e8)), .val (.int (Int32.ofNat q)), .val (.int (Int32.ofNat (own_f xs (q)))), .val (.int (2 : Int32)), .val (.int s86_0), .val (.int s104_0), s8, s9] [(.int (Int32.ofNat q)), (.int (Int32.ofNat e8))]))
                      refine go (fun _ kont => XS.isub X'.here hx rfl (hb hby d_prog_37_method_2_182) rfl kont) ?_
                      show G (T'.setTop (mkF m 183 #[.val (.ref b), .val (.int (Int32.ofNat q0)), .val (.int (Int32.ofNat e8)), .val (.int (Int32.ofNat q)), .val (.int (Int32.ofNat (own_f xs (q)))), .val (.int (2 : Int32)), .val (.int s86_0), .val (.int s104_0), s8, s9] [(.int ((Int32.ofNat e8) - (Int32.ofNat q)))]))
                      rw [own_subk (p := e8) (k := q) (by omega)]
                      show G (T'.setTop (mkF m 183 #[.val (.ref b), .val (.int (Int32.ofNat q0)), .val (.int (Int32.ofNat e8)), .val (.int (Int32.ofNat q)), .val (.int (Int32.ofNat (own_f xs (q)))), .val (.int (2 : Int32)), .val (.int s86_0), .val (.int s104_0), s8, s9] [(.int (Int32.ofNat (e8 - q)))]))
                      refine go (fun _ kont => XS.iload X'.here hx rfl (hb hby d_prog_37_method_2_183) rfl  kont) ?_
                      show G (T'.setTop (mkF m 185 #[.val (.ref b), .val (.int (Int32.ofNat q0)), .val (.int (Int32.ofNat e8)), .val (.int (Int32.ofNat q)), .val (.int (Int32.ofNat (own_f xs (q)))), .val (.int (2 : Int32)), .val (.int s86_0), .val (.int s104_0), s8, s9] [(.int (2 : Int32)), (.int (Int32.ofNat (e8 - q)))]))
                      by_cases hc185 : (2 : Int32) < (Int32.ofNat (e8 - q))
                      · refine go (fun _ kont => XS.icmpYes X'.here hx rfl (pc0 := 185) (pc' := 190) rfl (hb hby d_prog_37_method_2_185) rfl (tlt hc185).2.2.1 (by decide) (by decide) kont) ?_
                        show G (T'.setTop (mkF m 190 #[.val (.ref b), .val (.int (Int32.ofNat q0)), .val (.int (Int32.ofNat e8)), .val (.int (Int32.ofNat q)), .val (.int (Int32.ofNat (own_f xs (q)))), .val (.int (2 : Int32)), .val (.int s86_0), .val (.int s104_0), s8, s9] []))
                        rw [show (2 : Int32) < Int32.ofNat (e8 - q) ↔ 2 < e8 - q from own_ltO (d := 2) (k := e8 - q) (by omega) (by omega)] at hc185
                        refine go (fun _ kont => XS.aloadN X'.here hx rfl (hb hby d_prog_37_method_2_190) rfl rfl kont) ?_
                        show G (T'.setTop (mkF m 191 #[.val (.ref b), .val (.int (Int32.ofNat q0)), .val (.int (Int32.ofNat e8)), .val (.int (Int32.ofNat q)), .val (.int (Int32.ofNat (own_f xs (q)))), .val (.int (2 : Int32)), .val (.int s86_0), .val (.int s104_0), s8, s9] [(.ref b)]))
                        refine go (fun _ kont => XS.iloadN X'.here hx rfl (hb hby d_prog_37_method_2_191) rfl  kont) ?_
                        show G (T'.setTop (mkF m 192 #[.val (.ref b), .val (.int (Int32.ofNat q0)), .val (.int (Int32.ofNat e8)), .val (.int (Int32.ofNat q)), .val (.int (Int32.ofNat (own_f xs (q)))), .val (.int (2 : Int32)), .val (.int s86_0), .val (.int s104_0), s8, s9] [(.int (Int32.ofNat q)), (.ref b)]))
                        refine go (fun _ kont => XS.iconst X'.here hx rfl (hb hby d_prog_37_method_2_192) kont) ?_
                        show G (T'.setTop (mkF m 193 #[.val (.ref b), .val (.int (Int32.ofNat q0)), .val (.int (Int32.ofNat e8)), .val (.int (Int32.ofNat q)), .val (.int (Int32.ofNat (own_f xs (q)))), .val (.int (2 : Int32)), .val (.int s86_0), .val (.int s104_0), s8, s9] [(.int (1 : Int32)), (.int (Int32.ofNat q)), (.ref b)]))
                        refine go (fun _ kont => XS.iadd X'.here hx rfl (hb hby d_prog_37_method_2_193) rfl kont) ?_
                        show G (T'.setTop (mkF m 194 #[.val (.ref b), .val (.int (Int32.ofNat q0)), .val (.int (Int32.ofNat e8)), .val (.int (Int32.ofNat q)), .val (.int (Int32.ofNat (own_f xs (q)))), .val (.int (2 : Int32)), .val (.int s86_0), .val (.int s104_0), s8, s9] [(.int ((Int32.ofNat q) + (1 : Int32))), (.ref b)]))
                        rw [show Int32.ofNat q + (1 : Int32) = Int32.ofNat (q + 1) from own_addk q 1]
                        show G (T'.setTop (mkF m 194 #[.val (.ref b), .val (.int (Int32.ofNat q0)), .val (.int (Int32.ofNat e8)), .val (.int (Int32.ofNat q)), .val (.int (Int32.ofNat (own_f xs (q)))), .val (.int (2 : Int32)), .val (.int s86_0), .val (.int s104_0), s8, s9] [(.int (Int32.ofNat (q + 1))), (.ref b)]))
                        refine go (fun _ kont => X'.baloadBytes hx (j := (Int32.ofNat (q + 1))) (v := (.int (xs.getD (q + 1) 0))) (by rw [e']; exact Ar.1) (State.isArrayOf_alike hZ.alike Ar.2.1) Ar.2.2 (own_hink Sl (own_neg (by rw [own_ofN (by omega)]; omega)) (own_tnO (by omega)) (k := q + 1) (by rw [List.length_map]; omega)) (own_hatk Sl (own_tnO (by omega)) (own_atI (k := q + 1) (by omega))) (g := (mkF m 194 #[.val (.ref b), .val (.int (Int32.ofNat q0)), .val (.int (Int32.ofNat e8)), .val (.int (Int32.ofNat q)), .val (.int (Int32.ofNat (own_f xs (q)))), .val (.int (2 : Int32)), .val (.int s86_0), .val (.int s104_0), s8, s9] [(.int (Int32.ofNat (q + 1))), (.ref b)])) rfl rfl (hb hby d_prog_37_method_2_194) _ kont) ?_
                        show G (T'.setTop (mkF m 195 #[.val (.ref b), .val (.int (Int32.ofNat q0)), .val (.int (Int32.ofNat e8)), .val (.int (Int32.ofNat q)), .val (.int (Int32.ofNat (own_f xs (q)))), .val (.int (2 : Int32)), .val (.int s86_0), .val (.int s104_0), s8, s9] [(.int (xs.getD (q + 1) 0))]))
                        refine go (fun _ kont => XS.sipush X'.here hx rfl (hb hby d_prog_37_method_2_195) kont) ?_
                        show G (T'.setTop (mkF m 198 #[.val (.ref b), .val (.int (Int32.ofNat q0)), .val (.int (Int32.ofNat e8)), .val (.int (Int32.ofNat q)), .val (.int (Int32.ofNat (own_f xs (q)))), .val (.int (2 : Int32)), .val (.int s86_0), .val (.int s104_0), s8, s9] [(.int (255 : Int32)), (.int (xs.getD (q + 1) 0))]))
                        refine go (fun _ kont => XS.iand X'.here hx rfl (hb hby d_prog_37_method_2_198) rfl kont) ?_
                        show G (T'.setTop (mkF m 199 #[.val (.ref b), .val (.int (Int32.ofNat q0)), .val (.int (Int32.ofNat e8)), .val (.int (Int32.ofNat q)), .val (.int (Int32.ofNat (own_f xs (q)))), .val (.int (2 : Int32)), .val (.int s86_0), .val (.int s104_0), s8, s9] [(.int ((xs.getD (q + 1) 0) &&& (255 : Int32)))]))
                        rw [own_fe xs (q + 1)]
                        show G (T'.setTop (mkF m 199 #[.val (.ref b), .val (.int (Int32.ofNat q0)), .val (.int (Int32.ofNat e8)), .val (.int (Int32.ofNat q)), .val (.int (Int32.ofNat (own_f xs (q)))), .val (.int (2 : Int32)), .val (.int s86_0), .val (.int s104_0), s8, s9] [(.int (Int32.ofNat (own_f xs (q + 1))))]))
                        refine go (fun _ kont => XS.istore X'.here hx rfl (hb hby d_prog_37_method_2_199) rfl (l' := #[.val (.ref b), .val (.int (Int32.ofNat q0)), .val (.int (Int32.ofNat e8)), .val (.int (Int32.ofNat q)), .val (.int (Int32.ofNat (own_f xs (q)))), .val (.int (2 : Int32)), .val (.int s86_0), .val (.int s104_0), .val (.int (Int32.ofNat (own_f xs (q + 1)))), s9]) (by rcases hs8 with rfl | ⟨w, rfl, hw⟩ <;> first | rfl | (cases w <;> first | rfl | (simp [Value.category] at hw))) kont) ?_
                        show G (T'.setTop (mkF m 201 #[.val (.ref b), .val (.int (Int32.ofNat q0)), .val (.int (Int32.ofNat e8)), .val (.int (Int32.ofNat q)), .val (.int (Int32.ofNat (own_f xs (q)))), .val (.int (2 : Int32)), .val (.int s86_0), .val (.int s104_0), .val (.int (Int32.ofNat (own_f xs (q + 1)))), s9] []))
                        refine go (fun _ kont => XS.iload X'.here hx rfl (hb hby d_prog_37_method_2_201) rfl  kont) ?_
                        show G (T'.setTop (mkF m 203 #[.val (.ref b), .val (.int (Int32.ofNat q0)), .val (.int (Int32.ofNat e8)), .val (.int (Int32.ofNat q)), .val (.int (Int32.ofNat (own_f xs (q)))), .val (.int (2 : Int32)), .val (.int s86_0), .val (.int s104_0), .val (.int (Int32.ofNat (own_f xs (q + 1)))), s9] [(.int (Int32.ofNat (own_f xs (q + 1))))]))
                        refine go (fun _ kont => XS.iload X'.here hx rfl (hb hby d_prog_37_method_2_203) rfl  kont) ?_
                        show G (T'.setTop (mkF m 205 #[.val (.ref b), .val (.int (Int32.ofNat q0)), .val (.int (Int32.ofNat e8)), .val (.int (Int32.ofNat q)), .val (.int (Int32.ofNat (own_f xs (q)))), .val (.int (2 : Int32)), .val (.int s86_0), .val (.int s104_0), .val (.int (Int32.ofNat (own_f xs (q + 1)))), s9] [(.int s86_0), (.int (Int32.ofNat (own_f xs (q + 1))))]))
                        by_cases hc205 : (Int32.ofNat (own_f xs (q + 1))) < s86_0
                        · refine go (fun _ kont => XS.icmpYes X'.here hx rfl (pc0 := 205) (pc' := 215) rfl (hb hby d_prog_37_method_2_205) rfl (tlt hc205).1 (by decide) (by decide) kont) ?_
                          show G (T'.setTop (mkF m 215 #[.val (.ref b), .val (.int (Int32.ofNat q0)), .val (.int (Int32.ofNat e8)), .val (.int (Int32.ofNat q)), .val (.int (Int32.ofNat (own_f xs (q)))), .val (.int (2 : Int32)), .val (.int s86_0), .val (.int s104_0), .val (.int (Int32.ofNat (own_f xs (q + 1)))), s9] []))
                          rw [hlo, show Int32.ofNat (own_f xs (q + 1)) < Int32.ofNat lo ↔ own_f xs (q + 1) < lo from own_ltO (d := own_f xs (q + 1)) (k := lo) (by omega) (by first | omega | (split <;> omega))] at hc205
                          refine go (fun _ kont => XS.iconst X'.here hx rfl (hb hby d_prog_37_method_2_215) kont) ?_
                          show G (T'.setTop (mkF m 216 #[.val (.ref b), .val (.int (Int32.ofNat q0)), .val (.int (Int32.ofNat e8)), .val (.int (Int32.ofNat q)), .val (.int (Int32.ofNat (own_f xs (q)))), .val (.int (2 : Int32)), .val (.int s86_0), .val (.int s104_0), .val (.int (Int32.ofNat (own_f xs (q + 1)))), s9] [(.int (0 : Int32))]))
                          rw [hG]
                          exact own_retN X' hx (t := .boolean) Bd.returns (by simp) (hb hby d_prog_37_method_2_216) hlk (by decide) (by decide) ⟨by rw [hT, own_T_bad (by omega) (by unfold own_N own_n; (repeat' split) <;> omega)]; rfl, N0, e'⟩
                        · refine go (fun _ kont => XS.icmpNo X'.here hx rfl (hb hby d_prog_37_method_2_205) rfl (flt hc205).1 kont) ?_
                          show G (T'.setTop (mkF m 208 #[.val (.ref b), .val (.int (Int32.ofNat q0)), .val (.int (Int32.ofNat e8)), .val (.int (Int32.ofNat q)), .val (.int (Int32.ofNat (own_f xs (q)))), .val (.int (2 : Int32)), .val (.int s86_0), .val (.int s104_0), .val (.int (Int32.ofNat (own_f xs (q + 1)))), s9] []))
                          rw [hlo, show Int32.ofNat (own_f xs (q + 1)) < Int32.ofNat lo ↔ own_f xs (q + 1) < lo from own_ltO (d := own_f xs (q + 1)) (k := lo) (by omega) (by first | omega | (split <;> omega))] at hc205
                          refine go (fun _ kont => XS.iload X'.here hx rfl (hb hby d_prog_37_method_2_208) rfl  kont) ?_
                          show G (T'.setTop (mkF m 210 #[.val (.ref b), .val (.int (Int32.ofNat q0)), .val (.int (Int32.ofNat e8)), .val (.int (Int32.ofNat q)), .val (.int (Int32.ofNat (own_f xs (q)))), .val (.int (2 : Int32)), .val (.int s86_0), .val (.int s104_0), .val (.int (Int32.ofNat (own_f xs (q + 1)))), s9] [(.int (Int32.ofNat (own_f xs (q + 1))))]))
                          refine go (fun _ kont => XS.iload X'.here hx rfl (hb hby d_prog_37_method_2_210) rfl  kont) ?_
                          show G (T'.setTop (mkF m 212 #[.val (.ref b), .val (.int (Int32.ofNat q0)), .val (.int (Int32.ofNat e8)), .val (.int (Int32.ofNat q)), .val (.int (Int32.ofNat (own_f xs (q)))), .val (.int (2 : Int32)), .val (.int s86_0), .val (.int s104_0), .val (.int (Int32.ofNat (own_f xs (q + 1)))), s9] [(.int s104_0), (.int (Int32.ofNat (own_f xs (q + 1))))]))
                          by_cases hc212 : s104_0 < (Int32.ofNat (own_f xs (q + 1)))
                          · refine go (fun _ kont => XS.icmpNo X'.here hx rfl (hb hby d_prog_37_method_2_212) rfl (tlt hc212).2.2.2 kont) ?_
                            show G (T'.setTop (mkF m 215 #[.val (.ref b), .val (.int (Int32.ofNat q0)), .val (.int (Int32.ofNat e8)), .val (.int (Int32.ofNat q)), .val (.int (Int32.ofNat (own_f xs (q)))), .val (.int (2 : Int32)), .val (.int s86_0), .val (.int s104_0), .val (.int (Int32.ofNat (own_f xs (q + 1)))), s9] []))
                            rw [hhi, show Int32.ofNat hi < Int32.ofNat (own_f xs (q + 1)) ↔ hi < own_f xs (q + 1) from own_ltO (d := hi) (k := own_f xs (q + 1)) (by first | omega | (split <;> omega)) (by omega)] at hc212
                            refine go (fun _ kont => XS.iconst X'.here hx rfl (hb hby d_prog_37_method_2_215) kont) ?_
                            show G (T'.setTop (mkF m 216 #[.val (.ref b), .val (.int (Int32.ofNat q0)), .val (.int (Int32.ofNat e8)), .val (.int (Int32.ofNat q)), .val (.int (Int32.ofNat (own_f xs (q)))), .val (.int (2 : Int32)), .val (.int s86_0), .val (.int s104_0), .val (.int (Int32.ofNat (own_f xs (q + 1)))), s9] [(.int (0 : Int32))]))
                            rw [hG]
                            exact own_retN X' hx (t := .boolean) Bd.returns (by simp) (hb hby d_prog_37_method_2_216) hlk (by decide) (by decide) ⟨by rw [hT, own_T_bad (by omega) (by unfold own_N own_n; (repeat' split) <;> omega)]; rfl, N0, e'⟩
                          · refine go (fun _ kont => XS.icmpYes X'.here hx rfl (pc0 := 212) (pc' := 217) rfl (hb hby d_prog_37_method_2_212) rfl (flt hc212).2.2.2 (by decide) (by decide) kont) ?_
                            show G (T'.setTop (mkF m 217 #[.val (.ref b), .val (.int (Int32.ofNat q0)), .val (.int (Int32.ofNat e8)), .val (.int (Int32.ofNat q)), .val (.int (Int32.ofNat (own_f xs (q)))), .val (.int (2 : Int32)), .val (.int s86_0), .val (.int s104_0), .val (.int (Int32.ofNat (own_f xs (q + 1)))), s9] []))
                            rw [hhi, show Int32.ofNat hi < Int32.ofNat (own_f xs (q + 1)) ↔ hi < own_f xs (q + 1) from own_ltO (d := hi) (k := own_f xs (q + 1)) (by first | omega | (split <;> omega)) (by omega)] at hc212
                            refine go (fun _ kont => XS.iloadN X'.here hx rfl (hb hby d_prog_37_method_2_217) rfl  kont) ?_
                            show G (T'.setTop (mkF m 218 #[.val (.ref b), .val (.int (Int32.ofNat q0)), .val (.int (Int32.ofNat e8)), .val (.int (Int32.ofNat q)), .val (.int (Int32.ofNat (own_f xs (q)))), .val (.int (2 : Int32)), .val (.int s86_0), .val (.int s104_0), .val (.int (Int32.ofNat (own_f xs (q + 1)))), s9] [(.int (Int32.ofNat q))]))
                            refine go (fun _ kont => XS.iconst X'.here hx rfl (hb hby d_prog_37_method_2_218) kont) ?_
                            show G (T'.setTop (mkF m 219 #[.val (.ref b), .val (.int (Int32.ofNat q0)), .val (.int (Int32.ofNat e8)), .val (.int (Int32.ofNat q)), .val (.int (Int32.ofNat (own_f xs (q)))), .val (.int (2 : Int32)), .val (.int s86_0), .val (.int s104_0), .val (.int (Int32.ofNat (own_f xs (q + 1)))), s9] [(.int (2 : Int32)), (.int (Int32.ofNat q))]))
                            refine go (fun _ kont => XS.iadd X'.here hx rfl (hb hby d_prog_37_method_2_219) rfl kont) ?_
                            show G (T'.setTop (mkF m 220 #[.val (.ref b), .val (.int (Int32.ofNat q0)), .val (.int (Int32.ofNat e8)), .val (.int (Int32.ofNat q)), .val (.int (Int32.ofNat (own_f xs (q)))), .val (.int (2 : Int32)), .val (.int s86_0), .val (.int s104_0), .val (.int (Int32.ofNat (own_f xs (q + 1)))), s9] [(.int ((Int32.ofNat q) + (2 : Int32)))]))
                            rw [show Int32.ofNat q + (2 : Int32) = Int32.ofNat (q + 2) from own_addk q 2]
                            show G (T'.setTop (mkF m 220 #[.val (.ref b), .val (.int (Int32.ofNat q0)), .val (.int (Int32.ofNat e8)), .val (.int (Int32.ofNat q)), .val (.int (Int32.ofNat (own_f xs (q)))), .val (.int (2 : Int32)), .val (.int s86_0), .val (.int s104_0), .val (.int (Int32.ofNat (own_f xs (q + 1)))), s9] [(.int (Int32.ofNat (q + 2)))]))
                            refine go (fun _ kont => XS.istore X'.here hx rfl (hb hby d_prog_37_method_2_220) rfl (l' := #[.val (.ref b), .val (.int (Int32.ofNat q0)), .val (.int (Int32.ofNat e8)), .val (.int (Int32.ofNat q)), .val (.int (Int32.ofNat (own_f xs (q)))), .val (.int (2 : Int32)), .val (.int s86_0), .val (.int s104_0), .val (.int (Int32.ofNat (own_f xs (q + 1)))), .val (.int (Int32.ofNat (q + 2)))]) (by rcases hs9 with rfl | ⟨w, rfl, hw⟩ <;> first | rfl | (cases w <;> first | rfl | (simp [Value.category] at hw))) kont) ?_
                            show G (T'.setTop (mkF m 222 #[.val (.ref b), .val (.int (Int32.ofNat q0)), .val (.int (Int32.ofNat e8)), .val (.int (Int32.ofNat q)), .val (.int (Int32.ofNat (own_f xs (q)))), .val (.int (2 : Int32)), .val (.int s86_0), .val (.int s104_0), .val (.int (Int32.ofNat (own_f xs (q + 1)))), .val (.int (Int32.ofNat (q + 2)))] []))
                            refine go (fun _ kont => XS.iload X'.here hx rfl (hb hby d_prog_37_method_2_222) rfl  kont) ?_
                            show G (T'.setTop (mkF m 224 #[.val (.ref b), .val (.int (Int32.ofNat q0)), .val (.int (Int32.ofNat e8)), .val (.int (Int32.ofNat q)), .val (.int (Int32.ofNat (own_f xs (q)))), .val (.int (2 : Int32)), .val (.int s86_0), .val (.int s104_0), .val (.int (Int32.ofNat (own_f xs (q + 1)))), .val (.int (Int32.ofNat (q + 2)))] [(.int (Int32.ofNat (q + 2)))]))
                            refine go (fun _ kont => XS.iloadN X'.here hx rfl (hb hby d_prog_37_method_2_224) rfl  kont) ?_
                            show G (T'.setTop (mkF m 225 #[.val (.ref b), .val (.int (Int32.ofNat q0)), .val (.int (Int32.ofNat e8)), .val (.int (Int32.ofNat q)), .val (.int (Int32.ofNat (own_f xs (q)))), .val (.int (2 : Int32)), .val (.int s86_0), .val (.int s104_0), .val (.int (Int32.ofNat (own_f xs (q + 1)))), .val (.int (Int32.ofNat (q + 2)))] [(.int (Int32.ofNat q)), (.int (Int32.ofNat (q + 2)))]))
                            refine go (fun _ kont => XS.iload X'.here hx rfl (hb hby d_prog_37_method_2_225) rfl  kont) ?_
                            show G (T'.setTop (mkF m 227 #[.val (.ref b), .val (.int (Int32.ofNat q0)), .val (.int (Int32.ofNat e8)), .val (.int (Int32.ofNat q)), .val (.int (Int32.ofNat (own_f xs (q)))), .val (.int (2 : Int32)), .val (.int s86_0), .val (.int s104_0), .val (.int (Int32.ofNat (own_f xs (q + 1)))), .val (.int (Int32.ofNat (q + 2)))] [(.int (2 : Int32)), (.int (Int32.ofNat q)), (.int (Int32.ofNat (q + 2)))]))
                            refine go (fun _ kont => XS.iadd X'.here hx rfl (hb hby d_prog_37_method_2_227) rfl kont) ?_
                            show G (T'.setTop (mkF m 228 #[.val (.ref b), .val (.int (Int32.ofNat q0)), .val (.int (Int32.ofNat e8)), .val (.int (Int32.ofNat q)), .val (.int (Int32.ofNat (own_f xs (q)))), .val (.int (2 : Int32)), .val (.int s86_0), .val (.int s104_0), .val (.int (Int32.ofNat (own_f xs (q + 1)))), .val (.int (Int32.ofNat (q + 2)))] [(.int ((Int32.ofNat q) + (2 : Int32))), (.int (Int32.ofNat (q + 2)))]))
                            rw [show Int32.ofNat q + (2 : Int32) = Int32.ofNat (q + 2) from own_addk q 2]
                            show G (T'.setTop (mkF m 228 #[.val (.ref b), .val (.int (Int32.ofNat q0)), .val (.int (Int32.ofNat e8)), .val (.int (Int32.ofNat q)), .val (.int (Int32.ofNat (own_f xs (q)))), .val (.int (2 : Int32)), .val (.int s86_0), .val (.int s104_0), .val (.int (Int32.ofNat (own_f xs (q + 1)))), .val (.int (Int32.ofNat (q + 2)))] [(.int (Int32.ofNat (q + 2))), (.int (Int32.ofNat (q + 2)))]))
                            refine go (fun _ kont => XS.icmpNo X'.here hx rfl (hb hby d_prog_37_method_2_228) rfl (flt (fun z => absurd ((own_ltO (d := q + 2) (k := q + 2) (by omega) (by omega)).mp z) (by omega))).2.2.1 kont) ?_
                            show G (T'.setTop (mkF m 231 #[.val (.ref b), .val (.int (Int32.ofNat q0)), .val (.int (Int32.ofNat e8)), .val (.int (Int32.ofNat q)), .val (.int (Int32.ofNat (own_f xs (q)))), .val (.int (2 : Int32)), .val (.int s86_0), .val (.int s104_0), .val (.int (Int32.ofNat (own_f xs (q + 1)))), .val (.int (Int32.ofNat (q + 2)))] []))
                            refine go (fun _ kont => XS.aloadN X'.here hx rfl (hb hby d_prog_37_method_2_231) rfl rfl kont) ?_
                            show G (T'.setTop (mkF m 232 #[.val (.ref b), .val (.int (Int32.ofNat q0)), .val (.int (Int32.ofNat e8)), .val (.int (Int32.ofNat q)), .val (.int (Int32.ofNat (own_f xs (q)))), .val (.int (2 : Int32)), .val (.int s86_0), .val (.int s104_0), .val (.int (Int32.ofNat (own_f xs (q + 1)))), .val (.int (Int32.ofNat (q + 2)))] [(.ref b)]))
                            refine go (fun _ kont => XS.iload X'.here hx rfl (hb hby d_prog_37_method_2_232) rfl  kont) ?_
                            show G (T'.setTop (mkF m 234 #[.val (.ref b), .val (.int (Int32.ofNat q0)), .val (.int (Int32.ofNat e8)), .val (.int (Int32.ofNat q)), .val (.int (Int32.ofNat (own_f xs (q)))), .val (.int (2 : Int32)), .val (.int s86_0), .val (.int s104_0), .val (.int (Int32.ofNat (own_f xs (q + 1)))), .val (.int (Int32.ofNat (q + 2)))] [(.int (Int32.ofNat (q + 2))), (.ref b)]))
                            refine go (fun _ kont => X'.baloadBytes hx (j := (Int32.ofNat (q + 2))) (v := (.int (xs.getD (q + 2) 0))) (by rw [e']; exact Ar.1) (State.isArrayOf_alike hZ.alike Ar.2.1) Ar.2.2 (own_hink Sl (own_neg (by rw [own_ofN (by omega)]; omega)) (own_tnO (by omega)) (k := q + 2) (by rw [List.length_map]; omega)) (own_hatk Sl (own_tnO (by omega)) (own_atI (k := q + 2) (by omega))) (g := (mkF m 234 #[.val (.ref b), .val (.int (Int32.ofNat q0)), .val (.int (Int32.ofNat e8)), .val (.int (Int32.ofNat q)), .val (.int (Int32.ofNat (own_f xs (q)))), .val (.int (2 : Int32)), .val (.int s86_0), .val (.int s104_0), .val (.int (Int32.ofNat (own_f xs (q + 1)))), .val (.int (Int32.ofNat (q + 2)))] [(.int (Int32.ofNat (q + 2))), (.ref b)])) rfl rfl (hb hby d_prog_37_method_2_234) _ kont) ?_
                            show G (T'.setTop (mkF m 235 #[.val (.ref b), .val (.int (Int32.ofNat q0)), .val (.int (Int32.ofNat e8)), .val (.int (Int32.ofNat q)), .val (.int (Int32.ofNat (own_f xs (q)))), .val (.int (2 : Int32)), .val (.int s86_0), .val (.int s104_0), .val (.int (Int32.ofNat (own_f xs (q + 1)))), .val (.int (Int32.ofNat (q + 2)))] [(.int (xs.getD (q + 2) 0))]))
                            refine go (fun _ kont => XS.sipush X'.here hx rfl (hb hby d_prog_37_method_2_235) kont) ?_
                            show G (T'.setTop (mkF m 238 #[.val (.ref b), .val (.int (Int32.ofNat q0)), .val (.int (Int32.ofNat e8)), .val (.int (Int32.ofNat q)), .val (.int (Int32.ofNat (own_f xs (q)))), .val (.int (2 : Int32)), .val (.int s86_0), .val (.int s104_0), .val (.int (Int32.ofNat (own_f xs (q + 1)))), .val (.int (Int32.ofNat (q + 2)))] [(.int (192 : Int32)), (.int (xs.getD (q + 2) 0))]))
                            refine go (fun _ kont => XS.iand X'.here hx rfl (hb hby d_prog_37_method_2_238) rfl kont) ?_
                            show G (T'.setTop (mkF m 239 #[.val (.ref b), .val (.int (Int32.ofNat q0)), .val (.int (Int32.ofNat e8)), .val (.int (Int32.ofNat q)), .val (.int (Int32.ofNat (own_f xs (q)))), .val (.int (2 : Int32)), .val (.int s86_0), .val (.int s104_0), .val (.int (Int32.ofNat (own_f xs (q + 1)))), .val (.int (Int32.ofNat (q + 2)))] [(.int ((xs.getD (q + 2) 0) &&& (192 : Int32)))]))
                            rw [own_c192 (xs.getD (q + 2) 0)]
                            show G (T'.setTop (mkF m 239 #[.val (.ref b), .val (.int (Int32.ofNat q0)), .val (.int (Int32.ofNat e8)), .val (.int (Int32.ofNat q)), .val (.int (Int32.ofNat (own_f xs (q)))), .val (.int (2 : Int32)), .val (.int s86_0), .val (.int s104_0), .val (.int (Int32.ofNat (own_f xs (q + 1)))), .val (.int (Int32.ofNat (q + 2)))] [(.int ((Int32.ofNat (own_f xs (q + 2))) &&& (192 : Int32)))]))
                            refine go (fun _ kont => XS.sipush X'.here hx rfl (hb hby d_prog_37_method_2_239) kont) ?_
                            show G (T'.setTop (mkF m 242 #[.val (.ref b), .val (.int (Int32.ofNat q0)), .val (.int (Int32.ofNat e8)), .val (.int (Int32.ofNat q)), .val (.int (Int32.ofNat (own_f xs (q)))), .val (.int (2 : Int32)), .val (.int s86_0), .val (.int s104_0), .val (.int (Int32.ofNat (own_f xs (q + 1)))), .val (.int (Int32.ofNat (q + 2)))] [(.int (128 : Int32)), (.int ((Int32.ofNat (own_f xs (q + 2))) &&& (192 : Int32)))]))
                            by_cases hc242 : ((Int32.ofNat (own_f xs (q + 2))) &&& (192 : Int32)) = (128 : Int32)
                            · refine go (fun _ kont => XS.icmpYes X'.here hx rfl (pc0 := 242) (pc' := 247) rfl (hb hby d_prog_37_method_2_242) rfl (teq hc242).1 (by decide) (by decide) kont) ?_
                              show G (T'.setTop (mkF m 247 #[.val (.ref b), .val (.int (Int32.ofNat q0)), .val (.int (Int32.ofNat e8)), .val (.int (Int32.ofNat q)), .val (.int (Int32.ofNat (own_f xs (q)))), .val (.int (2 : Int32)), .val (.int s86_0), .val (.int s104_0), .val (.int (Int32.ofNat (own_f xs (q + 1)))), .val (.int (Int32.ofNat (q + 2)))] []))
                              rw [show _ ↔ _ from own_m192' _ hb2] at hc242
                              refine go (fun _ kont => XS.iinc X'.here hx rfl (hb hby d_prog_37_method_2_247) rfl (l' := #[.val (.ref b), .val (.int (Int32.ofNat q0)), .val (.int (Int32.ofNat e8)), .val (.int (Int32.ofNat q)), .val (.int (Int32.ofNat (own_f xs (q)))), .val (.int (2 : Int32)), .val (.int s86_0), .val (.int s104_0), .val (.int (Int32.ofNat (own_f xs (q + 1)))), .val (.int ((Int32.ofNat (q + 2)) + (1 : Int32)))]) rfl kont) ?_
                              show G (T'.setTop (mkF m 250 #[.val (.ref b), .val (.int (Int32.ofNat q0)), .val (.int (Int32.ofNat e8)), .val (.int (Int32.ofNat q)), .val (.int (Int32.ofNat (own_f xs (q)))), .val (.int (2 : Int32)), .val (.int s86_0), .val (.int s104_0), .val (.int (Int32.ofNat (own_f xs (q + 1)))), .val (.int ((Int32.ofNat (q + 2)) + (1 : Int32)))] []))
                              rw [show Int32.ofNat (q + 2) + (1 : Int32) = Int32.ofNat (q + 3) from own_addk (q + 2) 1]
                              show G (T'.setTop (mkF m 250 #[.val (.ref b), .val (.int (Int32.ofNat q0)), .val (.int (Int32.ofNat e8)), .val (.int (Int32.ofNat q)), .val (.int (Int32.ofNat (own_f xs (q)))), .val (.int (2 : Int32)), .val (.int s86_0), .val (.int s104_0), .val (.int (Int32.ofNat (own_f xs (q + 1)))), .val (.int (Int32.ofNat (q + 3)))] []))
                              refine go (fun _ kont => XS.goto X'.here hx rfl (pc0 := 250) (pc' := 222) rfl (hb hby d_prog_37_method_2_250) (by decide) (by decide) kont) ?_
                              show G (T'.setTop (mkF m 222 #[.val (.ref b), .val (.int (Int32.ofNat q0)), .val (.int (Int32.ofNat e8)), .val (.int (Int32.ofNat q)), .val (.int (Int32.ofNat (own_f xs (q)))), .val (.int (2 : Int32)), .val (.int s86_0), .val (.int s104_0), .val (.int (Int32.ofNat (own_f xs (q + 1)))), .val (.int (Int32.ofNat (q + 3)))] []))
                              refine go (fun _ kont => XS.iload X'.here hx rfl (hb hby d_prog_37_method_2_222) rfl  kont) ?_
                              show G (T'.setTop (mkF m 224 #[.val (.ref b), .val (.int (Int32.ofNat q0)), .val (.int (Int32.ofNat e8)), .val (.int (Int32.ofNat q)), .val (.int (Int32.ofNat (own_f xs (q)))), .val (.int (2 : Int32)), .val (.int s86_0), .val (.int s104_0), .val (.int (Int32.ofNat (own_f xs (q + 1)))), .val (.int (Int32.ofNat (q + 3)))] [(.int (Int32.ofNat (q + 3)))]))
                              refine go (fun _ kont => XS.iloadN X'.here hx rfl (hb hby d_prog_37_method_2_224) rfl  kont) ?_
                              show G (T'.setTop (mkF m 225 #[.val (.ref b), .val (.int (Int32.ofNat q0)), .val (.int (Int32.ofNat e8)), .val (.int (Int32.ofNat q)), .val (.int (Int32.ofNat (own_f xs (q)))), .val (.int (2 : Int32)), .val (.int s86_0), .val (.int s104_0), .val (.int (Int32.ofNat (own_f xs (q + 1)))), .val (.int (Int32.ofNat (q + 3)))] [(.int (Int32.ofNat q)), (.int (Int32.ofNat (q + 3)))]))
                              refine go (fun _ kont => XS.iload X'.here hx rfl (hb hby d_prog_37_method_2_225) rfl  kont) ?_
                              show G (T'.setTop (mkF m 227 #[.val (.ref b), .val (.int (Int32.ofNat q0)), .val (.int (Int32.ofNat e8)), .val (.int (Int32.ofNat q)), .val (.int (Int32.ofNat (own_f xs (q)))), .val (.int (2 : Int32)), .val (.int s86_0), .val (.int s104_0), .val (.int (Int32.ofNat (own_f xs (q + 1)))), .val (.int (Int32.ofNat (q + 3)))] [(.int (2 : Int32)), (.int (Int32.ofNat q)), (.int (Int32.ofNat (q + 3)))]))
                              refine go (fun _ kont => XS.iadd X'.here hx rfl (hb hby d_prog_37_method_2_227) rfl kont) ?_
                              show G (T'.setTop (mkF m 228 #[.val (.ref b), .val (.int (Int32.ofNat q0)), .val (.int (Int32.ofNat e8)), .val (.int (Int32.ofNat q)), .val (.int (Int32.ofNat (own_f xs (q)))), .val (.int (2 : Int32)), .val (.int s86_0), .val (.int s104_0), .val (.int (Int32.ofNat (own_f xs (q + 1)))), .val (.int (Int32.ofNat (q + 3)))] [(.int ((Int32.ofNat q) + (2 : Int32))), (.int (Int32.ofNat (q + 3)))]))
                              rw [show Int32.ofNat q + (2 : Int32) = Int32.ofNat (q + 2) from own_addk q 2]
                              show G (T'.setTop (mkF m 228 #[.val (.ref b), .val (.int (Int32.ofNat q0)), .val (.int (Int32.ofNat e8)), .val (.int (Int32.ofNat q)), .val (.int (Int32.ofNat (own_f xs (q)))), .val (.int (2 : Int32)), .val (.int s86_0), .val (.int s104_0), .val (.int (Int32.ofNat (own_f xs (q + 1)))), .val (.int (Int32.ofNat (q + 3)))] [(.int (Int32.ofNat (q + 2))), (.int (Int32.ofNat (q + 3)))]))
                              refine go (fun _ kont => XS.icmpYes X'.here hx rfl (pc0 := 228) (pc' := 253) rfl (hb hby d_prog_37_method_2_228) rfl (tlt ((own_ltO (d := q + 2) (k := q + 3) (by omega) (by omega)).mpr (by omega))).2.2.1 (by decide) (by decide) kont) ?_
                              show G (T'.setTop (mkF m 253 #[.val (.ref b), .val (.int (Int32.ofNat q0)), .val (.int (Int32.ofNat e8)), .val (.int (Int32.ofNat q)), .val (.int (Int32.ofNat (own_f xs (q)))), .val (.int (2 : Int32)), .val (.int s86_0), .val (.int s104_0), .val (.int (Int32.ofNat (own_f xs (q + 1)))), .val (.int (Int32.ofNat (q + 3)))] []))
                              refine go (fun _ kont => XS.iloadN X'.here hx rfl (hb hby d_prog_37_method_2_253) rfl  kont) ?_
                              show G (T'.setTop (mkF m 254 #[.val (.ref b), .val (.int (Int32.ofNat q0)), .val (.int (Int32.ofNat e8)), .val (.int (Int32.ofNat q)), .val (.int (Int32.ofNat (own_f xs (q)))), .val (.int (2 : Int32)), .val (.int s86_0), .val (.int s104_0), .val (.int (Int32.ofNat (own_f xs (q + 1)))), .val (.int (Int32.ofNat (q + 3)))] [(.int (Int32.ofNat q))]))
                              refine go (fun _ kont => XS.iload X'.here hx rfl (hb hby d_prog_37_method_2_254) rfl  kont) ?_
                              show G (T'.setTop (mkF m 256 #[.val (.ref b), .val (.int (Int32.ofNat q0)), .val (.int (Int32.ofNat e8)), .val (.int (Int32.ofNat q)), .val (.int (Int32.ofNat (own_f xs (q)))), .val (.int (2 : Int32)), .val (.int s86_0), .val (.int s104_0), .val (.int (Int32.ofNat (own_f xs (q + 1)))), .val (.int (Int32.ofNat (q + 3)))] [(.int (2 : Int32)), (.int (Int32.ofNat q))]))
                              refine go (fun _ kont => XS.iconst X'.here hx rfl (hb hby d_prog_37_method_2_256) kont) ?_
                              show G (T'.setTop (mkF m 257 #[.val (.ref b), .val (.int (Int32.ofNat q0)), .val (.int (Int32.ofNat e8)), .val (.int (Int32.ofNat q)), .val (.int (Int32.ofNat (own_f xs (q)))), .val (.int (2 : Int32)), .val (.int s86_0), .val (.int s104_0), .val (.int (Int32.ofNat (own_f xs (q + 1)))), .val (.int (Int32.ofNat (q + 3)))] [(.int (1 : Int32)), (.int (2 : Int32)), (.int (Int32.ofNat q))]))
                              refine go (fun _ kont => XS.iadd X'.here hx rfl (hb hby d_prog_37_method_2_257) rfl kont) ?_
                              show G (T'.setTop (mkF m 258 #[.val (.ref b), .val (.int (Int32.ofNat q0)), .val (.int (Int32.ofNat e8)), .val (.int (Int32.ofNat q)), .val (.int (Int32.ofNat (own_f xs (q)))), .val (.int (2 : Int32)), .val (.int s86_0), .val (.int s104_0), .val (.int (Int32.ofNat (own_f xs (q + 1)))), .val (.int (Int32.ofNat (q + 3)))] [(.int ((2 : Int32) + (1 : Int32))), (.int (Int32.ofNat q))]))
                              refine go (fun _ kont => XS.iadd X'.here hx rfl (hb hby d_prog_37_method_2_258) rfl kont) ?_
                              show G (T'.setTop (mkF m 259 #[.val (.ref b), .val (.int (Int32.ofNat q0)), .val (.int (Int32.ofNat e8)), .val (.int (Int32.ofNat q)), .val (.int (Int32.ofNat (own_f xs (q)))), .val (.int (2 : Int32)), .val (.int s86_0), .val (.int s104_0), .val (.int (Int32.ofNat (own_f xs (q + 1)))), .val (.int (Int32.ofNat (q + 3)))] [(.int ((Int32.ofNat q) + ((2 : Int32) + (1 : Int32))))]))
                              refine go (fun _ kont => XS.istoreN X'.here hx rfl (hb hby d_prog_37_method_2_259) rfl (l' := #[.val (.ref b), .val (.int (Int32.ofNat q0)), .val (.int (Int32.ofNat e8)), .val (.int ((Int32.ofNat q) + ((2 : Int32) + (1 : Int32)))), .val (.int (Int32.ofNat (own_f xs (q)))), .val (.int (2 : Int32)), .val (.int s86_0), .val (.int s104_0), .val (.int (Int32.ofNat (own_f xs (q + 1)))), .val (.int (Int32.ofNat (q + 3)))]) rfl kont) ?_
                              show G (T'.setTop (mkF m 260 #[.val (.ref b), .val (.int (Int32.ofNat q0)), .val (.int (Int32.ofNat e8)), .val (.int ((Int32.ofNat q) + ((2 : Int32) + (1 : Int32)))), .val (.int (Int32.ofNat (own_f xs (q)))), .val (.int (2 : Int32)), .val (.int s86_0), .val (.int s104_0), .val (.int (Int32.ofNat (own_f xs (q + 1)))), .val (.int (Int32.ofNat (q + 3)))] []))
                              refine go (fun _ kont => XS.goto X'.here hx rfl (pc0 := 260) (pc' := 2) rfl (hb hby d_prog_37_method_2_260) (by decide) (by decide) kont) ?_
                              show G (T'.setTop (mkF m 2 #[.val (.ref b), .val (.int (Int32.ofNat q0)), .val (.int (Int32.ofNat e8)), .val (.int ((Int32.ofNat q) + ((2 : Int32) + (1 : Int32)))), .val (.int (Int32.ofNat (own_f xs (q)))), .val (.int (2 : Int32)), .val (.int s86_0), .val (.int s104_0), .val (.int (Int32.ofNat (own_f xs (q + 1)))), .val (.int (Int32.ofNat (q + 3)))] []))
                              rw [show Int32.ofNat q + ((2 : Int32) + (1 : Int32)) = Int32.ofNat (q + 3) from own_addk q 3]
                              exact ih (q + 3) (by omega) (by omega) (hT.trans (own_T_step (N := 3) (by omega) he8 (by unfold own_N own_n; (repeat' split) <;> omega) (by decide))) _ _ _ _ _ _ (One.val rfl) (One.val rfl) (One.val rfl) (One.val rfl) (One.val rfl) (One.val rfl) _ X' e'
                            · refine go (fun _ kont => XS.icmpNo X'.here hx rfl (hb hby d_prog_37_method_2_242) rfl (feq hc242).1 kont) ?_
                              show G (T'.setTop (mkF m 245 #[.val (.ref b), .val (.int (Int32.ofNat q0)), .val (.int (Int32.ofNat e8)), .val (.int (Int32.ofNat q)), .val (.int (Int32.ofNat (own_f xs (q)))), .val (.int (2 : Int32)), .val (.int s86_0), .val (.int s104_0), .val (.int (Int32.ofNat (own_f xs (q + 1)))), .val (.int (Int32.ofNat (q + 2)))] []))
                              rw [show _ ↔ _ from own_m192' _ hb2] at hc242
                              refine go (fun _ kont => XS.iconst X'.here hx rfl (hb hby d_prog_37_method_2_245) kont) ?_
                              show G (T'.setTop (mkF m 246 #[.val (.ref b), .val (.int (Int32.ofNat q0)), .val (.int (Int32.ofNat e8)), .val (.int (Int32.ofNat q)), .val (.int (Int32.ofNat (own_f xs (q)))), .val (.int (2 : Int32)), .val (.int s86_0), .val (.int s104_0), .val (.int (Int32.ofNat (own_f xs (q + 1)))), .val (.int (Int32.ofNat (q + 2)))] [(.int (0 : Int32))]))
                              rw [hG]
                              exact own_retN X' hx (t := .boolean) Bd.returns (by simp) (hb hby d_prog_37_method_2_246) hlk (by decide) (by decide) ⟨by rw [hT, own_T_bad (by omega) (by unfold own_N own_n; (repeat' split) <;> omega)]; rfl, N0, e'⟩
                      · refine go (fun _ kont => XS.icmpNo X'.here hx rfl (hb hby d_prog_37_method_2_185) rfl (flt hc185).2.2.1 kont) ?_
                        show G (T'.setTop (mkF m 188 #[.val (.ref b), .val (.int (Int32.ofNat q0)), .val (.int (Int32.ofNat e8)), .val (.int (Int32.ofNat q)), .val (.int (Int32.ofNat (own_f xs (q)))), .val (.int (2 : Int32)), .val (.int s86_0), .val (.int s104_0), s8, s9] []))
                        rw [show (2 : Int32) < Int32.ofNat (e8 - q) ↔ 2 < e8 - q from own_ltO (d := 2) (k := e8 - q) (by omega) (by omega)] at hc185
                        refine go (fun _ kont => XS.iconst X'.here hx rfl (hb hby d_prog_37_method_2_188) kont) ?_
                        show G (T'.setTop (mkF m 189 #[.val (.ref b), .val (.int (Int32.ofNat q0)), .val (.int (Int32.ofNat e8)), .val (.int (Int32.ofNat q)), .val (.int (Int32.ofNat (own_f xs (q)))), .val (.int (2 : Int32)), .val (.int s86_0), .val (.int s104_0), s8, s9] [(.int (0 : Int32))]))
                        rw [hG]
                        exact own_retN X' hx (t := .boolean) Bd.returns (by simp) (hb hby d_prog_37_method_2_189) hlk (by decide) (by decide) ⟨by rw [hT, own_T_bad (by omega) (by unfold own_N own_n; (repeat' split) <;> omega)]; rfl, N0, e'⟩
                    by_cases hc104 : (Int32.ofNat (own_f xs (q))) = (237 : Int32)
                    · refine go (fun _ kont => XS.icmpNo X'.here hx rfl (hb hby d_prog_37_method_2_104) rfl (teq hc104).2 kont) ?_
                      show G (T'.setTop (mkF m 107 #[.val (.ref b), .val (.int (Int32.ofNat q0)), .val (.int (Int32.ofNat e8)), .val (.int (Int32.ofNat q)), .val (.int (Int32.ofNat (own_f xs (q)))), .val (.int (2 : Int32)), .val (.int s86_0), .val (.int (191 : Int32)), s8, s9] []))
                      refine go (fun _ kont => XS.sipush X'.here hx rfl (hb hby d_prog_37_method_2_107) kont) ?_
                      show G (T'.setTop (mkF m 110 #[.val (.ref b), .val (.int (Int32.ofNat q0)), .val (.int (Int32.ofNat e8)), .val (.int (Int32.ofNat q)), .val (.int (Int32.ofNat (own_f xs (q)))), .val (.int (2 : Int32)), .val (.int s86_0), .val (.int (191 : Int32)), s8, s9] [(.int (159 : Int32))]))
                      refine go (fun _ kont => XS.goto X'.here hx rfl (pc0 := 110) (pc' := 115) rfl (hb hby d_prog_37_method_2_110) (by decide) (by decide) kont) ?_
                      show G (T'.setTop (mkF m 115 #[.val (.ref b), .val (.int (Int32.ofNat q0)), .val (.int (Int32.ofNat e8)), .val (.int (Int32.ofNat q)), .val (.int (Int32.ofNat (own_f xs (q)))), .val (.int (2 : Int32)), .val (.int s86_0), .val (.int (191 : Int32)), s8, s9] [(.int (159 : Int32))]))
                      exact j12 _ (by first | exact (if_pos hc104).symm | (rw [if_pos hc104]; assumption))
                    · refine go (fun _ kont => XS.icmpYes X'.here hx rfl (pc0 := 104) (pc' := 113) rfl (hb hby d_prog_37_method_2_104) rfl (feq hc104).2 (by decide) (by decide) kont) ?_
                      show G (T'.setTop (mkF m 113 #[.val (.ref b), .val (.int (Int32.ofNat q0)), .val (.int (Int32.ofNat e8)), .val (.int (Int32.ofNat q)), .val (.int (Int32.ofNat (own_f xs (q)))), .val (.int (2 : Int32)), .val (.int s86_0), .val (.int (191 : Int32)), s8, s9] []))
                      refine go (fun _ kont => XS.iload X'.here hx rfl (hb hby d_prog_37_method_2_113) rfl  kont) ?_
                      show G (T'.setTop (mkF m 115 #[.val (.ref b), .val (.int (Int32.ofNat q0)), .val (.int (Int32.ofNat e8)), .val (.int (Int32.ofNat q)), .val (.int (Int32.ofNat (own_f xs (q)))), .val (.int (2 : Int32)), .val (.int s86_0), .val (.int (191 : Int32)), s8, s9] [(.int (191 : Int32))]))
                      exact j12 _ (by first | exact (if_neg hc104).symm | (rw [if_neg hc104]; assumption))
                  by_cases hc86 : (Int32.ofNat (own_f xs (q))) = (224 : Int32)
                  · refine go (fun _ kont => XS.icmpNo X'.here hx rfl (hb hby d_prog_37_method_2_86) rfl (teq hc86).2 kont) ?_
                    show G (T'.setTop (mkF m 89 #[.val (.ref b), .val (.int (Int32.ofNat q0)), .val (.int (Int32.ofNat e8)), .val (.int (Int32.ofNat q)), .val (.int (Int32.ofNat (own_f xs (q)))), .val (.int (2 : Int32)), .val (.int (128 : Int32)), .val (.int (191 : Int32)), s8, s9] []))
                    refine go (fun _ kont => XS.sipush X'.here hx rfl (hb hby d_prog_37_method_2_89) kont) ?_
                    show G (T'.setTop (mkF m 92 #[.val (.ref b), .val (.int (Int32.ofNat q0)), .val (.int (Int32.ofNat e8)), .val (.int (Int32.ofNat q)), .val (.int (Int32.ofNat (own_f xs (q)))), .val (.int (2 : Int32)), .val (.int (128 : Int32)), .val (.int (191 : Int32)), s8, s9] [(.int (160 : Int32))]))
                    refine go (fun _ kont => XS.goto X'.here hx rfl (pc0 := 92) (pc' := 97) rfl (hb hby d_prog_37_method_2_92) (by decide) (by decide) kont) ?_
                    show G (T'.setTop (mkF m 97 #[.val (.ref b), .val (.int (Int32.ofNat q0)), .val (.int (Int32.ofNat e8)), .val (.int (Int32.ofNat q)), .val (.int (Int32.ofNat (own_f xs (q)))), .val (.int (2 : Int32)), .val (.int (128 : Int32)), .val (.int (191 : Int32)), s8, s9] [(.int (160 : Int32))]))
                    exact j11 _ (by first | exact (if_pos hc86).symm | (rw [if_pos hc86]; assumption))
                  · refine go (fun _ kont => XS.icmpYes X'.here hx rfl (pc0 := 86) (pc' := 95) rfl (hb hby d_prog_37_method_2_86) rfl (feq hc86).2 (by decide) (by decide) kont) ?_
                    show G (T'.setTop (mkF m 95 #[.val (.ref b), .val (.int (Int32.ofNat q0)), .val (.int (Int32.ofNat e8)), .val (.int (Int32.ofNat q)), .val (.int (Int32.ofNat (own_f xs (q)))), .val (.int (2 : Int32)), .val (.int (128 : Int32)), .val (.int (191 : Int32)), s8, s9] []))
                    refine go (fun _ kont => XS.iload X'.here hx rfl (hb hby d_prog_37_method_2_95) rfl  kont) ?_
                    show G (T'.setTop (mkF m 97 #[.val (.ref b), .val (.int (Int32.ofNat q0)), .val (.int (Int32.ofNat e8)), .val (.int (Int32.ofNat q)), .val (.int (Int32.ofNat (own_f xs (q)))), .val (.int (2 : Int32)), .val (.int (128 : Int32)), .val (.int (191 : Int32)), s8, s9] [(.int (128 : Int32))]))
                    exact j11 _ (by first | exact (if_neg hc86).symm | (rw [if_neg hc86]; assumption))
            · refine go (fun _ kont => XS.icmpNo X'.here hx rfl (hb hby d_prog_37_method_2_53) rfl (flt hc53).2.2.1 kont) ?_
              show G (T'.setTop (mkF m 56 #[.val (.ref b), .val (.int (Int32.ofNat q0)), .val (.int (Int32.ofNat e8)), .val (.int (Int32.ofNat q)), .val (.int (Int32.ofNat (own_f xs (q)))), s5, .val (.int (128 : Int32)), .val (.int (191 : Int32)), s8, s9] []))
              rw [show (223 : Int32) < Int32.ofNat (own_f xs (q)) ↔ 223 < own_f xs (q) from own_ltO (d := 223) (k := own_f xs (q)) (by omega) (by omega)] at hc53
              refine go (fun _ kont => XS.iconst X'.here hx rfl (hb hby d_prog_37_method_2_56) kont) ?_
              show G (T'.setTop (mkF m 57 #[.val (.ref b), .val (.int (Int32.ofNat q0)), .val (.int (Int32.ofNat e8)), .val (.int (Int32.ofNat q)), .val (.int (Int32.ofNat (own_f xs (q)))), s5, .val (.int (128 : Int32)), .val (.int (191 : Int32)), s8, s9] [(.int (1 : Int32))]))
              refine go (fun _ kont => XS.istore X'.here hx rfl (hb hby d_prog_37_method_2_57) rfl (l' := #[.val (.ref b), .val (.int (Int32.ofNat q0)), .val (.int (Int32.ofNat e8)), .val (.int (Int32.ofNat q)), .val (.int (Int32.ofNat (own_f xs (q)))), .val (.int (1 : Int32)), .val (.int (128 : Int32)), .val (.int (191 : Int32)), s8, s9]) (by rcases hs5 with rfl | ⟨w, rfl, hw⟩ <;> first | rfl | (cases w <;> first | rfl | (simp [Value.category] at hw))) kont) ?_
              show G (T'.setTop (mkF m 59 #[.val (.ref b), .val (.int (Int32.ofNat q0)), .val (.int (Int32.ofNat e8)), .val (.int (Int32.ofNat q)), .val (.int (Int32.ofNat (own_f xs (q)))), .val (.int (1 : Int32)), .val (.int (128 : Int32)), .val (.int (191 : Int32)), s8, s9] []))
              refine go (fun _ kont => XS.goto X'.here hx rfl (pc0 := 59) (pc' := 180) rfl (hb hby d_prog_37_method_2_59) (by decide) (by decide) kont) ?_
              show G (T'.setTop (mkF m 180 #[.val (.ref b), .val (.int (Int32.ofNat q0)), .val (.int (Int32.ofNat e8)), .val (.int (Int32.ofNat q)), .val (.int (Int32.ofNat (own_f xs (q)))), .val (.int (1 : Int32)), .val (.int (128 : Int32)), .val (.int (191 : Int32)), s8, s9] []))
              have hlo : (128 : Int32) = Int32.ofNat 128 := rfl
              have hhi : (191 : Int32) = Int32.ofNat 191 := rfl
              refine go (fun _ kont => XS.iloadN X'.here hx rfl (hb hby d_prog_37_method_2_180) rfl  kont) ?_
              show G (T'.setTop (mkF m 181 #[.val (.ref b), .val (.int (Int32.ofNat q0)), .val (.int (Int32.ofNat e8)), .val (.int (Int32.ofNat q)), .val (.int (Int32.ofNat (own_f xs (q)))), .val (.int (1 : Int32)), .val (.int (128 : Int32)), .val (.int (191 : Int32)), s8, s9] [(.int (Int32.ofNat e8))]))
              refine go (fun _ kont => XS.iloadN X'.here hx rfl (hb hby d_prog_37_method_2_181) rfl  kont) ?_
              show G (T'.setTop (mkF m 182 #[.val (.ref b), .val (.int (Int32.ofNat q0)), .val (.int (Int32.ofNat e8)), .val (.int (Int32.ofNat q)), .val (.int (Int32.ofNat (own_f xs (q)))), .val (.int (1 : Int32)), .val (.int (128 : Int32)), .val (.int (191 : Int32)), s8, s9] [(.int (Int32.ofNat q)), (.int (Int32.ofNat e8))]))
              refine go (fun _ kont => XS.isub X'.here hx rfl (hb hby d_prog_37_method_2_182) rfl kont) ?_
              show G (T'.setTop (mkF m 183 #[.val (.ref b), .val (.int (Int32.ofNat q0)), .val (.int (Int32.ofNat e8)), .val (.int (Int32.ofNat q)), .val (.int (Int32.ofNat (own_f xs (q)))), .val (.int (1 : Int32)), .val (.int (128 : Int32)), .val (.int (191 : Int32)), s8, s9] [(.int ((Int32.ofNat e8) - (Int32.ofNat q)))]))
              rw [own_subk (p := e8) (k := q) (by omega)]
              show G (T'.setTop (mkF m 183 #[.val (.ref b), .val (.int (Int32.ofNat q0)), .val (.int (Int32.ofNat e8)), .val (.int (Int32.ofNat q)), .val (.int (Int32.ofNat (own_f xs (q)))), .val (.int (1 : Int32)), .val (.int (128 : Int32)), .val (.int (191 : Int32)), s8, s9] [(.int (Int32.ofNat (e8 - q)))]))
              refine go (fun _ kont => XS.iload X'.here hx rfl (hb hby d_prog_37_method_2_183) rfl  kont) ?_
              show G (T'.setTop (mkF m 185 #[.val (.ref b), .val (.int (Int32.ofNat q0)), .val (.int (Int32.ofNat e8)), .val (.int (Int32.ofNat q)), .val (.int (Int32.ofNat (own_f xs (q)))), .val (.int (1 : Int32)), .val (.int (128 : Int32)), .val (.int (191 : Int32)), s8, s9] [(.int (1 : Int32)), (.int (Int32.ofNat (e8 - q)))]))
              by_cases hc185 : (1 : Int32) < (Int32.ofNat (e8 - q))
              · refine go (fun _ kont => XS.icmpYes X'.here hx rfl (pc0 := 185) (pc' := 190) rfl (hb hby d_prog_37_method_2_185) rfl (tlt hc185).2.2.1 (by decide) (by decide) kont) ?_
                show G (T'.setTop (mkF m 190 #[.val (.ref b), .val (.int (Int32.ofNat q0)), .val (.int (Int32.ofNat e8)), .val (.int (Int32.ofNat q)), .val (.int (Int32.ofNat (own_f xs (q)))), .val (.int (1 : Int32)), .val (.int (128 : Int32)), .val (.int (191 : Int32)), s8, s9] []))
                rw [show (1 : Int32) < Int32.ofNat (e8 - q) ↔ 1 < e8 - q from own_ltO (d := 1) (k := e8 - q) (by omega) (by omega)] at hc185
                refine go (fun _ kont => XS.aloadN X'.here hx rfl (hb hby d_prog_37_method_2_190) rfl rfl kont) ?_
                show G (T'.setTop (mkF m 191 #[.val (.ref b), .val (.int (Int32.ofNat q0)), .val (.int (Int32.ofNat e8)), .val (.int (Int32.ofNat q)), .val (.int (Int32.ofNat (own_f xs (q)))), .val (.int (1 : Int32)), .val (.int (128 : Int32)), .val (.int (191 : Int32)), s8, s9] [(.ref b)]))
                refine go (fun _ kont => XS.iloadN X'.here hx rfl (hb hby d_prog_37_method_2_191) rfl  kont) ?_
                show G (T'.setTop (mkF m 192 #[.val (.ref b), .val (.int (Int32.ofNat q0)), .val (.int (Int32.ofNat e8)), .val (.int (Int32.ofNat q)), .val (.int (Int32.ofNat (own_f xs (q)))), .val (.int (1 : Int32)), .val (.int (128 : Int32)), .val (.int (191 : Int32)), s8, s9] [(.int (Int32.ofNat q)), (.ref b)]))
                refine go (fun _ kont => XS.iconst X'.here hx rfl (hb hby d_prog_37_method_2_192) kont) ?_
                show G (T'.setTop (mkF m 193 #[.val (.ref b), .val (.int (Int32.ofNat q0)), .val (.int (Int32.ofNat e8)), .val (.int (Int32.ofNat q)), .val (.int (Int32.ofNat (own_f xs (q)))), .val (.int (1 : Int32)), .val (.int (128 : Int32)), .val (.int (191 : Int32)), s8, s9] [(.int (1 : Int32)), (.int (Int32.ofNat q)), (.ref b)]))
                refine go (fun _ kont => XS.iadd X'.here hx rfl (hb hby d_prog_37_method_2_193) rfl kont) ?_
                show G (T'.setTop (mkF m 194 #[.val (.ref b), .val (.int (Int32.ofNat q0)), .val (.int (Int32.ofNat e8)), .val (.int (Int32.ofNat q)), .val (.int (Int32.ofNat (own_f xs (q)))), .val (.int (1 : Int32)), .val (.int (128 : Int32)), .val (.int (191 : Int32)), s8, s9] [(.int ((Int32.ofNat q) + (1 : Int32))), (.ref b)]))
                rw [show Int32.ofNat q + (1 : Int32) = Int32.ofNat (q + 1) from own_addk q 1]
                show G (T'.setTop (mkF m 194 #[.val (.ref b), .val (.int (Int32.ofNat q0)), .val (.int (Int32.ofNat e8)), .val (.int (Int32.ofNat q)), .val (.int (Int32.ofNat (own_f xs (q)))), .val (.int (1 : Int32)), .val (.int (128 : Int32)), .val (.int (191 : Int32)), s8, s9] [(.int (Int32.ofNat (q + 1))), (.ref b)]))
                refine go (fun _ kont => X'.baloadBytes hx (j := (Int32.ofNat (q + 1))) (v := (.int (xs.getD (q + 1) 0))) (by rw [e']; exact Ar.1) (State.isArrayOf_alike hZ.alike Ar.2.1) Ar.2.2 (own_hink Sl (own_neg (by rw [own_ofN (by omega)]; omega)) (own_tnO (by omega)) (k := q + 1) (by rw [List.length_map]; omega)) (own_hatk Sl (own_tnO (by omega)) (own_atI (k := q + 1) (by omega))) (g := (mkF m 194 #[.val (.ref b), .val (.int (Int32.ofNat q0)), .val (.int (Int32.ofNat e8)), .val (.int (Int32.ofNat q)), .val (.int (Int32.ofNat (own_f xs (q)))), .val (.int (1 : Int32)), .val (.int (128 : Int32)), .val (.int (191 : Int32)), s8, s9] [(.int (Int32.ofNat (q + 1))), (.ref b)])) rfl rfl (hb hby d_prog_37_method_2_194) _ kont) ?_
                show G (T'.setTop (mkF m 195 #[.val (.ref b), .val (.int (Int32.ofNat q0)), .val (.int (Int32.ofNat e8)), .val (.int (Int32.ofNat q)), .val (.int (Int32.ofNat (own_f xs (q)))), .val (.int (1 : Int32)), .val (.int (128 : Int32)), .val (.int (191 : Int32)), s8, s9] [(.int (xs.getD (q + 1) 0))]))
                refine go (fun _ kont => XS.sipush X'.here hx rfl (hb hby d_prog_37_method_2_195) kont) ?_
                show G (T'.setTop (mkF m 198 #[.val (.ref b), .val (.int (Int32.ofNat q0)), .val (.int (Int32.ofNat e8)), .val (.int (Int32.ofNat q)), .val (.int (Int32.ofNat (own_f xs (q)))), .val (.int (1 : Int32)), .val (.int (128 : Int32)), .val (.int (191 : Int32)), s8, s9] [(.int (255 : Int32)), (.int (xs.getD (q + 1) 0))]))
                refine go (fun _ kont => XS.iand X'.here hx rfl (hb hby d_prog_37_method_2_198) rfl kont) ?_
                show G (T'.setTop (mkF m 199 #[.val (.ref b), .val (.int (Int32.ofNat q0)), .val (.int (Int32.ofNat e8)), .val (.int (Int32.ofNat q)), .val (.int (Int32.ofNat (own_f xs (q)))), .val (.int (1 : Int32)), .val (.int (128 : Int32)), .val (.int (191 : Int32)), s8, s9] [(.int ((xs.getD (q + 1) 0) &&& (255 : Int32)))]))
                rw [own_fe xs (q + 1)]
                show G (T'.setTop (mkF m 199 #[.val (.ref b), .val (.int (Int32.ofNat q0)), .val (.int (Int32.ofNat e8)), .val (.int (Int32.ofNat q)), .val (.int (Int32.ofNat (own_f xs (q)))), .val (.int (1 : Int32)), .val (.int (128 : Int32)), .val (.int (191 : Int32)), s8, s9] [(.int (Int32.ofNat (own_f xs (q + 1))))]))
                refine go (fun _ kont => XS.istore X'.here hx rfl (hb hby d_prog_37_method_2_199) rfl (l' := #[.val (.ref b), .val (.int (Int32.ofNat q0)), .val (.int (Int32.ofNat e8)), .val (.int (Int32.ofNat q)), .val (.int (Int32.ofNat (own_f xs (q)))), .val (.int (1 : Int32)), .val (.int (128 : Int32)), .val (.int (191 : Int32)), .val (.int (Int32.ofNat (own_f xs (q + 1)))), s9]) (by rcases hs8 with rfl | ⟨w, rfl, hw⟩ <;> first | rfl | (cases w <;> first | rfl | (simp [Value.category] at hw))) kont) ?_
                show G (T'.setTop (mkF m 201 #[.val (.ref b), .val (.int (Int32.ofNat q0)), .val (.int (Int32.ofNat e8)), .val (.int (Int32.ofNat q)), .val (.int (Int32.ofNat (own_f xs (q)))), .val (.int (1 : Int32)), .val (.int (128 : Int32)), .val (.int (191 : Int32)), .val (.int (Int32.ofNat (own_f xs (q + 1)))), s9] []))
                refine go (fun _ kont => XS.iload X'.here hx rfl (hb hby d_prog_37_method_2_201) rfl  kont) ?_
                show G (T'.setTop (mkF m 203 #[.val (.ref b), .val (.int (Int32.ofNat q0)), .val (.int (Int32.ofNat e8)), .val (.int (Int32.ofNat q)), .val (.int (Int32.ofNat (own_f xs (q)))), .val (.int (1 : Int32)), .val (.int (128 : Int32)), .val (.int (191 : Int32)), .val (.int (Int32.ofNat (own_f xs (q + 1)))), s9] [(.int (Int32.ofNat (own_f xs (q + 1))))]))
                refine go (fun _ kont => XS.iload X'.here hx rfl (hb hby d_prog_37_method_2_203) rfl  kont) ?_
                show G (T'.setTop (mkF m 205 #[.val (.ref b), .val (.int (Int32.ofNat q0)), .val (.int (Int32.ofNat e8)), .val (.int (Int32.ofNat q)), .val (.int (Int32.ofNat (own_f xs (q)))), .val (.int (1 : Int32)), .val (.int (128 : Int32)), .val (.int (191 : Int32)), .val (.int (Int32.ofNat (own_f xs (q + 1)))), s9] [(.int (128 : Int32)), (.int (Int32.ofNat (own_f xs (q + 1))))]))
                by_cases hc205 : (Int32.ofNat (own_f xs (q + 1))) < (128 : Int32)
                · refine go (fun _ kont => XS.icmpYes X'.here hx rfl (pc0 := 205) (pc' := 215) rfl (hb hby d_prog_37_method_2_205) rfl (tlt hc205).1 (by decide) (by decide) kont) ?_
                  show G (T'.setTop (mkF m 215 #[.val (.ref b), .val (.int (Int32.ofNat q0)), .val (.int (Int32.ofNat e8)), .val (.int (Int32.ofNat q)), .val (.int (Int32.ofNat (own_f xs (q)))), .val (.int (1 : Int32)), .val (.int (128 : Int32)), .val (.int (191 : Int32)), .val (.int (Int32.ofNat (own_f xs (q + 1)))), s9] []))
                  rw [hlo, show Int32.ofNat (own_f xs (q + 1)) < Int32.ofNat 128 ↔ own_f xs (q + 1) < 128 from own_ltO (d := own_f xs (q + 1)) (k := 128) (by omega) (by first | omega | (split <;> omega))] at hc205
                  refine go (fun _ kont => XS.iconst X'.here hx rfl (hb hby d_prog_37_method_2_215) kont) ?_
                  show G (T'.setTop (mkF m 216 #[.val (.ref b), .val (.int (Int32.ofNat q0)), .val (.int (Int32.ofNat e8)), .val (.int (Int32.ofNat q)), .val (.int (Int32.ofNat (own_f xs (q)))), .val (.int (1 : Int32)), .val (.int (128 : Int32)), .val (.int (191 : Int32)), .val (.int (Int32.ofNat (own_f xs (q + 1)))), s9] [(.int (0 : Int32))]))
                  rw [hG]
                  exact own_retN X' hx (t := .boolean) Bd.returns (by simp) (hb hby d_prog_37_method_2_216) hlk (by decide) (by decide) ⟨by rw [hT, own_T_bad (by omega) (by unfold own_N own_n; (repeat' split) <;> omega)]; rfl, N0, e'⟩
                · refine go (fun _ kont => XS.icmpNo X'.here hx rfl (hb hby d_prog_37_method_2_205) rfl (flt hc205).1 kont) ?_
                  show G (T'.setTop (mkF m 208 #[.val (.ref b), .val (.int (Int32.ofNat q0)), .val (.int (Int32.ofNat e8)), .val (.int (Int32.ofNat q)), .val (.int (Int32.ofNat (own_f xs (q)))), .val (.int (1 : Int32)), .val (.int (128 : Int32)), .val (.int (191 : Int32)), .val (.int (Int32.ofNat (own_f xs (q + 1)))), s9] []))
                  rw [hlo, show Int32.ofNat (own_f xs (q + 1)) < Int32.ofNat 128 ↔ own_f xs (q + 1) < 128 from own_ltO (d := own_f xs (q + 1)) (k := 128) (by omega) (by first | omega | (split <;> omega))] at hc205
                  refine go (fun _ kont => XS.iload X'.here hx rfl (hb hby d_prog_37_method_2_208) rfl  kont) ?_
                  show G (T'.setTop (mkF m 210 #[.val (.ref b), .val (.int (Int32.ofNat q0)), .val (.int (Int32.ofNat e8)), .val (.int (Int32.ofNat q)), .val (.int (Int32.ofNat (own_f xs (q)))), .val (.int (1 : Int32)), .val (.int (128 : Int32)), .val (.int (191 : Int32)), .val (.int (Int32.ofNat (own_f xs (q + 1)))), s9] [(.int (Int32.ofNat (own_f xs (q + 1))))]))
                  refine go (fun _ kont => XS.iload X'.here hx rfl (hb hby d_prog_37_method_2_210) rfl  kont) ?_
                  show G (T'.setTop (mkF m 212 #[.val (.ref b), .val (.int (Int32.ofNat q0)), .val (.int (Int32.ofNat e8)), .val (.int (Int32.ofNat q)), .val (.int (Int32.ofNat (own_f xs (q)))), .val (.int (1 : Int32)), .val (.int (128 : Int32)), .val (.int (191 : Int32)), .val (.int (Int32.ofNat (own_f xs (q + 1)))), s9] [(.int (191 : Int32)), (.int (Int32.ofNat (own_f xs (q + 1))))]))
                  by_cases hc212 : (191 : Int32) < (Int32.ofNat (own_f xs (q + 1)))
                  · refine go (fun _ kont => XS.icmpNo X'.here hx rfl (hb hby d_prog_37_method_2_212) rfl (tlt hc212).2.2.2 kont) ?_
                    show G (T'.setTop (mkF m 215 #[.val (.ref b), .val (.int (Int32.ofNat q0)), .val (.int (Int32.ofNat e8)), .val (.int (Int32.ofNat q)), .val (.int (Int32.ofNat (own_f xs (q)))), .val (.int (1 : Int32)), .val (.int (128 : Int32)), .val (.int (191 : Int32)), .val (.int (Int32.ofNat (own_f xs (q + 1)))), s9] []))
                    rw [hhi, show Int32.ofNat 191 < Int32.ofNat (own_f xs (q + 1)) ↔ 191 < own_f xs (q + 1) from own_ltO (d := 191) (k := own_f xs (q + 1)) (by first | omega | (split <;> omega)) (by omega)] at hc212
                    refine go (fun _ kont => XS.iconst X'.here hx rfl (hb hby d_prog_37_method_2_215) kont) ?_
                    show G (T'.setTop (mkF m 216 #[.val (.ref b), .val (.int (Int32.ofNat q0)), .val (.int (Int32.ofNat e8)), .val (.int (Int32.ofNat q)), .val (.int (Int32.ofNat (own_f xs (q)))), .val (.int (1 : Int32)), .val (.int (128 : Int32)), .val (.int (191 : Int32)), .val (.int (Int32.ofNat (own_f xs (q + 1)))), s9] [(.int (0 : Int32))]))
                    rw [hG]
                    exact own_retN X' hx (t := .boolean) Bd.returns (by simp) (hb hby d_prog_37_method_2_216) hlk (by decide) (by decide) ⟨by rw [hT, own_T_bad (by omega) (by unfold own_N own_n; (repeat' split) <;> omega)]; rfl, N0, e'⟩
                  · refine go (fun _ kont => XS.icmpYes X'.here hx rfl (pc0 := 212) (pc' := 217) rfl (hb hby d_prog_37_method_2_212) rfl (flt hc212).2.2.2 (by decide) (by decide) kont) ?_
                    show G (T'.setTop (mkF m 217 #[.val (.ref b), .val (.int (Int32.ofNat q0)), .val (.int (Int32.ofNat e8)), .val (.int (Int32.ofNat q)), .val (.int (Int32.ofNat (own_f xs (q)))), .val (.int (1 : Int32)), .val (.int (128 : Int32)), .val (.int (191 : Int32)), .val (.int (Int32.ofNat (own_f xs (q + 1)))), s9] []))
                    rw [hhi, show Int32.ofNat 191 < Int32.ofNat (own_f xs (q + 1)) ↔ 191 < own_f xs (q + 1) from own_ltO (d := 191) (k := own_f xs (q + 1)) (by first | omega | (split <;> omega)) (by omega)] at hc212
                    refine go (fun _ kont => XS.iloadN X'.here hx rfl (hb hby d_prog_37_method_2_217) rfl  kont) ?_
                    show G (T'.setTop (mkF m 218 #[.val (.ref b), .val (.int (Int32.ofNat q0)), .val (.int (Int32.ofNat e8)), .val (.int (Int32.ofNat q)), .val (.int (Int32.ofNat (own_f xs (q)))), .val (.int (1 : Int32)), .val (.int (128 : Int32)), .val (.int (191 : Int32)), .val (.int (Int32.ofNat (own_f xs (q + 1)))), s9] [(.int (Int32.ofNat q))]))
                    refine go (fun _ kont => XS.iconst X'.here hx rfl (hb hby d_prog_37_method_2_218) kont) ?_
                    show G (T'.setTop (mkF m 219 #[.val (.ref b), .val (.int (Int32.ofNat q0)), .val (.int (Int32.ofNat e8)), .val (.int (Int32.ofNat q)), .val (.int (Int32.ofNat (own_f xs (q)))), .val (.int (1 : Int32)), .val (.int (128 : Int32)), .val (.int (191 : Int32)), .val (.int (Int32.ofNat (own_f xs (q + 1)))), s9] [(.int (2 : Int32)), (.int (Int32.ofNat q))]))
                    refine go (fun _ kont => XS.iadd X'.here hx rfl (hb hby d_prog_37_method_2_219) rfl kont) ?_
                    show G (T'.setTop (mkF m 220 #[.val (.ref b), .val (.int (Int32.ofNat q0)), .val (.int (Int32.ofNat e8)), .val (.int (Int32.ofNat q)), .val (.int (Int32.ofNat (own_f xs (q)))), .val (.int (1 : Int32)), .val (.int (128 : Int32)), .val (.int (191 : Int32)), .val (.int (Int32.ofNat (own_f xs (q + 1)))), s9] [(.int ((Int32.ofNat q) + (2 : Int32)))]))
                    rw [show Int32.ofNat q + (2 : Int32) = Int32.ofNat (q + 2) from own_addk q 2]
                    show G (T'.setTop (mkF m 220 #[.val (.ref b), .val (.int (Int32.ofNat q0)), .val (.int (Int32.ofNat e8)), .val (.int (Int32.ofNat q)), .val (.int (Int32.ofNat (own_f xs (q)))), .val (.int (1 : Int32)), .val (.int (128 : Int32)), .val (.int (191 : Int32)), .val (.int (Int32.ofNat (own_f xs (q + 1)))), s9] [(.int (Int32.ofNat (q + 2)))]))
                    refine go (fun _ kont => XS.istore X'.here hx rfl (hb hby d_prog_37_method_2_220) rfl (l' := #[.val (.ref b), .val (.int (Int32.ofNat q0)), .val (.int (Int32.ofNat e8)), .val (.int (Int32.ofNat q)), .val (.int (Int32.ofNat (own_f xs (q)))), .val (.int (1 : Int32)), .val (.int (128 : Int32)), .val (.int (191 : Int32)), .val (.int (Int32.ofNat (own_f xs (q + 1)))), .val (.int (Int32.ofNat (q + 2)))]) (by rcases hs9 with rfl | ⟨w, rfl, hw⟩ <;> first | rfl | (cases w <;> first | rfl | (simp [Value.category] at hw))) kont) ?_
                    show G (T'.setTop (mkF m 222 #[.val (.ref b), .val (.int (Int32.ofNat q0)), .val (.int (Int32.ofNat e8)), .val (.int (Int32.ofNat q)), .val (.int (Int32.ofNat (own_f xs (q)))), .val (.int (1 : Int32)), .val (.int (128 : Int32)), .val (.int (191 : Int32)), .val (.int (Int32.ofNat (own_f xs (q + 1)))), .val (.int (Int32.ofNat (q + 2)))] []))
                    refine go (fun _ kont => XS.iload X'.here hx rfl (hb hby d_prog_37_method_2_222) rfl  kont) ?_
                    show G (T'.setTop (mkF m 224 #[.val (.ref b), .val (.int (Int32.ofNat q0)), .val (.int (Int32.ofNat e8)), .val (.int (Int32.ofNat q)), .val (.int (Int32.ofNat (own_f xs (q)))), .val (.int (1 : Int32)), .val (.int (128 : Int32)), .val (.int (191 : Int32)), .val (.int (Int32.ofNat (own_f xs (q + 1)))), .val (.int (Int32.ofNat (q + 2)))] [(.int (Int32.ofNat (q + 2)))]))
                    refine go (fun _ kont => XS.iloadN X'.here hx rfl (hb hby d_prog_37_method_2_224) rfl  kont) ?_
                    show G (T'.setTop (mkF m 225 #[.val (.ref b), .val (.int (Int32.ofNat q0)), .val (.int (Int32.ofNat e8)), .val (.int (Int32.ofNat q)), .val (.int (Int32.ofNat (own_f xs (q)))), .val (.int (1 : Int32)), .val (.int (128 : Int32)), .val (.int (191 : Int32)), .val (.int (Int32.ofNat (own_f xs (q + 1)))), .val (.int (Int32.ofNat (q + 2)))] [(.int (Int32.ofNat q)), (.int (Int32.ofNat (q + 2)))]))
                    refine go (fun _ kont => XS.iload X'.here hx rfl (hb hby d_prog_37_method_2_225) rfl  kont) ?_
                    show G (T'.setTop (mkF m 227 #[.val (.ref b), .val (.int (Int32.ofNat q0)), .val (.int (Int32.ofNat e8)), .val (.int (Int32.ofNat q)), .val (.int (Int32.ofNat (own_f xs (q)))), .val (.int (1 : Int32)), .val (.int (128 : Int32)), .val (.int (191 : Int32)), .val (.int (Int32.ofNat (own_f xs (q + 1)))), .val (.int (Int32.ofNat (q + 2)))] [(.int (1 : Int32)), (.int (Int32.ofNat q)), (.int (Int32.ofNat (q + 2)))]))
                    refine go (fun _ kont => XS.iadd X'.here hx rfl (hb hby d_prog_37_method_2_227) rfl kont) ?_
                    show G (T'.setTop (mkF m 228 #[.val (.ref b), .val (.int (Int32.ofNat q0)), .val (.int (Int32.ofNat e8)), .val (.int (Int32.ofNat q)), .val (.int (Int32.ofNat (own_f xs (q)))), .val (.int (1 : Int32)), .val (.int (128 : Int32)), .val (.int (191 : Int32)), .val (.int (Int32.ofNat (own_f xs (q + 1)))), .val (.int (Int32.ofNat (q + 2)))] [(.int ((Int32.ofNat q) + (1 : Int32))), (.int (Int32.ofNat (q + 2)))]))
                    rw [show Int32.ofNat q + (1 : Int32) = Int32.ofNat (q + 1) from own_addk q 1]
                    show G (T'.setTop (mkF m 228 #[.val (.ref b), .val (.int (Int32.ofNat q0)), .val (.int (Int32.ofNat e8)), .val (.int (Int32.ofNat q)), .val (.int (Int32.ofNat (own_f xs (q)))), .val (.int (1 : Int32)), .val (.int (128 : Int32)), .val (.int (191 : Int32)), .val (.int (Int32.ofNat (own_f xs (q + 1)))), .val (.int (Int32.ofNat (q + 2)))] [(.int (Int32.ofNat (q + 1))), (.int (Int32.ofNat (q + 2)))]))
                    refine go (fun _ kont => XS.icmpYes X'.here hx rfl (pc0 := 228) (pc' := 253) rfl (hb hby d_prog_37_method_2_228) rfl (tlt ((own_ltO (d := q + 1) (k := q + 2) (by omega) (by omega)).mpr (by omega))).2.2.1 (by decide) (by decide) kont) ?_
                    show G (T'.setTop (mkF m 253 #[.val (.ref b), .val (.int (Int32.ofNat q0)), .val (.int (Int32.ofNat e8)), .val (.int (Int32.ofNat q)), .val (.int (Int32.ofNat (own_f xs (q)))), .val (.int (1 : Int32)), .val (.int (128 : Int32)), .val (.int (191 : Int32)), .val (.int (Int32.ofNat (own_f xs (q + 1)))), .val (.int (Int32.ofNat (q + 2)))] []))
                    refine go (fun _ kont => XS.iloadN X'.here hx rfl (hb hby d_prog_37_method_2_253) rfl  kont) ?_
                    show G (T'.setTop (mkF m 254 #[.val (.ref b), .val (.int (Int32.ofNat q0)), .val (.int (Int32.ofNat e8)), .val (.int (Int32.ofNat q)), .val (.int (Int32.ofNat (own_f xs (q)))), .val (.int (1 : Int32)), .val (.int (128 : Int32)), .val (.int (191 : Int32)), .val (.int (Int32.ofNat (own_f xs (q + 1)))), .val (.int (Int32.ofNat (q + 2)))] [(.int (Int32.ofNat q))]))
                    refine go (fun _ kont => XS.iload X'.here hx rfl (hb hby d_prog_37_method_2_254) rfl  kont) ?_
                    show G (T'.setTop (mkF m 256 #[.val (.ref b), .val (.int (Int32.ofNat q0)), .val (.int (Int32.ofNat e8)), .val (.int (Int32.ofNat q)), .val (.int (Int32.ofNat (own_f xs (q)))), .val (.int (1 : Int32)), .val (.int (128 : Int32)), .val (.int (191 : Int32)), .val (.int (Int32.ofNat (own_f xs (q + 1)))), .val (.int (Int32.ofNat (q + 2)))] [(.int (1 : Int32)), (.int (Int32.ofNat q))]))
                    refine go (fun _ kont => XS.iconst X'.here hx rfl (hb hby d_prog_37_method_2_256) kont) ?_
                    show G (T'.setTop (mkF m 257 #[.val (.ref b), .val (.int (Int32.ofNat q0)), .val (.int (Int32.ofNat e8)), .val (.int (Int32.ofNat q)), .val (.int (Int32.ofNat (own_f xs (q)))), .val (.int (1 : Int32)), .val (.int (128 : Int32)), .val (.int (191 : Int32)), .val (.int (Int32.ofNat (own_f xs (q + 1)))), .val (.int (Int32.ofNat (q + 2)))] [(.int (1 : Int32)), (.int (1 : Int32)), (.int (Int32.ofNat q))]))
                    refine go (fun _ kont => XS.iadd X'.here hx rfl (hb hby d_prog_37_method_2_257) rfl kont) ?_
                    show G (T'.setTop (mkF m 258 #[.val (.ref b), .val (.int (Int32.ofNat q0)), .val (.int (Int32.ofNat e8)), .val (.int (Int32.ofNat q)), .val (.int (Int32.ofNat (own_f xs (q)))), .val (.int (1 : Int32)), .val (.int (128 : Int32)), .val (.int (191 : Int32)), .val (.int (Int32.ofNat (own_f xs (q + 1)))), .val (.int (Int32.ofNat (q + 2)))] [(.int ((1 : Int32) + (1 : Int32))), (.int (Int32.ofNat q))]))
                    refine go (fun _ kont => XS.iadd X'.here hx rfl (hb hby d_prog_37_method_2_258) rfl kont) ?_
                    show G (T'.setTop (mkF m 259 #[.val (.ref b), .val (.int (Int32.ofNat q0)), .val (.int (Int32.ofNat e8)), .val (.int (Int32.ofNat q)), .val (.int (Int32.ofNat (own_f xs (q)))), .val (.int (1 : Int32)), .val (.int (128 : Int32)), .val (.int (191 : Int32)), .val (.int (Int32.ofNat (own_f xs (q + 1)))), .val (.int (Int32.ofNat (q + 2)))] [(.int ((Int32.ofNat q) + ((1 : Int32) + (1 : Int32))))]))
                    refine go (fun _ kont => XS.istoreN X'.here hx rfl (hb hby d_prog_37_method_2_259) rfl (l' := #[.val (.ref b), .val (.int (Int32.ofNat q0)), .val (.int (Int32.ofNat e8)), .val (.int ((Int32.ofNat q) + ((1 : Int32) + (1 : Int32)))), .val (.int (Int32.ofNat (own_f xs (q)))), .val (.int (1 : Int32)), .val (.int (128 : Int32)), .val (.int (191 : Int32)), .val (.int (Int32.ofNat (own_f xs (q + 1)))), .val (.int (Int32.ofNat (q + 2)))]) rfl kont) ?_
                    show G (T'.setTop (mkF m 260 #[.val (.ref b), .val (.int (Int32.ofNat q0)), .val (.int (Int32.ofNat e8)), .val (.int ((Int32.ofNat q) + ((1 : Int32) + (1 : Int32)))), .val (.int (Int32.ofNat (own_f xs (q)))), .val (.int (1 : Int32)), .val (.int (128 : Int32)), .val (.int (191 : Int32)), .val (.int (Int32.ofNat (own_f xs (q + 1)))), .val (.int (Int32.ofNat (q + 2)))] []))
                    refine go (fun _ kont => XS.goto X'.here hx rfl (pc0 := 260) (pc' := 2) rfl (hb hby d_prog_37_method_2_260) (by decide) (by decide) kont) ?_
                    show G (T'.setTop (mkF m 2 #[.val (.ref b), .val (.int (Int32.ofNat q0)), .val (.int (Int32.ofNat e8)), .val (.int ((Int32.ofNat q) + ((1 : Int32) + (1 : Int32)))), .val (.int (Int32.ofNat (own_f xs (q)))), .val (.int (1 : Int32)), .val (.int (128 : Int32)), .val (.int (191 : Int32)), .val (.int (Int32.ofNat (own_f xs (q + 1)))), .val (.int (Int32.ofNat (q + 2)))] []))
                    rw [show Int32.ofNat q + ((1 : Int32) + (1 : Int32)) = Int32.ofNat (q + 2) from own_addk q 2]
                    exact ih (q + 2) (by omega) (by omega) (hT.trans (own_T_step (N := 2) (by omega) he8 (by unfold own_N own_n; (repeat' split) <;> omega) (by decide))) _ _ _ _ _ _ (One.val rfl) (One.val rfl) (One.val rfl) (One.val rfl) (One.val rfl) (One.val rfl) _ X' e'
              · refine go (fun _ kont => XS.icmpNo X'.here hx rfl (hb hby d_prog_37_method_2_185) rfl (flt hc185).2.2.1 kont) ?_
                show G (T'.setTop (mkF m 188 #[.val (.ref b), .val (.int (Int32.ofNat q0)), .val (.int (Int32.ofNat e8)), .val (.int (Int32.ofNat q)), .val (.int (Int32.ofNat (own_f xs (q)))), .val (.int (1 : Int32)), .val (.int (128 : Int32)), .val (.int (191 : Int32)), s8, s9] []))
                rw [show (1 : Int32) < Int32.ofNat (e8 - q) ↔ 1 < e8 - q from own_ltO (d := 1) (k := e8 - q) (by omega) (by omega)] at hc185
                refine go (fun _ kont => XS.iconst X'.here hx rfl (hb hby d_prog_37_method_2_188) kont) ?_
                show G (T'.setTop (mkF m 189 #[.val (.ref b), .val (.int (Int32.ofNat q0)), .val (.int (Int32.ofNat e8)), .val (.int (Int32.ofNat q)), .val (.int (Int32.ofNat (own_f xs (q)))), .val (.int (1 : Int32)), .val (.int (128 : Int32)), .val (.int (191 : Int32)), s8, s9] [(.int (0 : Int32))]))
                rw [hG]
                exact own_retN X' hx (t := .boolean) Bd.returns (by simp) (hb hby d_prog_37_method_2_189) hlk (by decide) (by decide) ⟨by rw [hT, own_T_bad (by omega) (by unfold own_N own_n; (repeat' split) <;> omega)]; rfl, N0, e'⟩
      · refine go (fun _ kont => XS.icmpYes X'.here hx rfl (pc0 := 4) (pc' := 263) rfl (hb hby d_prog_37_method_2_4) rfl (flt hc4).2.1 (by decide) (by decide) kont) ?_
        show G (T'.setTop (mkF m 263 #[.val (.ref b), .val (.int (Int32.ofNat q0)), .val (.int (Int32.ofNat e8)), .val (.int (Int32.ofNat q)), s4, s5, s6, s7, s8, s9] []))
        rw [own_ltO (by omega) (by omega)] at hc4
        refine go (fun _ kont => XS.iconst X'.here hx rfl (hb hby d_prog_37_method_2_263) kont) ?_
        show G (T'.setTop (mkF m 264 #[.val (.ref b), .val (.int (Int32.ofNat q0)), .val (.int (Int32.ofNat e8)), .val (.int (Int32.ofNat q)), s4, s5, s6, s7, s8, s9] [(.int (1 : Int32))]))
        rw [hG]
        exact own_retN X' hx (t := .boolean) Bd.returns (by simp) (hb hby d_prog_37_method_2_264) hlk (by decide) (by decide) ⟨by rw [hT, own_T_end (by omega)]; rfl, N0, e'⟩
  refine go (fun _ kont => XS.iloadN X0.here hx rfl (hb hby d_prog_37_method_2_0) rfl  kont) ?_
  show G (s₁.setTop (mkF m 1 #[.val (.ref b), .val (.int (Int32.ofNat q0)), .val (.int (Int32.ofNat e8)), .unset, .unset, .unset, .unset, .unset, .unset, .unset] [(.int (Int32.ofNat q0))]))
  refine go (fun _ kont => XS.istoreN X0.here hx rfl (hb hby d_prog_37_method_2_1) rfl (l' := #[.val (.ref b), .val (.int (Int32.ofNat q0)), .val (.int (Int32.ofNat e8)), .val (.int (Int32.ofNat q0)), .unset, .unset, .unset, .unset, .unset, .unset]) rfl kont) ?_
  show G (s₁.setTop (mkF m 2 #[.val (.ref b), .val (.int (Int32.ofNat q0)), .val (.int (Int32.ofNat e8)), .val (.int (Int32.ofNat q0)), .unset, .unset, .unset, .unset, .unset, .unset] []))
  exact loop 9 q0 (by omega) hq0 rfl _ _ _ _ _ _ One.u One.u One.u One.u One.u One.u _ X0 e0
theorem own_ef_own_rm_law (m : MethodId) (x0 : Int64) (x1 : Int32) (x2 : Int32) : entryFrame m #[(.long x0), (.int x1), (.int x2)] maxLocals = mkF m 0 #[.val (.long x0), .second, .val (.int x1), .val (.int x2), .unset, .unset, .unset, .unset, .unset] [] := by first | (simp [entryFrame, mkF, argsToLocals, Value.category, maxLocals]; done) | rfl
set_option maxRecDepth 65536 in
set_option maxHeartbeats 40000000 in
theorem own_rm_law (l : Launch) (Z : State) (a0 : Array Value) (hw : ∀ d ∈ tables_1, d.before a0 Z = true) (ws : List Jvm.Cond) (p1 : Int64) (p2 : Int32) (p3 : Int32) (h0 : Heap) (n0 : Nat) (Z0 : n0 ≤ h0.size)  :
    MetFree l x (head1 (Jvm.Cond.code x code maxLocals ret :: ws) room_1) (fun aq Uq => aq = #[(.long p1), (.int p2), (.int p3)] ∧ Z.Warmed39 Uq.vm ∧ Uq.heap = h0) (fun _ _ _ _ _ => True) (fun _ Uq oq Uq' => ∃ vq Lq, oq = .returned vq ∧ (own_Ql n0) vq Uq'.heap Lq ∧ FrameEnd Uq oq Uq' Lq room_1.cells room_1.slots) := by
  refine MetFree.of_bodySF (plainFor_of_name own_pn0) hisR ?_
  intro p e s m args below meth c s₁ Bd hml0 hP hK
  obtain ⟨rfl, hZ, hh⟩ := hP
  have hx := Bd.exec
  have hby := Bd.bytes
  have hml : c.maxLocals = 9 := hml0
  have hown : s.vm.findClass "com/example/ansehen/ansehen/util/Utf8IsTextPinLaw" = some m.cls := findClass_of_methodNamed Bd.named
  have hnm := (name_of_methodNamed Bd.named Bd.method).1
  have X0 : Stand p l e room_1 s m #[(.long p1), (.int p2), (.int p3)] below meth c s₁ [] 0 0 := Stand.of_body Bd
  have e0 : s₁.heap = h0 := by rw [← hh, Bd.state]; rfl
  have N0 := Fr.nil n0
  have hlk : meth.locks = false := by first | exact BodyLoose.notSynchronized Bd | exact Body.notSynchronized Bd
  obtain ⟨G, hG⟩ : ∃ G : State → Prop, G = own_G p e below s room_1.cells room_1.slots ((own_Ql n0)) := ⟨_, rfl⟩
  have go : ∀ {S S' : State}, (∀ t, Steps p.tables e below S' t → Steps p.tables e below S t) → G S' → G S := by rw [hG]; exact own_to
  suffices hs : G (s₁.setTop (mkF m 0 #[.val (.long p1), .second, .val (.int p2), .val (.int p3), .unset, .unset, .unset, .unset, .unset] [])) by
    rw [hG] at hs
    exact own_to (fun _ kont => castTop (own_ef_own_rm_law m p1 p2 p3) kont) hs
  refine go (fun _ kont => XS.bipush X0.here hx rfl (hb hby at_0) kont) ?_
  show G (s₁.setTop (mkF m 2 #[.val (.long p1), .second, .val (.int p2), .val (.int p3), .unset, .unset, .unset, .unset, .unset] [(.int (8 : Int32))]))
  obtain ⟨T1, h1, k1, X1, e1, E1, A1, st1⟩ := newP X0 hx hZ (hw _ (List.mem_of_getElem? (i := 0) rfl)) e0 (g := (mkF m 2 #[.val (.long p1), .second, .val (.int p2), .val (.int p3), .unset, .unset, .unset, .unset, .unset] [(.int (8 : Int32))])) rfl (hb hby at_2) rfl (by decide) (cap := 8) (by decide) (by decide) (by decide) (by decide)
  obtain ⟨b1, g1⟩ : ∃ z, z = h0.size := ⟨_, rfl⟩
  rw [← g1] at A1 st1
  refine go st1 ?_
  show G (T1.setTop (mkF m 4 #[.val (.long p1), .second, .val (.int p2), .val (.int p3), .unset, .unset, .unset, .unset, .unset] [(.ref b1)]))
  have V1 : own_V Z h1 b1 .byte [(.int 0), (.int 0), (.int 0), (.int 0), (.int 0), (.int 0), (.int 0), (.int 0)] := own_V_new A1 (m := 8) (by decide) (by decide)
  have Z1 : n0 ≤ h1.size := Nat.le_trans Z0 E1.1
  have ga_b1 : n0 ≤ b1 := Nat.le_trans Z0 (Nat.le_of_eq g1.symm)
  refine go (fun _ kont => XS.astore X1.here hx rfl (hb hby at_4) rfl rfl (l' := #[.val (.long p1), .second, .val (.int p2), .val (.int p3), .val (.ref b1), .unset, .unset, .unset, .unset]) rfl kont) ?_
  show G (T1.setTop (mkF m 6 #[.val (.long p1), .second, .val (.int p2), .val (.int p3), .val (.ref b1), .unset, .unset, .unset, .unset] []))
  refine go (fun _ kont => XS.aload X1.here hx rfl (hb hby at_6) rfl rfl kont) ?_
  show G (T1.setTop (mkF m 8 #[.val (.long p1), .second, .val (.int p2), .val (.int p3), .val (.ref b1), .unset, .unset, .unset, .unset] [(.ref b1)]))
  refine go (fun _ kont => XS.iconst X1.here hx rfl (hb hby at_8) kont) ?_
  show G (T1.setTop (mkF m 9 #[.val (.long p1), .second, .val (.int p2), .val (.int p3), .val (.ref b1), .unset, .unset, .unset, .unset] [(.int (0 : Int32)), (.ref b1)]))
  refine go (fun _ kont => XS.lloadN X1.here hx rfl (hb hby at_9) rfl  kont) ?_
  show G (T1.setTop (mkF m 10 #[.val (.long p1), .second, .val (.int p2), .val (.int p3), .val (.ref b1), .unset, .unset, .unset, .unset] [(.long p1), (.int (0 : Int32)), (.ref b1)]))
  refine go (fun _ kont => XS.l2i X1.here hx rfl (hb hby at_10) rfl kont) ?_
  show G (T1.setTop (mkF m 11 #[.val (.long p1), .second, .val (.int p2), .val (.int p3), .val (.ref b1), .unset, .unset, .unset, .unset] [(.int p1.toInt32), (.int (0 : Int32)), (.ref b1)]))
  refine go (fun _ kont => XS.i2b X1.here hx rfl (hb hby at_11) rfl kont) ?_
  show G (T1.setTop (mkF m 12 #[.val (.long p1), .second, .val (.int p2), .val (.int p3), .val (.ref b1), .unset, .unset, .unset, .unset] [(.int p1.toInt32.toInt8.toInt32), (.int (0 : Int32)), (.ref b1)]))
  obtain ⟨cl2, Ar2, Sl2, Ml2⟩ := id V1
  obtain ⟨T3, h3, X3, e3, W3, st3⟩ := stB X1 hx hZ e1 Ar2 (j := (0 : Int32)) (own_hink Sl2 (by decide) (k := 0) (by decide) (Nat.le_of_ble_eq_true rfl)) (g := (mkF m 12 #[.val (.long p1), .second, .val (.int p2), .val (.int p3), .val (.ref b1), .unset, .unset, .unset, .unset] [(.int p1.toInt32.toInt8.toInt32), (.int (0 : Int32)), (.ref b1)])) rfl rfl (hb hby at_12)
  refine go st3 ?_
  show G (T3.setTop (mkF m 13 #[.val (.long p1), .second, .val (.int p2), .val (.int p3), .val (.ref b1), .unset, .unset, .unset, .unset] []))
  have V3 : own_V Z h3 b1 .byte [(.int (nar .byte p1.toInt32.toInt8.toInt32)), (.int 0), (.int 0), (.int 0), (.int 0), (.int 0), (.int 0), (.int 0)] := own_V_set V1 W3 (k := 0) (by decide)
  have N3 := Fr.snoc X3 N0 ga_b1
  have Z3 : n0 ≤ h3.size := by rw [W3.size]; exact Z1
  refine go (fun _ kont => XS.aload X3.here hx rfl (hb hby at_13) rfl rfl kont) ?_
  show G (T3.setTop (mkF m 15 #[.val (.long p1), .second, .val (.int p2), .val (.int p3), .val (.ref b1), .unset, .unset, .unset, .unset] [(.ref b1)]))
  refine go (fun _ kont => XS.iconst X3.here hx rfl (hb hby at_15) kont) ?_
  show G (T3.setTop (mkF m 16 #[.val (.long p1), .second, .val (.int p2), .val (.int p3), .val (.ref b1), .unset, .unset, .unset, .unset] [(.int (1 : Int32)), (.ref b1)]))
  refine go (fun _ kont => XS.lloadN X3.here hx rfl (hb hby at_16) rfl  kont) ?_
  show G (T3.setTop (mkF m 17 #[.val (.long p1), .second, .val (.int p2), .val (.int p3), .val (.ref b1), .unset, .unset, .unset, .unset] [(.long p1), (.int (1 : Int32)), (.ref b1)]))
  refine go (fun _ kont => XS.bipush X3.here hx rfl (hb hby at_17) kont) ?_
  show G (T3.setTop (mkF m 19 #[.val (.long p1), .second, .val (.int p2), .val (.int p3), .val (.ref b1), .unset, .unset, .unset, .unset] [(.int (8 : Int32)), (.long p1), (.int (1 : Int32)), (.ref b1)]))
  refine go (fun _ kont => XS.lushr X3.here hx rfl (hb hby at_19) rfl kont) ?_
  show G (T3.setTop (mkF m 20 #[.val (.long p1), .second, .val (.int p2), .val (.int p3), .val (.ref b1), .unset, .unset, .unset, .unset] [(.long ((p1.toUInt64 >>> ((8 : Int32) &&& 0x3f).toInt64.toUInt64).toInt64)), (.int (1 : Int32)), (.ref b1)]))
  refine go (fun _ kont => XS.l2i X3.here hx rfl (hb hby at_20) rfl kont) ?_
  show G (T3.setTop (mkF m 21 #[.val (.long p1), .second, .val (.int p2), .val (.int p3), .val (.ref b1), .unset, .unset, .unset, .unset] [(.int ((p1.toUInt64 >>> ((8 : Int32) &&& 0x3f).toInt64.toUInt64).toInt64).toInt32), (.int (1 : Int32)), (.ref b1)]))
  refine go (fun _ kont => XS.i2b X3.here hx rfl (hb hby at_21) rfl kont) ?_
  show G (T3.setTop (mkF m 22 #[.val (.long p1), .second, .val (.int p2), .val (.int p3), .val (.ref b1), .unset, .unset, .unset, .unset] [(.int (((p1.toUInt64 >>> ((8 : Int32) &&& 0x3f).toInt64.toUInt64).toInt64).toInt32).toInt8.toInt32), (.int (1 : Int32)), (.ref b1)]))
  obtain ⟨cl4, Ar4, Sl4, Ml4⟩ := id V3
  obtain ⟨T5, h5, X5, e5, W5, st5⟩ := stB X3 hx hZ e3 Ar4 (j := (1 : Int32)) (own_hink Sl4 (by decide) (k := 1) (by decide) (Nat.le_of_ble_eq_true rfl)) (g := (mkF m 22 #[.val (.long p1), .second, .val (.int p2), .val (.int p3), .val (.ref b1), .unset, .unset, .unset, .unset] [(.int (((p1.toUInt64 >>> ((8 : Int32) &&& 0x3f).toInt64.toUInt64).toInt64).toInt32).toInt8.toInt32), (.int (1 : Int32)), (.ref b1)])) rfl rfl (hb hby at_22)
  refine go st5 ?_
  show G (T5.setTop (mkF m 23 #[.val (.long p1), .second, .val (.int p2), .val (.int p3), .val (.ref b1), .unset, .unset, .unset, .unset] []))
  have V5 : own_V Z h5 b1 .byte [(.int (nar .byte p1.toInt32.toInt8.toInt32)), (.int (nar .byte (((p1.toUInt64 >>> ((8 : Int32) &&& 0x3f).toInt64.toUInt64).toInt64).toInt32).toInt8.toInt32)), (.int 0), (.int 0), (.int 0), (.int 0), (.int 0), (.int 0)] := own_V_set V3 W5 (k := 1) (by decide)
  have N5 := Fr.snoc X5 N3 ga_b1
  have Z5 : n0 ≤ h5.size := by rw [W5.size]; exact Z3
  refine go (fun _ kont => XS.aload X5.here hx rfl (hb hby at_23) rfl rfl kont) ?_
  show G (T5.setTop (mkF m 25 #[.val (.long p1), .second, .val (.int p2), .val (.int p3), .val (.ref b1), .unset, .unset, .unset, .unset] [(.ref b1)]))
  refine go (fun _ kont => XS.iconst X5.here hx rfl (hb hby at_25) kont) ?_
  show G (T5.setTop (mkF m 26 #[.val (.long p1), .second, .val (.int p2), .val (.int p3), .val (.ref b1), .unset, .unset, .unset, .unset] [(.int (2 : Int32)), (.ref b1)]))
  refine go (fun _ kont => XS.lloadN X5.here hx rfl (hb hby at_26) rfl  kont) ?_
  show G (T5.setTop (mkF m 27 #[.val (.long p1), .second, .val (.int p2), .val (.int p3), .val (.ref b1), .unset, .unset, .unset, .unset] [(.long p1), (.int (2 : Int32)), (.ref b1)]))
  refine go (fun _ kont => XS.bipush X5.here hx rfl (hb hby at_27) kont) ?_
  show G (T5.setTop (mkF m 29 #[.val (.long p1), .second, .val (.int p2), .val (.int p3), .val (.ref b1), .unset, .unset, .unset, .unset] [(.int (16 : Int32)), (.long p1), (.int (2 : Int32)), (.ref b1)]))
  refine go (fun _ kont => XS.lushr X5.here hx rfl (hb hby at_29) rfl kont) ?_
  show G (T5.setTop (mkF m 30 #[.val (.long p1), .second, .val (.int p2), .val (.int p3), .val (.ref b1), .unset, .unset, .unset, .unset] [(.long ((p1.toUInt64 >>> ((16 : Int32) &&& 0x3f).toInt64.toUInt64).toInt64)), (.int (2 : Int32)), (.ref b1)]))
  refine go (fun _ kont => XS.l2i X5.here hx rfl (hb hby at_30) rfl kont) ?_
  show G (T5.setTop (mkF m 31 #[.val (.long p1), .second, .val (.int p2), .val (.int p3), .val (.ref b1), .unset, .unset, .unset, .unset] [(.int ((p1.toUInt64 >>> ((16 : Int32) &&& 0x3f).toInt64.toUInt64).toInt64).toInt32), (.int (2 : Int32)), (.ref b1)]))
  refine go (fun _ kont => XS.i2b X5.here hx rfl (hb hby at_31) rfl kont) ?_
  show G (T5.setTop (mkF m 32 #[.val (.long p1), .second, .val (.int p2), .val (.int p3), .val (.ref b1), .unset, .unset, .unset, .unset] [(.int (((p1.toUInt64 >>> ((16 : Int32) &&& 0x3f).toInt64.toUInt64).toInt64).toInt32).toInt8.toInt32), (.int (2 : Int32)), (.ref b1)]))
  obtain ⟨cl6, Ar6, Sl6, Ml6⟩ := id V5
  obtain ⟨T7, h7, X7, e7, W7, st7⟩ := stB X5 hx hZ e5 Ar6 (j := (2 : Int32)) (own_hink Sl6 (by decide) (k := 2) (by decide) (Nat.le_of_ble_eq_true rfl)) (g := (mkF m 32 #[.val (.long p1), .second, .val (.int p2), .val (.int p3), .val (.ref b1), .unset, .unset, .unset, .unset] [(.int (((p1.toUInt64 >>> ((16 : Int32) &&& 0x3f).toInt64.toUInt64).toInt64).toInt32).toInt8.toInt32), (.int (2 : Int32)), (.ref b1)])) rfl rfl (hb hby at_32)
  refine go st7 ?_
  show G (T7.setTop (mkF m 33 #[.val (.long p1), .second, .val (.int p2), .val (.int p3), .val (.ref b1), .unset, .unset, .unset, .unset] []))
  have V7 : own_V Z h7 b1 .byte [(.int (nar .byte p1.toInt32.toInt8.toInt32)), (.int (nar .byte (((p1.toUInt64 >>> ((8 : Int32) &&& 0x3f).toInt64.toUInt64).toInt64).toInt32).toInt8.toInt32)), (.int (nar .byte (((p1.toUInt64 >>> ((16 : Int32) &&& 0x3f).toInt64.toUInt64).toInt64).toInt32).toInt8.toInt32)), (.int 0), (.int 0), (.int 0), (.int 0), (.int 0)] := own_V_set V5 W7 (k := 2) (by decide)
  have N7 := Fr.snoc X7 N5 ga_b1
  have Z7 : n0 ≤ h7.size := by rw [W7.size]; exact Z5
  refine go (fun _ kont => XS.aload X7.here hx rfl (hb hby at_33) rfl rfl kont) ?_
  show G (T7.setTop (mkF m 35 #[.val (.long p1), .second, .val (.int p2), .val (.int p3), .val (.ref b1), .unset, .unset, .unset, .unset] [(.ref b1)]))
  refine go (fun _ kont => XS.iconst X7.here hx rfl (hb hby at_35) kont) ?_
  show G (T7.setTop (mkF m 36 #[.val (.long p1), .second, .val (.int p2), .val (.int p3), .val (.ref b1), .unset, .unset, .unset, .unset] [(.int (3 : Int32)), (.ref b1)]))
  refine go (fun _ kont => XS.lloadN X7.here hx rfl (hb hby at_36) rfl  kont) ?_
  show G (T7.setTop (mkF m 37 #[.val (.long p1), .second, .val (.int p2), .val (.int p3), .val (.ref b1), .unset, .unset, .unset, .unset] [(.long p1), (.int (3 : Int32)), (.ref b1)]))
  refine go (fun _ kont => XS.bipush X7.here hx rfl (hb hby at_37) kont) ?_
  show G (T7.setTop (mkF m 39 #[.val (.long p1), .second, .val (.int p2), .val (.int p3), .val (.ref b1), .unset, .unset, .unset, .unset] [(.int (24 : Int32)), (.long p1), (.int (3 : Int32)), (.ref b1)]))
  refine go (fun _ kont => XS.lushr X7.here hx rfl (hb hby at_39) rfl kont) ?_
  show G (T7.setTop (mkF m 40 #[.val (.long p1), .second, .val (.int p2), .val (.int p3), .val (.ref b1), .unset, .unset, .unset, .unset] [(.long ((p1.toUInt64 >>> ((24 : Int32) &&& 0x3f).toInt64.toUInt64).toInt64)), (.int (3 : Int32)), (.ref b1)]))
  refine go (fun _ kont => XS.l2i X7.here hx rfl (hb hby at_40) rfl kont) ?_
  show G (T7.setTop (mkF m 41 #[.val (.long p1), .second, .val (.int p2), .val (.int p3), .val (.ref b1), .unset, .unset, .unset, .unset] [(.int ((p1.toUInt64 >>> ((24 : Int32) &&& 0x3f).toInt64.toUInt64).toInt64).toInt32), (.int (3 : Int32)), (.ref b1)]))
  refine go (fun _ kont => XS.i2b X7.here hx rfl (hb hby at_41) rfl kont) ?_
  show G (T7.setTop (mkF m 42 #[.val (.long p1), .second, .val (.int p2), .val (.int p3), .val (.ref b1), .unset, .unset, .unset, .unset] [(.int (((p1.toUInt64 >>> ((24 : Int32) &&& 0x3f).toInt64.toUInt64).toInt64).toInt32).toInt8.toInt32), (.int (3 : Int32)), (.ref b1)]))
  obtain ⟨cl8, Ar8, Sl8, Ml8⟩ := id V7
  obtain ⟨T9, h9, X9, e9, W9, st9⟩ := stB X7 hx hZ e7 Ar8 (j := (3 : Int32)) (own_hink Sl8 (by decide) (k := 3) (by decide) (Nat.le_of_ble_eq_true rfl)) (g := (mkF m 42 #[.val (.long p1), .second, .val (.int p2), .val (.int p3), .val (.ref b1), .unset, .unset, .unset, .unset] [(.int (((p1.toUInt64 >>> ((24 : Int32) &&& 0x3f).toInt64.toUInt64).toInt64).toInt32).toInt8.toInt32), (.int (3 : Int32)), (.ref b1)])) rfl rfl (hb hby at_42)
  refine go st9 ?_
  show G (T9.setTop (mkF m 43 #[.val (.long p1), .second, .val (.int p2), .val (.int p3), .val (.ref b1), .unset, .unset, .unset, .unset] []))
  have V9 : own_V Z h9 b1 .byte [(.int (nar .byte p1.toInt32.toInt8.toInt32)), (.int (nar .byte (((p1.toUInt64 >>> ((8 : Int32) &&& 0x3f).toInt64.toUInt64).toInt64).toInt32).toInt8.toInt32)), (.int (nar .byte (((p1.toUInt64 >>> ((16 : Int32) &&& 0x3f).toInt64.toUInt64).toInt64).toInt32).toInt8.toInt32)), (.int (nar .byte (((p1.toUInt64 >>> ((24 : Int32) &&& 0x3f).toInt64.toUInt64).toInt64).toInt32).toInt8.toInt32)), (.int 0), (.int 0), (.int 0), (.int 0)] := own_V_set V7 W9 (k := 3) (by decide)
  have N9 := Fr.snoc X9 N7 ga_b1
  have Z9 : n0 ≤ h9.size := by rw [W9.size]; exact Z7
  refine go (fun _ kont => XS.aload X9.here hx rfl (hb hby at_43) rfl rfl kont) ?_
  show G (T9.setTop (mkF m 45 #[.val (.long p1), .second, .val (.int p2), .val (.int p3), .val (.ref b1), .unset, .unset, .unset, .unset] [(.ref b1)]))
  refine go (fun _ kont => XS.iconst X9.here hx rfl (hb hby at_45) kont) ?_
  show G (T9.setTop (mkF m 46 #[.val (.long p1), .second, .val (.int p2), .val (.int p3), .val (.ref b1), .unset, .unset, .unset, .unset] [(.int (4 : Int32)), (.ref b1)]))
  refine go (fun _ kont => XS.lloadN X9.here hx rfl (hb hby at_46) rfl  kont) ?_
  show G (T9.setTop (mkF m 47 #[.val (.long p1), .second, .val (.int p2), .val (.int p3), .val (.ref b1), .unset, .unset, .unset, .unset] [(.long p1), (.int (4 : Int32)), (.ref b1)]))
  refine go (fun _ kont => XS.bipush X9.here hx rfl (hb hby at_47) kont) ?_
  show G (T9.setTop (mkF m 49 #[.val (.long p1), .second, .val (.int p2), .val (.int p3), .val (.ref b1), .unset, .unset, .unset, .unset] [(.int (32 : Int32)), (.long p1), (.int (4 : Int32)), (.ref b1)]))
  refine go (fun _ kont => XS.lushr X9.here hx rfl (hb hby at_49) rfl kont) ?_
  show G (T9.setTop (mkF m 50 #[.val (.long p1), .second, .val (.int p2), .val (.int p3), .val (.ref b1), .unset, .unset, .unset, .unset] [(.long ((p1.toUInt64 >>> ((32 : Int32) &&& 0x3f).toInt64.toUInt64).toInt64)), (.int (4 : Int32)), (.ref b1)]))
  refine go (fun _ kont => XS.l2i X9.here hx rfl (hb hby at_50) rfl kont) ?_
  show G (T9.setTop (mkF m 51 #[.val (.long p1), .second, .val (.int p2), .val (.int p3), .val (.ref b1), .unset, .unset, .unset, .unset] [(.int ((p1.toUInt64 >>> ((32 : Int32) &&& 0x3f).toInt64.toUInt64).toInt64).toInt32), (.int (4 : Int32)), (.ref b1)]))
  refine go (fun _ kont => XS.i2b X9.here hx rfl (hb hby at_51) rfl kont) ?_
  show G (T9.setTop (mkF m 52 #[.val (.long p1), .second, .val (.int p2), .val (.int p3), .val (.ref b1), .unset, .unset, .unset, .unset] [(.int (((p1.toUInt64 >>> ((32 : Int32) &&& 0x3f).toInt64.toUInt64).toInt64).toInt32).toInt8.toInt32), (.int (4 : Int32)), (.ref b1)]))
  obtain ⟨cl10, Ar10, Sl10, Ml10⟩ := id V9
  obtain ⟨T11, h11, X11, e11, W11, st11⟩ := stB X9 hx hZ e9 Ar10 (j := (4 : Int32)) (own_hink Sl10 (by decide) (k := 4) (by decide) (Nat.le_of_ble_eq_true rfl)) (g := (mkF m 52 #[.val (.long p1), .second, .val (.int p2), .val (.int p3), .val (.ref b1), .unset, .unset, .unset, .unset] [(.int (((p1.toUInt64 >>> ((32 : Int32) &&& 0x3f).toInt64.toUInt64).toInt64).toInt32).toInt8.toInt32), (.int (4 : Int32)), (.ref b1)])) rfl rfl (hb hby at_52)
  refine go st11 ?_
  show G (T11.setTop (mkF m 53 #[.val (.long p1), .second, .val (.int p2), .val (.int p3), .val (.ref b1), .unset, .unset, .unset, .unset] []))
  have V11 : own_V Z h11 b1 .byte [(.int (nar .byte p1.toInt32.toInt8.toInt32)), (.int (nar .byte (((p1.toUInt64 >>> ((8 : Int32) &&& 0x3f).toInt64.toUInt64).toInt64).toInt32).toInt8.toInt32)), (.int (nar .byte (((p1.toUInt64 >>> ((16 : Int32) &&& 0x3f).toInt64.toUInt64).toInt64).toInt32).toInt8.toInt32)), (.int (nar .byte (((p1.toUInt64 >>> ((24 : Int32) &&& 0x3f).toInt64.toUInt64).toInt64).toInt32).toInt8.toInt32)), (.int (nar .byte (((p1.toUInt64 >>> ((32 : Int32) &&& 0x3f).toInt64.toUInt64).toInt64).toInt32).toInt8.toInt32)), (.int 0), (.int 0), (.int 0)] := own_V_set V9 W11 (k := 4) (by decide)
  have N11 := Fr.snoc X11 N9 ga_b1
  have Z11 : n0 ≤ h11.size := by rw [W11.size]; exact Z9
  refine go (fun _ kont => XS.aload X11.here hx rfl (hb hby at_53) rfl rfl kont) ?_
  show G (T11.setTop (mkF m 55 #[.val (.long p1), .second, .val (.int p2), .val (.int p3), .val (.ref b1), .unset, .unset, .unset, .unset] [(.ref b1)]))
  refine go (fun _ kont => XS.iconst X11.here hx rfl (hb hby at_55) kont) ?_
  show G (T11.setTop (mkF m 56 #[.val (.long p1), .second, .val (.int p2), .val (.int p3), .val (.ref b1), .unset, .unset, .unset, .unset] [(.int (5 : Int32)), (.ref b1)]))
  refine go (fun _ kont => XS.lloadN X11.here hx rfl (hb hby at_56) rfl  kont) ?_
  show G (T11.setTop (mkF m 57 #[.val (.long p1), .second, .val (.int p2), .val (.int p3), .val (.ref b1), .unset, .unset, .unset, .unset] [(.long p1), (.int (5 : Int32)), (.ref b1)]))
  refine go (fun _ kont => XS.bipush X11.here hx rfl (hb hby at_57) kont) ?_
  show G (T11.setTop (mkF m 59 #[.val (.long p1), .second, .val (.int p2), .val (.int p3), .val (.ref b1), .unset, .unset, .unset, .unset] [(.int (40 : Int32)), (.long p1), (.int (5 : Int32)), (.ref b1)]))
  refine go (fun _ kont => XS.lushr X11.here hx rfl (hb hby at_59) rfl kont) ?_
  show G (T11.setTop (mkF m 60 #[.val (.long p1), .second, .val (.int p2), .val (.int p3), .val (.ref b1), .unset, .unset, .unset, .unset] [(.long ((p1.toUInt64 >>> ((40 : Int32) &&& 0x3f).toInt64.toUInt64).toInt64)), (.int (5 : Int32)), (.ref b1)]))
  refine go (fun _ kont => XS.l2i X11.here hx rfl (hb hby at_60) rfl kont) ?_
  show G (T11.setTop (mkF m 61 #[.val (.long p1), .second, .val (.int p2), .val (.int p3), .val (.ref b1), .unset, .unset, .unset, .unset] [(.int ((p1.toUInt64 >>> ((40 : Int32) &&& 0x3f).toInt64.toUInt64).toInt64).toInt32), (.int (5 : Int32)), (.ref b1)]))
  refine go (fun _ kont => XS.i2b X11.here hx rfl (hb hby at_61) rfl kont) ?_
  show G (T11.setTop (mkF m 62 #[.val (.long p1), .second, .val (.int p2), .val (.int p3), .val (.ref b1), .unset, .unset, .unset, .unset] [(.int (((p1.toUInt64 >>> ((40 : Int32) &&& 0x3f).toInt64.toUInt64).toInt64).toInt32).toInt8.toInt32), (.int (5 : Int32)), (.ref b1)]))
  obtain ⟨cl12, Ar12, Sl12, Ml12⟩ := id V11
  obtain ⟨T13, h13, X13, e13, W13, st13⟩ := stB X11 hx hZ e11 Ar12 (j := (5 : Int32)) (own_hink Sl12 (by decide) (k := 5) (by decide) (Nat.le_of_ble_eq_true rfl)) (g := (mkF m 62 #[.val (.long p1), .second, .val (.int p2), .val (.int p3), .val (.ref b1), .unset, .unset, .unset, .unset] [(.int (((p1.toUInt64 >>> ((40 : Int32) &&& 0x3f).toInt64.toUInt64).toInt64).toInt32).toInt8.toInt32), (.int (5 : Int32)), (.ref b1)])) rfl rfl (hb hby at_62)
  refine go st13 ?_
  show G (T13.setTop (mkF m 63 #[.val (.long p1), .second, .val (.int p2), .val (.int p3), .val (.ref b1), .unset, .unset, .unset, .unset] []))
  have V13 : own_V Z h13 b1 .byte [(.int (nar .byte p1.toInt32.toInt8.toInt32)), (.int (nar .byte (((p1.toUInt64 >>> ((8 : Int32) &&& 0x3f).toInt64.toUInt64).toInt64).toInt32).toInt8.toInt32)), (.int (nar .byte (((p1.toUInt64 >>> ((16 : Int32) &&& 0x3f).toInt64.toUInt64).toInt64).toInt32).toInt8.toInt32)), (.int (nar .byte (((p1.toUInt64 >>> ((24 : Int32) &&& 0x3f).toInt64.toUInt64).toInt64).toInt32).toInt8.toInt32)), (.int (nar .byte (((p1.toUInt64 >>> ((32 : Int32) &&& 0x3f).toInt64.toUInt64).toInt64).toInt32).toInt8.toInt32)), (.int (nar .byte (((p1.toUInt64 >>> ((40 : Int32) &&& 0x3f).toInt64.toUInt64).toInt64).toInt32).toInt8.toInt32)), (.int 0), (.int 0)] := own_V_set V11 W13 (k := 5) (by decide)
  have N13 := Fr.snoc X13 N11 ga_b1
  have Z13 : n0 ≤ h13.size := by rw [W13.size]; exact Z11
  refine go (fun _ kont => XS.aload X13.here hx rfl (hb hby at_63) rfl rfl kont) ?_
  show G (T13.setTop (mkF m 65 #[.val (.long p1), .second, .val (.int p2), .val (.int p3), .val (.ref b1), .unset, .unset, .unset, .unset] [(.ref b1)]))
  refine go (fun _ kont => XS.bipush X13.here hx rfl (hb hby at_65) kont) ?_
  show G (T13.setTop (mkF m 67 #[.val (.long p1), .second, .val (.int p2), .val (.int p3), .val (.ref b1), .unset, .unset, .unset, .unset] [(.int (6 : Int32)), (.ref b1)]))
  refine go (fun _ kont => XS.lloadN X13.here hx rfl (hb hby at_67) rfl  kont) ?_
  show G (T13.setTop (mkF m 68 #[.val (.long p1), .second, .val (.int p2), .val (.int p3), .val (.ref b1), .unset, .unset, .unset, .unset] [(.long p1), (.int (6 : Int32)), (.ref b1)]))
  refine go (fun _ kont => XS.bipush X13.here hx rfl (hb hby at_68) kont) ?_
  show G (T13.setTop (mkF m 70 #[.val (.long p1), .second, .val (.int p2), .val (.int p3), .val (.ref b1), .unset, .unset, .unset, .unset] [(.int (48 : Int32)), (.long p1), (.int (6 : Int32)), (.ref b1)]))
  refine go (fun _ kont => XS.lushr X13.here hx rfl (hb hby at_70) rfl kont) ?_
  show G (T13.setTop (mkF m 71 #[.val (.long p1), .second, .val (.int p2), .val (.int p3), .val (.ref b1), .unset, .unset, .unset, .unset] [(.long ((p1.toUInt64 >>> ((48 : Int32) &&& 0x3f).toInt64.toUInt64).toInt64)), (.int (6 : Int32)), (.ref b1)]))
  refine go (fun _ kont => XS.l2i X13.here hx rfl (hb hby at_71) rfl kont) ?_
  show G (T13.setTop (mkF m 72 #[.val (.long p1), .second, .val (.int p2), .val (.int p3), .val (.ref b1), .unset, .unset, .unset, .unset] [(.int ((p1.toUInt64 >>> ((48 : Int32) &&& 0x3f).toInt64.toUInt64).toInt64).toInt32), (.int (6 : Int32)), (.ref b1)]))
  refine go (fun _ kont => XS.i2b X13.here hx rfl (hb hby at_72) rfl kont) ?_
  show G (T13.setTop (mkF m 73 #[.val (.long p1), .second, .val (.int p2), .val (.int p3), .val (.ref b1), .unset, .unset, .unset, .unset] [(.int (((p1.toUInt64 >>> ((48 : Int32) &&& 0x3f).toInt64.toUInt64).toInt64).toInt32).toInt8.toInt32), (.int (6 : Int32)), (.ref b1)]))
  obtain ⟨cl14, Ar14, Sl14, Ml14⟩ := id V13
  obtain ⟨T15, h15, X15, e15, W15, st15⟩ := stB X13 hx hZ e13 Ar14 (j := (6 : Int32)) (own_hink Sl14 (by decide) (k := 6) (by decide) (Nat.le_of_ble_eq_true rfl)) (g := (mkF m 73 #[.val (.long p1), .second, .val (.int p2), .val (.int p3), .val (.ref b1), .unset, .unset, .unset, .unset] [(.int (((p1.toUInt64 >>> ((48 : Int32) &&& 0x3f).toInt64.toUInt64).toInt64).toInt32).toInt8.toInt32), (.int (6 : Int32)), (.ref b1)])) rfl rfl (hb hby at_73)
  refine go st15 ?_
  show G (T15.setTop (mkF m 74 #[.val (.long p1), .second, .val (.int p2), .val (.int p3), .val (.ref b1), .unset, .unset, .unset, .unset] []))
  have V15 : own_V Z h15 b1 .byte [(.int (nar .byte p1.toInt32.toInt8.toInt32)), (.int (nar .byte (((p1.toUInt64 >>> ((8 : Int32) &&& 0x3f).toInt64.toUInt64).toInt64).toInt32).toInt8.toInt32)), (.int (nar .byte (((p1.toUInt64 >>> ((16 : Int32) &&& 0x3f).toInt64.toUInt64).toInt64).toInt32).toInt8.toInt32)), (.int (nar .byte (((p1.toUInt64 >>> ((24 : Int32) &&& 0x3f).toInt64.toUInt64).toInt64).toInt32).toInt8.toInt32)), (.int (nar .byte (((p1.toUInt64 >>> ((32 : Int32) &&& 0x3f).toInt64.toUInt64).toInt64).toInt32).toInt8.toInt32)), (.int (nar .byte (((p1.toUInt64 >>> ((40 : Int32) &&& 0x3f).toInt64.toUInt64).toInt64).toInt32).toInt8.toInt32)), (.int (nar .byte (((p1.toUInt64 >>> ((48 : Int32) &&& 0x3f).toInt64.toUInt64).toInt64).toInt32).toInt8.toInt32)), (.int 0)] := own_V_set V13 W15 (k := 6) (by decide)
  have N15 := Fr.snoc X15 N13 ga_b1
  have Z15 : n0 ≤ h15.size := by rw [W15.size]; exact Z13
  refine go (fun _ kont => XS.aload X15.here hx rfl (hb hby at_74) rfl rfl kont) ?_
  show G (T15.setTop (mkF m 76 #[.val (.long p1), .second, .val (.int p2), .val (.int p3), .val (.ref b1), .unset, .unset, .unset, .unset] [(.ref b1)]))
  refine go (fun _ kont => XS.bipush X15.here hx rfl (hb hby at_76) kont) ?_
  show G (T15.setTop (mkF m 78 #[.val (.long p1), .second, .val (.int p2), .val (.int p3), .val (.ref b1), .unset, .unset, .unset, .unset] [(.int (7 : Int32)), (.ref b1)]))
  refine go (fun _ kont => XS.lloadN X15.here hx rfl (hb hby at_78) rfl  kont) ?_
  show G (T15.setTop (mkF m 79 #[.val (.long p1), .second, .val (.int p2), .val (.int p3), .val (.ref b1), .unset, .unset, .unset, .unset] [(.long p1), (.int (7 : Int32)), (.ref b1)]))
  refine go (fun _ kont => XS.bipush X15.here hx rfl (hb hby at_79) kont) ?_
  show G (T15.setTop (mkF m 81 #[.val (.long p1), .second, .val (.int p2), .val (.int p3), .val (.ref b1), .unset, .unset, .unset, .unset] [(.int (56 : Int32)), (.long p1), (.int (7 : Int32)), (.ref b1)]))
  refine go (fun _ kont => XS.lushr X15.here hx rfl (hb hby at_81) rfl kont) ?_
  show G (T15.setTop (mkF m 82 #[.val (.long p1), .second, .val (.int p2), .val (.int p3), .val (.ref b1), .unset, .unset, .unset, .unset] [(.long ((p1.toUInt64 >>> ((56 : Int32) &&& 0x3f).toInt64.toUInt64).toInt64)), (.int (7 : Int32)), (.ref b1)]))
  refine go (fun _ kont => XS.l2i X15.here hx rfl (hb hby at_82) rfl kont) ?_
  show G (T15.setTop (mkF m 83 #[.val (.long p1), .second, .val (.int p2), .val (.int p3), .val (.ref b1), .unset, .unset, .unset, .unset] [(.int ((p1.toUInt64 >>> ((56 : Int32) &&& 0x3f).toInt64.toUInt64).toInt64).toInt32), (.int (7 : Int32)), (.ref b1)]))
  refine go (fun _ kont => XS.i2b X15.here hx rfl (hb hby at_83) rfl kont) ?_
  show G (T15.setTop (mkF m 84 #[.val (.long p1), .second, .val (.int p2), .val (.int p3), .val (.ref b1), .unset, .unset, .unset, .unset] [(.int (((p1.toUInt64 >>> ((56 : Int32) &&& 0x3f).toInt64.toUInt64).toInt64).toInt32).toInt8.toInt32), (.int (7 : Int32)), (.ref b1)]))
  obtain ⟨cl16, Ar16, Sl16, Ml16⟩ := id V15
  obtain ⟨T17, h17, X17, e17, W17, st17⟩ := stB X15 hx hZ e15 Ar16 (j := (7 : Int32)) (own_hink Sl16 (by decide) (k := 7) (by decide) (Nat.le_of_ble_eq_true rfl)) (g := (mkF m 84 #[.val (.long p1), .second, .val (.int p2), .val (.int p3), .val (.ref b1), .unset, .unset, .unset, .unset] [(.int (((p1.toUInt64 >>> ((56 : Int32) &&& 0x3f).toInt64.toUInt64).toInt64).toInt32).toInt8.toInt32), (.int (7 : Int32)), (.ref b1)])) rfl rfl (hb hby at_84)
  refine go st17 ?_
  show G (T17.setTop (mkF m 85 #[.val (.long p1), .second, .val (.int p2), .val (.int p3), .val (.ref b1), .unset, .unset, .unset, .unset] []))
  have V17 : own_V Z h17 b1 .byte [(.int (nar .byte p1.toInt32.toInt8.toInt32)), (.int (nar .byte (((p1.toUInt64 >>> ((8 : Int32) &&& 0x3f).toInt64.toUInt64).toInt64).toInt32).toInt8.toInt32)), (.int (nar .byte (((p1.toUInt64 >>> ((16 : Int32) &&& 0x3f).toInt64.toUInt64).toInt64).toInt32).toInt8.toInt32)), (.int (nar .byte (((p1.toUInt64 >>> ((24 : Int32) &&& 0x3f).toInt64.toUInt64).toInt64).toInt32).toInt8.toInt32)), (.int (nar .byte (((p1.toUInt64 >>> ((32 : Int32) &&& 0x3f).toInt64.toUInt64).toInt64).toInt32).toInt8.toInt32)), (.int (nar .byte (((p1.toUInt64 >>> ((40 : Int32) &&& 0x3f).toInt64.toUInt64).toInt64).toInt32).toInt8.toInt32)), (.int (nar .byte (((p1.toUInt64 >>> ((48 : Int32) &&& 0x3f).toInt64.toUInt64).toInt64).toInt32).toInt8.toInt32)), (.int (nar .byte (((p1.toUInt64 >>> ((56 : Int32) &&& 0x3f).toInt64.toUInt64).toInt64).toInt32).toInt8.toInt32))] := own_V_set V15 W17 (k := 7) (by decide)
  have N17 := Fr.snoc X17 N15 ga_b1
  have Z17 : n0 ≤ h17.size := by rw [W17.size]; exact Z15
  refine go (fun _ kont => XS.iloadN X17.here hx rfl (hb hby at_85) rfl  kont) ?_
  show G (T17.setTop (mkF m 86 #[.val (.long p1), .second, .val (.int p2), .val (.int p3), .val (.ref b1), .unset, .unset, .unset, .unset] [(.int p2)]))
  refine go (fun _ kont => X17.ldcInt hx hown (mvT hZ (hw _ (List.mem_of_getElem? (i := 1) rfl))) (g := (mkF m 86 #[.val (.long p1), .second, .val (.int p2), .val (.int p3), .val (.ref b1), .unset, .unset, .unset, .unset] [(.int p2)])) rfl (hb hby at_86) _ kont) ?_
  show G (T17.setTop (mkF m 88 #[.val (.long p1), .second, .val (.int p2), .val (.int p3), .val (.ref b1), .unset, .unset, .unset, .unset] [(.int (2147483647 : Int32)), (.int p2)]))
  refine go (fun _ kont => XS.iand X17.here hx rfl (hb hby at_88) rfl kont) ?_
  show G (T17.setTop (mkF m 89 #[.val (.long p1), .second, .val (.int p2), .val (.int p3), .val (.ref b1), .unset, .unset, .unset, .unset] [(.int (p2 &&& (2147483647 : Int32)))]))
  refine go (fun _ kont => XS.bipush X17.here hx rfl (hb hby at_89) kont) ?_
  show G (T17.setTop (mkF m 91 #[.val (.long p1), .second, .val (.int p2), .val (.int p3), .val (.ref b1), .unset, .unset, .unset, .unset] [(.int (9 : Int32)), (.int (p2 &&& (2147483647 : Int32)))]))
  refine go (fun _ kont => XS.irem X17.here hx rfl (hb hby at_91) rfl (by decide) kont) ?_
  show G (T17.setTop (mkF m 92 #[.val (.long p1), .second, .val (.int p2), .val (.int p3), .val (.ref b1), .unset, .unset, .unset, .unset] [(.int ((p2 &&& (2147483647 : Int32)) - ((p2 &&& (2147483647 : Int32)) / (9 : Int32)) * (9 : Int32)))]))
  obtain ⟨q0, hq0, eq0⟩ := own_start p2 (9 : Int32) 9 (by decide) (by decide)
  rw [eq0]
  show G (T17.setTop (mkF m 92 #[.val (.long p1), .second, .val (.int p2), .val (.int p3), .val (.ref b1), .unset, .unset, .unset, .unset] [(.int (Int32.ofNat q0))]))
  refine go (fun _ kont => XS.istore X17.here hx rfl (hb hby at_92) rfl (l' := #[.val (.long p1), .second, .val (.int p2), .val (.int p3), .val (.ref b1), .val (.int (Int32.ofNat q0)), .unset, .unset, .unset]) rfl kont) ?_
  show G (T17.setTop (mkF m 94 #[.val (.long p1), .second, .val (.int p2), .val (.int p3), .val (.ref b1), .val (.int (Int32.ofNat q0)), .unset, .unset, .unset] []))
  refine go (fun _ kont => XS.iload X17.here hx rfl (hb hby at_94) rfl  kont) ?_
  show G (T17.setTop (mkF m 96 #[.val (.long p1), .second, .val (.int p2), .val (.int p3), .val (.ref b1), .val (.int (Int32.ofNat q0)), .unset, .unset, .unset] [(.int (Int32.ofNat q0))]))
  refine go (fun _ kont => XS.iloadN X17.here hx rfl (hb hby at_96) rfl  kont) ?_
  show G (T17.setTop (mkF m 97 #[.val (.long p1), .second, .val (.int p2), .val (.int p3), .val (.ref b1), .val (.int (Int32.ofNat q0)), .unset, .unset, .unset] [(.int p3), (.int (Int32.ofNat q0))]))
  refine go (fun _ kont => X17.ldcInt hx hown (mvT hZ (hw _ (List.mem_of_getElem? (i := 1) rfl))) (g := (mkF m 97 #[.val (.long p1), .second, .val (.int p2), .val (.int p3), .val (.ref b1), .val (.int (Int32.ofNat q0)), .unset, .unset, .unset] [(.int p3), (.int (Int32.ofNat q0))])) rfl (hb hby at_97) _ kont) ?_
  show G (T17.setTop (mkF m 99 #[.val (.long p1), .second, .val (.int p2), .val (.int p3), .val (.ref b1), .val (.int (Int32.ofNat q0)), .unset, .unset, .unset] [(.int (2147483647 : Int32)), (.int p3), (.int (Int32.ofNat q0))]))
  refine go (fun _ kont => XS.iand X17.here hx rfl (hb hby at_99) rfl kont) ?_
  show G (T17.setTop (mkF m 100 #[.val (.long p1), .second, .val (.int p2), .val (.int p3), .val (.ref b1), .val (.int (Int32.ofNat q0)), .unset, .unset, .unset] [(.int (p3 &&& (2147483647 : Int32))), (.int (Int32.ofNat q0))]))
  refine go (fun _ kont => XS.bipush X17.here hx rfl (hb hby at_100) kont) ?_
  show G (T17.setTop (mkF m 102 #[.val (.long p1), .second, .val (.int p2), .val (.int p3), .val (.ref b1), .val (.int (Int32.ofNat q0)), .unset, .unset, .unset] [(.int (9 : Int32)), (.int (p3 &&& (2147483647 : Int32))), (.int (Int32.ofNat q0))]))
  refine go (fun _ kont => XS.iload X17.here hx rfl (hb hby at_102) rfl  kont) ?_
  show G (T17.setTop (mkF m 104 #[.val (.long p1), .second, .val (.int p2), .val (.int p3), .val (.ref b1), .val (.int (Int32.ofNat q0)), .unset, .unset, .unset] [(.int (Int32.ofNat q0)), (.int (9 : Int32)), (.int (p3 &&& (2147483647 : Int32))), (.int (Int32.ofNat q0))]))
  refine go (fun _ kont => XS.isub X17.here hx rfl (hb hby at_104) rfl kont) ?_
  show G (T17.setTop (mkF m 105 #[.val (.long p1), .second, .val (.int p2), .val (.int p3), .val (.ref b1), .val (.int (Int32.ofNat q0)), .unset, .unset, .unset] [(.int ((9 : Int32) - (Int32.ofNat q0))), (.int (p3 &&& (2147483647 : Int32))), (.int (Int32.ofNat q0))]))
  rw [show (9 : Int32) - Int32.ofNat q0 = Int32.ofNat (9 - q0) from own_subk (p := 9) (k := q0) (by omega)]
  show G (T17.setTop (mkF m 105 #[.val (.long p1), .second, .val (.int p2), .val (.int p3), .val (.ref b1), .val (.int (Int32.ofNat q0)), .unset, .unset, .unset] [(.int (Int32.ofNat (9 - q0))), (.int (p3 &&& (2147483647 : Int32))), (.int (Int32.ofNat q0))]))
  have hnz : Int32.ofNat (9 - q0) ≠ 0 := fun z => absurd ((own_eqO (d := 9 - q0) (k := 0) (by omega) (by omega)).mp z) (by omega)
  refine go (fun _ kont => XS.irem X17.here hx rfl (hb hby at_105) rfl hnz kont) ?_
  show G (T17.setTop (mkF m 106 #[.val (.long p1), .second, .val (.int p2), .val (.int p3), .val (.ref b1), .val (.int (Int32.ofNat q0)), .unset, .unset, .unset] [(.int ((p3 &&& (2147483647 : Int32)) - ((p3 &&& (2147483647 : Int32)) / (Int32.ofNat (9 - q0))) * (Int32.ofNat (9 - q0)))), (.int (Int32.ofNat q0))]))
  refine go (fun _ kont => XS.iadd X17.here hx rfl (hb hby at_106) rfl kont) ?_
  show G (T17.setTop (mkF m 107 #[.val (.long p1), .second, .val (.int p2), .val (.int p3), .val (.ref b1), .val (.int (Int32.ofNat q0)), .unset, .unset, .unset] [(.int ((Int32.ofNat q0) + ((p3 &&& (2147483647 : Int32)) - ((p3 &&& (2147483647 : Int32)) / (Int32.ofNat (9 - q0))) * (Int32.ofNat (9 - q0)))))]))
  obtain ⟨r0, hr0, er0⟩ := own_start p3 (Int32.ofNat (9 - q0)) (9 - q0) (own_ofN (by omega)) (by omega)
  rw [er0, own_addk]
  show G (T17.setTop (mkF m 107 #[.val (.long p1), .second, .val (.int p2), .val (.int p3), .val (.ref b1), .val (.int (Int32.ofNat q0)), .unset, .unset, .unset] [(.int (Int32.ofNat (q0 + r0)))]))
  obtain ⟨xs, hxs⟩ : ∃ xs : List Int32, xs = [(nar .byte p1.toInt32.toInt8.toInt32), (nar .byte (((p1.toUInt64 >>> ((8 : Int32) &&& 0x3f).toInt64.toUInt64).toInt64).toInt32).toInt8.toInt32), (nar .byte (((p1.toUInt64 >>> ((16 : Int32) &&& 0x3f).toInt64.toUInt64).toInt64).toInt32).toInt8.toInt32), (nar .byte (((p1.toUInt64 >>> ((24 : Int32) &&& 0x3f).toInt64.toUInt64).toInt64).toInt32).toInt8.toInt32), (nar .byte (((p1.toUInt64 >>> ((32 : Int32) &&& 0x3f).toInt64.toUInt64).toInt64).toInt32).toInt8.toInt32), (nar .byte (((p1.toUInt64 >>> ((40 : Int32) &&& 0x3f).toInt64.toUInt64).toInt64).toInt32).toInt8.toInt32), (nar .byte (((p1.toUInt64 >>> ((48 : Int32) &&& 0x3f).toInt64.toUInt64).toInt64).toInt32).toInt8.toInt32), (nar .byte (((p1.toUInt64 >>> ((56 : Int32) &&& 0x3f).toInt64.toUInt64).toInt64).toInt32).toInt8.toInt32)] := ⟨_, rfl⟩
  have hxl : xs.length = 8 := by rw [hxs]; rfl
  have VX : own_V Z h17 b1 .byte (xs.map Value.int) := by rw [hxs]; exact V17
  obtain ⟨e8, he8'⟩ : ∃ e8, e8 = q0 + r0 := ⟨_, rfl⟩
  have he8 : e8 ≤ 8 := by omega
  rw [← he8']
  show G (T17.setTop (mkF m 107 #[.val (.long p1), .second, .val (.int p2), .val (.int p3), .val (.ref b1), .val (.int (Int32.ofNat q0)), .unset, .unset, .unset] [(.int (Int32.ofNat e8))]))
  have ho0 : ∀ p, some q0 = some p → p ≤ e8 := fun p z => by cases z; omega
  refine go (fun _ kont => XS.istore X17.here hx rfl (hb hby at_107) rfl (l' := #[.val (.long p1), .second, .val (.int p2), .val (.int p3), .val (.ref b1), .val (.int (Int32.ofNat q0)), .val (.int (Int32.ofNat e8)), .unset, .unset]) rfl kont) ?_
  show G (T17.setTop (mkF m 109 #[.val (.long p1), .second, .val (.int p2), .val (.int p3), .val (.ref b1), .val (.int (Int32.ofNat q0)), .val (.int (Int32.ofNat e8)), .unset, .unset] []))
  refine go (fun _ kont => XS.iload X17.here hx rfl (hb hby at_109) rfl  kont) ?_
  show G (T17.setTop (mkF m 111 #[.val (.long p1), .second, .val (.int p2), .val (.int p3), .val (.ref b1), .val (.int (Int32.ofNat q0)), .val (.int (Int32.ofNat e8)), .unset, .unset] [(.int (Int32.ofNat q0))]))
  refine go (fun _ kont => XS.istore X17.here hx rfl (hb hby at_111) rfl (l' := #[.val (.long p1), .second, .val (.int p2), .val (.int p3), .val (.ref b1), .val (.int (Int32.ofNat q0)), .val (.int (Int32.ofNat e8)), .val (.int (Int32.ofNat q0)), .unset]) rfl kont) ?_
  show G (T17.setTop (mkF m 113 #[.val (.long p1), .second, .val (.int p2), .val (.int p3), .val (.ref b1), .val (.int (Int32.ofNat q0)), .val (.int (Int32.ofNat e8)), .val (.int (Int32.ofNat q0)), .unset] []))
  refine go (fun _ kont => XS.aload X17.here hx rfl (hb hby at_113) rfl rfl kont) ?_
  show G (T17.setTop (mkF m 115 #[.val (.long p1), .second, .val (.int p2), .val (.int p3), .val (.ref b1), .val (.int (Int32.ofNat q0)), .val (.int (Int32.ofNat e8)), .val (.int (Int32.ofNat q0)), .unset] [(.ref b1)]))
  refine go (fun _ kont => XS.iload X17.here hx rfl (hb hby at_115) rfl  kont) ?_
  show G (T17.setTop (mkF m 117 #[.val (.long p1), .second, .val (.int p2), .val (.int p3), .val (.ref b1), .val (.int (Int32.ofNat q0)), .val (.int (Int32.ofNat e8)), .val (.int (Int32.ofNat q0)), .unset] [(.int (Int32.ofNat q0)), (.ref b1)]))
  refine go (fun _ kont => XS.iload X17.here hx rfl (hb hby at_117) rfl  kont) ?_
  show G (T17.setTop (mkF m 119 #[.val (.long p1), .second, .val (.int p2), .val (.int p3), .val (.ref b1), .val (.int (Int32.ofNat q0)), .val (.int (Int32.ofNat e8)), .val (.int (Int32.ofNat q0)), .unset] [(.int (Int32.ofNat e8)), (.int (Int32.ofNat q0)), (.ref b1)]))
  obtain ⟨_, _, ⟨T18, L18, k18, n18⟩, -, X18, ⟨Lc18, hQ18, l18, y18, z18⟩, st18⟩ := Jvm.LawKit.callS X17 hx (y := (⟨"com/example/ansehen/ansehen/util/Utf8IsTextPinLaw", "step", "([BII)I"⟩ : MethodName)) hown (mvT hZ (hw _ (List.mem_of_getElem? (i := 2) rfl))) (mvT hZ (hw _ (List.mem_of_getElem? (i := 3) rfl))) (mvT hZ (hw _ (List.mem_of_getElem? (i := 4) rfl))) (mvT hZ (hw _ (List.mem_of_getElem? (i := 5) rfl))) (by decide) (backOf (W := 0) (own_rm_step l Z a0 hw [] b1 (Int32.ofNat q0) h17 n0 Z17 xs hxl VX e8 he8 (some q0) ho0 rfl) hZ (hw _ (List.mem_of_getElem? (i := 5) rfl)) (hw _ (List.mem_of_getElem? (i := 4) rfl)) (by decide) (by decide)) (g := (mkF m 119 #[.val (.long p1), .second, .val (.int p2), .val (.int p3), .val (.ref b1), .val (.int (Int32.ofNat q0)), .val (.int (Int32.ofNat e8)), .val (.int (Int32.ofNat q0)), .unset] [(.int (Int32.ofNat e8)), (.int (Int32.ofNat q0)), (.ref b1)])) rfl (by rw [hml]; rfl) (argsL := [(.ref b1), (.int (Int32.ofNat q0)), (.int (Int32.ofNat e8))]) (rest := []) (lenOf own_pd0 rfl) rfl (by show 2 * 0 + _ ≤ _; exact Nat.le_of_eq rfl) (hb hby at_119) (fun _ _ => ⟨rfl, e17, (by decide : 1 + 0 ≤ _), (by decide : 8 + 0 ≤ _)⟩)
  dsimp only [Pt.U, Pt.locs, Pt.cells, Pt.slots] at X18 l18 y18 z18 st18 hQ18
  obtain ⟨rfl, N18q, e18⟩ := hQ18
  have N18 : Fr n0 L18 := by rw [l18]; exact Fr.app N17 N18q
  rw [show k18 = 1 from y18, show n18 = 8 from z18] at X18
  refine go st18 ?_
  show G (T18.setTop (mkF m 122 #[.val (.long p1), .second, .val (.int p2), .val (.int p3), .val (.ref b1), .val (.int (Int32.ofNat q0)), .val (.int (Int32.ofNat e8)), .val (.int (Int32.ofNat q0)), .unset] [(.int (own_enc (own_st xs e8 (some q0))))]))
  have ho1 : ∀ p, (own_st xs e8 (some q0)) = some p → p ≤ e8 := own_st_le ho0
  refine go (fun _ kont => XS.istore X18.here hx rfl (hb hby at_122) rfl (l' := #[.val (.long p1), .second, .val (.int p2), .val (.int p3), .val (.ref b1), .val (.int (Int32.ofNat q0)), .val (.int (Int32.ofNat e8)), .val (.int (own_enc (own_st xs e8 (some q0)))), .unset]) rfl kont) ?_
  show G (T18.setTop (mkF m 124 #[.val (.long p1), .second, .val (.int p2), .val (.int p3), .val (.ref b1), .val (.int (Int32.ofNat q0)), .val (.int (Int32.ofNat e8)), .val (.int (own_enc (own_st xs e8 (some q0)))), .unset] []))
  refine go (fun _ kont => XS.aload X18.here hx rfl (hb hby at_124) rfl rfl kont) ?_
  show G (T18.setTop (mkF m 126 #[.val (.long p1), .second, .val (.int p2), .val (.int p3), .val (.ref b1), .val (.int (Int32.ofNat q0)), .val (.int (Int32.ofNat e8)), .val (.int (own_enc (own_st xs e8 (some q0)))), .unset] [(.ref b1)]))
  refine go (fun _ kont => XS.iload X18.here hx rfl (hb hby at_126) rfl  kont) ?_
  show G (T18.setTop (mkF m 128 #[.val (.long p1), .second, .val (.int p2), .val (.int p3), .val (.ref b1), .val (.int (Int32.ofNat q0)), .val (.int (Int32.ofNat e8)), .val (.int (own_enc (own_st xs e8 (some q0)))), .unset] [(.int (own_enc (own_st xs e8 (some q0)))), (.ref b1)]))
  refine go (fun _ kont => XS.iload X18.here hx rfl (hb hby at_128) rfl  kont) ?_
  show G (T18.setTop (mkF m 130 #[.val (.long p1), .second, .val (.int p2), .val (.int p3), .val (.ref b1), .val (.int (Int32.ofNat q0)), .val (.int (Int32.ofNat e8)), .val (.int (own_enc (own_st xs e8 (some q0)))), .unset] [(.int (Int32.ofNat e8)), (.int (own_enc (own_st xs e8 (some q0)))), (.ref b1)]))
  obtain ⟨_, _, ⟨T19, L19, k19, n19⟩, -, X19, ⟨Lc19, hQ19, l19, y19, z19⟩, st19⟩ := Jvm.LawKit.callS X18 hx (y := (⟨"com/example/ansehen/ansehen/util/Utf8IsTextPinLaw", "step", "([BII)I"⟩ : MethodName)) hown (mvT hZ (hw _ (List.mem_of_getElem? (i := 2) rfl))) (mvT hZ (hw _ (List.mem_of_getElem? (i := 3) rfl))) (mvT hZ (hw _ (List.mem_of_getElem? (i := 4) rfl))) (mvT hZ (hw _ (List.mem_of_getElem? (i := 5) rfl))) (by decide) (backOf (W := 0) (own_rm_step l Z a0 hw [] b1 (own_enc (own_st xs e8 (some q0))) h17 n0 Z17 xs hxl VX e8 he8 (own_st xs e8 (some q0)) ho1 rfl) hZ (hw _ (List.mem_of_getElem? (i := 5) rfl)) (hw _ (List.mem_of_getElem? (i := 4) rfl)) (by decide) (by decide)) (g := (mkF m 130 #[.val (.long p1), .second, .val (.int p2), .val (.int p3), .val (.ref b1), .val (.int (Int32.ofNat q0)), .val (.int (Int32.ofNat e8)), .val (.int (own_enc (own_st xs e8 (some q0)))), .unset] [(.int (Int32.ofNat e8)), (.int (own_enc (own_st xs e8 (some q0)))), (.ref b1)])) rfl (by rw [hml]; rfl) (argsL := [(.ref b1), (.int (own_enc (own_st xs e8 (some q0)))), (.int (Int32.ofNat e8))]) (rest := []) (lenOf own_pd0 rfl) rfl (by show 2 * 0 + _ ≤ _; exact Nat.le_of_eq rfl) (hb hby at_130) (fun _ _ => ⟨rfl, e18, (by decide : 1 + 0 ≤ _), (by decide : 8 + 0 ≤ _)⟩)
  dsimp only [Pt.U, Pt.locs, Pt.cells, Pt.slots] at X19 l19 y19 z19 st19 hQ19
  obtain ⟨rfl, N19q, e19⟩ := hQ19
  have N19 : Fr n0 L19 := by rw [l19]; exact Fr.app N18 N19q
  rw [show k19 = 1 from y19, show n19 = 8 from z19] at X19
  refine go st19 ?_
  show G (T19.setTop (mkF m 133 #[.val (.long p1), .second, .val (.int p2), .val (.int p3), .val (.ref b1), .val (.int (Int32.ofNat q0)), .val (.int (Int32.ofNat e8)), .val (.int (own_enc (own_st xs e8 (some q0)))), .unset] [(.int (own_enc (own_st xs e8 (own_st xs e8 (some q0)))))]))
  have ho2 : ∀ p, (own_st xs e8 (own_st xs e8 (some q0))) = some p → p ≤ e8 := own_st_le ho1
  refine go (fun _ kont => XS.istore X19.here hx rfl (hb hby at_133) rfl (l' := #[.val (.long p1), .second, .val (.int p2), .val (.int p3), .val (.ref b1), .val (.int (Int32.ofNat q0)), .val (.int (Int32.ofNat e8)), .val (.int (own_enc (own_st xs e8 (own_st xs e8 (some q0))))), .unset]) rfl kont) ?_
  show G (T19.setTop (mkF m 135 #[.val (.long p1), .second, .val (.int p2), .val (.int p3), .val (.ref b1), .val (.int (Int32.ofNat q0)), .val (.int (Int32.ofNat e8)), .val (.int (own_enc (own_st xs e8 (own_st xs e8 (some q0))))), .unset] []))
  refine go (fun _ kont => XS.aload X19.here hx rfl (hb hby at_135) rfl rfl kont) ?_
  show G (T19.setTop (mkF m 137 #[.val (.long p1), .second, .val (.int p2), .val (.int p3), .val (.ref b1), .val (.int (Int32.ofNat q0)), .val (.int (Int32.ofNat e8)), .val (.int (own_enc (own_st xs e8 (own_st xs e8 (some q0))))), .unset] [(.ref b1)]))
  refine go (fun _ kont => XS.iload X19.here hx rfl (hb hby at_137) rfl  kont) ?_
  show G (T19.setTop (mkF m 139 #[.val (.long p1), .second, .val (.int p2), .val (.int p3), .val (.ref b1), .val (.int (Int32.ofNat q0)), .val (.int (Int32.ofNat e8)), .val (.int (own_enc (own_st xs e8 (own_st xs e8 (some q0))))), .unset] [(.int (own_enc (own_st xs e8 (own_st xs e8 (some q0))))), (.ref b1)]))
  refine go (fun _ kont => XS.iload X19.here hx rfl (hb hby at_139) rfl  kont) ?_
  show G (T19.setTop (mkF m 141 #[.val (.long p1), .second, .val (.int p2), .val (.int p3), .val (.ref b1), .val (.int (Int32.ofNat q0)), .val (.int (Int32.ofNat e8)), .val (.int (own_enc (own_st xs e8 (own_st xs e8 (some q0))))), .unset] [(.int (Int32.ofNat e8)), (.int (own_enc (own_st xs e8 (own_st xs e8 (some q0))))), (.ref b1)]))
  obtain ⟨_, _, ⟨T20, L20, k20, n20⟩, -, X20, ⟨Lc20, hQ20, l20, y20, z20⟩, st20⟩ := Jvm.LawKit.callS X19 hx (y := (⟨"com/example/ansehen/ansehen/util/Utf8IsTextPinLaw", "step", "([BII)I"⟩ : MethodName)) hown (mvT hZ (hw _ (List.mem_of_getElem? (i := 2) rfl))) (mvT hZ (hw _ (List.mem_of_getElem? (i := 3) rfl))) (mvT hZ (hw _ (List.mem_of_getElem? (i := 4) rfl))) (mvT hZ (hw _ (List.mem_of_getElem? (i := 5) rfl))) (by decide) (backOf (W := 0) (own_rm_step l Z a0 hw [] b1 (own_enc (own_st xs e8 (own_st xs e8 (some q0)))) h17 n0 Z17 xs hxl VX e8 he8 (own_st xs e8 (own_st xs e8 (some q0))) ho2 rfl) hZ (hw _ (List.mem_of_getElem? (i := 5) rfl)) (hw _ (List.mem_of_getElem? (i := 4) rfl)) (by decide) (by decide)) (g := (mkF m 141 #[.val (.long p1), .second, .val (.int p2), .val (.int p3), .val (.ref b1), .val (.int (Int32.ofNat q0)), .val (.int (Int32.ofNat e8)), .val (.int (own_enc (own_st xs e8 (own_st xs e8 (some q0))))), .unset] [(.int (Int32.ofNat e8)), (.int (own_enc (own_st xs e8 (own_st xs e8 (some q0))))), (.ref b1)])) rfl (by rw [hml]; rfl) (argsL := [(.ref b1), (.int (own_enc (own_st xs e8 (own_st xs e8 (some q0))))), (.int (Int32.ofNat e8))]) (rest := []) (lenOf own_pd0 rfl) rfl (by show 2 * 0 + _ ≤ _; exact Nat.le_of_eq rfl) (hb hby at_141) (fun _ _ => ⟨rfl, e19, (by decide : 1 + 0 ≤ _), (by decide : 8 + 0 ≤ _)⟩)
  dsimp only [Pt.U, Pt.locs, Pt.cells, Pt.slots] at X20 l20 y20 z20 st20 hQ20
  obtain ⟨rfl, N20q, e20⟩ := hQ20
  have N20 : Fr n0 L20 := by rw [l20]; exact Fr.app N19 N20q
  rw [show k20 = 1 from y20, show n20 = 8 from z20] at X20
  refine go st20 ?_
  show G (T20.setTop (mkF m 144 #[.val (.long p1), .second, .val (.int p2), .val (.int p3), .val (.ref b1), .val (.int (Int32.ofNat q0)), .val (.int (Int32.ofNat e8)), .val (.int (own_enc (own_st xs e8 (own_st xs e8 (some q0))))), .unset] [(.int (own_enc (own_st xs e8 (own_st xs e8 (own_st xs e8 (some q0))))))]))
  have ho3 : ∀ p, (own_st xs e8 (own_st xs e8 (own_st xs e8 (some q0)))) = some p → p ≤ e8 := own_st_le ho2
  refine go (fun _ kont => XS.istore X20.here hx rfl (hb hby at_144) rfl (l' := #[.val (.long p1), .second, .val (.int p2), .val (.int p3), .val (.ref b1), .val (.int (Int32.ofNat q0)), .val (.int (Int32.ofNat e8)), .val (.int (own_enc (own_st xs e8 (own_st xs e8 (own_st xs e8 (some q0)))))), .unset]) rfl kont) ?_
  show G (T20.setTop (mkF m 146 #[.val (.long p1), .second, .val (.int p2), .val (.int p3), .val (.ref b1), .val (.int (Int32.ofNat q0)), .val (.int (Int32.ofNat e8)), .val (.int (own_enc (own_st xs e8 (own_st xs e8 (own_st xs e8 (some q0)))))), .unset] []))
  refine go (fun _ kont => XS.aload X20.here hx rfl (hb hby at_146) rfl rfl kont) ?_
  show G (T20.setTop (mkF m 148 #[.val (.long p1), .second, .val (.int p2), .val (.int p3), .val (.ref b1), .val (.int (Int32.ofNat q0)), .val (.int (Int32.ofNat e8)), .val (.int (own_enc (own_st xs e8 (own_st xs e8 (own_st xs e8 (some q0)))))), .unset] [(.ref b1)]))
  refine go (fun _ kont => XS.iload X20.here hx rfl (hb hby at_148) rfl  kont) ?_
  show G (T20.setTop (mkF m 150 #[.val (.long p1), .second, .val (.int p2), .val (.int p3), .val (.ref b1), .val (.int (Int32.ofNat q0)), .val (.int (Int32.ofNat e8)), .val (.int (own_enc (own_st xs e8 (own_st xs e8 (own_st xs e8 (some q0)))))), .unset] [(.int (own_enc (own_st xs e8 (own_st xs e8 (own_st xs e8 (some q0)))))), (.ref b1)]))
  refine go (fun _ kont => XS.iload X20.here hx rfl (hb hby at_150) rfl  kont) ?_
  show G (T20.setTop (mkF m 152 #[.val (.long p1), .second, .val (.int p2), .val (.int p3), .val (.ref b1), .val (.int (Int32.ofNat q0)), .val (.int (Int32.ofNat e8)), .val (.int (own_enc (own_st xs e8 (own_st xs e8 (own_st xs e8 (some q0)))))), .unset] [(.int (Int32.ofNat e8)), (.int (own_enc (own_st xs e8 (own_st xs e8 (own_st xs e8 (some q0)))))), (.ref b1)]))
  obtain ⟨_, _, ⟨T21, L21, k21, n21⟩, -, X21, ⟨Lc21, hQ21, l21, y21, z21⟩, st21⟩ := Jvm.LawKit.callS X20 hx (y := (⟨"com/example/ansehen/ansehen/util/Utf8IsTextPinLaw", "step", "([BII)I"⟩ : MethodName)) hown (mvT hZ (hw _ (List.mem_of_getElem? (i := 2) rfl))) (mvT hZ (hw _ (List.mem_of_getElem? (i := 3) rfl))) (mvT hZ (hw _ (List.mem_of_getElem? (i := 4) rfl))) (mvT hZ (hw _ (List.mem_of_getElem? (i := 5) rfl))) (by decide) (backOf (W := 0) (own_rm_step l Z a0 hw [] b1 (own_enc (own_st xs e8 (own_st xs e8 (own_st xs e8 (some q0))))) h17 n0 Z17 xs hxl VX e8 he8 (own_st xs e8 (own_st xs e8 (own_st xs e8 (some q0)))) ho3 rfl) hZ (hw _ (List.mem_of_getElem? (i := 5) rfl)) (hw _ (List.mem_of_getElem? (i := 4) rfl)) (by decide) (by decide)) (g := (mkF m 152 #[.val (.long p1), .second, .val (.int p2), .val (.int p3), .val (.ref b1), .val (.int (Int32.ofNat q0)), .val (.int (Int32.ofNat e8)), .val (.int (own_enc (own_st xs e8 (own_st xs e8 (own_st xs e8 (some q0)))))), .unset] [(.int (Int32.ofNat e8)), (.int (own_enc (own_st xs e8 (own_st xs e8 (own_st xs e8 (some q0)))))), (.ref b1)])) rfl (by rw [hml]; rfl) (argsL := [(.ref b1), (.int (own_enc (own_st xs e8 (own_st xs e8 (own_st xs e8 (some q0)))))), (.int (Int32.ofNat e8))]) (rest := []) (lenOf own_pd0 rfl) rfl (by show 2 * 0 + _ ≤ _; exact Nat.le_of_eq rfl) (hb hby at_152) (fun _ _ => ⟨rfl, e20, (by decide : 1 + 0 ≤ _), (by decide : 8 + 0 ≤ _)⟩)
  dsimp only [Pt.U, Pt.locs, Pt.cells, Pt.slots] at X21 l21 y21 z21 st21 hQ21
  obtain ⟨rfl, N21q, e21⟩ := hQ21
  have N21 : Fr n0 L21 := by rw [l21]; exact Fr.app N20 N21q
  rw [show k21 = 1 from y21, show n21 = 8 from z21] at X21
  refine go st21 ?_
  show G (T21.setTop (mkF m 155 #[.val (.long p1), .second, .val (.int p2), .val (.int p3), .val (.ref b1), .val (.int (Int32.ofNat q0)), .val (.int (Int32.ofNat e8)), .val (.int (own_enc (own_st xs e8 (own_st xs e8 (own_st xs e8 (some q0)))))), .unset] [(.int (own_enc (own_st xs e8 (own_st xs e8 (own_st xs e8 (own_st xs e8 (some q0)))))))]))
  have ho4 : ∀ p, (own_st xs e8 (own_st xs e8 (own_st xs e8 (own_st xs e8 (some q0))))) = some p → p ≤ e8 := own_st_le ho3
  refine go (fun _ kont => XS.istore X21.here hx rfl (hb hby at_155) rfl (l' := #[.val (.long p1), .second, .val (.int p2), .val (.int p3), .val (.ref b1), .val (.int (Int32.ofNat q0)), .val (.int (Int32.ofNat e8)), .val (.int (own_enc (own_st xs e8 (own_st xs e8 (own_st xs e8 (own_st xs e8 (some q0))))))), .unset]) rfl kont) ?_
  show G (T21.setTop (mkF m 157 #[.val (.long p1), .second, .val (.int p2), .val (.int p3), .val (.ref b1), .val (.int (Int32.ofNat q0)), .val (.int (Int32.ofNat e8)), .val (.int (own_enc (own_st xs e8 (own_st xs e8 (own_st xs e8 (own_st xs e8 (some q0))))))), .unset] []))
  refine go (fun _ kont => XS.aload X21.here hx rfl (hb hby at_157) rfl rfl kont) ?_
  show G (T21.setTop (mkF m 159 #[.val (.long p1), .second, .val (.int p2), .val (.int p3), .val (.ref b1), .val (.int (Int32.ofNat q0)), .val (.int (Int32.ofNat e8)), .val (.int (own_enc (own_st xs e8 (own_st xs e8 (own_st xs e8 (own_st xs e8 (some q0))))))), .unset] [(.ref b1)]))
  refine go (fun _ kont => XS.iload X21.here hx rfl (hb hby at_159) rfl  kont) ?_
  show G (T21.setTop (mkF m 161 #[.val (.long p1), .second, .val (.int p2), .val (.int p3), .val (.ref b1), .val (.int (Int32.ofNat q0)), .val (.int (Int32.ofNat e8)), .val (.int (own_enc (own_st xs e8 (own_st xs e8 (own_st xs e8 (own_st xs e8 (some q0))))))), .unset] [(.int (own_enc (own_st xs e8 (own_st xs e8 (own_st xs e8 (own_st xs e8 (some q0))))))), (.ref b1)]))
  refine go (fun _ kont => XS.iload X21.here hx rfl (hb hby at_161) rfl  kont) ?_
  show G (T21.setTop (mkF m 163 #[.val (.long p1), .second, .val (.int p2), .val (.int p3), .val (.ref b1), .val (.int (Int32.ofNat q0)), .val (.int (Int32.ofNat e8)), .val (.int (own_enc (own_st xs e8 (own_st xs e8 (own_st xs e8 (own_st xs e8 (some q0))))))), .unset] [(.int (Int32.ofNat e8)), (.int (own_enc (own_st xs e8 (own_st xs e8 (own_st xs e8 (own_st xs e8 (some q0))))))), (.ref b1)]))
  obtain ⟨_, _, ⟨T22, L22, k22, n22⟩, -, X22, ⟨Lc22, hQ22, l22, y22, z22⟩, st22⟩ := Jvm.LawKit.callS X21 hx (y := (⟨"com/example/ansehen/ansehen/util/Utf8IsTextPinLaw", "step", "([BII)I"⟩ : MethodName)) hown (mvT hZ (hw _ (List.mem_of_getElem? (i := 2) rfl))) (mvT hZ (hw _ (List.mem_of_getElem? (i := 3) rfl))) (mvT hZ (hw _ (List.mem_of_getElem? (i := 4) rfl))) (mvT hZ (hw _ (List.mem_of_getElem? (i := 5) rfl))) (by decide) (backOf (W := 0) (own_rm_step l Z a0 hw [] b1 (own_enc (own_st xs e8 (own_st xs e8 (own_st xs e8 (own_st xs e8 (some q0)))))) h17 n0 Z17 xs hxl VX e8 he8 (own_st xs e8 (own_st xs e8 (own_st xs e8 (own_st xs e8 (some q0))))) ho4 rfl) hZ (hw _ (List.mem_of_getElem? (i := 5) rfl)) (hw _ (List.mem_of_getElem? (i := 4) rfl)) (by decide) (by decide)) (g := (mkF m 163 #[.val (.long p1), .second, .val (.int p2), .val (.int p3), .val (.ref b1), .val (.int (Int32.ofNat q0)), .val (.int (Int32.ofNat e8)), .val (.int (own_enc (own_st xs e8 (own_st xs e8 (own_st xs e8 (own_st xs e8 (some q0))))))), .unset] [(.int (Int32.ofNat e8)), (.int (own_enc (own_st xs e8 (own_st xs e8 (own_st xs e8 (own_st xs e8 (some q0))))))), (.ref b1)])) rfl (by rw [hml]; rfl) (argsL := [(.ref b1), (.int (own_enc (own_st xs e8 (own_st xs e8 (own_st xs e8 (own_st xs e8 (some q0))))))), (.int (Int32.ofNat e8))]) (rest := []) (lenOf own_pd0 rfl) rfl (by show 2 * 0 + _ ≤ _; exact Nat.le_of_eq rfl) (hb hby at_163) (fun _ _ => ⟨rfl, e21, (by decide : 1 + 0 ≤ _), (by decide : 8 + 0 ≤ _)⟩)
  dsimp only [Pt.U, Pt.locs, Pt.cells, Pt.slots] at X22 l22 y22 z22 st22 hQ22
  obtain ⟨rfl, N22q, e22⟩ := hQ22
  have N22 : Fr n0 L22 := by rw [l22]; exact Fr.app N21 N22q
  rw [show k22 = 1 from y22, show n22 = 8 from z22] at X22
  refine go st22 ?_
  show G (T22.setTop (mkF m 166 #[.val (.long p1), .second, .val (.int p2), .val (.int p3), .val (.ref b1), .val (.int (Int32.ofNat q0)), .val (.int (Int32.ofNat e8)), .val (.int (own_enc (own_st xs e8 (own_st xs e8 (own_st xs e8 (own_st xs e8 (some q0))))))), .unset] [(.int (own_enc (own_st xs e8 (own_st xs e8 (own_st xs e8 (own_st xs e8 (own_st xs e8 (some q0))))))))]))
  have ho5 : ∀ p, (own_st xs e8 (own_st xs e8 (own_st xs e8 (own_st xs e8 (own_st xs e8 (some q0)))))) = some p → p ≤ e8 := own_st_le ho4
  refine go (fun _ kont => XS.istore X22.here hx rfl (hb hby at_166) rfl (l' := #[.val (.long p1), .second, .val (.int p2), .val (.int p3), .val (.ref b1), .val (.int (Int32.ofNat q0)), .val (.int (Int32.ofNat e8)), .val (.int (own_enc (own_st xs e8 (own_st xs e8 (own_st xs e8 (own_st xs e8 (own_st xs e8 (some q0)))))))), .unset]) rfl kont) ?_
  show G (T22.setTop (mkF m 168 #[.val (.long p1), .second, .val (.int p2), .val (.int p3), .val (.ref b1), .val (.int (Int32.ofNat q0)), .val (.int (Int32.ofNat e8)), .val (.int (own_enc (own_st xs e8 (own_st xs e8 (own_st xs e8 (own_st xs e8 (own_st xs e8 (some q0)))))))), .unset] []))
  refine go (fun _ kont => XS.aload X22.here hx rfl (hb hby at_168) rfl rfl kont) ?_
  show G (T22.setTop (mkF m 170 #[.val (.long p1), .second, .val (.int p2), .val (.int p3), .val (.ref b1), .val (.int (Int32.ofNat q0)), .val (.int (Int32.ofNat e8)), .val (.int (own_enc (own_st xs e8 (own_st xs e8 (own_st xs e8 (own_st xs e8 (own_st xs e8 (some q0)))))))), .unset] [(.ref b1)]))
  refine go (fun _ kont => XS.iload X22.here hx rfl (hb hby at_170) rfl  kont) ?_
  show G (T22.setTop (mkF m 172 #[.val (.long p1), .second, .val (.int p2), .val (.int p3), .val (.ref b1), .val (.int (Int32.ofNat q0)), .val (.int (Int32.ofNat e8)), .val (.int (own_enc (own_st xs e8 (own_st xs e8 (own_st xs e8 (own_st xs e8 (own_st xs e8 (some q0)))))))), .unset] [(.int (own_enc (own_st xs e8 (own_st xs e8 (own_st xs e8 (own_st xs e8 (own_st xs e8 (some q0)))))))), (.ref b1)]))
  refine go (fun _ kont => XS.iload X22.here hx rfl (hb hby at_172) rfl  kont) ?_
  show G (T22.setTop (mkF m 174 #[.val (.long p1), .second, .val (.int p2), .val (.int p3), .val (.ref b1), .val (.int (Int32.ofNat q0)), .val (.int (Int32.ofNat e8)), .val (.int (own_enc (own_st xs e8 (own_st xs e8 (own_st xs e8 (own_st xs e8 (own_st xs e8 (some q0)))))))), .unset] [(.int (Int32.ofNat e8)), (.int (own_enc (own_st xs e8 (own_st xs e8 (own_st xs e8 (own_st xs e8 (own_st xs e8 (some q0)))))))), (.ref b1)]))
  obtain ⟨_, _, ⟨T23, L23, k23, n23⟩, -, X23, ⟨Lc23, hQ23, l23, y23, z23⟩, st23⟩ := Jvm.LawKit.callS X22 hx (y := (⟨"com/example/ansehen/ansehen/util/Utf8IsTextPinLaw", "step", "([BII)I"⟩ : MethodName)) hown (mvT hZ (hw _ (List.mem_of_getElem? (i := 2) rfl))) (mvT hZ (hw _ (List.mem_of_getElem? (i := 3) rfl))) (mvT hZ (hw _ (List.mem_of_getElem? (i := 4) rfl))) (mvT hZ (hw _ (List.mem_of_getElem? (i := 5) rfl))) (by decide) (backOf (W := 0) (own_rm_step l Z a0 hw [] b1 (own_enc (own_st xs e8 (own_st xs e8 (own_st xs e8 (own_st xs e8 (own_st xs e8 (some q0))))))) h17 n0 Z17 xs hxl VX e8 he8 (own_st xs e8 (own_st xs e8 (own_st xs e8 (own_st xs e8 (own_st xs e8 (some q0)))))) ho5 rfl) hZ (hw _ (List.mem_of_getElem? (i := 5) rfl)) (hw _ (List.mem_of_getElem? (i := 4) rfl)) (by decide) (by decide)) (g := (mkF m 174 #[.val (.long p1), .second, .val (.int p2), .val (.int p3), .val (.ref b1), .val (.int (Int32.ofNat q0)), .val (.int (Int32.ofNat e8)), .val (.int (own_enc (own_st xs e8 (own_st xs e8 (own_st xs e8 (own_st xs e8 (own_st xs e8 (some q0)))))))), .unset] [(.int (Int32.ofNat e8)), (.int (own_enc (own_st xs e8 (own_st xs e8 (own_st xs e8 (own_st xs e8 (own_st xs e8 (some q0)))))))), (.ref b1)])) rfl (by rw [hml]; rfl) (argsL := [(.ref b1), (.int (own_enc (own_st xs e8 (own_st xs e8 (own_st xs e8 (own_st xs e8 (own_st xs e8 (some q0)))))))), (.int (Int32.ofNat e8))]) (rest := []) (lenOf own_pd0 rfl) rfl (by show 2 * 0 + _ ≤ _; exact Nat.le_of_eq rfl) (hb hby at_174) (fun _ _ => ⟨rfl, e22, (by decide : 1 + 0 ≤ _), (by decide : 8 + 0 ≤ _)⟩)
  dsimp only [Pt.U, Pt.locs, Pt.cells, Pt.slots] at X23 l23 y23 z23 st23 hQ23
  obtain ⟨rfl, N23q, e23⟩ := hQ23
  have N23 : Fr n0 L23 := by rw [l23]; exact Fr.app N22 N23q
  rw [show k23 = 1 from y23, show n23 = 8 from z23] at X23
  refine go st23 ?_
  show G (T23.setTop (mkF m 177 #[.val (.long p1), .second, .val (.int p2), .val (.int p3), .val (.ref b1), .val (.int (Int32.ofNat q0)), .val (.int (Int32.ofNat e8)), .val (.int (own_enc (own_st xs e8 (own_st xs e8 (own_st xs e8 (own_st xs e8 (own_st xs e8 (some q0)))))))), .unset] [(.int (own_enc (own_st xs e8 (own_st xs e8 (own_st xs e8 (own_st xs e8 (own_st xs e8 (own_st xs e8 (some q0)))))))))]))
  have ho6 : ∀ p, (own_st xs e8 (own_st xs e8 (own_st xs e8 (own_st xs e8 (own_st xs e8 (own_st xs e8 (some q0))))))) = some p → p ≤ e8 := own_st_le ho5
  refine go (fun _ kont => XS.istore X23.here hx rfl (hb hby at_177) rfl (l' := #[.val (.long p1), .second, .val (.int p2), .val (.int p3), .val (.ref b1), .val (.int (Int32.ofNat q0)), .val (.int (Int32.ofNat e8)), .val (.int (own_enc (own_st xs e8 (own_st xs e8 (own_st xs e8 (own_st xs e8 (own_st xs e8 (own_st xs e8 (some q0))))))))), .unset]) rfl kont) ?_
  show G (T23.setTop (mkF m 179 #[.val (.long p1), .second, .val (.int p2), .val (.int p3), .val (.ref b1), .val (.int (Int32.ofNat q0)), .val (.int (Int32.ofNat e8)), .val (.int (own_enc (own_st xs e8 (own_st xs e8 (own_st xs e8 (own_st xs e8 (own_st xs e8 (own_st xs e8 (some q0))))))))), .unset] []))
  refine go (fun _ kont => XS.aload X23.here hx rfl (hb hby at_179) rfl rfl kont) ?_
  show G (T23.setTop (mkF m 181 #[.val (.long p1), .second, .val (.int p2), .val (.int p3), .val (.ref b1), .val (.int (Int32.ofNat q0)), .val (.int (Int32.ofNat e8)), .val (.int (own_enc (own_st xs e8 (own_st xs e8 (own_st xs e8 (own_st xs e8 (own_st xs e8 (own_st xs e8 (some q0))))))))), .unset] [(.ref b1)]))
  refine go (fun _ kont => XS.iload X23.here hx rfl (hb hby at_181) rfl  kont) ?_
  show G (T23.setTop (mkF m 183 #[.val (.long p1), .second, .val (.int p2), .val (.int p3), .val (.ref b1), .val (.int (Int32.ofNat q0)), .val (.int (Int32.ofNat e8)), .val (.int (own_enc (own_st xs e8 (own_st xs e8 (own_st xs e8 (own_st xs e8 (own_st xs e8 (own_st xs e8 (some q0))))))))), .unset] [(.int (own_enc (own_st xs e8 (own_st xs e8 (own_st xs e8 (own_st xs e8 (own_st xs e8 (own_st xs e8 (some q0))))))))), (.ref b1)]))
  refine go (fun _ kont => XS.iload X23.here hx rfl (hb hby at_183) rfl  kont) ?_
  show G (T23.setTop (mkF m 185 #[.val (.long p1), .second, .val (.int p2), .val (.int p3), .val (.ref b1), .val (.int (Int32.ofNat q0)), .val (.int (Int32.ofNat e8)), .val (.int (own_enc (own_st xs e8 (own_st xs e8 (own_st xs e8 (own_st xs e8 (own_st xs e8 (own_st xs e8 (some q0))))))))), .unset] [(.int (Int32.ofNat e8)), (.int (own_enc (own_st xs e8 (own_st xs e8 (own_st xs e8 (own_st xs e8 (own_st xs e8 (own_st xs e8 (some q0))))))))), (.ref b1)]))
  obtain ⟨_, _, ⟨T24, L24, k24, n24⟩, -, X24, ⟨Lc24, hQ24, l24, y24, z24⟩, st24⟩ := Jvm.LawKit.callS X23 hx (y := (⟨"com/example/ansehen/ansehen/util/Utf8IsTextPinLaw", "step", "([BII)I"⟩ : MethodName)) hown (mvT hZ (hw _ (List.mem_of_getElem? (i := 2) rfl))) (mvT hZ (hw _ (List.mem_of_getElem? (i := 3) rfl))) (mvT hZ (hw _ (List.mem_of_getElem? (i := 4) rfl))) (mvT hZ (hw _ (List.mem_of_getElem? (i := 5) rfl))) (by decide) (backOf (W := 0) (own_rm_step l Z a0 hw [] b1 (own_enc (own_st xs e8 (own_st xs e8 (own_st xs e8 (own_st xs e8 (own_st xs e8 (own_st xs e8 (some q0)))))))) h17 n0 Z17 xs hxl VX e8 he8 (own_st xs e8 (own_st xs e8 (own_st xs e8 (own_st xs e8 (own_st xs e8 (own_st xs e8 (some q0))))))) ho6 rfl) hZ (hw _ (List.mem_of_getElem? (i := 5) rfl)) (hw _ (List.mem_of_getElem? (i := 4) rfl)) (by decide) (by decide)) (g := (mkF m 185 #[.val (.long p1), .second, .val (.int p2), .val (.int p3), .val (.ref b1), .val (.int (Int32.ofNat q0)), .val (.int (Int32.ofNat e8)), .val (.int (own_enc (own_st xs e8 (own_st xs e8 (own_st xs e8 (own_st xs e8 (own_st xs e8 (own_st xs e8 (some q0))))))))), .unset] [(.int (Int32.ofNat e8)), (.int (own_enc (own_st xs e8 (own_st xs e8 (own_st xs e8 (own_st xs e8 (own_st xs e8 (own_st xs e8 (some q0))))))))), (.ref b1)])) rfl (by rw [hml]; rfl) (argsL := [(.ref b1), (.int (own_enc (own_st xs e8 (own_st xs e8 (own_st xs e8 (own_st xs e8 (own_st xs e8 (own_st xs e8 (some q0))))))))), (.int (Int32.ofNat e8))]) (rest := []) (lenOf own_pd0 rfl) rfl (by show 2 * 0 + _ ≤ _; exact Nat.le_of_eq rfl) (hb hby at_185) (fun _ _ => ⟨rfl, e23, (by decide : 1 + 0 ≤ _), (by decide : 8 + 0 ≤ _)⟩)
  dsimp only [Pt.U, Pt.locs, Pt.cells, Pt.slots] at X24 l24 y24 z24 st24 hQ24
  obtain ⟨rfl, N24q, e24⟩ := hQ24
  have N24 : Fr n0 L24 := by rw [l24]; exact Fr.app N23 N24q
  rw [show k24 = 1 from y24, show n24 = 8 from z24] at X24
  refine go st24 ?_
  show G (T24.setTop (mkF m 188 #[.val (.long p1), .second, .val (.int p2), .val (.int p3), .val (.ref b1), .val (.int (Int32.ofNat q0)), .val (.int (Int32.ofNat e8)), .val (.int (own_enc (own_st xs e8 (own_st xs e8 (own_st xs e8 (own_st xs e8 (own_st xs e8 (own_st xs e8 (some q0))))))))), .unset] [(.int (own_enc (own_st xs e8 (own_st xs e8 (own_st xs e8 (own_st xs e8 (own_st xs e8 (own_st xs e8 (own_st xs e8 (some q0))))))))))]))
  have ho7 : ∀ p, (own_st xs e8 (own_st xs e8 (own_st xs e8 (own_st xs e8 (own_st xs e8 (own_st xs e8 (own_st xs e8 (some q0)))))))) = some p → p ≤ e8 := own_st_le ho6
  refine go (fun _ kont => XS.istore X24.here hx rfl (hb hby at_188) rfl (l' := #[.val (.long p1), .second, .val (.int p2), .val (.int p3), .val (.ref b1), .val (.int (Int32.ofNat q0)), .val (.int (Int32.ofNat e8)), .val (.int (own_enc (own_st xs e8 (own_st xs e8 (own_st xs e8 (own_st xs e8 (own_st xs e8 (own_st xs e8 (own_st xs e8 (some q0)))))))))), .unset]) rfl kont) ?_
  show G (T24.setTop (mkF m 190 #[.val (.long p1), .second, .val (.int p2), .val (.int p3), .val (.ref b1), .val (.int (Int32.ofNat q0)), .val (.int (Int32.ofNat e8)), .val (.int (own_enc (own_st xs e8 (own_st xs e8 (own_st xs e8 (own_st xs e8 (own_st xs e8 (own_st xs e8 (own_st xs e8 (some q0)))))))))), .unset] []))
  refine go (fun _ kont => XS.aload X24.here hx rfl (hb hby at_190) rfl rfl kont) ?_
  show G (T24.setTop (mkF m 192 #[.val (.long p1), .second, .val (.int p2), .val (.int p3), .val (.ref b1), .val (.int (Int32.ofNat q0)), .val (.int (Int32.ofNat e8)), .val (.int (own_enc (own_st xs e8 (own_st xs e8 (own_st xs e8 (own_st xs e8 (own_st xs e8 (own_st xs e8 (own_st xs e8 (some q0)))))))))), .unset] [(.ref b1)]))
  refine go (fun _ kont => XS.iload X24.here hx rfl (hb hby at_192) rfl  kont) ?_
  show G (T24.setTop (mkF m 194 #[.val (.long p1), .second, .val (.int p2), .val (.int p3), .val (.ref b1), .val (.int (Int32.ofNat q0)), .val (.int (Int32.ofNat e8)), .val (.int (own_enc (own_st xs e8 (own_st xs e8 (own_st xs e8 (own_st xs e8 (own_st xs e8 (own_st xs e8 (own_st xs e8 (some q0)))))))))), .unset] [(.int (own_enc (own_st xs e8 (own_st xs e8 (own_st xs e8 (own_st xs e8 (own_st xs e8 (own_st xs e8 (own_st xs e8 (some q0)))))))))), (.ref b1)]))
  refine go (fun _ kont => XS.iload X24.here hx rfl (hb hby at_194) rfl  kont) ?_
  show G (T24.setTop (mkF m 196 #[.val (.long p1), .second, .val (.int p2), .val (.int p3), .val (.ref b1), .val (.int (Int32.ofNat q0)), .val (.int (Int32.ofNat e8)), .val (.int (own_enc (own_st xs e8 (own_st xs e8 (own_st xs e8 (own_st xs e8 (own_st xs e8 (own_st xs e8 (own_st xs e8 (some q0)))))))))), .unset] [(.int (Int32.ofNat e8)), (.int (own_enc (own_st xs e8 (own_st xs e8 (own_st xs e8 (own_st xs e8 (own_st xs e8 (own_st xs e8 (own_st xs e8 (some q0)))))))))), (.ref b1)]))
  obtain ⟨_, _, ⟨T25, L25, k25, n25⟩, -, X25, ⟨Lc25, hQ25, l25, y25, z25⟩, st25⟩ := Jvm.LawKit.callS X24 hx (y := (⟨"com/example/ansehen/ansehen/util/Utf8IsTextPinLaw", "step", "([BII)I"⟩ : MethodName)) hown (mvT hZ (hw _ (List.mem_of_getElem? (i := 2) rfl))) (mvT hZ (hw _ (List.mem_of_getElem? (i := 3) rfl))) (mvT hZ (hw _ (List.mem_of_getElem? (i := 4) rfl))) (mvT hZ (hw _ (List.mem_of_getElem? (i := 5) rfl))) (by decide) (backOf (W := 0) (own_rm_step l Z a0 hw [] b1 (own_enc (own_st xs e8 (own_st xs e8 (own_st xs e8 (own_st xs e8 (own_st xs e8 (own_st xs e8 (own_st xs e8 (some q0))))))))) h17 n0 Z17 xs hxl VX e8 he8 (own_st xs e8 (own_st xs e8 (own_st xs e8 (own_st xs e8 (own_st xs e8 (own_st xs e8 (own_st xs e8 (some q0)))))))) ho7 rfl) hZ (hw _ (List.mem_of_getElem? (i := 5) rfl)) (hw _ (List.mem_of_getElem? (i := 4) rfl)) (by decide) (by decide)) (g := (mkF m 196 #[.val (.long p1), .second, .val (.int p2), .val (.int p3), .val (.ref b1), .val (.int (Int32.ofNat q0)), .val (.int (Int32.ofNat e8)), .val (.int (own_enc (own_st xs e8 (own_st xs e8 (own_st xs e8 (own_st xs e8 (own_st xs e8 (own_st xs e8 (own_st xs e8 (some q0)))))))))), .unset] [(.int (Int32.ofNat e8)), (.int (own_enc (own_st xs e8 (own_st xs e8 (own_st xs e8 (own_st xs e8 (own_st xs e8 (own_st xs e8 (own_st xs e8 (some q0)))))))))), (.ref b1)])) rfl (by rw [hml]; rfl) (argsL := [(.ref b1), (.int (own_enc (own_st xs e8 (own_st xs e8 (own_st xs e8 (own_st xs e8 (own_st xs e8 (own_st xs e8 (own_st xs e8 (some q0)))))))))), (.int (Int32.ofNat e8))]) (rest := []) (lenOf own_pd0 rfl) rfl (by show 2 * 0 + _ ≤ _; exact Nat.le_of_eq rfl) (hb hby at_196) (fun _ _ => ⟨rfl, e24, (by decide : 1 + 0 ≤ _), (by decide : 8 + 0 ≤ _)⟩)
  dsimp only [Pt.U, Pt.locs, Pt.cells, Pt.slots] at X25 l25 y25 z25 st25 hQ25
  obtain ⟨rfl, N25q, e25⟩ := hQ25
  have N25 : Fr n0 L25 := by rw [l25]; exact Fr.app N24 N25q
  rw [show k25 = 1 from y25, show n25 = 8 from z25] at X25
  refine go st25 ?_
  show G (T25.setTop (mkF m 199 #[.val (.long p1), .second, .val (.int p2), .val (.int p3), .val (.ref b1), .val (.int (Int32.ofNat q0)), .val (.int (Int32.ofNat e8)), .val (.int (own_enc (own_st xs e8 (own_st xs e8 (own_st xs e8 (own_st xs e8 (own_st xs e8 (own_st xs e8 (own_st xs e8 (some q0)))))))))), .unset] [(.int (own_enc (own_st xs e8 (own_st xs e8 (own_st xs e8 (own_st xs e8 (own_st xs e8 (own_st xs e8 (own_st xs e8 (own_st xs e8 (some q0)))))))))))]))
  have ho8 : ∀ p, (own_st xs e8 (own_st xs e8 (own_st xs e8 (own_st xs e8 (own_st xs e8 (own_st xs e8 (own_st xs e8 (own_st xs e8 (some q0))))))))) = some p → p ≤ e8 := own_st_le ho7
  refine go (fun _ kont => XS.istore X25.here hx rfl (hb hby at_199) rfl (l' := #[.val (.long p1), .second, .val (.int p2), .val (.int p3), .val (.ref b1), .val (.int (Int32.ofNat q0)), .val (.int (Int32.ofNat e8)), .val (.int (own_enc (own_st xs e8 (own_st xs e8 (own_st xs e8 (own_st xs e8 (own_st xs e8 (own_st xs e8 (own_st xs e8 (own_st xs e8 (some q0))))))))))), .unset]) rfl kont) ?_
  show G (T25.setTop (mkF m 201 #[.val (.long p1), .second, .val (.int p2), .val (.int p3), .val (.ref b1), .val (.int (Int32.ofNat q0)), .val (.int (Int32.ofNat e8)), .val (.int (own_enc (own_st xs e8 (own_st xs e8 (own_st xs e8 (own_st xs e8 (own_st xs e8 (own_st xs e8 (own_st xs e8 (own_st xs e8 (some q0))))))))))), .unset] []))
  refine go (fun _ kont => XS.iload X25.here hx rfl (hb hby at_201) rfl  kont) ?_
  show G (T25.setTop (mkF m 203 #[.val (.long p1), .second, .val (.int p2), .val (.int p3), .val (.ref b1), .val (.int (Int32.ofNat q0)), .val (.int (Int32.ofNat e8)), .val (.int (own_enc (own_st xs e8 (own_st xs e8 (own_st xs e8 (own_st xs e8 (own_st xs e8 (own_st xs e8 (own_st xs e8 (own_st xs e8 (some q0))))))))))), .unset] [(.int (own_enc (own_st xs e8 (own_st xs e8 (own_st xs e8 (own_st xs e8 (own_st xs e8 (own_st xs e8 (own_st xs e8 (own_st xs e8 (some q0)))))))))))]))
  refine go (fun _ kont => XS.iload X25.here hx rfl (hb hby at_203) rfl  kont) ?_
  show G (T25.setTop (mkF m 205 #[.val (.long p1), .second, .val (.int p2), .val (.int p3), .val (.ref b1), .val (.int (Int32.ofNat q0)), .val (.int (Int32.ofNat e8)), .val (.int (own_enc (own_st xs e8 (own_st xs e8 (own_st xs e8 (own_st xs e8 (own_st xs e8 (own_st xs e8 (own_st xs e8 (own_st xs e8 (some q0))))))))))), .unset] [(.int (Int32.ofNat e8)), (.int (own_enc (own_st xs e8 (own_st xs e8 (own_st xs e8 (own_st xs e8 (own_st xs e8 (own_st xs e8 (own_st xs e8 (own_st xs e8 (some q0)))))))))))]))
  have j26 : ∀ (s205_0 : Int32), s205_0 = (if (own_enc (own_st xs e8 (own_st xs e8 (own_st xs e8 (own_st xs e8 (own_st xs e8 (own_st xs e8 (own_st xs e8 (own_st xs e8 (some q0)))))))))) = (Int32.ofNat e8) then (1 : Int32) else (0 : Int32)) → G (T25.setTop (mkF m 213 #[.val (.long p1), .second, .val (.int p2), .val (.int p3), .val (.ref b1), .val (.int (Int32.ofNat q0)), .val (.int (Int32.ofNat e8)), .val (.int (own_enc (own_st xs e8 (own_st xs e8 (own_st xs e8 (own_st xs e8 (own_st xs e8 (own_st xs e8 (own_st xs e8 (own_st xs e8 (some q0))))))))))), .unset] [(.int s205_0)])) := by
    intro s205_0 hs205_0
    refine go (fun _ kont => XS.istore X25.here hx rfl (hb hby at_213) rfl (l' := #[.val (.long p1), .second, .val (.int p2), .val (.int p3), .val (.ref b1), .val (.int (Int32.ofNat q0)), .val (.int (Int32.ofNat e8)), .val (.int (own_enc (own_st xs e8 (own_st xs e8 (own_st xs e8 (own_st xs e8 (own_st xs e8 (own_st xs e8 (own_st xs e8 (own_st xs e8 (some q0))))))))))), .val (.int s205_0)]) rfl kont) ?_
    show G (T25.setTop (mkF m 215 #[.val (.long p1), .second, .val (.int p2), .val (.int p3), .val (.ref b1), .val (.int (Int32.ofNat q0)), .val (.int (Int32.ofNat e8)), .val (.int (own_enc (own_st xs e8 (own_st xs e8 (own_st xs e8 (own_st xs e8 (own_st xs e8 (own_st xs e8 (own_st xs e8 (own_st xs e8 (some q0))))))))))), .val (.int s205_0)] []))
    refine go (fun _ kont => XS.aload X25.here hx rfl (hb hby at_215) rfl rfl kont) ?_
    show G (T25.setTop (mkF m 217 #[.val (.long p1), .second, .val (.int p2), .val (.int p3), .val (.ref b1), .val (.int (Int32.ofNat q0)), .val (.int (Int32.ofNat e8)), .val (.int (own_enc (own_st xs e8 (own_st xs e8 (own_st xs e8 (own_st xs e8 (own_st xs e8 (own_st xs e8 (own_st xs e8 (own_st xs e8 (some q0))))))))))), .val (.int s205_0)] [(.ref b1)]))
    refine go (fun _ kont => XS.iload X25.here hx rfl (hb hby at_217) rfl  kont) ?_
    show G (T25.setTop (mkF m 219 #[.val (.long p1), .second, .val (.int p2), .val (.int p3), .val (.ref b1), .val (.int (Int32.ofNat q0)), .val (.int (Int32.ofNat e8)), .val (.int (own_enc (own_st xs e8 (own_st xs e8 (own_st xs e8 (own_st xs e8 (own_st xs e8 (own_st xs e8 (own_st xs e8 (own_st xs e8 (some q0))))))))))), .val (.int s205_0)] [(.int (Int32.ofNat q0)), (.ref b1)]))
    refine go (fun _ kont => XS.iload X25.here hx rfl (hb hby at_219) rfl  kont) ?_
    show G (T25.setTop (mkF m 221 #[.val (.long p1), .second, .val (.int p2), .val (.int p3), .val (.ref b1), .val (.int (Int32.ofNat q0)), .val (.int (Int32.ofNat e8)), .val (.int (own_enc (own_st xs e8 (own_st xs e8 (own_st xs e8 (own_st xs e8 (own_st xs e8 (own_st xs e8 (own_st xs e8 (own_st xs e8 (some q0))))))))))), .val (.int s205_0)] [(.int (Int32.ofNat e8)), (.int (Int32.ofNat q0)), (.ref b1)]))
    obtain ⟨_, _, ⟨T27, L27, k27, n27⟩, -, X27, ⟨Lc27, hQ27, l27, y27, z27⟩, st27⟩ := Jvm.LawKit.callS X25 hx (y := (⟨"com/example/ansehen/ansehen/util/Utf8", "isText", "([BII)Z"⟩ : MethodName)) hown (mvT hZ (hw _ (List.mem_of_getElem? (i := 6) rfl))) (mvT hZ (hw _ (List.mem_of_getElem? (i := 7) rfl))) (mvT hZ (hw _ (List.mem_of_getElem? (i := 8) rfl))) (mvT hZ (hw _ (List.mem_of_getElem? (i := 9) rfl))) (by decide) (backOf (W := 0) (own_rm_isText l Z a0 hw [] b1 h17 n0 Z17 xs hxl VX e8 he8 q0 (by omega)) hZ (hw _ (List.mem_of_getElem? (i := 9) rfl)) (hw _ (List.mem_of_getElem? (i := 8) rfl)) (by decide) (by decide)) (g := (mkF m 221 #[.val (.long p1), .second, .val (.int p2), .val (.int p3), .val (.ref b1), .val (.int (Int32.ofNat q0)), .val (.int (Int32.ofNat e8)), .val (.int (own_enc (own_st xs e8 (own_st xs e8 (own_st xs e8 (own_st xs e8 (own_st xs e8 (own_st xs e8 (own_st xs e8 (own_st xs e8 (some q0))))))))))), .val (.int s205_0)] [(.int (Int32.ofNat e8)), (.int (Int32.ofNat q0)), (.ref b1)])) rfl (by rw [hml]; rfl) (argsL := [(.ref b1), (.int (Int32.ofNat q0)), (.int (Int32.ofNat e8))]) (rest := []) (lenOf own_pd1 rfl) rfl (by show 2 * 0 + _ ≤ _; exact Nat.le_of_eq rfl) (hb hby at_221) (fun _ _ => ⟨rfl, e25, (by decide : 1 + 0 ≤ _), (by decide : 8 + 0 ≤ _)⟩)
    dsimp only [Pt.U, Pt.locs, Pt.cells, Pt.slots] at X27 l27 y27 z27 st27 hQ27
    obtain ⟨rfl, N27q, e27⟩ := hQ27
    have N27 : Fr n0 L27 := by rw [l27]; exact Fr.app N25 N27q
    rw [show k27 = 1 from y27, show n27 = 8 from z27] at X27
    refine go st27 ?_
    show G (T27.setTop (mkF m 224 #[.val (.long p1), .second, .val (.int p2), .val (.int p3), .val (.ref b1), .val (.int (Int32.ofNat q0)), .val (.int (Int32.ofNat e8)), .val (.int (own_enc (own_st xs e8 (own_st xs e8 (own_st xs e8 (own_st xs e8 (own_st xs e8 (own_st xs e8 (own_st xs e8 (own_st xs e8 (some q0))))))))))), .val (.int s205_0)] [(.int (if own_T xs e8 8 q0 then 1 else 0))]))
    refine go (fun _ kont => XS.iload X27.here hx rfl (hb hby at_224) rfl  kont) ?_
    show G (T27.setTop (mkF m 226 #[.val (.long p1), .second, .val (.int p2), .val (.int p3), .val (.ref b1), .val (.int (Int32.ofNat q0)), .val (.int (Int32.ofNat e8)), .val (.int (own_enc (own_st xs e8 (own_st xs e8 (own_st xs e8 (own_st xs e8 (own_st xs e8 (own_st xs e8 (own_st xs e8 (own_st xs e8 (some q0))))))))))), .val (.int s205_0)] [(.int s205_0), (.int (if own_T xs e8 8 q0 then 1 else 0))]))
    have hfin : (if own_T xs e8 8 q0 then 1 else 0) = s205_0 := by rw [hs205_0]; exact own_fin (by omega) he8 ho8
    refine go (fun _ kont => XS.icmpNo X27.here hx rfl (hb hby at_226) rfl (teq hfin).2 kont) ?_
    show G (T27.setTop (mkF m 229 #[.val (.long p1), .second, .val (.int p2), .val (.int p3), .val (.ref b1), .val (.int (Int32.ofNat q0)), .val (.int (Int32.ofNat e8)), .val (.int (own_enc (own_st xs e8 (own_st xs e8 (own_st xs e8 (own_st xs e8 (own_st xs e8 (own_st xs e8 (own_st xs e8 (own_st xs e8 (some q0))))))))))), .val (.int s205_0)] []))
    refine go (fun _ kont => XS.iconst X27.here hx rfl (hb hby at_229) kont) ?_
    show G (T27.setTop (mkF m 230 #[.val (.long p1), .second, .val (.int p2), .val (.int p3), .val (.ref b1), .val (.int (Int32.ofNat q0)), .val (.int (Int32.ofNat e8)), .val (.int (own_enc (own_st xs e8 (own_st xs e8 (own_st xs e8 (own_st xs e8 (own_st xs e8 (own_st xs e8 (own_st xs e8 (own_st xs e8 (some q0))))))))))), .val (.int s205_0)] [(.int (1 : Int32))]))
    refine go (fun _ kont => XS.goto X27.here hx rfl (pc0 := 230) (pc' := 234) rfl (hb hby at_230) (by decide) (by decide) kont) ?_
    show G (T27.setTop (mkF m 234 #[.val (.long p1), .second, .val (.int p2), .val (.int p3), .val (.ref b1), .val (.int (Int32.ofNat q0)), .val (.int (Int32.ofNat e8)), .val (.int (own_enc (own_st xs e8 (own_st xs e8 (own_st xs e8 (own_st xs e8 (own_st xs e8 (own_st xs e8 (own_st xs e8 (own_st xs e8 (some q0))))))))))), .val (.int s205_0)] [(.int (1 : Int32))]))
    rw [hG]
    exact own_retN X27 hx (t := .boolean) Bd.returns (by simp) (hb hby at_234) hlk (by decide) (by decide) ⟨rfl, N27⟩
  by_cases hc205 : (own_enc (own_st xs e8 (own_st xs e8 (own_st xs e8 (own_st xs e8 (own_st xs e8 (own_st xs e8 (own_st xs e8 (own_st xs e8 (some q0)))))))))) = (Int32.ofNat e8)
  · refine go (fun _ kont => XS.icmpNo X25.here hx rfl (hb hby at_205) rfl (teq hc205).2 kont) ?_
    show G (T25.setTop (mkF m 208 #[.val (.long p1), .second, .val (.int p2), .val (.int p3), .val (.ref b1), .val (.int (Int32.ofNat q0)), .val (.int (Int32.ofNat e8)), .val (.int (own_enc (own_st xs e8 (own_st xs e8 (own_st xs e8 (own_st xs e8 (own_st xs e8 (own_st xs e8 (own_st xs e8 (own_st xs e8 (some q0))))))))))), .unset] []))
    refine go (fun _ kont => XS.iconst X25.here hx rfl (hb hby at_208) kont) ?_
    show G (T25.setTop (mkF m 209 #[.val (.long p1), .second, .val (.int p2), .val (.int p3), .val (.ref b1), .val (.int (Int32.ofNat q0)), .val (.int (Int32.ofNat e8)), .val (.int (own_enc (own_st xs e8 (own_st xs e8 (own_st xs e8 (own_st xs e8 (own_st xs e8 (own_st xs e8 (own_st xs e8 (own_st xs e8 (some q0))))))))))), .unset] [(.int (1 : Int32))]))
    refine go (fun _ kont => XS.goto X25.here hx rfl (pc0 := 209) (pc' := 213) rfl (hb hby at_209) (by decide) (by decide) kont) ?_
    show G (T25.setTop (mkF m 213 #[.val (.long p1), .second, .val (.int p2), .val (.int p3), .val (.ref b1), .val (.int (Int32.ofNat q0)), .val (.int (Int32.ofNat e8)), .val (.int (own_enc (own_st xs e8 (own_st xs e8 (own_st xs e8 (own_st xs e8 (own_st xs e8 (own_st xs e8 (own_st xs e8 (own_st xs e8 (some q0))))))))))), .unset] [(.int (1 : Int32))]))
    exact j26 _ (by first | exact (if_pos hc205).symm | (rw [if_pos hc205]; assumption))
  · refine go (fun _ kont => XS.icmpYes X25.here hx rfl (pc0 := 205) (pc' := 212) rfl (hb hby at_205) rfl (feq hc205).2 (by decide) (by decide) kont) ?_
    show G (T25.setTop (mkF m 212 #[.val (.long p1), .second, .val (.int p2), .val (.int p3), .val (.ref b1), .val (.int (Int32.ofNat q0)), .val (.int (Int32.ofNat e8)), .val (.int (own_enc (own_st xs e8 (own_st xs e8 (own_st xs e8 (own_st xs e8 (own_st xs e8 (own_st xs e8 (own_st xs e8 (own_st xs e8 (some q0))))))))))), .unset] []))
    refine go (fun _ kont => XS.iconst X25.here hx rfl (hb hby at_212) kont) ?_
    show G (T25.setTop (mkF m 213 #[.val (.long p1), .second, .val (.int p2), .val (.int p3), .val (.ref b1), .val (.int (Int32.ofNat q0)), .val (.int (Int32.ofNat e8)), .val (.int (own_enc (own_st xs e8 (own_st xs e8 (own_st xs e8 (own_st xs e8 (own_st xs e8 (own_st xs e8 (own_st xs e8 (own_st xs e8 (some q0))))))))))), .unset] [(.int (0 : Int32))]))
    exact j26 _ (by first | exact (if_neg hc205).symm | (rw [if_neg hc205]; assumption))
set_option maxRecDepth 65536 in
set_option maxHeartbeats 40000000 in
theorem comes_1 {Post : Tables → Env → Array Value → State → Outcome → State → Prop} (hpost : ∀ tb e args s v u, (limb_1_1.after args s (.returned v) u = true ∧ limb_1_2.after args s (.returned v) u = true ∧ True) → FrameEnd s (.returned v) u (Jvm.fieldLocs frame_1_writes args s ++ Jvm.arrayLocs frame_1_arrays args s ++ Jvm.staticLocs frame_1_statics s) 16 128 → Post tb e args s (.returned v) u) :
    ArmFor flags0 classFile x code maxLocals ret World_1 tables_1 room_1 Calls_1 rest_1 Pre_1 Post := by
  intro l hfl _ _ p e ha hc hk s m args below hf hA hF happ hP
  obtain ⟨hcalls, hrest, hpre⟩ := hP
  obtain ⟨-, -, -, hnamed, -, -, -, hat⟩ := (Spec.applies_iff hf).mp happ
  obtain ⟨hg, hn⟩ := and_e (Cond.before_iff.mp (show (Jvm.Cond.and given_1 narrow_1).before args s = true from hpre))
  obtain ⟨hcnt, ha0⟩ := and_e hg
  obtain ⟨hk0, ha1⟩ := and_e ha0
  obtain ⟨hk1, ha2⟩ := and_e ha1
  have hk2 := ha2
  obtain ⟨w0, w1, w2, rfl⟩ : ∃ w0 w1 w2 : Value, args = #[w0, w1, w2] := by
    have hs : args.size = 3 := by simpa [Cond.value, given_1] using hcnt
    obtain ⟨L⟩ := args
    match L, hs with
    | [w0, w1, w2], _ => exact ⟨w0, w1, w2, rfl⟩
  have hw := fun d (hd : d ∈ tables_1) => atoms_spec (ws := Jvm.Cond.code x code maxLocals ret :: tables_1) hat d (List.mem_cons_of_mem _ hd)
  have hfit : Fit s := fun {y c} hc i hi => by
    obtain ⟨ha, rfl⟩ := Array.getElem?_eq_some_iff.mp hc
    have q := List.all_eq_true.mp ((Array.all_eq_true_iff_forall_mem.mp hF) _ (Array.getElem_mem ha)) i (List.mem_range.mpr hi)
    simpa [Array.getElem?_eq_getElem hi] using q
  obtain ⟨i0, ei0⟩ := isL_v hk0
  obtain rfl : w0 = (.long i0) := Option.some.inj ei0
  obtain ⟨i1, ei1⟩ := is_v hk1
  obtain rfl : w1 = (.int i1) := Option.some.inj ei1
  obtain ⟨i2, ei2⟩ := is_v hk2
  obtain rfl : w2 = (.int i2) := Option.some.inj ei2
  obtain ⟨n, o, h1, h2, h3, _, L, rfl, ⟨rfl, N⟩, hq⟩ := own_rm_law l s _ hw tables_1 i0 i1 i2 s.heap s.heap.size (Nat.le_refl _)  p e ha hc hk s m _ below hf ((Spec.applies_iff_loose hf).mp happ).1 ⟨rfl, State.Warmed39.refl s, rfl⟩ trivial
  refine ⟨n, _, h1, h2, h3, hpost _ _ _ _ _ _ ⟨Cond.after_iff.mpr rfl, Cond.after_iff.mpr (eq_i res_at (Term.int_eval (1)) rfl), trivial⟩ ⟨hq.1, hq.2.1, (hq.2.2.sift fun y hy => Or.inr (N y hy)).mono (by decide) (by decide)⟩⟩
theorem main_1_1 : Claimed_1_1 := comes_1 fun _ _ _ _ _ _ h hF => ⟨h.1, hF⟩
theorem main_1_2 : Claimed_1_2 := comes_1 fun _ _ _ _ _ _ h hF => ⟨h.2.1, hF⟩
end Jvm.Pilot.@@N@@
namespace Jvm.Pilot.@@N@@
open Jvm Jvm.ClassFile Sem Op Lib Jvm.Free Jvm.Stand Jvm.Pilot.@@N@@.Jvm.D
/-! MADE BY PROGRAM (witnessworld.py) out of the Statement's table words and the real class files: 9 classes; the members and pool entries that the words name. The judged class is class 1, her method 1. -/
namespace start1
open Jvm.ClassFile
def u (s : String) : CpInfo := .utf8 (stringToUtf16 s)
/-- a pool by its gaps: so many unusable entries, then the entry; so many at the end -/
def gap : Nat → List CpInfo → List CpInfo
  | 0, r => r
  | n + 1, r => .unusable :: gap n r
def poolList (es : List (Nat × CpInfo)) (last : Nat) : List CpInfo := es.foldr (fun e r => gap e.1 (e.2 :: r)) (gap last [])
def pool (es : List (Nat × CpInfo)) (last : Nat) : Array CpInfo := ⟨poolList es last⟩
def fileOf (pool : Array CpInfo) (this : Nat) (attrs : Array Attribute := #[]) (ms : Array MethodInfo := #[]) (fl : Nat := 33) (sup : Nat := 0) (ifs : Array Nat := #[]) (fds : Array FieldInfo := #[]) : ClassFile where
  minorVersion := 0
  majorVersion := 65
  constantPool := pool
  accessFlags := fl
  thisClass := this
  superClass := sup
  interfaces := ifs
  fields := fds
  methods := ms
  attributes := attrs
def plain (name : String) (sup : Option ClassId) : Class where
  name := name
  kind := .ordinary
  loader := none
  accessFlags := 33
  super := sup
  interfaces := #[]
  cf := none
  fields := #[]
  methods := #[]
  instanceTypes := #[]
  staticTypes := #[]
  resolved := #[]
  callSites := []
  init := .initialized
  statics := none
  mirror := none

def pool0 : Array CpInfo := pool [(5, u "<init>"), (0, u "()V"), (1, .class_ 10), (1, u "java/lang/Object")] 113

def k0m0 : Method := { name := "<init>", desc := "()V", sig := { parameters := [], returnType := none }, accessFlags := 1, code := none }
/-- java/lang/Object -/
def k0 : Class := { plain "java/lang/Object" none with
  accessFlags := 33
  interfaces := #[]
  cf := some (fileOf pool0 8 #[] #[{ accessFlags := 1, nameIndex := 5, descriptorIndex := 6, attributes := #[] }] 33 0 #[] #[])
  fields := #[]
  methods := #[k0m0]
  instanceTypes := #[]
  staticTypes := #[]
  resolved := Array.replicate 124 none
  statics := none }

def pool1 : Array CpInfo := pool [(2, .class_ 4), (1, u "java/lang/Object"), (0, u "<init>"), (0, u "()V"), (0, .integer 2147483647), (0, .methodref 9 10), (0, .class_ 11), (0, .nameAndType 12 13), (0, u "com/example/ansehen/ansehen/util/Utf8IsTextPinLaw"), (0, u "step"), (0, u "([BII)I"), (0, .methodref 15 16), (0, .class_ 17), (0, .nameAndType 18 19), (0, u "com/example/ansehen/ansehen/util/Utf8"), (0, u "isText"), (0, u "([BII)Z"), (0, .integer 55296), (0, .integer 57343), (0, .integer 65536), (0, .integer 1114111), (2, u "law"), (0, u "(JII)Z")] 5

def k1m0 : Method := { name := "<init>", desc := "()V", sig := { parameters := [], returnType := none }, accessFlags := 2, code := none }
def k1c1 : Code := { maxStack := 5, maxLocals := 9, code := code, exceptionTable := #[], attributes := #[] }
def k1m1 : Method := { name := "law", desc := "(JII)Z", sig := { parameters := [.long, .int, .int], returnType := some .boolean }, accessFlags := 9, code := some k1c1 }
def k1c2 : Code := { maxStack := 3, maxLocals := 8, code := method_3_code, exceptionTable := #[], attributes := #[] }
def k1m2 : Method := { name := "step", desc := "([BII)I", sig := { parameters := [(.array .byte), .int, .int], returnType := some .int }, accessFlags := 10, code := some k1c2 }
/-- com/example/ansehen/ansehen/util/Utf8IsTextPinLaw -/
def k1 : Class := { plain "com/example/ansehen/ansehen/util/Utf8IsTextPinLaw" (some 0) with
  accessFlags := 49
  interfaces := #[]
  cf := some (fileOf pool1 9 #[] #[{ accessFlags := 2, nameIndex := 5, descriptorIndex := 6, attributes := #[] }, { accessFlags := 9, nameIndex := 26, descriptorIndex := 27, attributes := #[] }, { accessFlags := 10, nameIndex := 12, descriptorIndex := 13, attributes := #[] }] 49 2 #[] #[])
  fields := #[]
  methods := #[k1m0, k1m1, k1m2]
  instanceTypes := #[]
  staticTypes := #[]
  resolved := Array.replicate 33 none
  statics := none }

def pool2 : Array CpInfo := pool [(2, .class_ 4), (1, u "java/lang/Object"), (0, u "<init>"), (0, u "()V"), (0, .class_ 8), (0, u "com/example/ansehen/ansehen/util/Utf8"), (2, u "isText"), (0, u "([BII)Z")] 5

def k2m0 : Method := { name := "<init>", desc := "()V", sig := { parameters := [], returnType := none }, accessFlags := 2, code := none }
def k2c1 : Code := { maxStack := 3, maxLocals := 10, code := prog_37_method_2_code, exceptionTable := #[], attributes := #[] }
def k2m1 : Method := { name := "isText", desc := "([BII)Z", sig := { parameters := [(.array .byte), .int, .int], returnType := some .boolean }, accessFlags := 9, code := some k2c1 }
/-- com/example/ansehen/ansehen/util/Utf8 -/
def k2 : Class := { plain "com/example/ansehen/ansehen/util/Utf8" (some 0) with
  accessFlags := 33
  interfaces := #[]
  cf := some (fileOf pool2 7 #[] #[{ accessFlags := 2, nameIndex := 5, descriptorIndex := 6, attributes := #[] }, { accessFlags := 9, nameIndex := 11, descriptorIndex := 12, attributes := #[] }] 33 2 #[] #[])
  fields := #[]
  methods := #[k2m0, k2m1]
  instanceTypes := #[]
  staticTypes := #[]
  resolved := Array.replicate 18 none
  statics := none }

def pool3 : Array CpInfo := pool [(1, u "java/lang/Cloneable"), (0, .class_ 1), (0, u "java/lang/Object"), (0, .class_ 3)] 3

/-- java/lang/Cloneable -/
def k3 : Class := { plain "java/lang/Cloneable" (some 0) with
  accessFlags := 1537
  interfaces := #[]
  cf := some (fileOf pool3 2 #[] #[] 1537 4 #[] #[])
  fields := #[]
  methods := #[]
  instanceTypes := #[]
  staticTypes := #[]
  resolved := Array.replicate 8 none
  statics := none }

def pool4 : Array CpInfo := pool [(1, u "java/io/Serializable"), (0, .class_ 1), (0, u "java/lang/Object"), (0, .class_ 3)] 3

/-- java/io/Serializable -/
def k4 : Class := { plain "java/io/Serializable" (some 0) with
  accessFlags := 1537
  interfaces := #[]
  cf := some (fileOf pool4 2 #[] #[] 1537 4 #[] #[])
  fields := #[]
  methods := #[]
  instanceTypes := #[]
  staticTypes := #[]
  resolved := Array.replicate 8 none
  statics := none }

/-- the primitive byte -/
def k5 : Class := { plain "byte" none with kind := .primitive 'B', accessFlags := 0x411 }
/-- [B -/
def k6 : Class := { plain "[B" (some 0) with kind := .array 5 .byte, interfaces := #[3, 4], accessFlags := 1041 }

/-- the primitive int -/
def k7 : Class := { plain "int" none with kind := .primitive 'I', accessFlags := 0x411 }
/-- [I -/
def k8 : Class := { plain "[I" (some 0) with kind := .array 7 .int, interfaces := #[3, 4], accessFlags := 1041 }

def heap : Heap := #[]
def classes : Array Class := #[k0, k1, k2, k3, k4, k5, k6, k7, k8]
def interned : List (Array UInt16 × Addr) := []
def slotsUsed : Nat := 0
def theMethod : MethodId := ⟨1, 1⟩
def args0 : Array Value := #[.long 5, .int 1, .int 1]
def aboutOver (below : List Frame) : State where
  vm := { classes := classes, interned := interned.toArray }
  heap := heap
  slotsUsed := slotsUsed
  threads := #[{ frames := .invoking theMethod args0 :: below }]
def below0 : List Frame := [.native { method := ⟨0, 0⟩, args := #[] }]
def about1 : State := aboutOver below0
def p0 : Program := .bare "" "" ""
def e0 : Env := launch0.env 0 0 0
theorem w_frames : about1.frames = Frame.invoking theMethod args0 :: below0 := rfl
set_option maxRecDepth 65536 in
theorem w_args : argsFit about1.vm theMethod args0 = true := by decide +kernel
set_option maxRecDepth 65536 in
theorem w_heap : heapFits about1 = true := by decide +kernel
set_option maxRecDepth 65536 in
theorem w_runnable : about1.curStatus? = some .runnable := by decide +kernel
set_option maxRecDepth 65536 in
theorem w_alone : about1.alone = true := by decide +kernel
set_option maxRecDepth 65536 in
theorem w_named : about1.methodNamed? x = some theMethod := by decide +kernel
set_option maxRecDepth 65536 in
theorem w_hears : about1.hears theMethod below0 = true := by decide +kernel
set_option maxRecDepth 65536 in
theorem w_ripe : about1.ripe theMethod args0 below0 = true := by decide +kernel
theorem w_running : about1.status = .running := rfl
set_option maxRecDepth 65536 in
theorem w_room : about1.hasRoom e0.platform room_1 = true :=
  launch0.hasRoom_least _ room_1 (by decide +kernel) (by decide +kernel) (by decide +kernel) (by decide +kernel) (by decide +kernel) (by decide +kernel)
theorem allAtoms_all (ts : List Jvm.Cond) (a : Array Jvm.Value) (st : Jvm.State) : (allAtoms ts).before a st = ts.all (fun c => c.before a st) := by
  induction ts with
  | nil => rfl
  | cons c t ih =>
    show (Jvm.Cond.and c (allAtoms t)).before a st = _
    rw [Jvm.Cond.before_and, ih, List.all_cons]
def words1 : List Jvm.Cond := Jvm.Cond.code x code maxLocals ret :: tables_1
/-- a 'code' word, met by the world's own term for the bytes: nothing is compared byte by byte -/
theorem code_word {y : MethodName} {bytes : ByteArray} {mx : Nat} {rt : Option FieldType} {a : Array Value} {s : State} {m : MethodId} {meth : Method} {c : Code} (h1 : s.methodNamed? y = some m) (h2 : s.vm.method? m = some meth) (h3 : meth.code = some c) (h4 : c.code = bytes)
    (h5 : (c.maxLocals == mx && c.exceptionTable.isEmpty && decide (c.maxStack ≤ mostOperands) && decide (meth.sig.returnType = rt) && !meth.locks && decide (parseMethodDescriptor y.desc = some meth.sig)) = true) : (Jvm.Cond.code y bytes mx rt).before a s = true := by
  simp only [Bool.and_eq_true, beq_iff_eq, Bool.not_eq_true', decide_eq_true_eq] at h5
  obtain ⟨⟨⟨⟨⟨g1, g2⟩, g3⟩, g4⟩, g5⟩, g6⟩ := h5
  simp [Cond.before, Cond.holds, Cond.value, h1, h2, h3, h4, g1, g2, g3, g4, g5, g6]
def isCode : Jvm.Cond → Bool
  | .code _ _ _ _ => true
  | _ => false
theorem all_split {L : List Jvm.Cond} {P : Jvm.Cond → Bool} (h1 : L.all (fun c => isCode c || P c) = true) (h2 : ∀ c ∈ L.filter isCode, P c = true) : L.all P = true := by
  refine List.all_eq_true.mpr fun c hc => ?_
  have h := List.all_eq_true.mp h1 c hc
  rcases Bool.eq_false_or_eq_true (isCode c) with hi | hi
  · exact h2 c (List.mem_filter.mpr ⟨hc, hi⟩)
  · simpa [hi] using h
set_option maxRecDepth 65536 in
theorem w_c0 : (Jvm.Cond.code x code maxLocals ret).before args0 about1 = true := code_word (m := ⟨1, 1⟩) (meth := k1m1) (c := k1c1) (by decide +kernel) rfl rfl rfl (by decide +kernel)
set_option maxRecDepth 65536 in
theorem w_c1 : (Jvm.Cond.code ({ cls := "com/example/ansehen/ansehen/util/Utf8IsTextPinLaw", name := "step", desc := "([BII)I" } : Jvm.MethodName) method_3_code (8 : Nat) (Option.some Jvm.ClassFile.FieldType.int)).before args0 about1 = true := code_word (m := ⟨1, 2⟩) (meth := k1m2) (c := k1c2) (by decide +kernel) rfl rfl rfl (by decide +kernel)
set_option maxRecDepth 65536 in
theorem w_c2 : (Jvm.Cond.code ({ cls := "com/example/ansehen/ansehen/util/Utf8", name := "isText", desc := "([BII)Z" } : Jvm.MethodName) prog_37_method_2_code (10 : Nat) (Option.some Jvm.ClassFile.FieldType.boolean)).before args0 about1 = true := code_word (m := ⟨2, 1⟩) (meth := k2m1) (c := k2c1) (by decide +kernel) rfl rfl rfl (by decide +kernel)
def codes1 : List Jvm.Cond := [Jvm.Cond.code x code maxLocals ret, Jvm.Cond.code ({ cls := "com/example/ansehen/ansehen/util/Utf8IsTextPinLaw", name := "step", desc := "([BII)I" } : Jvm.MethodName) method_3_code (8 : Nat) (Option.some Jvm.ClassFile.FieldType.int), Jvm.Cond.code ({ cls := "com/example/ansehen/ansehen/util/Utf8", name := "isText", desc := "([BII)Z" } : Jvm.MethodName) prog_37_method_2_code (10 : Nat) (Option.some Jvm.ClassFile.FieldType.boolean)]
set_option maxRecDepth 65536 in
theorem codes_eq : words1.filter isCode = codes1 := rfl
theorem w_codes : ∀ c ∈ words1.filter isCode, c.before args0 about1 = true := by
  rw [codes_eq]
  intro c hc
  simp only [codes1, List.mem_cons, List.not_mem_nil, or_false] at hc
  rcases hc with rfl | rfl | rfl
  · exact w_c0
  · exact w_c1
  · exact w_c2
set_option maxRecDepth 65536 in
theorem w_t1 : words1.all (fun c => isCode c || c.before args0 about1) = true := by decide +kernel
theorem w_tables : (allAtoms (Jvm.Cond.code x code maxLocals ret :: tables_1)).before args0 about1 = true := by
  rw [allAtoms_all]
  show words1.all (fun c => c.before args0 about1) = true
  refine all_split ?_ w_codes
  rw [w_t1]
set_option maxRecDepth 65536 in
theorem w_case : (Jvm.Cond.and given_1 narrow_1).before args0 about1 = true := by decide +kernel
theorem w_applies : (headSpec (Jvm.Cond.code x code maxLocals ret :: tables_1) room_1).applies x e0.platform about1 = true :=
  (Spec.applies_iff w_frames).mpr ⟨w_running, w_runnable, w_alone, w_named, w_hears, w_ripe, w_room, w_tables⟩
theorem atStart : AtStart classFile x code maxLocals ret World_1 tables_1 room_1 Calls_1 rest_1 Pre_1 launch0 p0 e0 about1 theMethod args0 below0 :=
  ⟨lists_1, trivial, launch0.admits_env _ _ _, launch0.least_env, fairChoices_fair.cas, fairChoices_fair.clock, w_frames, w_args, w_heap, w_applies, trivial, trivial, w_case⟩
end start1
theorem witness_1 : WitnessClaimed_1 := ⟨start1.p0, start1.e0, start1.about1, start1.theMethod, start1.args0, start1.below0, start1.atStart⟩
end Jvm.Pilot.@@N@@
