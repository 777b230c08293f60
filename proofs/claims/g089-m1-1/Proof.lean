import JvmDerived
import JvmDerived.Pilot.@@N@@Statement
import JvmDerived.Pilot.@@N@@Code
set_option linter.unusedVariables false
set_option linter.unusedSimpArgs false
namespace Jvm.Pilot.@@N@@
open Jvm Jvm.ClassFile Sem Op Lib Jvm.Free Jvm.Stand Jvm.LawKit Jvm.RoadKit Bundle Jvm.Pilot.@@N@@.Jvm.D
section OwnLayer
variable {p : Program} {l : Launch} {e : Env} {R : Room} {s : State} {m : MethodId} {args : Array Value} {below : List Frame} {meth : Method} {c : Code} {T : State} {locs : List Loc} {cells slots : Nat}
/-- what is to be shown from the state S on: the run comes back, Q holds of what it leaves -/
def own_G (p : Program) (e : Env) (below : List Frame) (s : State) (k n : Nat) (Q : Option Value → Heap → List Loc → Prop) (S : State) : Prop :=
  ∃ t o, Steps p.tables e below S t ∧ t.status = .running ∧ Ended t below o ∧ ∃ v L, o = .returned v ∧ Q v t.heap L ∧ FrameEnd s o t L k n
theorem own_to {k n : Nat} {Q : Option Value → Heap → List Loc → Prop} {S S' : State} (h : ∀ t, Steps p.tables e below S' t → Steps p.tables e below S t) (g : own_G p e below s k n Q S') : own_G p e below s k n Q S := by
  obtain ⟨t, o, h1, h2⟩ := g
  exact ⟨t, o, h t h1, h2⟩
theorem own_retI {k n : Nat} {Q : Option Value → Heap → List Loc → Prop} (X : Stand p l e R s m args below meth c T locs cells slots) (hx : p.tables.exec = Jvm.exec) {pc : Nat} {Ls : Array Slot} {z : Int32} (hret : meth.sig.returnType = some .int) (hd : decode c.code pc = .ok (.ireturn, 1)) (hlk : meth.locks = false) (hk : cells ≤ k) (hn : slots ≤ n) (hq : Q (some (.int z)) T.heap locs) :
    own_G p e below s k n Q (T.setTop (mkF m pc Ls [.int z])) := by
  obtain ⟨fs, hr, hrun, hended, hW, hsame⟩ := X.leave (v := some (.int z)) (fun h => by rw [hret] at h; cases h) hlk
  exact ⟨_, _, X.ireturnOut hx hret rfl (Or.inl rfl) hd hr, hrun, hended, _, _, rfl, hq, ⟨_, rfl⟩, hW, hsame.mono hk hn⟩
theorem own_retN {k n : Nat} {Q : Option Value → Heap → List Loc → Prop} (X : Stand p l e R s m args below meth c T locs cells slots) (hx : p.tables.exec = Jvm.exec) {pc : Nat} {Ls : Array Slot} {z : Int32} {t : FieldType} {rest : List Value} (hret : meth.sig.returnType = some t) (ht : t = .boolean ∨ t = .byte ∨ t = .char ∨ t = .short) (hd : decode c.code pc = .ok (.ireturn, 1)) (hlk : meth.locks = false) (hk : cells ≤ k) (hn : slots ≤ n) (hq : Q (some (.int (nar t z))) T.heap locs) :
    own_G p e below s k n Q (T.setTop (mkF m pc Ls (.int z :: rest))) := by
  obtain ⟨fs, hr, hrun, hended, hW, hsame⟩ := X.leave (v := some (.int (nar t z))) (fun h => by rw [hret] at h; cases h) hlk
  exact ⟨_, _, retN X hx hret ht hd hr, hrun, hended, _, _, rfl, hq, ⟨_, rfl⟩, hW, hsame.mono hk hn⟩
theorem own_retJ {k n : Nat} {Q : Option Value → Heap → List Loc → Prop} (X : Stand p l e R s m args below meth c T locs cells slots) (hx : p.tables.exec = Jvm.exec) {pc : Nat} {Ls : Array Slot} {z : Int64} (hret : meth.sig.returnType = some .long) (hd : decode c.code pc = .ok (.lreturn, 1)) (hlk : meth.locks = false) (hk : cells ≤ k) (hn : slots ≤ n) (hq : Q (some (.long z)) T.heap locs) :
    own_G p e below s k n Q (T.setTop (mkF m pc Ls [.long z])) := by
  obtain ⟨fs, hr, hrun, hended, hW, hsame⟩ := X.leave (v := some (.long z)) (fun h => by rw [hret] at h; cases h) hlk
  exact ⟨_, _, X.lreturnOut hx hret hd hr, hrun, hended, _, _, rfl, hq, ⟨_, rfl⟩, hW, hsame.mono hk hn⟩
theorem own_retA {k n : Nat} {Q : Option Value → Heap → List Loc → Prop} (X : Stand p l e R s m args below meth c T locs cells slots) (hx : p.tables.exec = Jvm.exec) {pc : Nat} {Ls : Array Slot} {w : Value} {t : FieldType} (hw : w.isRef = true) (hret : meth.sig.returnType = some t) (ht : t.isReference = true) (hd : decode c.code pc = .ok (.areturn, 1)) (hlk : meth.locks = false) (hk : cells ≤ k) (hn : slots ≤ n) (hq : Q (some w) T.heap locs) :
    own_G p e below s k n Q (T.setTop (mkF m pc Ls [w])) := by
  obtain ⟨fs, hr, hrun, hended, hW, hsame⟩ := X.leave (v := some w) (fun h => by rw [hret] at h; cases h) hlk
  exact ⟨_, _, X.areturnOut hx hw hret ht hd hr, hrun, hended, _, _, rfl, hq, ⟨_, rfl⟩, hW, hsame.mono hk hn⟩
theorem own_retV {k n : Nat} {Q : Option Value → Heap → List Loc → Prop} (X : Stand p l e R s m args below meth c T locs cells slots) (hx : p.tables.exec = Jvm.exec) {pc : Nat} {Ls : Array Slot} (hret : meth.sig.returnType = none) (hd : decode c.code pc = .ok (.return_, 1)) (hlk : meth.locks = false) (hk : cells ≤ k) (hn : slots ≤ n) (hq : Q none T.heap locs) :
    own_G p e below s k n Q (T.setTop (mkF m pc Ls [])) := by
  obtain ⟨fs, hr, hrun, hended, hW, hsame⟩ := X.leave (v := none) (fun _ => rfl) hlk
  exact ⟨_, _, X.returnOut hx hret hd hr, hrun, hended, _, _, rfl, hq, ⟨_, rfl⟩, hW, hsame.mono hk hn⟩
end OwnLayer
/-- a callee that leaves the heap as it was and returns r -/
def own_Qp (r : Option Value) (h0 : Heap) (n0 : Nat) (v : Option Value) (h : Heap) (L : List Loc) : Prop := v = r ∧ Fr n0 L ∧ h = h0
/-- the law itself -/
def own_Ql (n0 : Nat) (v : Option Value) (h : Heap) (L : List Loc) : Prop := v = some (.int 1) ∧ Fr n0 L
/-- a reference's int field, out of the case's words -/
theorem own_ord {args : Array Value} {s : State} {t : Jvm.Term} {C n d : String} {k : Int32} {x : Addr} (ht : t.eval args s none [] s = some (.ref x)) (h : (Jvm.Cond.eq (.field t C n d) (.int k)).value args s none s [] = some true) : s.fieldOf? x C n d = some (.int k) := by
  obtain ⟨u, w, e1, e2, K1, K2⟩ := cmp_v (Or.inl h)
  have e3 : some w = some (.int k) := e2.symm.trans (Term.int_eval k)
  obtain rfl := Option.some.inj e3
  obtain ⟨z, rfl⟩ := K2
  have e4 := gotT (Cond.eq_ints e1 e2) h
  rw [fld_at ht] at e1
  rw [e1, e4]
theorem own_ord_ne {s : State} {C n d : String} {x y : Addr} {k k' : Int32} (h : s.fieldOf? x C n d = some (.int k)) (h' : s.fieldOf? y C n d = some (.int k')) (hk : k ≠ k') : ¬ (x = y) := fun q => by
  subst q
  rw [h] at h'
  exact hk (Value.int.inj (Option.some.inj h'))
theorem own_pn0 : plainName "java/lang/Record" = true := by first | (simp [plainName, overriddenIn]; done) | decide +kernel
theorem own_pn1 : plainName "com/example/wary_ddl/waryddl/sql/DateTimeText" = true := by first | (simp [plainName, overriddenIn]; done) | decide +kernel
theorem own_pn2 : plainName "com/example/wary_ddl/waryddl/sql/DateTimeTextIsZeroPinLaw" = true := by first | (simp [plainName, overriddenIn]; done) | decide +kernel
theorem own_pd0 : parseMethodDescriptor "()V" = some ⟨[], none⟩ := by decide +kernel
theorem own_pd1 : parseMethodDescriptor "(IIIIIIII)V" = some ⟨[.int, .int, .int, .int, .int, .int, .int, .int], none⟩ := by decide +kernel
theorem own_pd2 : parseMethodDescriptor "()Z" = some ⟨[], some .boolean⟩ := by decide +kernel
theorem d_prog_165_method_1_0 : decode prog_165_method_1_code 0 = .ok (.aload_n 0, 1) := by decide +kernel
theorem d_prog_165_method_1_1 : decode prog_165_method_1_code 1 = .ok (.invokespecial 1, 3) := by decide +kernel
theorem d_prog_165_method_1_4 : decode prog_165_method_1_code 4 = .ok (.aload_n 0, 1) := by decide +kernel
theorem d_prog_165_method_1_5 : decode prog_165_method_1_code 5 = .ok (.iload_n 1, 1) := by decide +kernel
theorem d_prog_165_method_1_6 : decode prog_165_method_1_code 6 = .ok (.putfield 7, 3) := by decide +kernel
theorem d_prog_165_method_1_9 : decode prog_165_method_1_code 9 = .ok (.aload_n 0, 1) := by decide +kernel
theorem d_prog_165_method_1_10 : decode prog_165_method_1_code 10 = .ok (.iload_n 2, 1) := by decide +kernel
theorem d_prog_165_method_1_11 : decode prog_165_method_1_code 11 = .ok (.putfield 13, 3) := by decide +kernel
theorem d_prog_165_method_1_14 : decode prog_165_method_1_code 14 = .ok (.aload_n 0, 1) := by decide +kernel
theorem d_prog_165_method_1_15 : decode prog_165_method_1_code 15 = .ok (.iload_n 3, 1) := by decide +kernel
theorem d_prog_165_method_1_16 : decode prog_165_method_1_code 16 = .ok (.putfield 16, 3) := by decide +kernel
theorem d_prog_165_method_1_19 : decode prog_165_method_1_code 19 = .ok (.aload_n 0, 1) := by decide +kernel
theorem d_prog_165_method_1_20 : decode prog_165_method_1_code 20 = .ok (.iload 4, 2) := by decide +kernel
theorem d_prog_165_method_1_22 : decode prog_165_method_1_code 22 = .ok (.putfield 19, 3) := by decide +kernel
theorem d_prog_165_method_1_25 : decode prog_165_method_1_code 25 = .ok (.aload_n 0, 1) := by decide +kernel
theorem d_prog_165_method_1_26 : decode prog_165_method_1_code 26 = .ok (.iload 5, 2) := by decide +kernel
theorem d_prog_165_method_1_28 : decode prog_165_method_1_code 28 = .ok (.putfield 22, 3) := by decide +kernel
theorem d_prog_165_method_1_31 : decode prog_165_method_1_code 31 = .ok (.aload_n 0, 1) := by decide +kernel
theorem d_prog_165_method_1_32 : decode prog_165_method_1_code 32 = .ok (.iload 6, 2) := by decide +kernel
theorem d_prog_165_method_1_34 : decode prog_165_method_1_code 34 = .ok (.putfield 25, 3) := by decide +kernel
theorem d_prog_165_method_1_37 : decode prog_165_method_1_code 37 = .ok (.aload_n 0, 1) := by decide +kernel
theorem d_prog_165_method_1_38 : decode prog_165_method_1_code 38 = .ok (.iload 7, 2) := by decide +kernel
theorem d_prog_165_method_1_40 : decode prog_165_method_1_code 40 = .ok (.putfield 28, 3) := by decide +kernel
theorem d_prog_165_method_1_43 : decode prog_165_method_1_code 43 = .ok (.aload_n 0, 1) := by decide +kernel
theorem d_prog_165_method_1_44 : decode prog_165_method_1_code 44 = .ok (.iload 8, 2) := by decide +kernel
theorem d_prog_165_method_1_46 : decode prog_165_method_1_code 46 = .ok (.putfield 31, 3) := by decide +kernel
theorem d_prog_165_method_1_49 : decode prog_165_method_1_code 49 = .ok (.return_, 1) := by decide +kernel
theorem d_jdk_30_method_1_0 : decode jdk_30_method_1_code 0 = .ok (.aload_n 0, 1) := by decide +kernel
theorem d_jdk_30_method_1_1 : decode jdk_30_method_1_code 1 = .ok (.invokespecial 1, 3) := by decide +kernel
theorem d_jdk_30_method_1_4 : decode jdk_30_method_1_code 4 = .ok (.return_, 1) := by decide +kernel
theorem d_prog_165_method_3_0 : decode prog_165_method_3_code 0 = .ok (.aload_n 0, 1) := by decide +kernel
theorem d_prog_165_method_3_1 : decode prog_165_method_3_code 1 = .ok (.getfield 7, 3) := by decide +kernel
theorem d_prog_165_method_3_4 : decode prog_165_method_3_code 4 = .ok (.ifCond .ne 49, 3) := by decide +kernel
theorem d_prog_165_method_3_7 : decode prog_165_method_3_code 7 = .ok (.aload_n 0, 1) := by decide +kernel
theorem d_prog_165_method_3_8 : decode prog_165_method_3_code 8 = .ok (.getfield 13, 3) := by decide +kernel
theorem d_prog_165_method_3_11 : decode prog_165_method_3_code 11 = .ok (.ifCond .ne 42, 3) := by decide +kernel
theorem d_prog_165_method_3_14 : decode prog_165_method_3_code 14 = .ok (.aload_n 0, 1) := by decide +kernel
theorem d_prog_165_method_3_15 : decode prog_165_method_3_code 15 = .ok (.getfield 16, 3) := by decide +kernel
theorem d_prog_165_method_3_18 : decode prog_165_method_3_code 18 = .ok (.ifCond .ne 35, 3) := by decide +kernel
theorem d_prog_165_method_3_21 : decode prog_165_method_3_code 21 = .ok (.aload_n 0, 1) := by decide +kernel
theorem d_prog_165_method_3_22 : decode prog_165_method_3_code 22 = .ok (.getfield 19, 3) := by decide +kernel
theorem d_prog_165_method_3_25 : decode prog_165_method_3_code 25 = .ok (.ifCond .ne 28, 3) := by decide +kernel
theorem d_prog_165_method_3_28 : decode prog_165_method_3_code 28 = .ok (.aload_n 0, 1) := by decide +kernel
theorem d_prog_165_method_3_29 : decode prog_165_method_3_code 29 = .ok (.getfield 22, 3) := by decide +kernel
theorem d_prog_165_method_3_32 : decode prog_165_method_3_code 32 = .ok (.ifCond .ne 21, 3) := by decide +kernel
theorem d_prog_165_method_3_35 : decode prog_165_method_3_code 35 = .ok (.aload_n 0, 1) := by decide +kernel
theorem d_prog_165_method_3_36 : decode prog_165_method_3_code 36 = .ok (.getfield 25, 3) := by decide +kernel
theorem d_prog_165_method_3_39 : decode prog_165_method_3_code 39 = .ok (.ifCond .ne 14, 3) := by decide +kernel
theorem d_prog_165_method_3_42 : decode prog_165_method_3_code 42 = .ok (.aload_n 0, 1) := by decide +kernel
theorem d_prog_165_method_3_43 : decode prog_165_method_3_code 43 = .ok (.getfield 28, 3) := by decide +kernel
theorem d_prog_165_method_3_46 : decode prog_165_method_3_code 46 = .ok (.ifCond .ne 7, 3) := by decide +kernel
theorem d_prog_165_method_3_49 : decode prog_165_method_3_code 49 = .ok (.iconst 1, 1) := by decide +kernel
theorem d_prog_165_method_3_50 : decode prog_165_method_3_code 50 = .ok (.goto 4, 3) := by decide +kernel
theorem d_prog_165_method_3_53 : decode prog_165_method_3_code 53 = .ok (.iconst 0, 1) := by decide +kernel
theorem d_prog_165_method_3_54 : decode prog_165_method_3_code 54 = .ok (.ireturn, 1) := by decide +kernel

def own_isZero (f0 f1 f2 f3 f4 f5 f6 : Int32) : Int32 := if f0 = 0 then (if f1 = 0 then (if f2 = 0 then (if f3 = 0 then (if f4 = 0 then (if f5 = 0 then (if f6 = 0 then 1 else 0) else 0) else 0) else 0) else 0) else 0) else 0
theorem own_or0 (x y : Int32) : (x ||| y) = 0 ↔ x = 0 ∧ y = 0 := by
  rw [← Int32.toBitVec_inj, ← Int32.toBitVec_inj, ← Int32.toBitVec_inj, Int32.toBitVec_or]
  exact BitVec.or_eq_zero_iff
theorem own_zero_eq (f0 f1 f2 f3 f4 f5 f6 : Int32) : own_isZero f0 f1 f2 f3 f4 f5 f6 = if ((((((f0 ||| f1) ||| f2) ||| f3) ||| f4) ||| f5) ||| f6) = (0 : Int32) then 1 else 0 := by
  simp only [own_or0, own_isZero]
  repeat' split
  all_goals first | rfl | (exfalso; simp_all; done)

theorem own_ef_own_rm_rec (m : MethodId) (x0 : Addr) : entryFrame m #[(.ref x0)] 1 = mkF m 0 #[.val (.ref x0)] [] := by first | (simp [entryFrame, mkF, argsToLocals, Value.category]; done) | rfl
set_option maxRecDepth 65536 in
set_option maxHeartbeats 40000000 in
theorem own_rm_rec (l : Launch) (Z : State) (a0 : Array Value) (hw : ∀ d ∈ tables_1, d.before a0 Z = true) (ws : List Jvm.Cond) (a : Addr) (h0 : Heap) (n0 : Nat) (Z0 : n0 ≤ h0.size)  :
    MetFree l (⟨"java/lang/Record", "<init>", "()V"⟩ : MethodName) (head1 (Jvm.Cond.code (⟨"java/lang/Record", "<init>", "()V"⟩ : MethodName) jdk_30_method_1_code 1 none :: ws) ({ frames := 1, cells := 0, slots := 0, locals := 12 } : Room)) (fun aq Uq => aq = #[(.ref a)] ∧ Z.Warmed39 Uq.vm ∧ Uq.heap = h0) (fun _ _ _ _ _ => True) (fun _ Uq oq Uq' => ∃ vq Lq, oq = .returned vq ∧ (own_Qp none h0 n0) vq Uq'.heap Lq ∧ FrameEnd Uq oq Uq' Lq ({ frames := 1, cells := 0, slots := 0, locals := 12 } : Room).cells ({ frames := 1, cells := 0, slots := 0, locals := 12 } : Room).slots) := by
  refine MetFree.of_bodySF (plainFor_of_name own_pn0) hisR ?_
  intro p e s m args below meth c s₁ Bd hml0 hP hK
  obtain ⟨rfl, hZ, hh⟩ := hP
  have hx := Bd.exec
  have hby := Bd.bytes
  have hml : c.maxLocals = 1 := hml0
  have hown : s.vm.findClass "java/lang/Record" = some m.cls := findClass_of_methodNamed Bd.named
  have hnm := (name_of_methodNamed Bd.named Bd.method).1
  have X0 : Stand p l e ({ frames := 1, cells := 0, slots := 0, locals := 12 } : Room) s m #[(.ref a)] below meth c s₁ [] 0 0 := Stand.of_body Bd
  have e0 : s₁.heap = h0 := by rw [← hh, Bd.state]; rfl
  have N0 := Fr.nil n0
  have hlk : meth.locks = false := by first | exact BodyLoose.notSynchronized Bd | exact Body.notSynchronized Bd
  obtain ⟨G, hG⟩ : ∃ G : State → Prop, G = own_G p e below s ({ frames := 1, cells := 0, slots := 0, locals := 12 } : Room).cells ({ frames := 1, cells := 0, slots := 0, locals := 12 } : Room).slots ((own_Qp none h0 n0)) := ⟨_, rfl⟩
  have go : ∀ {S S' : State}, (∀ t, Steps p.tables e below S' t → Steps p.tables e below S t) → G S' → G S := by rw [hG]; exact own_to
  suffices hs : G (s₁.setTop (mkF m 0 #[.val (.ref a)] [])) by
    rw [hG] at hs
    exact own_to (fun _ kont => castTop (own_ef_own_rm_rec m a) kont) hs
  refine go (fun _ kont => XS.aloadN X0.here hx rfl (hb hby d_jdk_30_method_1_0) rfl rfl kont) ?_
  show G (s₁.setTop (mkF m 1 #[.val (.ref a)] [(.ref a)]))
  obtain ⟨T1, X1, e1, st1⟩ := initO X0 hx hZ hown (hw _ (List.mem_of_getElem? (i := 11) rfl)) (hw _ (List.mem_of_getElem? (i := 12) rfl)) (hw _ (List.mem_of_getElem? (i := 13) rfl)) e0 (g := (mkF m 1 #[.val (.ref a)] [(.ref a)])) rfl (by rw [hml]; rfl) rfl (hb hby d_jdk_30_method_1_1) (by decide) (W := 0) (by show 2 * 0 + _ ≤ _; exact Nat.le_of_eq rfl) (by decide)
  refine go st1 ?_
  show G (T1.setTop (mkF m 4 #[.val (.ref a)] []))
  rw [hG]
  exact own_retV X1 hx Bd.returns (hb hby d_jdk_30_method_1_4) hlk (by decide) (by decide) ⟨rfl, N0, e1⟩
theorem own_ef_own_rm_ctor (m : MethodId) (x0 : Addr) (x1 : Int32) (x2 : Int32) (x3 : Int32) (x4 : Int32) (x5 : Int32) (x6 : Int32) (x7 : Int32) (x8 : Int32) : entryFrame m #[(.ref x0), (.int x1), (.int x2), (.int x3), (.int x4), (.int x5), (.int x6), (.int x7), (.int x8)] 9 = mkF m 0 #[.val (.ref x0), .val (.int x1), .val (.int x2), .val (.int x3), .val (.int x4), .val (.int x5), .val (.int x6), .val (.int x7), .val (.int x8)] [] := by first | (simp [entryFrame, mkF, argsToLocals, Value.category]; done) | rfl
def own_Q_ctor (Z : State) (h0 : Heap) (n0 : Nat) (a : Addr) (f0 : Int32) (f1 : Int32) (f2 : Int32) (f3 : Int32) (f4 : Int32) (f5 : Int32) (f6 : Int32) (f7 : Int32)  (v : Option Value) (h : Heap) (L : List Loc) : Prop := v = none ∧ Fr n0 L ∧ Keep h0 h [a] ∧ Exa Z h a "com/example/wary_ddl/waryddl/sql/DateTimeText" ∧ Fld Z h a "com/example/wary_ddl/waryddl/sql/DateTimeText" "year" "I" (.int f0) ∧ Fld Z h a "com/example/wary_ddl/waryddl/sql/DateTimeText" "month" "I" (.int f1) ∧ Fld Z h a "com/example/wary_ddl/waryddl/sql/DateTimeText" "day" "I" (.int f2) ∧ Fld Z h a "com/example/wary_ddl/waryddl/sql/DateTimeText" "hour" "I" (.int f3) ∧ Fld Z h a "com/example/wary_ddl/waryddl/sql/DateTimeText" "minute" "I" (.int f4) ∧ Fld Z h a "com/example/wary_ddl/waryddl/sql/DateTimeText" "second" "I" (.int f5) ∧ Fld Z h a "com/example/wary_ddl/waryddl/sql/DateTimeText" "nanos" "I" (.int f6) ∧ Fld Z h a "com/example/wary_ddl/waryddl/sql/DateTimeText" "fractionDigits" "I" (.int f7)
set_option maxRecDepth 65536 in
set_option maxHeartbeats 40000000 in
theorem own_rm_ctor (l : Launch) (Z : State) (a0 : Array Value) (hw : ∀ d ∈ tables_1, d.before a0 Z = true) (ws : List Jvm.Cond) (a : Addr) (f0 : Int32) (f1 : Int32) (f2 : Int32) (f3 : Int32) (f4 : Int32) (f5 : Int32) (f6 : Int32) (f7 : Int32) (h0 : Heap) (n0 : Nat) (Z0 : n0 ≤ h0.size) (F0 : Fld Z h0 a "com/example/wary_ddl/waryddl/sql/DateTimeText" "year" "I" (.int (0 : Int32))) (F1 : Fld Z h0 a "com/example/wary_ddl/waryddl/sql/DateTimeText" "month" "I" (.int (0 : Int32))) (F2 : Fld Z h0 a "com/example/wary_ddl/waryddl/sql/DateTimeText" "day" "I" (.int (0 : Int32))) (F3 : Fld Z h0 a "com/example/wary_ddl/waryddl/sql/DateTimeText" "hour" "I" (.int (0 : Int32))) (F4 : Fld Z h0 a "com/example/wary_ddl/waryddl/sql/DateTimeText" "minute" "I" (.int (0 : Int32))) (F5 : Fld Z h0 a "com/example/wary_ddl/waryddl/sql/DateTimeText" "second" "I" (.int (0 : Int32))) (F6 : Fld Z h0 a "com/example/wary_ddl/waryddl/sql/DateTimeText" "nanos" "I" (.int (0 : Int32))) (F7 : Fld Z h0 a "com/example/wary_ddl/waryddl/sql/DateTimeText" "fractionDigits" "I" (.int (0 : Int32))) (E : Exa Z h0 a "com/example/wary_ddl/waryddl/sql/DateTimeText") (ga : n0 ≤ a) :
    MetFree l (⟨"com/example/wary_ddl/waryddl/sql/DateTimeText", "<init>", "(IIIIIIII)V"⟩ : MethodName) (head1 (Jvm.Cond.code (⟨"com/example/wary_ddl/waryddl/sql/DateTimeText", "<init>", "(IIIIIIII)V"⟩ : MethodName) prog_165_method_1_code 9 none :: ws) ({ frames := 2, cells := 0, slots := 0, locals := 24 } : Room)) (fun aq Uq => aq = #[(.ref a), (.int f0), (.int f1), (.int f2), (.int f3), (.int f4), (.int f5), (.int f6), (.int f7)] ∧ Z.Warmed39 Uq.vm ∧ Uq.heap = h0) (fun _ _ _ _ _ => True) (fun _ Uq oq Uq' => ∃ vq Lq, oq = .returned vq ∧ (own_Q_ctor Z h0 n0 a f0 f1 f2 f3 f4 f5 f6 f7) vq Uq'.heap Lq ∧ FrameEnd Uq oq Uq' Lq ({ frames := 2, cells := 0, slots := 0, locals := 24 } : Room).cells ({ frames := 2, cells := 0, slots := 0, locals := 24 } : Room).slots) := by
  refine MetFree.of_bodySF (plainFor_of_name own_pn1) hisR ?_
  intro p e s m args below meth c s₁ Bd hml0 hP hK
  obtain ⟨rfl, hZ, hh⟩ := hP
  have hx := Bd.exec
  have hby := Bd.bytes
  have hml : c.maxLocals = 9 := hml0
  have hown : s.vm.findClass "com/example/wary_ddl/waryddl/sql/DateTimeText" = some m.cls := findClass_of_methodNamed Bd.named
  have hnm := (name_of_methodNamed Bd.named Bd.method).1
  have X0 : Stand p l e ({ frames := 2, cells := 0, slots := 0, locals := 24 } : Room) s m #[(.ref a), (.int f0), (.int f1), (.int f2), (.int f3), (.int f4), (.int f5), (.int f6), (.int f7)] below meth c s₁ [] 0 0 := Stand.of_body Bd
  have e0 : s₁.heap = h0 := by rw [← hh, Bd.state]; rfl
  have N0 := Fr.nil n0
  have hlk : meth.locks = false := by first | exact BodyLoose.notSynchronized Bd | exact Body.notSynchronized Bd
  obtain ⟨G, hG⟩ : ∃ G : State → Prop, G = own_G p e below s ({ frames := 2, cells := 0, slots := 0, locals := 24 } : Room).cells ({ frames := 2, cells := 0, slots := 0, locals := 24 } : Room).slots ((own_Q_ctor Z h0 n0 a f0 f1 f2 f3 f4 f5 f6 f7)) := ⟨_, rfl⟩
  have go : ∀ {S S' : State}, (∀ t, Steps p.tables e below S' t → Steps p.tables e below S t) → G S' → G S := by rw [hG]; exact own_to
  suffices hs : G (s₁.setTop (mkF m 0 #[.val (.ref a), .val (.int f0), .val (.int f1), .val (.int f2), .val (.int f3), .val (.int f4), .val (.int f5), .val (.int f6), .val (.int f7)] [])) by
    rw [hG] at hs
    exact own_to (fun _ kont => castTop (own_ef_own_rm_ctor m a f0 f1 f2 f3 f4 f5 f6 f7) kont) hs
  refine go (fun _ kont => XS.aloadN X0.here hx rfl (hb hby d_prog_165_method_1_0) rfl rfl kont) ?_
  show G (s₁.setTop (mkF m 1 #[.val (.ref a), .val (.int f0), .val (.int f1), .val (.int f2), .val (.int f3), .val (.int f4), .val (.int f5), .val (.int f6), .val (.int f7)] [(.ref a)]))
  obtain ⟨_, _, ⟨T1, L1, k1, n1⟩, -, X1, ⟨Lc1, hQ1, l1, y1, z1⟩, st1⟩ := X0.specialBack hx (y := (⟨"java/lang/Record", "<init>", "()V"⟩ : MethodName)) rfl hown (mvT hZ (hw _ (List.mem_of_getElem? (i := 6) rfl))) (mvT hZ (hw _ (List.mem_of_getElem? (i := 7) rfl))) (mvT hZ (hw _ (List.mem_of_getElem? (i := 10) rfl))) (by decide) (backOf (W := 0) (own_rm_rec l Z a0 hw [] a h0 n0 Z0) hZ (hw _ (List.mem_of_getElem? (i := 10) rfl)) (hw _ (List.mem_of_getElem? (i := 9) rfl)) (by decide) (by decide)) (g := (mkF m 1 #[.val (.ref a), .val (.int f0), .val (.int f1), .val (.int f2), .val (.int f3), .val (.int f4), .val (.int f5), .val (.int f6), .val (.int f7)] [(.ref a)])) rfl (by rw [hml]; rfl) (Steps.refl _) (a := a) (argsL := []) (rest := []) (lenOf own_pd0 rfl) rfl (by show 2 * 0 + _ ≤ _; exact Nat.le_of_eq rfl) (hb hby d_prog_165_method_1_1) (fun _ _ => ⟨rfl, e0, (by decide : 0 + 0 ≤ _), (by decide : 0 + 0 ≤ _)⟩)
  dsimp only [Pt.U, Pt.locs, Pt.cells, Pt.slots] at X1 l1 y1 z1 st1 hQ1
  subst l1 y1 z1
  obtain ⟨rfl, N1q, e1⟩ := hQ1
  have N1 := Fr.app N0 N1q
  refine go (fun _ kont => st1.trans kont) ?_
  show G (T1.setTop (mkF m 4 #[.val (.ref a), .val (.int f0), .val (.int f1), .val (.int f2), .val (.int f3), .val (.int f4), .val (.int f5), .val (.int f6), .val (.int f7)] []))
  refine go (fun _ kont => XS.aloadN X1.here hx rfl (hb hby d_prog_165_method_1_4) rfl rfl kont) ?_
  show G (T1.setTop (mkF m 5 #[.val (.ref a), .val (.int f0), .val (.int f1), .val (.int f2), .val (.int f3), .val (.int f4), .val (.int f5), .val (.int f6), .val (.int f7)] [(.ref a)]))
  refine go (fun _ kont => XS.iloadN X1.here hx rfl (hb hby d_prog_165_method_1_5) rfl  kont) ?_
  show G (T1.setTop (mkF m 6 #[.val (.ref a), .val (.int f0), .val (.int f1), .val (.int f2), .val (.int f3), .val (.int f4), .val (.int f5), .val (.int f6), .val (.int f7)] [(.int f0), (.ref a)]))
  obtain ⟨T2, h2, X2, e2, W2, st2⟩ := putF X1 hx hZ hown (host := "") (Or.inl (hw _ (List.mem_of_getElem? (i := 14) rfl))) Via.refl e1 F0 E (Or.inr ⟨(hw _ (List.mem_of_getElem? (i := 15) rfl)), rfl, hnm⟩) (hw _ (List.mem_of_getElem? (i := 1) rfl)) (ty := .int) (by decide) rfl rfl (g := (mkF m 6 #[.val (.ref a), .val (.int f0), .val (.int f1), .val (.int f2), .val (.int f3), .val (.int f4), .val (.int f5), .val (.int f6), .val (.int f7)] [(.int f0), (.ref a)])) rfl rfl (hb hby d_prog_165_method_1_6)
  refine go st2 ?_
  show G (T2.setTop (mkF m 9 #[.val (.ref a), .val (.int f0), .val (.int f1), .val (.int f2), .val (.int f3), .val (.int f4), .val (.int f5), .val (.int f6), .val (.int f7)] []))
  have N2 := Fr.snoc X2 N1 ga
  have E2 := E.wr W2
  have K2 := (Keep.refl h0 [a]).wr W2 (Or.inl (List.mem_of_getElem? (i := 0) rfl))
  have F0_2 := F0.same W2
  have F1_2 := F1.other W2 (Or.inr (slot_ne (t := .int) (t' := .int) (Or.inr (hw _ (List.mem_of_getElem? (i := 17) rfl))) (Or.inr (hw _ (List.mem_of_getElem? (i := 15) rfl))) (by decide) (by decide) (by decide)))
  have F2_2 := F2.other W2 (Or.inr (slot_ne (t := .int) (t' := .int) (Or.inr (hw _ (List.mem_of_getElem? (i := 19) rfl))) (Or.inr (hw _ (List.mem_of_getElem? (i := 15) rfl))) (by decide) (by decide) (by decide)))
  have F3_2 := F3.other W2 (Or.inr (slot_ne (t := .int) (t' := .int) (Or.inr (hw _ (List.mem_of_getElem? (i := 21) rfl))) (Or.inr (hw _ (List.mem_of_getElem? (i := 15) rfl))) (by decide) (by decide) (by decide)))
  have F4_2 := F4.other W2 (Or.inr (slot_ne (t := .int) (t' := .int) (Or.inr (hw _ (List.mem_of_getElem? (i := 23) rfl))) (Or.inr (hw _ (List.mem_of_getElem? (i := 15) rfl))) (by decide) (by decide) (by decide)))
  have F5_2 := F5.other W2 (Or.inr (slot_ne (t := .int) (t' := .int) (Or.inr (hw _ (List.mem_of_getElem? (i := 25) rfl))) (Or.inr (hw _ (List.mem_of_getElem? (i := 15) rfl))) (by decide) (by decide) (by decide)))
  have F6_2 := F6.other W2 (Or.inr (slot_ne (t := .int) (t' := .int) (Or.inr (hw _ (List.mem_of_getElem? (i := 27) rfl))) (Or.inr (hw _ (List.mem_of_getElem? (i := 15) rfl))) (by decide) (by decide) (by decide)))
  have F7_2 := F7.other W2 (Or.inr (slot_ne (t := .int) (t' := .int) (Or.inr (hw _ (List.mem_of_getElem? (i := 29) rfl))) (Or.inr (hw _ (List.mem_of_getElem? (i := 15) rfl))) (by decide) (by decide) (by decide)))
  refine go (fun _ kont => XS.aloadN X2.here hx rfl (hb hby d_prog_165_method_1_9) rfl rfl kont) ?_
  show G (T2.setTop (mkF m 10 #[.val (.ref a), .val (.int f0), .val (.int f1), .val (.int f2), .val (.int f3), .val (.int f4), .val (.int f5), .val (.int f6), .val (.int f7)] [(.ref a)]))
  refine go (fun _ kont => XS.iloadN X2.here hx rfl (hb hby d_prog_165_method_1_10) rfl  kont) ?_
  show G (T2.setTop (mkF m 11 #[.val (.ref a), .val (.int f0), .val (.int f1), .val (.int f2), .val (.int f3), .val (.int f4), .val (.int f5), .val (.int f6), .val (.int f7)] [(.int f1), (.ref a)]))
  obtain ⟨T3, h3, X3, e3, W3, st3⟩ := putF X2 hx hZ hown (host := "") (Or.inl (hw _ (List.mem_of_getElem? (i := 16) rfl))) Via.refl e2 F1_2 E2 (Or.inr ⟨(hw _ (List.mem_of_getElem? (i := 17) rfl)), rfl, hnm⟩) (hw _ (List.mem_of_getElem? (i := 1) rfl)) (ty := .int) (by decide) rfl rfl (g := (mkF m 11 #[.val (.ref a), .val (.int f0), .val (.int f1), .val (.int f2), .val (.int f3), .val (.int f4), .val (.int f5), .val (.int f6), .val (.int f7)] [(.int f1), (.ref a)])) rfl rfl (hb hby d_prog_165_method_1_11)
  refine go st3 ?_
  show G (T3.setTop (mkF m 14 #[.val (.ref a), .val (.int f0), .val (.int f1), .val (.int f2), .val (.int f3), .val (.int f4), .val (.int f5), .val (.int f6), .val (.int f7)] []))
  have N3 := Fr.snoc X3 N2 ga
  have E3 := E2.wr W3
  have K3 := K2.wr W3 (Or.inl (List.mem_of_getElem? (i := 0) rfl))
  have F0_3 := F0_2.other W3 (Or.inr (slot_ne (t := .int) (t' := .int) (Or.inr (hw _ (List.mem_of_getElem? (i := 15) rfl))) (Or.inr (hw _ (List.mem_of_getElem? (i := 17) rfl))) (by decide) (by decide) (by decide)))
  have F1_3 := F1_2.same W3
  have F2_3 := F2_2.other W3 (Or.inr (slot_ne (t := .int) (t' := .int) (Or.inr (hw _ (List.mem_of_getElem? (i := 19) rfl))) (Or.inr (hw _ (List.mem_of_getElem? (i := 17) rfl))) (by decide) (by decide) (by decide)))
  have F3_3 := F3_2.other W3 (Or.inr (slot_ne (t := .int) (t' := .int) (Or.inr (hw _ (List.mem_of_getElem? (i := 21) rfl))) (Or.inr (hw _ (List.mem_of_getElem? (i := 17) rfl))) (by decide) (by decide) (by decide)))
  have F4_3 := F4_2.other W3 (Or.inr (slot_ne (t := .int) (t' := .int) (Or.inr (hw _ (List.mem_of_getElem? (i := 23) rfl))) (Or.inr (hw _ (List.mem_of_getElem? (i := 17) rfl))) (by decide) (by decide) (by decide)))
  have F5_3 := F5_2.other W3 (Or.inr (slot_ne (t := .int) (t' := .int) (Or.inr (hw _ (List.mem_of_getElem? (i := 25) rfl))) (Or.inr (hw _ (List.mem_of_getElem? (i := 17) rfl))) (by decide) (by decide) (by decide)))
  have F6_3 := F6_2.other W3 (Or.inr (slot_ne (t := .int) (t' := .int) (Or.inr (hw _ (List.mem_of_getElem? (i := 27) rfl))) (Or.inr (hw _ (List.mem_of_getElem? (i := 17) rfl))) (by decide) (by decide) (by decide)))
  have F7_3 := F7_2.other W3 (Or.inr (slot_ne (t := .int) (t' := .int) (Or.inr (hw _ (List.mem_of_getElem? (i := 29) rfl))) (Or.inr (hw _ (List.mem_of_getElem? (i := 17) rfl))) (by decide) (by decide) (by decide)))
  refine go (fun _ kont => XS.aloadN X3.here hx rfl (hb hby d_prog_165_method_1_14) rfl rfl kont) ?_
  show G (T3.setTop (mkF m 15 #[.val (.ref a), .val (.int f0), .val (.int f1), .val (.int f2), .val (.int f3), .val (.int f4), .val (.int f5), .val (.int f6), .val (.int f7)] [(.ref a)]))
  refine go (fun _ kont => XS.iloadN X3.here hx rfl (hb hby d_prog_165_method_1_15) rfl  kont) ?_
  show G (T3.setTop (mkF m 16 #[.val (.ref a), .val (.int f0), .val (.int f1), .val (.int f2), .val (.int f3), .val (.int f4), .val (.int f5), .val (.int f6), .val (.int f7)] [(.int f2), (.ref a)]))
  obtain ⟨T4, h4, X4, e4, W4, st4⟩ := putF X3 hx hZ hown (host := "") (Or.inl (hw _ (List.mem_of_getElem? (i := 18) rfl))) Via.refl e3 F2_3 E3 (Or.inr ⟨(hw _ (List.mem_of_getElem? (i := 19) rfl)), rfl, hnm⟩) (hw _ (List.mem_of_getElem? (i := 1) rfl)) (ty := .int) (by decide) rfl rfl (g := (mkF m 16 #[.val (.ref a), .val (.int f0), .val (.int f1), .val (.int f2), .val (.int f3), .val (.int f4), .val (.int f5), .val (.int f6), .val (.int f7)] [(.int f2), (.ref a)])) rfl rfl (hb hby d_prog_165_method_1_16)
  refine go st4 ?_
  show G (T4.setTop (mkF m 19 #[.val (.ref a), .val (.int f0), .val (.int f1), .val (.int f2), .val (.int f3), .val (.int f4), .val (.int f5), .val (.int f6), .val (.int f7)] []))
  have N4 := Fr.snoc X4 N3 ga
  have E4 := E3.wr W4
  have K4 := K3.wr W4 (Or.inl (List.mem_of_getElem? (i := 0) rfl))
  have F0_4 := F0_3.other W4 (Or.inr (slot_ne (t := .int) (t' := .int) (Or.inr (hw _ (List.mem_of_getElem? (i := 15) rfl))) (Or.inr (hw _ (List.mem_of_getElem? (i := 19) rfl))) (by decide) (by decide) (by decide)))
  have F1_4 := F1_3.other W4 (Or.inr (slot_ne (t := .int) (t' := .int) (Or.inr (hw _ (List.mem_of_getElem? (i := 17) rfl))) (Or.inr (hw _ (List.mem_of_getElem? (i := 19) rfl))) (by decide) (by decide) (by decide)))
  have F2_4 := F2_3.same W4
  have F3_4 := F3_3.other W4 (Or.inr (slot_ne (t := .int) (t' := .int) (Or.inr (hw _ (List.mem_of_getElem? (i := 21) rfl))) (Or.inr (hw _ (List.mem_of_getElem? (i := 19) rfl))) (by decide) (by decide) (by decide)))
  have F4_4 := F4_3.other W4 (Or.inr (slot_ne (t := .int) (t' := .int) (Or.inr (hw _ (List.mem_of_getElem? (i := 23) rfl))) (Or.inr (hw _ (List.mem_of_getElem? (i := 19) rfl))) (by decide) (by decide) (by decide)))
  have F5_4 := F5_3.other W4 (Or.inr (slot_ne (t := .int) (t' := .int) (Or.inr (hw _ (List.mem_of_getElem? (i := 25) rfl))) (Or.inr (hw _ (List.mem_of_getElem? (i := 19) rfl))) (by decide) (by decide) (by decide)))
  have F6_4 := F6_3.other W4 (Or.inr (slot_ne (t := .int) (t' := .int) (Or.inr (hw _ (List.mem_of_getElem? (i := 27) rfl))) (Or.inr (hw _ (List.mem_of_getElem? (i := 19) rfl))) (by decide) (by decide) (by decide)))
  have F7_4 := F7_3.other W4 (Or.inr (slot_ne (t := .int) (t' := .int) (Or.inr (hw _ (List.mem_of_getElem? (i := 29) rfl))) (Or.inr (hw _ (List.mem_of_getElem? (i := 19) rfl))) (by decide) (by decide) (by decide)))
  refine go (fun _ kont => XS.aloadN X4.here hx rfl (hb hby d_prog_165_method_1_19) rfl rfl kont) ?_
  show G (T4.setTop (mkF m 20 #[.val (.ref a), .val (.int f0), .val (.int f1), .val (.int f2), .val (.int f3), .val (.int f4), .val (.int f5), .val (.int f6), .val (.int f7)] [(.ref a)]))
  refine go (fun _ kont => XS.iload X4.here hx rfl (hb hby d_prog_165_method_1_20) rfl  kont) ?_
  show G (T4.setTop (mkF m 22 #[.val (.ref a), .val (.int f0), .val (.int f1), .val (.int f2), .val (.int f3), .val (.int f4), .val (.int f5), .val (.int f6), .val (.int f7)] [(.int f3), (.ref a)]))
  obtain ⟨T5, h5, X5, e5, W5, st5⟩ := putF X4 hx hZ hown (host := "") (Or.inl (hw _ (List.mem_of_getElem? (i := 20) rfl))) Via.refl e4 F3_4 E4 (Or.inr ⟨(hw _ (List.mem_of_getElem? (i := 21) rfl)), rfl, hnm⟩) (hw _ (List.mem_of_getElem? (i := 1) rfl)) (ty := .int) (by decide) rfl rfl (g := (mkF m 22 #[.val (.ref a), .val (.int f0), .val (.int f1), .val (.int f2), .val (.int f3), .val (.int f4), .val (.int f5), .val (.int f6), .val (.int f7)] [(.int f3), (.ref a)])) rfl rfl (hb hby d_prog_165_method_1_22)
  refine go st5 ?_
  show G (T5.setTop (mkF m 25 #[.val (.ref a), .val (.int f0), .val (.int f1), .val (.int f2), .val (.int f3), .val (.int f4), .val (.int f5), .val (.int f6), .val (.int f7)] []))
  have N5 := Fr.snoc X5 N4 ga
  have E5 := E4.wr W5
  have K5 := K4.wr W5 (Or.inl (List.mem_of_getElem? (i := 0) rfl))
  have F0_5 := F0_4.other W5 (Or.inr (slot_ne (t := .int) (t' := .int) (Or.inr (hw _ (List.mem_of_getElem? (i := 15) rfl))) (Or.inr (hw _ (List.mem_of_getElem? (i := 21) rfl))) (by decide) (by decide) (by decide)))
  have F1_5 := F1_4.other W5 (Or.inr (slot_ne (t := .int) (t' := .int) (Or.inr (hw _ (List.mem_of_getElem? (i := 17) rfl))) (Or.inr (hw _ (List.mem_of_getElem? (i := 21) rfl))) (by decide) (by decide) (by decide)))
  have F2_5 := F2_4.other W5 (Or.inr (slot_ne (t := .int) (t' := .int) (Or.inr (hw _ (List.mem_of_getElem? (i := 19) rfl))) (Or.inr (hw _ (List.mem_of_getElem? (i := 21) rfl))) (by decide) (by decide) (by decide)))
  have F3_5 := F3_4.same W5
  have F4_5 := F4_4.other W5 (Or.inr (slot_ne (t := .int) (t' := .int) (Or.inr (hw _ (List.mem_of_getElem? (i := 23) rfl))) (Or.inr (hw _ (List.mem_of_getElem? (i := 21) rfl))) (by decide) (by decide) (by decide)))
  have F5_5 := F5_4.other W5 (Or.inr (slot_ne (t := .int) (t' := .int) (Or.inr (hw _ (List.mem_of_getElem? (i := 25) rfl))) (Or.inr (hw _ (List.mem_of_getElem? (i := 21) rfl))) (by decide) (by decide) (by decide)))
  have F6_5 := F6_4.other W5 (Or.inr (slot_ne (t := .int) (t' := .int) (Or.inr (hw _ (List.mem_of_getElem? (i := 27) rfl))) (Or.inr (hw _ (List.mem_of_getElem? (i := 21) rfl))) (by decide) (by decide) (by decide)))
  have F7_5 := F7_4.other W5 (Or.inr (slot_ne (t := .int) (t' := .int) (Or.inr (hw _ (List.mem_of_getElem? (i := 29) rfl))) (Or.inr (hw _ (List.mem_of_getElem? (i := 21) rfl))) (by decide) (by decide) (by decide)))
  refine go (fun _ kont => XS.aloadN X5.here hx rfl (hb hby d_prog_165_method_1_25) rfl rfl kont) ?_
  show G (T5.setTop (mkF m 26 #[.val (.ref a), .val (.int f0), .val (.int f1), .val (.int f2), .val (.int f3), .val (.int f4), .val (.int f5), .val (.int f6), .val (.int f7)] [(.ref a)]))
  refine go (fun _ kont => XS.iload X5.here hx rfl (hb hby d_prog_165_method_1_26) rfl  kont) ?_
  show G (T5.setTop (mkF m 28 #[.val (.ref a), .val (.int f0), .val (.int f1), .val (.int f2), .val (.int f3), .val (.int f4), .val (.int f5), .val (.int f6), .val (.int f7)] [(.int f4), (.ref a)]))
  obtain ⟨T6, h6, X6, e6, W6, st6⟩ := putF X5 hx hZ hown (host := "") (Or.inl (hw _ (List.mem_of_getElem? (i := 22) rfl))) Via.refl e5 F4_5 E5 (Or.inr ⟨(hw _ (List.mem_of_getElem? (i := 23) rfl)), rfl, hnm⟩) (hw _ (List.mem_of_getElem? (i := 1) rfl)) (ty := .int) (by decide) rfl rfl (g := (mkF m 28 #[.val (.ref a), .val (.int f0), .val (.int f1), .val (.int f2), .val (.int f3), .val (.int f4), .val (.int f5), .val (.int f6), .val (.int f7)] [(.int f4), (.ref a)])) rfl rfl (hb hby d_prog_165_method_1_28)
  refine go st6 ?_
  show G (T6.setTop (mkF m 31 #[.val (.ref a), .val (.int f0), .val (.int f1), .val (.int f2), .val (.int f3), .val (.int f4), .val (.int f5), .val (.int f6), .val (.int f7)] []))
  have N6 := Fr.snoc X6 N5 ga
  have E6 := E5.wr W6
  have K6 := K5.wr W6 (Or.inl (List.mem_of_getElem? (i := 0) rfl))
  have F0_6 := F0_5.other W6 (Or.inr (slot_ne (t := .int) (t' := .int) (Or.inr (hw _ (List.mem_of_getElem? (i := 15) rfl))) (Or.inr (hw _ (List.mem_of_getElem? (i := 23) rfl))) (by decide) (by decide) (by decide)))
  have F1_6 := F1_5.other W6 (Or.inr (slot_ne (t := .int) (t' := .int) (Or.inr (hw _ (List.mem_of_getElem? (i := 17) rfl))) (Or.inr (hw _ (List.mem_of_getElem? (i := 23) rfl))) (by decide) (by decide) (by decide)))
  have F2_6 := F2_5.other W6 (Or.inr (slot_ne (t := .int) (t' := .int) (Or.inr (hw _ (List.mem_of_getElem? (i := 19) rfl))) (Or.inr (hw _ (List.mem_of_getElem? (i := 23) rfl))) (by decide) (by decide) (by decide)))
  have F3_6 := F3_5.other W6 (Or.inr (slot_ne (t := .int) (t' := .int) (Or.inr (hw _ (List.mem_of_getElem? (i := 21) rfl))) (Or.inr (hw _ (List.mem_of_getElem? (i := 23) rfl))) (by decide) (by decide) (by decide)))
  have F4_6 := F4_5.same W6
  have F5_6 := F5_5.other W6 (Or.inr (slot_ne (t := .int) (t' := .int) (Or.inr (hw _ (List.mem_of_getElem? (i := 25) rfl))) (Or.inr (hw _ (List.mem_of_getElem? (i := 23) rfl))) (by decide) (by decide) (by decide)))
  have F6_6 := F6_5.other W6 (Or.inr (slot_ne (t := .int) (t' := .int) (Or.inr (hw _ (List.mem_of_getElem? (i := 27) rfl))) (Or.inr (hw _ (List.mem_of_getElem? (i := 23) rfl))) (by decide) (by decide) (by decide)))
  have F7_6 := F7_5.other W6 (Or.inr (slot_ne (t := .int) (t' := .int) (Or.inr (hw _ (List.mem_of_getElem? (i := 29) rfl))) (Or.inr (hw _ (List.mem_of_getElem? (i := 23) rfl))) (by decide) (by decide) (by decide)))
  refine go (fun _ kont => XS.aloadN X6.here hx rfl (hb hby d_prog_165_method_1_31) rfl rfl kont) ?_
  show G (T6.setTop (mkF m 32 #[.val (.ref a), .val (.int f0), .val (.int f1), .val (.int f2), .val (.int f3), .val (.int f4), .val (.int f5), .val (.int f6), .val (.int f7)] [(.ref a)]))
  refine go (fun _ kont => XS.iload X6.here hx rfl (hb hby d_prog_165_method_1_32) rfl  kont) ?_
  show G (T6.setTop (mkF m 34 #[.val (.ref a), .val (.int f0), .val (.int f1), .val (.int f2), .val (.int f3), .val (.int f4), .val (.int f5), .val (.int f6), .val (.int f7)] [(.int f5), (.ref a)]))
  obtain ⟨T7, h7, X7, e7, W7, st7⟩ := putF X6 hx hZ hown (host := "") (Or.inl (hw _ (List.mem_of_getElem? (i := 24) rfl))) Via.refl e6 F5_6 E6 (Or.inr ⟨(hw _ (List.mem_of_getElem? (i := 25) rfl)), rfl, hnm⟩) (hw _ (List.mem_of_getElem? (i := 1) rfl)) (ty := .int) (by decide) rfl rfl (g := (mkF m 34 #[.val (.ref a), .val (.int f0), .val (.int f1), .val (.int f2), .val (.int f3), .val (.int f4), .val (.int f5), .val (.int f6), .val (.int f7)] [(.int f5), (.ref a)])) rfl rfl (hb hby d_prog_165_method_1_34)
  refine go st7 ?_
  show G (T7.setTop (mkF m 37 #[.val (.ref a), .val (.int f0), .val (.int f1), .val (.int f2), .val (.int f3), .val (.int f4), .val (.int f5), .val (.int f6), .val (.int f7)] []))
  have N7 := Fr.snoc X7 N6 ga
  have E7 := E6.wr W7
  have K7 := K6.wr W7 (Or.inl (List.mem_of_getElem? (i := 0) rfl))
  have F0_7 := F0_6.other W7 (Or.inr (slot_ne (t := .int) (t' := .int) (Or.inr (hw _ (List.mem_of_getElem? (i := 15) rfl))) (Or.inr (hw _ (List.mem_of_getElem? (i := 25) rfl))) (by decide) (by decide) (by decide)))
  have F1_7 := F1_6.other W7 (Or.inr (slot_ne (t := .int) (t' := .int) (Or.inr (hw _ (List.mem_of_getElem? (i := 17) rfl))) (Or.inr (hw _ (List.mem_of_getElem? (i := 25) rfl))) (by decide) (by decide) (by decide)))
  have F2_7 := F2_6.other W7 (Or.inr (slot_ne (t := .int) (t' := .int) (Or.inr (hw _ (List.mem_of_getElem? (i := 19) rfl))) (Or.inr (hw _ (List.mem_of_getElem? (i := 25) rfl))) (by decide) (by decide) (by decide)))
  have F3_7 := F3_6.other W7 (Or.inr (slot_ne (t := .int) (t' := .int) (Or.inr (hw _ (List.mem_of_getElem? (i := 21) rfl))) (Or.inr (hw _ (List.mem_of_getElem? (i := 25) rfl))) (by decide) (by decide) (by decide)))
  have F4_7 := F4_6.other W7 (Or.inr (slot_ne (t := .int) (t' := .int) (Or.inr (hw _ (List.mem_of_getElem? (i := 23) rfl))) (Or.inr (hw _ (List.mem_of_getElem? (i := 25) rfl))) (by decide) (by decide) (by decide)))
  have F5_7 := F5_6.same W7
  have F6_7 := F6_6.other W7 (Or.inr (slot_ne (t := .int) (t' := .int) (Or.inr (hw _ (List.mem_of_getElem? (i := 27) rfl))) (Or.inr (hw _ (List.mem_of_getElem? (i := 25) rfl))) (by decide) (by decide) (by decide)))
  have F7_7 := F7_6.other W7 (Or.inr (slot_ne (t := .int) (t' := .int) (Or.inr (hw _ (List.mem_of_getElem? (i := 29) rfl))) (Or.inr (hw _ (List.mem_of_getElem? (i := 25) rfl))) (by decide) (by decide) (by decide)))
  refine go (fun _ kont => XS.aloadN X7.here hx rfl (hb hby d_prog_165_method_1_37) rfl rfl kont) ?_
  show G (T7.setTop (mkF m 38 #[.val (.ref a), .val (.int f0), .val (.int f1), .val (.int f2), .val (.int f3), .val (.int f4), .val (.int f5), .val (.int f6), .val (.int f7)] [(.ref a)]))
  refine go (fun _ kont => XS.iload X7.here hx rfl (hb hby d_prog_165_method_1_38) rfl  kont) ?_
  show G (T7.setTop (mkF m 40 #[.val (.ref a), .val (.int f0), .val (.int f1), .val (.int f2), .val (.int f3), .val (.int f4), .val (.int f5), .val (.int f6), .val (.int f7)] [(.int f6), (.ref a)]))
  obtain ⟨T8, h8, X8, e8, W8, st8⟩ := putF X7 hx hZ hown (host := "") (Or.inl (hw _ (List.mem_of_getElem? (i := 26) rfl))) Via.refl e7 F6_7 E7 (Or.inr ⟨(hw _ (List.mem_of_getElem? (i := 27) rfl)), rfl, hnm⟩) (hw _ (List.mem_of_getElem? (i := 1) rfl)) (ty := .int) (by decide) rfl rfl (g := (mkF m 40 #[.val (.ref a), .val (.int f0), .val (.int f1), .val (.int f2), .val (.int f3), .val (.int f4), .val (.int f5), .val (.int f6), .val (.int f7)] [(.int f6), (.ref a)])) rfl rfl (hb hby d_prog_165_method_1_40)
  refine go st8 ?_
  show G (T8.setTop (mkF m 43 #[.val (.ref a), .val (.int f0), .val (.int f1), .val (.int f2), .val (.int f3), .val (.int f4), .val (.int f5), .val (.int f6), .val (.int f7)] []))
  have N8 := Fr.snoc X8 N7 ga
  have E8 := E7.wr W8
  have K8 := K7.wr W8 (Or.inl (List.mem_of_getElem? (i := 0) rfl))
  have F0_8 := F0_7.other W8 (Or.inr (slot_ne (t := .int) (t' := .int) (Or.inr (hw _ (List.mem_of_getElem? (i := 15) rfl))) (Or.inr (hw _ (List.mem_of_getElem? (i := 27) rfl))) (by decide) (by decide) (by decide)))
  have F1_8 := F1_7.other W8 (Or.inr (slot_ne (t := .int) (t' := .int) (Or.inr (hw _ (List.mem_of_getElem? (i := 17) rfl))) (Or.inr (hw _ (List.mem_of_getElem? (i := 27) rfl))) (by decide) (by decide) (by decide)))
  have F2_8 := F2_7.other W8 (Or.inr (slot_ne (t := .int) (t' := .int) (Or.inr (hw _ (List.mem_of_getElem? (i := 19) rfl))) (Or.inr (hw _ (List.mem_of_getElem? (i := 27) rfl))) (by decide) (by decide) (by decide)))
  have F3_8 := F3_7.other W8 (Or.inr (slot_ne (t := .int) (t' := .int) (Or.inr (hw _ (List.mem_of_getElem? (i := 21) rfl))) (Or.inr (hw _ (List.mem_of_getElem? (i := 27) rfl))) (by decide) (by decide) (by decide)))
  have F4_8 := F4_7.other W8 (Or.inr (slot_ne (t := .int) (t' := .int) (Or.inr (hw _ (List.mem_of_getElem? (i := 23) rfl))) (Or.inr (hw _ (List.mem_of_getElem? (i := 27) rfl))) (by decide) (by decide) (by decide)))
  have F5_8 := F5_7.other W8 (Or.inr (slot_ne (t := .int) (t' := .int) (Or.inr (hw _ (List.mem_of_getElem? (i := 25) rfl))) (Or.inr (hw _ (List.mem_of_getElem? (i := 27) rfl))) (by decide) (by decide) (by decide)))
  have F6_8 := F6_7.same W8
  have F7_8 := F7_7.other W8 (Or.inr (slot_ne (t := .int) (t' := .int) (Or.inr (hw _ (List.mem_of_getElem? (i := 29) rfl))) (Or.inr (hw _ (List.mem_of_getElem? (i := 27) rfl))) (by decide) (by decide) (by decide)))
  refine go (fun _ kont => XS.aloadN X8.here hx rfl (hb hby d_prog_165_method_1_43) rfl rfl kont) ?_
  show G (T8.setTop (mkF m 44 #[.val (.ref a), .val (.int f0), .val (.int f1), .val (.int f2), .val (.int f3), .val (.int f4), .val (.int f5), .val (.int f6), .val (.int f7)] [(.ref a)]))
  refine go (fun _ kont => XS.iload X8.here hx rfl (hb hby d_prog_165_method_1_44) rfl  kont) ?_
  show G (T8.setTop (mkF m 46 #[.val (.ref a), .val (.int f0), .val (.int f1), .val (.int f2), .val (.int f3), .val (.int f4), .val (.int f5), .val (.int f6), .val (.int f7)] [(.int f7), (.ref a)]))
  obtain ⟨T9, h9, X9, e9, W9, st9⟩ := putF X8 hx hZ hown (host := "") (Or.inl (hw _ (List.mem_of_getElem? (i := 28) rfl))) Via.refl e8 F7_8 E8 (Or.inr ⟨(hw _ (List.mem_of_getElem? (i := 29) rfl)), rfl, hnm⟩) (hw _ (List.mem_of_getElem? (i := 1) rfl)) (ty := .int) (by decide) rfl rfl (g := (mkF m 46 #[.val (.ref a), .val (.int f0), .val (.int f1), .val (.int f2), .val (.int f3), .val (.int f4), .val (.int f5), .val (.int f6), .val (.int f7)] [(.int f7), (.ref a)])) rfl rfl (hb hby d_prog_165_method_1_46)
  refine go st9 ?_
  show G (T9.setTop (mkF m 49 #[.val (.ref a), .val (.int f0), .val (.int f1), .val (.int f2), .val (.int f3), .val (.int f4), .val (.int f5), .val (.int f6), .val (.int f7)] []))
  have N9 := Fr.snoc X9 N8 ga
  have E9 := E8.wr W9
  have K9 := K8.wr W9 (Or.inl (List.mem_of_getElem? (i := 0) rfl))
  have F0_9 := F0_8.other W9 (Or.inr (slot_ne (t := .int) (t' := .int) (Or.inr (hw _ (List.mem_of_getElem? (i := 15) rfl))) (Or.inr (hw _ (List.mem_of_getElem? (i := 29) rfl))) (by decide) (by decide) (by decide)))
  have F1_9 := F1_8.other W9 (Or.inr (slot_ne (t := .int) (t' := .int) (Or.inr (hw _ (List.mem_of_getElem? (i := 17) rfl))) (Or.inr (hw _ (List.mem_of_getElem? (i := 29) rfl))) (by decide) (by decide) (by decide)))
  have F2_9 := F2_8.other W9 (Or.inr (slot_ne (t := .int) (t' := .int) (Or.inr (hw _ (List.mem_of_getElem? (i := 19) rfl))) (Or.inr (hw _ (List.mem_of_getElem? (i := 29) rfl))) (by decide) (by decide) (by decide)))
  have F3_9 := F3_8.other W9 (Or.inr (slot_ne (t := .int) (t' := .int) (Or.inr (hw _ (List.mem_of_getElem? (i := 21) rfl))) (Or.inr (hw _ (List.mem_of_getElem? (i := 29) rfl))) (by decide) (by decide) (by decide)))
  have F4_9 := F4_8.other W9 (Or.inr (slot_ne (t := .int) (t' := .int) (Or.inr (hw _ (List.mem_of_getElem? (i := 23) rfl))) (Or.inr (hw _ (List.mem_of_getElem? (i := 29) rfl))) (by decide) (by decide) (by decide)))
  have F5_9 := F5_8.other W9 (Or.inr (slot_ne (t := .int) (t' := .int) (Or.inr (hw _ (List.mem_of_getElem? (i := 25) rfl))) (Or.inr (hw _ (List.mem_of_getElem? (i := 29) rfl))) (by decide) (by decide) (by decide)))
  have F6_9 := F6_8.other W9 (Or.inr (slot_ne (t := .int) (t' := .int) (Or.inr (hw _ (List.mem_of_getElem? (i := 27) rfl))) (Or.inr (hw _ (List.mem_of_getElem? (i := 29) rfl))) (by decide) (by decide) (by decide)))
  have F7_9 := F7_8.same W9
  rw [hG]
  exact own_retV X9 hx Bd.returns (hb hby d_prog_165_method_1_49) hlk (by decide) (by decide) (by rw [e9]; exact ⟨rfl, N9, K9, E9, F0_9, F1_9, F2_9, F3_9, F4_9, F5_9, F6_9, F7_9⟩)
theorem own_ef_own_rm_isZero (m : MethodId) (x0 : Addr) : entryFrame m #[(.ref x0)] 1 = mkF m 0 #[.val (.ref x0)] [] := by first | (simp [entryFrame, mkF, argsToLocals, Value.category]; done) | rfl
set_option maxRecDepth 65536 in
set_option maxHeartbeats 40000000 in
theorem own_rm_isZero (l : Launch) (Z : State) (a0 : Array Value) (hw : ∀ d ∈ tables_1, d.before a0 Z = true) (ws : List Jvm.Cond) (a : Addr) (h0 : Heap) (n0 : Nat) (Z0 : n0 ≤ h0.size) (f0 f1 f2 f3 f4 f5 f6 : Int32) (F0 : Fld Z h0 a "com/example/wary_ddl/waryddl/sql/DateTimeText" "year" "I" (.int f0)) (F1 : Fld Z h0 a "com/example/wary_ddl/waryddl/sql/DateTimeText" "month" "I" (.int f1)) (F2 : Fld Z h0 a "com/example/wary_ddl/waryddl/sql/DateTimeText" "day" "I" (.int f2)) (F3 : Fld Z h0 a "com/example/wary_ddl/waryddl/sql/DateTimeText" "hour" "I" (.int f3)) (F4 : Fld Z h0 a "com/example/wary_ddl/waryddl/sql/DateTimeText" "minute" "I" (.int f4)) (F5 : Fld Z h0 a "com/example/wary_ddl/waryddl/sql/DateTimeText" "second" "I" (.int f5)) (F6 : Fld Z h0 a "com/example/wary_ddl/waryddl/sql/DateTimeText" "nanos" "I" (.int f6)) :
    MetFree l (⟨"com/example/wary_ddl/waryddl/sql/DateTimeText", "isZero", "()Z"⟩ : MethodName) (head1 (Jvm.Cond.code (⟨"com/example/wary_ddl/waryddl/sql/DateTimeText", "isZero", "()Z"⟩ : MethodName) prog_165_method_3_code 1 (some .boolean) :: ws) ({ frames := 0, cells := 0, slots := 0, locals := 0 } : Room)) (fun aq Uq => aq = #[(.ref a)] ∧ Z.Warmed39 Uq.vm ∧ Uq.heap = h0) (fun _ _ _ _ _ => True) (fun _ Uq oq Uq' => ∃ vq Lq, oq = .returned vq ∧ (own_Qp (some (.int (own_isZero f0 f1 f2 f3 f4 f5 f6))) h0 n0) vq Uq'.heap Lq ∧ FrameEnd Uq oq Uq' Lq ({ frames := 0, cells := 0, slots := 0, locals := 0 } : Room).cells ({ frames := 0, cells := 0, slots := 0, locals := 0 } : Room).slots) := by
  refine MetFree.of_bodySF (plainFor_of_name own_pn1) hisR ?_
  intro p e s m args below meth c s₁ Bd hml0 hP hK
  obtain ⟨rfl, hZ, hh⟩ := hP
  have hx := Bd.exec
  have hby := Bd.bytes
  have hml : c.maxLocals = 1 := hml0
  have hown : s.vm.findClass "com/example/wary_ddl/waryddl/sql/DateTimeText" = some m.cls := findClass_of_methodNamed Bd.named
  have hnm := (name_of_methodNamed Bd.named Bd.method).1
  have X0 : Stand p l e ({ frames := 0, cells := 0, slots := 0, locals := 0 } : Room) s m #[(.ref a)] below meth c s₁ [] 0 0 := Stand.of_body Bd
  have e0 : s₁.heap = h0 := by rw [← hh, Bd.state]; rfl
  have N0 := Fr.nil n0
  have hlk : meth.locks = false := by first | exact BodyLoose.notSynchronized Bd | exact Body.notSynchronized Bd
  obtain ⟨G, hG⟩ : ∃ G : State → Prop, G = own_G p e below s ({ frames := 0, cells := 0, slots := 0, locals := 0 } : Room).cells ({ frames := 0, cells := 0, slots := 0, locals := 0 } : Room).slots ((own_Qp (some (.int (own_isZero f0 f1 f2 f3 f4 f5 f6))) h0 n0)) := ⟨_, rfl⟩
  have go : ∀ {S S' : State}, (∀ t, Steps p.tables e below S' t → Steps p.tables e below S t) → G S' → G S := by rw [hG]; exact own_to
  suffices hs : G (s₁.setTop (mkF m 0 #[.val (.ref a)] [])) by
    rw [hG] at hs
    exact own_to (fun _ kont => castTop (own_ef_own_rm_isZero m a) kont) hs
  refine go (fun _ kont => XS.aloadN X0.here hx rfl (hb hby d_prog_165_method_3_0) rfl rfl kont) ?_
  show G (s₁.setTop (mkF m 1 #[.val (.ref a)] [(.ref a)]))
  obtain ⟨T1, X1, e1, st1⟩ := getF X0 hx hZ hown (host := "") (Or.inl (hw _ (List.mem_of_getElem? (i := 14) rfl))) Via.refl e0 F0 (g := (mkF m 1 #[.val (.ref a)] [(.ref a)])) rfl rfl (hb hby d_prog_165_method_3_1)
  refine go st1 ?_
  show G (T1.setTop (mkF m 4 #[.val (.ref a)] [(.int f0)]))
  by_cases hc4 : f0 = (0 : Int32)
  · refine go (fun _ kont => XS.ifNo X1.here hx rfl (hb hby d_prog_165_method_3_4) rfl ((if0 _ _).trans (teq hc4).2) kont) ?_
    show G (T1.setTop (mkF m 7 #[.val (.ref a)] []))
    refine go (fun _ kont => XS.aloadN X1.here hx rfl (hb hby d_prog_165_method_3_7) rfl rfl kont) ?_
    show G (T1.setTop (mkF m 8 #[.val (.ref a)] [(.ref a)]))
    obtain ⟨T2, X2, e2, st2⟩ := getF X1 hx hZ hown (host := "") (Or.inl (hw _ (List.mem_of_getElem? (i := 16) rfl))) Via.refl e1 F1 (g := (mkF m 8 #[.val (.ref a)] [(.ref a)])) rfl rfl (hb hby d_prog_165_method_3_8)
    refine go st2 ?_
    show G (T2.setTop (mkF m 11 #[.val (.ref a)] [(.int f1)]))
    by_cases hc11 : f1 = (0 : Int32)
    · refine go (fun _ kont => XS.ifNo X2.here hx rfl (hb hby d_prog_165_method_3_11) rfl ((if0 _ _).trans (teq hc11).2) kont) ?_
      show G (T2.setTop (mkF m 14 #[.val (.ref a)] []))
      refine go (fun _ kont => XS.aloadN X2.here hx rfl (hb hby d_prog_165_method_3_14) rfl rfl kont) ?_
      show G (T2.setTop (mkF m 15 #[.val (.ref a)] [(.ref a)]))
      obtain ⟨T3, X3, e3, st3⟩ := getF X2 hx hZ hown (host := "") (Or.inl (hw _ (List.mem_of_getElem? (i := 18) rfl))) Via.refl e2 F2 (g := (mkF m 15 #[.val (.ref a)] [(.ref a)])) rfl rfl (hb hby d_prog_165_method_3_15)
      refine go st3 ?_
      show G (T3.setTop (mkF m 18 #[.val (.ref a)] [(.int f2)]))
      by_cases hc18 : f2 = (0 : Int32)
      · refine go (fun _ kont => XS.ifNo X3.here hx rfl (hb hby d_prog_165_method_3_18) rfl ((if0 _ _).trans (teq hc18).2) kont) ?_
        show G (T3.setTop (mkF m 21 #[.val (.ref a)] []))
        refine go (fun _ kont => XS.aloadN X3.here hx rfl (hb hby d_prog_165_method_3_21) rfl rfl kont) ?_
        show G (T3.setTop (mkF m 22 #[.val (.ref a)] [(.ref a)]))
        obtain ⟨T4, X4, e4, st4⟩ := getF X3 hx hZ hown (host := "") (Or.inl (hw _ (List.mem_of_getElem? (i := 20) rfl))) Via.refl e3 F3 (g := (mkF m 22 #[.val (.ref a)] [(.ref a)])) rfl rfl (hb hby d_prog_165_method_3_22)
        refine go st4 ?_
        show G (T4.setTop (mkF m 25 #[.val (.ref a)] [(.int f3)]))
        by_cases hc25 : f3 = (0 : Int32)
        · refine go (fun _ kont => XS.ifNo X4.here hx rfl (hb hby d_prog_165_method_3_25) rfl ((if0 _ _).trans (teq hc25).2) kont) ?_
          show G (T4.setTop (mkF m 28 #[.val (.ref a)] []))
          refine go (fun _ kont => XS.aloadN X4.here hx rfl (hb hby d_prog_165_method_3_28) rfl rfl kont) ?_
          show G (T4.setTop (mkF m 29 #[.val (.ref a)] [(.ref a)]))
          obtain ⟨T5, X5, e5, st5⟩ := getF X4 hx hZ hown (host := "") (Or.inl (hw _ (List.mem_of_getElem? (i := 22) rfl))) Via.refl e4 F4 (g := (mkF m 29 #[.val (.ref a)] [(.ref a)])) rfl rfl (hb hby d_prog_165_method_3_29)
          refine go st5 ?_
          show G (T5.setTop (mkF m 32 #[.val (.ref a)] [(.int f4)]))
          by_cases hc32 : f4 = (0 : Int32)
          · refine go (fun _ kont => XS.ifNo X5.here hx rfl (hb hby d_prog_165_method_3_32) rfl ((if0 _ _).trans (teq hc32).2) kont) ?_
            show G (T5.setTop (mkF m 35 #[.val (.ref a)] []))
            refine go (fun _ kont => XS.aloadN X5.here hx rfl (hb hby d_prog_165_method_3_35) rfl rfl kont) ?_
            show G (T5.setTop (mkF m 36 #[.val (.ref a)] [(.ref a)]))
            obtain ⟨T6, X6, e6, st6⟩ := getF X5 hx hZ hown (host := "") (Or.inl (hw _ (List.mem_of_getElem? (i := 24) rfl))) Via.refl e5 F5 (g := (mkF m 36 #[.val (.ref a)] [(.ref a)])) rfl rfl (hb hby d_prog_165_method_3_36)
            refine go st6 ?_
            show G (T6.setTop (mkF m 39 #[.val (.ref a)] [(.int f5)]))
            by_cases hc39 : f5 = (0 : Int32)
            · refine go (fun _ kont => XS.ifNo X6.here hx rfl (hb hby d_prog_165_method_3_39) rfl ((if0 _ _).trans (teq hc39).2) kont) ?_
              show G (T6.setTop (mkF m 42 #[.val (.ref a)] []))
              refine go (fun _ kont => XS.aloadN X6.here hx rfl (hb hby d_prog_165_method_3_42) rfl rfl kont) ?_
              show G (T6.setTop (mkF m 43 #[.val (.ref a)] [(.ref a)]))
              obtain ⟨T7, X7, e7, st7⟩ := getF X6 hx hZ hown (host := "") (Or.inl (hw _ (List.mem_of_getElem? (i := 26) rfl))) Via.refl e6 F6 (g := (mkF m 43 #[.val (.ref a)] [(.ref a)])) rfl rfl (hb hby d_prog_165_method_3_43)
              refine go st7 ?_
              show G (T7.setTop (mkF m 46 #[.val (.ref a)] [(.int f6)]))
              by_cases hc46 : f6 = (0 : Int32)
              · refine go (fun _ kont => XS.ifNo X7.here hx rfl (hb hby d_prog_165_method_3_46) rfl ((if0 _ _).trans (teq hc46).2) kont) ?_
                show G (T7.setTop (mkF m 49 #[.val (.ref a)] []))
                refine go (fun _ kont => XS.iconst X7.here hx rfl (hb hby d_prog_165_method_3_49) kont) ?_
                show G (T7.setTop (mkF m 50 #[.val (.ref a)] [(.int (1 : Int32))]))
                refine go (fun _ kont => XS.goto X7.here hx rfl (pc0 := 50) (pc' := 54) rfl (hb hby d_prog_165_method_3_50) (by decide) (by decide) kont) ?_
                show G (T7.setTop (mkF m 54 #[.val (.ref a)] [(.int (1 : Int32))]))
                rw [hG]
                exact own_retN X7 hx (t := .boolean) Bd.returns (by simp) (hb hby d_prog_165_method_3_54) hlk (by decide) (by decide) ⟨by simp [own_isZero, *] <;> rfl, N0, e7⟩
              · refine go (fun _ kont => XS.ifYes X7.here hx rfl (pc0 := 46) (pc' := 53) rfl (hb hby d_prog_165_method_3_46) rfl ((if0 _ _).trans (feq hc46).2) (by decide) (by decide) kont) ?_
                show G (T7.setTop (mkF m 53 #[.val (.ref a)] []))
                refine go (fun _ kont => XS.iconst X7.here hx rfl (hb hby d_prog_165_method_3_53) kont) ?_
                show G (T7.setTop (mkF m 54 #[.val (.ref a)] [(.int (0 : Int32))]))
                rw [hG]
                exact own_retN X7 hx (t := .boolean) Bd.returns (by simp) (hb hby d_prog_165_method_3_54) hlk (by decide) (by decide) ⟨by simp [own_isZero, *] <;> rfl, N0, e7⟩
            · refine go (fun _ kont => XS.ifYes X6.here hx rfl (pc0 := 39) (pc' := 53) rfl (hb hby d_prog_165_method_3_39) rfl ((if0 _ _).trans (feq hc39).2) (by decide) (by decide) kont) ?_
              show G (T6.setTop (mkF m 53 #[.val (.ref a)] []))
              refine go (fun _ kont => XS.iconst X6.here hx rfl (hb hby d_prog_165_method_3_53) kont) ?_
              show G (T6.setTop (mkF m 54 #[.val (.ref a)] [(.int (0 : Int32))]))
              rw [hG]
              exact own_retN X6 hx (t := .boolean) Bd.returns (by simp) (hb hby d_prog_165_method_3_54) hlk (by decide) (by decide) ⟨by simp [own_isZero, *] <;> rfl, N0, e6⟩
          · refine go (fun _ kont => XS.ifYes X5.here hx rfl (pc0 := 32) (pc' := 53) rfl (hb hby d_prog_165_method_3_32) rfl ((if0 _ _).trans (feq hc32).2) (by decide) (by decide) kont) ?_
            show G (T5.setTop (mkF m 53 #[.val (.ref a)] []))
            refine go (fun _ kont => XS.iconst X5.here hx rfl (hb hby d_prog_165_method_3_53) kont) ?_
            show G (T5.setTop (mkF m 54 #[.val (.ref a)] [(.int (0 : Int32))]))
            rw [hG]
            exact own_retN X5 hx (t := .boolean) Bd.returns (by simp) (hb hby d_prog_165_method_3_54) hlk (by decide) (by decide) ⟨by simp [own_isZero, *] <;> rfl, N0, e5⟩
        · refine go (fun _ kont => XS.ifYes X4.here hx rfl (pc0 := 25) (pc' := 53) rfl (hb hby d_prog_165_method_3_25) rfl ((if0 _ _).trans (feq hc25).2) (by decide) (by decide) kont) ?_
          show G (T4.setTop (mkF m 53 #[.val (.ref a)] []))
          refine go (fun _ kont => XS.iconst X4.here hx rfl (hb hby d_prog_165_method_3_53) kont) ?_
          show G (T4.setTop (mkF m 54 #[.val (.ref a)] [(.int (0 : Int32))]))
          rw [hG]
          exact own_retN X4 hx (t := .boolean) Bd.returns (by simp) (hb hby d_prog_165_method_3_54) hlk (by decide) (by decide) ⟨by simp [own_isZero, *] <;> rfl, N0, e4⟩
      · refine go (fun _ kont => XS.ifYes X3.here hx rfl (pc0 := 18) (pc' := 53) rfl (hb hby d_prog_165_method_3_18) rfl ((if0 _ _).trans (feq hc18).2) (by decide) (by decide) kont) ?_
        show G (T3.setTop (mkF m 53 #[.val (.ref a)] []))
        refine go (fun _ kont => XS.iconst X3.here hx rfl (hb hby d_prog_165_method_3_53) kont) ?_
        show G (T3.setTop (mkF m 54 #[.val (.ref a)] [(.int (0 : Int32))]))
        rw [hG]
        exact own_retN X3 hx (t := .boolean) Bd.returns (by simp) (hb hby d_prog_165_method_3_54) hlk (by decide) (by decide) ⟨by simp [own_isZero, *] <;> rfl, N0, e3⟩
    · refine go (fun _ kont => XS.ifYes X2.here hx rfl (pc0 := 11) (pc' := 53) rfl (hb hby d_prog_165_method_3_11) rfl ((if0 _ _).trans (feq hc11).2) (by decide) (by decide) kont) ?_
      show G (T2.setTop (mkF m 53 #[.val (.ref a)] []))
      refine go (fun _ kont => XS.iconst X2.here hx rfl (hb hby d_prog_165_method_3_53) kont) ?_
      show G (T2.setTop (mkF m 54 #[.val (.ref a)] [(.int (0 : Int32))]))
      rw [hG]
      exact own_retN X2 hx (t := .boolean) Bd.returns (by simp) (hb hby d_prog_165_method_3_54) hlk (by decide) (by decide) ⟨by simp [own_isZero, *] <;> rfl, N0, e2⟩
  · refine go (fun _ kont => XS.ifYes X1.here hx rfl (pc0 := 4) (pc' := 53) rfl (hb hby d_prog_165_method_3_4) rfl ((if0 _ _).trans (feq hc4).2) (by decide) (by decide) kont) ?_
    show G (T1.setTop (mkF m 53 #[.val (.ref a)] []))
    refine go (fun _ kont => XS.iconst X1.here hx rfl (hb hby d_prog_165_method_3_53) kont) ?_
    show G (T1.setTop (mkF m 54 #[.val (.ref a)] [(.int (0 : Int32))]))
    rw [hG]
    exact own_retN X1 hx (t := .boolean) Bd.returns (by simp) (hb hby d_prog_165_method_3_54) hlk (by decide) (by decide) ⟨by simp [own_isZero, *] <;> rfl, N0, e1⟩
theorem own_ef_own_rm_law (m : MethodId) (x0 : Int64) (x1 : Int64) (x2 : Int64) (x3 : Int32) (x4 : Int32) (x5 : Int32) : entryFrame m #[(.long x0), (.long x1), (.long x2), (.int x3), (.int x4), (.int x5)] maxLocals = mkF m 0 #[.val (.long x0), .second, .val (.long x1), .second, .val (.long x2), .second, .val (.int x3), .val (.int x4), .val (.int x5), .unset, .unset, .unset, .unset, .unset, .unset, .unset, .unset, .unset] [] := by first | (simp [entryFrame, mkF, argsToLocals, Value.category, maxLocals]; done) | rfl
set_option maxRecDepth 65536 in
set_option maxHeartbeats 40000000 in
theorem own_rm_law (l : Launch) (Z : State) (a0 : Array Value) (hw : ∀ d ∈ tables_1, d.before a0 Z = true) (ws : List Jvm.Cond) (p1 : Int64) (p2 : Int64) (p3 : Int64) (p4 : Int32) (p5 : Int32) (p6 : Int32) (h0 : Heap) (n0 : Nat) (Z0 : n0 ≤ h0.size)  :
    MetFree l x (head1 (Jvm.Cond.code x code maxLocals ret :: ws) room_1) (fun aq Uq => aq = #[(.long p1), (.long p2), (.long p3), (.int p4), (.int p5), (.int p6)] ∧ Z.Warmed39 Uq.vm ∧ Uq.heap = h0) (fun _ _ _ _ _ => True) (fun _ Uq oq Uq' => ∃ vq Lq, oq = .returned vq ∧ (own_Ql n0) vq Uq'.heap Lq ∧ FrameEnd Uq oq Uq' Lq room_1.cells room_1.slots) := by
  refine MetFree.of_bodySF (plainFor_of_name own_pn2) hisR ?_
  intro p e s m args below meth c s₁ Bd hml0 hP hK
  obtain ⟨rfl, hZ, hh⟩ := hP
  have hx := Bd.exec
  have hby := Bd.bytes
  have hml : c.maxLocals = 18 := hml0
  have hown : s.vm.findClass "com/example/wary_ddl/waryddl/sql/DateTimeTextIsZeroPinLaw" = some m.cls := findClass_of_methodNamed Bd.named
  have hnm := (name_of_methodNamed Bd.named Bd.method).1
  have X0 : Stand p l e room_1 s m #[(.long p1), (.long p2), (.long p3), (.int p4), (.int p5), (.int p6)] below meth c s₁ [] 0 0 := Stand.of_body Bd
  have e0 : s₁.heap = h0 := by rw [← hh, Bd.state]; rfl
  have N0 := Fr.nil n0
  have hlk : meth.locks = false := by first | exact BodyLoose.notSynchronized Bd | exact Body.notSynchronized Bd
  obtain ⟨G, hG⟩ : ∃ G : State → Prop, G = own_G p e below s room_1.cells room_1.slots ((own_Ql n0)) := ⟨_, rfl⟩
  have go : ∀ {S S' : State}, (∀ t, Steps p.tables e below S' t → Steps p.tables e below S t) → G S' → G S := by rw [hG]; exact own_to
  suffices hs : G (s₁.setTop (mkF m 0 #[.val (.long p1), .second, .val (.long p2), .second, .val (.long p3), .second, .val (.int p4), .val (.int p5), .val (.int p6), .unset, .unset, .unset, .unset, .unset, .unset, .unset, .unset, .unset] [])) by
    rw [hG] at hs
    exact own_to (fun _ kont => castTop (own_ef_own_rm_law m p1 p2 p3 p4 p5 p6) kont) hs
  refine go (fun _ kont => XS.iload X0.here hx rfl (hb hby at_0) rfl  kont) ?_
  show G (s₁.setTop (mkF m 2 #[.val (.long p1), .second, .val (.long p2), .second, .val (.long p3), .second, .val (.int p4), .val (.int p5), .val (.int p6), .unset, .unset, .unset, .unset, .unset, .unset, .unset, .unset, .unset] [(.int p6)]))
  refine go (fun _ kont => XS.iconst X0.here hx rfl (hb hby at_2) kont) ?_
  show G (s₁.setTop (mkF m 3 #[.val (.long p1), .second, .val (.long p2), .second, .val (.long p3), .second, .val (.int p4), .val (.int p5), .val (.int p6), .unset, .unset, .unset, .unset, .unset, .unset, .unset, .unset, .unset] [(.int (1 : Int32)), (.int p6)]))
  refine go (fun _ kont => XS.iand X0.here hx rfl (hb hby at_3) rfl kont) ?_
  show G (s₁.setTop (mkF m 4 #[.val (.long p1), .second, .val (.long p2), .second, .val (.long p3), .second, .val (.int p4), .val (.int p5), .val (.int p6), .unset, .unset, .unset, .unset, .unset, .unset, .unset, .unset, .unset] [(.int (p6 &&& (1 : Int32)))]))
  have j1 : ∀ (s4_0 : Int32), s4_0 = (if (p6 &&& (1 : Int32)) = (0 : Int32) then ((p1.toUInt64 >>> ((32 : Int32) &&& 0x3f).toInt64.toUInt64).toInt64).toInt32 else (0 : Int32)) → G (s₁.setTop (mkF m 16 #[.val (.long p1), .second, .val (.long p2), .second, .val (.long p3), .second, .val (.int p4), .val (.int p5), .val (.int p6), .unset, .unset, .unset, .unset, .unset, .unset, .unset, .unset, .unset] [(.int s4_0)])) := by
    intro s4_0 hs4_0
    refine go (fun _ kont => XS.istore X0.here hx rfl (hb hby at_16) rfl (l' := #[.val (.long p1), .second, .val (.long p2), .second, .val (.long p3), .second, .val (.int p4), .val (.int p5), .val (.int p6), .val (.int s4_0), .unset, .unset, .unset, .unset, .unset, .unset, .unset, .unset]) rfl kont) ?_
    show G (s₁.setTop (mkF m 18 #[.val (.long p1), .second, .val (.long p2), .second, .val (.long p3), .second, .val (.int p4), .val (.int p5), .val (.int p6), .val (.int s4_0), .unset, .unset, .unset, .unset, .unset, .unset, .unset, .unset] []))
    refine go (fun _ kont => XS.iload X0.here hx rfl (hb hby at_18) rfl  kont) ?_
    show G (s₁.setTop (mkF m 20 #[.val (.long p1), .second, .val (.long p2), .second, .val (.long p3), .second, .val (.int p4), .val (.int p5), .val (.int p6), .val (.int s4_0), .unset, .unset, .unset, .unset, .unset, .unset, .unset, .unset] [(.int p6)]))
    refine go (fun _ kont => XS.iconst X0.here hx rfl (hb hby at_20) kont) ?_
    show G (s₁.setTop (mkF m 21 #[.val (.long p1), .second, .val (.long p2), .second, .val (.long p3), .second, .val (.int p4), .val (.int p5), .val (.int p6), .val (.int s4_0), .unset, .unset, .unset, .unset, .unset, .unset, .unset, .unset] [(.int (2 : Int32)), (.int p6)]))
    refine go (fun _ kont => XS.iand X0.here hx rfl (hb hby at_21) rfl kont) ?_
    show G (s₁.setTop (mkF m 22 #[.val (.long p1), .second, .val (.long p2), .second, .val (.long p3), .second, .val (.int p4), .val (.int p5), .val (.int p6), .val (.int s4_0), .unset, .unset, .unset, .unset, .unset, .unset, .unset, .unset] [(.int (p6 &&& (2 : Int32)))]))
    have j2 : ∀ (s22_0 : Int32), s22_0 = (if (p6 &&& (2 : Int32)) = (0 : Int32) then p1.toInt32 else (0 : Int32)) → G (s₁.setTop (mkF m 31 #[.val (.long p1), .second, .val (.long p2), .second, .val (.long p3), .second, .val (.int p4), .val (.int p5), .val (.int p6), .val (.int s4_0), .unset, .unset, .unset, .unset, .unset, .unset, .unset, .unset] [(.int s22_0)])) := by
      intro s22_0 hs22_0
      refine go (fun _ kont => XS.istore X0.here hx rfl (hb hby at_31) rfl (l' := #[.val (.long p1), .second, .val (.long p2), .second, .val (.long p3), .second, .val (.int p4), .val (.int p5), .val (.int p6), .val (.int s4_0), .val (.int s22_0), .unset, .unset, .unset, .unset, .unset, .unset, .unset]) rfl kont) ?_
      show G (s₁.setTop (mkF m 33 #[.val (.long p1), .second, .val (.long p2), .second, .val (.long p3), .second, .val (.int p4), .val (.int p5), .val (.int p6), .val (.int s4_0), .val (.int s22_0), .unset, .unset, .unset, .unset, .unset, .unset, .unset] []))
      refine go (fun _ kont => XS.iload X0.here hx rfl (hb hby at_33) rfl  kont) ?_
      show G (s₁.setTop (mkF m 35 #[.val (.long p1), .second, .val (.long p2), .second, .val (.long p3), .second, .val (.int p4), .val (.int p5), .val (.int p6), .val (.int s4_0), .val (.int s22_0), .unset, .unset, .unset, .unset, .unset, .unset, .unset] [(.int p6)]))
      refine go (fun _ kont => XS.iconst X0.here hx rfl (hb hby at_35) kont) ?_
      show G (s₁.setTop (mkF m 36 #[.val (.long p1), .second, .val (.long p2), .second, .val (.long p3), .second, .val (.int p4), .val (.int p5), .val (.int p6), .val (.int s4_0), .val (.int s22_0), .unset, .unset, .unset, .unset, .unset, .unset, .unset] [(.int (4 : Int32)), (.int p6)]))
      refine go (fun _ kont => XS.iand X0.here hx rfl (hb hby at_36) rfl kont) ?_
      show G (s₁.setTop (mkF m 37 #[.val (.long p1), .second, .val (.long p2), .second, .val (.long p3), .second, .val (.int p4), .val (.int p5), .val (.int p6), .val (.int s4_0), .val (.int s22_0), .unset, .unset, .unset, .unset, .unset, .unset, .unset] [(.int (p6 &&& (4 : Int32)))]))
      have j3 : ∀ (s37_0 : Int32), s37_0 = (if (p6 &&& (4 : Int32)) = (0 : Int32) then ((p2.toUInt64 >>> ((32 : Int32) &&& 0x3f).toInt64.toUInt64).toInt64).toInt32 else (0 : Int32)) → G (s₁.setTop (mkF m 49 #[.val (.long p1), .second, .val (.long p2), .second, .val (.long p3), .second, .val (.int p4), .val (.int p5), .val (.int p6), .val (.int s4_0), .val (.int s22_0), .unset, .unset, .unset, .unset, .unset, .unset, .unset] [(.int s37_0)])) := by
        intro s37_0 hs37_0
        refine go (fun _ kont => XS.istore X0.here hx rfl (hb hby at_49) rfl (l' := #[.val (.long p1), .second, .val (.long p2), .second, .val (.long p3), .second, .val (.int p4), .val (.int p5), .val (.int p6), .val (.int s4_0), .val (.int s22_0), .val (.int s37_0), .unset, .unset, .unset, .unset, .unset, .unset]) rfl kont) ?_
        show G (s₁.setTop (mkF m 51 #[.val (.long p1), .second, .val (.long p2), .second, .val (.long p3), .second, .val (.int p4), .val (.int p5), .val (.int p6), .val (.int s4_0), .val (.int s22_0), .val (.int s37_0), .unset, .unset, .unset, .unset, .unset, .unset] []))
        refine go (fun _ kont => XS.iload X0.here hx rfl (hb hby at_51) rfl  kont) ?_
        show G (s₁.setTop (mkF m 53 #[.val (.long p1), .second, .val (.long p2), .second, .val (.long p3), .second, .val (.int p4), .val (.int p5), .val (.int p6), .val (.int s4_0), .val (.int s22_0), .val (.int s37_0), .unset, .unset, .unset, .unset, .unset, .unset] [(.int p6)]))
        refine go (fun _ kont => XS.bipush X0.here hx rfl (hb hby at_53) kont) ?_
        show G (s₁.setTop (mkF m 55 #[.val (.long p1), .second, .val (.long p2), .second, .val (.long p3), .second, .val (.int p4), .val (.int p5), .val (.int p6), .val (.int s4_0), .val (.int s22_0), .val (.int s37_0), .unset, .unset, .unset, .unset, .unset, .unset] [(.int (8 : Int32)), (.int p6)]))
        refine go (fun _ kont => XS.iand X0.here hx rfl (hb hby at_55) rfl kont) ?_
        show G (s₁.setTop (mkF m 56 #[.val (.long p1), .second, .val (.long p2), .second, .val (.long p3), .second, .val (.int p4), .val (.int p5), .val (.int p6), .val (.int s4_0), .val (.int s22_0), .val (.int s37_0), .unset, .unset, .unset, .unset, .unset, .unset] [(.int (p6 &&& (8 : Int32)))]))
        have j4 : ∀ (s56_0 : Int32), s56_0 = (if (p6 &&& (8 : Int32)) = (0 : Int32) then p2.toInt32 else (0 : Int32)) → G (s₁.setTop (mkF m 65 #[.val (.long p1), .second, .val (.long p2), .second, .val (.long p3), .second, .val (.int p4), .val (.int p5), .val (.int p6), .val (.int s4_0), .val (.int s22_0), .val (.int s37_0), .unset, .unset, .unset, .unset, .unset, .unset] [(.int s56_0)])) := by
          intro s56_0 hs56_0
          refine go (fun _ kont => XS.istore X0.here hx rfl (hb hby at_65) rfl (l' := #[.val (.long p1), .second, .val (.long p2), .second, .val (.long p3), .second, .val (.int p4), .val (.int p5), .val (.int p6), .val (.int s4_0), .val (.int s22_0), .val (.int s37_0), .val (.int s56_0), .unset, .unset, .unset, .unset, .unset]) rfl kont) ?_
          show G (s₁.setTop (mkF m 67 #[.val (.long p1), .second, .val (.long p2), .second, .val (.long p3), .second, .val (.int p4), .val (.int p5), .val (.int p6), .val (.int s4_0), .val (.int s22_0), .val (.int s37_0), .val (.int s56_0), .unset, .unset, .unset, .unset, .unset] []))
          refine go (fun _ kont => XS.iload X0.here hx rfl (hb hby at_67) rfl  kont) ?_
          show G (s₁.setTop (mkF m 69 #[.val (.long p1), .second, .val (.long p2), .second, .val (.long p3), .second, .val (.int p4), .val (.int p5), .val (.int p6), .val (.int s4_0), .val (.int s22_0), .val (.int s37_0), .val (.int s56_0), .unset, .unset, .unset, .unset, .unset] [(.int p6)]))
          refine go (fun _ kont => XS.bipush X0.here hx rfl (hb hby at_69) kont) ?_
          show G (s₁.setTop (mkF m 71 #[.val (.long p1), .second, .val (.long p2), .second, .val (.long p3), .second, .val (.int p4), .val (.int p5), .val (.int p6), .val (.int s4_0), .val (.int s22_0), .val (.int s37_0), .val (.int s56_0), .unset, .unset, .unset, .unset, .unset] [(.int (16 : Int32)), (.int p6)]))
          refine go (fun _ kont => XS.iand X0.here hx rfl (hb hby at_71) rfl kont) ?_
          show G (s₁.setTop (mkF m 72 #[.val (.long p1), .second, .val (.long p2), .second, .val (.long p3), .second, .val (.int p4), .val (.int p5), .val (.int p6), .val (.int s4_0), .val (.int s22_0), .val (.int s37_0), .val (.int s56_0), .unset, .unset, .unset, .unset, .unset] [(.int (p6 &&& (16 : Int32)))]))
          have j5 : ∀ (s72_0 : Int32), s72_0 = (if (p6 &&& (16 : Int32)) = (0 : Int32) then p4 else (0 : Int32)) → G (s₁.setTop (mkF m 81 #[.val (.long p1), .second, .val (.long p2), .second, .val (.long p3), .second, .val (.int p4), .val (.int p5), .val (.int p6), .val (.int s4_0), .val (.int s22_0), .val (.int s37_0), .val (.int s56_0), .unset, .unset, .unset, .unset, .unset] [(.int s72_0)])) := by
            intro s72_0 hs72_0
            refine go (fun _ kont => XS.istore X0.here hx rfl (hb hby at_81) rfl (l' := #[.val (.long p1), .second, .val (.long p2), .second, .val (.long p3), .second, .val (.int p4), .val (.int p5), .val (.int p6), .val (.int s4_0), .val (.int s22_0), .val (.int s37_0), .val (.int s56_0), .val (.int s72_0), .unset, .unset, .unset, .unset]) rfl kont) ?_
            show G (s₁.setTop (mkF m 83 #[.val (.long p1), .second, .val (.long p2), .second, .val (.long p3), .second, .val (.int p4), .val (.int p5), .val (.int p6), .val (.int s4_0), .val (.int s22_0), .val (.int s37_0), .val (.int s56_0), .val (.int s72_0), .unset, .unset, .unset, .unset] []))
            refine go (fun _ kont => XS.iload X0.here hx rfl (hb hby at_83) rfl  kont) ?_
            show G (s₁.setTop (mkF m 85 #[.val (.long p1), .second, .val (.long p2), .second, .val (.long p3), .second, .val (.int p4), .val (.int p5), .val (.int p6), .val (.int s4_0), .val (.int s22_0), .val (.int s37_0), .val (.int s56_0), .val (.int s72_0), .unset, .unset, .unset, .unset] [(.int p6)]))
            refine go (fun _ kont => XS.bipush X0.here hx rfl (hb hby at_85) kont) ?_
            show G (s₁.setTop (mkF m 87 #[.val (.long p1), .second, .val (.long p2), .second, .val (.long p3), .second, .val (.int p4), .val (.int p5), .val (.int p6), .val (.int s4_0), .val (.int s22_0), .val (.int s37_0), .val (.int s56_0), .val (.int s72_0), .unset, .unset, .unset, .unset] [(.int (32 : Int32)), (.int p6)]))
            refine go (fun _ kont => XS.iand X0.here hx rfl (hb hby at_87) rfl kont) ?_
            show G (s₁.setTop (mkF m 88 #[.val (.long p1), .second, .val (.long p2), .second, .val (.long p3), .second, .val (.int p4), .val (.int p5), .val (.int p6), .val (.int s4_0), .val (.int s22_0), .val (.int s37_0), .val (.int s56_0), .val (.int s72_0), .unset, .unset, .unset, .unset] [(.int (p6 &&& (32 : Int32)))]))
            have j6 : ∀ (s88_0 : Int32), s88_0 = (if (p6 &&& (32 : Int32)) = (0 : Int32) then ((p3.toUInt64 >>> ((32 : Int32) &&& 0x3f).toInt64.toUInt64).toInt64).toInt32 else (0 : Int32)) → G (s₁.setTop (mkF m 101 #[.val (.long p1), .second, .val (.long p2), .second, .val (.long p3), .second, .val (.int p4), .val (.int p5), .val (.int p6), .val (.int s4_0), .val (.int s22_0), .val (.int s37_0), .val (.int s56_0), .val (.int s72_0), .unset, .unset, .unset, .unset] [(.int s88_0)])) := by
              intro s88_0 hs88_0
              refine go (fun _ kont => XS.istore X0.here hx rfl (hb hby at_101) rfl (l' := #[.val (.long p1), .second, .val (.long p2), .second, .val (.long p3), .second, .val (.int p4), .val (.int p5), .val (.int p6), .val (.int s4_0), .val (.int s22_0), .val (.int s37_0), .val (.int s56_0), .val (.int s72_0), .val (.int s88_0), .unset, .unset, .unset]) rfl kont) ?_
              show G (s₁.setTop (mkF m 103 #[.val (.long p1), .second, .val (.long p2), .second, .val (.long p3), .second, .val (.int p4), .val (.int p5), .val (.int p6), .val (.int s4_0), .val (.int s22_0), .val (.int s37_0), .val (.int s56_0), .val (.int s72_0), .val (.int s88_0), .unset, .unset, .unset] []))
              refine go (fun _ kont => XS.iload X0.here hx rfl (hb hby at_103) rfl  kont) ?_
              show G (s₁.setTop (mkF m 105 #[.val (.long p1), .second, .val (.long p2), .second, .val (.long p3), .second, .val (.int p4), .val (.int p5), .val (.int p6), .val (.int s4_0), .val (.int s22_0), .val (.int s37_0), .val (.int s56_0), .val (.int s72_0), .val (.int s88_0), .unset, .unset, .unset] [(.int p6)]))
              refine go (fun _ kont => XS.bipush X0.here hx rfl (hb hby at_105) kont) ?_
              show G (s₁.setTop (mkF m 107 #[.val (.long p1), .second, .val (.long p2), .second, .val (.long p3), .second, .val (.int p4), .val (.int p5), .val (.int p6), .val (.int s4_0), .val (.int s22_0), .val (.int s37_0), .val (.int s56_0), .val (.int s72_0), .val (.int s88_0), .unset, .unset, .unset] [(.int (64 : Int32)), (.int p6)]))
              refine go (fun _ kont => XS.iand X0.here hx rfl (hb hby at_107) rfl kont) ?_
              show G (s₁.setTop (mkF m 108 #[.val (.long p1), .second, .val (.long p2), .second, .val (.long p3), .second, .val (.int p4), .val (.int p5), .val (.int p6), .val (.int s4_0), .val (.int s22_0), .val (.int s37_0), .val (.int s56_0), .val (.int s72_0), .val (.int s88_0), .unset, .unset, .unset] [(.int (p6 &&& (64 : Int32)))]))
              have j7 : ∀ (s108_0 : Int32), s108_0 = (if (p6 &&& (64 : Int32)) = (0 : Int32) then p3.toInt32 else (0 : Int32)) → G (s₁.setTop (mkF m 118 #[.val (.long p1), .second, .val (.long p2), .second, .val (.long p3), .second, .val (.int p4), .val (.int p5), .val (.int p6), .val (.int s4_0), .val (.int s22_0), .val (.int s37_0), .val (.int s56_0), .val (.int s72_0), .val (.int s88_0), .unset, .unset, .unset] [(.int s108_0)])) := by
                intro s108_0 hs108_0
                refine go (fun _ kont => XS.istore X0.here hx rfl (hb hby at_118) rfl (l' := #[.val (.long p1), .second, .val (.long p2), .second, .val (.long p3), .second, .val (.int p4), .val (.int p5), .val (.int p6), .val (.int s4_0), .val (.int s22_0), .val (.int s37_0), .val (.int s56_0), .val (.int s72_0), .val (.int s88_0), .val (.int s108_0), .unset, .unset]) rfl kont) ?_
                show G (s₁.setTop (mkF m 120 #[.val (.long p1), .second, .val (.long p2), .second, .val (.long p3), .second, .val (.int p4), .val (.int p5), .val (.int p6), .val (.int s4_0), .val (.int s22_0), .val (.int s37_0), .val (.int s56_0), .val (.int s72_0), .val (.int s88_0), .val (.int s108_0), .unset, .unset] []))
                obtain ⟨T8, h8, X8, e8, E8, A8, D8, -, st8⟩ := newO X0 hx hZ hown (hw _ (List.mem_of_getElem? (i := 0) rfl)) (hw _ (List.mem_of_getElem? (i := 1) rfl)) (hw _ (List.mem_of_getElem? (i := 2) rfl)) e0 (g := (mkF m 120 #[.val (.long p1), .second, .val (.long p2), .second, .val (.long p3), .second, .val (.int p4), .val (.int p5), .val (.int p6), .val (.int s4_0), .val (.int s22_0), .val (.int s37_0), .val (.int s56_0), .val (.int s72_0), .val (.int s88_0), .val (.int s108_0), .unset, .unset] [])) rfl (hb hby at_120) (by decide) (by decide)
                obtain ⟨b8, g8⟩ : ∃ z, z = h0.size := ⟨_, rfl⟩
                rw [← g8] at A8 D8 st8
                refine go st8 ?_
                show G (T8.setTop (mkF m 123 #[.val (.long p1), .second, .val (.long p2), .second, .val (.long p3), .second, .val (.int p4), .val (.int p5), .val (.int p6), .val (.int s4_0), .val (.int s22_0), .val (.int s37_0), .val (.int s56_0), .val (.int s72_0), .val (.int s88_0), .val (.int s108_0), .unset, .unset] [(.ref b8)]))
                have Z8 : n0 ≤ h8.size := Nat.le_trans Z0 E8.1
                have ga8 : n0 ≤ b8 := Nat.le_trans Z0 (Nat.le_of_eq g8.symm)
                refine go (fun _ kont => XS.dup X8.here hx rfl (hb hby at_123) rfl rfl kont) ?_
                show G (T8.setTop (mkF m 124 #[.val (.long p1), .second, .val (.long p2), .second, .val (.long p3), .second, .val (.int p4), .val (.int p5), .val (.int p6), .val (.int s4_0), .val (.int s22_0), .val (.int s37_0), .val (.int s56_0), .val (.int s72_0), .val (.int s88_0), .val (.int s108_0), .unset, .unset] [(.ref b8), (.ref b8)]))
                refine go (fun _ kont => XS.iload X8.here hx rfl (hb hby at_124) rfl  kont) ?_
                show G (T8.setTop (mkF m 126 #[.val (.long p1), .second, .val (.long p2), .second, .val (.long p3), .second, .val (.int p4), .val (.int p5), .val (.int p6), .val (.int s4_0), .val (.int s22_0), .val (.int s37_0), .val (.int s56_0), .val (.int s72_0), .val (.int s88_0), .val (.int s108_0), .unset, .unset] [(.int s4_0), (.ref b8), (.ref b8)]))
                refine go (fun _ kont => XS.iload X8.here hx rfl (hb hby at_126) rfl  kont) ?_
                show G (T8.setTop (mkF m 128 #[.val (.long p1), .second, .val (.long p2), .second, .val (.long p3), .second, .val (.int p4), .val (.int p5), .val (.int p6), .val (.int s4_0), .val (.int s22_0), .val (.int s37_0), .val (.int s56_0), .val (.int s72_0), .val (.int s88_0), .val (.int s108_0), .unset, .unset] [(.int s22_0), (.int s4_0), (.ref b8), (.ref b8)]))
                refine go (fun _ kont => XS.iload X8.here hx rfl (hb hby at_128) rfl  kont) ?_
                show G (T8.setTop (mkF m 130 #[.val (.long p1), .second, .val (.long p2), .second, .val (.long p3), .second, .val (.int p4), .val (.int p5), .val (.int p6), .val (.int s4_0), .val (.int s22_0), .val (.int s37_0), .val (.int s56_0), .val (.int s72_0), .val (.int s88_0), .val (.int s108_0), .unset, .unset] [(.int s37_0), (.int s22_0), (.int s4_0), (.ref b8), (.ref b8)]))
                refine go (fun _ kont => XS.iload X8.here hx rfl (hb hby at_130) rfl  kont) ?_
                show G (T8.setTop (mkF m 132 #[.val (.long p1), .second, .val (.long p2), .second, .val (.long p3), .second, .val (.int p4), .val (.int p5), .val (.int p6), .val (.int s4_0), .val (.int s22_0), .val (.int s37_0), .val (.int s56_0), .val (.int s72_0), .val (.int s88_0), .val (.int s108_0), .unset, .unset] [(.int s56_0), (.int s37_0), (.int s22_0), (.int s4_0), (.ref b8), (.ref b8)]))
                refine go (fun _ kont => XS.iload X8.here hx rfl (hb hby at_132) rfl  kont) ?_
                show G (T8.setTop (mkF m 134 #[.val (.long p1), .second, .val (.long p2), .second, .val (.long p3), .second, .val (.int p4), .val (.int p5), .val (.int p6), .val (.int s4_0), .val (.int s22_0), .val (.int s37_0), .val (.int s56_0), .val (.int s72_0), .val (.int s88_0), .val (.int s108_0), .unset, .unset] [(.int s72_0), (.int s56_0), (.int s37_0), (.int s22_0), (.int s4_0), (.ref b8), (.ref b8)]))
                refine go (fun _ kont => XS.iload X8.here hx rfl (hb hby at_134) rfl  kont) ?_
                show G (T8.setTop (mkF m 136 #[.val (.long p1), .second, .val (.long p2), .second, .val (.long p3), .second, .val (.int p4), .val (.int p5), .val (.int p6), .val (.int s4_0), .val (.int s22_0), .val (.int s37_0), .val (.int s56_0), .val (.int s72_0), .val (.int s88_0), .val (.int s108_0), .unset, .unset] [(.int s88_0), (.int s72_0), (.int s56_0), (.int s37_0), (.int s22_0), (.int s4_0), (.ref b8), (.ref b8)]))
                refine go (fun _ kont => XS.iload X8.here hx rfl (hb hby at_136) rfl  kont) ?_
                show G (T8.setTop (mkF m 138 #[.val (.long p1), .second, .val (.long p2), .second, .val (.long p3), .second, .val (.int p4), .val (.int p5), .val (.int p6), .val (.int s4_0), .val (.int s22_0), .val (.int s37_0), .val (.int s56_0), .val (.int s72_0), .val (.int s88_0), .val (.int s108_0), .unset, .unset] [(.int s108_0), (.int s88_0), (.int s72_0), (.int s56_0), (.int s37_0), (.int s22_0), (.int s4_0), (.ref b8), (.ref b8)]))
                refine go (fun _ kont => XS.iload X8.here hx rfl (hb hby at_138) rfl  kont) ?_
                show G (T8.setTop (mkF m 140 #[.val (.long p1), .second, .val (.long p2), .second, .val (.long p3), .second, .val (.int p4), .val (.int p5), .val (.int p6), .val (.int s4_0), .val (.int s22_0), .val (.int s37_0), .val (.int s56_0), .val (.int s72_0), .val (.int s88_0), .val (.int s108_0), .unset, .unset] [(.int p5), (.int s108_0), (.int s88_0), (.int s72_0), (.int s56_0), (.int s37_0), (.int s22_0), (.int s4_0), (.ref b8), (.ref b8)]))
                obtain ⟨_, _, ⟨T9, L9, k9, n9⟩, -, X9, ⟨Lc9, hQ9, l9, y9, z9⟩, st9⟩ := X8.specialBack hx (y := (⟨"com/example/wary_ddl/waryddl/sql/DateTimeText", "<init>", "(IIIIIIII)V"⟩ : MethodName)) rfl hown (mvT hZ (hw _ (List.mem_of_getElem? (i := 3) rfl))) (mvT hZ (hw _ (List.mem_of_getElem? (i := 4) rfl))) (mvT hZ (hw _ (List.mem_of_getElem? (i := 5) rfl))) (by decide) (backOf (W := 1) (own_rm_ctor l Z a0 hw [] b8 s4_0 s22_0 s37_0 s56_0 s72_0 s88_0 s108_0 p5 h8 n0 Z8 (D8 (Or.inr (hw _ (List.mem_of_getElem? (i := 15) rfl))) (ty := .int) (by decide)) (D8 (Or.inr (hw _ (List.mem_of_getElem? (i := 17) rfl))) (ty := .int) (by decide)) (D8 (Or.inr (hw _ (List.mem_of_getElem? (i := 19) rfl))) (ty := .int) (by decide)) (D8 (Or.inr (hw _ (List.mem_of_getElem? (i := 21) rfl))) (ty := .int) (by decide)) (D8 (Or.inr (hw _ (List.mem_of_getElem? (i := 23) rfl))) (ty := .int) (by decide)) (D8 (Or.inr (hw _ (List.mem_of_getElem? (i := 25) rfl))) (ty := .int) (by decide)) (D8 (Or.inr (hw _ (List.mem_of_getElem? (i := 27) rfl))) (ty := .int) (by decide)) (D8 (Or.inr (hw _ (List.mem_of_getElem? (i := 29) rfl))) (ty := .int) (by decide)) A8 ga8) hZ (hw _ (List.mem_of_getElem? (i := 5) rfl)) (hw _ (List.mem_of_getElem? (i := 2) rfl)) (by decide) (by decide)) (g := (mkF m 140 #[.val (.long p1), .second, .val (.long p2), .second, .val (.long p3), .second, .val (.int p4), .val (.int p5), .val (.int p6), .val (.int s4_0), .val (.int s22_0), .val (.int s37_0), .val (.int s56_0), .val (.int s72_0), .val (.int s88_0), .val (.int s108_0), .unset, .unset] [(.int p5), (.int s108_0), (.int s88_0), (.int s72_0), (.int s56_0), (.int s37_0), (.int s22_0), (.int s4_0), (.ref b8), (.ref b8)])) rfl (by rw [hml]; rfl) (Steps.refl _) (a := b8) (argsL := [(.int s4_0), (.int s22_0), (.int s37_0), (.int s56_0), (.int s72_0), (.int s88_0), (.int s108_0), (.int p5)]) (rest := [(.ref b8)]) (lenOf own_pd1 rfl) rfl (by show 2 * 0 + _ ≤ _; exact Nat.le_of_eq rfl) (hb hby at_140) (fun _ _ => ⟨rfl, e8, (by decide : 1 + 0 ≤ _), (by decide : 8 + 0 ≤ _)⟩)
                dsimp only [Pt.U, Pt.locs, Pt.cells, Pt.slots] at X9 l9 y9 z9 st9 hQ9
                subst l9 y9 z9
                obtain ⟨rfl, N9q, K9, E9, F0_9, F1_9, F2_9, F3_9, F4_9, F5_9, F6_9, F7_9⟩ := hQ9
                have N9 := Fr.app N0 N9q
                have e9 : T9.heap = T9.heap := rfl
                refine go (fun _ kont => st9.trans kont) ?_
                show G (T9.setTop (mkF m 143 #[.val (.long p1), .second, .val (.long p2), .second, .val (.long p3), .second, .val (.int p4), .val (.int p5), .val (.int p6), .val (.int s4_0), .val (.int s22_0), .val (.int s37_0), .val (.int s56_0), .val (.int s72_0), .val (.int s88_0), .val (.int s108_0), .unset, .unset] [(.ref b8)]))
                have Z9 : n0 ≤ T9.heap.size := Nat.le_trans Z8 K9.1
                refine go (fun _ kont => XS.astore X9.here hx rfl (hb hby at_143) rfl rfl (l' := #[.val (.long p1), .second, .val (.long p2), .second, .val (.long p3), .second, .val (.int p4), .val (.int p5), .val (.int p6), .val (.int s4_0), .val (.int s22_0), .val (.int s37_0), .val (.int s56_0), .val (.int s72_0), .val (.int s88_0), .val (.int s108_0), .val (.ref b8), .unset]) rfl kont) ?_
                show G (T9.setTop (mkF m 145 #[.val (.long p1), .second, .val (.long p2), .second, .val (.long p3), .second, .val (.int p4), .val (.int p5), .val (.int p6), .val (.int s4_0), .val (.int s22_0), .val (.int s37_0), .val (.int s56_0), .val (.int s72_0), .val (.int s88_0), .val (.int s108_0), .val (.ref b8), .unset] []))
                refine go (fun _ kont => XS.iload X9.here hx rfl (hb hby at_145) rfl  kont) ?_
                show G (T9.setTop (mkF m 147 #[.val (.long p1), .second, .val (.long p2), .second, .val (.long p3), .second, .val (.int p4), .val (.int p5), .val (.int p6), .val (.int s4_0), .val (.int s22_0), .val (.int s37_0), .val (.int s56_0), .val (.int s72_0), .val (.int s88_0), .val (.int s108_0), .val (.ref b8), .unset] [(.int s4_0)]))
                refine go (fun _ kont => XS.iload X9.here hx rfl (hb hby at_147) rfl  kont) ?_
                show G (T9.setTop (mkF m 149 #[.val (.long p1), .second, .val (.long p2), .second, .val (.long p3), .second, .val (.int p4), .val (.int p5), .val (.int p6), .val (.int s4_0), .val (.int s22_0), .val (.int s37_0), .val (.int s56_0), .val (.int s72_0), .val (.int s88_0), .val (.int s108_0), .val (.ref b8), .unset] [(.int s22_0), (.int s4_0)]))
                refine go (fun _ kont => XS.ior X9.here hx rfl (hb hby at_149) rfl kont) ?_
                show G (T9.setTop (mkF m 150 #[.val (.long p1), .second, .val (.long p2), .second, .val (.long p3), .second, .val (.int p4), .val (.int p5), .val (.int p6), .val (.int s4_0), .val (.int s22_0), .val (.int s37_0), .val (.int s56_0), .val (.int s72_0), .val (.int s88_0), .val (.int s108_0), .val (.ref b8), .unset] [(.int (s4_0 ||| s22_0))]))
                refine go (fun _ kont => XS.iload X9.here hx rfl (hb hby at_150) rfl  kont) ?_
                show G (T9.setTop (mkF m 152 #[.val (.long p1), .second, .val (.long p2), .second, .val (.long p3), .second, .val (.int p4), .val (.int p5), .val (.int p6), .val (.int s4_0), .val (.int s22_0), .val (.int s37_0), .val (.int s56_0), .val (.int s72_0), .val (.int s88_0), .val (.int s108_0), .val (.ref b8), .unset] [(.int s37_0), (.int (s4_0 ||| s22_0))]))
                refine go (fun _ kont => XS.ior X9.here hx rfl (hb hby at_152) rfl kont) ?_
                show G (T9.setTop (mkF m 153 #[.val (.long p1), .second, .val (.long p2), .second, .val (.long p3), .second, .val (.int p4), .val (.int p5), .val (.int p6), .val (.int s4_0), .val (.int s22_0), .val (.int s37_0), .val (.int s56_0), .val (.int s72_0), .val (.int s88_0), .val (.int s108_0), .val (.ref b8), .unset] [(.int ((s4_0 ||| s22_0) ||| s37_0))]))
                refine go (fun _ kont => XS.iload X9.here hx rfl (hb hby at_153) rfl  kont) ?_
                show G (T9.setTop (mkF m 155 #[.val (.long p1), .second, .val (.long p2), .second, .val (.long p3), .second, .val (.int p4), .val (.int p5), .val (.int p6), .val (.int s4_0), .val (.int s22_0), .val (.int s37_0), .val (.int s56_0), .val (.int s72_0), .val (.int s88_0), .val (.int s108_0), .val (.ref b8), .unset] [(.int s56_0), (.int ((s4_0 ||| s22_0) ||| s37_0))]))
                refine go (fun _ kont => XS.ior X9.here hx rfl (hb hby at_155) rfl kont) ?_
                show G (T9.setTop (mkF m 156 #[.val (.long p1), .second, .val (.long p2), .second, .val (.long p3), .second, .val (.int p4), .val (.int p5), .val (.int p6), .val (.int s4_0), .val (.int s22_0), .val (.int s37_0), .val (.int s56_0), .val (.int s72_0), .val (.int s88_0), .val (.int s108_0), .val (.ref b8), .unset] [(.int (((s4_0 ||| s22_0) ||| s37_0) ||| s56_0))]))
                refine go (fun _ kont => XS.iload X9.here hx rfl (hb hby at_156) rfl  kont) ?_
                show G (T9.setTop (mkF m 158 #[.val (.long p1), .second, .val (.long p2), .second, .val (.long p3), .second, .val (.int p4), .val (.int p5), .val (.int p6), .val (.int s4_0), .val (.int s22_0), .val (.int s37_0), .val (.int s56_0), .val (.int s72_0), .val (.int s88_0), .val (.int s108_0), .val (.ref b8), .unset] [(.int s72_0), (.int (((s4_0 ||| s22_0) ||| s37_0) ||| s56_0))]))
                refine go (fun _ kont => XS.ior X9.here hx rfl (hb hby at_158) rfl kont) ?_
                show G (T9.setTop (mkF m 159 #[.val (.long p1), .second, .val (.long p2), .second, .val (.long p3), .second, .val (.int p4), .val (.int p5), .val (.int p6), .val (.int s4_0), .val (.int s22_0), .val (.int s37_0), .val (.int s56_0), .val (.int s72_0), .val (.int s88_0), .val (.int s108_0), .val (.ref b8), .unset] [(.int ((((s4_0 ||| s22_0) ||| s37_0) ||| s56_0) ||| s72_0))]))
                refine go (fun _ kont => XS.iload X9.here hx rfl (hb hby at_159) rfl  kont) ?_
                show G (T9.setTop (mkF m 161 #[.val (.long p1), .second, .val (.long p2), .second, .val (.long p3), .second, .val (.int p4), .val (.int p5), .val (.int p6), .val (.int s4_0), .val (.int s22_0), .val (.int s37_0), .val (.int s56_0), .val (.int s72_0), .val (.int s88_0), .val (.int s108_0), .val (.ref b8), .unset] [(.int s88_0), (.int ((((s4_0 ||| s22_0) ||| s37_0) ||| s56_0) ||| s72_0))]))
                refine go (fun _ kont => XS.ior X9.here hx rfl (hb hby at_161) rfl kont) ?_
                show G (T9.setTop (mkF m 162 #[.val (.long p1), .second, .val (.long p2), .second, .val (.long p3), .second, .val (.int p4), .val (.int p5), .val (.int p6), .val (.int s4_0), .val (.int s22_0), .val (.int s37_0), .val (.int s56_0), .val (.int s72_0), .val (.int s88_0), .val (.int s108_0), .val (.ref b8), .unset] [(.int (((((s4_0 ||| s22_0) ||| s37_0) ||| s56_0) ||| s72_0) ||| s88_0))]))
                refine go (fun _ kont => XS.iload X9.here hx rfl (hb hby at_162) rfl  kont) ?_
                show G (T9.setTop (mkF m 164 #[.val (.long p1), .second, .val (.long p2), .second, .val (.long p3), .second, .val (.int p4), .val (.int p5), .val (.int p6), .val (.int s4_0), .val (.int s22_0), .val (.int s37_0), .val (.int s56_0), .val (.int s72_0), .val (.int s88_0), .val (.int s108_0), .val (.ref b8), .unset] [(.int s108_0), (.int (((((s4_0 ||| s22_0) ||| s37_0) ||| s56_0) ||| s72_0) ||| s88_0))]))
                refine go (fun _ kont => XS.ior X9.here hx rfl (hb hby at_164) rfl kont) ?_
                show G (T9.setTop (mkF m 165 #[.val (.long p1), .second, .val (.long p2), .second, .val (.long p3), .second, .val (.int p4), .val (.int p5), .val (.int p6), .val (.int s4_0), .val (.int s22_0), .val (.int s37_0), .val (.int s56_0), .val (.int s72_0), .val (.int s88_0), .val (.int s108_0), .val (.ref b8), .unset] [(.int ((((((s4_0 ||| s22_0) ||| s37_0) ||| s56_0) ||| s72_0) ||| s88_0) ||| s108_0))]))
                have j10 : ∀ (s165_0 : Int32), s165_0 = (if ((((((s4_0 ||| s22_0) ||| s37_0) ||| s56_0) ||| s72_0) ||| s88_0) ||| s108_0) = (0 : Int32) then (1 : Int32) else (0 : Int32)) → G (T9.setTop (mkF m 173 #[.val (.long p1), .second, .val (.long p2), .second, .val (.long p3), .second, .val (.int p4), .val (.int p5), .val (.int p6), .val (.int s4_0), .val (.int s22_0), .val (.int s37_0), .val (.int s56_0), .val (.int s72_0), .val (.int s88_0), .val (.int s108_0), .val (.ref b8), .unset] [(.int s165_0)])) := by
                  intro s165_0 hs165_0
                  refine go (fun _ kont => XS.istore X9.here hx rfl (hb hby at_173) rfl (l' := #[.val (.long p1), .second, .val (.long p2), .second, .val (.long p3), .second, .val (.int p4), .val (.int p5), .val (.int p6), .val (.int s4_0), .val (.int s22_0), .val (.int s37_0), .val (.int s56_0), .val (.int s72_0), .val (.int s88_0), .val (.int s108_0), .val (.ref b8), .val (.int s165_0)]) rfl kont) ?_
                  show G (T9.setTop (mkF m 175 #[.val (.long p1), .second, .val (.long p2), .second, .val (.long p3), .second, .val (.int p4), .val (.int p5), .val (.int p6), .val (.int s4_0), .val (.int s22_0), .val (.int s37_0), .val (.int s56_0), .val (.int s72_0), .val (.int s88_0), .val (.int s108_0), .val (.ref b8), .val (.int s165_0)] []))
                  refine go (fun _ kont => XS.aload X9.here hx rfl (hb hby at_175) rfl rfl kont) ?_
                  show G (T9.setTop (mkF m 177 #[.val (.long p1), .second, .val (.long p2), .second, .val (.long p3), .second, .val (.int p4), .val (.int p5), .val (.int p6), .val (.int s4_0), .val (.int s22_0), .val (.int s37_0), .val (.int s56_0), .val (.int s72_0), .val (.int s88_0), .val (.int s108_0), .val (.ref b8), .val (.int s165_0)] [(.ref b8)]))
                  obtain ⟨cq11, kq11, qa11, qb11, qc11⟩ := isOf hZ e9 E9
                  obtain ⟨_, _, ⟨T11, L11, k11, n11⟩, -, X11, ⟨Lc11, hQ11, l11, y11, z11⟩, st11⟩ := X9.virtualBack hx (y := (⟨"com/example/wary_ddl/waryddl/sql/DateTimeText", "isZero", "()Z"⟩ : MethodName)) (z := (⟨"com/example/wary_ddl/waryddl/sql/DateTimeText", "isZero", "()Z"⟩ : MethodName)) hown (mvT hZ (hw _ (List.mem_of_getElem? (i := 30) rfl))) (mvT hZ (hw _ (List.mem_of_getElem? (i := 31) rfl))) (notFace_of_selects (args := #[]) (mvT hZ (hw _ (List.mem_of_getElem? (i := 33) rfl)))) (mvT hZ (hw _ (List.mem_of_getElem? (i := 33) rfl))) (mvT hZ (hw _ (List.mem_of_getElem? (i := 32) rfl))) (by decide) (backOf (W := 0) (own_rm_isZero l Z a0 hw [] b8 T9.heap n0 Z9 s4_0 s22_0 s37_0 s56_0 s72_0 s88_0 s108_0 F0_9 F1_9 F2_9 F3_9 F4_9 F5_9 F6_9) hZ (hw _ (List.mem_of_getElem? (i := 34) rfl)) (hw _ (List.mem_of_getElem? (i := 2) rfl)) (by decide) (by decide)) qa11 qc11 (g := (mkF m 177 #[.val (.long p1), .second, .val (.long p2), .second, .val (.long p3), .second, .val (.int p4), .val (.int p5), .val (.int p6), .val (.int s4_0), .val (.int s22_0), .val (.int s37_0), .val (.int s56_0), .val (.int s72_0), .val (.int s88_0), .val (.int s108_0), .val (.ref b8), .val (.int s165_0)] [(.ref b8)])) rfl (by rw [hml]; rfl) (Steps.refl _) (argsL := []) (rest := []) (lenOf own_pd2 rfl) rfl (by show 2 * 0 + _ ≤ _; exact Nat.le_of_eq rfl) (hb hby at_177) (fun _ _ => ⟨rfl, e9, (by decide : 1 + 0 ≤ _), (by decide : 8 + 0 ≤ _)⟩)
                  dsimp only [Pt.U, Pt.locs, Pt.cells, Pt.slots] at X11 l11 y11 z11 st11 hQ11
                  subst l11 y11 z11
                  obtain ⟨rfl, N11q, e11⟩ := hQ11
                  have N11 := Fr.app N9 N11q
                  refine go (fun _ kont => st11.trans kont) ?_
                  show G (T11.setTop (mkF m 180 #[.val (.long p1), .second, .val (.long p2), .second, .val (.long p3), .second, .val (.int p4), .val (.int p5), .val (.int p6), .val (.int s4_0), .val (.int s22_0), .val (.int s37_0), .val (.int s56_0), .val (.int s72_0), .val (.int s88_0), .val (.int s108_0), .val (.ref b8), .val (.int s165_0)] [(.int (own_isZero s4_0 s22_0 s37_0 s56_0 s72_0 s88_0 s108_0))]))
                  refine go (fun _ kont => XS.iload X11.here hx rfl (hb hby at_180) rfl  kont) ?_
                  show G (T11.setTop (mkF m 182 #[.val (.long p1), .second, .val (.long p2), .second, .val (.long p3), .second, .val (.int p4), .val (.int p5), .val (.int p6), .val (.int s4_0), .val (.int s22_0), .val (.int s37_0), .val (.int s56_0), .val (.int s72_0), .val (.int s88_0), .val (.int s108_0), .val (.ref b8), .val (.int s165_0)] [(.int s165_0), (.int (own_isZero s4_0 s22_0 s37_0 s56_0 s72_0 s88_0 s108_0))]))
                  have hfin : (own_isZero s4_0 s22_0 s37_0 s56_0 s72_0 s88_0 s108_0) = s165_0 := by rw [own_zero_eq, hs165_0]
                  refine go (fun _ kont => XS.icmpNo X11.here hx rfl (hb hby at_182) rfl (teq hfin).2 kont) ?_
                  show G (T11.setTop (mkF m 185 #[.val (.long p1), .second, .val (.long p2), .second, .val (.long p3), .second, .val (.int p4), .val (.int p5), .val (.int p6), .val (.int s4_0), .val (.int s22_0), .val (.int s37_0), .val (.int s56_0), .val (.int s72_0), .val (.int s88_0), .val (.int s108_0), .val (.ref b8), .val (.int s165_0)] []))
                  refine go (fun _ kont => XS.iconst X11.here hx rfl (hb hby at_185) kont) ?_
                  show G (T11.setTop (mkF m 186 #[.val (.long p1), .second, .val (.long p2), .second, .val (.long p3), .second, .val (.int p4), .val (.int p5), .val (.int p6), .val (.int s4_0), .val (.int s22_0), .val (.int s37_0), .val (.int s56_0), .val (.int s72_0), .val (.int s88_0), .val (.int s108_0), .val (.ref b8), .val (.int s165_0)] [(.int (1 : Int32))]))
                  refine go (fun _ kont => XS.goto X11.here hx rfl (pc0 := 186) (pc' := 190) rfl (hb hby at_186) (by decide) (by decide) kont) ?_
                  show G (T11.setTop (mkF m 190 #[.val (.long p1), .second, .val (.long p2), .second, .val (.long p3), .second, .val (.int p4), .val (.int p5), .val (.int p6), .val (.int s4_0), .val (.int s22_0), .val (.int s37_0), .val (.int s56_0), .val (.int s72_0), .val (.int s88_0), .val (.int s108_0), .val (.ref b8), .val (.int s165_0)] [(.int (1 : Int32))]))
                  rw [hG]
                  exact own_retN X11 hx (t := .boolean) Bd.returns (by simp) (hb hby at_190) hlk (by decide) (by decide) ⟨rfl, N11⟩
                by_cases hc165 : ((((((s4_0 ||| s22_0) ||| s37_0) ||| s56_0) ||| s72_0) ||| s88_0) ||| s108_0) = (0 : Int32)
                · refine go (fun _ kont => XS.ifNo X9.here hx rfl (hb hby at_165) rfl ((if0 _ _).trans (teq hc165).2) kont) ?_
                  show G (T9.setTop (mkF m 168 #[.val (.long p1), .second, .val (.long p2), .second, .val (.long p3), .second, .val (.int p4), .val (.int p5), .val (.int p6), .val (.int s4_0), .val (.int s22_0), .val (.int s37_0), .val (.int s56_0), .val (.int s72_0), .val (.int s88_0), .val (.int s108_0), .val (.ref b8), .unset] []))
                  refine go (fun _ kont => XS.iconst X9.here hx rfl (hb hby at_168) kont) ?_
                  show G (T9.setTop (mkF m 169 #[.val (.long p1), .second, .val (.long p2), .second, .val (.long p3), .second, .val (.int p4), .val (.int p5), .val (.int p6), .val (.int s4_0), .val (.int s22_0), .val (.int s37_0), .val (.int s56_0), .val (.int s72_0), .val (.int s88_0), .val (.int s108_0), .val (.ref b8), .unset] [(.int (1 : Int32))]))
                  refine go (fun _ kont => XS.goto X9.here hx rfl (pc0 := 169) (pc' := 173) rfl (hb hby at_169) (by decide) (by decide) kont) ?_
                  show G (T9.setTop (mkF m 173 #[.val (.long p1), .second, .val (.long p2), .second, .val (.long p3), .second, .val (.int p4), .val (.int p5), .val (.int p6), .val (.int s4_0), .val (.int s22_0), .val (.int s37_0), .val (.int s56_0), .val (.int s72_0), .val (.int s88_0), .val (.int s108_0), .val (.ref b8), .unset] [(.int (1 : Int32))]))
                  exact j10 _ (by first | exact (if_pos hc165).symm | (rw [if_pos hc165]; assumption))
                · refine go (fun _ kont => XS.ifYes X9.here hx rfl (pc0 := 165) (pc' := 172) rfl (hb hby at_165) rfl ((if0 _ _).trans (feq hc165).2) (by decide) (by decide) kont) ?_
                  show G (T9.setTop (mkF m 172 #[.val (.long p1), .second, .val (.long p2), .second, .val (.long p3), .second, .val (.int p4), .val (.int p5), .val (.int p6), .val (.int s4_0), .val (.int s22_0), .val (.int s37_0), .val (.int s56_0), .val (.int s72_0), .val (.int s88_0), .val (.int s108_0), .val (.ref b8), .unset] []))
                  refine go (fun _ kont => XS.iconst X9.here hx rfl (hb hby at_172) kont) ?_
                  show G (T9.setTop (mkF m 173 #[.val (.long p1), .second, .val (.long p2), .second, .val (.long p3), .second, .val (.int p4), .val (.int p5), .val (.int p6), .val (.int s4_0), .val (.int s22_0), .val (.int s37_0), .val (.int s56_0), .val (.int s72_0), .val (.int s88_0), .val (.int s108_0), .val (.ref b8), .unset] [(.int (0 : Int32))]))
                  exact j10 _ (by first | exact (if_neg hc165).symm | (rw [if_neg hc165]; assumption))
              by_cases hc108 : (p6 &&& (64 : Int32)) = (0 : Int32)
              · refine go (fun _ kont => XS.ifYes X0.here hx rfl (pc0 := 108) (pc' := 115) rfl (hb hby at_108) rfl ((if0 _ _).trans (teq hc108).1) (by decide) (by decide) kont) ?_
                show G (s₁.setTop (mkF m 115 #[.val (.long p1), .second, .val (.long p2), .second, .val (.long p3), .second, .val (.int p4), .val (.int p5), .val (.int p6), .val (.int s4_0), .val (.int s22_0), .val (.int s37_0), .val (.int s56_0), .val (.int s72_0), .val (.int s88_0), .unset, .unset, .unset] []))
                refine go (fun _ kont => XS.lload X0.here hx rfl (hb hby at_115) rfl  kont) ?_
                show G (s₁.setTop (mkF m 117 #[.val (.long p1), .second, .val (.long p2), .second, .val (.long p3), .second, .val (.int p4), .val (.int p5), .val (.int p6), .val (.int s4_0), .val (.int s22_0), .val (.int s37_0), .val (.int s56_0), .val (.int s72_0), .val (.int s88_0), .unset, .unset, .unset] [(.long p3)]))
                refine go (fun _ kont => XS.l2i X0.here hx rfl (hb hby at_117) rfl kont) ?_
                show G (s₁.setTop (mkF m 118 #[.val (.long p1), .second, .val (.long p2), .second, .val (.long p3), .second, .val (.int p4), .val (.int p5), .val (.int p6), .val (.int s4_0), .val (.int s22_0), .val (.int s37_0), .val (.int s56_0), .val (.int s72_0), .val (.int s88_0), .unset, .unset, .unset] [(.int p3.toInt32)]))
                exact j7 _ (by first | exact (if_pos hc108).symm | (rw [if_pos hc108]; assumption))
              · refine go (fun _ kont => XS.ifNo X0.here hx rfl (hb hby at_108) rfl ((if0 _ _).trans (feq hc108).1) kont) ?_
                show G (s₁.setTop (mkF m 111 #[.val (.long p1), .second, .val (.long p2), .second, .val (.long p3), .second, .val (.int p4), .val (.int p5), .val (.int p6), .val (.int s4_0), .val (.int s22_0), .val (.int s37_0), .val (.int s56_0), .val (.int s72_0), .val (.int s88_0), .unset, .unset, .unset] []))
                refine go (fun _ kont => XS.iconst X0.here hx rfl (hb hby at_111) kont) ?_
                show G (s₁.setTop (mkF m 112 #[.val (.long p1), .second, .val (.long p2), .second, .val (.long p3), .second, .val (.int p4), .val (.int p5), .val (.int p6), .val (.int s4_0), .val (.int s22_0), .val (.int s37_0), .val (.int s56_0), .val (.int s72_0), .val (.int s88_0), .unset, .unset, .unset] [(.int (0 : Int32))]))
                refine go (fun _ kont => XS.goto X0.here hx rfl (pc0 := 112) (pc' := 118) rfl (hb hby at_112) (by decide) (by decide) kont) ?_
                show G (s₁.setTop (mkF m 118 #[.val (.long p1), .second, .val (.long p2), .second, .val (.long p3), .second, .val (.int p4), .val (.int p5), .val (.int p6), .val (.int s4_0), .val (.int s22_0), .val (.int s37_0), .val (.int s56_0), .val (.int s72_0), .val (.int s88_0), .unset, .unset, .unset] [(.int (0 : Int32))]))
                exact j7 _ (by first | exact (if_neg hc108).symm | (rw [if_neg hc108]; assumption))
            by_cases hc88 : (p6 &&& (32 : Int32)) = (0 : Int32)
            · refine go (fun _ kont => XS.ifYes X0.here hx rfl (pc0 := 88) (pc' := 95) rfl (hb hby at_88) rfl ((if0 _ _).trans (teq hc88).1) (by decide) (by decide) kont) ?_
              show G (s₁.setTop (mkF m 95 #[.val (.long p1), .second, .val (.long p2), .second, .val (.long p3), .second, .val (.int p4), .val (.int p5), .val (.int p6), .val (.int s4_0), .val (.int s22_0), .val (.int s37_0), .val (.int s56_0), .val (.int s72_0), .unset, .unset, .unset, .unset] []))
              refine go (fun _ kont => XS.lload X0.here hx rfl (hb hby at_95) rfl  kont) ?_
              show G (s₁.setTop (mkF m 97 #[.val (.long p1), .second, .val (.long p2), .second, .val (.long p3), .second, .val (.int p4), .val (.int p5), .val (.int p6), .val (.int s4_0), .val (.int s22_0), .val (.int s37_0), .val (.int s56_0), .val (.int s72_0), .unset, .unset, .unset, .unset] [(.long p3)]))
              refine go (fun _ kont => XS.bipush X0.here hx rfl (hb hby at_97) kont) ?_
              show G (s₁.setTop (mkF m 99 #[.val (.long p1), .second, .val (.long p2), .second, .val (.long p3), .second, .val (.int p4), .val (.int p5), .val (.int p6), .val (.int s4_0), .val (.int s22_0), .val (.int s37_0), .val (.int s56_0), .val (.int s72_0), .unset, .unset, .unset, .unset] [(.int (32 : Int32)), (.long p3)]))
              refine go (fun _ kont => XS.lushr X0.here hx rfl (hb hby at_99) rfl kont) ?_
              show G (s₁.setTop (mkF m 100 #[.val (.long p1), .second, .val (.long p2), .second, .val (.long p3), .second, .val (.int p4), .val (.int p5), .val (.int p6), .val (.int s4_0), .val (.int s22_0), .val (.int s37_0), .val (.int s56_0), .val (.int s72_0), .unset, .unset, .unset, .unset] [(.long ((p3.toUInt64 >>> ((32 : Int32) &&& 0x3f).toInt64.toUInt64).toInt64))]))
              refine go (fun _ kont => XS.l2i X0.here hx rfl (hb hby at_100) rfl kont) ?_
              show G (s₁.setTop (mkF m 101 #[.val (.long p1), .second, .val (.long p2), .second, .val (.long p3), .second, .val (.int p4), .val (.int p5), .val (.int p6), .val (.int s4_0), .val (.int s22_0), .val (.int s37_0), .val (.int s56_0), .val (.int s72_0), .unset, .unset, .unset, .unset] [(.int ((p3.toUInt64 >>> ((32 : Int32) &&& 0x3f).toInt64.toUInt64).toInt64).toInt32)]))
              exact j6 _ (by first | exact (if_pos hc88).symm | (rw [if_pos hc88]; assumption))
            · refine go (fun _ kont => XS.ifNo X0.here hx rfl (hb hby at_88) rfl ((if0 _ _).trans (feq hc88).1) kont) ?_
              show G (s₁.setTop (mkF m 91 #[.val (.long p1), .second, .val (.long p2), .second, .val (.long p3), .second, .val (.int p4), .val (.int p5), .val (.int p6), .val (.int s4_0), .val (.int s22_0), .val (.int s37_0), .val (.int s56_0), .val (.int s72_0), .unset, .unset, .unset, .unset] []))
              refine go (fun _ kont => XS.iconst X0.here hx rfl (hb hby at_91) kont) ?_
              show G (s₁.setTop (mkF m 92 #[.val (.long p1), .second, .val (.long p2), .second, .val (.long p3), .second, .val (.int p4), .val (.int p5), .val (.int p6), .val (.int s4_0), .val (.int s22_0), .val (.int s37_0), .val (.int s56_0), .val (.int s72_0), .unset, .unset, .unset, .unset] [(.int (0 : Int32))]))
              refine go (fun _ kont => XS.goto X0.here hx rfl (pc0 := 92) (pc' := 101) rfl (hb hby at_92) (by decide) (by decide) kont) ?_
              show G (s₁.setTop (mkF m 101 #[.val (.long p1), .second, .val (.long p2), .second, .val (.long p3), .second, .val (.int p4), .val (.int p5), .val (.int p6), .val (.int s4_0), .val (.int s22_0), .val (.int s37_0), .val (.int s56_0), .val (.int s72_0), .unset, .unset, .unset, .unset] [(.int (0 : Int32))]))
              exact j6 _ (by first | exact (if_neg hc88).symm | (rw [if_neg hc88]; assumption))
          by_cases hc72 : (p6 &&& (16 : Int32)) = (0 : Int32)
          · refine go (fun _ kont => XS.ifYes X0.here hx rfl (pc0 := 72) (pc' := 79) rfl (hb hby at_72) rfl ((if0 _ _).trans (teq hc72).1) (by decide) (by decide) kont) ?_
            show G (s₁.setTop (mkF m 79 #[.val (.long p1), .second, .val (.long p2), .second, .val (.long p3), .second, .val (.int p4), .val (.int p5), .val (.int p6), .val (.int s4_0), .val (.int s22_0), .val (.int s37_0), .val (.int s56_0), .unset, .unset, .unset, .unset, .unset] []))
            refine go (fun _ kont => XS.iload X0.here hx rfl (hb hby at_79) rfl  kont) ?_
            show G (s₁.setTop (mkF m 81 #[.val (.long p1), .second, .val (.long p2), .second, .val (.long p3), .second, .val (.int p4), .val (.int p5), .val (.int p6), .val (.int s4_0), .val (.int s22_0), .val (.int s37_0), .val (.int s56_0), .unset, .unset, .unset, .unset, .unset] [(.int p4)]))
            exact j5 _ (by first | exact (if_pos hc72).symm | (rw [if_pos hc72]; assumption))
          · refine go (fun _ kont => XS.ifNo X0.here hx rfl (hb hby at_72) rfl ((if0 _ _).trans (feq hc72).1) kont) ?_
            show G (s₁.setTop (mkF m 75 #[.val (.long p1), .second, .val (.long p2), .second, .val (.long p3), .second, .val (.int p4), .val (.int p5), .val (.int p6), .val (.int s4_0), .val (.int s22_0), .val (.int s37_0), .val (.int s56_0), .unset, .unset, .unset, .unset, .unset] []))
            refine go (fun _ kont => XS.iconst X0.here hx rfl (hb hby at_75) kont) ?_
            show G (s₁.setTop (mkF m 76 #[.val (.long p1), .second, .val (.long p2), .second, .val (.long p3), .second, .val (.int p4), .val (.int p5), .val (.int p6), .val (.int s4_0), .val (.int s22_0), .val (.int s37_0), .val (.int s56_0), .unset, .unset, .unset, .unset, .unset] [(.int (0 : Int32))]))
            refine go (fun _ kont => XS.goto X0.here hx rfl (pc0 := 76) (pc' := 81) rfl (hb hby at_76) (by decide) (by decide) kont) ?_
            show G (s₁.setTop (mkF m 81 #[.val (.long p1), .second, .val (.long p2), .second, .val (.long p3), .second, .val (.int p4), .val (.int p5), .val (.int p6), .val (.int s4_0), .val (.int s22_0), .val (.int s37_0), .val (.int s56_0), .unset, .unset, .unset, .unset, .unset] [(.int (0 : Int32))]))
            exact j5 _ (by first | exact (if_neg hc72).symm | (rw [if_neg hc72]; assumption))
        by_cases hc56 : (p6 &&& (8 : Int32)) = (0 : Int32)
        · refine go (fun _ kont => XS.ifYes X0.here hx rfl (pc0 := 56) (pc' := 63) rfl (hb hby at_56) rfl ((if0 _ _).trans (teq hc56).1) (by decide) (by decide) kont) ?_
          show G (s₁.setTop (mkF m 63 #[.val (.long p1), .second, .val (.long p2), .second, .val (.long p3), .second, .val (.int p4), .val (.int p5), .val (.int p6), .val (.int s4_0), .val (.int s22_0), .val (.int s37_0), .unset, .unset, .unset, .unset, .unset, .unset] []))
          refine go (fun _ kont => XS.lloadN X0.here hx rfl (hb hby at_63) rfl  kont) ?_
          show G (s₁.setTop (mkF m 64 #[.val (.long p1), .second, .val (.long p2), .second, .val (.long p3), .second, .val (.int p4), .val (.int p5), .val (.int p6), .val (.int s4_0), .val (.int s22_0), .val (.int s37_0), .unset, .unset, .unset, .unset, .unset, .unset] [(.long p2)]))
          refine go (fun _ kont => XS.l2i X0.here hx rfl (hb hby at_64) rfl kont) ?_
          show G (s₁.setTop (mkF m 65 #[.val (.long p1), .second, .val (.long p2), .second, .val (.long p3), .second, .val (.int p4), .val (.int p5), .val (.int p6), .val (.int s4_0), .val (.int s22_0), .val (.int s37_0), .unset, .unset, .unset, .unset, .unset, .unset] [(.int p2.toInt32)]))
          exact j4 _ (by first | exact (if_pos hc56).symm | (rw [if_pos hc56]; assumption))
        · refine go (fun _ kont => XS.ifNo X0.here hx rfl (hb hby at_56) rfl ((if0 _ _).trans (feq hc56).1) kont) ?_
          show G (s₁.setTop (mkF m 59 #[.val (.long p1), .second, .val (.long p2), .second, .val (.long p3), .second, .val (.int p4), .val (.int p5), .val (.int p6), .val (.int s4_0), .val (.int s22_0), .val (.int s37_0), .unset, .unset, .unset, .unset, .unset, .unset] []))
          refine go (fun _ kont => XS.iconst X0.here hx rfl (hb hby at_59) kont) ?_
          show G (s₁.setTop (mkF m 60 #[.val (.long p1), .second, .val (.long p2), .second, .val (.long p3), .second, .val (.int p4), .val (.int p5), .val (.int p6), .val (.int s4_0), .val (.int s22_0), .val (.int s37_0), .unset, .unset, .unset, .unset, .unset, .unset] [(.int (0 : Int32))]))
          refine go (fun _ kont => XS.goto X0.here hx rfl (pc0 := 60) (pc' := 65) rfl (hb hby at_60) (by decide) (by decide) kont) ?_
          show G (s₁.setTop (mkF m 65 #[.val (.long p1), .second, .val (.long p2), .second, .val (.long p3), .second, .val (.int p4), .val (.int p5), .val (.int p6), .val (.int s4_0), .val (.int s22_0), .val (.int s37_0), .unset, .unset, .unset, .unset, .unset, .unset] [(.int (0 : Int32))]))
          exact j4 _ (by first | exact (if_neg hc56).symm | (rw [if_neg hc56]; assumption))
      by_cases hc37 : (p6 &&& (4 : Int32)) = (0 : Int32)
      · refine go (fun _ kont => XS.ifYes X0.here hx rfl (pc0 := 37) (pc' := 44) rfl (hb hby at_37) rfl ((if0 _ _).trans (teq hc37).1) (by decide) (by decide) kont) ?_
        show G (s₁.setTop (mkF m 44 #[.val (.long p1), .second, .val (.long p2), .second, .val (.long p3), .second, .val (.int p4), .val (.int p5), .val (.int p6), .val (.int s4_0), .val (.int s22_0), .unset, .unset, .unset, .unset, .unset, .unset, .unset] []))
        refine go (fun _ kont => XS.lloadN X0.here hx rfl (hb hby at_44) rfl  kont) ?_
        show G (s₁.setTop (mkF m 45 #[.val (.long p1), .second, .val (.long p2), .second, .val (.long p3), .second, .val (.int p4), .val (.int p5), .val (.int p6), .val (.int s4_0), .val (.int s22_0), .unset, .unset, .unset, .unset, .unset, .unset, .unset] [(.long p2)]))
        refine go (fun _ kont => XS.bipush X0.here hx rfl (hb hby at_45) kont) ?_
        show G (s₁.setTop (mkF m 47 #[.val (.long p1), .second, .val (.long p2), .second, .val (.long p3), .second, .val (.int p4), .val (.int p5), .val (.int p6), .val (.int s4_0), .val (.int s22_0), .unset, .unset, .unset, .unset, .unset, .unset, .unset] [(.int (32 : Int32)), (.long p2)]))
        refine go (fun _ kont => XS.lushr X0.here hx rfl (hb hby at_47) rfl kont) ?_
        show G (s₁.setTop (mkF m 48 #[.val (.long p1), .second, .val (.long p2), .second, .val (.long p3), .second, .val (.int p4), .val (.int p5), .val (.int p6), .val (.int s4_0), .val (.int s22_0), .unset, .unset, .unset, .unset, .unset, .unset, .unset] [(.long ((p2.toUInt64 >>> ((32 : Int32) &&& 0x3f).toInt64.toUInt64).toInt64))]))
        refine go (fun _ kont => XS.l2i X0.here hx rfl (hb hby at_48) rfl kont) ?_
        show G (s₁.setTop (mkF m 49 #[.val (.long p1), .second, .val (.long p2), .second, .val (.long p3), .second, .val (.int p4), .val (.int p5), .val (.int p6), .val (.int s4_0), .val (.int s22_0), .unset, .unset, .unset, .unset, .unset, .unset, .unset] [(.int ((p2.toUInt64 >>> ((32 : Int32) &&& 0x3f).toInt64.toUInt64).toInt64).toInt32)]))
        exact j3 _ (by first | exact (if_pos hc37).symm | (rw [if_pos hc37]; assumption))
      · refine go (fun _ kont => XS.ifNo X0.here hx rfl (hb hby at_37) rfl ((if0 _ _).trans (feq hc37).1) kont) ?_
        show G (s₁.setTop (mkF m 40 #[.val (.long p1), .second, .val (.long p2), .second, .val (.long p3), .second, .val (.int p4), .val (.int p5), .val (.int p6), .val (.int s4_0), .val (.int s22_0), .unset, .unset, .unset, .unset, .unset, .unset, .unset] []))
        refine go (fun _ kont => XS.iconst X0.here hx rfl (hb hby at_40) kont) ?_
        show G (s₁.setTop (mkF m 41 #[.val (.long p1), .second, .val (.long p2), .second, .val (.long p3), .second, .val (.int p4), .val (.int p5), .val (.int p6), .val (.int s4_0), .val (.int s22_0), .unset, .unset, .unset, .unset, .unset, .unset, .unset] [(.int (0 : Int32))]))
        refine go (fun _ kont => XS.goto X0.here hx rfl (pc0 := 41) (pc' := 49) rfl (hb hby at_41) (by decide) (by decide) kont) ?_
        show G (s₁.setTop (mkF m 49 #[.val (.long p1), .second, .val (.long p2), .second, .val (.long p3), .second, .val (.int p4), .val (.int p5), .val (.int p6), .val (.int s4_0), .val (.int s22_0), .unset, .unset, .unset, .unset, .unset, .unset, .unset] [(.int (0 : Int32))]))
        exact j3 _ (by first | exact (if_neg hc37).symm | (rw [if_neg hc37]; assumption))
    by_cases hc22 : (p6 &&& (2 : Int32)) = (0 : Int32)
    · refine go (fun _ kont => XS.ifYes X0.here hx rfl (pc0 := 22) (pc' := 29) rfl (hb hby at_22) rfl ((if0 _ _).trans (teq hc22).1) (by decide) (by decide) kont) ?_
      show G (s₁.setTop (mkF m 29 #[.val (.long p1), .second, .val (.long p2), .second, .val (.long p3), .second, .val (.int p4), .val (.int p5), .val (.int p6), .val (.int s4_0), .unset, .unset, .unset, .unset, .unset, .unset, .unset, .unset] []))
      refine go (fun _ kont => XS.lloadN X0.here hx rfl (hb hby at_29) rfl  kont) ?_
      show G (s₁.setTop (mkF m 30 #[.val (.long p1), .second, .val (.long p2), .second, .val (.long p3), .second, .val (.int p4), .val (.int p5), .val (.int p6), .val (.int s4_0), .unset, .unset, .unset, .unset, .unset, .unset, .unset, .unset] [(.long p1)]))
      refine go (fun _ kont => XS.l2i X0.here hx rfl (hb hby at_30) rfl kont) ?_
      show G (s₁.setTop (mkF m 31 #[.val (.long p1), .second, .val (.long p2), .second, .val (.long p3), .second, .val (.int p4), .val (.int p5), .val (.int p6), .val (.int s4_0), .unset, .unset, .unset, .unset, .unset, .unset, .unset, .unset] [(.int p1.toInt32)]))
      exact j2 _ (by first | exact (if_pos hc22).symm | (rw [if_pos hc22]; assumption))
    · refine go (fun _ kont => XS.ifNo X0.here hx rfl (hb hby at_22) rfl ((if0 _ _).trans (feq hc22).1) kont) ?_
      show G (s₁.setTop (mkF m 25 #[.val (.long p1), .second, .val (.long p2), .second, .val (.long p3), .second, .val (.int p4), .val (.int p5), .val (.int p6), .val (.int s4_0), .unset, .unset, .unset, .unset, .unset, .unset, .unset, .unset] []))
      refine go (fun _ kont => XS.iconst X0.here hx rfl (hb hby at_25) kont) ?_
      show G (s₁.setTop (mkF m 26 #[.val (.long p1), .second, .val (.long p2), .second, .val (.long p3), .second, .val (.int p4), .val (.int p5), .val (.int p6), .val (.int s4_0), .unset, .unset, .unset, .unset, .unset, .unset, .unset, .unset] [(.int (0 : Int32))]))
      refine go (fun _ kont => XS.goto X0.here hx rfl (pc0 := 26) (pc' := 31) rfl (hb hby at_26) (by decide) (by decide) kont) ?_
      show G (s₁.setTop (mkF m 31 #[.val (.long p1), .second, .val (.long p2), .second, .val (.long p3), .second, .val (.int p4), .val (.int p5), .val (.int p6), .val (.int s4_0), .unset, .unset, .unset, .unset, .unset, .unset, .unset, .unset] [(.int (0 : Int32))]))
      exact j2 _ (by first | exact (if_neg hc22).symm | (rw [if_neg hc22]; assumption))
  by_cases hc4 : (p6 &&& (1 : Int32)) = (0 : Int32)
  · refine go (fun _ kont => XS.ifYes X0.here hx rfl (pc0 := 4) (pc' := 11) rfl (hb hby at_4) rfl ((if0 _ _).trans (teq hc4).1) (by decide) (by decide) kont) ?_
    show G (s₁.setTop (mkF m 11 #[.val (.long p1), .second, .val (.long p2), .second, .val (.long p3), .second, .val (.int p4), .val (.int p5), .val (.int p6), .unset, .unset, .unset, .unset, .unset, .unset, .unset, .unset, .unset] []))
    refine go (fun _ kont => XS.lloadN X0.here hx rfl (hb hby at_11) rfl  kont) ?_
    show G (s₁.setTop (mkF m 12 #[.val (.long p1), .second, .val (.long p2), .second, .val (.long p3), .second, .val (.int p4), .val (.int p5), .val (.int p6), .unset, .unset, .unset, .unset, .unset, .unset, .unset, .unset, .unset] [(.long p1)]))
    refine go (fun _ kont => XS.bipush X0.here hx rfl (hb hby at_12) kont) ?_
    show G (s₁.setTop (mkF m 14 #[.val (.long p1), .second, .val (.long p2), .second, .val (.long p3), .second, .val (.int p4), .val (.int p5), .val (.int p6), .unset, .unset, .unset, .unset, .unset, .unset, .unset, .unset, .unset] [(.int (32 : Int32)), (.long p1)]))
    refine go (fun _ kont => XS.lushr X0.here hx rfl (hb hby at_14) rfl kont) ?_
    show G (s₁.setTop (mkF m 15 #[.val (.long p1), .second, .val (.long p2), .second, .val (.long p3), .second, .val (.int p4), .val (.int p5), .val (.int p6), .unset, .unset, .unset, .unset, .unset, .unset, .unset, .unset, .unset] [(.long ((p1.toUInt64 >>> ((32 : Int32) &&& 0x3f).toInt64.toUInt64).toInt64))]))
    refine go (fun _ kont => XS.l2i X0.here hx rfl (hb hby at_15) rfl kont) ?_
    show G (s₁.setTop (mkF m 16 #[.val (.long p1), .second, .val (.long p2), .second, .val (.long p3), .second, .val (.int p4), .val (.int p5), .val (.int p6), .unset, .unset, .unset, .unset, .unset, .unset, .unset, .unset, .unset] [(.int ((p1.toUInt64 >>> ((32 : Int32) &&& 0x3f).toInt64.toUInt64).toInt64).toInt32)]))
    exact j1 _ (by first | exact (if_pos hc4).symm | (rw [if_pos hc4]; assumption))
  · refine go (fun _ kont => XS.ifNo X0.here hx rfl (hb hby at_4) rfl ((if0 _ _).trans (feq hc4).1) kont) ?_
    show G (s₁.setTop (mkF m 7 #[.val (.long p1), .second, .val (.long p2), .second, .val (.long p3), .second, .val (.int p4), .val (.int p5), .val (.int p6), .unset, .unset, .unset, .unset, .unset, .unset, .unset, .unset, .unset] []))
    refine go (fun _ kont => XS.iconst X0.here hx rfl (hb hby at_7) kont) ?_
    show G (s₁.setTop (mkF m 8 #[.val (.long p1), .second, .val (.long p2), .second, .val (.long p3), .second, .val (.int p4), .val (.int p5), .val (.int p6), .unset, .unset, .unset, .unset, .unset, .unset, .unset, .unset, .unset] [(.int (0 : Int32))]))
    refine go (fun _ kont => XS.goto X0.here hx rfl (pc0 := 8) (pc' := 16) rfl (hb hby at_8) (by decide) (by decide) kont) ?_
    show G (s₁.setTop (mkF m 16 #[.val (.long p1), .second, .val (.long p2), .second, .val (.long p3), .second, .val (.int p4), .val (.int p5), .val (.int p6), .unset, .unset, .unset, .unset, .unset, .unset, .unset, .unset, .unset] [(.int (0 : Int32))]))
    exact j1 _ (by first | exact (if_neg hc4).symm | (rw [if_neg hc4]; assumption))
set_option maxRecDepth 65536 in
set_option maxHeartbeats 40000000 in
theorem comes_1 {Post : Tables → Env → Array Value → State → Outcome → State → Prop} (hpost : ∀ tb e args s v u, (limb_1_1.after args s (.returned v) u = true ∧ limb_1_2.after args s (.returned v) u = true ∧ True) → FrameEnd s (.returned v) u (Jvm.fieldLocs frame_1_writes args s ++ Jvm.arrayLocs frame_1_arrays args s ++ Jvm.staticLocs frame_1_statics s) 16 128 → Post tb e args s (.returned v) u) :
    ArmFor flags0 classFile x code maxLocals ret World_1 tables_1 room_1 Calls_1 rest_1 Pre_1 Post := by
  intro l hfl _ _ p e ha hc hk s m args below hf hA hF happ hP
  obtain ⟨hcalls, hrest, hpre⟩ := hP
  obtain ⟨-, -, -, hnamed, -, -, -, hat⟩ := (Spec.applies_iff hf).mp happ
  obtain ⟨hg, hn⟩ := and_e (Cond.before_iff.mp (show (Jvm.Cond.and given_1 narrow_1).before args s = true from hpre))
  obtain ⟨hcnt, ha0⟩ := and_e hg
  obtain ⟨hk0, ha1⟩ := and_e ha0
  obtain ⟨hk1, ha2⟩ := and_e ha1
  obtain ⟨hk2, ha3⟩ := and_e ha2
  obtain ⟨hk3, ha4⟩ := and_e ha3
  obtain ⟨hk4, ha5⟩ := and_e ha4
  have hk5 := ha5
  obtain ⟨w0, w1, w2, w3, w4, w5, rfl⟩ : ∃ w0 w1 w2 w3 w4 w5 : Value, args = #[w0, w1, w2, w3, w4, w5] := by
    have hs : args.size = 6 := by simpa [Cond.value, given_1] using hcnt
    obtain ⟨L⟩ := args
    match L, hs with
    | [w0, w1, w2, w3, w4, w5], _ => exact ⟨w0, w1, w2, w3, w4, w5, rfl⟩
  have hw := fun d (hd : d ∈ tables_1) => atoms_spec (ws := Jvm.Cond.code x code maxLocals ret :: tables_1) hat d (List.mem_cons_of_mem _ hd)
  have hfit : Fit s := fun {y c} hc i hi => by
    obtain ⟨ha, rfl⟩ := Array.getElem?_eq_some_iff.mp hc
    have q := List.all_eq_true.mp ((Array.all_eq_true_iff_forall_mem.mp hF) _ (Array.getElem_mem ha)) i (List.mem_range.mpr hi)
    simpa [Array.getElem?_eq_getElem hi] using q
  obtain ⟨i0, ei0⟩ := isL_v hk0
  obtain rfl : w0 = (.long i0) := Option.some.inj ei0
  obtain ⟨i1, ei1⟩ := isL_v hk1
  obtain rfl : w1 = (.long i1) := Option.some.inj ei1
  obtain ⟨i2, ei2⟩ := isL_v hk2
  obtain rfl : w2 = (.long i2) := Option.some.inj ei2
  obtain ⟨i3, ei3⟩ := is_v hk3
  obtain rfl : w3 = (.int i3) := Option.some.inj ei3
  obtain ⟨i4, ei4⟩ := is_v hk4
  obtain rfl : w4 = (.int i4) := Option.some.inj ei4
  obtain ⟨i5, ei5⟩ := is_v hk5
  obtain rfl : w5 = (.int i5) := Option.some.inj ei5
  obtain ⟨n, o, h1, h2, h3, _, L, rfl, ⟨rfl, N⟩, hq⟩ := own_rm_law l s _ hw tables_1 i0 i1 i2 i3 i4 i5 s.heap s.heap.size (Nat.le_refl _)  p e ha hc hk s m _ below hf ((Spec.applies_iff_loose hf).mp happ).1 ⟨rfl, State.Warmed39.refl s, rfl⟩ trivial
  refine ⟨n, _, h1, h2, h3, hpost _ _ _ _ _ _ ⟨Cond.after_iff.mpr rfl, Cond.after_iff.mpr (eq_i res_at (Term.int_eval (1)) rfl), trivial⟩ ⟨hq.1, hq.2.1, (hq.2.2.sift fun y hy => Or.inr (N y hy)).mono (by decide) (by decide)⟩⟩
theorem main_1_1 : Claimed_1_1 := comes_1 fun _ _ _ _ _ _ h hF => ⟨h.1, hF⟩
theorem main_1_2 : Claimed_1_2 := comes_1 fun _ _ _ _ _ _ h hF => ⟨h.2.1, hF⟩
end Jvm.Pilot.@@N@@
namespace Jvm.Pilot.@@N@@
open Jvm Jvm.ClassFile Sem Op Lib Jvm.Free Jvm.Stand Jvm.Pilot.@@N@@.Jvm.D
/-! MADE BY PROGRAM (witnessworld.py) out of the Statement's table words and the real class files: 10 classes; the members and pool entries that the words name. The judged class is class 1, her method 1. -/
namespace start1
open Jvm.ClassFile
def u (s : String) : CpInfo := .utf8 (stringToUtf16 s)
/-- a pool by its gaps: so many unusable entries, then the entry; so many at the end -/
def gap : Nat → List CpInfo → List CpInfo
  | 0, r => r
  | n + 1, r => .unusable :: gap n r
def poolList (es : List (Nat × CpInfo)) (last : Nat) : List CpInfo := es.foldr (fun e r => gap e.1 (e.2 :: r)) (gap last [])
def pool (es : List (Nat × CpInfo)) (last : Nat) : Array CpInfo := ⟨poolList es last⟩
def fileOf (pool : Array CpInfo) (this : Nat) (attrs : Array Attribute := #[]) (ms : Array MethodInfo := #[]) (fl : Nat := 33) (sup : Nat := 0) (ifs : Array Nat := #[]) (fds : Array FieldInfo := #[]) : ClassFile where
  minorVersion := 0
  majorVersion := 65
  constantPool := pool
  accessFlags := fl
  thisClass := this
  superClass := sup
  interfaces := ifs
  fields := fds
  methods := ms
  attributes := attrs
def plain (name : String) (sup : Option ClassId) : Class where
  name := name
  kind := .ordinary
  loader := none
  accessFlags := 33
  super := sup
  interfaces := #[]
  cf := none
  fields := #[]
  methods := #[]
  instanceTypes := #[]
  staticTypes := #[]
  resolved := #[]
  callSites := []
  init := .initialized
  statics := none
  mirror := none

def pool0 : Array CpInfo := pool [(5, u "<init>"), (0, u "()V"), (1, .class_ 10), (1, u "java/lang/Object")] 113

def k0c0 : Code := { maxStack := 0, maxLocals := 1, code := object_method_1_code, exceptionTable := #[], attributes := #[] }
def k0m0 : Method := { name := "<init>", desc := "()V", sig := { parameters := [], returnType := none }, accessFlags := 1, code := some k0c0 }
/-- java/lang/Object -/
def k0 : Class := { plain "java/lang/Object" none with
  accessFlags := 33
  interfaces := #[]
  cf := some (fileOf pool0 8 #[] #[{ accessFlags := 1, nameIndex := 5, descriptorIndex := 6, attributes := #[] }] 33 0 #[] #[])
  fields := #[]
  methods := #[k0m0]
  instanceTypes := #[]
  staticTypes := #[]
  resolved := Array.replicate 124 none
  statics := none }

def pool1 : Array CpInfo := pool [(2, .class_ 4), (1, u "java/lang/Object"), (0, u "<init>"), (0, u "()V"), (0, .class_ 8), (0, u "com/example/wary_ddl/waryddl/sql/DateTimeText"), (0, .methodref 7 10), (0, .nameAndType 5 11), (0, u "(IIIIIIII)V"), (0, .methodref 7 13), (0, .nameAndType 14 15), (0, u "isZero"), (0, u "()Z"), (0, .class_ 17), (0, u "com/example/wary_ddl/waryddl/sql/DateTimeTextIsZeroPinLaw"), (2, u "law"), (0, u "(JJJIII)Z")] 3

def k1m0 : Method := { name := "<init>", desc := "()V", sig := { parameters := [], returnType := none }, accessFlags := 1, code := none }
def k1c1 : Code := { maxStack := 10, maxLocals := 18, code := code, exceptionTable := #[], attributes := #[] }
def k1m1 : Method := { name := "law", desc := "(JJJIII)Z", sig := { parameters := [.long, .long, .long, .int, .int, .int], returnType := some .boolean }, accessFlags := 9, code := some k1c1 }
/-- com/example/wary_ddl/waryddl/sql/DateTimeTextIsZeroPinLaw -/
def k1 : Class := { plain "com/example/wary_ddl/waryddl/sql/DateTimeTextIsZeroPinLaw" (some 0) with
  accessFlags := 49
  interfaces := #[]
  cf := some (fileOf pool1 16 #[] #[{ accessFlags := 1, nameIndex := 5, descriptorIndex := 6, attributes := #[] }, { accessFlags := 9, nameIndex := 20, descriptorIndex := 21, attributes := #[] }] 49 2 #[] #[])
  fields := #[]
  methods := #[k1m0, k1m1]
  instanceTypes := #[]
  staticTypes := #[]
  resolved := Array.replicate 25 none
  statics := none }

def pool2 : Array CpInfo := pool [(1, .methodref 2 3), (0, .class_ 4), (0, .nameAndType 5 6), (0, u "java/lang/Object"), (0, u "<init>"), (0, u "()V"), (0, .class_ 8), (0, u "java/lang/Record")] 13

def k2c0 : Code := { maxStack := 1, maxLocals := 1, code := jdk_30_method_1_code, exceptionTable := #[], attributes := #[] }
def k2m0 : Method := { name := "<init>", desc := "()V", sig := { parameters := [], returnType := none }, accessFlags := 4, code := some k2c0 }
/-- java/lang/Record -/
def k2 : Class := { plain "java/lang/Record" (some 0) with
  accessFlags := 1057
  interfaces := #[]
  cf := some (fileOf pool2 7 #[] #[{ accessFlags := 4, nameIndex := 5, descriptorIndex := 6, attributes := #[] }] 1057 2 #[] #[])
  fields := #[]
  methods := #[k2m0]
  instanceTypes := #[]
  staticTypes := #[]
  resolved := Array.replicate 22 none
  statics := none }

def pool3 : Array CpInfo := pool [(1, .methodref 2 3), (0, .class_ 4), (0, .nameAndType 5 6), (0, u "java/lang/Record"), (0, u "<init>"), (0, u "()V"), (0, .fieldref 8 9), (0, .class_ 10), (0, .nameAndType 11 12), (0, u "com/example/wary_ddl/waryddl/sql/DateTimeText"), (0, u "year"), (0, u "I"), (0, .fieldref 8 14), (0, .nameAndType 15 12), (0, u "month"), (0, .fieldref 8 17), (0, .nameAndType 18 12), (0, u "day"), (0, .fieldref 8 20), (0, .nameAndType 21 12), (0, u "hour"), (0, .fieldref 8 23), (0, .nameAndType 24 12), (0, u "minute"), (0, .fieldref 8 26), (0, .nameAndType 27 12), (0, u "second"), (0, .fieldref 8 29), (0, .nameAndType 30 12), (0, u "nanos"), (0, .fieldref 8 32), (0, .nameAndType 33 12), (0, u "fractionDigits"), (2, u "DELIMITED"), (0, u "Ljava/util/regex/Pattern;"), (11, u "()Z"), (2, u "PACKED"), (19, u "(IIIIIIII)V"), (2, u "isZero"), (56, u "LAST_YEAR_OF_THIS_CENTURY"), (2, u "NANO_DIGITS")] 48

def k3c0 : Code := { maxStack := 2, maxLocals := 9, code := prog_165_method_1_code, exceptionTable := #[], attributes := #[] }
def k3m0 : Method := { name := "<init>", desc := "(IIIIIIII)V", sig := { parameters := [.int, .int, .int, .int, .int, .int, .int, .int], returnType := none }, accessFlags := 1, code := some k3c0 }
def k3c1 : Code := { maxStack := 1, maxLocals := 1, code := prog_165_method_3_code, exceptionTable := #[], attributes := #[] }
def k3m1 : Method := { name := "isZero", desc := "()Z", sig := { parameters := [], returnType := some .boolean }, accessFlags := 1, code := some k3c1 }
/-- com/example/wary_ddl/waryddl/sql/DateTimeText -/
def k3 : Class := { plain "com/example/wary_ddl/waryddl/sql/DateTimeText" (some 2) with
  accessFlags := 49
  interfaces := #[]
  cf := some (fileOf pool3 8 #[] #[{ accessFlags := 1, nameIndex := 5, descriptorIndex := 72, attributes := #[] }, { accessFlags := 1, nameIndex := 75, descriptorIndex := 49, attributes := #[] }] 49 2 #[] #[{ accessFlags := 18, nameIndex := 11, descriptorIndex := 12, attributes := #[] }, { accessFlags := 18, nameIndex := 15, descriptorIndex := 12, attributes := #[] }, { accessFlags := 18, nameIndex := 18, descriptorIndex := 12, attributes := #[] }, { accessFlags := 18, nameIndex := 21, descriptorIndex := 12, attributes := #[] }, { accessFlags := 18, nameIndex := 24, descriptorIndex := 12, attributes := #[] }, { accessFlags := 18, nameIndex := 27, descriptorIndex := 12, attributes := #[] }, { accessFlags := 18, nameIndex := 30, descriptorIndex := 12, attributes := #[] }, { accessFlags := 18, nameIndex := 33, descriptorIndex := 12, attributes := #[] }, { accessFlags := 26, nameIndex := 36, descriptorIndex := 37, attributes := #[] }, { accessFlags := 26, nameIndex := 52, descriptorIndex := 37, attributes := #[] }, { accessFlags := 26, nameIndex := 132, descriptorIndex := 12, attributes := #[] }, { accessFlags := 26, nameIndex := 135, descriptorIndex := 12, attributes := #[] }])
  fields := #[{ name := "year", type := .int, accessFlags := 18, slot := 0, constantValue := 0 }, { name := "month", type := .int, accessFlags := 18, slot := 1, constantValue := 0 }, { name := "day", type := .int, accessFlags := 18, slot := 2, constantValue := 0 }, { name := "hour", type := .int, accessFlags := 18, slot := 3, constantValue := 0 }, { name := "minute", type := .int, accessFlags := 18, slot := 4, constantValue := 0 }, { name := "second", type := .int, accessFlags := 18, slot := 5, constantValue := 0 }, { name := "nanos", type := .int, accessFlags := 18, slot := 6, constantValue := 0 }, { name := "fractionDigits", type := .int, accessFlags := 18, slot := 7, constantValue := 0 }, { name := "DELIMITED", type := (.object "java/util/regex/Pattern"), accessFlags := 26, slot := 0, constantValue := 0 }, { name := "PACKED", type := (.object "java/util/regex/Pattern"), accessFlags := 26, slot := 1, constantValue := 0 }, { name := "LAST_YEAR_OF_THIS_CENTURY", type := .int, accessFlags := 26, slot := 2, constantValue := 0 }, { name := "NANO_DIGITS", type := .int, accessFlags := 26, slot := 3, constantValue := 0 }]
  methods := #[k3m0, k3m1]
  instanceTypes := #[.int, .int, .int, .int, .int, .int, .int, .int]
  staticTypes := #[(.object "java/util/regex/Pattern"), (.object "java/util/regex/Pattern"), .int, .int]
  resolved := Array.replicate 184 none
  statics := none }

def pool4 : Array CpInfo := pool [(1, u "java/lang/Cloneable"), (0, .class_ 1), (0, u "java/lang/Object"), (0, .class_ 3)] 3

/-- java/lang/Cloneable -/
def k4 : Class := { plain "java/lang/Cloneable" (some 0) with
  accessFlags := 1537
  interfaces := #[]
  cf := some (fileOf pool4 2 #[] #[] 1537 4 #[] #[])
  fields := #[]
  methods := #[]
  instanceTypes := #[]
  staticTypes := #[]
  resolved := Array.replicate 8 none
  statics := none }

def pool5 : Array CpInfo := pool [(1, u "java/io/Serializable"), (0, .class_ 1), (0, u "java/lang/Object"), (0, .class_ 3)] 3

/-- java/io/Serializable -/
def k5 : Class := { plain "java/io/Serializable" (some 0) with
  accessFlags := 1537
  interfaces := #[]
  cf := some (fileOf pool5 2 #[] #[] 1537 4 #[] #[])
  fields := #[]
  methods := #[]
  instanceTypes := #[]
  staticTypes := #[]
  resolved := Array.replicate 8 none
  statics := none }

/-- the primitive byte -/
def k6 : Class := { plain "byte" none with kind := .primitive 'B', accessFlags := 0x411 }
/-- [B -/
def k7 : Class := { plain "[B" (some 0) with kind := .array 6 .byte, interfaces := #[4, 5], accessFlags := 1041 }

/-- the primitive int -/
def k8 : Class := { plain "int" none with kind := .primitive 'I', accessFlags := 0x411 }
/-- [I -/
def k9 : Class := { plain "[I" (some 0) with kind := .array 8 .int, interfaces := #[4, 5], accessFlags := 1041 }

def heap : Heap := #[]
def classes : Array Class := #[k0, k1, k2, k3, k4, k5, k6, k7, k8, k9]
def interned : List (Array UInt16 × Addr) := []
def slotsUsed : Nat := 0
def theMethod : MethodId := ⟨1, 1⟩
def args0 : Array Value := #[.long 5, .long 7, .long 9, .int 3, .int 3, .int 3]
def aboutOver (below : List Frame) : State where
  vm := { classes := classes, interned := interned.toArray }
  heap := heap
  slotsUsed := slotsUsed
  threads := #[{ frames := .invoking theMethod args0 :: below }]
def below0 : List Frame := [.native { method := ⟨0, 0⟩, args := #[] }]
def about1 : State := aboutOver below0
def p0 : Program := .bare "" "" ""
def e0 : Env := launch0.env 0 0 0
theorem w_frames : about1.frames = Frame.invoking theMethod args0 :: below0 := rfl
set_option maxRecDepth 65536 in
theorem w_args : argsFit about1.vm theMethod args0 = true := by decide +kernel
set_option maxRecDepth 65536 in
theorem w_heap : heapFits about1 = true := by decide +kernel
set_option maxRecDepth 65536 in
theorem w_runnable : about1.curStatus? = some .runnable := by decide +kernel
set_option maxRecDepth 65536 in
theorem w_alone : about1.alone = true := by decide +kernel
set_option maxRecDepth 65536 in
theorem w_named : about1.methodNamed? x = some theMethod := by decide +kernel
set_option maxRecDepth 65536 in
theorem w_hears : about1.hears theMethod below0 = true := by decide +kernel
set_option maxRecDepth 65536 in
theorem w_ripe : about1.ripe theMethod args0 below0 = true := by decide +kernel
theorem w_running : about1.status = .running := rfl
set_option maxRecDepth 65536 in
theorem w_room : about1.hasRoom e0.platform room_1 = true :=
  launch0.hasRoom_least _ room_1 (by decide +kernel) (by decide +kernel) (by decide +kernel) (by decide +kernel) (by decide +kernel) (by decide +kernel)
theorem allAtoms_all (ts : List Jvm.Cond) (a : Array Jvm.Value) (st : Jvm.State) : (allAtoms ts).before a st = ts.all (fun c => c.before a st) := by
  induction ts with
  | nil => rfl
  | cons c t ih =>
    show (Jvm.Cond.and c (allAtoms t)).before a st = _
    rw [Jvm.Cond.before_and, ih, List.all_cons]
def words1 : List Jvm.Cond := Jvm.Cond.code x code maxLocals ret :: tables_1
/-- a 'code' word, met by the world's own term for the bytes: nothing is compared byte by byte -/
theorem code_word {y : MethodName} {bytes : ByteArray} {mx : Nat} {rt : Option FieldType} {a : Array Value} {s : State} {m : MethodId} {meth : Method} {c : Code} (h1 : s.methodNamed? y = some m) (h2 : s.vm.method? m = some meth) (h3 : meth.code = some c) (h4 : c.code = bytes)
    (h5 : (c.maxLocals == mx && c.exceptionTable.isEmpty && decide (c.maxStack ≤ mostOperands) && decide (meth.sig.returnType = rt) && !meth.locks && decide (parseMethodDescriptor y.desc = some meth.sig)) = true) : (Jvm.Cond.code y bytes mx rt).before a s = true := by
  simp only [Bool.and_eq_true, beq_iff_eq, Bool.not_eq_true', decide_eq_true_eq] at h5
  obtain ⟨⟨⟨⟨⟨g1, g2⟩, g3⟩, g4⟩, g5⟩, g6⟩ := h5
  simp [Cond.before, Cond.holds, Cond.value, h1, h2, h3, h4, g1, g2, g3, g4, g5, g6]
def isCode : Jvm.Cond → Bool
  | .code _ _ _ _ => true
  | _ => false
theorem all_split {L : List Jvm.Cond} {P : Jvm.Cond → Bool} (h1 : L.all (fun c => isCode c || P c) = true) (h2 : ∀ c ∈ L.filter isCode, P c = true) : L.all P = true := by
  refine List.all_eq_true.mpr fun c hc => ?_
  have h := List.all_eq_true.mp h1 c hc
  rcases Bool.eq_false_or_eq_true (isCode c) with hi | hi
  · exact h2 c (List.mem_filter.mpr ⟨hc, hi⟩)
  · simpa [hi] using h
set_option maxRecDepth 65536 in
theorem w_c0 : (Jvm.Cond.code x code maxLocals ret).before args0 about1 = true := code_word (m := ⟨1, 1⟩) (meth := k1m1) (c := k1c1) (by decide +kernel) rfl rfl rfl (by decide +kernel)
set_option maxRecDepth 65536 in
theorem w_c1 : (Jvm.Cond.code ({ cls := "com/example/wary_ddl/waryddl/sql/DateTimeText", name := "<init>", desc := "(IIIIIIII)V" } : Jvm.MethodName) prog_165_method_1_code (9 : Nat) (Option.none : Option Jvm.ClassFile.FieldType)).before args0 about1 = true := code_word (m := ⟨3, 0⟩) (meth := k3m0) (c := k3c0) (by decide +kernel) rfl rfl rfl (by decide +kernel)
set_option maxRecDepth 65536 in
theorem w_c2 : (Jvm.Cond.code ({ cls := "java/lang/Record", name := "<init>", desc := "()V" } : Jvm.MethodName) jdk_30_method_1_code (1 : Nat) (Option.none : Option Jvm.ClassFile.FieldType)).before args0 about1 = true := code_word (m := ⟨2, 0⟩) (meth := k2m0) (c := k2c0) (by decide +kernel) rfl rfl rfl (by decide +kernel)
set_option maxRecDepth 65536 in
theorem w_c3 : (Jvm.Cond.code ({ cls := "java/lang/Object", name := "<init>", desc := "()V" } : Jvm.MethodName) object_method_1_code (1 : Nat) (Option.none : Option Jvm.ClassFile.FieldType)).before args0 about1 = true := code_word (m := ⟨0, 0⟩) (meth := k0m0) (c := k0c0) (by decide +kernel) rfl rfl rfl (by decide +kernel)
set_option maxRecDepth 65536 in
theorem w_c4 : (Jvm.Cond.code ({ cls := "com/example/wary_ddl/waryddl/sql/DateTimeText", name := "isZero", desc := "()Z" } : Jvm.MethodName) prog_165_method_3_code (1 : Nat) (Option.some Jvm.ClassFile.FieldType.boolean)).before args0 about1 = true := code_word (m := ⟨3, 1⟩) (meth := k3m1) (c := k3c1) (by decide +kernel) rfl rfl rfl (by decide +kernel)
def codes1 : List Jvm.Cond := [Jvm.Cond.code x code maxLocals ret, Jvm.Cond.code ({ cls := "com/example/wary_ddl/waryddl/sql/DateTimeText", name := "<init>", desc := "(IIIIIIII)V" } : Jvm.MethodName) prog_165_method_1_code (9 : Nat) (Option.none : Option Jvm.ClassFile.FieldType), Jvm.Cond.code ({ cls := "java/lang/Record", name := "<init>", desc := "()V" } : Jvm.MethodName) jdk_30_method_1_code (1 : Nat) (Option.none : Option Jvm.ClassFile.FieldType), Jvm.Cond.code ({ cls := "java/lang/Object", name := "<init>", desc := "()V" } : Jvm.MethodName) object_method_1_code (1 : Nat) (Option.none : Option Jvm.ClassFile.FieldType), Jvm.Cond.code ({ cls := "com/example/wary_ddl/waryddl/sql/DateTimeText", name := "isZero", desc := "()Z" } : Jvm.MethodName) prog_165_method_3_code (1 : Nat) (Option.some Jvm.ClassFile.FieldType.boolean)]
set_option maxRecDepth 65536 in
theorem codes_eq : words1.filter isCode = codes1 := rfl
theorem w_codes : ∀ c ∈ words1.filter isCode, c.before args0 about1 = true := by
  rw [codes_eq]
  intro c hc
  simp only [codes1, List.mem_cons, List.not_mem_nil, or_false] at hc
  rcases hc with rfl | rfl | rfl | rfl | rfl
  · exact w_c0
  · exact w_c1
  · exact w_c2
  · exact w_c3
  · exact w_c4
set_option maxRecDepth 65536 in
theorem w_t1 : (words1.take 24).all (fun c => isCode c || c.before args0 about1) = true := by decide +kernel
set_option maxRecDepth 65536 in
theorem w_t2 : (words1.drop 24).all (fun c => isCode c || c.before args0 about1) = true := by decide +kernel
theorem w_tables : (allAtoms (Jvm.Cond.code x code maxLocals ret :: tables_1)).before args0 about1 = true := by
  rw [allAtoms_all]
  show words1.all (fun c => c.before args0 about1) = true
  refine all_split ?_ w_codes
  rw [← List.take_append_drop 24 words1, List.all_append, w_t1, w_t2]
  rfl
set_option maxRecDepth 65536 in
theorem w_case : (Jvm.Cond.and given_1 narrow_1).before args0 about1 = true := by decide +kernel
theorem w_applies : (headSpec (Jvm.Cond.code x code maxLocals ret :: tables_1) room_1).applies x e0.platform about1 = true :=
  (Spec.applies_iff w_frames).mpr ⟨w_running, w_runnable, w_alone, w_named, w_hears, w_ripe, w_room, w_tables⟩
theorem atStart : AtStart classFile x code maxLocals ret World_1 tables_1 room_1 Calls_1 rest_1 Pre_1 launch0 p0 e0 about1 theMethod args0 below0 :=
  ⟨lists_1, trivial, launch0.admits_env _ _ _, launch0.least_env, fairChoices_fair.cas, fairChoices_fair.clock, w_frames, w_args, w_heap, w_applies, trivial, trivial, w_case⟩
end start1
theorem witness_1 : WitnessClaimed_1 := ⟨start1.p0, start1.e0, start1.about1, start1.theMethod, start1.args0, start1.below0, start1.atStart⟩
end Jvm.Pilot.@@N@@
