import JvmDerived
import JvmDerived.Pilot.@@N@@Statement
import JvmDerived.Pilot.@@N@@Code
set_option linter.unusedVariables false
set_option linter.unusedSimpArgs false
namespace Jvm.Pilot.@@N@@
open Jvm Jvm.ClassFile Sem Op Lib Jvm.Free Jvm.Stand Jvm.LawKit Jvm.RoadKit Bundle Jvm.Pilot.@@N@@.Jvm.D
section OwnLayer
variable {p : Program} {l : Launch} {e : Env} {R : Room} {s : State} {m : MethodId} {args : Array Value} {below : List Frame} {meth : Method} {c : Code} {T : State} {locs : List Loc} {cells slots : Nat}
/-- what is to be shown from the state S on: the run comes back, Q holds of what it leaves -/
def own_G (p : Program) (e : Env) (below : List Frame) (s : State) (k n : Nat) (Q : Option Value → Heap → List Loc → Prop) (S : State) : Prop :=
  ∃ t o, Steps p.tables e below S t ∧ t.status = .running ∧ Ended t below o ∧ ∃ v L, o = .returned v ∧ Q v t.heap L ∧ FrameEnd s o t L k n
theorem own_to {k n : Nat} {Q : Option Value → Heap → List Loc → Prop} {S S' : State} (h : ∀ t, Steps p.tables e below S' t → Steps p.tables e below S t) (g : own_G p e below s k n Q S') : own_G p e below s k n Q S := by
  obtain ⟨t, o, h1, h2⟩ := g
  exact ⟨t, o, h t h1, h2⟩
theorem own_retI {k n : Nat} {Q : Option Value → Heap → List Loc → Prop} (X : Stand p l e R s m args below meth c T locs cells slots) (hx : p.tables.exec = Jvm.exec) {pc : Nat} {Ls : Array Slot} {z : Int32} (hret : meth.sig.returnType = some .int) (hd : decode c.code pc = .ok (.ireturn, 1)) (hlk : meth.locks = false) (hk : cells ≤ k) (hn : slots ≤ n) (hq : Q (some (.int z)) T.heap locs) :
    own_G p e below s k n Q (T.setTop (mkF m pc Ls [.int z])) := by
  obtain ⟨fs, hr, hrun, hended, hW, hsame⟩ := X.leave (v := some (.int z)) (fun h => by rw [hret] at h; cases h) hlk
  exact ⟨_, _, X.ireturnOut hx hret rfl (Or.inl rfl) hd hr, hrun, hended, _, _, rfl, hq, ⟨_, rfl⟩, hW, hsame.mono hk hn⟩
theorem own_retN {k n : Nat} {Q : Option Value → Heap → List Loc → Prop} (X : Stand p l e R s m args below meth c T locs cells slots) (hx : p.tables.exec = Jvm.exec) {pc : Nat} {Ls : Array Slot} {z : Int32} {t : FieldType} {rest : List Value} (hret : meth.sig.returnType = some t) (ht : t = .boolean ∨ t = .byte ∨ t = .char ∨ t = .short) (hd : decode c.code pc = .ok (.ireturn, 1)) (hlk : meth.locks = false) (hk : cells ≤ k) (hn : slots ≤ n) (hq : Q (some (.int (nar t z))) T.heap locs) :
    own_G p e below s k n Q (T.setTop (mkF m pc Ls (.int z :: rest))) := by
  obtain ⟨fs, hr, hrun, hended, hW, hsame⟩ := X.leave (v := some (.int (nar t z))) (fun h => by rw [hret] at h; cases h) hlk
  exact ⟨_, _, retN X hx hret ht hd hr, hrun, hended, _, _, rfl, hq, ⟨_, rfl⟩, hW, hsame.mono hk hn⟩
theorem own_retJ {k n : Nat} {Q : Option Value → Heap → List Loc → Prop} (X : Stand p l e R s m args below meth c T locs cells slots) (hx : p.tables.exec = Jvm.exec) {pc : Nat} {Ls : Array Slot} {z : Int64} (hret : meth.sig.returnType = some .long) (hd : decode c.code pc = .ok (.lreturn, 1)) (hlk : meth.locks = false) (hk : cells ≤ k) (hn : slots ≤ n) (hq : Q (some (.long z)) T.heap locs) :
    own_G p e below s k n Q (T.setTop (mkF m pc Ls [.long z])) := by
  obtain ⟨fs, hr, hrun, hended, hW, hsame⟩ := X.leave (v := some (.long z)) (fun h => by rw [hret] at h; cases h) hlk
  exact ⟨_, _, X.lreturnOut hx hret hd hr, hrun, hended, _, _, rfl, hq, ⟨_, rfl⟩, hW, hsame.mono hk hn⟩
theorem own_retA {k n : Nat} {Q : Option Value → Heap → List Loc → Prop} (X : Stand p l e R s m args below meth c T locs cells slots) (hx : p.tables.exec = Jvm.exec) {pc : Nat} {Ls : Array Slot} {w : Value} {t : FieldType} (hw : w.isRef = true) (hret : meth.sig.returnType = some t) (ht : t.isReference = true) (hd : decode c.code pc = .ok (.areturn, 1)) (hlk : meth.locks = false) (hk : cells ≤ k) (hn : slots ≤ n) (hq : Q (some w) T.heap locs) :
    own_G p e below s k n Q (T.setTop (mkF m pc Ls [w])) := by
  obtain ⟨fs, hr, hrun, hended, hW, hsame⟩ := X.leave (v := some w) (fun h => by rw [hret] at h; cases h) hlk
  exact ⟨_, _, X.areturnOut hx hw hret ht hd hr, hrun, hended, _, _, rfl, hq, ⟨_, rfl⟩, hW, hsame.mono hk hn⟩
theorem own_retV {k n : Nat} {Q : Option Value → Heap → List Loc → Prop} (X : Stand p l e R s m args below meth c T locs cells slots) (hx : p.tables.exec = Jvm.exec) {pc : Nat} {Ls : Array Slot} (hret : meth.sig.returnType = none) (hd : decode c.code pc = .ok (.return_, 1)) (hlk : meth.locks = false) (hk : cells ≤ k) (hn : slots ≤ n) (hq : Q none T.heap locs) :
    own_G p e below s k n Q (T.setTop (mkF m pc Ls [])) := by
  obtain ⟨fs, hr, hrun, hended, hW, hsame⟩ := X.leave (v := none) (fun _ => rfl) hlk
  exact ⟨_, _, X.returnOut hx hret hd hr, hrun, hended, _, _, rfl, hq, ⟨_, rfl⟩, hW, hsame.mono hk hn⟩
end OwnLayer
/-- a callee that leaves the heap as it was and returns r -/
def own_Qp (r : Option Value) (h0 : Heap) (n0 : Nat) (v : Option Value) (h : Heap) (L : List Loc) : Prop := v = r ∧ Fr n0 L ∧ h = h0
/-- the law itself -/
def own_Ql (n0 : Nat) (v : Option Value) (h : Heap) (L : List Loc) : Prop := v = some (.int 1) ∧ Fr n0 L
/-- a reference's int field, out of the case's words -/
theorem own_ord {args : Array Value} {s : State} {t : Jvm.Term} {C n d : String} {k : Int32} {x : Addr} (ht : t.eval args s none [] s = some (.ref x)) (h : (Jvm.Cond.eq (.field t C n d) (.int k)).value args s none s [] = some true) : s.fieldOf? x C n d = some (.int k) := by
  obtain ⟨u, w, e1, e2, K1, K2⟩ := cmp_v (Or.inl h)
  have e3 : some w = some (.int k) := e2.symm.trans (Term.int_eval k)
  obtain rfl := Option.some.inj e3
  obtain ⟨z, rfl⟩ := K2
  have e4 := gotT (Cond.eq_ints e1 e2) h
  rw [fld_at ht] at e1
  rw [e1, e4]
theorem own_ord_ne {s : State} {C n d : String} {x y : Addr} {k k' : Int32} (h : s.fieldOf? x C n d = some (.int k)) (h' : s.fieldOf? y C n d = some (.int k')) (hk : k ≠ k') : ¬ (x = y) := fun q => by
  subst q
  rw [h] at h'
  exact hk (Value.int.inj (Option.some.inj h'))
theorem own_pn0 : plainName "com/example/ansehen/ansehen/service/Scale" = true := by first | (simp [plainName, overriddenIn]; done) | decide +kernel
theorem own_pn1 : plainName "com/example/ansehen/ansehen/service/ScaleFactorPinLaw" = true := by first | (simp [plainName, overriddenIn]; done) | decide +kernel
theorem own_pd0 : parseMethodDescriptor "(I)D" = some ⟨[.int], some .double⟩ := by decide +kernel
theorem d_prog_33_method_4_0 : decode prog_33_method_4_code 0 = .ok (.aload_n 0, 1) := by decide +kernel
theorem d_prog_33_method_4_1 : decode prog_33_method_4_code 1 = .ok (.getstatic 7, 3) := by decide +kernel
theorem d_prog_33_method_4_4 : decode prog_33_method_4_code 4 = .ok (.if_acmp .ne 8, 3) := by decide +kernel
theorem d_prog_33_method_4_7 : decode prog_33_method_4_code 7 = .ok (.iload_n 1, 1) := by decide +kernel
theorem d_prog_33_method_4_8 : decode prog_33_method_4_code 8 = .ok (.i2d, 1) := by decide +kernel
theorem d_prog_33_method_4_9 : decode prog_33_method_4_code 9 = .ok (.goto 4, 3) := by decide +kernel
theorem d_prog_33_method_4_12 : decode prog_33_method_4_code 12 = .ok (.dconst 1, 1) := by decide +kernel
theorem d_prog_33_method_4_13 : decode prog_33_method_4_code 13 = .ok (.dreturn, 1) := by decide +kernel
section OwnDbl
variable {p : Program} {l : Launch} {e : Env} {R : Room} {s : State} {m : MethodId} {args : Array Value} {below : List Frame} {meth : Method} {c : Code} {T : State} {locs : List Loc} {cells slots : Nat}
theorem own_retD {k n : Nat} {Q : Option Value → Heap → List Loc → Prop} (X : Stand p l e R s m args below meth c T locs cells slots) (hx : p.tables.exec = Jvm.exec) {pc : Nat} {Ls : Array Slot} {z : UInt64} (hret : meth.sig.returnType = some .double) (hd : decode c.code pc = .ok (.dreturn, 1)) (hlk : meth.locks = false) (hk : cells ≤ k) (hn : slots ≤ n) (hq : Q (some (.double z)) T.heap locs) :
    own_G p e below s k n Q (T.setTop (mkF m pc Ls [.double z])) := by
  obtain ⟨fs, hr, hrun, hended, hW, hsame⟩ := X.leave (v := some (.double z)) (fun h => by rw [hret] at h; cases h) hlk
  refine ⟨T.setFrames fs, _, ?_, hrun, hended, _, _, rfl, hq, ⟨_, rfl⟩, hW, hsame.mono hk hn⟩
  have hm' : T.vm.method? m = some meth := X.method'
  show Steps p.tables e below (T.setTop { method := m, pc := pc, locals := Ls, stack := [.double z], locked := none }) _
  jvm_step X.here [X.here.top, hx, hd, hm', hret, narrow]
  first | (intro acts; rw [hr _ acts rfl rfl rfl]) | rw [hr _ _ rfl rfl rfl] | (refine ⟨meth, hm', ⟨_, hret, rfl⟩, fun acts => ?_⟩; rw [hr _ acts rfl rfl rfl])
  exact Steps.refl _
end OwnDbl

theorem own_one : FP.dconst1 = FP.l2d 1 := by decide +kernel
theorem own_mul1 (x : Int32) : FP.dmul (FP.i2d x) FP.dconst1 = FP.i2d x := by
  have hr := rng32 x
  have hi := c_i2l x
  have k1 : (1 : Int64).toInt = 1 := by decide
  have hb : B53 x.toInt64 := ⟨by omega, by omega⟩
  have h1 : B53 (1 : Int64) := ⟨by omega, by omega⟩
  rw [i2d_w, own_one]
  by_cases h0 : x.toInt64 = 0
  · rw [dmul_z hb h1 (Or.inl h0), h0]
    decide +kernel
  · rw [dmul_w hb h1 h0 (by decide) (by rw [k1]; omega) (by rw [k1]; omega), Int64.mul_one]
theorem own_nn (x : Int32) : Jvm.Free.Fl.NoNaN64 (FP.i2d x) := nn_w (i2d_w x)
theorem own_nn1 : Jvm.Free.Fl.NoNaN64 FP.dconst1 := nn_w own_one

theorem own_ef_own_rm_factor (m : MethodId) (x0 : Addr) (x1 : Int32) : entryFrame m #[(.ref x0), (.int x1)] 2 = mkF m 0 #[.val (.ref x0), .val (.int x1)] [] := by first | (simp [entryFrame, mkF, argsToLocals, Value.category]; done) | rfl
set_option maxRecDepth 65536 in
set_option maxHeartbeats 40000000 in
theorem own_rm_factor (l : Launch) (Z : State) (a0 : Array Value) (hw : ∀ d ∈ tables_1, d.before a0 Z = true) (ws : List Jvm.Cond) (z : Addr) (n : Int32) (h0 : Heap) (n0 : Nat) (Z0 : n0 ≤ h0.size) (y1 : Addr) (S1 : Sta Z h0 "com/example/ansehen/ansehen/service/Scale" "NODES" "Lcom/example/ansehen/ansehen/service/Scale;" (.ref y1)) :
    MetFree l (⟨"com/example/ansehen/ansehen/service/Scale", "factor", "(I)D"⟩ : MethodName) (head1 (Jvm.Cond.code (⟨"com/example/ansehen/ansehen/service/Scale", "factor", "(I)D"⟩ : MethodName) prog_33_method_4_code 2 (some .double) :: ws) ({ frames := 0, cells := 0, slots := 0, locals := 0 } : Room)) (fun a U => a = #[(.ref z), (.int n)] ∧ Z.Warmed39 U.vm ∧ U.heap = h0) (fun _ _ _ _ _ => True) (fun _ U o U' => ∃ v L, o = .returned v ∧ (own_Qp (some (.double (if z = y1 then FP.i2d n else FP.dconst1))) h0 n0) v U'.heap L ∧ FrameEnd U o U' L ({ frames := 0, cells := 0, slots := 0, locals := 0 } : Room).cells ({ frames := 0, cells := 0, slots := 0, locals := 0 } : Room).slots) := by
  refine MetFree.of_bodySF (plainFor_of_name own_pn0) hisR ?_
  intro p e s m args below meth c s₁ Bd hml0 hP hK
  obtain ⟨rfl, hZ, hh⟩ := hP
  have hx := Bd.exec
  have hby := Bd.bytes
  have hml : c.maxLocals = 2 := hml0
  have hown : s.vm.findClass "com/example/ansehen/ansehen/service/Scale" = some m.cls := findClass_of_methodNamed Bd.named
  have hnm := (name_of_methodNamed Bd.named Bd.method).1
  have X0 : Stand p l e ({ frames := 0, cells := 0, slots := 0, locals := 0 } : Room) s m #[(.ref z), (.int n)] below meth c s₁ [] 0 0 := Stand.of_body Bd
  have e0 : s₁.heap = h0 := by rw [← hh, Bd.state]; rfl
  have N0 := Fr.nil n0
  have hlk : meth.locks = false := by first | exact BodyLoose.notSynchronized Bd | exact Body.notSynchronized Bd
  obtain ⟨G, hG⟩ : ∃ G : State → Prop, G = own_G p e below s ({ frames := 0, cells := 0, slots := 0, locals := 0 } : Room).cells ({ frames := 0, cells := 0, slots := 0, locals := 0 } : Room).slots ((own_Qp (some (.double (if z = y1 then FP.i2d n else FP.dconst1))) h0 n0)) := ⟨_, rfl⟩
  have go : ∀ {S S' : State}, (∀ t, Steps p.tables e below S' t → Steps p.tables e below S t) → G S' → G S := by rw [hG]; exact own_to
  suffices hs : G (s₁.setTop (mkF m 0 #[.val (.ref z), .val (.int n)] [])) by
    rw [hG] at hs
    exact own_to (fun _ kont => castTop (own_ef_own_rm_factor m z n) kont) hs
  refine go (fun _ kont => XS.aloadN X0.here hx rfl (hb hby d_prog_33_method_4_0) rfl rfl kont) ?_
  show G (s₁.setTop (mkF m 1 #[.val (.ref z), .val (.int n)] [(.ref z)]))
  obtain ⟨T1, X1, e1, st1⟩ := getS X0 hx hZ hown (host := "") (hw _ (List.mem_of_getElem? (i := 8) rfl)) Via.refl e0 S1 (g := (mkF m 1 #[.val (.ref z), .val (.int n)] [(.ref z)])) rfl (hb hby d_prog_33_method_4_1)
  refine go st1 ?_
  show G (T1.setTop (mkF m 4 #[.val (.ref z), .val (.int n)] [(.ref y1), (.ref z)]))
  by_cases hc4 : z = y1
  · refine go (fun _ kont => Jvm.RoadKit.acmp (g := (mkF m 4 #[.val (.ref z), .val (.int n)] [(.ref y1), (.ref z)])) X1 hx rfl rfl rfl (pc0 := 4) (pc' := 7) (same := true) rfl (hb hby d_prog_33_method_4_4) rfl (decide_eq_true (congrArg Value.ref hc4)) (by decide) (by decide) kont) ?_
    show G (T1.setTop (mkF m 7 #[.val (.ref z), .val (.int n)] []))
    refine go (fun _ kont => XS.iloadN X1.here hx rfl (hb hby d_prog_33_method_4_7) rfl  kont) ?_
    show G (T1.setTop (mkF m 8 #[.val (.ref z), .val (.int n)] [(.int n)]))
    refine go (fun _ kont => XS.i2dS X1.here hx rfl (hb hby d_prog_33_method_4_8) rfl rfl kont) ?_
    show G (T1.setTop (mkF m 9 #[.val (.ref z), .val (.int n)] [(.double (FP.i2d n))]))
    refine go (fun _ kont => XS.goto X1.here hx rfl (pc0 := 9) (pc' := 13) rfl (hb hby d_prog_33_method_4_9) (by decide) (by decide) kont) ?_
    show G (T1.setTop (mkF m 13 #[.val (.ref z), .val (.int n)] [(.double (FP.i2d n))]))
    rw [hG]
    exact own_retD X1 hx Bd.returns (hb hby d_prog_33_method_4_13) hlk (by decide) (by decide) ⟨by simp [*], N0, e1⟩
  · refine go (fun _ kont => Jvm.RoadKit.acmp (g := (mkF m 4 #[.val (.ref z), .val (.int n)] [(.ref y1), (.ref z)])) X1 hx rfl rfl rfl (pc0 := 4) (pc' := 12) (same := false) rfl (hb hby d_prog_33_method_4_4) rfl (decide_eq_false fun q => hc4 (Value.ref.inj q)) (by decide) (by decide) kont) ?_
    show G (T1.setTop (mkF m 12 #[.val (.ref z), .val (.int n)] []))
    refine go (fun _ kont => XS.dconst1 X1.here hx rfl (hb hby d_prog_33_method_4_12) rfl kont) ?_
    show G (T1.setTop (mkF m 13 #[.val (.ref z), .val (.int n)] [(.double FP.dconst1)]))
    rw [hG]
    exact own_retD X1 hx Bd.returns (hb hby d_prog_33_method_4_13) hlk (by decide) (by decide) ⟨by simp [*], N0, e1⟩
theorem own_ef_own_rm_law (m : MethodId) (x0 : Int32) : entryFrame m #[(.int x0)] maxLocals = mkF m 0 #[.val (.int x0), .unset, .unset, .unset, .unset, .unset, .unset, .unset, .unset, .unset] [] := by first | (simp [entryFrame, mkF, argsToLocals, Value.category, maxLocals]; done) | rfl
set_option maxRecDepth 65536 in
set_option maxHeartbeats 40000000 in
theorem own_rm_law (l : Launch) (Z : State) (a0 : Array Value) (hw : ∀ d ∈ tables_1, d.before a0 Z = true) (ws : List Jvm.Cond) (p1 : Int32) (h0 : Heap) (n0 : Nat) (Z0 : n0 ≤ h0.size) (y0 y1 : Addr) (S0 : Sta Z h0 "com/example/ansehen/ansehen/service/Scale" "UNIT" "Lcom/example/ansehen/ansehen/service/Scale;" (.ref y0)) (S1 : Sta Z h0 "com/example/ansehen/ansehen/service/Scale" "NODES" "Lcom/example/ansehen/ansehen/service/Scale;" (.ref y1)) (E0 : Exa Z h0 y0 "com/example/ansehen/ansehen/service/Scale") (E1 : Exa Z h0 y1 "com/example/ansehen/ansehen/service/Scale") (hne : ¬ (y0 = y1)) :
    MetFree l x (head1 (Jvm.Cond.code x code maxLocals ret :: ws) room_1) (fun a U => a = #[(.int p1)] ∧ Z.Warmed39 U.vm ∧ U.heap = h0) (fun _ _ _ _ _ => True) (fun _ U o U' => ∃ v L, o = .returned v ∧ (own_Ql n0) v U'.heap L ∧ FrameEnd U o U' L room_1.cells room_1.slots) := by
  refine MetFree.of_bodySF (plainFor_of_name own_pn1) hisR ?_
  intro p e s m args below meth c s₁ Bd hml0 hP hK
  obtain ⟨rfl, hZ, hh⟩ := hP
  have hx := Bd.exec
  have hby := Bd.bytes
  have hml : c.maxLocals = 10 := hml0
  have hown : s.vm.findClass "com/example/ansehen/ansehen/service/ScaleFactorPinLaw" = some m.cls := findClass_of_methodNamed Bd.named
  have hnm := (name_of_methodNamed Bd.named Bd.method).1
  have X0 : Stand p l e room_1 s m #[(.int p1)] below meth c s₁ [] 0 0 := Stand.of_body Bd
  have e0 : s₁.heap = h0 := by rw [← hh, Bd.state]; rfl
  have N0 := Fr.nil n0
  have hlk : meth.locks = false := by first | exact BodyLoose.notSynchronized Bd | exact Body.notSynchronized Bd
  obtain ⟨G, hG⟩ : ∃ G : State → Prop, G = own_G p e below s room_1.cells room_1.slots ((own_Ql n0)) := ⟨_, rfl⟩
  have go : ∀ {S S' : State}, (∀ t, Steps p.tables e below S' t → Steps p.tables e below S t) → G S' → G S := by rw [hG]; exact own_to
  suffices hs : G (s₁.setTop (mkF m 0 #[.val (.int p1), .unset, .unset, .unset, .unset, .unset, .unset, .unset, .unset, .unset] [])) by
    rw [hG] at hs
    exact own_to (fun _ kont => castTop (own_ef_own_rm_law m p1) kont) hs
  obtain ⟨T1, X1, e1, st1⟩ := getS X0 hx hZ hown (host := "") (hw _ (List.mem_of_getElem? (i := 0) rfl)) Via.refl e0 S0 (g := (mkF m 0 #[.val (.int p1), .unset, .unset, .unset, .unset, .unset, .unset, .unset, .unset, .unset] [])) rfl (hb hby at_0)
  refine go st1 ?_
  show G (T1.setTop (mkF m 3 #[.val (.int p1), .unset, .unset, .unset, .unset, .unset, .unset, .unset, .unset, .unset] [(.ref y0)]))
  refine go (fun _ kont => XS.iloadN X1.here hx rfl (hb hby at_3) rfl  kont) ?_
  show G (T1.setTop (mkF m 4 #[.val (.int p1), .unset, .unset, .unset, .unset, .unset, .unset, .unset, .unset, .unset] [(.int p1), (.ref y0)]))
  obtain ⟨cq2, kq2, qa2, qb2, qc2⟩ := isOf hZ e1 E0
  obtain ⟨_, _, ⟨T2, L2, k2, n2⟩, -, X2, ⟨Lc2, hQ2, l2, y2, z2⟩, st2⟩ := X1.virtualBack hx (y := (⟨"com/example/ansehen/ansehen/service/Scale", "factor", "(I)D"⟩ : MethodName)) (z := (⟨"com/example/ansehen/ansehen/service/Scale", "factor", "(I)D"⟩ : MethodName)) hown (mvT hZ (hw _ (List.mem_of_getElem? (i := 3) rfl))) (mvT hZ (hw _ (List.mem_of_getElem? (i := 4) rfl))) (notFace_of_selects (args := #[]) (mvT hZ (hw _ (List.mem_of_getElem? (i := 6) rfl)))) (mvT hZ (hw _ (List.mem_of_getElem? (i := 6) rfl))) (mvT hZ (hw _ (List.mem_of_getElem? (i := 5) rfl))) (by decide) (backOf (W := 0) (own_rm_factor l Z a0 hw [] y0 p1 h0 n0 Z0 y1 S1) hZ (hw _ (List.mem_of_getElem? (i := 7) rfl)) (hw _ (List.mem_of_getElem? (i := 1) rfl)) (by decide) (by decide)) qa2 qc2 (g := (mkF m 4 #[.val (.int p1), .unset, .unset, .unset, .unset, .unset, .unset, .unset, .unset, .unset] [(.int p1), (.ref y0)])) rfl (by rw [hml]; rfl) (Steps.refl _) (argsL := [(.int p1)]) (rest := []) (lenOf own_pd0 rfl) rfl (by show 2 * 0 + _ ≤ _; exact Nat.le_of_eq rfl) (hb hby at_4) (fun _ _ => ⟨rfl, e1, (by decide : 0 + 0 ≤ _), (by decide : 0 + 0 ≤ _)⟩)
  dsimp only [Pt.U, Pt.locs, Pt.cells, Pt.slots] at X2 l2 y2 z2 st2 hQ2
  subst l2 y2 z2
  obtain ⟨rfl, N2q, e2⟩ := hQ2
  have N2 := Fr.app N0 N2q
  refine go (fun _ kont => st2.trans kont) ?_
  show G (T2.setTop (mkF m 7 #[.val (.int p1), .unset, .unset, .unset, .unset, .unset, .unset, .unset, .unset, .unset] [(.double (if y0 = y1 then FP.i2d p1 else FP.dconst1))]))
  rw [if_neg hne]
  show G (T2.setTop (mkF m 7 #[.val (.int p1), .unset, .unset, .unset, .unset, .unset, .unset, .unset, .unset, .unset] [(.double FP.dconst1)]))
  refine go (fun _ kont => XS.dstoreN X2.here hx rfl (hb hby at_7) rfl (l' := #[.val (.int p1), .val (.double FP.dconst1), .second, .unset, .unset, .unset, .unset, .unset, .unset, .unset]) rfl kont) ?_
  show G (T2.setTop (mkF m 8 #[.val (.int p1), .val (.double FP.dconst1), .second, .unset, .unset, .unset, .unset, .unset, .unset, .unset] []))
  obtain ⟨T3, X3, e3, st3⟩ := getS X2 hx hZ hown (host := "") (hw _ (List.mem_of_getElem? (i := 10) rfl)) Via.refl e2 S1 (g := (mkF m 8 #[.val (.int p1), .val (.double FP.dconst1), .second, .unset, .unset, .unset, .unset, .unset, .unset, .unset] [])) rfl (hb hby at_8)
  refine go st3 ?_
  show G (T3.setTop (mkF m 11 #[.val (.int p1), .val (.double FP.dconst1), .second, .unset, .unset, .unset, .unset, .unset, .unset, .unset] [(.ref y1)]))
  refine go (fun _ kont => XS.iloadN X3.here hx rfl (hb hby at_11) rfl  kont) ?_
  show G (T3.setTop (mkF m 12 #[.val (.int p1), .val (.double FP.dconst1), .second, .unset, .unset, .unset, .unset, .unset, .unset, .unset] [(.int p1), (.ref y1)]))
  obtain ⟨cq4, kq4, qa4, qb4, qc4⟩ := isOf hZ e3 E1
  obtain ⟨_, _, ⟨T4, L4, k4, n4⟩, -, X4, ⟨Lc4, hQ4, l4, y4, z4⟩, st4⟩ := X3.virtualBack hx (y := (⟨"com/example/ansehen/ansehen/service/Scale", "factor", "(I)D"⟩ : MethodName)) (z := (⟨"com/example/ansehen/ansehen/service/Scale", "factor", "(I)D"⟩ : MethodName)) hown (mvT hZ (hw _ (List.mem_of_getElem? (i := 3) rfl))) (mvT hZ (hw _ (List.mem_of_getElem? (i := 4) rfl))) (notFace_of_selects (args := #[]) (mvT hZ (hw _ (List.mem_of_getElem? (i := 6) rfl)))) (mvT hZ (hw _ (List.mem_of_getElem? (i := 6) rfl))) (mvT hZ (hw _ (List.mem_of_getElem? (i := 5) rfl))) (by decide) (backOf (W := 0) (own_rm_factor l Z a0 hw [] y1 p1 h0 n0 Z0 y1 S1) hZ (hw _ (List.mem_of_getElem? (i := 7) rfl)) (hw _ (List.mem_of_getElem? (i := 1) rfl)) (by decide) (by decide)) qa4 qc4 (g := (mkF m 12 #[.val (.int p1), .val (.double FP.dconst1), .second, .unset, .unset, .unset, .unset, .unset, .unset, .unset] [(.int p1), (.ref y1)])) rfl (by rw [hml]; rfl) (Steps.refl _) (argsL := [(.int p1)]) (rest := []) (lenOf own_pd0 rfl) rfl (by show 2 * 0 + _ ≤ _; exact Nat.le_of_eq rfl) (hb hby at_12) (fun _ _ => ⟨rfl, e3, (by decide : 0 + 0 ≤ _), (by decide : 0 + 0 ≤ _)⟩)
  dsimp only [Pt.U, Pt.locs, Pt.cells, Pt.slots] at X4 l4 y4 z4 st4 hQ4
  subst l4 y4 z4
  obtain ⟨rfl, N4q, e4⟩ := hQ4
  have N4 := Fr.app N2 N4q
  refine go (fun _ kont => st4.trans kont) ?_
  show G (T4.setTop (mkF m 15 #[.val (.int p1), .val (.double FP.dconst1), .second, .unset, .unset, .unset, .unset, .unset, .unset, .unset] [(.double (if y1 = y1 then FP.i2d p1 else FP.dconst1))]))
  rw [if_pos rfl]
  show G (T4.setTop (mkF m 15 #[.val (.int p1), .val (.double FP.dconst1), .second, .unset, .unset, .unset, .unset, .unset, .unset, .unset] [(.double (FP.i2d p1))]))
  refine go (fun _ kont => XS.dstoreN X4.here hx rfl (hb hby at_15) rfl (l' := #[.val (.int p1), .val (.double FP.dconst1), .second, .val (.double (FP.i2d p1)), .second, .unset, .unset, .unset, .unset, .unset]) rfl kont) ?_
  show G (T4.setTop (mkF m 16 #[.val (.int p1), .val (.double FP.dconst1), .second, .val (.double (FP.i2d p1)), .second, .unset, .unset, .unset, .unset, .unset] []))
  refine go (fun _ kont => XS.iloadN X4.here hx rfl (hb hby at_16) rfl  kont) ?_
  show G (T4.setTop (mkF m 17 #[.val (.int p1), .val (.double FP.dconst1), .second, .val (.double (FP.i2d p1)), .second, .unset, .unset, .unset, .unset, .unset] [(.int p1)]))
  refine go (fun _ kont => XS.i2dS X4.here hx rfl (hb hby at_17) rfl rfl kont) ?_
  show G (T4.setTop (mkF m 18 #[.val (.int p1), .val (.double FP.dconst1), .second, .val (.double (FP.i2d p1)), .second, .unset, .unset, .unset, .unset, .unset] [(.double (FP.i2d p1))]))
  refine go (fun _ kont => XS.dstore X4.here hx rfl (hb hby at_18) rfl (l' := #[.val (.int p1), .val (.double FP.dconst1), .second, .val (.double (FP.i2d p1)), .second, .val (.double (FP.i2d p1)), .second, .unset, .unset, .unset]) rfl kont) ?_
  show G (T4.setTop (mkF m 20 #[.val (.int p1), .val (.double FP.dconst1), .second, .val (.double (FP.i2d p1)), .second, .val (.double (FP.i2d p1)), .second, .unset, .unset, .unset] []))
  refine go (fun _ kont => XS.dloadN X4.here hx rfl (hb hby at_20) rfl  kont) ?_
  show G (T4.setTop (mkF m 21 #[.val (.int p1), .val (.double FP.dconst1), .second, .val (.double (FP.i2d p1)), .second, .val (.double (FP.i2d p1)), .second, .unset, .unset, .unset] [(.double FP.dconst1)]))
  refine go (fun _ kont => XS.dconst1 X4.here hx rfl (hb hby at_21) rfl kont) ?_
  show G (T4.setTop (mkF m 22 #[.val (.int p1), .val (.double FP.dconst1), .second, .val (.double (FP.i2d p1)), .second, .val (.double (FP.i2d p1)), .second, .unset, .unset, .unset] [(.double FP.dconst1), (.double FP.dconst1)]))
  refine go (fun _ kont => XS.dcmpS X4.here hx rfl (hb hby at_22) rfl (v := (0 : Int32)) (dcmpV_self own_nn1 _) kont) ?_
  show G (T4.setTop (mkF m 23 #[.val (.int p1), .val (.double FP.dconst1), .second, .val (.double (FP.i2d p1)), .second, .val (.double (FP.i2d p1)), .second, .unset, .unset, .unset] [(.int (0 : Int32))]))
  refine go (fun _ kont => XS.ifNo X4.here hx rfl (hb hby at_23) rfl ((if0 _ _).trans (teq rfl).2) kont) ?_
  show G (T4.setTop (mkF m 26 #[.val (.int p1), .val (.double FP.dconst1), .second, .val (.double (FP.i2d p1)), .second, .val (.double (FP.i2d p1)), .second, .unset, .unset, .unset] []))
  refine go (fun _ kont => XS.iconst X4.here hx rfl (hb hby at_26) kont) ?_
  show G (T4.setTop (mkF m 27 #[.val (.int p1), .val (.double FP.dconst1), .second, .val (.double (FP.i2d p1)), .second, .val (.double (FP.i2d p1)), .second, .unset, .unset, .unset] [(.int (1 : Int32))]))
  refine go (fun _ kont => XS.goto X4.here hx rfl (pc0 := 27) (pc' := 31) rfl (hb hby at_27) (by decide) (by decide) kont) ?_
  show G (T4.setTop (mkF m 31 #[.val (.int p1), .val (.double FP.dconst1), .second, .val (.double (FP.i2d p1)), .second, .val (.double (FP.i2d p1)), .second, .unset, .unset, .unset] [(.int (1 : Int32))]))
  refine go (fun _ kont => XS.istore X4.here hx rfl (hb hby at_31) rfl (l' := #[.val (.int p1), .val (.double FP.dconst1), .second, .val (.double (FP.i2d p1)), .second, .val (.double (FP.i2d p1)), .second, .val (.int (1 : Int32)), .unset, .unset]) rfl kont) ?_
  show G (T4.setTop (mkF m 33 #[.val (.int p1), .val (.double FP.dconst1), .second, .val (.double (FP.i2d p1)), .second, .val (.double (FP.i2d p1)), .second, .val (.int (1 : Int32)), .unset, .unset] []))
  refine go (fun _ kont => XS.dloadN X4.here hx rfl (hb hby at_33) rfl  kont) ?_
  show G (T4.setTop (mkF m 34 #[.val (.int p1), .val (.double FP.dconst1), .second, .val (.double (FP.i2d p1)), .second, .val (.double (FP.i2d p1)), .second, .val (.int (1 : Int32)), .unset, .unset] [(.double (FP.i2d p1))]))
  refine go (fun _ kont => XS.dload X4.here hx rfl (hb hby at_34) rfl  kont) ?_
  show G (T4.setTop (mkF m 36 #[.val (.int p1), .val (.double FP.dconst1), .second, .val (.double (FP.i2d p1)), .second, .val (.double (FP.i2d p1)), .second, .val (.int (1 : Int32)), .unset, .unset] [(.double (FP.i2d p1)), (.double (FP.i2d p1))]))
  refine go (fun _ kont => XS.dcmpS X4.here hx rfl (hb hby at_36) rfl (v := (0 : Int32)) (dcmpV_self (own_nn p1) _) kont) ?_
  show G (T4.setTop (mkF m 37 #[.val (.int p1), .val (.double FP.dconst1), .second, .val (.double (FP.i2d p1)), .second, .val (.double (FP.i2d p1)), .second, .val (.int (1 : Int32)), .unset, .unset] [(.int (0 : Int32))]))
  refine go (fun _ kont => XS.ifNo X4.here hx rfl (hb hby at_37) rfl ((if0 _ _).trans (teq rfl).2) kont) ?_
  show G (T4.setTop (mkF m 40 #[.val (.int p1), .val (.double FP.dconst1), .second, .val (.double (FP.i2d p1)), .second, .val (.double (FP.i2d p1)), .second, .val (.int (1 : Int32)), .unset, .unset] []))
  refine go (fun _ kont => XS.iconst X4.here hx rfl (hb hby at_40) kont) ?_
  show G (T4.setTop (mkF m 41 #[.val (.int p1), .val (.double FP.dconst1), .second, .val (.double (FP.i2d p1)), .second, .val (.double (FP.i2d p1)), .second, .val (.int (1 : Int32)), .unset, .unset] [(.int (1 : Int32))]))
  refine go (fun _ kont => XS.goto X4.here hx rfl (pc0 := 41) (pc' := 45) rfl (hb hby at_41) (by decide) (by decide) kont) ?_
  show G (T4.setTop (mkF m 45 #[.val (.int p1), .val (.double FP.dconst1), .second, .val (.double (FP.i2d p1)), .second, .val (.double (FP.i2d p1)), .second, .val (.int (1 : Int32)), .unset, .unset] [(.int (1 : Int32))]))
  refine go (fun _ kont => XS.istore X4.here hx rfl (hb hby at_45) rfl (l' := #[.val (.int p1), .val (.double FP.dconst1), .second, .val (.double (FP.i2d p1)), .second, .val (.double (FP.i2d p1)), .second, .val (.int (1 : Int32)), .val (.int (1 : Int32)), .unset]) rfl kont) ?_
  show G (T4.setTop (mkF m 47 #[.val (.int p1), .val (.double FP.dconst1), .second, .val (.double (FP.i2d p1)), .second, .val (.double (FP.i2d p1)), .second, .val (.int (1 : Int32)), .val (.int (1 : Int32)), .unset] []))
  refine go (fun _ kont => XS.dloadN X4.here hx rfl (hb hby at_47) rfl  kont) ?_
  show G (T4.setTop (mkF m 48 #[.val (.int p1), .val (.double FP.dconst1), .second, .val (.double (FP.i2d p1)), .second, .val (.double (FP.i2d p1)), .second, .val (.int (1 : Int32)), .val (.int (1 : Int32)), .unset] [(.double (FP.i2d p1))]))
  refine go (fun _ kont => XS.dload X4.here hx rfl (hb hby at_48) rfl  kont) ?_
  show G (T4.setTop (mkF m 50 #[.val (.int p1), .val (.double FP.dconst1), .second, .val (.double (FP.i2d p1)), .second, .val (.double (FP.i2d p1)), .second, .val (.int (1 : Int32)), .val (.int (1 : Int32)), .unset] [(.double (FP.i2d p1)), (.double (FP.i2d p1))]))
  refine go (fun _ kont => XS.dloadN X4.here hx rfl (hb hby at_50) rfl  kont) ?_
  show G (T4.setTop (mkF m 51 #[.val (.int p1), .val (.double FP.dconst1), .second, .val (.double (FP.i2d p1)), .second, .val (.double (FP.i2d p1)), .second, .val (.int (1 : Int32)), .val (.int (1 : Int32)), .unset] [(.double FP.dconst1), (.double (FP.i2d p1)), (.double (FP.i2d p1))]))
  refine go (fun _ kont => XS.dmulS X4.here hx rfl (hb hby at_51) rfl (v := FP.i2d p1) (by rw [own_mul1]; exact own_nn p1) (own_mul1 p1) kont) ?_
  show G (T4.setTop (mkF m 52 #[.val (.int p1), .val (.double FP.dconst1), .second, .val (.double (FP.i2d p1)), .second, .val (.double (FP.i2d p1)), .second, .val (.int (1 : Int32)), .val (.int (1 : Int32)), .unset] [(.double (FP.i2d p1)), (.double (FP.i2d p1))]))
  refine go (fun _ kont => XS.dcmpS X4.here hx rfl (hb hby at_52) rfl (v := (0 : Int32)) (dcmpV_self (own_nn p1) _) kont) ?_
  show G (T4.setTop (mkF m 53 #[.val (.int p1), .val (.double FP.dconst1), .second, .val (.double (FP.i2d p1)), .second, .val (.double (FP.i2d p1)), .second, .val (.int (1 : Int32)), .val (.int (1 : Int32)), .unset] [(.int (0 : Int32))]))
  refine go (fun _ kont => XS.ifNo X4.here hx rfl (hb hby at_53) rfl ((if0 _ _).trans (teq rfl).2) kont) ?_
  show G (T4.setTop (mkF m 56 #[.val (.int p1), .val (.double FP.dconst1), .second, .val (.double (FP.i2d p1)), .second, .val (.double (FP.i2d p1)), .second, .val (.int (1 : Int32)), .val (.int (1 : Int32)), .unset] []))
  refine go (fun _ kont => XS.iconst X4.here hx rfl (hb hby at_56) kont) ?_
  show G (T4.setTop (mkF m 57 #[.val (.int p1), .val (.double FP.dconst1), .second, .val (.double (FP.i2d p1)), .second, .val (.double (FP.i2d p1)), .second, .val (.int (1 : Int32)), .val (.int (1 : Int32)), .unset] [(.int (1 : Int32))]))
  refine go (fun _ kont => XS.goto X4.here hx rfl (pc0 := 57) (pc' := 61) rfl (hb hby at_57) (by decide) (by decide) kont) ?_
  show G (T4.setTop (mkF m 61 #[.val (.int p1), .val (.double FP.dconst1), .second, .val (.double (FP.i2d p1)), .second, .val (.double (FP.i2d p1)), .second, .val (.int (1 : Int32)), .val (.int (1 : Int32)), .unset] [(.int (1 : Int32))]))
  refine go (fun _ kont => XS.istore X4.here hx rfl (hb hby at_61) rfl (l' := #[.val (.int p1), .val (.double FP.dconst1), .second, .val (.double (FP.i2d p1)), .second, .val (.double (FP.i2d p1)), .second, .val (.int (1 : Int32)), .val (.int (1 : Int32)), .val (.int (1 : Int32))]) rfl kont) ?_
  show G (T4.setTop (mkF m 63 #[.val (.int p1), .val (.double FP.dconst1), .second, .val (.double (FP.i2d p1)), .second, .val (.double (FP.i2d p1)), .second, .val (.int (1 : Int32)), .val (.int (1 : Int32)), .val (.int (1 : Int32))] []))
  refine go (fun _ kont => XS.iload X4.here hx rfl (hb hby at_63) rfl  kont) ?_
  show G (T4.setTop (mkF m 65 #[.val (.int p1), .val (.double FP.dconst1), .second, .val (.double (FP.i2d p1)), .second, .val (.double (FP.i2d p1)), .second, .val (.int (1 : Int32)), .val (.int (1 : Int32)), .val (.int (1 : Int32))] [(.int (1 : Int32))]))
  refine go (fun _ kont => XS.ifNo X4.here hx rfl (hb hby at_65) rfl ((if0 _ _).trans (feq (by decide)).1) kont) ?_
  show G (T4.setTop (mkF m 68 #[.val (.int p1), .val (.double FP.dconst1), .second, .val (.double (FP.i2d p1)), .second, .val (.double (FP.i2d p1)), .second, .val (.int (1 : Int32)), .val (.int (1 : Int32)), .val (.int (1 : Int32))] []))
  refine go (fun _ kont => XS.iload X4.here hx rfl (hb hby at_68) rfl  kont) ?_
  show G (T4.setTop (mkF m 70 #[.val (.int p1), .val (.double FP.dconst1), .second, .val (.double (FP.i2d p1)), .second, .val (.double (FP.i2d p1)), .second, .val (.int (1 : Int32)), .val (.int (1 : Int32)), .val (.int (1 : Int32))] [(.int (1 : Int32))]))
  refine go (fun _ kont => XS.ifNo X4.here hx rfl (hb hby at_70) rfl ((if0 _ _).trans (feq (by decide)).1) kont) ?_
  show G (T4.setTop (mkF m 73 #[.val (.int p1), .val (.double FP.dconst1), .second, .val (.double (FP.i2d p1)), .second, .val (.double (FP.i2d p1)), .second, .val (.int (1 : Int32)), .val (.int (1 : Int32)), .val (.int (1 : Int32))] []))
  refine go (fun _ kont => XS.iload X4.here hx rfl (hb hby at_73) rfl  kont) ?_
  show G (T4.setTop (mkF m 75 #[.val (.int p1), .val (.double FP.dconst1), .second, .val (.double (FP.i2d p1)), .second, .val (.double (FP.i2d p1)), .second, .val (.int (1 : Int32)), .val (.int (1 : Int32)), .val (.int (1 : Int32))] [(.int (1 : Int32))]))
  refine go (fun _ kont => XS.ifNo X4.here hx rfl (hb hby at_75) rfl ((if0 _ _).trans (feq (by decide)).1) kont) ?_
  show G (T4.setTop (mkF m 78 #[.val (.int p1), .val (.double FP.dconst1), .second, .val (.double (FP.i2d p1)), .second, .val (.double (FP.i2d p1)), .second, .val (.int (1 : Int32)), .val (.int (1 : Int32)), .val (.int (1 : Int32))] []))
  refine go (fun _ kont => XS.iconst X4.here hx rfl (hb hby at_78) kont) ?_
  show G (T4.setTop (mkF m 79 #[.val (.int p1), .val (.double FP.dconst1), .second, .val (.double (FP.i2d p1)), .second, .val (.double (FP.i2d p1)), .second, .val (.int (1 : Int32)), .val (.int (1 : Int32)), .val (.int (1 : Int32))] [(.int (1 : Int32))]))
  refine go (fun _ kont => XS.goto X4.here hx rfl (pc0 := 79) (pc' := 83) rfl (hb hby at_79) (by decide) (by decide) kont) ?_
  show G (T4.setTop (mkF m 83 #[.val (.int p1), .val (.double FP.dconst1), .second, .val (.double (FP.i2d p1)), .second, .val (.double (FP.i2d p1)), .second, .val (.int (1 : Int32)), .val (.int (1 : Int32)), .val (.int (1 : Int32))] [(.int (1 : Int32))]))
  rw [hG]
  exact own_retN X4 hx (t := .boolean) Bd.returns (by simp) (hb hby at_83) hlk (by decide) (by decide) ⟨rfl, N4⟩
set_option maxRecDepth 65536 in
set_option maxHeartbeats 40000000 in
theorem comes_1 {Post : Tables → Env → Array Value → State → Outcome → State → Prop} (hpost : ∀ tb e args s v u, (limb_1_1.after args s (.returned v) u = true ∧ limb_1_2.after args s (.returned v) u = true ∧ True) → FrameEnd s (.returned v) u (Jvm.fieldLocs frame_1_writes args s ++ Jvm.arrayLocs frame_1_arrays args s ++ Jvm.staticLocs frame_1_statics s) 0 0 → Post tb e args s (.returned v) u) :
    ArmFor flags0 classFile x code maxLocals ret World_1 tables_1 room_1 Calls_1 rest_1 Pre_1 Post := by
  intro l hfl _ _ p e ha hc hk s m args below hf hA hF happ hP
  obtain ⟨hcalls, hrest, hpre⟩ := hP
  obtain ⟨-, -, -, hnamed, -, -, -, hat⟩ := (Spec.applies_iff hf).mp happ
  obtain ⟨hg, hn⟩ := and_e (Cond.before_iff.mp (show (Jvm.Cond.and given_1 narrow_1).before args s = true from hpre))
  obtain ⟨hcnt, ha0⟩ := and_e hg
  have hk0 := ha0
  obtain ⟨w0, rfl⟩ : ∃ w0 : Value, args = #[w0] := by
    have hs : args.size = 1 := by simpa [Cond.value, given_1] using hcnt
    obtain ⟨L⟩ := args
    match L, hs with
    | [w0], _ => exact ⟨w0, rfl⟩
  have hw := fun d (hd : d ∈ tables_1) => atoms_spec (ws := Jvm.Cond.code x code maxLocals ret :: tables_1) hat d (List.mem_cons_of_mem _ hd)
  have hfit : Fit s := fun {y c} hc i hi => by
    obtain ⟨ha, rfl⟩ := Array.getElem?_eq_some_iff.mp hc
    have q := List.all_eq_true.mp ((Array.all_eq_true_iff_forall_mem.mp hF) _ (Array.getElem_mem ha)) i (List.mem_range.mpr hi)
    simpa [Array.getElem?_eq_getElem hi] using q
  obtain ⟨i0, ei0⟩ := is_v hk0
  obtain rfl : w0 = (.int i0) := Option.some.inj ei0
  obtain ⟨q0, r0⟩ := and_e hn
  obtain ⟨q1, r1⟩ := and_e r0
  obtain ⟨q2, r2⟩ := and_e r1
  have q3 := r2
  obtain ⟨y0, ev0⟩ := exa_v q0
  have S0 : Sta s s.heap "com/example/ansehen/ansehen/service/Scale" "UNIT" "Lcom/example/ansehen/ansehen/service/Scale;" (.ref y0) := Sta.start ev0 (Or.inr ⟨(hw _ (List.mem_of_getElem? (i := 1) rfl)), (hw _ (List.mem_of_getElem? (i := 2) rfl))⟩)
  have O0 := own_ord ev0 q2
  obtain ⟨y1, ev1⟩ := exa_v q1
  have S1 : Sta s s.heap "com/example/ansehen/ansehen/service/Scale" "NODES" "Lcom/example/ansehen/ansehen/service/Scale;" (.ref y1) := Sta.start ev1 (Or.inr ⟨(hw _ (List.mem_of_getElem? (i := 1) rfl)), (hw _ (List.mem_of_getElem? (i := 9) rfl))⟩)
  have O1 := own_ord ev1 q3
  obtain ⟨n, o, h1, h2, h3, _, L, rfl, ⟨rfl, N⟩, hq⟩ := own_rm_law l s _ hw tables_1 i0 s.heap s.heap.size (Nat.le_refl _) y0 y1 S0 S1 (Exa.start ev0 q0) (Exa.start ev1 q1) (own_ord_ne O0 O1 (by decide)) p e ha hc hk s m _ below hf ((Spec.applies_iff_loose hf).mp happ).1 ⟨rfl, State.Warmed39.refl s, rfl⟩ trivial
  refine ⟨n, _, h1, h2, h3, hpost _ _ _ _ _ _ ⟨Cond.after_iff.mpr rfl, Cond.after_iff.mpr (eq_i res_at (Term.int_eval (1)) rfl), trivial⟩ ⟨hq.1, hq.2.1, (hq.2.2.sift fun y hy => Or.inr (N y hy)).mono (by decide) (by decide)⟩⟩
theorem main_1_1 : Claimed_1_1 := comes_1 fun _ _ _ _ _ _ h hF => ⟨h.1, hF⟩
theorem main_1_2 : Claimed_1_2 := comes_1 fun _ _ _ _ _ _ h hF => ⟨h.2.1, hF⟩
end Jvm.Pilot.@@N@@
namespace Jvm.Pilot.@@N@@
open Jvm Jvm.ClassFile Sem Op Lib Jvm.Free Jvm.Stand Jvm.Pilot.@@N@@.Jvm.D
/-! MADE BY PROGRAM (witnessworld.py) out of the Statement's table words and the real class files: 12 classes; the members and pool entries that the words name. The judged class is class 1, her method 1. -/
namespace start1
open Jvm.ClassFile
def u (s : String) : CpInfo := .utf8 (stringToUtf16 s)
/-- a pool by its gaps: so many unusable entries, then the entry; so many at the end -/
def gap : Nat → List CpInfo → List CpInfo
  | 0, r => r
  | n + 1, r => .unusable :: gap n r
def poolList (es : List (Nat × CpInfo)) (last : Nat) : List CpInfo := es.foldr (fun e r => gap e.1 (e.2 :: r)) (gap last [])
def pool (es : List (Nat × CpInfo)) (last : Nat) : Array CpInfo := ⟨poolList es last⟩
def fileOf (pool : Array CpInfo) (this : Nat) (attrs : Array Attribute := #[]) (ms : Array MethodInfo := #[]) (fl : Nat := 33) (sup : Nat := 0) (ifs : Array Nat := #[]) (fds : Array FieldInfo := #[]) : ClassFile where
  minorVersion := 0
  majorVersion := 65
  constantPool := pool
  accessFlags := fl
  thisClass := this
  superClass := sup
  interfaces := ifs
  fields := fds
  methods := ms
  attributes := attrs
def plain (name : String) (sup : Option ClassId) : Class where
  name := name
  kind := .ordinary
  loader := none
  accessFlags := 33
  super := sup
  interfaces := #[]
  cf := none
  fields := #[]
  methods := #[]
  instanceTypes := #[]
  staticTypes := #[]
  resolved := #[]
  callSites := []
  init := .initialized
  statics := none
  mirror := none

def pool0 : Array CpInfo := pool [(5, u "<init>"), (0, u "()V"), (1, .class_ 10), (1, u "java/lang/Object")] 113

def k0m0 : Method := { name := "<init>", desc := "()V", sig := { parameters := [], returnType := none }, accessFlags := 1, code := none }
/-- java/lang/Object -/
def k0 : Class := { plain "java/lang/Object" none with
  accessFlags := 33
  interfaces := #[]
  cf := some (fileOf pool0 8 #[] #[{ accessFlags := 1, nameIndex := 5, descriptorIndex := 6, attributes := #[] }] 33 0 #[] #[])
  fields := #[]
  methods := #[k0m0]
  instanceTypes := #[]
  staticTypes := #[]
  resolved := Array.replicate 124 none
  statics := none }

def pool1 : Array CpInfo := pool [(2, .class_ 4), (1, u "java/lang/Object"), (0, u "<init>"), (0, u "()V"), (0, .fieldref 8 9), (0, .class_ 10), (0, .nameAndType 11 12), (0, u "com/example/ansehen/ansehen/service/Scale"), (0, u "UNIT"), (0, u "Lcom/example/ansehen/ansehen/service/Scale;"), (0, .methodref 8 14), (0, .nameAndType 15 16), (0, u "factor"), (0, u "(I)D"), (0, .fieldref 8 18), (0, .nameAndType 19 12), (0, u "NODES"), (0, .class_ 21), (0, u "com/example/ansehen/ansehen/service/ScaleFactorPinLaw"), (2, u "law"), (0, u "(I)Z")] 3

def k1m0 : Method := { name := "<init>", desc := "()V", sig := { parameters := [], returnType := none }, accessFlags := 1, code := none }
def k1c1 : Code := { maxStack := 6, maxLocals := 10, code := code, exceptionTable := #[], attributes := #[] }
def k1m1 : Method := { name := "law", desc := "(I)Z", sig := { parameters := [.int], returnType := some .boolean }, accessFlags := 9, code := some k1c1 }
/-- com/example/ansehen/ansehen/service/ScaleFactorPinLaw -/
def k1 : Class := { plain "com/example/ansehen/ansehen/service/ScaleFactorPinLaw" (some 0) with
  accessFlags := 49
  interfaces := #[]
  cf := some (fileOf pool1 20 #[] #[{ accessFlags := 1, nameIndex := 5, descriptorIndex := 6, attributes := #[] }, { accessFlags := 9, nameIndex := 24, descriptorIndex := 25, attributes := #[] }] 49 2 #[] #[])
  fields := #[]
  methods := #[k1m0, k1m1]
  instanceTypes := #[]
  staticTypes := #[]
  resolved := Array.replicate 29 none
  statics := none }

def pool2 : Array CpInfo := pool [(1, .class_ 2), (0, u "java/lang/constant/Constable"), (0, .class_ 4), (0, u "java/lang/Object")] 6

/-- java/lang/constant/Constable -/
def k2 : Class := { plain "java/lang/constant/Constable" (some 0) with
  accessFlags := 1537
  interfaces := #[]
  cf := some (fileOf pool2 1 #[] #[] 1537 3 #[] #[])
  fields := #[]
  methods := #[]
  instanceTypes := #[]
  staticTypes := #[]
  resolved := Array.replicate 11 none
  statics := none }

def pool3 : Array CpInfo := pool [(1, .class_ 2), (0, u "java/lang/Comparable"), (0, .class_ 4), (0, u "java/lang/Object")] 7

/-- java/lang/Comparable -/
def k3 : Class := { plain "java/lang/Comparable" (some 0) with
  accessFlags := 1537
  interfaces := #[]
  cf := some (fileOf pool3 1 #[] #[] 1537 3 #[] #[])
  fields := #[]
  methods := #[]
  instanceTypes := #[]
  staticTypes := #[]
  resolved := Array.replicate 12 none
  statics := none }

def pool4 : Array CpInfo := pool [(1, .class_ 2), (0, u "java/io/Serializable"), (0, .class_ 4), (0, u "java/lang/Object")] 2

/-- java/io/Serializable -/
def k4 : Class := { plain "java/io/Serializable" (some 0) with
  accessFlags := 1537
  interfaces := #[]
  cf := some (fileOf pool4 1 #[] #[] 1537 3 #[] #[])
  fields := #[]
  methods := #[]
  instanceTypes := #[]
  staticTypes := #[]
  resolved := Array.replicate 7 none
  statics := none }

def pool5 : Array CpInfo := pool [(2, .class_ 4), (1, u "java/lang/Enum"), (0, u "name"), (0, u "Ljava/lang/String;"), (2, u "ordinal"), (0, u "I"), (1, .class_ 14), (1, u "java/lang/Object"), (4, u "hash"), (86, .class_ 108), (1, u "java/lang/Enum$EnumDesc"), (2, .class_ 112), (0, u "java/lang/constant/Constable"), (0, .class_ 114), (0, u "java/lang/Comparable"), (0, .class_ 116), (0, u "java/io/Serializable")] 87

/-- java/lang/Enum -/
def k5 : Class := { plain "java/lang/Enum" (some 0) with
  accessFlags := 1057
  interfaces := #[2, 3, 4]
  cf := some (fileOf pool5 2 #[.nestMembers #[106]] #[] 1057 12 #[111, 113, 115] #[{ accessFlags := 18, nameIndex := 5, descriptorIndex := 6, attributes := #[] }, { accessFlags := 18, nameIndex := 9, descriptorIndex := 10, attributes := #[] }, { accessFlags := 2, nameIndex := 19, descriptorIndex := 10, attributes := #[] }])
  fields := #[{ name := "name", type := (.object "java/lang/String"), accessFlags := 18, slot := 0, constantValue := 0 }, { name := "ordinal", type := .int, accessFlags := 18, slot := 1, constantValue := 0 }, { name := "hash", type := .int, accessFlags := 2, slot := 2, constantValue := 0 }]
  methods := #[]
  instanceTypes := #[(.object "java/lang/String"), .int, .int]
  staticTypes := #[]
  resolved := Array.replicate 204 none
  statics := none }

def pool6 : Array CpInfo := pool [(1, .class_ 2), (0, u "com/example/ansehen/ansehen/service/Scale"), (2, u "UNIT"), (0, u "Lcom/example/ansehen/ansehen/service/Scale;"), (0, .fieldref 1 8), (0, .nameAndType 9 6), (0, u "NODES"), (2, u "$VALUES"), (0, u "[Lcom/example/ansehen/ansehen/service/Scale;"), (6, .class_ 22), (1, u "java/lang/Enum"), (20, u "factor"), (0, u "(I)D")] 5

def k6c0 : Code := { maxStack := 2, maxLocals := 2, code := prog_33_method_4_code, exceptionTable := #[], attributes := #[] }
def k6m0 : Method := { name := "factor", desc := "(I)D", sig := { parameters := [.int], returnType := some .double }, accessFlags := 0, code := some k6c0 }
/-- com/example/ansehen/ansehen/service/Scale -/
def k6 : Class := { plain "com/example/ansehen/ansehen/service/Scale" (some 5) with
  accessFlags := 16433
  interfaces := #[]
  cf := some (fileOf pool6 1 #[] #[{ accessFlags := 0, nameIndex := 43, descriptorIndex := 44, attributes := #[] }] 16433 20 #[] #[{ accessFlags := 16409, nameIndex := 5, descriptorIndex := 6, attributes := #[] }, { accessFlags := 16409, nameIndex := 9, descriptorIndex := 6, attributes := #[] }, { accessFlags := 4122, nameIndex := 12, descriptorIndex := 13, attributes := #[] }])
  fields := #[{ name := "UNIT", type := (.object "com/example/ansehen/ansehen/service/Scale"), accessFlags := 16409, slot := 0, constantValue := 0 }, { name := "NODES", type := (.object "com/example/ansehen/ansehen/service/Scale"), accessFlags := 16409, slot := 1, constantValue := 0 }, { name := "$VALUES", type := (.array (.object "com/example/ansehen/ansehen/service/Scale")), accessFlags := 4122, slot := 2, constantValue := 0 }]
  methods := #[k6m0]
  instanceTypes := #[(.object "java/lang/String"), .int, .int]
  staticTypes := #[(.object "com/example/ansehen/ansehen/service/Scale"), (.object "com/example/ansehen/ansehen/service/Scale"), (.array (.object "com/example/ansehen/ansehen/service/Scale"))]
  resolved := Array.replicate 50 none
  statics := some 0 }

def pool7 : Array CpInfo := pool [(1, u "java/lang/Cloneable"), (0, .class_ 1), (0, u "java/lang/Object"), (0, .class_ 3)] 3

/-- java/lang/Cloneable -/
def k7 : Class := { plain "java/lang/Cloneable" (some 0) with
  accessFlags := 1537
  interfaces := #[]
  cf := some (fileOf pool7 2 #[] #[] 1537 4 #[] #[])
  fields := #[]
  methods := #[]
  instanceTypes := #[]
  staticTypes := #[]
  resolved := Array.replicate 8 none
  statics := none }

/-- the primitive byte -/
def k8 : Class := { plain "byte" none with kind := .primitive 'B', accessFlags := 0x411 }
/-- [B -/
def k9 : Class := { plain "[B" (some 0) with kind := .array 8 .byte, interfaces := #[7, 4], accessFlags := 1041 }

/-- the primitive int -/
def k10 : Class := { plain "int" none with kind := .primitive 'I', accessFlags := 0x411 }
/-- [I -/
def k11 : Class := { plain "[I" (some 0) with kind := .array 10 .int, interfaces := #[7, 4], accessFlags := 1041 }

def heap : Heap := #[{ cls := 6, slots := #[.ref 1, .ref 2, .null], vm := .statics 6 },
  { cls := 6, slots := #[.null, .int 0, .int 0], vm := .none },
  { cls := 6, slots := #[.null, .int 1, .int 0], vm := .none }]
def classes : Array Class := #[k0, k1, k2, k3, k4, k5, k6, k7, k8, k9, k10, k11]
def interned : List (Array UInt16 × Addr) := []
def slotsUsed : Nat := 9
def theMethod : MethodId := ⟨1, 1⟩
def args0 : Array Value := #[.int 5]
def aboutOver (below : List Frame) : State where
  vm := { classes := classes, interned := interned.toArray }
  heap := heap
  slotsUsed := slotsUsed
  threads := #[{ frames := .invoking theMethod args0 :: below }]
def below0 : List Frame := [.native { method := ⟨0, 0⟩, args := #[] }]
def about1 : State := aboutOver below0
def p0 : Program := .bare "" "" ""
def e0 : Env := launch0.env 0 0 0
theorem w_frames : about1.frames = Frame.invoking theMethod args0 :: below0 := rfl
set_option maxRecDepth 65536 in
theorem w_args : argsFit about1.vm theMethod args0 = true := by decide +kernel
set_option maxRecDepth 65536 in
theorem w_heap : heapFits about1 = true := by decide +kernel
set_option maxRecDepth 65536 in
theorem w_runnable : about1.curStatus? = some .runnable := by decide +kernel
set_option maxRecDepth 65536 in
theorem w_alone : about1.alone = true := by decide +kernel
set_option maxRecDepth 65536 in
theorem w_named : about1.methodNamed? x = some theMethod := by decide +kernel
set_option maxRecDepth 65536 in
theorem w_hears : about1.hears theMethod below0 = true := by decide +kernel
set_option maxRecDepth 65536 in
theorem w_ripe : about1.ripe theMethod args0 below0 = true := by decide +kernel
theorem w_running : about1.status = .running := rfl
set_option maxRecDepth 65536 in
theorem w_room : about1.hasRoom e0.platform room_1 = true :=
  launch0.hasRoom_least _ room_1 (by decide +kernel) (by decide +kernel) (by decide +kernel) (by decide +kernel) (by decide +kernel) (by decide +kernel)
theorem allAtoms_all (ts : List Jvm.Cond) (a : Array Jvm.Value) (st : Jvm.State) : (allAtoms ts).before a st = ts.all (fun c => c.before a st) := by
  induction ts with
  | nil => rfl
  | cons c t ih =>
    show (Jvm.Cond.and c (allAtoms t)).before a st = _
    rw [Jvm.Cond.before_and, ih, List.all_cons]
def words1 : List Jvm.Cond := Jvm.Cond.code x code maxLocals ret :: tables_1
/-- a 'code' word, met by the world's own term for the bytes: nothing is compared byte by byte -/
theorem code_word {y : MethodName} {bytes : ByteArray} {mx : Nat} {rt : Option FieldType} {a : Array Value} {s : State} {m : MethodId} {meth : Method} {c : Code} (h1 : s.methodNamed? y = some m) (h2 : s.vm.method? m = some meth) (h3 : meth.code = some c) (h4 : c.code = bytes)
    (h5 : (c.maxLocals == mx && c.exceptionTable.isEmpty && decide (c.maxStack ≤ mostOperands) && decide (meth.sig.returnType = rt) && !meth.locks && decide (parseMethodDescriptor y.desc = some meth.sig)) = true) : (Jvm.Cond.code y bytes mx rt).before a s = true := by
  simp only [Bool.and_eq_true, beq_iff_eq, Bool.not_eq_true', decide_eq_true_eq] at h5
  obtain ⟨⟨⟨⟨⟨g1, g2⟩, g3⟩, g4⟩, g5⟩, g6⟩ := h5
  simp [Cond.before, Cond.holds, Cond.value, h1, h2, h3, h4, g1, g2, g3, g4, g5, g6]
def isCode : Jvm.Cond → Bool
  | .code _ _ _ _ => true
  | _ => false
theorem all_split {L : List Jvm.Cond} {P : Jvm.Cond → Bool} (h1 : L.all (fun c => isCode c || P c) = true) (h2 : ∀ c ∈ L.filter isCode, P c = true) : L.all P = true := by
  refine List.all_eq_true.mpr fun c hc => ?_
  have h := List.all_eq_true.mp h1 c hc
  rcases Bool.eq_false_or_eq_true (isCode c) with hi | hi
  · exact h2 c (List.mem_filter.mpr ⟨hc, hi⟩)
  · simpa [hi] using h
set_option maxRecDepth 65536 in
theorem w_c0 : (Jvm.Cond.code x code maxLocals ret).before args0 about1 = true := code_word (m := ⟨1, 1⟩) (meth := k1m1) (c := k1c1) (by decide +kernel) rfl rfl rfl (by decide +kernel)
set_option maxRecDepth 65536 in
theorem w_c1 : (Jvm.Cond.code ({ cls := "com/example/ansehen/ansehen/service/Scale", name := "factor", desc := "(I)D" } : Jvm.MethodName) prog_33_method_4_code (2 : Nat) (Option.some Jvm.ClassFile.FieldType.double)).before args0 about1 = true := code_word (m := ⟨6, 0⟩) (meth := k6m0) (c := k6c0) (by decide +kernel) rfl rfl rfl (by decide +kernel)
def codes1 : List Jvm.Cond := [Jvm.Cond.code x code maxLocals ret, Jvm.Cond.code ({ cls := "com/example/ansehen/ansehen/service/Scale", name := "factor", desc := "(I)D" } : Jvm.MethodName) prog_33_method_4_code (2 : Nat) (Option.some Jvm.ClassFile.FieldType.double)]
set_option maxRecDepth 65536 in
theorem codes_eq : words1.filter isCode = codes1 := rfl
theorem w_codes : ∀ c ∈ words1.filter isCode, c.before args0 about1 = true := by
  rw [codes_eq]
  intro c hc
  simp only [codes1, List.mem_cons, List.not_mem_nil, or_false] at hc
  rcases hc with rfl | rfl
  · exact w_c0
  · exact w_c1
set_option maxRecDepth 65536 in
theorem w_t1 : words1.all (fun c => isCode c || c.before args0 about1) = true := by decide +kernel
theorem w_tables : (allAtoms (Jvm.Cond.code x code maxLocals ret :: tables_1)).before args0 about1 = true := by
  rw [allAtoms_all]
  show words1.all (fun c => c.before args0 about1) = true
  refine all_split ?_ w_codes
  rw [w_t1]
set_option maxRecDepth 65536 in
theorem w_case : (Jvm.Cond.and given_1 narrow_1).before args0 about1 = true := by decide +kernel
theorem w_applies : (headSpec (Jvm.Cond.code x code maxLocals ret :: tables_1) room_1).applies x e0.platform about1 = true :=
  (Spec.applies_iff w_frames).mpr ⟨w_running, w_runnable, w_alone, w_named, w_hears, w_ripe, w_room, w_tables⟩
theorem atStart : AtStart classFile x code maxLocals ret World_1 tables_1 room_1 Calls_1 rest_1 Pre_1 launch0 p0 e0 about1 theMethod args0 below0 :=
  ⟨lists_1, trivial, launch0.admits_env _ _ _, launch0.least_env, fairChoices_fair.cas, fairChoices_fair.clock, w_frames, w_args, w_heap, w_applies, trivial, trivial, w_case⟩
end start1
theorem witness_1 : WitnessClaimed_1 := ⟨start1.p0, start1.e0, start1.about1, start1.theMethod, start1.args0, start1.below0, start1.atStart⟩
end Jvm.Pilot.@@N@@
