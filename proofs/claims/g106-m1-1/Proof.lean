import JvmDerived
import JvmDerived.Pilot.@@N@@Statement
import JvmDerived.Pilot.@@N@@Code
set_option linter.unusedVariables false
set_option linter.unusedSimpArgs false
namespace Jvm.Pilot.@@N@@
open Jvm Jvm.ClassFile Sem Op Lib Jvm.Free Jvm.Stand Jvm.LawKit Jvm.RoadKit Bundle Jvm.Pilot.@@N@@.Jvm.D
section OwnLayer
variable {p : Program} {l : Launch} {e : Env} {R : Room} {s : State} {m : MethodId} {args : Array Value} {below : List Frame} {meth : Method} {c : Code} {T : State} {locs : List Loc} {cells slots : Nat}
/-- what is to be shown from the state S on: the run comes back, Q holds of what it leaves -/
def own_G (p : Program) (e : Env) (below : List Frame) (s : State) (k n : Nat) (Q : Option Value → Heap → List Loc → Prop) (S : State) : Prop :=
  ∃ t o, Steps p.tables e below S t ∧ t.status = .running ∧ Ended t below o ∧ ∃ v L, o = .returned v ∧ Q v t.heap L ∧ FrameEnd s o t L k n
theorem own_to {k n : Nat} {Q : Option Value → Heap → List Loc → Prop} {S S' : State} (h : ∀ t, Steps p.tables e below S' t → Steps p.tables e below S t) (g : own_G p e below s k n Q S') : own_G p e below s k n Q S := by
  obtain ⟨t, o, h1, h2⟩ := g
  exact ⟨t, o, h t h1, h2⟩
theorem own_retI {k n : Nat} {Q : Option Value → Heap → List Loc → Prop} (X : Stand p l e R s m args below meth c T locs cells slots) (hx : p.tables.exec = Jvm.exec) {pc : Nat} {Ls : Array Slot} {z : Int32} (hret : meth.sig.returnType = some .int) (hd : decode c.code pc = .ok (.ireturn, 1)) (hlk : meth.locks = false) (hk : cells ≤ k) (hn : slots ≤ n) (hq : Q (some (.int z)) T.heap locs) :
    own_G p e below s k n Q (T.setTop (mkF m pc Ls [.int z])) := by
  obtain ⟨fs, hr, hrun, hended, hW, hsame⟩ := X.leave (v := some (.int z)) (fun h => by rw [hret] at h; cases h) hlk
  exact ⟨_, _, X.ireturnOut hx hret rfl (Or.inl rfl) hd hr, hrun, hended, _, _, rfl, hq, ⟨_, rfl⟩, hW, hsame.mono hk hn⟩
theorem own_retN {k n : Nat} {Q : Option Value → Heap → List Loc → Prop} (X : Stand p l e R s m args below meth c T locs cells slots) (hx : p.tables.exec = Jvm.exec) {pc : Nat} {Ls : Array Slot} {z : Int32} {t : FieldType} {rest : List Value} (hret : meth.sig.returnType = some t) (ht : t = .boolean ∨ t = .byte ∨ t = .char ∨ t = .short) (hd : decode c.code pc = .ok (.ireturn, 1)) (hlk : meth.locks = false) (hk : cells ≤ k) (hn : slots ≤ n) (hq : Q (some (.int (nar t z))) T.heap locs) :
    own_G p e below s k n Q (T.setTop (mkF m pc Ls (.int z :: rest))) := by
  obtain ⟨fs, hr, hrun, hended, hW, hsame⟩ := X.leave (v := some (.int (nar t z))) (fun h => by rw [hret] at h; cases h) hlk
  exact ⟨_, _, retN X hx hret ht hd hr, hrun, hended, _, _, rfl, hq, ⟨_, rfl⟩, hW, hsame.mono hk hn⟩
theorem own_retJ {k n : Nat} {Q : Option Value → Heap → List Loc → Prop} (X : Stand p l e R s m args below meth c T locs cells slots) (hx : p.tables.exec = Jvm.exec) {pc : Nat} {Ls : Array Slot} {z : Int64} (hret : meth.sig.returnType = some .long) (hd : decode c.code pc = .ok (.lreturn, 1)) (hlk : meth.locks = false) (hk : cells ≤ k) (hn : slots ≤ n) (hq : Q (some (.long z)) T.heap locs) :
    own_G p e below s k n Q (T.setTop (mkF m pc Ls [.long z])) := by
  obtain ⟨fs, hr, hrun, hended, hW, hsame⟩ := X.leave (v := some (.long z)) (fun h => by rw [hret] at h; cases h) hlk
  exact ⟨_, _, X.lreturnOut hx hret hd hr, hrun, hended, _, _, rfl, hq, ⟨_, rfl⟩, hW, hsame.mono hk hn⟩
theorem own_retA {k n : Nat} {Q : Option Value → Heap → List Loc → Prop} (X : Stand p l e R s m args below meth c T locs cells slots) (hx : p.tables.exec = Jvm.exec) {pc : Nat} {Ls : Array Slot} {w : Value} {t : FieldType} (hw : w.isRef = true) (hret : meth.sig.returnType = some t) (ht : t.isReference = true) (hd : decode c.code pc = .ok (.areturn, 1)) (hlk : meth.locks = false) (hk : cells ≤ k) (hn : slots ≤ n) (hq : Q (some w) T.heap locs) :
    own_G p e below s k n Q (T.setTop (mkF m pc Ls [w])) := by
  obtain ⟨fs, hr, hrun, hended, hW, hsame⟩ := X.leave (v := some w) (fun h => by rw [hret] at h; cases h) hlk
  exact ⟨_, _, X.areturnOut hx hw hret ht hd hr, hrun, hended, _, _, rfl, hq, ⟨_, rfl⟩, hW, hsame.mono hk hn⟩
theorem own_retV {k n : Nat} {Q : Option Value → Heap → List Loc → Prop} (X : Stand p l e R s m args below meth c T locs cells slots) (hx : p.tables.exec = Jvm.exec) {pc : Nat} {Ls : Array Slot} (hret : meth.sig.returnType = none) (hd : decode c.code pc = .ok (.return_, 1)) (hlk : meth.locks = false) (hk : cells ≤ k) (hn : slots ≤ n) (hq : Q none T.heap locs) :
    own_G p e below s k n Q (T.setTop (mkF m pc Ls [])) := by
  obtain ⟨fs, hr, hrun, hended, hW, hsame⟩ := X.leave (v := none) (fun _ => rfl) hlk
  exact ⟨_, _, X.returnOut hx hret hd hr, hrun, hended, _, _, rfl, hq, ⟨_, rfl⟩, hW, hsame.mono hk hn⟩
end OwnLayer
/-- a callee that leaves the heap as it was and returns r -/
def own_Qp (r : Option Value) (h0 : Heap) (n0 : Nat) (v : Option Value) (h : Heap) (L : List Loc) : Prop := v = r ∧ Fr n0 L ∧ h = h0
/-- the law itself -/
def own_Ql (n0 : Nat) (v : Option Value) (h : Heap) (L : List Loc) : Prop := v = some (.int 1) ∧ Fr n0 L
/-- a reference's int field, out of the case's words -/
theorem own_ord {args : Array Value} {s : State} {t : Jvm.Term} {C n d : String} {k : Int32} {x : Addr} (ht : t.eval args s none [] s = some (.ref x)) (h : (Jvm.Cond.eq (.field t C n d) (.int k)).value args s none s [] = some true) : s.fieldOf? x C n d = some (.int k) := by
  obtain ⟨u, w, e1, e2, K1, K2⟩ := cmp_v (Or.inl h)
  have e3 : some w = some (.int k) := e2.symm.trans (Term.int_eval k)
  obtain rfl := Option.some.inj e3
  obtain ⟨z, rfl⟩ := K2
  have e4 := gotT (Cond.eq_ints e1 e2) h
  rw [fld_at ht] at e1
  rw [e1, e4]
theorem own_ord_ne {s : State} {C n d : String} {x y : Addr} {k k' : Int32} (h : s.fieldOf? x C n d = some (.int k)) (h' : s.fieldOf? y C n d = some (.int k')) (hk : k ≠ k') : ¬ (x = y) := fun q => by
  subst q
  rw [h] at h'
  exact hk (Value.int.inj (Option.some.inj h'))
theorem own_pn0 : plainName "com/example/stockhold/stockhold/stock/CountsSubtractPinLaw" = true := by first | (simp [plainName, overriddenIn]; done) | decide +kernel
theorem own_pn1 : plainName "com/example/stockhold/stockhold/stock/Counts" = true := by first | (simp [plainName, overriddenIn]; done) | decide +kernel
theorem own_pd0 : parseMethodDescriptor "(JI)J" = some ⟨[.long, .int], some .long⟩ := by decide +kernel
theorem own_pd1 : parseMethodDescriptor "(JJ)J" = some ⟨[.long, .long], some .long⟩ := by decide +kernel
theorem d_method_2_0 : decode method_2_code 0 = .ok (.iload_n 2, 1) := by decide +kernel
theorem d_method_2_1 : decode method_2_code 1 = .ok (.iconst 1, 1) := by decide +kernel
theorem d_method_2_2 : decode method_2_code 2 = .ok (.if_icmp .ne 13, 3) := by decide +kernel
theorem d_method_2_5 : decode method_2_code 5 = .ok (.ldc2_w 9, 3) := by decide +kernel
theorem d_method_2_8 : decode method_2_code 8 = .ok (.lload_n 0, 1) := by decide +kernel
theorem d_method_2_9 : decode method_2_code 9 = .ok (.ldc2_w 11, 3) := by decide +kernel
theorem d_method_2_12 : decode method_2_code 12 = .ok (.land, 1) := by decide +kernel
theorem d_method_2_13 : decode method_2_code 13 = .ok (.lsub, 1) := by decide +kernel
theorem d_method_2_14 : decode method_2_code 14 = .ok (.lreturn, 1) := by decide +kernel
theorem d_method_2_15 : decode method_2_code 15 = .ok (.iload_n 2, 1) := by decide +kernel
theorem d_method_2_16 : decode method_2_code 16 = .ok (.iconst 2, 1) := by decide +kernel
theorem d_method_2_17 : decode method_2_code 17 = .ok (.if_icmp .ne 13, 3) := by decide +kernel
theorem d_method_2_20 : decode method_2_code 20 = .ok (.ldc2_w 13, 3) := by decide +kernel
theorem d_method_2_23 : decode method_2_code 23 = .ok (.lload_n 0, 1) := by decide +kernel
theorem d_method_2_24 : decode method_2_code 24 = .ok (.ldc2_w 11, 3) := by decide +kernel
theorem d_method_2_27 : decode method_2_code 27 = .ok (.land, 1) := by decide +kernel
theorem d_method_2_28 : decode method_2_code 28 = .ok (.ladd, 1) := by decide +kernel
theorem d_method_2_29 : decode method_2_code 29 = .ok (.lreturn, 1) := by decide +kernel
theorem d_method_2_30 : decode method_2_code 30 = .ok (.lload_n 0, 1) := by decide +kernel
theorem d_method_2_31 : decode method_2_code 31 = .ok (.lreturn, 1) := by decide +kernel
theorem d_prog_47_method_2_0 : decode prog_47_method_2_code 0 = .ok (.lload_n 0, 1) := by decide +kernel
theorem d_prog_47_method_2_1 : decode prog_47_method_2_code 1 = .ok (.lload_n 2, 1) := by decide +kernel
theorem d_prog_47_method_2_2 : decode prog_47_method_2_code 2 = .ok (.lsub, 1) := by decide +kernel
theorem d_prog_47_method_2_3 : decode prog_47_method_2_code 3 = .ok (.lstore 4, 2) := by decide +kernel
theorem d_prog_47_method_2_5 : decode prog_47_method_2_code 5 = .ok (.lload_n 0, 1) := by decide +kernel
theorem d_prog_47_method_2_6 : decode prog_47_method_2_code 6 = .ok (.lload_n 2, 1) := by decide +kernel
theorem d_prog_47_method_2_7 : decode prog_47_method_2_code 7 = .ok (.lxor, 1) := by decide +kernel
theorem d_prog_47_method_2_8 : decode prog_47_method_2_code 8 = .ok (.lload_n 0, 1) := by decide +kernel
theorem d_prog_47_method_2_9 : decode prog_47_method_2_code 9 = .ok (.lload 4, 2) := by decide +kernel
theorem d_prog_47_method_2_11 : decode prog_47_method_2_code 11 = .ok (.lxor, 1) := by decide +kernel
theorem d_prog_47_method_2_12 : decode prog_47_method_2_code 12 = .ok (.land, 1) := by decide +kernel
theorem d_prog_47_method_2_13 : decode prog_47_method_2_code 13 = .ok (.lconst 0, 1) := by decide +kernel
theorem d_prog_47_method_2_14 : decode prog_47_method_2_code 14 = .ok (.lcmp, 1) := by decide +kernel
theorem d_prog_47_method_2_15 : decode prog_47_method_2_code 15 = .ok (.ifCond .ge 19, 3) := by decide +kernel
theorem d_prog_47_method_2_18 : decode prog_47_method_2_code 18 = .ok (.lload_n 0, 1) := by decide +kernel
theorem d_prog_47_method_2_19 : decode prog_47_method_2_code 19 = .ok (.lconst 0, 1) := by decide +kernel
theorem d_prog_47_method_2_20 : decode prog_47_method_2_code 20 = .ok (.lcmp, 1) := by decide +kernel
theorem d_prog_47_method_2_21 : decode prog_47_method_2_code 21 = .ok (.ifCond .ge 9, 3) := by decide +kernel
theorem d_prog_47_method_2_24 : decode prog_47_method_2_code 24 = .ok (.ldc2_w 9, 3) := by decide +kernel
theorem d_prog_47_method_2_27 : decode prog_47_method_2_code 27 = .ok (.goto 6, 3) := by decide +kernel
theorem d_prog_47_method_2_30 : decode prog_47_method_2_code 30 = .ok (.ldc2_w 11, 3) := by decide +kernel
theorem d_prog_47_method_2_33 : decode prog_47_method_2_code 33 = .ok (.lreturn, 1) := by decide +kernel
theorem d_prog_47_method_2_34 : decode prog_47_method_2_code 34 = .ok (.lload 4, 2) := by decide +kernel
theorem d_prog_47_method_2_36 : decode prog_47_method_2_code 36 = .ok (.lreturn, 1) := by decide +kernel

def own_shape (x : Int64) (sel : Int32) : Int64 := if sel = (1 : Int32) then (9223372036854775807 : Int64) - (x &&& (255 : Int64)) else if sel = (2 : Int32) then (-9223372036854775808 : Int64) + (x &&& (255 : Int64)) else x
def own_sub (c q : Int64) : Int64 := if ((c ^^^ q) &&& (c ^^^ (c - q))) < (0 : Int64) then (if c < (0 : Int64) then (-9223372036854775808 : Int64) else (9223372036854775807 : Int64)) else c - q
theorem own_sub_eq (c q : Int64) : own_sub c q = if (0 : Int64) < q ∧ c < (-9223372036854775808 : Int64) + q then (-9223372036854775808 : Int64) else if q < (0 : Int64) ∧ (9223372036854775807 : Int64) + q < c then (9223372036854775807 : Int64) else c - q := by
  have x1 := c_xorSL c q
  have x2 := c_xorSL c (c - q)
  have a1 := c_andSL (c ^^^ q) (c ^^^ (c - q))
  have s1 := c_lsub c q
  have s2 := c_ladd (-9223372036854775808 : Int64) q
  have s3 := c_ladd (9223372036854775807 : Int64) q
  have r1 := rng64 c
  have r2 := rng64 q
  have r3 := rng64 (c - q)
  have r4 := rng64 ((-9223372036854775808 : Int64) + q)
  have r5 := rng64 ((9223372036854775807 : Int64) + q)
  have k1 : (-9223372036854775808 : Int64).toInt = -9223372036854775808 := by decide
  have k2 : (9223372036854775807 : Int64).toInt = 9223372036854775807 := by decide
  have k3 : (0 : Int64).toInt = 0 := by decide
  unfold own_sub
  simp only [Int64.lt_iff_toInt_lt, k1, k2, k3] at *
  generalize ((c ^^^ q) &&& (c ^^^ (c - q))).toInt = A at *
  generalize (c ^^^ q).toInt = B at *
  generalize (c ^^^ (c - q)).toInt = C at *
  generalize ((-9223372036854775808 : Int64) + q).toInt = M at *
  generalize ((9223372036854775807 : Int64) + q).toInt = N at *
  generalize hd : (c - q) = D at *
  (repeat' split) <;> first | rfl | (exfalso; omega)

theorem own_ef_own_rm_shape (m : MethodId) (x0 : Int64) (x1 : Int32) : entryFrame m #[(.long x0), (.int x1)] 3 = mkF m 0 #[.val (.long x0), .second, .val (.int x1)] [] := by first | (simp [entryFrame, mkF, argsToLocals, Value.category]; done) | rfl
set_option maxRecDepth 65536 in
set_option maxHeartbeats 40000000 in
theorem own_rm_shape (l : Launch) (Z : State) (a0 : Array Value) (hw : ∀ d ∈ tables_1, d.before a0 Z = true) (ws : List Jvm.Cond) (x : Int64) (sel : Int32) (h0 : Heap) (n0 : Nat) (Z0 : n0 ≤ h0.size)  :
    MetFree l (⟨"com/example/stockhold/stockhold/stock/CountsSubtractPinLaw", "shape", "(JI)J"⟩ : MethodName) (head1 (Jvm.Cond.code (⟨"com/example/stockhold/stockhold/stock/CountsSubtractPinLaw", "shape", "(JI)J"⟩ : MethodName) method_2_code 3 (some .long) :: ws) ({ frames := 0, cells := 0, slots := 0, locals := 0 } : Room)) (fun a U => a = #[(.long x), (.int sel)] ∧ Z.Warmed39 U.vm ∧ U.heap = h0) (fun _ _ _ _ _ => True) (fun _ U o U' => ∃ v L, o = .returned v ∧ (own_Qp (some (.long (own_shape x sel))) h0 n0) v U'.heap L ∧ FrameEnd U o U' L ({ frames := 0, cells := 0, slots := 0, locals := 0 } : Room).cells ({ frames := 0, cells := 0, slots := 0, locals := 0 } : Room).slots) := by
  refine MetFree.of_bodySF (plainFor_of_name own_pn0) hisR ?_
  intro p e s m args below meth c s₁ Bd hml0 hP hK
  obtain ⟨rfl, hZ, hh⟩ := hP
  have hx := Bd.exec
  have hby := Bd.bytes
  have hml : c.maxLocals = 3 := hml0
  have hown : s.vm.findClass "com/example/stockhold/stockhold/stock/CountsSubtractPinLaw" = some m.cls := findClass_of_methodNamed Bd.named
  have hnm := (name_of_methodNamed Bd.named Bd.method).1
  have X0 : Stand p l e ({ frames := 0, cells := 0, slots := 0, locals := 0 } : Room) s m #[(.long x), (.int sel)] below meth c s₁ [] 0 0 := Stand.of_body Bd
  have e0 : s₁.heap = h0 := by rw [← hh, Bd.state]; rfl
  have N0 := Fr.nil n0
  have hlk : meth.locks = false := by first | exact BodyLoose.notSynchronized Bd | exact Body.notSynchronized Bd
  obtain ⟨G, hG⟩ : ∃ G : State → Prop, G = own_G p e below s ({ frames := 0, cells := 0, slots := 0, locals := 0 } : Room).cells ({ frames := 0, cells := 0, slots := 0, locals := 0 } : Room).slots ((own_Qp (some (.long (own_shape x sel))) h0 n0)) := ⟨_, rfl⟩
  have go : ∀ {S S' : State}, (∀ t, Steps p.tables e below S' t → Steps p.tables e below S t) → G S' → G S := by rw [hG]; exact own_to
  suffices hs : G (s₁.setTop (mkF m 0 #[.val (.long x), .second, .val (.int sel)] [])) by
    rw [hG] at hs
    exact own_to (fun _ kont => castTop (own_ef_own_rm_shape m x sel) kont) hs
  refine go (fun _ kont => XS.iloadN X0.here hx rfl (hb hby d_method_2_0) rfl  kont) ?_
  show G (s₁.setTop (mkF m 1 #[.val (.long x), .second, .val (.int sel)] [(.int sel)]))
  refine go (fun _ kont => XS.iconst X0.here hx rfl (hb hby d_method_2_1) kont) ?_
  show G (s₁.setTop (mkF m 2 #[.val (.long x), .second, .val (.int sel)] [(.int (1 : Int32)), (.int sel)]))
  by_cases hc2 : sel = (1 : Int32)
  · refine go (fun _ kont => XS.icmpNo X0.here hx rfl (hb hby d_method_2_2) rfl (teq hc2).2 kont) ?_
    show G (s₁.setTop (mkF m 5 #[.val (.long x), .second, .val (.int sel)] []))
    refine go (fun _ kont => X0.ldc2Long hx hown (mvT hZ (hw _ (List.mem_of_getElem? (i := 9) rfl))) (g := (mkF m 5 #[.val (.long x), .second, .val (.int sel)] [])) rfl (hb hby d_method_2_5) _ kont) ?_
    show G (s₁.setTop (mkF m 8 #[.val (.long x), .second, .val (.int sel)] [(.long (9223372036854775807 : Int64))]))
    refine go (fun _ kont => XS.lloadN X0.here hx rfl (hb hby d_method_2_8) rfl  kont) ?_
    show G (s₁.setTop (mkF m 9 #[.val (.long x), .second, .val (.int sel)] [(.long x), (.long (9223372036854775807 : Int64))]))
    refine go (fun _ kont => X0.ldc2Long hx hown (mvT hZ (hw _ (List.mem_of_getElem? (i := 10) rfl))) (g := (mkF m 9 #[.val (.long x), .second, .val (.int sel)] [(.long x), (.long (9223372036854775807 : Int64))])) rfl (hb hby d_method_2_9) _ kont) ?_
    show G (s₁.setTop (mkF m 12 #[.val (.long x), .second, .val (.int sel)] [(.long (255 : Int64)), (.long x), (.long (9223372036854775807 : Int64))]))
    refine go (fun _ kont => XS.land X0.here hx rfl (hb hby d_method_2_12) rfl kont) ?_
    show G (s₁.setTop (mkF m 13 #[.val (.long x), .second, .val (.int sel)] [(.long (x &&& (255 : Int64))), (.long (9223372036854775807 : Int64))]))
    refine go (fun _ kont => XS.lsub X0.here hx rfl (hb hby d_method_2_13) rfl kont) ?_
    show G (s₁.setTop (mkF m 14 #[.val (.long x), .second, .val (.int sel)] [(.long ((9223372036854775807 : Int64) - (x &&& (255 : Int64))))]))
    rw [hG]
    exact own_retJ X0 hx Bd.returns (hb hby d_method_2_14) hlk (by decide) (by decide) ⟨by simp [own_shape, *], N0, e0⟩
  · refine go (fun _ kont => XS.icmpYes X0.here hx rfl (pc0 := 2) (pc' := 15) rfl (hb hby d_method_2_2) rfl (feq hc2).2 (by decide) (by decide) kont) ?_
    show G (s₁.setTop (mkF m 15 #[.val (.long x), .second, .val (.int sel)] []))
    refine go (fun _ kont => XS.iloadN X0.here hx rfl (hb hby d_method_2_15) rfl  kont) ?_
    show G (s₁.setTop (mkF m 16 #[.val (.long x), .second, .val (.int sel)] [(.int sel)]))
    refine go (fun _ kont => XS.iconst X0.here hx rfl (hb hby d_method_2_16) kont) ?_
    show G (s₁.setTop (mkF m 17 #[.val (.long x), .second, .val (.int sel)] [(.int (2 : Int32)), (.int sel)]))
    by_cases hc17 : sel = (2 : Int32)
    · refine go (fun _ kont => XS.icmpNo X0.here hx rfl (hb hby d_method_2_17) rfl (teq hc17).2 kont) ?_
      show G (s₁.setTop (mkF m 20 #[.val (.long x), .second, .val (.int sel)] []))
      refine go (fun _ kont => X0.ldc2Long hx hown (mvT hZ (hw _ (List.mem_of_getElem? (i := 8) rfl))) (g := (mkF m 20 #[.val (.long x), .second, .val (.int sel)] [])) rfl (hb hby d_method_2_20) _ kont) ?_
      show G (s₁.setTop (mkF m 23 #[.val (.long x), .second, .val (.int sel)] [(.long (-9223372036854775808 : Int64))]))
      refine go (fun _ kont => XS.lloadN X0.here hx rfl (hb hby d_method_2_23) rfl  kont) ?_
      show G (s₁.setTop (mkF m 24 #[.val (.long x), .second, .val (.int sel)] [(.long x), (.long (-9223372036854775808 : Int64))]))
      refine go (fun _ kont => X0.ldc2Long hx hown (mvT hZ (hw _ (List.mem_of_getElem? (i := 10) rfl))) (g := (mkF m 24 #[.val (.long x), .second, .val (.int sel)] [(.long x), (.long (-9223372036854775808 : Int64))])) rfl (hb hby d_method_2_24) _ kont) ?_
      show G (s₁.setTop (mkF m 27 #[.val (.long x), .second, .val (.int sel)] [(.long (255 : Int64)), (.long x), (.long (-9223372036854775808 : Int64))]))
      refine go (fun _ kont => XS.land X0.here hx rfl (hb hby d_method_2_27) rfl kont) ?_
      show G (s₁.setTop (mkF m 28 #[.val (.long x), .second, .val (.int sel)] [(.long (x &&& (255 : Int64))), (.long (-9223372036854775808 : Int64))]))
      refine go (fun _ kont => XS.ladd X0.here hx rfl (hb hby d_method_2_28) rfl kont) ?_
      show G (s₁.setTop (mkF m 29 #[.val (.long x), .second, .val (.int sel)] [(.long ((-9223372036854775808 : Int64) + (x &&& (255 : Int64))))]))
      rw [hG]
      exact own_retJ X0 hx Bd.returns (hb hby d_method_2_29) hlk (by decide) (by decide) ⟨by simp [own_shape, *], N0, e0⟩
    · refine go (fun _ kont => XS.icmpYes X0.here hx rfl (pc0 := 17) (pc' := 30) rfl (hb hby d_method_2_17) rfl (feq hc17).2 (by decide) (by decide) kont) ?_
      show G (s₁.setTop (mkF m 30 #[.val (.long x), .second, .val (.int sel)] []))
      refine go (fun _ kont => XS.lloadN X0.here hx rfl (hb hby d_method_2_30) rfl  kont) ?_
      show G (s₁.setTop (mkF m 31 #[.val (.long x), .second, .val (.int sel)] [(.long x)]))
      rw [hG]
      exact own_retJ X0 hx Bd.returns (hb hby d_method_2_31) hlk (by decide) (by decide) ⟨by simp [own_shape, *], N0, e0⟩
theorem own_ef_own_rm_sub (m : MethodId) (x0 : Int64) (x1 : Int64) : entryFrame m #[(.long x0), (.long x1)] 6 = mkF m 0 #[.val (.long x0), .second, .val (.long x1), .second, .unset, .unset] [] := by first | (simp [entryFrame, mkF, argsToLocals, Value.category]; done) | rfl
set_option maxRecDepth 65536 in
set_option maxHeartbeats 40000000 in
theorem own_rm_sub (l : Launch) (Z : State) (a0 : Array Value) (hw : ∀ d ∈ tables_1, d.before a0 Z = true) (ws : List Jvm.Cond) (c0 : Int64) (q0 : Int64) (h0 : Heap) (n0 : Nat) (Z0 : n0 ≤ h0.size)  :
    MetFree l (⟨"com/example/stockhold/stockhold/stock/Counts", "subtract", "(JJ)J"⟩ : MethodName) (head1 (Jvm.Cond.code (⟨"com/example/stockhold/stockhold/stock/Counts", "subtract", "(JJ)J"⟩ : MethodName) prog_47_method_2_code 6 (some .long) :: ws) ({ frames := 0, cells := 0, slots := 0, locals := 0 } : Room)) (fun a U => a = #[(.long c0), (.long q0)] ∧ Z.Warmed39 U.vm ∧ U.heap = h0) (fun _ _ _ _ _ => True) (fun _ U o U' => ∃ v L, o = .returned v ∧ (own_Qp (some (.long (own_sub c0 q0))) h0 n0) v U'.heap L ∧ FrameEnd U o U' L ({ frames := 0, cells := 0, slots := 0, locals := 0 } : Room).cells ({ frames := 0, cells := 0, slots := 0, locals := 0 } : Room).slots) := by
  refine MetFree.of_bodySF (plainFor_of_name own_pn1) hisR ?_
  intro p e s m args below meth c s₁ Bd hml0 hP hK
  obtain ⟨rfl, hZ, hh⟩ := hP
  have hx := Bd.exec
  have hby := Bd.bytes
  have hml : c.maxLocals = 6 := hml0
  have hown : s.vm.findClass "com/example/stockhold/stockhold/stock/Counts" = some m.cls := findClass_of_methodNamed Bd.named
  have hnm := (name_of_methodNamed Bd.named Bd.method).1
  have X0 : Stand p l e ({ frames := 0, cells := 0, slots := 0, locals := 0 } : Room) s m #[(.long c0), (.long q0)] below meth c s₁ [] 0 0 := Stand.of_body Bd
  have e0 : s₁.heap = h0 := by rw [← hh, Bd.state]; rfl
  have N0 := Fr.nil n0
  have hlk : meth.locks = false := by first | exact BodyLoose.notSynchronized Bd | exact Body.notSynchronized Bd
  obtain ⟨G, hG⟩ : ∃ G : State → Prop, G = own_G p e below s ({ frames := 0, cells := 0, slots := 0, locals := 0 } : Room).cells ({ frames := 0, cells := 0, slots := 0, locals := 0 } : Room).slots ((own_Qp (some (.long (own_sub c0 q0))) h0 n0)) := ⟨_, rfl⟩
  have go : ∀ {S S' : State}, (∀ t, Steps p.tables e below S' t → Steps p.tables e below S t) → G S' → G S := by rw [hG]; exact own_to
  suffices hs : G (s₁.setTop (mkF m 0 #[.val (.long c0), .second, .val (.long q0), .second, .unset, .unset] [])) by
    rw [hG] at hs
    exact own_to (fun _ kont => castTop (own_ef_own_rm_sub m c0 q0) kont) hs
  refine go (fun _ kont => XS.lloadN X0.here hx rfl (hb hby d_prog_47_method_2_0) rfl  kont) ?_
  show G (s₁.setTop (mkF m 1 #[.val (.long c0), .second, .val (.long q0), .second, .unset, .unset] [(.long c0)]))
  refine go (fun _ kont => XS.lloadN X0.here hx rfl (hb hby d_prog_47_method_2_1) rfl  kont) ?_
  show G (s₁.setTop (mkF m 2 #[.val (.long c0), .second, .val (.long q0), .second, .unset, .unset] [(.long q0), (.long c0)]))
  refine go (fun _ kont => XS.lsub X0.here hx rfl (hb hby d_prog_47_method_2_2) rfl kont) ?_
  show G (s₁.setTop (mkF m 3 #[.val (.long c0), .second, .val (.long q0), .second, .unset, .unset] [(.long (c0 - q0))]))
  refine go (fun _ kont => XS.lstore X0.here hx rfl (hb hby d_prog_47_method_2_3) rfl (l' := #[.val (.long c0), .second, .val (.long q0), .second, .val (.long (c0 - q0)), .second]) rfl kont) ?_
  show G (s₁.setTop (mkF m 5 #[.val (.long c0), .second, .val (.long q0), .second, .val (.long (c0 - q0)), .second] []))
  refine go (fun _ kont => XS.lloadN X0.here hx rfl (hb hby d_prog_47_method_2_5) rfl  kont) ?_
  show G (s₁.setTop (mkF m 6 #[.val (.long c0), .second, .val (.long q0), .second, .val (.long (c0 - q0)), .second] [(.long c0)]))
  refine go (fun _ kont => XS.lloadN X0.here hx rfl (hb hby d_prog_47_method_2_6) rfl  kont) ?_
  show G (s₁.setTop (mkF m 7 #[.val (.long c0), .second, .val (.long q0), .second, .val (.long (c0 - q0)), .second] [(.long q0), (.long c0)]))
  refine go (fun _ kont => XS.lxor X0.here hx rfl (hb hby d_prog_47_method_2_7) rfl kont) ?_
  show G (s₁.setTop (mkF m 8 #[.val (.long c0), .second, .val (.long q0), .second, .val (.long (c0 - q0)), .second] [(.long (c0 ^^^ q0))]))
  refine go (fun _ kont => XS.lloadN X0.here hx rfl (hb hby d_prog_47_method_2_8) rfl  kont) ?_
  show G (s₁.setTop (mkF m 9 #[.val (.long c0), .second, .val (.long q0), .second, .val (.long (c0 - q0)), .second] [(.long c0), (.long (c0 ^^^ q0))]))
  refine go (fun _ kont => XS.lload X0.here hx rfl (hb hby d_prog_47_method_2_9) rfl  kont) ?_
  show G (s₁.setTop (mkF m 11 #[.val (.long c0), .second, .val (.long q0), .second, .val (.long (c0 - q0)), .second] [(.long (c0 - q0)), (.long c0), (.long (c0 ^^^ q0))]))
  refine go (fun _ kont => XS.lxor X0.here hx rfl (hb hby d_prog_47_method_2_11) rfl kont) ?_
  show G (s₁.setTop (mkF m 12 #[.val (.long c0), .second, .val (.long q0), .second, .val (.long (c0 - q0)), .second] [(.long (c0 ^^^ (c0 - q0))), (.long (c0 ^^^ q0))]))
  refine go (fun _ kont => XS.land X0.here hx rfl (hb hby d_prog_47_method_2_12) rfl kont) ?_
  show G (s₁.setTop (mkF m 13 #[.val (.long c0), .second, .val (.long q0), .second, .val (.long (c0 - q0)), .second] [(.long ((c0 ^^^ q0) &&& (c0 ^^^ (c0 - q0))))]))
  refine go (fun _ kont => XS.lconst X0.here hx rfl (hb hby d_prog_47_method_2_13) kont) ?_
  show G (s₁.setTop (mkF m 14 #[.val (.long c0), .second, .val (.long q0), .second, .val (.long (c0 - q0)), .second] [(.long (0 : Int64)), (.long ((c0 ^^^ q0) &&& (c0 ^^^ (c0 - q0))))]))
  refine go (fun _ kont => XS.lcmp X0.here hx rfl (hb hby d_prog_47_method_2_14) rfl kont) ?_
  show G (s₁.setTop (mkF m 15 #[.val (.long c0), .second, .val (.long q0), .second, .val (.long (c0 - q0)), .second] [(.int (lcmpW ((c0 ^^^ q0) &&& (c0 ^^^ (c0 - q0))) (0 : Int64)))]))
  by_cases hc15 : ((c0 ^^^ q0) &&& (c0 ^^^ (c0 - q0))) < (0 : Int64)
  · refine go (fun _ kont => XS.ifNo X0.here hx rfl (hb hby d_prog_47_method_2_15) rfl ((if0 _ _).trans (tlt ((lw_lt _ _).mpr hc15)).2.1) kont) ?_
    show G (s₁.setTop (mkF m 18 #[.val (.long c0), .second, .val (.long q0), .second, .val (.long (c0 - q0)), .second] []))
    refine go (fun _ kont => XS.lloadN X0.here hx rfl (hb hby d_prog_47_method_2_18) rfl  kont) ?_
    show G (s₁.setTop (mkF m 19 #[.val (.long c0), .second, .val (.long q0), .second, .val (.long (c0 - q0)), .second] [(.long c0)]))
    refine go (fun _ kont => XS.lconst X0.here hx rfl (hb hby d_prog_47_method_2_19) kont) ?_
    show G (s₁.setTop (mkF m 20 #[.val (.long c0), .second, .val (.long q0), .second, .val (.long (c0 - q0)), .second] [(.long (0 : Int64)), (.long c0)]))
    refine go (fun _ kont => XS.lcmp X0.here hx rfl (hb hby d_prog_47_method_2_20) rfl kont) ?_
    show G (s₁.setTop (mkF m 21 #[.val (.long c0), .second, .val (.long q0), .second, .val (.long (c0 - q0)), .second] [(.int (lcmpW c0 (0 : Int64)))]))
    by_cases hc21 : c0 < (0 : Int64)
    · refine go (fun _ kont => XS.ifNo X0.here hx rfl (hb hby d_prog_47_method_2_21) rfl ((if0 _ _).trans (tlt ((lw_lt _ _).mpr hc21)).2.1) kont) ?_
      show G (s₁.setTop (mkF m 24 #[.val (.long c0), .second, .val (.long q0), .second, .val (.long (c0 - q0)), .second] []))
      refine go (fun _ kont => X0.ldc2Long hx hown (mvT hZ (hw _ (List.mem_of_getElem? (i := 12) rfl))) (g := (mkF m 24 #[.val (.long c0), .second, .val (.long q0), .second, .val (.long (c0 - q0)), .second] [])) rfl (hb hby d_prog_47_method_2_24) _ kont) ?_
      show G (s₁.setTop (mkF m 27 #[.val (.long c0), .second, .val (.long q0), .second, .val (.long (c0 - q0)), .second] [(.long (-9223372036854775808 : Int64))]))
      refine go (fun _ kont => XS.goto X0.here hx rfl (pc0 := 27) (pc' := 33) rfl (hb hby d_prog_47_method_2_27) (by decide) (by decide) kont) ?_
      show G (s₁.setTop (mkF m 33 #[.val (.long c0), .second, .val (.long q0), .second, .val (.long (c0 - q0)), .second] [(.long (-9223372036854775808 : Int64))]))
      rw [hG]
      exact own_retJ X0 hx Bd.returns (hb hby d_prog_47_method_2_33) hlk (by decide) (by decide) ⟨by simp [own_sub, *], N0, e0⟩
    · refine go (fun _ kont => XS.ifYes X0.here hx rfl (pc0 := 21) (pc' := 30) rfl (hb hby d_prog_47_method_2_21) rfl ((if0 _ _).trans (flt (mt (lw_lt _ _).mp hc21)).2.1) (by decide) (by decide) kont) ?_
      show G (s₁.setTop (mkF m 30 #[.val (.long c0), .second, .val (.long q0), .second, .val (.long (c0 - q0)), .second] []))
      refine go (fun _ kont => X0.ldc2Long hx hown (mvT hZ (hw _ (List.mem_of_getElem? (i := 11) rfl))) (g := (mkF m 30 #[.val (.long c0), .second, .val (.long q0), .second, .val (.long (c0 - q0)), .second] [])) rfl (hb hby d_prog_47_method_2_30) _ kont) ?_
      show G (s₁.setTop (mkF m 33 #[.val (.long c0), .second, .val (.long q0), .second, .val (.long (c0 - q0)), .second] [(.long (9223372036854775807 : Int64))]))
      rw [hG]
      exact own_retJ X0 hx Bd.returns (hb hby d_prog_47_method_2_33) hlk (by decide) (by decide) ⟨by simp [own_sub, *], N0, e0⟩
  · refine go (fun _ kont => XS.ifYes X0.here hx rfl (pc0 := 15) (pc' := 34) rfl (hb hby d_prog_47_method_2_15) rfl ((if0 _ _).trans (flt (mt (lw_lt _ _).mp hc15)).2.1) (by decide) (by decide) kont) ?_
    show G (s₁.setTop (mkF m 34 #[.val (.long c0), .second, .val (.long q0), .second, .val (.long (c0 - q0)), .second] []))
    refine go (fun _ kont => XS.lload X0.here hx rfl (hb hby d_prog_47_method_2_34) rfl  kont) ?_
    show G (s₁.setTop (mkF m 36 #[.val (.long c0), .second, .val (.long q0), .second, .val (.long (c0 - q0)), .second] [(.long (c0 - q0))]))
    rw [hG]
    exact own_retJ X0 hx Bd.returns (hb hby d_prog_47_method_2_36) hlk (by decide) (by decide) ⟨by simp [own_sub, *], N0, e0⟩
theorem own_ef_own_rm_law (m : MethodId) (x0 : Int64) (x1 : Int64) (x2 : Int32) : entryFrame m #[(.long x0), (.long x1), (.int x2)] maxLocals = mkF m 0 #[.val (.long x0), .second, .val (.long x1), .second, .val (.int x2), .unset, .unset, .unset, .unset, .unset, .unset, .unset, .unset] [] := by first | (simp [entryFrame, mkF, argsToLocals, Value.category, maxLocals]; done) | rfl
set_option maxRecDepth 65536 in
set_option maxHeartbeats 40000000 in
theorem own_rm_law (l : Launch) (Z : State) (a0 : Array Value) (hw : ∀ d ∈ tables_1, d.before a0 Z = true) (ws : List Jvm.Cond) (p1 : Int64) (p2 : Int64) (p3 : Int32) (h0 : Heap) (n0 : Nat) (Z0 : n0 ≤ h0.size)  :
    MetFree l x (head1 (Jvm.Cond.code x code maxLocals ret :: ws) room_1) (fun a U => a = #[(.long p1), (.long p2), (.int p3)] ∧ Z.Warmed39 U.vm ∧ U.heap = h0) (fun _ _ _ _ _ => True) (fun _ U o U' => ∃ v L, o = .returned v ∧ (own_Ql n0) v U'.heap L ∧ FrameEnd U o U' L room_1.cells room_1.slots) := by
  refine MetFree.of_bodySF (plainFor_of_name own_pn0) hisR ?_
  intro p e s m args below meth c s₁ Bd hml0 hP hK
  obtain ⟨rfl, hZ, hh⟩ := hP
  have hx := Bd.exec
  have hby := Bd.bytes
  have hml : c.maxLocals = 13 := hml0
  have hown : s.vm.findClass "com/example/stockhold/stockhold/stock/CountsSubtractPinLaw" = some m.cls := findClass_of_methodNamed Bd.named
  have hnm := (name_of_methodNamed Bd.named Bd.method).1
  have X0 : Stand p l e room_1 s m #[(.long p1), (.long p2), (.int p3)] below meth c s₁ [] 0 0 := Stand.of_body Bd
  have e0 : s₁.heap = h0 := by rw [← hh, Bd.state]; rfl
  have N0 := Fr.nil n0
  have hlk : meth.locks = false := by first | exact BodyLoose.notSynchronized Bd | exact Body.notSynchronized Bd
  obtain ⟨G, hG⟩ : ∃ G : State → Prop, G = own_G p e below s room_1.cells room_1.slots ((own_Ql n0)) := ⟨_, rfl⟩
  have go : ∀ {S S' : State}, (∀ t, Steps p.tables e below S' t → Steps p.tables e below S t) → G S' → G S := by rw [hG]; exact own_to
  suffices hs : G (s₁.setTop (mkF m 0 #[.val (.long p1), .second, .val (.long p2), .second, .val (.int p3), .unset, .unset, .unset, .unset, .unset, .unset, .unset, .unset] [])) by
    rw [hG] at hs
    exact own_to (fun _ kont => castTop (own_ef_own_rm_law m p1 p2 p3) kont) hs
  refine go (fun _ kont => XS.lloadN X0.here hx rfl (hb hby at_0) rfl  kont) ?_
  show G (s₁.setTop (mkF m 1 #[.val (.long p1), .second, .val (.long p2), .second, .val (.int p3), .unset, .unset, .unset, .unset, .unset, .unset, .unset, .unset] [(.long p1)]))
  refine go (fun _ kont => XS.iload X0.here hx rfl (hb hby at_1) rfl  kont) ?_
  show G (s₁.setTop (mkF m 3 #[.val (.long p1), .second, .val (.long p2), .second, .val (.int p3), .unset, .unset, .unset, .unset, .unset, .unset, .unset, .unset] [(.int p3), (.long p1)]))
  refine go (fun _ kont => XS.iconst X0.here hx rfl (hb hby at_3) kont) ?_
  show G (s₁.setTop (mkF m 4 #[.val (.long p1), .second, .val (.long p2), .second, .val (.int p3), .unset, .unset, .unset, .unset, .unset, .unset, .unset, .unset] [(.int (3 : Int32)), (.int p3), (.long p1)]))
  refine go (fun _ kont => XS.iand X0.here hx rfl (hb hby at_4) rfl kont) ?_
  show G (s₁.setTop (mkF m 5 #[.val (.long p1), .second, .val (.long p2), .second, .val (.int p3), .unset, .unset, .unset, .unset, .unset, .unset, .unset, .unset] [(.int (p3 &&& (3 : Int32))), (.long p1)]))
  obtain ⟨_, _, ⟨T1, L1, k1, n1⟩, -, X1, ⟨Lc1, hQ1, l1, y1, z1⟩, st1⟩ := Jvm.LawKit.callS X0 hx (y := (⟨"com/example/stockhold/stockhold/stock/CountsSubtractPinLaw", "shape", "(JI)J"⟩ : MethodName)) hown (mvT hZ (hw _ (List.mem_of_getElem? (i := 0) rfl))) (mvT hZ (hw _ (List.mem_of_getElem? (i := 1) rfl))) (mvT hZ (hw _ (List.mem_of_getElem? (i := 2) rfl))) (mvT hZ (hw _ (List.mem_of_getElem? (i := 3) rfl))) (by decide) (backOf (W := 0) (own_rm_shape l Z a0 hw [] p1 (p3 &&& (3 : Int32)) h0 n0 Z0) hZ (hw _ (List.mem_of_getElem? (i := 3) rfl)) (hw _ (List.mem_of_getElem? (i := 2) rfl)) (by decide) (by decide)) (g := (mkF m 5 #[.val (.long p1), .second, .val (.long p2), .second, .val (.int p3), .unset, .unset, .unset, .unset, .unset, .unset, .unset, .unset] [(.int (p3 &&& (3 : Int32))), (.long p1)])) rfl (by rw [hml]; rfl) (argsL := [(.long p1), (.int (p3 &&& (3 : Int32)))]) (rest := []) (lenOf own_pd0 rfl) rfl (by show 2 * 0 + _ ≤ _; exact Nat.le_of_eq rfl) (hb hby at_5) (fun _ _ => ⟨rfl, e0, (by decide : 0 + 0 ≤ _), (by decide : 0 + 0 ≤ _)⟩)
  dsimp only [Pt.U, Pt.locs, Pt.cells, Pt.slots] at X1 l1 y1 z1 st1 hQ1
  subst l1 y1 z1
  obtain ⟨rfl, N1q, e1⟩ := hQ1
  have N1 := Fr.app N0 N1q
  refine go st1 ?_
  show G (T1.setTop (mkF m 8 #[.val (.long p1), .second, .val (.long p2), .second, .val (.int p3), .unset, .unset, .unset, .unset, .unset, .unset, .unset, .unset] [(.long (own_shape p1 (p3 &&& (3 : Int32))))]))
  generalize hv8 : (own_shape p1 (p3 &&& (3 : Int32))) = v8
  refine go (fun _ kont => XS.lstore X1.here hx rfl (hb hby at_8) rfl (l' := #[.val (.long p1), .second, .val (.long p2), .second, .val (.int p3), .val (.long v8), .second, .unset, .unset, .unset, .unset, .unset, .unset]) rfl kont) ?_
  show G (T1.setTop (mkF m 10 #[.val (.long p1), .second, .val (.long p2), .second, .val (.int p3), .val (.long v8), .second, .unset, .unset, .unset, .unset, .unset, .unset] []))
  refine go (fun _ kont => XS.lloadN X1.here hx rfl (hb hby at_10) rfl  kont) ?_
  show G (T1.setTop (mkF m 11 #[.val (.long p1), .second, .val (.long p2), .second, .val (.int p3), .val (.long v8), .second, .unset, .unset, .unset, .unset, .unset, .unset] [(.long p2)]))
  refine go (fun _ kont => XS.iload X1.here hx rfl (hb hby at_11) rfl  kont) ?_
  show G (T1.setTop (mkF m 13 #[.val (.long p1), .second, .val (.long p2), .second, .val (.int p3), .val (.long v8), .second, .unset, .unset, .unset, .unset, .unset, .unset] [(.int p3), (.long p2)]))
  refine go (fun _ kont => XS.iconst X1.here hx rfl (hb hby at_13) kont) ?_
  show G (T1.setTop (mkF m 14 #[.val (.long p1), .second, .val (.long p2), .second, .val (.int p3), .val (.long v8), .second, .unset, .unset, .unset, .unset, .unset, .unset] [(.int (2 : Int32)), (.int p3), (.long p2)]))
  refine go (fun _ kont => XS.ishr X1.here hx rfl (hb hby at_14) rfl kont) ?_
  show G (T1.setTop (mkF m 15 #[.val (.long p1), .second, .val (.long p2), .second, .val (.int p3), .val (.long v8), .second, .unset, .unset, .unset, .unset, .unset, .unset] [(.int (p3 >>> ((2 : Int32) &&& 31))), (.long p2)]))
  refine go (fun _ kont => XS.iconst X1.here hx rfl (hb hby at_15) kont) ?_
  show G (T1.setTop (mkF m 16 #[.val (.long p1), .second, .val (.long p2), .second, .val (.int p3), .val (.long v8), .second, .unset, .unset, .unset, .unset, .unset, .unset] [(.int (3 : Int32)), (.int (p3 >>> ((2 : Int32) &&& 31))), (.long p2)]))
  refine go (fun _ kont => XS.iand X1.here hx rfl (hb hby at_16) rfl kont) ?_
  show G (T1.setTop (mkF m 17 #[.val (.long p1), .second, .val (.long p2), .second, .val (.int p3), .val (.long v8), .second, .unset, .unset, .unset, .unset, .unset, .unset] [(.int ((p3 >>> ((2 : Int32) &&& 31)) &&& (3 : Int32))), (.long p2)]))
  obtain ⟨_, _, ⟨T2, L2, k2, n2⟩, -, X2, ⟨Lc2, hQ2, l2, y2, z2⟩, st2⟩ := Jvm.LawKit.callS X1 hx (y := (⟨"com/example/stockhold/stockhold/stock/CountsSubtractPinLaw", "shape", "(JI)J"⟩ : MethodName)) hown (mvT hZ (hw _ (List.mem_of_getElem? (i := 0) rfl))) (mvT hZ (hw _ (List.mem_of_getElem? (i := 1) rfl))) (mvT hZ (hw _ (List.mem_of_getElem? (i := 2) rfl))) (mvT hZ (hw _ (List.mem_of_getElem? (i := 3) rfl))) (by decide) (backOf (W := 0) (own_rm_shape l Z a0 hw [] p2 ((p3 >>> ((2 : Int32) &&& 31)) &&& (3 : Int32)) h0 n0 Z0) hZ (hw _ (List.mem_of_getElem? (i := 3) rfl)) (hw _ (List.mem_of_getElem? (i := 2) rfl)) (by decide) (by decide)) (g := (mkF m 17 #[.val (.long p1), .second, .val (.long p2), .second, .val (.int p3), .val (.long v8), .second, .unset, .unset, .unset, .unset, .unset, .unset] [(.int ((p3 >>> ((2 : Int32) &&& 31)) &&& (3 : Int32))), (.long p2)])) rfl (by rw [hml]; rfl) (argsL := [(.long p2), (.int ((p3 >>> ((2 : Int32) &&& 31)) &&& (3 : Int32)))]) (rest := []) (lenOf own_pd0 rfl) rfl (by show 2 * 0 + _ ≤ _; exact Nat.le_of_eq rfl) (hb hby at_17) (fun _ _ => ⟨rfl, e1, (by decide : 0 + 0 ≤ _), (by decide : 0 + 0 ≤ _)⟩)
  dsimp only [Pt.U, Pt.locs, Pt.cells, Pt.slots] at X2 l2 y2 z2 st2 hQ2
  subst l2 y2 z2
  obtain ⟨rfl, N2q, e2⟩ := hQ2
  have N2 := Fr.app N1 N2q
  refine go st2 ?_
  show G (T2.setTop (mkF m 20 #[.val (.long p1), .second, .val (.long p2), .second, .val (.int p3), .val (.long v8), .second, .unset, .unset, .unset, .unset, .unset, .unset] [(.long (own_shape p2 ((p3 >>> ((2 : Int32) &&& 31)) &&& (3 : Int32))))]))
  generalize hv20 : (own_shape p2 ((p3 >>> ((2 : Int32) &&& 31)) &&& (3 : Int32))) = v20
  refine go (fun _ kont => XS.lstore X2.here hx rfl (hb hby at_20) rfl (l' := #[.val (.long p1), .second, .val (.long p2), .second, .val (.int p3), .val (.long v8), .second, .val (.long v20), .second, .unset, .unset, .unset, .unset]) rfl kont) ?_
  show G (T2.setTop (mkF m 22 #[.val (.long p1), .second, .val (.long p2), .second, .val (.int p3), .val (.long v8), .second, .val (.long v20), .second, .unset, .unset, .unset, .unset] []))
  refine go (fun _ kont => XS.lload X2.here hx rfl (hb hby at_22) rfl  kont) ?_
  show G (T2.setTop (mkF m 24 #[.val (.long p1), .second, .val (.long p2), .second, .val (.int p3), .val (.long v8), .second, .val (.long v20), .second, .unset, .unset, .unset, .unset] [(.long v8)]))
  refine go (fun _ kont => XS.lload X2.here hx rfl (hb hby at_24) rfl  kont) ?_
  show G (T2.setTop (mkF m 26 #[.val (.long p1), .second, .val (.long p2), .second, .val (.int p3), .val (.long v8), .second, .val (.long v20), .second, .unset, .unset, .unset, .unset] [(.long v20), (.long v8)]))
  obtain ⟨_, _, ⟨T3, L3, k3, n3⟩, -, X3, ⟨Lc3, hQ3, l3, y3, z3⟩, st3⟩ := Jvm.LawKit.callS X2 hx (y := (⟨"com/example/stockhold/stockhold/stock/Counts", "subtract", "(JJ)J"⟩ : MethodName)) hown (mvT hZ (hw _ (List.mem_of_getElem? (i := 4) rfl))) (mvT hZ (hw _ (List.mem_of_getElem? (i := 5) rfl))) (mvT hZ (hw _ (List.mem_of_getElem? (i := 6) rfl))) (mvT hZ (hw _ (List.mem_of_getElem? (i := 7) rfl))) (by decide) (backOf (W := 0) (own_rm_sub l Z a0 hw [] v8 v20 h0 n0 Z0) hZ (hw _ (List.mem_of_getElem? (i := 7) rfl)) (hw _ (List.mem_of_getElem? (i := 6) rfl)) (by decide) (by decide)) (g := (mkF m 26 #[.val (.long p1), .second, .val (.long p2), .second, .val (.int p3), .val (.long v8), .second, .val (.long v20), .second, .unset, .unset, .unset, .unset] [(.long v20), (.long v8)])) rfl (by rw [hml]; rfl) (argsL := [(.long v8), (.long v20)]) (rest := []) (lenOf own_pd1 rfl) rfl (by show 2 * 0 + _ ≤ _; exact Nat.le_of_eq rfl) (hb hby at_26) (fun _ _ => ⟨rfl, e2, (by decide : 0 + 0 ≤ _), (by decide : 0 + 0 ≤ _)⟩)
  dsimp only [Pt.U, Pt.locs, Pt.cells, Pt.slots] at X3 l3 y3 z3 st3 hQ3
  subst l3 y3 z3
  obtain ⟨rfl, N3q, e3⟩ := hQ3
  have N3 := Fr.app N2 N3q
  refine go st3 ?_
  show G (T3.setTop (mkF m 29 #[.val (.long p1), .second, .val (.long p2), .second, .val (.int p3), .val (.long v8), .second, .val (.long v20), .second, .unset, .unset, .unset, .unset] [(.long (own_sub v8 v20))]))
  refine go (fun _ kont => XS.lstore X3.here hx rfl (hb hby at_29) rfl (l' := #[.val (.long p1), .second, .val (.long p2), .second, .val (.int p3), .val (.long v8), .second, .val (.long v20), .second, .val (.long (own_sub v8 v20)), .second, .unset, .unset]) rfl kont) ?_
  show G (T3.setTop (mkF m 31 #[.val (.long p1), .second, .val (.long p2), .second, .val (.int p3), .val (.long v8), .second, .val (.long v20), .second, .val (.long (own_sub v8 v20)), .second, .unset, .unset] []))
  refine go (fun _ kont => XS.lload X3.here hx rfl (hb hby at_31) rfl  kont) ?_
  show G (T3.setTop (mkF m 33 #[.val (.long p1), .second, .val (.long p2), .second, .val (.int p3), .val (.long v8), .second, .val (.long v20), .second, .val (.long (own_sub v8 v20)), .second, .unset, .unset] [(.long v20)]))
  refine go (fun _ kont => XS.lconst X3.here hx rfl (hb hby at_33) kont) ?_
  show G (T3.setTop (mkF m 34 #[.val (.long p1), .second, .val (.long p2), .second, .val (.int p3), .val (.long v8), .second, .val (.long v20), .second, .val (.long (own_sub v8 v20)), .second, .unset, .unset] [(.long (0 : Int64)), (.long v20)]))
  refine go (fun _ kont => XS.lcmp X3.here hx rfl (hb hby at_34) rfl kont) ?_
  show G (T3.setTop (mkF m 35 #[.val (.long p1), .second, .val (.long p2), .second, .val (.int p3), .val (.long v8), .second, .val (.long v20), .second, .val (.long (own_sub v8 v20)), .second, .unset, .unset] [(.int (lcmpW v20 (0 : Int64)))]))
  by_cases hc35 : (0 : Int64) < v20
  · refine go (fun _ kont => XS.ifNo X3.here hx rfl (hb hby at_35) rfl ((if0 _ _).trans (tlt ((lw_gt _ _).mpr hc35)).2.2.2) kont) ?_
    show G (T3.setTop (mkF m 38 #[.val (.long p1), .second, .val (.long p2), .second, .val (.int p3), .val (.long v8), .second, .val (.long v20), .second, .val (.long (own_sub v8 v20)), .second, .unset, .unset] []))
    refine go (fun _ kont => XS.lload X3.here hx rfl (hb hby at_38) rfl  kont) ?_
    show G (T3.setTop (mkF m 40 #[.val (.long p1), .second, .val (.long p2), .second, .val (.int p3), .val (.long v8), .second, .val (.long v20), .second, .val (.long (own_sub v8 v20)), .second, .unset, .unset] [(.long v8)]))
    refine go (fun _ kont => X3.ldc2Long hx hown (mvT hZ (hw _ (List.mem_of_getElem? (i := 8) rfl))) (g := (mkF m 40 #[.val (.long p1), .second, .val (.long p2), .second, .val (.int p3), .val (.long v8), .second, .val (.long v20), .second, .val (.long (own_sub v8 v20)), .second, .unset, .unset] [(.long v8)])) rfl (hb hby at_40) _ kont) ?_
    show G (T3.setTop (mkF m 43 #[.val (.long p1), .second, .val (.long p2), .second, .val (.int p3), .val (.long v8), .second, .val (.long v20), .second, .val (.long (own_sub v8 v20)), .second, .unset, .unset] [(.long (-9223372036854775808 : Int64)), (.long v8)]))
    refine go (fun _ kont => XS.lload X3.here hx rfl (hb hby at_43) rfl  kont) ?_
    show G (T3.setTop (mkF m 45 #[.val (.long p1), .second, .val (.long p2), .second, .val (.int p3), .val (.long v8), .second, .val (.long v20), .second, .val (.long (own_sub v8 v20)), .second, .unset, .unset] [(.long v20), (.long (-9223372036854775808 : Int64)), (.long v8)]))
    refine go (fun _ kont => XS.ladd X3.here hx rfl (hb hby at_45) rfl kont) ?_
    show G (T3.setTop (mkF m 46 #[.val (.long p1), .second, .val (.long p2), .second, .val (.int p3), .val (.long v8), .second, .val (.long v20), .second, .val (.long (own_sub v8 v20)), .second, .unset, .unset] [(.long ((-9223372036854775808 : Int64) + v20)), (.long v8)]))
    refine go (fun _ kont => XS.lcmp X3.here hx rfl (hb hby at_46) rfl kont) ?_
    show G (T3.setTop (mkF m 47 #[.val (.long p1), .second, .val (.long p2), .second, .val (.int p3), .val (.long v8), .second, .val (.long v20), .second, .val (.long (own_sub v8 v20)), .second, .unset, .unset] [(.int (lcmpW v8 ((-9223372036854775808 : Int64) + v20)))]))
    by_cases hc47 : v8 < ((-9223372036854775808 : Int64) + v20)
    · refine go (fun _ kont => XS.ifNo X3.here hx rfl (hb hby at_47) rfl ((if0 _ _).trans (tlt ((lw_lt _ _).mpr hc47)).2.1) kont) ?_
      show G (T3.setTop (mkF m 50 #[.val (.long p1), .second, .val (.long p2), .second, .val (.int p3), .val (.long v8), .second, .val (.long v20), .second, .val (.long (own_sub v8 v20)), .second, .unset, .unset] []))
      refine go (fun _ kont => X3.ldc2Long hx hown (mvT hZ (hw _ (List.mem_of_getElem? (i := 8) rfl))) (g := (mkF m 50 #[.val (.long p1), .second, .val (.long p2), .second, .val (.int p3), .val (.long v8), .second, .val (.long v20), .second, .val (.long (own_sub v8 v20)), .second, .unset, .unset] [])) rfl (hb hby at_50) _ kont) ?_
      show G (T3.setTop (mkF m 53 #[.val (.long p1), .second, .val (.long p2), .second, .val (.int p3), .val (.long v8), .second, .val (.long v20), .second, .val (.long (own_sub v8 v20)), .second, .unset, .unset] [(.long (-9223372036854775808 : Int64))]))
      refine go (fun _ kont => XS.lstore X3.here hx rfl (hb hby at_53) rfl (l' := #[.val (.long p1), .second, .val (.long p2), .second, .val (.int p3), .val (.long v8), .second, .val (.long v20), .second, .val (.long (own_sub v8 v20)), .second, .val (.long (-9223372036854775808 : Int64)), .second]) rfl kont) ?_
      show G (T3.setTop (mkF m 55 #[.val (.long p1), .second, .val (.long p2), .second, .val (.int p3), .val (.long v8), .second, .val (.long v20), .second, .val (.long (own_sub v8 v20)), .second, .val (.long (-9223372036854775808 : Int64)), .second] []))
      refine go (fun _ kont => XS.goto X3.here hx rfl (pc0 := 55) (pc' := 92) rfl (hb hby at_55) (by decide) (by decide) kont) ?_
      show G (T3.setTop (mkF m 92 #[.val (.long p1), .second, .val (.long p2), .second, .val (.int p3), .val (.long v8), .second, .val (.long v20), .second, .val (.long (own_sub v8 v20)), .second, .val (.long (-9223372036854775808 : Int64)), .second] []))
      refine go (fun _ kont => XS.lload X3.here hx rfl (hb hby at_92) rfl  kont) ?_
      show G (T3.setTop (mkF m 94 #[.val (.long p1), .second, .val (.long p2), .second, .val (.int p3), .val (.long v8), .second, .val (.long v20), .second, .val (.long (own_sub v8 v20)), .second, .val (.long (-9223372036854775808 : Int64)), .second] [(.long (own_sub v8 v20))]))
      refine go (fun _ kont => XS.lload X3.here hx rfl (hb hby at_94) rfl  kont) ?_
      show G (T3.setTop (mkF m 96 #[.val (.long p1), .second, .val (.long p2), .second, .val (.int p3), .val (.long v8), .second, .val (.long v20), .second, .val (.long (own_sub v8 v20)), .second, .val (.long (-9223372036854775808 : Int64)), .second] [(.long (-9223372036854775808 : Int64)), (.long (own_sub v8 v20))]))
      refine go (fun _ kont => XS.lcmp X3.here hx rfl (hb hby at_96) rfl kont) ?_
      show G (T3.setTop (mkF m 97 #[.val (.long p1), .second, .val (.long p2), .second, .val (.int p3), .val (.long v8), .second, .val (.long v20), .second, .val (.long (own_sub v8 v20)), .second, .val (.long (-9223372036854775808 : Int64)), .second] [(.int (lcmpW (own_sub v8 v20) (-9223372036854775808 : Int64)))]))
      have hfin : (own_sub v8 v20) = (-9223372036854775808 : Int64) := by rw [own_sub_eq]; simp [*]
      refine go (fun _ kont => XS.ifNo X3.here hx rfl (hb hby at_97) rfl ((if0 _ _).trans (teq ((lw_eq _ _).mpr hfin)).2) kont) ?_
      show G (T3.setTop (mkF m 100 #[.val (.long p1), .second, .val (.long p2), .second, .val (.int p3), .val (.long v8), .second, .val (.long v20), .second, .val (.long (own_sub v8 v20)), .second, .val (.long (-9223372036854775808 : Int64)), .second] []))
      refine go (fun _ kont => XS.iconst X3.here hx rfl (hb hby at_100) kont) ?_
      show G (T3.setTop (mkF m 101 #[.val (.long p1), .second, .val (.long p2), .second, .val (.int p3), .val (.long v8), .second, .val (.long v20), .second, .val (.long (own_sub v8 v20)), .second, .val (.long (-9223372036854775808 : Int64)), .second] [(.int (1 : Int32))]))
      refine go (fun _ kont => XS.goto X3.here hx rfl (pc0 := 101) (pc' := 105) rfl (hb hby at_101) (by decide) (by decide) kont) ?_
      show G (T3.setTop (mkF m 105 #[.val (.long p1), .second, .val (.long p2), .second, .val (.int p3), .val (.long v8), .second, .val (.long v20), .second, .val (.long (own_sub v8 v20)), .second, .val (.long (-9223372036854775808 : Int64)), .second] [(.int (1 : Int32))]))
      rw [hG]
      exact own_retN X3 hx (t := .boolean) Bd.returns (by simp) (hb hby at_105) hlk (by decide) (by decide) ⟨rfl, N3⟩
    · refine go (fun _ kont => XS.ifYes X3.here hx rfl (pc0 := 47) (pc' := 58) rfl (hb hby at_47) rfl ((if0 _ _).trans (flt (mt (lw_lt _ _).mp hc47)).2.1) (by decide) (by decide) kont) ?_
      show G (T3.setTop (mkF m 58 #[.val (.long p1), .second, .val (.long p2), .second, .val (.int p3), .val (.long v8), .second, .val (.long v20), .second, .val (.long (own_sub v8 v20)), .second, .unset, .unset] []))
      refine go (fun _ kont => XS.lload X3.here hx rfl (hb hby at_58) rfl  kont) ?_
      show G (T3.setTop (mkF m 60 #[.val (.long p1), .second, .val (.long p2), .second, .val (.int p3), .val (.long v8), .second, .val (.long v20), .second, .val (.long (own_sub v8 v20)), .second, .unset, .unset] [(.long v20)]))
      refine go (fun _ kont => XS.lconst X3.here hx rfl (hb hby at_60) kont) ?_
      show G (T3.setTop (mkF m 61 #[.val (.long p1), .second, .val (.long p2), .second, .val (.int p3), .val (.long v8), .second, .val (.long v20), .second, .val (.long (own_sub v8 v20)), .second, .unset, .unset] [(.long (0 : Int64)), (.long v20)]))
      refine go (fun _ kont => XS.lcmp X3.here hx rfl (hb hby at_61) rfl kont) ?_
      show G (T3.setTop (mkF m 62 #[.val (.long p1), .second, .val (.long p2), .second, .val (.int p3), .val (.long v8), .second, .val (.long v20), .second, .val (.long (own_sub v8 v20)), .second, .unset, .unset] [(.int (lcmpW v20 (0 : Int64)))]))
      by_cases hc62 : v20 < (0 : Int64)
      · refine go (fun _ kont => XS.ifNo X3.here hx rfl (hb hby at_62) rfl ((if0 _ _).trans (tlt ((lw_lt _ _).mpr hc62)).2.1) kont) ?_
        show G (T3.setTop (mkF m 65 #[.val (.long p1), .second, .val (.long p2), .second, .val (.int p3), .val (.long v8), .second, .val (.long v20), .second, .val (.long (own_sub v8 v20)), .second, .unset, .unset] []))
        refine go (fun _ kont => XS.lload X3.here hx rfl (hb hby at_65) rfl  kont) ?_
        show G (T3.setTop (mkF m 67 #[.val (.long p1), .second, .val (.long p2), .second, .val (.int p3), .val (.long v8), .second, .val (.long v20), .second, .val (.long (own_sub v8 v20)), .second, .unset, .unset] [(.long v8)]))
        refine go (fun _ kont => X3.ldc2Long hx hown (mvT hZ (hw _ (List.mem_of_getElem? (i := 9) rfl))) (g := (mkF m 67 #[.val (.long p1), .second, .val (.long p2), .second, .val (.int p3), .val (.long v8), .second, .val (.long v20), .second, .val (.long (own_sub v8 v20)), .second, .unset, .unset] [(.long v8)])) rfl (hb hby at_67) _ kont) ?_
        show G (T3.setTop (mkF m 70 #[.val (.long p1), .second, .val (.long p2), .second, .val (.int p3), .val (.long v8), .second, .val (.long v20), .second, .val (.long (own_sub v8 v20)), .second, .unset, .unset] [(.long (9223372036854775807 : Int64)), (.long v8)]))
        refine go (fun _ kont => XS.lload X3.here hx rfl (hb hby at_70) rfl  kont) ?_
        show G (T3.setTop (mkF m 72 #[.val (.long p1), .second, .val (.long p2), .second, .val (.int p3), .val (.long v8), .second, .val (.long v20), .second, .val (.long (own_sub v8 v20)), .second, .unset, .unset] [(.long v20), (.long (9223372036854775807 : Int64)), (.long v8)]))
        refine go (fun _ kont => XS.ladd X3.here hx rfl (hb hby at_72) rfl kont) ?_
        show G (T3.setTop (mkF m 73 #[.val (.long p1), .second, .val (.long p2), .second, .val (.int p3), .val (.long v8), .second, .val (.long v20), .second, .val (.long (own_sub v8 v20)), .second, .unset, .unset] [(.long ((9223372036854775807 : Int64) + v20)), (.long v8)]))
        refine go (fun _ kont => XS.lcmp X3.here hx rfl (hb hby at_73) rfl kont) ?_
        show G (T3.setTop (mkF m 74 #[.val (.long p1), .second, .val (.long p2), .second, .val (.int p3), .val (.long v8), .second, .val (.long v20), .second, .val (.long (own_sub v8 v20)), .second, .unset, .unset] [(.int (lcmpW v8 ((9223372036854775807 : Int64) + v20)))]))
        by_cases hc74 : ((9223372036854775807 : Int64) + v20) < v8
        · refine go (fun _ kont => XS.ifNo X3.here hx rfl (hb hby at_74) rfl ((if0 _ _).trans (tlt ((lw_gt _ _).mpr hc74)).2.2.2) kont) ?_
          show G (T3.setTop (mkF m 77 #[.val (.long p1), .second, .val (.long p2), .second, .val (.int p3), .val (.long v8), .second, .val (.long v20), .second, .val (.long (own_sub v8 v20)), .second, .unset, .unset] []))
          refine go (fun _ kont => X3.ldc2Long hx hown (mvT hZ (hw _ (List.mem_of_getElem? (i := 9) rfl))) (g := (mkF m 77 #[.val (.long p1), .second, .val (.long p2), .second, .val (.int p3), .val (.long v8), .second, .val (.long v20), .second, .val (.long (own_sub v8 v20)), .second, .unset, .unset] [])) rfl (hb hby at_77) _ kont) ?_
          show G (T3.setTop (mkF m 80 #[.val (.long p1), .second, .val (.long p2), .second, .val (.int p3), .val (.long v8), .second, .val (.long v20), .second, .val (.long (own_sub v8 v20)), .second, .unset, .unset] [(.long (9223372036854775807 : Int64))]))
          refine go (fun _ kont => XS.lstore X3.here hx rfl (hb hby at_80) rfl (l' := #[.val (.long p1), .second, .val (.long p2), .second, .val (.int p3), .val (.long v8), .second, .val (.long v20), .second, .val (.long (own_sub v8 v20)), .second, .val (.long (9223372036854775807 : Int64)), .second]) rfl kont) ?_
          show G (T3.setTop (mkF m 82 #[.val (.long p1), .second, .val (.long p2), .second, .val (.int p3), .val (.long v8), .second, .val (.long v20), .second, .val (.long (own_sub v8 v20)), .second, .val (.long (9223372036854775807 : Int64)), .second] []))
          refine go (fun _ kont => XS.goto X3.here hx rfl (pc0 := 82) (pc' := 92) rfl (hb hby at_82) (by decide) (by decide) kont) ?_
          show G (T3.setTop (mkF m 92 #[.val (.long p1), .second, .val (.long p2), .second, .val (.int p3), .val (.long v8), .second, .val (.long v20), .second, .val (.long (own_sub v8 v20)), .second, .val (.long (9223372036854775807 : Int64)), .second] []))
          refine go (fun _ kont => XS.lload X3.here hx rfl (hb hby at_92) rfl  kont) ?_
          show G (T3.setTop (mkF m 94 #[.val (.long p1), .second, .val (.long p2), .second, .val (.int p3), .val (.long v8), .second, .val (.long v20), .second, .val (.long (own_sub v8 v20)), .second, .val (.long (9223372036854775807 : Int64)), .second] [(.long (own_sub v8 v20))]))
          refine go (fun _ kont => XS.lload X3.here hx rfl (hb hby at_94) rfl  kont) ?_
          show G (T3.setTop (mkF m 96 #[.val (.long p1), .second, .val (.long p2), .second, .val (.int p3), .val (.long v8), .second, .val (.long v20), .second, .val (.long (own_sub v8 v20)), .second, .val (.long (9223372036854775807 : Int64)), .second] [(.long (9223372036854775807 : Int64)), (.long (own_sub v8 v20))]))
          refine go (fun _ kont => XS.lcmp X3.here hx rfl (hb hby at_96) rfl kont) ?_
          show G (T3.setTop (mkF m 97 #[.val (.long p1), .second, .val (.long p2), .second, .val (.int p3), .val (.long v8), .second, .val (.long v20), .second, .val (.long (own_sub v8 v20)), .second, .val (.long (9223372036854775807 : Int64)), .second] [(.int (lcmpW (own_sub v8 v20) (9223372036854775807 : Int64)))]))
          have hfin : (own_sub v8 v20) = (9223372036854775807 : Int64) := by rw [own_sub_eq]; simp [*]
          refine go (fun _ kont => XS.ifNo X3.here hx rfl (hb hby at_97) rfl ((if0 _ _).trans (teq ((lw_eq _ _).mpr hfin)).2) kont) ?_
          show G (T3.setTop (mkF m 100 #[.val (.long p1), .second, .val (.long p2), .second, .val (.int p3), .val (.long v8), .second, .val (.long v20), .second, .val (.long (own_sub v8 v20)), .second, .val (.long (9223372036854775807 : Int64)), .second] []))
          refine go (fun _ kont => XS.iconst X3.here hx rfl (hb hby at_100) kont) ?_
          show G (T3.setTop (mkF m 101 #[.val (.long p1), .second, .val (.long p2), .second, .val (.int p3), .val (.long v8), .second, .val (.long v20), .second, .val (.long (own_sub v8 v20)), .second, .val (.long (9223372036854775807 : Int64)), .second] [(.int (1 : Int32))]))
          refine go (fun _ kont => XS.goto X3.here hx rfl (pc0 := 101) (pc' := 105) rfl (hb hby at_101) (by decide) (by decide) kont) ?_
          show G (T3.setTop (mkF m 105 #[.val (.long p1), .second, .val (.long p2), .second, .val (.int p3), .val (.long v8), .second, .val (.long v20), .second, .val (.long (own_sub v8 v20)), .second, .val (.long (9223372036854775807 : Int64)), .second] [(.int (1 : Int32))]))
          rw [hG]
          exact own_retN X3 hx (t := .boolean) Bd.returns (by simp) (hb hby at_105) hlk (by decide) (by decide) ⟨rfl, N3⟩
        · refine go (fun _ kont => XS.ifYes X3.here hx rfl (pc0 := 74) (pc' := 85) rfl (hb hby at_74) rfl ((if0 _ _).trans (flt (mt (lw_gt _ _).mp hc74)).2.2.2) (by decide) (by decide) kont) ?_
          show G (T3.setTop (mkF m 85 #[.val (.long p1), .second, .val (.long p2), .second, .val (.int p3), .val (.long v8), .second, .val (.long v20), .second, .val (.long (own_sub v8 v20)), .second, .unset, .unset] []))
          refine go (fun _ kont => XS.lload X3.here hx rfl (hb hby at_85) rfl  kont) ?_
          show G (T3.setTop (mkF m 87 #[.val (.long p1), .second, .val (.long p2), .second, .val (.int p3), .val (.long v8), .second, .val (.long v20), .second, .val (.long (own_sub v8 v20)), .second, .unset, .unset] [(.long v8)]))
          refine go (fun _ kont => XS.lload X3.here hx rfl (hb hby at_87) rfl  kont) ?_
          show G (T3.setTop (mkF m 89 #[.val (.long p1), .second, .val (.long p2), .second, .val (.int p3), .val (.long v8), .second, .val (.long v20), .second, .val (.long (own_sub v8 v20)), .second, .unset, .unset] [(.long v20), (.long v8)]))
          refine go (fun _ kont => XS.lsub X3.here hx rfl (hb hby at_89) rfl kont) ?_
          show G (T3.setTop (mkF m 90 #[.val (.long p1), .second, .val (.long p2), .second, .val (.int p3), .val (.long v8), .second, .val (.long v20), .second, .val (.long (own_sub v8 v20)), .second, .unset, .unset] [(.long (v8 - v20))]))
          refine go (fun _ kont => XS.lstore X3.here hx rfl (hb hby at_90) rfl (l' := #[.val (.long p1), .second, .val (.long p2), .second, .val (.int p3), .val (.long v8), .second, .val (.long v20), .second, .val (.long (own_sub v8 v20)), .second, .val (.long (v8 - v20)), .second]) rfl kont) ?_
          show G (T3.setTop (mkF m 92 #[.val (.long p1), .second, .val (.long p2), .second, .val (.int p3), .val (.long v8), .second, .val (.long v20), .second, .val (.long (own_sub v8 v20)), .second, .val (.long (v8 - v20)), .second] []))
          refine go (fun _ kont => XS.lload X3.here hx rfl (hb hby at_92) rfl  kont) ?_
          show G (T3.setTop (mkF m 94 #[.val (.long p1), .second, .val (.long p2), .second, .val (.int p3), .val (.long v8), .second, .val (.long v20), .second, .val (.long (own_sub v8 v20)), .second, .val (.long (v8 - v20)), .second] [(.long (own_sub v8 v20))]))
          refine go (fun _ kont => XS.lload X3.here hx rfl (hb hby at_94) rfl  kont) ?_
          show G (T3.setTop (mkF m 96 #[.val (.long p1), .second, .val (.long p2), .second, .val (.int p3), .val (.long v8), .second, .val (.long v20), .second, .val (.long (own_sub v8 v20)), .second, .val (.long (v8 - v20)), .second] [(.long (v8 - v20)), (.long (own_sub v8 v20))]))
          refine go (fun _ kont => XS.lcmp X3.here hx rfl (hb hby at_96) rfl kont) ?_
          show G (T3.setTop (mkF m 97 #[.val (.long p1), .second, .val (.long p2), .second, .val (.int p3), .val (.long v8), .second, .val (.long v20), .second, .val (.long (own_sub v8 v20)), .second, .val (.long (v8 - v20)), .second] [(.int (lcmpW (own_sub v8 v20) (v8 - v20)))]))
          have hfin : (own_sub v8 v20) = (v8 - v20) := by rw [own_sub_eq]; simp [*]
          refine go (fun _ kont => XS.ifNo X3.here hx rfl (hb hby at_97) rfl ((if0 _ _).trans (teq ((lw_eq _ _).mpr hfin)).2) kont) ?_
          show G (T3.setTop (mkF m 100 #[.val (.long p1), .second, .val (.long p2), .second, .val (.int p3), .val (.long v8), .second, .val (.long v20), .second, .val (.long (own_sub v8 v20)), .second, .val (.long (v8 - v20)), .second] []))
          refine go (fun _ kont => XS.iconst X3.here hx rfl (hb hby at_100) kont) ?_
          show G (T3.setTop (mkF m 101 #[.val (.long p1), .second, .val (.long p2), .second, .val (.int p3), .val (.long v8), .second, .val (.long v20), .second, .val (.long (own_sub v8 v20)), .second, .val (.long (v8 - v20)), .second] [(.int (1 : Int32))]))
          refine go (fun _ kont => XS.goto X3.here hx rfl (pc0 := 101) (pc' := 105) rfl (hb hby at_101) (by decide) (by decide) kont) ?_
          show G (T3.setTop (mkF m 105 #[.val (.long p1), .second, .val (.long p2), .second, .val (.int p3), .val (.long v8), .second, .val (.long v20), .second, .val (.long (own_sub v8 v20)), .second, .val (.long (v8 - v20)), .second] [(.int (1 : Int32))]))
          rw [hG]
          exact own_retN X3 hx (t := .boolean) Bd.returns (by simp) (hb hby at_105) hlk (by decide) (by decide) ⟨rfl, N3⟩
      · refine go (fun _ kont => XS.ifYes X3.here hx rfl (pc0 := 62) (pc' := 85) rfl (hb hby at_62) rfl ((if0 _ _).trans (flt (mt (lw_lt _ _).mp hc62)).2.1) (by decide) (by decide) kont) ?_
        show G (T3.setTop (mkF m 85 #[.val (.long p1), .second, .val (.long p2), .second, .val (.int p3), .val (.long v8), .second, .val (.long v20), .second, .val (.long (own_sub v8 v20)), .second, .unset, .unset] []))
        refine go (fun _ kont => XS.lload X3.here hx rfl (hb hby at_85) rfl  kont) ?_
        show G (T3.setTop (mkF m 87 #[.val (.long p1), .second, .val (.long p2), .second, .val (.int p3), .val (.long v8), .second, .val (.long v20), .second, .val (.long (own_sub v8 v20)), .second, .unset, .unset] [(.long v8)]))
        refine go (fun _ kont => XS.lload X3.here hx rfl (hb hby at_87) rfl  kont) ?_
        show G (T3.setTop (mkF m 89 #[.val (.long p1), .second, .val (.long p2), .second, .val (.int p3), .val (.long v8), .second, .val (.long v20), .second, .val (.long (own_sub v8 v20)), .second, .unset, .unset] [(.long v20), (.long v8)]))
        refine go (fun _ kont => XS.lsub X3.here hx rfl (hb hby at_89) rfl kont) ?_
        show G (T3.setTop (mkF m 90 #[.val (.long p1), .second, .val (.long p2), .second, .val (.int p3), .val (.long v8), .second, .val (.long v20), .second, .val (.long (own_sub v8 v20)), .second, .unset, .unset] [(.long (v8 - v20))]))
        refine go (fun _ kont => XS.lstore X3.here hx rfl (hb hby at_90) rfl (l' := #[.val (.long p1), .second, .val (.long p2), .second, .val (.int p3), .val (.long v8), .second, .val (.long v20), .second, .val (.long (own_sub v8 v20)), .second, .val (.long (v8 - v20)), .second]) rfl kont) ?_
        show G (T3.setTop (mkF m 92 #[.val (.long p1), .second, .val (.long p2), .second, .val (.int p3), .val (.long v8), .second, .val (.long v20), .second, .val (.long (own_sub v8 v20)), .second, .val (.long (v8 - v20)), .second] []))
        refine go (fun _ kont => XS.lload X3.here hx rfl (hb hby at_92) rfl  kont) ?_
        show G (T3.setTop (mkF m 94 #[.val (.long p1), .second, .val (.long p2), .second, .val (.int p3), .val (.long v8), .second, .val (.long v20), .second, .val (.long (own_sub v8 v20)), .second, .val (.long (v8 - v20)), .second] [(.long (own_sub v8 v20))]))
        refine go (fun _ kont => XS.lload X3.here hx rfl (hb hby at_94) rfl  kont) ?_
        show G (T3.setTop (mkF m 96 #[.val (.long p1), .second, .val (.long p2), .second, .val (.int p3), .val (.long v8), .second, .val (.long v20), .second, .val (.long (own_sub v8 v20)), .second, .val (.long (v8 - v20)), .second] [(.long (v8 - v20)), (.long (own_sub v8 v20))]))
        refine go (fun _ kont => XS.lcmp X3.here hx rfl (hb hby at_96) rfl kont) ?_
        show G (T3.setTop (mkF m 97 #[.val (.long p1), .second, .val (.long p2), .second, .val (.int p3), .val (.long v8), .second, .val (.long v20), .second, .val (.long (own_sub v8 v20)), .second, .val (.long (v8 - v20)), .second] [(.int (lcmpW (own_sub v8 v20) (v8 - v20)))]))
        have hfin : (own_sub v8 v20) = (v8 - v20) := by rw [own_sub_eq]; simp [*]
        refine go (fun _ kont => XS.ifNo X3.here hx rfl (hb hby at_97) rfl ((if0 _ _).trans (teq ((lw_eq _ _).mpr hfin)).2) kont) ?_
        show G (T3.setTop (mkF m 100 #[.val (.long p1), .second, .val (.long p2), .second, .val (.int p3), .val (.long v8), .second, .val (.long v20), .second, .val (.long (own_sub v8 v20)), .second, .val (.long (v8 - v20)), .second] []))
        refine go (fun _ kont => XS.iconst X3.here hx rfl (hb hby at_100) kont) ?_
        show G (T3.setTop (mkF m 101 #[.val (.long p1), .second, .val (.long p2), .second, .val (.int p3), .val (.long v8), .second, .val (.long v20), .second, .val (.long (own_sub v8 v20)), .second, .val (.long (v8 - v20)), .second] [(.int (1 : Int32))]))
        refine go (fun _ kont => XS.goto X3.here hx rfl (pc0 := 101) (pc' := 105) rfl (hb hby at_101) (by decide) (by decide) kont) ?_
        show G (T3.setTop (mkF m 105 #[.val (.long p1), .second, .val (.long p2), .second, .val (.int p3), .val (.long v8), .second, .val (.long v20), .second, .val (.long (own_sub v8 v20)), .second, .val (.long (v8 - v20)), .second] [(.int (1 : Int32))]))
        rw [hG]
        exact own_retN X3 hx (t := .boolean) Bd.returns (by simp) (hb hby at_105) hlk (by decide) (by decide) ⟨rfl, N3⟩
  · refine go (fun _ kont => XS.ifYes X3.here hx rfl (pc0 := 35) (pc' := 58) rfl (hb hby at_35) rfl ((if0 _ _).trans (flt (mt (lw_gt _ _).mp hc35)).2.2.2) (by decide) (by decide) kont) ?_
    show G (T3.setTop (mkF m 58 #[.val (.long p1), .second, .val (.long p2), .second, .val (.int p3), .val (.long v8), .second, .val (.long v20), .second, .val (.long (own_sub v8 v20)), .second, .unset, .unset] []))
    refine go (fun _ kont => XS.lload X3.here hx rfl (hb hby at_58) rfl  kont) ?_
    show G (T3.setTop (mkF m 60 #[.val (.long p1), .second, .val (.long p2), .second, .val (.int p3), .val (.long v8), .second, .val (.long v20), .second, .val (.long (own_sub v8 v20)), .second, .unset, .unset] [(.long v20)]))
    refine go (fun _ kont => XS.lconst X3.here hx rfl (hb hby at_60) kont) ?_
    show G (T3.setTop (mkF m 61 #[.val (.long p1), .second, .val (.long p2), .second, .val (.int p3), .val (.long v8), .second, .val (.long v20), .second, .val (.long (own_sub v8 v20)), .second, .unset, .unset] [(.long (0 : Int64)), (.long v20)]))
    refine go (fun _ kont => XS.lcmp X3.here hx rfl (hb hby at_61) rfl kont) ?_
    show G (T3.setTop (mkF m 62 #[.val (.long p1), .second, .val (.long p2), .second, .val (.int p3), .val (.long v8), .second, .val (.long v20), .second, .val (.long (own_sub v8 v20)), .second, .unset, .unset] [(.int (lcmpW v20 (0 : Int64)))]))
    by_cases hc62 : v20 < (0 : Int64)
    · refine go (fun _ kont => XS.ifNo X3.here hx rfl (hb hby at_62) rfl ((if0 _ _).trans (tlt ((lw_lt _ _).mpr hc62)).2.1) kont) ?_
      show G (T3.setTop (mkF m 65 #[.val (.long p1), .second, .val (.long p2), .second, .val (.int p3), .val (.long v8), .second, .val (.long v20), .second, .val (.long (own_sub v8 v20)), .second, .unset, .unset] []))
      refine go (fun _ kont => XS.lload X3.here hx rfl (hb hby at_65) rfl  kont) ?_
      show G (T3.setTop (mkF m 67 #[.val (.long p1), .second, .val (.long p2), .second, .val (.int p3), .val (.long v8), .second, .val (.long v20), .second, .val (.long (own_sub v8 v20)), .second, .unset, .unset] [(.long v8)]))
      refine go (fun _ kont => X3.ldc2Long hx hown (mvT hZ (hw _ (List.mem_of_getElem? (i := 9) rfl))) (g := (mkF m 67 #[.val (.long p1), .second, .val (.long p2), .second, .val (.int p3), .val (.long v8), .second, .val (.long v20), .second, .val (.long (own_sub v8 v20)), .second, .unset, .unset] [(.long v8)])) rfl (hb hby at_67) _ kont) ?_
      show G (T3.setTop (mkF m 70 #[.val (.long p1), .second, .val (.long p2), .second, .val (.int p3), .val (.long v8), .second, .val (.long v20), .second, .val (.long (own_sub v8 v20)), .second, .unset, .unset] [(.long (9223372036854775807 : Int64)), (.long v8)]))
      refine go (fun _ kont => XS.lload X3.here hx rfl (hb hby at_70) rfl  kont) ?_
      show G (T3.setTop (mkF m 72 #[.val (.long p1), .second, .val (.long p2), .second, .val (.int p3), .val (.long v8), .second, .val (.long v20), .second, .val (.long (own_sub v8 v20)), .second, .unset, .unset] [(.long v20), (.long (9223372036854775807 : Int64)), (.long v8)]))
      refine go (fun _ kont => XS.ladd X3.here hx rfl (hb hby at_72) rfl kont) ?_
      show G (T3.setTop (mkF m 73 #[.val (.long p1), .second, .val (.long p2), .second, .val (.int p3), .val (.long v8), .second, .val (.long v20), .second, .val (.long (own_sub v8 v20)), .second, .unset, .unset] [(.long ((9223372036854775807 : Int64) + v20)), (.long v8)]))
      refine go (fun _ kont => XS.lcmp X3.here hx rfl (hb hby at_73) rfl kont) ?_
      show G (T3.setTop (mkF m 74 #[.val (.long p1), .second, .val (.long p2), .second, .val (.int p3), .val (.long v8), .second, .val (.long v20), .second, .val (.long (own_sub v8 v20)), .second, .unset, .unset] [(.int (lcmpW v8 ((9223372036854775807 : Int64) + v20)))]))
      by_cases hc74 : ((9223372036854775807 : Int64) + v20) < v8
      · refine go (fun _ kont => XS.ifNo X3.here hx rfl (hb hby at_74) rfl ((if0 _ _).trans (tlt ((lw_gt _ _).mpr hc74)).2.2.2) kont) ?_
        show G (T3.setTop (mkF m 77 #[.val (.long p1), .second, .val (.long p2), .second, .val (.int p3), .val (.long v8), .second, .val (.long v20), .second, .val (.long (own_sub v8 v20)), .second, .unset, .unset] []))
        refine go (fun _ kont => X3.ldc2Long hx hown (mvT hZ (hw _ (List.mem_of_getElem? (i := 9) rfl))) (g := (mkF m 77 #[.val (.long p1), .second, .val (.long p2), .second, .val (.int p3), .val (.long v8), .second, .val (.long v20), .second, .val (.long (own_sub v8 v20)), .second, .unset, .unset] [])) rfl (hb hby at_77) _ kont) ?_
        show G (T3.setTop (mkF m 80 #[.val (.long p1), .second, .val (.long p2), .second, .val (.int p3), .val (.long v8), .second, .val (.long v20), .second, .val (.long (own_sub v8 v20)), .second, .unset, .unset] [(.long (9223372036854775807 : Int64))]))
        refine go (fun _ kont => XS.lstore X3.here hx rfl (hb hby at_80) rfl (l' := #[.val (.long p1), .second, .val (.long p2), .second, .val (.int p3), .val (.long v8), .second, .val (.long v20), .second, .val (.long (own_sub v8 v20)), .second, .val (.long (9223372036854775807 : Int64)), .second]) rfl kont) ?_
        show G (T3.setTop (mkF m 82 #[.val (.long p1), .second, .val (.long p2), .second, .val (.int p3), .val (.long v8), .second, .val (.long v20), .second, .val (.long (own_sub v8 v20)), .second, .val (.long (9223372036854775807 : Int64)), .second] []))
        refine go (fun _ kont => XS.goto X3.here hx rfl (pc0 := 82) (pc' := 92) rfl (hb hby at_82) (by decide) (by decide) kont) ?_
        show G (T3.setTop (mkF m 92 #[.val (.long p1), .second, .val (.long p2), .second, .val (.int p3), .val (.long v8), .second, .val (.long v20), .second, .val (.long (own_sub v8 v20)), .second, .val (.long (9223372036854775807 : Int64)), .second] []))
        refine go (fun _ kont => XS.lload X3.here hx rfl (hb hby at_92) rfl  kont) ?_
        show G (T3.setTop (mkF m 94 #[.val (.long p1), .second, .val (.long p2), .second, .val (.int p3), .val (.long v8), .second, .val (.long v20), .second, .val (.long (own_sub v8 v20)), .second, .val (.long (9223372036854775807 : Int64)), .second] [(.long (own_sub v8 v20))]))
        refine go (fun _ kont => XS.lload X3.here hx rfl (hb hby at_94) rfl  kont) ?_
        show G (T3.setTop (mkF m 96 #[.val (.long p1), .second, .val (.long p2), .second, .val (.int p3), .val (.long v8), .second, .val (.long v20), .second, .val (.long (own_sub v8 v20)), .second, .val (.long (9223372036854775807 : Int64)), .second] [(.long (9223372036854775807 : Int64)), (.long (own_sub v8 v20))]))
        refine go (fun _ kont => XS.lcmp X3.here hx rfl (hb hby at_96) rfl kont) ?_
        show G (T3.setTop (mkF m 97 #[.val (.long p1), .second, .val (.long p2), .second, .val (.int p3), .val (.long v8), .second, .val (.long v20), .second, .val (.long (own_sub v8 v20)), .second, .val (.long (9223372036854775807 : Int64)), .second] [(.int (lcmpW (own_sub v8 v20) (9223372036854775807 : Int64)))]))
        have hfin : (own_sub v8 v20) = (9223372036854775807 : Int64) := by rw [own_sub_eq]; simp [*]
        refine go (fun _ kont => XS.ifNo X3.here hx rfl (hb hby at_97) rfl ((if0 _ _).trans (teq ((lw_eq _ _).mpr hfin)).2) kont) ?_
        show G (T3.setTop (mkF m 100 #[.val (.long p1), .second, .val (.long p2), .second, .val (.int p3), .val (.long v8), .second, .val (.long v20), .second, .val (.long (own_sub v8 v20)), .second, .val (.long (9223372036854775807 : Int64)), .second] []))
        refine go (fun _ kont => XS.iconst X3.here hx rfl (hb hby at_100) kont) ?_
        show G (T3.setTop (mkF m 101 #[.val (.long p1), .second, .val (.long p2), .second, .val (.int p3), .val (.long v8), .second, .val (.long v20), .second, .val (.long (own_sub v8 v20)), .second, .val (.long (9223372036854775807 : Int64)), .second] [(.int (1 : Int32))]))
        refine go (fun _ kont => XS.goto X3.here hx rfl (pc0 := 101) (pc' := 105) rfl (hb hby at_101) (by decide) (by decide) kont) ?_
        show G (T3.setTop (mkF m 105 #[.val (.long p1), .second, .val (.long p2), .second, .val (.int p3), .val (.long v8), .second, .val (.long v20), .second, .val (.long (own_sub v8 v20)), .second, .val (.long (9223372036854775807 : Int64)), .second] [(.int (1 : Int32))]))
        rw [hG]
        exact own_retN X3 hx (t := .boolean) Bd.returns (by simp) (hb hby at_105) hlk (by decide) (by decide) ⟨rfl, N3⟩
      · refine go (fun _ kont => XS.ifYes X3.here hx rfl (pc0 := 74) (pc' := 85) rfl (hb hby at_74) rfl ((if0 _ _).trans (flt (mt (lw_gt _ _).mp hc74)).2.2.2) (by decide) (by decide) kont) ?_
        show G (T3.setTop (mkF m 85 #[.val (.long p1), .second, .val (.long p2), .second, .val (.int p3), .val (.long v8), .second, .val (.long v20), .second, .val (.long (own_sub v8 v20)), .second, .unset, .unset] []))
        refine go (fun _ kont => XS.lload X3.here hx rfl (hb hby at_85) rfl  kont) ?_
        show G (T3.setTop (mkF m 87 #[.val (.long p1), .second, .val (.long p2), .second, .val (.int p3), .val (.long v8), .second, .val (.long v20), .second, .val (.long (own_sub v8 v20)), .second, .unset, .unset] [(.long v8)]))
        refine go (fun _ kont => XS.lload X3.here hx rfl (hb hby at_87) rfl  kont) ?_
        show G (T3.setTop (mkF m 89 #[.val (.long p1), .second, .val (.long p2), .second, .val (.int p3), .val (.long v8), .second, .val (.long v20), .second, .val (.long (own_sub v8 v20)), .second, .unset, .unset] [(.long v20), (.long v8)]))
        refine go (fun _ kont => XS.lsub X3.here hx rfl (hb hby at_89) rfl kont) ?_
        show G (T3.setTop (mkF m 90 #[.val (.long p1), .second, .val (.long p2), .second, .val (.int p3), .val (.long v8), .second, .val (.long v20), .second, .val (.long (own_sub v8 v20)), .second, .unset, .unset] [(.long (v8 - v20))]))
        refine go (fun _ kont => XS.lstore X3.here hx rfl (hb hby at_90) rfl (l' := #[.val (.long p1), .second, .val (.long p2), .second, .val (.int p3), .val (.long v8), .second, .val (.long v20), .second, .val (.long (own_sub v8 v20)), .second, .val (.long (v8 - v20)), .second]) rfl kont) ?_
        show G (T3.setTop (mkF m 92 #[.val (.long p1), .second, .val (.long p2), .second, .val (.int p3), .val (.long v8), .second, .val (.long v20), .second, .val (.long (own_sub v8 v20)), .second, .val (.long (v8 - v20)), .second] []))
        refine go (fun _ kont => XS.lload X3.here hx rfl (hb hby at_92) rfl  kont) ?_
        show G (T3.setTop (mkF m 94 #[.val (.long p1), .second, .val (.long p2), .second, .val (.int p3), .val (.long v8), .second, .val (.long v20), .second, .val (.long (own_sub v8 v20)), .second, .val (.long (v8 - v20)), .second] [(.long (own_sub v8 v20))]))
        refine go (fun _ kont => XS.lload X3.here hx rfl (hb hby at_94) rfl  kont) ?_
        show G (T3.setTop (mkF m 96 #[.val (.long p1), .second, .val (.long p2), .second, .val (.int p3), .val (.long v8), .second, .val (.long v20), .second, .val (.long (own_sub v8 v20)), .second, .val (.long (v8 - v20)), .second] [(.long (v8 - v20)), (.long (own_sub v8 v20))]))
        refine go (fun _ kont => XS.lcmp X3.here hx rfl (hb hby at_96) rfl kont) ?_
        show G (T3.setTop (mkF m 97 #[.val (.long p1), .second, .val (.long p2), .second, .val (.int p3), .val (.long v8), .second, .val (.long v20), .second, .val (.long (own_sub v8 v20)), .second, .val (.long (v8 - v20)), .second] [(.int (lcmpW (own_sub v8 v20) (v8 - v20)))]))
        have hfin : (own_sub v8 v20) = (v8 - v20) := by rw [own_sub_eq]; simp [*]
        refine go (fun _ kont => XS.ifNo X3.here hx rfl (hb hby at_97) rfl ((if0 _ _).trans (teq ((lw_eq _ _).mpr hfin)).2) kont) ?_
        show G (T3.setTop (mkF m 100 #[.val (.long p1), .second, .val (.long p2), .second, .val (.int p3), .val (.long v8), .second, .val (.long v20), .second, .val (.long (own_sub v8 v20)), .second, .val (.long (v8 - v20)), .second] []))
        refine go (fun _ kont => XS.iconst X3.here hx rfl (hb hby at_100) kont) ?_
        show G (T3.setTop (mkF m 101 #[.val (.long p1), .second, .val (.long p2), .second, .val (.int p3), .val (.long v8), .second, .val (.long v20), .second, .val (.long (own_sub v8 v20)), .second, .val (.long (v8 - v20)), .second] [(.int (1 : Int32))]))
        refine go (fun _ kont => XS.goto X3.here hx rfl (pc0 := 101) (pc' := 105) rfl (hb hby at_101) (by decide) (by decide) kont) ?_
        show G (T3.setTop (mkF m 105 #[.val (.long p1), .second, .val (.long p2), .second, .val (.int p3), .val (.long v8), .second, .val (.long v20), .second, .val (.long (own_sub v8 v20)), .second, .val (.long (v8 - v20)), .second] [(.int (1 : Int32))]))
        rw [hG]
        exact own_retN X3 hx (t := .boolean) Bd.returns (by simp) (hb hby at_105) hlk (by decide) (by decide) ⟨rfl, N3⟩
    · refine go (fun _ kont => XS.ifYes X3.here hx rfl (pc0 := 62) (pc' := 85) rfl (hb hby at_62) rfl ((if0 _ _).trans (flt (mt (lw_lt _ _).mp hc62)).2.1) (by decide) (by decide) kont) ?_
      show G (T3.setTop (mkF m 85 #[.val (.long p1), .second, .val (.long p2), .second, .val (.int p3), .val (.long v8), .second, .val (.long v20), .second, .val (.long (own_sub v8 v20)), .second, .unset, .unset] []))
      refine go (fun _ kont => XS.lload X3.here hx rfl (hb hby at_85) rfl  kont) ?_
      show G (T3.setTop (mkF m 87 #[.val (.long p1), .second, .val (.long p2), .second, .val (.int p3), .val (.long v8), .second, .val (.long v20), .second, .val (.long (own_sub v8 v20)), .second, .unset, .unset] [(.long v8)]))
      refine go (fun _ kont => XS.lload X3.here hx rfl (hb hby at_87) rfl  kont) ?_
      show G (T3.setTop (mkF m 89 #[.val (.long p1), .second, .val (.long p2), .second, .val (.int p3), .val (.long v8), .second, .val (.long v20), .second, .val (.long (own_sub v8 v20)), .second, .unset, .unset] [(.long v20), (.long v8)]))
      refine go (fun _ kont => XS.lsub X3.here hx rfl (hb hby at_89) rfl kont) ?_
      show G (T3.setTop (mkF m 90 #[.val (.long p1), .second, .val (.long p2), .second, .val (.int p3), .val (.long v8), .second, .val (.long v20), .second, .val (.long (own_sub v8 v20)), .second, .unset, .unset] [(.long (v8 - v20))]))
      refine go (fun _ kont => XS.lstore X3.here hx rfl (hb hby at_90) rfl (l' := #[.val (.long p1), .second, .val (.long p2), .second, .val (.int p3), .val (.long v8), .second, .val (.long v20), .second, .val (.long (own_sub v8 v20)), .second, .val (.long (v8 - v20)), .second]) rfl kont) ?_
      show G (T3.setTop (mkF m 92 #[.val (.long p1), .second, .val (.long p2), .second, .val (.int p3), .val (.long v8), .second, .val (.long v20), .second, .val (.long (own_sub v8 v20)), .second, .val (.long (v8 - v20)), .second] []))
      refine go (fun _ kont => XS.lload X3.here hx rfl (hb hby at_92) rfl  kont) ?_
      show G (T3.setTop (mkF m 94 #[.val (.long p1), .second, .val (.long p2), .second, .val (.int p3), .val (.long v8), .second, .val (.long v20), .second, .val (.long (own_sub v8 v20)), .second, .val (.long (v8 - v20)), .second] [(.long (own_sub v8 v20))]))
      refine go (fun _ kont => XS.lload X3.here hx rfl (hb hby at_94) rfl  kont) ?_
      show G (T3.setTop (mkF m 96 #[.val (.long p1), .second, .val (.long p2), .second, .val (.int p3), .val (.long v8), .second, .val (.long v20), .second, .val (.long (own_sub v8 v20)), .second, .val (.long (v8 - v20)), .second] [(.long (v8 - v20)), (.long (own_sub v8 v20))]))
      refine go (fun _ kont => XS.lcmp X3.here hx rfl (hb hby at_96) rfl kont) ?_
      show G (T3.setTop (mkF m 97 #[.val (.long p1), .second, .val (.long p2), .second, .val (.int p3), .val (.long v8), .second, .val (.long v20), .second, .val (.long (own_sub v8 v20)), .second, .val (.long (v8 - v20)), .second] [(.int (lcmpW (own_sub v8 v20) (v8 - v20)))]))
      have hfin : (own_sub v8 v20) = (v8 - v20) := by rw [own_sub_eq]; simp [*]
      refine go (fun _ kont => XS.ifNo X3.here hx rfl (hb hby at_97) rfl ((if0 _ _).trans (teq ((lw_eq _ _).mpr hfin)).2) kont) ?_
      show G (T3.setTop (mkF m 100 #[.val (.long p1), .second, .val (.long p2), .second, .val (.int p3), .val (.long v8), .second, .val (.long v20), .second, .val (.long (own_sub v8 v20)), .second, .val (.long (v8 - v20)), .second] []))
      refine go (fun _ kont => XS.iconst X3.here hx rfl (hb hby at_100) kont) ?_
      show G (T3.setTop (mkF m 101 #[.val (.long p1), .second, .val (.long p2), .second, .val (.int p3), .val (.long v8), .second, .val (.long v20), .second, .val (.long (own_sub v8 v20)), .second, .val (.long (v8 - v20)), .second] [(.int (1 : Int32))]))
      refine go (fun _ kont => XS.goto X3.here hx rfl (pc0 := 101) (pc' := 105) rfl (hb hby at_101) (by decide) (by decide) kont) ?_
      show G (T3.setTop (mkF m 105 #[.val (.long p1), .second, .val (.long p2), .second, .val (.int p3), .val (.long v8), .second, .val (.long v20), .second, .val (.long (own_sub v8 v20)), .second, .val (.long (v8 - v20)), .second] [(.int (1 : Int32))]))
      rw [hG]
      exact own_retN X3 hx (t := .boolean) Bd.returns (by simp) (hb hby at_105) hlk (by decide) (by decide) ⟨rfl, N3⟩
set_option maxRecDepth 65536 in
set_option maxHeartbeats 40000000 in
theorem comes_1 {Post : Tables → Env → Array Value → State → Outcome → State → Prop} (hpost : ∀ tb e args s v u, (limb_1_1.after args s (.returned v) u = true ∧ limb_1_2.after args s (.returned v) u = true ∧ True) → FrameEnd s (.returned v) u (Jvm.fieldLocs frame_1_writes args s ++ Jvm.arrayLocs frame_1_arrays args s ++ Jvm.staticLocs frame_1_statics s) 0 0 → Post tb e args s (.returned v) u) :
    ArmFor flags0 classFile x code maxLocals ret World_1 tables_1 room_1 Calls_1 rest_1 Pre_1 Post := by
  intro l hfl _ _ p e ha hc hk s m args below hf hA hF happ hP
  obtain ⟨hcalls, hrest, hpre⟩ := hP
  obtain ⟨-, -, -, hnamed, -, -, -, hat⟩ := (Spec.applies_iff hf).mp happ
  obtain ⟨hg, hn⟩ := and_e (Cond.before_iff.mp (show (Jvm.Cond.and given_1 narrow_1).before args s = true from hpre))
  obtain ⟨hcnt, ha0⟩ := and_e hg
  obtain ⟨hk0, ha1⟩ := and_e ha0
  obtain ⟨hk1, ha2⟩ := and_e ha1
  have hk2 := ha2
  obtain ⟨w0, w1, w2, rfl⟩ : ∃ w0 w1 w2 : Value, args = #[w0, w1, w2] := by
    have hs : args.size = 3 := by simpa [Cond.value, given_1] using hcnt
    obtain ⟨L⟩ := args
    match L, hs with
    | [w0, w1, w2], _ => exact ⟨w0, w1, w2, rfl⟩
  have hw := fun d (hd : d ∈ tables_1) => atoms_spec (ws := Jvm.Cond.code x code maxLocals ret :: tables_1) hat d (List.mem_cons_of_mem _ hd)
  have hfit : Fit s := fun {y c} hc i hi => by
    obtain ⟨ha, rfl⟩ := Array.getElem?_eq_some_iff.mp hc
    have q := List.all_eq_true.mp ((Array.all_eq_true_iff_forall_mem.mp hF) _ (Array.getElem_mem ha)) i (List.mem_range.mpr hi)
    simpa [Array.getElem?_eq_getElem hi] using q
  obtain ⟨i0, ei0⟩ := isL_v hk0
  obtain rfl : w0 = (.long i0) := Option.some.inj ei0
  obtain ⟨i1, ei1⟩ := isL_v hk1
  obtain rfl : w1 = (.long i1) := Option.some.inj ei1
  obtain ⟨i2, ei2⟩ := is_v hk2
  obtain rfl : w2 = (.int i2) := Option.some.inj ei2
  obtain ⟨n, o, h1, h2, h3, _, L, rfl, ⟨rfl, N⟩, hq⟩ := own_rm_law l s _ hw tables_1 i0 i1 i2 s.heap s.heap.size (Nat.le_refl _)  p e ha hc hk s m _ below hf ((Spec.applies_iff_loose hf).mp happ).1 ⟨rfl, State.Warmed39.refl s, rfl⟩ trivial
  refine ⟨n, _, h1, h2, h3, hpost _ _ _ _ _ _ ⟨Cond.after_iff.mpr rfl, Cond.after_iff.mpr (eq_i res_at (Term.int_eval (1)) rfl), trivial⟩ ⟨hq.1, hq.2.1, (hq.2.2.sift fun y hy => Or.inr (N y hy)).mono (by decide) (by decide)⟩⟩
theorem main_1_1 : Claimed_1_1 := comes_1 fun _ _ _ _ _ _ h hF => ⟨h.1, hF⟩
theorem main_1_2 : Claimed_1_2 := comes_1 fun _ _ _ _ _ _ h hF => ⟨h.2.1, hF⟩
end Jvm.Pilot.@@N@@
namespace Jvm.Pilot.@@N@@
open Jvm Jvm.ClassFile Sem Op Lib Jvm.Free Jvm.Stand Jvm.Pilot.@@N@@.Jvm.D
/-! MADE BY PROGRAM (witnessworld.py) out of the Statement's table words and the real class files: 9 classes; the members and pool entries that the words name. The judged class is class 1, her method 2. -/
namespace start1
open Jvm.ClassFile
def u (s : String) : CpInfo := .utf8 (stringToUtf16 s)
/-- a pool by its gaps: so many unusable entries, then the entry; so many at the end -/
def gap : Nat → List CpInfo → List CpInfo
  | 0, r => r
  | n + 1, r => .unusable :: gap n r
def poolList (es : List (Nat × CpInfo)) (last : Nat) : List CpInfo := es.foldr (fun e r => gap e.1 (e.2 :: r)) (gap last [])
def pool (es : List (Nat × CpInfo)) (last : Nat) : Array CpInfo := ⟨poolList es last⟩
def fileOf (pool : Array CpInfo) (this : Nat) (attrs : Array Attribute := #[]) (ms : Array MethodInfo := #[]) (fl : Nat := 33) (sup : Nat := 0) (ifs : Array Nat := #[]) (fds : Array FieldInfo := #[]) : ClassFile where
  minorVersion := 0
  majorVersion := 65
  constantPool := pool
  accessFlags := fl
  thisClass := this
  superClass := sup
  interfaces := ifs
  fields := fds
  methods := ms
  attributes := attrs
def plain (name : String) (sup : Option ClassId) : Class where
  name := name
  kind := .ordinary
  loader := none
  accessFlags := 33
  super := sup
  interfaces := #[]
  cf := none
  fields := #[]
  methods := #[]
  instanceTypes := #[]
  staticTypes := #[]
  resolved := #[]
  callSites := []
  init := .initialized
  statics := none
  mirror := none

def pool0 : Array CpInfo := pool [(5, u "<init>"), (0, u "()V"), (1, .class_ 10), (1, u "java/lang/Object")] 113

def k0m0 : Method := { name := "<init>", desc := "()V", sig := { parameters := [], returnType := none }, accessFlags := 1, code := none }
/-- java/lang/Object -/
def k0 : Class := { plain "java/lang/Object" none with
  accessFlags := 33
  interfaces := #[]
  cf := some (fileOf pool0 8 #[] #[{ accessFlags := 1, nameIndex := 5, descriptorIndex := 6, attributes := #[] }] 33 0 #[] #[])
  fields := #[]
  methods := #[k0m0]
  instanceTypes := #[]
  staticTypes := #[]
  resolved := Array.replicate 124 none
  statics := none }

def pool1 : Array CpInfo := pool [(2, .class_ 4), (1, u "java/lang/Object"), (0, u "<init>"), (0, u "()V"), (2, .long 9223372036854775807), (1, .long 255), (1, .long 9223372036854775808), (1, .methodref 16 17), (0, .class_ 18), (0, .nameAndType 19 20), (0, u "com/example/stockhold/stockhold/stock/CountsSubtractPinLaw"), (0, u "shape"), (0, u "(JI)J"), (0, .methodref 22 23), (0, .class_ 24), (0, .nameAndType 25 26), (0, u "com/example/stockhold/stockhold/stock/Counts"), (0, u "subtract"), (0, u "(JJ)J"), (3, u "law"), (0, u "(JJI)Z")] 2

def k1m0 : Method := { name := "<init>", desc := "()V", sig := { parameters := [], returnType := none }, accessFlags := 2, code := none }
def k1c1 : Code := { maxStack := 6, maxLocals := 3, code := method_2_code, exceptionTable := #[], attributes := #[] }
def k1m1 : Method := { name := "shape", desc := "(JI)J", sig := { parameters := [.long, .int], returnType := some .long }, accessFlags := 10, code := some k1c1 }
def k1c2 : Code := { maxStack := 6, maxLocals := 13, code := code, exceptionTable := #[], attributes := #[] }
def k1m2 : Method := { name := "law", desc := "(JJI)Z", sig := { parameters := [.long, .long, .int], returnType := some .boolean }, accessFlags := 9, code := some k1c2 }
/-- com/example/stockhold/stockhold/stock/CountsSubtractPinLaw -/
def k1 : Class := { plain "com/example/stockhold/stockhold/stock/CountsSubtractPinLaw" (some 0) with
  accessFlags := 49
  interfaces := #[]
  cf := some (fileOf pool1 16 #[] #[{ accessFlags := 2, nameIndex := 5, descriptorIndex := 6, attributes := #[] }, { accessFlags := 10, nameIndex := 19, descriptorIndex := 20, attributes := #[] }, { accessFlags := 9, nameIndex := 30, descriptorIndex := 31, attributes := #[] }] 49 2 #[] #[])
  fields := #[]
  methods := #[k1m0, k1m1, k1m2]
  instanceTypes := #[]
  staticTypes := #[]
  resolved := Array.replicate 34 none
  statics := none }

def pool2 : Array CpInfo := pool [(2, .class_ 4), (1, u "java/lang/Object"), (0, u "<init>"), (0, u "()V"), (2, .long 9223372036854775808), (1, .long 9223372036854775807), (1, .class_ 14), (0, u "com/example/stockhold/stockhold/stock/Counts"), (2, u "subtract"), (0, u "(JJ)J")] 3

def k2m0 : Method := { name := "<init>", desc := "()V", sig := { parameters := [], returnType := none }, accessFlags := 2, code := none }
def k2c1 : Code := { maxStack := 6, maxLocals := 6, code := prog_47_method_2_code, exceptionTable := #[], attributes := #[] }
def k2m1 : Method := { name := "subtract", desc := "(JJ)J", sig := { parameters := [.long, .long], returnType := some .long }, accessFlags := 8, code := some k2c1 }
/-- com/example/stockhold/stockhold/stock/Counts -/
def k2 : Class := { plain "com/example/stockhold/stockhold/stock/Counts" (some 0) with
  accessFlags := 48
  interfaces := #[]
  cf := some (fileOf pool2 13 #[] #[{ accessFlags := 2, nameIndex := 5, descriptorIndex := 6, attributes := #[] }, { accessFlags := 8, nameIndex := 17, descriptorIndex := 18, attributes := #[] }] 48 2 #[] #[])
  fields := #[]
  methods := #[k2m0, k2m1]
  instanceTypes := #[]
  staticTypes := #[]
  resolved := Array.replicate 22 none
  statics := none }

def pool3 : Array CpInfo := pool [(1, u "java/lang/Cloneable"), (0, .class_ 1), (0, u "java/lang/Object"), (0, .class_ 3)] 3

/-- java/lang/Cloneable -/
def k3 : Class := { plain "java/lang/Cloneable" (some 0) with
  accessFlags := 1537
  interfaces := #[]
  cf := some (fileOf pool3 2 #[] #[] 1537 4 #[] #[])
  fields := #[]
  methods := #[]
  instanceTypes := #[]
  staticTypes := #[]
  resolved := Array.replicate 8 none
  statics := none }

def pool4 : Array CpInfo := pool [(1, u "java/io/Serializable"), (0, .class_ 1), (0, u "java/lang/Object"), (0, .class_ 3)] 3

/-- java/io/Serializable -/
def k4 : Class := { plain "java/io/Serializable" (some 0) with
  accessFlags := 1537
  interfaces := #[]
  cf := some (fileOf pool4 2 #[] #[] 1537 4 #[] #[])
  fields := #[]
  methods := #[]
  instanceTypes := #[]
  staticTypes := #[]
  resolved := Array.replicate 8 none
  statics := none }

/-- the primitive byte -/
def k5 : Class := { plain "byte" none with kind := .primitive 'B', accessFlags := 0x411 }
/-- [B -/
def k6 : Class := { plain "[B" (some 0) with kind := .array 5 .byte, interfaces := #[3, 4], accessFlags := 1041 }

/-- the primitive int -/
def k7 : Class := { plain "int" none with kind := .primitive 'I', accessFlags := 0x411 }
/-- [I -/
def k8 : Class := { plain "[I" (some 0) with kind := .array 7 .int, interfaces := #[3, 4], accessFlags := 1041 }

def heap : Heap := #[]
def classes : Array Class := #[k0, k1, k2, k3, k4, k5, k6, k7, k8]
def interned : List (Array UInt16 × Addr) := []
def slotsUsed : Nat := 0
def theMethod : MethodId := ⟨1, 2⟩
def args0 : Array Value := #[.long 5, .long 7, .int 3]
def aboutOver (below : List Frame) : State where
  vm := { classes := classes, interned := interned.toArray }
  heap := heap
  slotsUsed := slotsUsed
  threads := #[{ frames := .invoking theMethod args0 :: below }]
def below0 : List Frame := [.native { method := ⟨0, 0⟩, args := #[] }]
def about1 : State := aboutOver below0
def p0 : Program := .bare "" "" ""
def e0 : Env := launch0.env 0 0 0
theorem w_frames : about1.frames = Frame.invoking theMethod args0 :: below0 := rfl
set_option maxRecDepth 65536 in
theorem w_args : argsFit about1.vm theMethod args0 = true := by decide +kernel
set_option maxRecDepth 65536 in
theorem w_heap : heapFits about1 = true := by decide +kernel
set_option maxRecDepth 65536 in
theorem w_runnable : about1.curStatus? = some .runnable := by decide +kernel
set_option maxRecDepth 65536 in
theorem w_alone : about1.alone = true := by decide +kernel
set_option maxRecDepth 65536 in
theorem w_named : about1.methodNamed? x = some theMethod := by decide +kernel
set_option maxRecDepth 65536 in
theorem w_hears : about1.hears theMethod below0 = true := by decide +kernel
set_option maxRecDepth 65536 in
theorem w_ripe : about1.ripe theMethod args0 below0 = true := by decide +kernel
theorem w_running : about1.status = .running := rfl
set_option maxRecDepth 65536 in
theorem w_room : about1.hasRoom e0.platform room_1 = true :=
  launch0.hasRoom_least _ room_1 (by decide +kernel) (by decide +kernel) (by decide +kernel) (by decide +kernel) (by decide +kernel) (by decide +kernel)
theorem allAtoms_all (ts : List Jvm.Cond) (a : Array Jvm.Value) (st : Jvm.State) : (allAtoms ts).before a st = ts.all (fun c => c.before a st) := by
  induction ts with
  | nil => rfl
  | cons c t ih =>
    show (Jvm.Cond.and c (allAtoms t)).before a st = _
    rw [Jvm.Cond.before_and, ih, List.all_cons]
def words1 : List Jvm.Cond := Jvm.Cond.code x code maxLocals ret :: tables_1
/-- a 'code' word, met by the world's own term for the bytes: nothing is compared byte by byte -/
theorem code_word {y : MethodName} {bytes : ByteArray} {mx : Nat} {rt : Option FieldType} {a : Array Value} {s : State} {m : MethodId} {meth : Method} {c : Code} (h1 : s.methodNamed? y = some m) (h2 : s.vm.method? m = some meth) (h3 : meth.code = some c) (h4 : c.code = bytes)
    (h5 : (c.maxLocals == mx && c.exceptionTable.isEmpty && decide (c.maxStack ≤ mostOperands) && decide (meth.sig.returnType = rt) && !meth.locks && decide (parseMethodDescriptor y.desc = some meth.sig)) = true) : (Jvm.Cond.code y bytes mx rt).before a s = true := by
  simp only [Bool.and_eq_true, beq_iff_eq, Bool.not_eq_true', decide_eq_true_eq] at h5
  obtain ⟨⟨⟨⟨⟨g1, g2⟩, g3⟩, g4⟩, g5⟩, g6⟩ := h5
  simp [Cond.before, Cond.holds, Cond.value, h1, h2, h3, h4, g1, g2, g3, g4, g5, g6]
def isCode : Jvm.Cond → Bool
  | .code _ _ _ _ => true
  | _ => false
theorem all_split {L : List Jvm.Cond} {P : Jvm.Cond → Bool} (h1 : L.all (fun c => isCode c || P c) = true) (h2 : ∀ c ∈ L.filter isCode, P c = true) : L.all P = true := by
  refine List.all_eq_true.mpr fun c hc => ?_
  have h := List.all_eq_true.mp h1 c hc
  rcases Bool.eq_false_or_eq_true (isCode c) with hi | hi
  · exact h2 c (List.mem_filter.mpr ⟨hc, hi⟩)
  · simpa [hi] using h
set_option maxRecDepth 65536 in
theorem w_c0 : (Jvm.Cond.code x code maxLocals ret).before args0 about1 = true := code_word (m := ⟨1, 2⟩) (meth := k1m2) (c := k1c2) (by decide +kernel) rfl rfl rfl (by decide +kernel)
set_option maxRecDepth 65536 in
theorem w_c1 : (Jvm.Cond.code ({ cls := "com/example/stockhold/stockhold/stock/CountsSubtractPinLaw", name := "shape", desc := "(JI)J" } : Jvm.MethodName) method_2_code (3 : Nat) (Option.some Jvm.ClassFile.FieldType.long)).before args0 about1 = true := code_word (m := ⟨1, 1⟩) (meth := k1m1) (c := k1c1) (by decide +kernel) rfl rfl rfl (by decide +kernel)
set_option maxRecDepth 65536 in
theorem w_c2 : (Jvm.Cond.code ({ cls := "com/example/stockhold/stockhold/stock/Counts", name := "subtract", desc := "(JJ)J" } : Jvm.MethodName) prog_47_method_2_code (6 : Nat) (Option.some Jvm.ClassFile.FieldType.long)).before args0 about1 = true := code_word (m := ⟨2, 1⟩) (meth := k2m1) (c := k2c1) (by decide +kernel) rfl rfl rfl (by decide +kernel)
def codes1 : List Jvm.Cond := [Jvm.Cond.code x code maxLocals ret, Jvm.Cond.code ({ cls := "com/example/stockhold/stockhold/stock/CountsSubtractPinLaw", name := "shape", desc := "(JI)J" } : Jvm.MethodName) method_2_code (3 : Nat) (Option.some Jvm.ClassFile.FieldType.long), Jvm.Cond.code ({ cls := "com/example/stockhold/stockhold/stock/Counts", name := "subtract", desc := "(JJ)J" } : Jvm.MethodName) prog_47_method_2_code (6 : Nat) (Option.some Jvm.ClassFile.FieldType.long)]
set_option maxRecDepth 65536 in
theorem codes_eq : words1.filter isCode = codes1 := rfl
theorem w_codes : ∀ c ∈ words1.filter isCode, c.before args0 about1 = true := by
  rw [codes_eq]
  intro c hc
  simp only [codes1, List.mem_cons, List.not_mem_nil, or_false] at hc
  rcases hc with rfl | rfl | rfl
  · exact w_c0
  · exact w_c1
  · exact w_c2
set_option maxRecDepth 65536 in
theorem w_t1 : words1.all (fun c => isCode c || c.before args0 about1) = true := by decide +kernel
theorem w_tables : (allAtoms (Jvm.Cond.code x code maxLocals ret :: tables_1)).before args0 about1 = true := by
  rw [allAtoms_all]
  show words1.all (fun c => c.before args0 about1) = true
  refine all_split ?_ w_codes
  rw [w_t1]
set_option maxRecDepth 65536 in
theorem w_case : (Jvm.Cond.and given_1 narrow_1).before args0 about1 = true := by decide +kernel
theorem w_applies : (headSpec (Jvm.Cond.code x code maxLocals ret :: tables_1) room_1).applies x e0.platform about1 = true :=
  (Spec.applies_iff w_frames).mpr ⟨w_running, w_runnable, w_alone, w_named, w_hears, w_ripe, w_room, w_tables⟩
theorem atStart : AtStart classFile x code maxLocals ret World_1 tables_1 room_1 Calls_1 rest_1 Pre_1 launch0 p0 e0 about1 theMethod args0 below0 :=
  ⟨lists_1, trivial, launch0.admits_env _ _ _, launch0.least_env, fairChoices_fair.cas, fairChoices_fair.clock, w_frames, w_args, w_heap, w_applies, trivial, trivial, w_case⟩
end start1
theorem witness_1 : WitnessClaimed_1 := ⟨start1.p0, start1.e0, start1.about1, start1.theMethod, start1.args0, start1.below0, start1.atStart⟩
end Jvm.Pilot.@@N@@
