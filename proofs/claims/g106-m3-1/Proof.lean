import JvmDerived
import JvmDerived.Pilot.@@N@@Statement
import JvmDerived.Pilot.@@N@@Code
set_option linter.unusedVariables false
set_option linter.unusedSimpArgs false
namespace Jvm.Pilot.@@N@@
open Jvm Jvm.ClassFile Sem Op Lib Jvm.Free Jvm.Stand Jvm.LawKit Jvm.RoadKit Bundle Jvm.Pilot.@@N@@.Jvm.D
section OwnLayer
variable {p : Program} {l : Launch} {e : Env} {R : Room} {s : State} {m : MethodId} {args : Array Value} {below : List Frame} {meth : Method} {c : Code} {T : State} {locs : List Loc} {cells slots : Nat}
/-- what is to be shown from the state S on: the run comes back, Q holds of what it leaves -/
def own_G (p : Program) (e : Env) (below : List Frame) (s : State) (k n : Nat) (Q : Option Value → Heap → List Loc → Prop) (S : State) : Prop :=
  ∃ t o, Steps p.tables e below S t ∧ t.status = .running ∧ Ended t below o ∧ ∃ v L, o = .returned v ∧ Q v t.heap L ∧ FrameEnd s o t L k n
theorem own_to {k n : Nat} {Q : Option Value → Heap → List Loc → Prop} {S S' : State} (h : ∀ t, Steps p.tables e below S' t → Steps p.tables e below S t) (g : own_G p e below s k n Q S') : own_G p e below s k n Q S := by
  obtain ⟨t, o, h1, h2⟩ := g
  exact ⟨t, o, h t h1, h2⟩
theorem own_retI {k n : Nat} {Q : Option Value → Heap → List Loc → Prop} (X : Stand p l e R s m args below meth c T locs cells slots) (hx : p.tables.exec = Jvm.exec) {pc : Nat} {Ls : Array Slot} {z : Int32} (hret : meth.sig.returnType = some .int) (hd : decode c.code pc = .ok (.ireturn, 1)) (hlk : meth.locks = false) (hk : cells ≤ k) (hn : slots ≤ n) (hq : Q (some (.int z)) T.heap locs) :
    own_G p e below s k n Q (T.setTop (mkF m pc Ls [.int z])) := by
  obtain ⟨fs, hr, hrun, hended, hW, hsame⟩ := X.leave (v := some (.int z)) (fun h => by rw [hret] at h; cases h) hlk
  exact ⟨_, _, X.ireturnOut hx hret rfl (Or.inl rfl) hd hr, hrun, hended, _, _, rfl, hq, ⟨_, rfl⟩, hW, hsame.mono hk hn⟩
theorem own_retN {k n : Nat} {Q : Option Value → Heap → List Loc → Prop} (X : Stand p l e R s m args below meth c T locs cells slots) (hx : p.tables.exec = Jvm.exec) {pc : Nat} {Ls : Array Slot} {z : Int32} {t : FieldType} {rest : List Value} (hret : meth.sig.returnType = some t) (ht : t = .boolean ∨ t = .byte ∨ t = .char ∨ t = .short) (hd : decode c.code pc = .ok (.ireturn, 1)) (hlk : meth.locks = false) (hk : cells ≤ k) (hn : slots ≤ n) (hq : Q (some (.int (nar t z))) T.heap locs) :
    own_G p e below s k n Q (T.setTop (mkF m pc Ls (.int z :: rest))) := by
  obtain ⟨fs, hr, hrun, hended, hW, hsame⟩ := X.leave (v := some (.int (nar t z))) (fun h => by rw [hret] at h; cases h) hlk
  exact ⟨_, _, retN X hx hret ht hd hr, hrun, hended, _, _, rfl, hq, ⟨_, rfl⟩, hW, hsame.mono hk hn⟩
theorem own_retJ {k n : Nat} {Q : Option Value → Heap → List Loc → Prop} (X : Stand p l e R s m args below meth c T locs cells slots) (hx : p.tables.exec = Jvm.exec) {pc : Nat} {Ls : Array Slot} {z : Int64} (hret : meth.sig.returnType = some .long) (hd : decode c.code pc = .ok (.lreturn, 1)) (hlk : meth.locks = false) (hk : cells ≤ k) (hn : slots ≤ n) (hq : Q (some (.long z)) T.heap locs) :
    own_G p e below s k n Q (T.setTop (mkF m pc Ls [.long z])) := by
  obtain ⟨fs, hr, hrun, hended, hW, hsame⟩ := X.leave (v := some (.long z)) (fun h => by rw [hret] at h; cases h) hlk
  exact ⟨_, _, X.lreturnOut hx hret hd hr, hrun, hended, _, _, rfl, hq, ⟨_, rfl⟩, hW, hsame.mono hk hn⟩
theorem own_retA {k n : Nat} {Q : Option Value → Heap → List Loc → Prop} (X : Stand p l e R s m args below meth c T locs cells slots) (hx : p.tables.exec = Jvm.exec) {pc : Nat} {Ls : Array Slot} {w : Value} {t : FieldType} (hw : w.isRef = true) (hret : meth.sig.returnType = some t) (ht : t.isReference = true) (hd : decode c.code pc = .ok (.areturn, 1)) (hlk : meth.locks = false) (hk : cells ≤ k) (hn : slots ≤ n) (hq : Q (some w) T.heap locs) :
    own_G p e below s k n Q (T.setTop (mkF m pc Ls [w])) := by
  obtain ⟨fs, hr, hrun, hended, hW, hsame⟩ := X.leave (v := some w) (fun h => by rw [hret] at h; cases h) hlk
  exact ⟨_, _, X.areturnOut hx hw hret ht hd hr, hrun, hended, _, _, rfl, hq, ⟨_, rfl⟩, hW, hsame.mono hk hn⟩
theorem own_retV {k n : Nat} {Q : Option Value → Heap → List Loc → Prop} (X : Stand p l e R s m args below meth c T locs cells slots) (hx : p.tables.exec = Jvm.exec) {pc : Nat} {Ls : Array Slot} (hret : meth.sig.returnType = none) (hd : decode c.code pc = .ok (.return_, 1)) (hlk : meth.locks = false) (hk : cells ≤ k) (hn : slots ≤ n) (hq : Q none T.heap locs) :
    own_G p e below s k n Q (T.setTop (mkF m pc Ls [])) := by
  obtain ⟨fs, hr, hrun, hended, hW, hsame⟩ := X.leave (v := none) (fun _ => rfl) hlk
  exact ⟨_, _, X.returnOut hx hret hd hr, hrun, hended, _, _, rfl, hq, ⟨_, rfl⟩, hW, hsame.mono hk hn⟩
end OwnLayer
/-- a callee that leaves the heap as it was and returns r -/
def own_Qp (r : Option Value) (h0 : Heap) (n0 : Nat) (v : Option Value) (h : Heap) (L : List Loc) : Prop := v = r ∧ Fr n0 L ∧ h = h0
/-- the law itself -/
def own_Ql (n0 : Nat) (v : Option Value) (h : Heap) (L : List Loc) : Prop := v = some (.int 1) ∧ Fr n0 L
/-- a reference's int field, out of the case's words -/
theorem own_ord {args : Array Value} {s : State} {t : Jvm.Term} {C n d : String} {k : Int32} {x : Addr} (ht : t.eval args s none [] s = some (.ref x)) (h : (Jvm.Cond.eq (.field t C n d) (.int k)).value args s none s [] = some true) : s.fieldOf? x C n d = some (.int k) := by
  obtain ⟨u, w, e1, e2, K1, K2⟩ := cmp_v (Or.inl h)
  have e3 : some w = some (.int k) := e2.symm.trans (Term.int_eval k)
  obtain rfl := Option.some.inj e3
  obtain ⟨z, rfl⟩ := K2
  have e4 := gotT (Cond.eq_ints e1 e2) h
  rw [fld_at ht] at e1
  rw [e1, e4]
theorem own_ord_ne {s : State} {C n d : String} {x y : Addr} {k k' : Int32} (h : s.fieldOf? x C n d = some (.int k)) (h' : s.fieldOf? y C n d = some (.int k')) (hk : k ≠ k') : ¬ (x = y) := fun q => by
  subst q
  rw [h] at h'
  exact hk (Value.int.inj (Option.some.inj h'))
theorem own_pn0 : plainName "com/example/stockhold/stockhold/stock/RecordFieldIsTermPinLaw" = true := by first | (simp [plainName, overriddenIn]; done) | decide +kernel
theorem own_pn1 : plainName "com/example/stockhold/stockhold/stock/RecordField" = true := by first | (simp [plainName, overriddenIn]; done) | decide +kernel
theorem own_pd0 : parseMethodDescriptor "(I)Lcom/example/stockhold/stockhold/stock/RecordField;" = some ⟨[.int], some (.object "com/example/stockhold/stockhold/stock/RecordField")⟩ := by decide +kernel
theorem own_pd1 : parseMethodDescriptor "()Z" = some ⟨[], some .boolean⟩ := by decide +kernel
theorem d_method_3_0 : decode method_3_code 0 = .ok (.iload_n 0, 1) := by decide +kernel
theorem d_method_3_1 : decode method_3_code 1 = .ok (.ifCond .ne 7, 3) := by decide +kernel
theorem d_method_3_4 : decode method_3_code 4 = .ok (.getstatic 20, 3) := by decide +kernel
theorem d_method_3_7 : decode method_3_code 7 = .ok (.areturn, 1) := by decide +kernel
theorem d_method_3_8 : decode method_3_code 8 = .ok (.iload_n 0, 1) := by decide +kernel
theorem d_method_3_9 : decode method_3_code 9 = .ok (.iconst 1, 1) := by decide +kernel
theorem d_method_3_10 : decode method_3_code 10 = .ok (.if_icmp .ne 7, 3) := by decide +kernel
theorem d_method_3_13 : decode method_3_code 13 = .ok (.getstatic 24, 3) := by decide +kernel
theorem d_method_3_16 : decode method_3_code 16 = .ok (.areturn, 1) := by decide +kernel
theorem d_method_3_17 : decode method_3_code 17 = .ok (.iload_n 0, 1) := by decide +kernel
theorem d_method_3_18 : decode method_3_code 18 = .ok (.iconst 2, 1) := by decide +kernel
theorem d_method_3_19 : decode method_3_code 19 = .ok (.if_icmp .ne 7, 3) := by decide +kernel
theorem d_method_3_22 : decode method_3_code 22 = .ok (.getstatic 27, 3) := by decide +kernel
theorem d_method_3_25 : decode method_3_code 25 = .ok (.areturn, 1) := by decide +kernel
theorem d_method_3_26 : decode method_3_code 26 = .ok (.iload_n 0, 1) := by decide +kernel
theorem d_method_3_27 : decode method_3_code 27 = .ok (.iconst 3, 1) := by decide +kernel
theorem d_method_3_28 : decode method_3_code 28 = .ok (.if_icmp .ne 7, 3) := by decide +kernel
theorem d_method_3_31 : decode method_3_code 31 = .ok (.getstatic 30, 3) := by decide +kernel
theorem d_method_3_34 : decode method_3_code 34 = .ok (.areturn, 1) := by decide +kernel
theorem d_method_3_35 : decode method_3_code 35 = .ok (.iload_n 0, 1) := by decide +kernel
theorem d_method_3_36 : decode method_3_code 36 = .ok (.iconst 4, 1) := by decide +kernel
theorem d_method_3_37 : decode method_3_code 37 = .ok (.if_icmp .ne 7, 3) := by decide +kernel
theorem d_method_3_40 : decode method_3_code 40 = .ok (.getstatic 33, 3) := by decide +kernel
theorem d_method_3_43 : decode method_3_code 43 = .ok (.areturn, 1) := by decide +kernel
theorem d_method_3_44 : decode method_3_code 44 = .ok (.iload_n 0, 1) := by decide +kernel
theorem d_method_3_45 : decode method_3_code 45 = .ok (.iconst 5, 1) := by decide +kernel
theorem d_method_3_46 : decode method_3_code 46 = .ok (.if_icmp .ne 7, 3) := by decide +kernel
theorem d_method_3_49 : decode method_3_code 49 = .ok (.getstatic 36, 3) := by decide +kernel
theorem d_method_3_52 : decode method_3_code 52 = .ok (.areturn, 1) := by decide +kernel
theorem d_method_3_53 : decode method_3_code 53 = .ok (.iload_n 0, 1) := by decide +kernel
theorem d_method_3_54 : decode method_3_code 54 = .ok (.bipush 6, 2) := by decide +kernel
theorem d_method_3_56 : decode method_3_code 56 = .ok (.if_icmp .ne 7, 3) := by decide +kernel
theorem d_method_3_59 : decode method_3_code 59 = .ok (.getstatic 39, 3) := by decide +kernel
theorem d_method_3_62 : decode method_3_code 62 = .ok (.areturn, 1) := by decide +kernel
theorem d_method_3_63 : decode method_3_code 63 = .ok (.iload_n 0, 1) := by decide +kernel
theorem d_method_3_64 : decode method_3_code 64 = .ok (.bipush 7, 2) := by decide +kernel
theorem d_method_3_66 : decode method_3_code 66 = .ok (.if_icmp .ne 7, 3) := by decide +kernel
theorem d_method_3_69 : decode method_3_code 69 = .ok (.getstatic 42, 3) := by decide +kernel
theorem d_method_3_72 : decode method_3_code 72 = .ok (.areturn, 1) := by decide +kernel
theorem d_method_3_73 : decode method_3_code 73 = .ok (.iload_n 0, 1) := by decide +kernel
theorem d_method_3_74 : decode method_3_code 74 = .ok (.bipush 8, 2) := by decide +kernel
theorem d_method_3_76 : decode method_3_code 76 = .ok (.if_icmp .ne 7, 3) := by decide +kernel
theorem d_method_3_79 : decode method_3_code 79 = .ok (.getstatic 45, 3) := by decide +kernel
theorem d_method_3_82 : decode method_3_code 82 = .ok (.areturn, 1) := by decide +kernel
theorem d_method_3_83 : decode method_3_code 83 = .ok (.iload_n 0, 1) := by decide +kernel
theorem d_method_3_84 : decode method_3_code 84 = .ok (.bipush 9, 2) := by decide +kernel
theorem d_method_3_86 : decode method_3_code 86 = .ok (.if_icmp .ne 7, 3) := by decide +kernel
theorem d_method_3_89 : decode method_3_code 89 = .ok (.getstatic 48, 3) := by decide +kernel
theorem d_method_3_92 : decode method_3_code 92 = .ok (.areturn, 1) := by decide +kernel
theorem d_method_3_93 : decode method_3_code 93 = .ok (.getstatic 51, 3) := by decide +kernel
theorem d_method_3_96 : decode method_3_code 96 = .ok (.areturn, 1) := by decide +kernel
theorem d_prog_63_method_6_0 : decode prog_63_method_6_code 0 = .ok (.aload_n 0, 1) := by decide +kernel
theorem d_prog_63_method_6_1 : decode prog_63_method_6_code 1 = .ok (.getstatic 3, 3) := by decide +kernel
theorem d_prog_63_method_6_4 : decode prog_63_method_6_code 4 = .ok (.if_acmp .eq 21, 3) := by decide +kernel
theorem d_prog_63_method_6_7 : decode prog_63_method_6_code 7 = .ok (.aload_n 0, 1) := by decide +kernel
theorem d_prog_63_method_6_8 : decode prog_63_method_6_code 8 = .ok (.getstatic 7, 3) := by decide +kernel
theorem d_prog_63_method_6_11 : decode prog_63_method_6_code 11 = .ok (.if_acmp .eq 14, 3) := by decide +kernel
theorem d_prog_63_method_6_14 : decode prog_63_method_6_code 14 = .ok (.aload_n 0, 1) := by decide +kernel
theorem d_prog_63_method_6_15 : decode prog_63_method_6_code 15 = .ok (.getstatic 10, 3) := by decide +kernel
theorem d_prog_63_method_6_18 : decode prog_63_method_6_code 18 = .ok (.if_acmp .eq 7, 3) := by decide +kernel
theorem d_prog_63_method_6_21 : decode prog_63_method_6_code 21 = .ok (.iconst 1, 1) := by decide +kernel
theorem d_prog_63_method_6_22 : decode prog_63_method_6_code 22 = .ok (.goto 4, 3) := by decide +kernel
theorem d_prog_63_method_6_25 : decode prog_63_method_6_code 25 = .ok (.iconst 0, 1) := by decide +kernel
theorem d_prog_63_method_6_26 : decode prog_63_method_6_code 26 = .ok (.ireturn, 1) := by decide +kernel

def own_field (y0 y1 y2 y3 y4 y5 y6 y7 y8 y9 y10 : Addr) (k : Int32) : Addr := if k = (0 : Int32) then y0 else if k = (1 : Int32) then y1 else if k = (2 : Int32) then y2 else if k = (3 : Int32) then y3 else if k = (4 : Int32) then y4 else if k = (5 : Int32) then y5 else if k = (6 : Int32) then y6 else if k = (7 : Int32) then y7 else if k = (8 : Int32) then y8 else if k = (9 : Int32) then y9 else y10
def own_isTerm (z y0 y1 y2 : Addr) : Int32 := if z = y0 then 0 else if z = y1 then 0 else if z = y2 then 0 else 1
theorem own_k11 (x : Int32) : 0 ≤ (((x &&& (2147483647 : Int32)) - ((x &&& (2147483647 : Int32)) / (11 : Int32)) * (11 : Int32))).toInt ∧ (((x &&& (2147483647 : Int32)) - ((x &&& (2147483647 : Int32)) / (11 : Int32)) * (11 : Int32))).toInt ≤ 10 := by
  have h1 := c_mask x (2147483647 : Int32) 31 (by decide) (by decide)
  rw [irem_eq_mod]
  have h2 := (c_irem (x &&& (2147483647 : Int32)) (11 : Int32) 11 (by decide)).1 (by omega)
  omega
theorem own_cases {k : Int32} (h : 0 ≤ k.toInt ∧ k.toInt ≤ 10) : k = (0 : Int32) ∨ k = (1 : Int32) ∨ k = (2 : Int32) ∨ k = (3 : Int32) ∨ k = (4 : Int32) ∨ k = (5 : Int32) ∨ k = (6 : Int32) ∨ k = (7 : Int32) ∨ k = (8 : Int32) ∨ k = (9 : Int32) ∨ k = (10 : Int32) := by
  have e : ∀ j : Int32, k.toInt = j.toInt → k = j := fun j q => Int32.toInt_inj.mp q
  have h' : k.toInt = 0 ∨ k.toInt = 1 ∨ k.toInt = 2 ∨ k.toInt = 3 ∨ k.toInt = 4 ∨ k.toInt = 5 ∨ k.toInt = 6 ∨ k.toInt = 7 ∨ k.toInt = 8 ∨ k.toInt = 9 ∨ k.toInt = 10 := by omega
  rcases h' with q | q | q | q | q | q | q | q | q | q | q
  · exact Or.inl (e 0 q)
  · exact Or.inr (Or.inl (e 1 q))
  · exact Or.inr (Or.inr (Or.inl (e 2 q)))
  · exact Or.inr (Or.inr (Or.inr (Or.inl (e 3 q))))
  · exact Or.inr (Or.inr (Or.inr (Or.inr (Or.inl (e 4 q)))))
  · exact Or.inr (Or.inr (Or.inr (Or.inr (Or.inr (Or.inl (e 5 q))))))
  · exact Or.inr (Or.inr (Or.inr (Or.inr (Or.inr (Or.inr (Or.inl (e 6 q)))))))
  · exact Or.inr (Or.inr (Or.inr (Or.inr (Or.inr (Or.inr (Or.inr (Or.inl (e 7 q))))))))
  · exact Or.inr (Or.inr (Or.inr (Or.inr (Or.inr (Or.inr (Or.inr (Or.inr (Or.inl (e 8 q)))))))))
  · exact Or.inr (Or.inr (Or.inr (Or.inr (Or.inr (Or.inr (Or.inr (Or.inr (Or.inr (Or.inl (e 9 q))))))))))
  · exact Or.inr (Or.inr (Or.inr (Or.inr (Or.inr (Or.inr (Or.inr (Or.inr (Or.inr (Or.inr (e 10 q))))))))))

theorem own_ef_own_rm_field (m : MethodId) (x0 : Int32) : entryFrame m #[(.int x0)] 1 = mkF m 0 #[.val (.int x0)] [] := by first | (simp [entryFrame, mkF, argsToLocals, Value.category]; done) | rfl
set_option maxRecDepth 65536 in
set_option maxHeartbeats 40000000 in
theorem own_rm_field (l : Launch) (Z : State) (a0 : Array Value) (hw : ∀ d ∈ tables_1, d.before a0 Z = true) (ws : List Jvm.Cond) (k : Int32) (h0 : Heap) (n0 : Nat) (Z0 : n0 ≤ h0.size) (y0 y1 y2 y3 y4 y5 y6 y7 y8 y9 y10 : Addr) (S0 : Sta Z h0 "com/example/stockhold/stockhold/stock/RecordField" "SKU" "Lcom/example/stockhold/stockhold/stock/RecordField;" (.ref y0)) (S1 : Sta Z h0 "com/example/stockhold/stockhold/stock/RecordField" "WAREHOUSE" "Lcom/example/stockhold/stockhold/stock/RecordField;" (.ref y1)) (S2 : Sta Z h0 "com/example/stockhold/stockhold/stock/RecordField" "ON_HAND" "Lcom/example/stockhold/stockhold/stock/RecordField;" (.ref y2)) (S3 : Sta Z h0 "com/example/stockhold/stockhold/stock/RecordField" "THRESHOLD" "Lcom/example/stockhold/stockhold/stock/RecordField;" (.ref y3)) (S4 : Sta Z h0 "com/example/stockhold/stockhold/stock/RecordField" "PREORDERABLE" "Lcom/example/stockhold/stockhold/stock/RecordField;" (.ref y4)) (S5 : Sta Z h0 "com/example/stockhold/stockhold/stock/RecordField" "PREORDER_LIMIT" "Lcom/example/stockhold/stockhold/stock/RecordField;" (.ref y5)) (S6 : Sta Z h0 "com/example/stockhold/stockhold/stock/RecordField" "BACKORDERABLE" "Lcom/example/stockhold/stockhold/stock/RecordField;" (.ref y6)) (S7 : Sta Z h0 "com/example/stockhold/stockhold/stock/RecordField" "BACKORDER_LIMIT" "Lcom/example/stockhold/stockhold/stock/RecordField;" (.ref y7)) (S8 : Sta Z h0 "com/example/stockhold/stockhold/stock/RecordField" "STATUS" "Lcom/example/stockhold/stockhold/stock/RecordField;" (.ref y8)) (S9 : Sta Z h0 "com/example/stockhold/stockhold/stock/RecordField" "AVAILABLE_FROM" "Lcom/example/stockhold/stockhold/stock/RecordField;" (.ref y9)) (S10 : Sta Z h0 "com/example/stockhold/stockhold/stock/RecordField" "PREORDER_FROM" "Lcom/example/stockhold/stockhold/stock/RecordField;" (.ref y10)) :
    MetFree l (⟨"com/example/stockhold/stockhold/stock/RecordFieldIsTermPinLaw", "field", "(I)Lcom/example/stockhold/stockhold/stock/RecordField;"⟩ : MethodName) (head1 (Jvm.Cond.code (⟨"com/example/stockhold/stockhold/stock/RecordFieldIsTermPinLaw", "field", "(I)Lcom/example/stockhold/stockhold/stock/RecordField;"⟩ : MethodName) method_3_code 1 (some (.object "com/example/stockhold/stockhold/stock/RecordField")) :: ws) ({ frames := 0, cells := 0, slots := 0, locals := 0 } : Room)) (fun aq Uq => aq = #[(.int k)] ∧ Z.Warmed39 Uq.vm ∧ Uq.heap = h0) (fun _ _ _ _ _ => True) (fun _ Uq oq Uq' => ∃ vq Lq, oq = .returned vq ∧ (own_Qp (some (.ref (own_field y0 y1 y2 y3 y4 y5 y6 y7 y8 y9 y10 k))) h0 n0) vq Uq'.heap Lq ∧ FrameEnd Uq oq Uq' Lq ({ frames := 0, cells := 0, slots := 0, locals := 0 } : Room).cells ({ frames := 0, cells := 0, slots := 0, locals := 0 } : Room).slots) := by
  refine MetFree.of_bodySF (plainFor_of_name own_pn0) hisR ?_
  intro p e s m args below meth c s₁ Bd hml0 hP hK
  obtain ⟨rfl, hZ, hh⟩ := hP
  have hx := Bd.exec
  have hby := Bd.bytes
  have hml : c.maxLocals = 1 := hml0
  have hown : s.vm.findClass "com/example/stockhold/stockhold/stock/RecordFieldIsTermPinLaw" = some m.cls := findClass_of_methodNamed Bd.named
  have hnm := (name_of_methodNamed Bd.named Bd.method).1
  have X0 : Stand p l e ({ frames := 0, cells := 0, slots := 0, locals := 0 } : Room) s m #[(.int k)] below meth c s₁ [] 0 0 := Stand.of_body Bd
  have e0 : s₁.heap = h0 := by rw [← hh, Bd.state]; rfl
  have N0 := Fr.nil n0
  have hlk : meth.locks = false := by first | exact BodyLoose.notSynchronized Bd | exact Body.notSynchronized Bd
  obtain ⟨G, hG⟩ : ∃ G : State → Prop, G = own_G p e below s ({ frames := 0, cells := 0, slots := 0, locals := 0 } : Room).cells ({ frames := 0, cells := 0, slots := 0, locals := 0 } : Room).slots ((own_Qp (some (.ref (own_field y0 y1 y2 y3 y4 y5 y6 y7 y8 y9 y10 k))) h0 n0)) := ⟨_, rfl⟩
  have go : ∀ {S S' : State}, (∀ t, Steps p.tables e below S' t → Steps p.tables e below S t) → G S' → G S := by rw [hG]; exact own_to
  suffices hs : G (s₁.setTop (mkF m 0 #[.val (.int k)] [])) by
    rw [hG] at hs
    exact own_to (fun _ kont => castTop (own_ef_own_rm_field m k) kont) hs
  refine go (fun _ kont => XS.iloadN X0.here hx rfl (hb hby d_method_3_0) rfl  kont) ?_
  show G (s₁.setTop (mkF m 1 #[.val (.int k)] [(.int k)]))
  by_cases hc1 : k = (0 : Int32)
  · refine go (fun _ kont => XS.ifNo X0.here hx rfl (hb hby d_method_3_1) rfl ((if0 _ _).trans (teq hc1).2) kont) ?_
    show G (s₁.setTop (mkF m 4 #[.val (.int k)] []))
    obtain ⟨T1, X1, e1, st1⟩ := getS X0 hx hZ hown (host := "") (hw _ (List.mem_of_getElem? (i := 5) rfl)) Via.refl e0 S0 (g := (mkF m 4 #[.val (.int k)] [])) rfl (hb hby d_method_3_4)
    refine go st1 ?_
    show G (T1.setTop (mkF m 7 #[.val (.int k)] [(.ref y0)]))
    rw [hG]
    exact own_retA X1 hx rfl Bd.returns rfl (hb hby d_method_3_7) hlk (by decide) (by decide) ⟨by simp [own_field, *], N0, e1⟩
  · refine go (fun _ kont => XS.ifYes X0.here hx rfl (pc0 := 1) (pc' := 8) rfl (hb hby d_method_3_1) rfl ((if0 _ _).trans (feq hc1).2) (by decide) (by decide) kont) ?_
    show G (s₁.setTop (mkF m 8 #[.val (.int k)] []))
    refine go (fun _ kont => XS.iloadN X0.here hx rfl (hb hby d_method_3_8) rfl  kont) ?_
    show G (s₁.setTop (mkF m 9 #[.val (.int k)] [(.int k)]))
    refine go (fun _ kont => XS.iconst X0.here hx rfl (hb hby d_method_3_9) kont) ?_
    show G (s₁.setTop (mkF m 10 #[.val (.int k)] [(.int (1 : Int32)), (.int k)]))
    by_cases hc10 : k = (1 : Int32)
    · refine go (fun _ kont => XS.icmpNo X0.here hx rfl (hb hby d_method_3_10) rfl (teq hc10).2 kont) ?_
      show G (s₁.setTop (mkF m 13 #[.val (.int k)] []))
      obtain ⟨T2, X2, e2, st2⟩ := getS X0 hx hZ hown (host := "") (hw _ (List.mem_of_getElem? (i := 27) rfl)) Via.refl e0 S1 (g := (mkF m 13 #[.val (.int k)] [])) rfl (hb hby d_method_3_13)
      refine go st2 ?_
      show G (T2.setTop (mkF m 16 #[.val (.int k)] [(.ref y1)]))
      rw [hG]
      exact own_retA X2 hx rfl Bd.returns rfl (hb hby d_method_3_16) hlk (by decide) (by decide) ⟨by simp [own_field, *], N0, e2⟩
    · refine go (fun _ kont => XS.icmpYes X0.here hx rfl (pc0 := 10) (pc' := 17) rfl (hb hby d_method_3_10) rfl (feq hc10).2 (by decide) (by decide) kont) ?_
      show G (s₁.setTop (mkF m 17 #[.val (.int k)] []))
      refine go (fun _ kont => XS.iloadN X0.here hx rfl (hb hby d_method_3_17) rfl  kont) ?_
      show G (s₁.setTop (mkF m 18 #[.val (.int k)] [(.int k)]))
      refine go (fun _ kont => XS.iconst X0.here hx rfl (hb hby d_method_3_18) kont) ?_
      show G (s₁.setTop (mkF m 19 #[.val (.int k)] [(.int (2 : Int32)), (.int k)]))
      by_cases hc19 : k = (2 : Int32)
      · refine go (fun _ kont => XS.icmpNo X0.here hx rfl (hb hby d_method_3_19) rfl (teq hc19).2 kont) ?_
        show G (s₁.setTop (mkF m 22 #[.val (.int k)] []))
        obtain ⟨T3, X3, e3, st3⟩ := getS X0 hx hZ hown (host := "") (hw _ (List.mem_of_getElem? (i := 24) rfl)) Via.refl e0 S2 (g := (mkF m 22 #[.val (.int k)] [])) rfl (hb hby d_method_3_22)
        refine go st3 ?_
        show G (T3.setTop (mkF m 25 #[.val (.int k)] [(.ref y2)]))
        rw [hG]
        exact own_retA X3 hx rfl Bd.returns rfl (hb hby d_method_3_25) hlk (by decide) (by decide) ⟨by simp [own_field, *], N0, e3⟩
      · refine go (fun _ kont => XS.icmpYes X0.here hx rfl (pc0 := 19) (pc' := 26) rfl (hb hby d_method_3_19) rfl (feq hc19).2 (by decide) (by decide) kont) ?_
        show G (s₁.setTop (mkF m 26 #[.val (.int k)] []))
        refine go (fun _ kont => XS.iloadN X0.here hx rfl (hb hby d_method_3_26) rfl  kont) ?_
        show G (s₁.setTop (mkF m 27 #[.val (.int k)] [(.int k)]))
        refine go (fun _ kont => XS.iconst X0.here hx rfl (hb hby d_method_3_27) kont) ?_
        show G (s₁.setTop (mkF m 28 #[.val (.int k)] [(.int (3 : Int32)), (.int k)]))
        by_cases hc28 : k = (3 : Int32)
        · refine go (fun _ kont => XS.icmpNo X0.here hx rfl (hb hby d_method_3_28) rfl (teq hc28).2 kont) ?_
          show G (s₁.setTop (mkF m 31 #[.val (.int k)] []))
          obtain ⟨T4, X4, e4, st4⟩ := getS X0 hx hZ hown (host := "") (hw _ (List.mem_of_getElem? (i := 14) rfl)) Via.refl e0 S3 (g := (mkF m 31 #[.val (.int k)] [])) rfl (hb hby d_method_3_31)
          refine go st4 ?_
          show G (T4.setTop (mkF m 34 #[.val (.int k)] [(.ref y3)]))
          rw [hG]
          exact own_retA X4 hx rfl Bd.returns rfl (hb hby d_method_3_34) hlk (by decide) (by decide) ⟨by simp [own_field, *], N0, e4⟩
        · refine go (fun _ kont => XS.icmpYes X0.here hx rfl (pc0 := 28) (pc' := 35) rfl (hb hby d_method_3_28) rfl (feq hc28).2 (by decide) (by decide) kont) ?_
          show G (s₁.setTop (mkF m 35 #[.val (.int k)] []))
          refine go (fun _ kont => XS.iloadN X0.here hx rfl (hb hby d_method_3_35) rfl  kont) ?_
          show G (s₁.setTop (mkF m 36 #[.val (.int k)] [(.int k)]))
          refine go (fun _ kont => XS.iconst X0.here hx rfl (hb hby d_method_3_36) kont) ?_
          show G (s₁.setTop (mkF m 37 #[.val (.int k)] [(.int (4 : Int32)), (.int k)]))
          by_cases hc37 : k = (4 : Int32)
          · refine go (fun _ kont => XS.icmpNo X0.here hx rfl (hb hby d_method_3_37) rfl (teq hc37).2 kont) ?_
            show G (s₁.setTop (mkF m 40 #[.val (.int k)] []))
            obtain ⟨T5, X5, e5, st5⟩ := getS X0 hx hZ hown (host := "") (hw _ (List.mem_of_getElem? (i := 34) rfl)) Via.refl e0 S4 (g := (mkF m 40 #[.val (.int k)] [])) rfl (hb hby d_method_3_40)
            refine go st5 ?_
            show G (T5.setTop (mkF m 43 #[.val (.int k)] [(.ref y4)]))
            rw [hG]
            exact own_retA X5 hx rfl Bd.returns rfl (hb hby d_method_3_43) hlk (by decide) (by decide) ⟨by simp [own_field, *], N0, e5⟩
          · refine go (fun _ kont => XS.icmpYes X0.here hx rfl (pc0 := 37) (pc' := 44) rfl (hb hby d_method_3_37) rfl (feq hc37).2 (by decide) (by decide) kont) ?_
            show G (s₁.setTop (mkF m 44 #[.val (.int k)] []))
            refine go (fun _ kont => XS.iloadN X0.here hx rfl (hb hby d_method_3_44) rfl  kont) ?_
            show G (s₁.setTop (mkF m 45 #[.val (.int k)] [(.int k)]))
            refine go (fun _ kont => XS.iconst X0.here hx rfl (hb hby d_method_3_45) kont) ?_
            show G (s₁.setTop (mkF m 46 #[.val (.int k)] [(.int (5 : Int32)), (.int k)]))
            by_cases hc46 : k = (5 : Int32)
            · refine go (fun _ kont => XS.icmpNo X0.here hx rfl (hb hby d_method_3_46) rfl (teq hc46).2 kont) ?_
              show G (s₁.setTop (mkF m 49 #[.val (.int k)] []))
              obtain ⟨T6, X6, e6, st6⟩ := getS X0 hx hZ hown (host := "") (hw _ (List.mem_of_getElem? (i := 30) rfl)) Via.refl e0 S5 (g := (mkF m 49 #[.val (.int k)] [])) rfl (hb hby d_method_3_49)
              refine go st6 ?_
              show G (T6.setTop (mkF m 52 #[.val (.int k)] [(.ref y5)]))
              rw [hG]
              exact own_retA X6 hx rfl Bd.returns rfl (hb hby d_method_3_52) hlk (by decide) (by decide) ⟨by simp [own_field, *], N0, e6⟩
            · refine go (fun _ kont => XS.icmpYes X0.here hx rfl (pc0 := 46) (pc' := 53) rfl (hb hby d_method_3_46) rfl (feq hc46).2 (by decide) (by decide) kont) ?_
              show G (s₁.setTop (mkF m 53 #[.val (.int k)] []))
              refine go (fun _ kont => XS.iloadN X0.here hx rfl (hb hby d_method_3_53) rfl  kont) ?_
              show G (s₁.setTop (mkF m 54 #[.val (.int k)] [(.int k)]))
              refine go (fun _ kont => XS.bipush X0.here hx rfl (hb hby d_method_3_54) kont) ?_
              show G (s₁.setTop (mkF m 56 #[.val (.int k)] [(.int (6 : Int32)), (.int k)]))
              by_cases hc56 : k = (6 : Int32)
              · refine go (fun _ kont => XS.icmpNo X0.here hx rfl (hb hby d_method_3_56) rfl (teq hc56).2 kont) ?_
                show G (s₁.setTop (mkF m 59 #[.val (.int k)] []))
                obtain ⟨T7, X7, e7, st7⟩ := getS X0 hx hZ hown (host := "") (hw _ (List.mem_of_getElem? (i := 32) rfl)) Via.refl e0 S6 (g := (mkF m 59 #[.val (.int k)] [])) rfl (hb hby d_method_3_59)
                refine go st7 ?_
                show G (T7.setTop (mkF m 62 #[.val (.int k)] [(.ref y6)]))
                rw [hG]
                exact own_retA X7 hx rfl Bd.returns rfl (hb hby d_method_3_62) hlk (by decide) (by decide) ⟨by simp [own_field, *], N0, e7⟩
              · refine go (fun _ kont => XS.icmpYes X0.here hx rfl (pc0 := 56) (pc' := 63) rfl (hb hby d_method_3_56) rfl (feq hc56).2 (by decide) (by decide) kont) ?_
                show G (s₁.setTop (mkF m 63 #[.val (.int k)] []))
                refine go (fun _ kont => XS.iloadN X0.here hx rfl (hb hby d_method_3_63) rfl  kont) ?_
                show G (s₁.setTop (mkF m 64 #[.val (.int k)] [(.int k)]))
                refine go (fun _ kont => XS.bipush X0.here hx rfl (hb hby d_method_3_64) kont) ?_
                show G (s₁.setTop (mkF m 66 #[.val (.int k)] [(.int (7 : Int32)), (.int k)]))
                by_cases hc66 : k = (7 : Int32)
                · refine go (fun _ kont => XS.icmpNo X0.here hx rfl (hb hby d_method_3_66) rfl (teq hc66).2 kont) ?_
                  show G (s₁.setTop (mkF m 69 #[.val (.int k)] []))
                  obtain ⟨T8, X8, e8, st8⟩ := getS X0 hx hZ hown (host := "") (hw _ (List.mem_of_getElem? (i := 20) rfl)) Via.refl e0 S7 (g := (mkF m 69 #[.val (.int k)] [])) rfl (hb hby d_method_3_69)
                  refine go st8 ?_
                  show G (T8.setTop (mkF m 72 #[.val (.int k)] [(.ref y7)]))
                  rw [hG]
                  exact own_retA X8 hx rfl Bd.returns rfl (hb hby d_method_3_72) hlk (by decide) (by decide) ⟨by simp [own_field, *], N0, e8⟩
                · refine go (fun _ kont => XS.icmpYes X0.here hx rfl (pc0 := 66) (pc' := 73) rfl (hb hby d_method_3_66) rfl (feq hc66).2 (by decide) (by decide) kont) ?_
                  show G (s₁.setTop (mkF m 73 #[.val (.int k)] []))
                  refine go (fun _ kont => XS.iloadN X0.here hx rfl (hb hby d_method_3_73) rfl  kont) ?_
                  show G (s₁.setTop (mkF m 74 #[.val (.int k)] [(.int k)]))
                  refine go (fun _ kont => XS.bipush X0.here hx rfl (hb hby d_method_3_74) kont) ?_
                  show G (s₁.setTop (mkF m 76 #[.val (.int k)] [(.int (8 : Int32)), (.int k)]))
                  by_cases hc76 : k = (8 : Int32)
                  · refine go (fun _ kont => XS.icmpNo X0.here hx rfl (hb hby d_method_3_76) rfl (teq hc76).2 kont) ?_
                    show G (s₁.setTop (mkF m 79 #[.val (.int k)] []))
                    obtain ⟨T9, X9, e9, st9⟩ := getS X0 hx hZ hown (host := "") (hw _ (List.mem_of_getElem? (i := 22) rfl)) Via.refl e0 S8 (g := (mkF m 79 #[.val (.int k)] [])) rfl (hb hby d_method_3_79)
                    refine go st9 ?_
                    show G (T9.setTop (mkF m 82 #[.val (.int k)] [(.ref y8)]))
                    rw [hG]
                    exact own_retA X9 hx rfl Bd.returns rfl (hb hby d_method_3_82) hlk (by decide) (by decide) ⟨by simp [own_field, *], N0, e9⟩
                  · refine go (fun _ kont => XS.icmpYes X0.here hx rfl (pc0 := 76) (pc' := 83) rfl (hb hby d_method_3_76) rfl (feq hc76).2 (by decide) (by decide) kont) ?_
                    show G (s₁.setTop (mkF m 83 #[.val (.int k)] []))
                    refine go (fun _ kont => XS.iloadN X0.here hx rfl (hb hby d_method_3_83) rfl  kont) ?_
                    show G (s₁.setTop (mkF m 84 #[.val (.int k)] [(.int k)]))
                    refine go (fun _ kont => XS.bipush X0.here hx rfl (hb hby d_method_3_84) kont) ?_
                    show G (s₁.setTop (mkF m 86 #[.val (.int k)] [(.int (9 : Int32)), (.int k)]))
                    by_cases hc86 : k = (9 : Int32)
                    · refine go (fun _ kont => XS.icmpNo X0.here hx rfl (hb hby d_method_3_86) rfl (teq hc86).2 kont) ?_
                      show G (s₁.setTop (mkF m 89 #[.val (.int k)] []))
                      obtain ⟨T10, X10, e10, st10⟩ := getS X0 hx hZ hown (host := "") (hw _ (List.mem_of_getElem? (i := 28) rfl)) Via.refl e0 S9 (g := (mkF m 89 #[.val (.int k)] [])) rfl (hb hby d_method_3_89)
                      refine go st10 ?_
                      show G (T10.setTop (mkF m 92 #[.val (.int k)] [(.ref y9)]))
                      rw [hG]
                      exact own_retA X10 hx rfl Bd.returns rfl (hb hby d_method_3_92) hlk (by decide) (by decide) ⟨by simp [own_field, *], N0, e10⟩
                    · refine go (fun _ kont => XS.icmpYes X0.here hx rfl (pc0 := 86) (pc' := 93) rfl (hb hby d_method_3_86) rfl (feq hc86).2 (by decide) (by decide) kont) ?_
                      show G (s₁.setTop (mkF m 93 #[.val (.int k)] []))
                      obtain ⟨T11, X11, e11, st11⟩ := getS X0 hx hZ hown (host := "") (hw _ (List.mem_of_getElem? (i := 25) rfl)) Via.refl e0 S10 (g := (mkF m 93 #[.val (.int k)] [])) rfl (hb hby d_method_3_93)
                      refine go st11 ?_
                      show G (T11.setTop (mkF m 96 #[.val (.int k)] [(.ref y10)]))
                      rw [hG]
                      exact own_retA X11 hx rfl Bd.returns rfl (hb hby d_method_3_96) hlk (by decide) (by decide) ⟨by simp [own_field, *], N0, e11⟩
theorem own_ef_own_rm_isTerm (m : MethodId) (x0 : Addr) : entryFrame m #[(.ref x0)] 1 = mkF m 0 #[.val (.ref x0)] [] := by first | (simp [entryFrame, mkF, argsToLocals, Value.category]; done) | rfl
set_option maxRecDepth 65536 in
set_option maxHeartbeats 40000000 in
theorem own_rm_isTerm (l : Launch) (Z : State) (a0 : Array Value) (hw : ∀ d ∈ tables_1, d.before a0 Z = true) (ws : List Jvm.Cond) (z : Addr) (h0 : Heap) (n0 : Nat) (Z0 : n0 ≤ h0.size) (y0 y1 y2 : Addr) (S0 : Sta Z h0 "com/example/stockhold/stockhold/stock/RecordField" "SKU" "Lcom/example/stockhold/stockhold/stock/RecordField;" (.ref y0)) (S1 : Sta Z h0 "com/example/stockhold/stockhold/stock/RecordField" "WAREHOUSE" "Lcom/example/stockhold/stockhold/stock/RecordField;" (.ref y1)) (S2 : Sta Z h0 "com/example/stockhold/stockhold/stock/RecordField" "ON_HAND" "Lcom/example/stockhold/stockhold/stock/RecordField;" (.ref y2)) :
    MetFree l (⟨"com/example/stockhold/stockhold/stock/RecordField", "isTerm", "()Z"⟩ : MethodName) (head1 (Jvm.Cond.code (⟨"com/example/stockhold/stockhold/stock/RecordField", "isTerm", "()Z"⟩ : MethodName) prog_63_method_6_code 1 (some .boolean) :: ws) ({ frames := 0, cells := 0, slots := 0, locals := 0 } : Room)) (fun aq Uq => aq = #[(.ref z)] ∧ Z.Warmed39 Uq.vm ∧ Uq.heap = h0) (fun _ _ _ _ _ => True) (fun _ Uq oq Uq' => ∃ vq Lq, oq = .returned vq ∧ (own_Qp (some (.int (own_isTerm z y0 y1 y2))) h0 n0) vq Uq'.heap Lq ∧ FrameEnd Uq oq Uq' Lq ({ frames := 0, cells := 0, slots := 0, locals := 0 } : Room).cells ({ frames := 0, cells := 0, slots := 0, locals := 0 } : Room).slots) := by
  refine MetFree.of_bodySF (plainFor_of_name own_pn1) hisR ?_
  intro p e s m args below meth c s₁ Bd hml0 hP hK
  obtain ⟨rfl, hZ, hh⟩ := hP
  have hx := Bd.exec
  have hby := Bd.bytes
  have hml : c.maxLocals = 1 := hml0
  have hown : s.vm.findClass "com/example/stockhold/stockhold/stock/RecordField" = some m.cls := findClass_of_methodNamed Bd.named
  have hnm := (name_of_methodNamed Bd.named Bd.method).1
  have X0 : Stand p l e ({ frames := 0, cells := 0, slots := 0, locals := 0 } : Room) s m #[(.ref z)] below meth c s₁ [] 0 0 := Stand.of_body Bd
  have e0 : s₁.heap = h0 := by rw [← hh, Bd.state]; rfl
  have N0 := Fr.nil n0
  have hlk : meth.locks = false := by first | exact BodyLoose.notSynchronized Bd | exact Body.notSynchronized Bd
  obtain ⟨G, hG⟩ : ∃ G : State → Prop, G = own_G p e below s ({ frames := 0, cells := 0, slots := 0, locals := 0 } : Room).cells ({ frames := 0, cells := 0, slots := 0, locals := 0 } : Room).slots ((own_Qp (some (.int (own_isTerm z y0 y1 y2))) h0 n0)) := ⟨_, rfl⟩
  have go : ∀ {S S' : State}, (∀ t, Steps p.tables e below S' t → Steps p.tables e below S t) → G S' → G S := by rw [hG]; exact own_to
  suffices hs : G (s₁.setTop (mkF m 0 #[.val (.ref z)] [])) by
    rw [hG] at hs
    exact own_to (fun _ kont => castTop (own_ef_own_rm_isTerm m z) kont) hs
  refine go (fun _ kont => XS.aloadN X0.here hx rfl (hb hby d_prog_63_method_6_0) rfl rfl kont) ?_
  show G (s₁.setTop (mkF m 1 #[.val (.ref z)] [(.ref z)]))
  obtain ⟨T1, X1, e1, st1⟩ := getS X0 hx hZ hown (host := "") (hw _ (List.mem_of_getElem? (i := 13) rfl)) Via.refl e0 S0 (g := (mkF m 1 #[.val (.ref z)] [(.ref z)])) rfl (hb hby d_prog_63_method_6_1)
  refine go st1 ?_
  show G (T1.setTop (mkF m 4 #[.val (.ref z)] [(.ref y0), (.ref z)]))
  by_cases hc4 : z = y0
  · refine go (fun _ kont => Jvm.RoadKit.acmp (g := (mkF m 4 #[.val (.ref z)] [(.ref y0), (.ref z)])) X1 hx rfl rfl rfl (pc0 := 4) (pc' := 25) (same := true) rfl (hb hby d_prog_63_method_6_4) rfl (decide_eq_true (congrArg Value.ref hc4)) (by decide) (by decide) kont) ?_
    show G (T1.setTop (mkF m 25 #[.val (.ref z)] []))
    refine go (fun _ kont => XS.iconst X1.here hx rfl (hb hby d_prog_63_method_6_25) kont) ?_
    show G (T1.setTop (mkF m 26 #[.val (.ref z)] [(.int (0 : Int32))]))
    rw [hG]
    exact own_retN X1 hx (t := .boolean) Bd.returns (by simp) (hb hby d_prog_63_method_6_26) hlk (by decide) (by decide) ⟨by simp [own_isTerm, *] <;> rfl, N0, e1⟩
  · refine go (fun _ kont => Jvm.RoadKit.acmp (g := (mkF m 4 #[.val (.ref z)] [(.ref y0), (.ref z)])) X1 hx rfl rfl rfl (pc0 := 4) (pc' := 7) (same := false) rfl (hb hby d_prog_63_method_6_4) rfl (decide_eq_false fun q => hc4 (Value.ref.inj q)) (by decide) (by decide) kont) ?_
    show G (T1.setTop (mkF m 7 #[.val (.ref z)] []))
    refine go (fun _ kont => XS.aloadN X1.here hx rfl (hb hby d_prog_63_method_6_7) rfl rfl kont) ?_
    show G (T1.setTop (mkF m 8 #[.val (.ref z)] [(.ref z)]))
    obtain ⟨T2, X2, e2, st2⟩ := getS X1 hx hZ hown (host := "") (hw _ (List.mem_of_getElem? (i := 16) rfl)) Via.refl e1 S1 (g := (mkF m 8 #[.val (.ref z)] [(.ref z)])) rfl (hb hby d_prog_63_method_6_8)
    refine go st2 ?_
    show G (T2.setTop (mkF m 11 #[.val (.ref z)] [(.ref y1), (.ref z)]))
    by_cases hc11 : z = y1
    · refine go (fun _ kont => Jvm.RoadKit.acmp (g := (mkF m 11 #[.val (.ref z)] [(.ref y1), (.ref z)])) X2 hx rfl rfl rfl (pc0 := 11) (pc' := 25) (same := true) rfl (hb hby d_prog_63_method_6_11) rfl (decide_eq_true (congrArg Value.ref hc11)) (by decide) (by decide) kont) ?_
      show G (T2.setTop (mkF m 25 #[.val (.ref z)] []))
      refine go (fun _ kont => XS.iconst X2.here hx rfl (hb hby d_prog_63_method_6_25) kont) ?_
      show G (T2.setTop (mkF m 26 #[.val (.ref z)] [(.int (0 : Int32))]))
      rw [hG]
      exact own_retN X2 hx (t := .boolean) Bd.returns (by simp) (hb hby d_prog_63_method_6_26) hlk (by decide) (by decide) ⟨by simp [own_isTerm, *] <;> rfl, N0, e2⟩
    · refine go (fun _ kont => Jvm.RoadKit.acmp (g := (mkF m 11 #[.val (.ref z)] [(.ref y1), (.ref z)])) X2 hx rfl rfl rfl (pc0 := 11) (pc' := 14) (same := false) rfl (hb hby d_prog_63_method_6_11) rfl (decide_eq_false fun q => hc11 (Value.ref.inj q)) (by decide) (by decide) kont) ?_
      show G (T2.setTop (mkF m 14 #[.val (.ref z)] []))
      refine go (fun _ kont => XS.aloadN X2.here hx rfl (hb hby d_prog_63_method_6_14) rfl rfl kont) ?_
      show G (T2.setTop (mkF m 15 #[.val (.ref z)] [(.ref z)]))
      obtain ⟨T3, X3, e3, st3⟩ := getS X2 hx hZ hown (host := "") (hw _ (List.mem_of_getElem? (i := 18) rfl)) Via.refl e2 S2 (g := (mkF m 15 #[.val (.ref z)] [(.ref z)])) rfl (hb hby d_prog_63_method_6_15)
      refine go st3 ?_
      show G (T3.setTop (mkF m 18 #[.val (.ref z)] [(.ref y2), (.ref z)]))
      by_cases hc18 : z = y2
      · refine go (fun _ kont => Jvm.RoadKit.acmp (g := (mkF m 18 #[.val (.ref z)] [(.ref y2), (.ref z)])) X3 hx rfl rfl rfl (pc0 := 18) (pc' := 25) (same := true) rfl (hb hby d_prog_63_method_6_18) rfl (decide_eq_true (congrArg Value.ref hc18)) (by decide) (by decide) kont) ?_
        show G (T3.setTop (mkF m 25 #[.val (.ref z)] []))
        refine go (fun _ kont => XS.iconst X3.here hx rfl (hb hby d_prog_63_method_6_25) kont) ?_
        show G (T3.setTop (mkF m 26 #[.val (.ref z)] [(.int (0 : Int32))]))
        rw [hG]
        exact own_retN X3 hx (t := .boolean) Bd.returns (by simp) (hb hby d_prog_63_method_6_26) hlk (by decide) (by decide) ⟨by simp [own_isTerm, *] <;> rfl, N0, e3⟩
      · refine go (fun _ kont => Jvm.RoadKit.acmp (g := (mkF m 18 #[.val (.ref z)] [(.ref y2), (.ref z)])) X3 hx rfl rfl rfl (pc0 := 18) (pc' := 21) (same := false) rfl (hb hby d_prog_63_method_6_18) rfl (decide_eq_false fun q => hc18 (Value.ref.inj q)) (by decide) (by decide) kont) ?_
        show G (T3.setTop (mkF m 21 #[.val (.ref z)] []))
        refine go (fun _ kont => XS.iconst X3.here hx rfl (hb hby d_prog_63_method_6_21) kont) ?_
        show G (T3.setTop (mkF m 22 #[.val (.ref z)] [(.int (1 : Int32))]))
        refine go (fun _ kont => XS.goto X3.here hx rfl (pc0 := 22) (pc' := 26) rfl (hb hby d_prog_63_method_6_22) (by decide) (by decide) kont) ?_
        show G (T3.setTop (mkF m 26 #[.val (.ref z)] [(.int (1 : Int32))]))
        rw [hG]
        exact own_retN X3 hx (t := .boolean) Bd.returns (by simp) (hb hby d_prog_63_method_6_26) hlk (by decide) (by decide) ⟨by simp [own_isTerm, *] <;> rfl, N0, e3⟩
theorem own_ef_own_rm_law (m : MethodId) (x0 : Int32) : entryFrame m #[(.int x0)] maxLocals = mkF m 0 #[.val (.int x0), .unset, .unset, .unset] [] := by first | (simp [entryFrame, mkF, argsToLocals, Value.category, maxLocals]; done) | rfl
set_option maxRecDepth 65536 in
set_option maxHeartbeats 40000000 in
theorem own_rm_law (l : Launch) (Z : State) (a0 : Array Value) (hw : ∀ d ∈ tables_1, d.before a0 Z = true) (ws : List Jvm.Cond) (p1 : Int32) (h0 : Heap) (n0 : Nat) (Z0 : n0 ≤ h0.size) (y0 y1 y2 y3 y4 y5 y6 y7 y8 y9 y10 : Addr) (S0 : Sta Z h0 "com/example/stockhold/stockhold/stock/RecordField" "SKU" "Lcom/example/stockhold/stockhold/stock/RecordField;" (.ref y0)) (S1 : Sta Z h0 "com/example/stockhold/stockhold/stock/RecordField" "WAREHOUSE" "Lcom/example/stockhold/stockhold/stock/RecordField;" (.ref y1)) (S2 : Sta Z h0 "com/example/stockhold/stockhold/stock/RecordField" "ON_HAND" "Lcom/example/stockhold/stockhold/stock/RecordField;" (.ref y2)) (S3 : Sta Z h0 "com/example/stockhold/stockhold/stock/RecordField" "THRESHOLD" "Lcom/example/stockhold/stockhold/stock/RecordField;" (.ref y3)) (S4 : Sta Z h0 "com/example/stockhold/stockhold/stock/RecordField" "PREORDERABLE" "Lcom/example/stockhold/stockhold/stock/RecordField;" (.ref y4)) (S5 : Sta Z h0 "com/example/stockhold/stockhold/stock/RecordField" "PREORDER_LIMIT" "Lcom/example/stockhold/stockhold/stock/RecordField;" (.ref y5)) (S6 : Sta Z h0 "com/example/stockhold/stockhold/stock/RecordField" "BACKORDERABLE" "Lcom/example/stockhold/stockhold/stock/RecordField;" (.ref y6)) (S7 : Sta Z h0 "com/example/stockhold/stockhold/stock/RecordField" "BACKORDER_LIMIT" "Lcom/example/stockhold/stockhold/stock/RecordField;" (.ref y7)) (S8 : Sta Z h0 "com/example/stockhold/stockhold/stock/RecordField" "STATUS" "Lcom/example/stockhold/stockhold/stock/RecordField;" (.ref y8)) (S9 : Sta Z h0 "com/example/stockhold/stockhold/stock/RecordField" "AVAILABLE_FROM" "Lcom/example/stockhold/stockhold/stock/RecordField;" (.ref y9)) (S10 : Sta Z h0 "com/example/stockhold/stockhold/stock/RecordField" "PREORDER_FROM" "Lcom/example/stockhold/stockhold/stock/RecordField;" (.ref y10)) (E0 : Exa Z h0 y0 "com/example/stockhold/stockhold/stock/RecordField") (E1 : Exa Z h0 y1 "com/example/stockhold/stockhold/stock/RecordField") (E2 : Exa Z h0 y2 "com/example/stockhold/stockhold/stock/RecordField") (E3 : Exa Z h0 y3 "com/example/stockhold/stockhold/stock/RecordField") (E4 : Exa Z h0 y4 "com/example/stockhold/stockhold/stock/RecordField") (E5 : Exa Z h0 y5 "com/example/stockhold/stockhold/stock/RecordField") (E6 : Exa Z h0 y6 "com/example/stockhold/stockhold/stock/RecordField") (E7 : Exa Z h0 y7 "com/example/stockhold/stockhold/stock/RecordField") (E8 : Exa Z h0 y8 "com/example/stockhold/stockhold/stock/RecordField") (E9 : Exa Z h0 y9 "com/example/stockhold/stockhold/stock/RecordField") (E10 : Exa Z h0 y10 "com/example/stockhold/stockhold/stock/RecordField") (D0_1 : ¬ (y0 = y1)) (D0_2 : ¬ (y0 = y2)) (D1_0 : ¬ (y1 = y0)) (D1_2 : ¬ (y1 = y2)) (D2_0 : ¬ (y2 = y0)) (D2_1 : ¬ (y2 = y1)) (D3_0 : ¬ (y3 = y0)) (D3_1 : ¬ (y3 = y1)) (D3_2 : ¬ (y3 = y2)) (D4_0 : ¬ (y4 = y0)) (D4_1 : ¬ (y4 = y1)) (D4_2 : ¬ (y4 = y2)) (D5_0 : ¬ (y5 = y0)) (D5_1 : ¬ (y5 = y1)) (D5_2 : ¬ (y5 = y2)) (D6_0 : ¬ (y6 = y0)) (D6_1 : ¬ (y6 = y1)) (D6_2 : ¬ (y6 = y2)) (D7_0 : ¬ (y7 = y0)) (D7_1 : ¬ (y7 = y1)) (D7_2 : ¬ (y7 = y2)) (D8_0 : ¬ (y8 = y0)) (D8_1 : ¬ (y8 = y1)) (D8_2 : ¬ (y8 = y2)) (D9_0 : ¬ (y9 = y0)) (D9_1 : ¬ (y9 = y1)) (D9_2 : ¬ (y9 = y2)) (D10_0 : ¬ (y10 = y0)) (D10_1 : ¬ (y10 = y1)) (D10_2 : ¬ (y10 = y2)) :
    MetFree l x (head1 (Jvm.Cond.code x code maxLocals ret :: ws) room_1) (fun aq Uq => aq = #[(.int p1)] ∧ Z.Warmed39 Uq.vm ∧ Uq.heap = h0) (fun _ _ _ _ _ => True) (fun _ Uq oq Uq' => ∃ vq Lq, oq = .returned vq ∧ (own_Ql n0) vq Uq'.heap Lq ∧ FrameEnd Uq oq Uq' Lq room_1.cells room_1.slots) := by
  refine MetFree.of_bodySF (plainFor_of_name own_pn0) hisR ?_
  intro p e s m args below meth c s₁ Bd hml0 hP hK
  obtain ⟨rfl, hZ, hh⟩ := hP
  have hx := Bd.exec
  have hby := Bd.bytes
  have hml : c.maxLocals = 4 := hml0
  have hown : s.vm.findClass "com/example/stockhold/stockhold/stock/RecordFieldIsTermPinLaw" = some m.cls := findClass_of_methodNamed Bd.named
  have hnm := (name_of_methodNamed Bd.named Bd.method).1
  have X0 : Stand p l e room_1 s m #[(.int p1)] below meth c s₁ [] 0 0 := Stand.of_body Bd
  have e0 : s₁.heap = h0 := by rw [← hh, Bd.state]; rfl
  have N0 := Fr.nil n0
  have hlk : meth.locks = false := by first | exact BodyLoose.notSynchronized Bd | exact Body.notSynchronized Bd
  obtain ⟨G, hG⟩ : ∃ G : State → Prop, G = own_G p e below s room_1.cells room_1.slots ((own_Ql n0)) := ⟨_, rfl⟩
  have go : ∀ {S S' : State}, (∀ t, Steps p.tables e below S' t → Steps p.tables e below S t) → G S' → G S := by rw [hG]; exact own_to
  suffices hs : G (s₁.setTop (mkF m 0 #[.val (.int p1), .unset, .unset, .unset] [])) by
    rw [hG] at hs
    exact own_to (fun _ kont => castTop (own_ef_own_rm_law m p1) kont) hs
  refine go (fun _ kont => XS.iloadN X0.here hx rfl (hb hby at_0) rfl  kont) ?_
  show G (s₁.setTop (mkF m 1 #[.val (.int p1), .unset, .unset, .unset] [(.int p1)]))
  refine go (fun _ kont => X0.ldcInt hx hown (mvT hZ (hw _ (List.mem_of_getElem? (i := 0) rfl))) (g := (mkF m 1 #[.val (.int p1), .unset, .unset, .unset] [(.int p1)])) rfl (hb hby at_1) _ kont) ?_
  show G (s₁.setTop (mkF m 3 #[.val (.int p1), .unset, .unset, .unset] [(.int (2147483647 : Int32)), (.int p1)]))
  refine go (fun _ kont => XS.iand X0.here hx rfl (hb hby at_3) rfl kont) ?_
  show G (s₁.setTop (mkF m 4 #[.val (.int p1), .unset, .unset, .unset] [(.int (p1 &&& (2147483647 : Int32)))]))
  refine go (fun _ kont => XS.bipush X0.here hx rfl (hb hby at_4) kont) ?_
  show G (s₁.setTop (mkF m 6 #[.val (.int p1), .unset, .unset, .unset] [(.int (11 : Int32)), (.int (p1 &&& (2147483647 : Int32)))]))
  refine go (fun _ kont => XS.irem X0.here hx rfl (hb hby at_6) rfl (by decide) kont) ?_
  show G (s₁.setTop (mkF m 7 #[.val (.int p1), .unset, .unset, .unset] [(.int ((p1 &&& (2147483647 : Int32)) - ((p1 &&& (2147483647 : Int32)) / (11 : Int32)) * (11 : Int32)))]))
  generalize hk : ((p1 &&& (2147483647 : Int32)) - ((p1 &&& (2147483647 : Int32)) / (11 : Int32)) * (11 : Int32)) = k
  have hkr : 0 ≤ k.toInt ∧ k.toInt ≤ 10 := by rw [← hk]; exact own_k11 p1
  refine go (fun _ kont => XS.istoreN X0.here hx rfl (hb hby at_7) rfl (l' := #[.val (.int p1), .val (.int k), .unset, .unset]) rfl kont) ?_
  show G (s₁.setTop (mkF m 8 #[.val (.int p1), .val (.int k), .unset, .unset] []))
  refine go (fun _ kont => XS.iloadN X0.here hx rfl (hb hby at_8) rfl  kont) ?_
  show G (s₁.setTop (mkF m 9 #[.val (.int p1), .val (.int k), .unset, .unset] [(.int k)]))
  obtain ⟨_, _, ⟨T1, L1, k1, n1⟩, -, X1, ⟨Lc1, hQ1, l1, y1, z1⟩, st1⟩ := Jvm.LawKit.callS X0 hx (y := (⟨"com/example/stockhold/stockhold/stock/RecordFieldIsTermPinLaw", "field", "(I)Lcom/example/stockhold/stockhold/stock/RecordField;"⟩ : MethodName)) hown (mvT hZ (hw _ (List.mem_of_getElem? (i := 1) rfl))) (mvT hZ (hw _ (List.mem_of_getElem? (i := 2) rfl))) (mvT hZ (hw _ (List.mem_of_getElem? (i := 3) rfl))) (mvT hZ (hw _ (List.mem_of_getElem? (i := 4) rfl))) (by decide) (backOf (W := 0) (own_rm_field l Z a0 hw [] k h0 n0 Z0 y0 y1 y2 y3 y4 y5 y6 y7 y8 y9 y10 S0 S1 S2 S3 S4 S5 S6 S7 S8 S9 S10) hZ (hw _ (List.mem_of_getElem? (i := 4) rfl)) (hw _ (List.mem_of_getElem? (i := 3) rfl)) (by decide) (by decide)) (g := (mkF m 9 #[.val (.int p1), .val (.int k), .unset, .unset] [(.int k)])) rfl (by rw [hml]; rfl) (argsL := [(.int k)]) (rest := []) (lenOf own_pd0 rfl) rfl (by show 2 * 0 + _ ≤ _; exact Nat.le_of_eq rfl) (hb hby at_9) (fun _ _ => ⟨rfl, e0, (by decide : 0 + 0 ≤ _), (by decide : 0 + 0 ≤ _)⟩)
  dsimp only [Pt.U, Pt.locs, Pt.cells, Pt.slots] at X1 l1 y1 z1 st1 hQ1
  subst l1 y1 z1
  obtain ⟨rfl, N1q, e1⟩ := hQ1
  have N1 := Fr.app N0 N1q
  refine go st1 ?_
  show G (T1.setTop (mkF m 12 #[.val (.int p1), .val (.int k), .unset, .unset] [(.ref (own_field y0 y1 y2 y3 y4 y5 y6 y7 y8 y9 y10 k))]))
  have EZ : Exa Z h0 (own_field y0 y1 y2 y3 y4 y5 y6 y7 y8 y9 y10 k) "com/example/stockhold/stockhold/stock/RecordField" := by
    unfold own_field
    repeat' split
    all_goals assumption
  generalize hz : (own_field y0 y1 y2 y3 y4 y5 y6 y7 y8 y9 y10 k) = z
  rw [hz] at EZ
  refine go (fun _ kont => XS.astoreN X1.here hx rfl (hb hby at_12) rfl rfl (l' := #[.val (.int p1), .val (.int k), .val (.ref z), .unset]) rfl kont) ?_
  show G (T1.setTop (mkF m 13 #[.val (.int p1), .val (.int k), .val (.ref z), .unset] []))
  refine go (fun _ kont => XS.iloadN X1.here hx rfl (hb hby at_13) rfl  kont) ?_
  show G (T1.setTop (mkF m 14 #[.val (.int p1), .val (.int k), .val (.ref z), .unset] [(.int k)]))
  refine go (fun _ kont => XS.iconst X1.here hx rfl (hb hby at_14) kont) ?_
  show G (T1.setTop (mkF m 15 #[.val (.int p1), .val (.int k), .val (.ref z), .unset] [(.int (3 : Int32)), (.int k)]))
  by_cases hc15 : k < (3 : Int32)
  · refine go (fun _ kont => XS.icmpYes X1.here hx rfl (pc0 := 15) (pc' := 22) rfl (hb hby at_15) rfl (tlt hc15).1 (by decide) (by decide) kont) ?_
    show G (T1.setTop (mkF m 22 #[.val (.int p1), .val (.int k), .val (.ref z), .unset] []))
    refine go (fun _ kont => XS.iconst X1.here hx rfl (hb hby at_22) kont) ?_
    show G (T1.setTop (mkF m 23 #[.val (.int p1), .val (.int k), .val (.ref z), .unset] [(.int (0 : Int32))]))
    refine go (fun _ kont => XS.istoreN X1.here hx rfl (hb hby at_23) rfl (l' := #[.val (.int p1), .val (.int k), .val (.ref z), .val (.int (0 : Int32))]) rfl kont) ?_
    show G (T1.setTop (mkF m 24 #[.val (.int p1), .val (.int k), .val (.ref z), .val (.int (0 : Int32))] []))
    refine go (fun _ kont => XS.aloadN X1.here hx rfl (hb hby at_24) rfl rfl kont) ?_
    show G (T1.setTop (mkF m 25 #[.val (.int p1), .val (.int k), .val (.ref z), .val (.int (0 : Int32))] [(.ref z)]))
    obtain ⟨cq2, kq2, qa2, qb2, qc2⟩ := isOf hZ e1 EZ
    obtain ⟨_, _, ⟨T2, L2, k2, n2⟩, -, X2, ⟨Lc2, hQ2, l2, y2, z2⟩, st2⟩ := X1.virtualBack hx (y := (⟨"com/example/stockhold/stockhold/stock/RecordField", "isTerm", "()Z"⟩ : MethodName)) (z := (⟨"com/example/stockhold/stockhold/stock/RecordField", "isTerm", "()Z"⟩ : MethodName)) hown (mvT hZ (hw _ (List.mem_of_getElem? (i := 8) rfl))) (mvT hZ (hw _ (List.mem_of_getElem? (i := 9) rfl))) (notFace_of_selects (args := #[]) (mvT hZ (hw _ (List.mem_of_getElem? (i := 11) rfl)))) (mvT hZ (hw _ (List.mem_of_getElem? (i := 11) rfl))) (mvT hZ (hw _ (List.mem_of_getElem? (i := 10) rfl))) (by decide) (backOf (W := 0) (own_rm_isTerm l Z a0 hw [] z h0 n0 Z0 y0 y1 y2 S0 S1 S2) hZ (hw _ (List.mem_of_getElem? (i := 12) rfl)) (hw _ (List.mem_of_getElem? (i := 6) rfl)) (by decide) (by decide)) qa2 qc2 (g := (mkF m 25 #[.val (.int p1), .val (.int k), .val (.ref z), .val (.int (0 : Int32))] [(.ref z)])) rfl (by rw [hml]; rfl) (Steps.refl _) (argsL := []) (rest := []) (lenOf own_pd1 rfl) rfl (by show 2 * 0 + _ ≤ _; exact Nat.le_of_eq rfl) (hb hby at_25) (fun _ _ => ⟨rfl, e1, (by decide : 0 + 0 ≤ _), (by decide : 0 + 0 ≤ _)⟩)
    dsimp only [Pt.U, Pt.locs, Pt.cells, Pt.slots] at X2 l2 y2 z2 st2 hQ2
    subst l2 y2 z2
    obtain ⟨rfl, N2q, e2⟩ := hQ2
    have N2 := Fr.app N1 N2q
    refine go (fun _ kont => st2.trans kont) ?_
    show G (T2.setTop (mkF m 28 #[.val (.int p1), .val (.int k), .val (.ref z), .val (.int (0 : Int32))] [(.int (own_isTerm z y0 y1 y2))]))
    refine go (fun _ kont => XS.iloadN X2.here hx rfl (hb hby at_28) rfl  kont) ?_
    show G (T2.setTop (mkF m 29 #[.val (.int p1), .val (.int k), .val (.ref z), .val (.int (0 : Int32))] [(.int (0 : Int32)), (.int (own_isTerm z y0 y1 y2))]))
    have hfin : (own_isTerm z y0 y1 y2) = (0 : Int32) := by
      subst hz
      have hk' := own_cases hkr
      clear hkr
      rcases hk' with rfl | rfl | rfl | rfl | rfl | rfl | rfl | rfl | rfl | rfl | rfl
      · first | exact absurd hc15 (by decide) | simp [own_field, own_isTerm, *]
      · first | exact absurd hc15 (by decide) | simp [own_field, own_isTerm, *]
      · first | exact absurd hc15 (by decide) | simp [own_field, own_isTerm, *]
      · first | exact absurd hc15 (by decide) | simp [own_field, own_isTerm, *]
      · first | exact absurd hc15 (by decide) | simp [own_field, own_isTerm, *]
      · first | exact absurd hc15 (by decide) | simp [own_field, own_isTerm, *]
      · first | exact absurd hc15 (by decide) | simp [own_field, own_isTerm, *]
      · first | exact absurd hc15 (by decide) | simp [own_field, own_isTerm, *]
      · first | exact absurd hc15 (by decide) | simp [own_field, own_isTerm, *]
      · first | exact absurd hc15 (by decide) | simp [own_field, own_isTerm, *]
      · first | exact absurd hc15 (by decide) | simp [own_field, own_isTerm, *]
    refine go (fun _ kont => XS.icmpNo X2.here hx rfl (hb hby at_29) rfl (teq hfin).2 kont) ?_
    show G (T2.setTop (mkF m 32 #[.val (.int p1), .val (.int k), .val (.ref z), .val (.int (0 : Int32))] []))
    refine go (fun _ kont => XS.iconst X2.here hx rfl (hb hby at_32) kont) ?_
    show G (T2.setTop (mkF m 33 #[.val (.int p1), .val (.int k), .val (.ref z), .val (.int (0 : Int32))] [(.int (1 : Int32))]))
    refine go (fun _ kont => XS.goto X2.here hx rfl (pc0 := 33) (pc' := 37) rfl (hb hby at_33) (by decide) (by decide) kont) ?_
    show G (T2.setTop (mkF m 37 #[.val (.int p1), .val (.int k), .val (.ref z), .val (.int (0 : Int32))] [(.int (1 : Int32))]))
    rw [hG]
    exact own_retN X2 hx (t := .boolean) Bd.returns (by simp) (hb hby at_37) hlk (by decide) (by decide) ⟨rfl, N2⟩
  · refine go (fun _ kont => XS.icmpNo X1.here hx rfl (hb hby at_15) rfl (flt hc15).1 kont) ?_
    show G (T1.setTop (mkF m 18 #[.val (.int p1), .val (.int k), .val (.ref z), .unset] []))
    refine go (fun _ kont => XS.iconst X1.here hx rfl (hb hby at_18) kont) ?_
    show G (T1.setTop (mkF m 19 #[.val (.int p1), .val (.int k), .val (.ref z), .unset] [(.int (1 : Int32))]))
    refine go (fun _ kont => XS.goto X1.here hx rfl (pc0 := 19) (pc' := 23) rfl (hb hby at_19) (by decide) (by decide) kont) ?_
    show G (T1.setTop (mkF m 23 #[.val (.int p1), .val (.int k), .val (.ref z), .unset] [(.int (1 : Int32))]))
    refine go (fun _ kont => XS.istoreN X1.here hx rfl (hb hby at_23) rfl (l' := #[.val (.int p1), .val (.int k), .val (.ref z), .val (.int (1 : Int32))]) rfl kont) ?_
    show G (T1.setTop (mkF m 24 #[.val (.int p1), .val (.int k), .val (.ref z), .val (.int (1 : Int32))] []))
    refine go (fun _ kont => XS.aloadN X1.here hx rfl (hb hby at_24) rfl rfl kont) ?_
    show G (T1.setTop (mkF m 25 #[.val (.int p1), .val (.int k), .val (.ref z), .val (.int (1 : Int32))] [(.ref z)]))
    obtain ⟨cq3, kq3, qa3, qb3, qc3⟩ := isOf hZ e1 EZ
    obtain ⟨_, _, ⟨T3, L3, k3, n3⟩, -, X3, ⟨Lc3, hQ3, l3, y3, z3⟩, st3⟩ := X1.virtualBack hx (y := (⟨"com/example/stockhold/stockhold/stock/RecordField", "isTerm", "()Z"⟩ : MethodName)) (z := (⟨"com/example/stockhold/stockhold/stock/RecordField", "isTerm", "()Z"⟩ : MethodName)) hown (mvT hZ (hw _ (List.mem_of_getElem? (i := 8) rfl))) (mvT hZ (hw _ (List.mem_of_getElem? (i := 9) rfl))) (notFace_of_selects (args := #[]) (mvT hZ (hw _ (List.mem_of_getElem? (i := 11) rfl)))) (mvT hZ (hw _ (List.mem_of_getElem? (i := 11) rfl))) (mvT hZ (hw _ (List.mem_of_getElem? (i := 10) rfl))) (by decide) (backOf (W := 0) (own_rm_isTerm l Z a0 hw [] z h0 n0 Z0 y0 y1 y2 S0 S1 S2) hZ (hw _ (List.mem_of_getElem? (i := 12) rfl)) (hw _ (List.mem_of_getElem? (i := 6) rfl)) (by decide) (by decide)) qa3 qc3 (g := (mkF m 25 #[.val (.int p1), .val (.int k), .val (.ref z), .val (.int (1 : Int32))] [(.ref z)])) rfl (by rw [hml]; rfl) (Steps.refl _) (argsL := []) (rest := []) (lenOf own_pd1 rfl) rfl (by show 2 * 0 + _ ≤ _; exact Nat.le_of_eq rfl) (hb hby at_25) (fun _ _ => ⟨rfl, e1, (by decide : 0 + 0 ≤ _), (by decide : 0 + 0 ≤ _)⟩)
    dsimp only [Pt.U, Pt.locs, Pt.cells, Pt.slots] at X3 l3 y3 z3 st3 hQ3
    subst l3 y3 z3
    obtain ⟨rfl, N3q, e3⟩ := hQ3
    have N3 := Fr.app N1 N3q
    refine go (fun _ kont => st3.trans kont) ?_
    show G (T3.setTop (mkF m 28 #[.val (.int p1), .val (.int k), .val (.ref z), .val (.int (1 : Int32))] [(.int (own_isTerm z y0 y1 y2))]))
    refine go (fun _ kont => XS.iloadN X3.here hx rfl (hb hby at_28) rfl  kont) ?_
    show G (T3.setTop (mkF m 29 #[.val (.int p1), .val (.int k), .val (.ref z), .val (.int (1 : Int32))] [(.int (1 : Int32)), (.int (own_isTerm z y0 y1 y2))]))
    have hfin : (own_isTerm z y0 y1 y2) = (1 : Int32) := by
      subst hz
      have hk' := own_cases hkr
      clear hkr
      rcases hk' with rfl | rfl | rfl | rfl | rfl | rfl | rfl | rfl | rfl | rfl | rfl
      · first | exact absurd hc15 (by decide) | simp [own_field, own_isTerm, *]
      · first | exact absurd hc15 (by decide) | simp [own_field, own_isTerm, *]
      · first | exact absurd hc15 (by decide) | simp [own_field, own_isTerm, *]
      · first | exact absurd hc15 (by decide) | simp [own_field, own_isTerm, *]
      · first | exact absurd hc15 (by decide) | simp [own_field, own_isTerm, *]
      · first | exact absurd hc15 (by decide) | simp [own_field, own_isTerm, *]
      · first | exact absurd hc15 (by decide) | simp [own_field, own_isTerm, *]
      · first | exact absurd hc15 (by decide) | simp [own_field, own_isTerm, *]
      · first | exact absurd hc15 (by decide) | simp [own_field, own_isTerm, *]
      · first | exact absurd hc15 (by decide) | simp [own_field, own_isTerm, *]
      · first | exact absurd hc15 (by decide) | simp [own_field, own_isTerm, *]
    refine go (fun _ kont => XS.icmpNo X3.here hx rfl (hb hby at_29) rfl (teq hfin).2 kont) ?_
    show G (T3.setTop (mkF m 32 #[.val (.int p1), .val (.int k), .val (.ref z), .val (.int (1 : Int32))] []))
    refine go (fun _ kont => XS.iconst X3.here hx rfl (hb hby at_32) kont) ?_
    show G (T3.setTop (mkF m 33 #[.val (.int p1), .val (.int k), .val (.ref z), .val (.int (1 : Int32))] [(.int (1 : Int32))]))
    refine go (fun _ kont => XS.goto X3.here hx rfl (pc0 := 33) (pc' := 37) rfl (hb hby at_33) (by decide) (by decide) kont) ?_
    show G (T3.setTop (mkF m 37 #[.val (.int p1), .val (.int k), .val (.ref z), .val (.int (1 : Int32))] [(.int (1 : Int32))]))
    rw [hG]
    exact own_retN X3 hx (t := .boolean) Bd.returns (by simp) (hb hby at_37) hlk (by decide) (by decide) ⟨rfl, N3⟩
set_option maxRecDepth 65536 in
set_option maxHeartbeats 40000000 in
theorem comes_1 {Post : Tables → Env → Array Value → State → Outcome → State → Prop} (hpost : ∀ tb e args s v u, (limb_1_1.after args s (.returned v) u = true ∧ limb_1_2.after args s (.returned v) u = true ∧ True) → FrameEnd s (.returned v) u (Jvm.fieldLocs frame_1_writes args s ++ Jvm.arrayLocs frame_1_arrays args s ++ Jvm.staticLocs frame_1_statics s) 0 0 → Post tb e args s (.returned v) u) :
    ArmFor flags0 classFile x code maxLocals ret World_1 tables_1 room_1 Calls_1 rest_1 Pre_1 Post := by
  intro l hfl _ _ p e ha hc hk s m args below hf hA hF happ hP
  obtain ⟨hcalls, hrest, hpre⟩ := hP
  obtain ⟨-, -, -, hnamed, -, -, -, hat⟩ := (Spec.applies_iff hf).mp happ
  obtain ⟨hg, hn⟩ := and_e (Cond.before_iff.mp (show (Jvm.Cond.and given_1 narrow_1).before args s = true from hpre))
  obtain ⟨hcnt, ha0⟩ := and_e hg
  have hk0 := ha0
  obtain ⟨w0, rfl⟩ : ∃ w0 : Value, args = #[w0] := by
    have hs : args.size = 1 := by simpa [Cond.value, given_1] using hcnt
    obtain ⟨L⟩ := args
    match L, hs with
    | [w0], _ => exact ⟨w0, rfl⟩
  have hw := fun d (hd : d ∈ tables_1) => atoms_spec (ws := Jvm.Cond.code x code maxLocals ret :: tables_1) hat d (List.mem_cons_of_mem _ hd)
  have hfit : Fit s := fun {y c} hc i hi => by
    obtain ⟨ha, rfl⟩ := Array.getElem?_eq_some_iff.mp hc
    have q := List.all_eq_true.mp ((Array.all_eq_true_iff_forall_mem.mp hF) _ (Array.getElem_mem ha)) i (List.mem_range.mpr hi)
    simpa [Array.getElem?_eq_getElem hi] using q
  obtain ⟨i0, ei0⟩ := is_v hk0
  obtain rfl : w0 = (.int i0) := Option.some.inj ei0
  obtain ⟨q0, r0⟩ := and_e hn
  obtain ⟨q1, r1⟩ := and_e r0
  obtain ⟨q2, r2⟩ := and_e r1
  obtain ⟨q3, r3⟩ := and_e r2
  obtain ⟨q4, r4⟩ := and_e r3
  obtain ⟨q5, r5⟩ := and_e r4
  obtain ⟨q6, r6⟩ := and_e r5
  obtain ⟨q7, r7⟩ := and_e r6
  obtain ⟨q8, r8⟩ := and_e r7
  obtain ⟨q9, r9⟩ := and_e r8
  obtain ⟨q10, r10⟩ := and_e r9
  obtain ⟨q11, r11⟩ := and_e r10
  obtain ⟨q12, r12⟩ := and_e r11
  obtain ⟨q13, r13⟩ := and_e r12
  obtain ⟨q14, r14⟩ := and_e r13
  obtain ⟨q15, r15⟩ := and_e r14
  obtain ⟨q16, r16⟩ := and_e r15
  obtain ⟨q17, r17⟩ := and_e r16
  obtain ⟨q18, r18⟩ := and_e r17
  obtain ⟨q19, r19⟩ := and_e r18
  obtain ⟨q20, r20⟩ := and_e r19
  have q21 := r20
  obtain ⟨y0, ev0⟩ := exa_v q0
  have E0 := Exa.start ev0 q0
  have S0 : Sta s s.heap "com/example/stockhold/stockhold/stock/RecordField" "SKU" "Lcom/example/stockhold/stockhold/stock/RecordField;" (.ref y0) := Sta.start ev0 (Or.inr ⟨(hw _ (List.mem_of_getElem? (i := 6) rfl)), (hw _ (List.mem_of_getElem? (i := 7) rfl))⟩)
  have O0 := own_ord ev0 q3
  obtain ⟨y1, ev1⟩ := exa_v q4
  have E1 := Exa.start ev1 q4
  have S1 : Sta s s.heap "com/example/stockhold/stockhold/stock/RecordField" "WAREHOUSE" "Lcom/example/stockhold/stockhold/stock/RecordField;" (.ref y1) := Sta.start ev1 (Or.inr ⟨(hw _ (List.mem_of_getElem? (i := 6) rfl)), (hw _ (List.mem_of_getElem? (i := 17) rfl))⟩)
  have O1 := own_ord ev1 q5
  obtain ⟨y2, ev2⟩ := exa_v q6
  have E2 := Exa.start ev2 q6
  have S2 : Sta s s.heap "com/example/stockhold/stockhold/stock/RecordField" "ON_HAND" "Lcom/example/stockhold/stockhold/stock/RecordField;" (.ref y2) := Sta.start ev2 (Or.inr ⟨(hw _ (List.mem_of_getElem? (i := 6) rfl)), (hw _ (List.mem_of_getElem? (i := 19) rfl))⟩)
  have O2 := own_ord ev2 q7
  obtain ⟨y3, ev3⟩ := exa_v q1
  have E3 := Exa.start ev3 q1
  have S3 : Sta s s.heap "com/example/stockhold/stockhold/stock/RecordField" "THRESHOLD" "Lcom/example/stockhold/stockhold/stock/RecordField;" (.ref y3) := Sta.start ev3 (Or.inr ⟨(hw _ (List.mem_of_getElem? (i := 6) rfl)), (hw _ (List.mem_of_getElem? (i := 15) rfl))⟩)
  have O3 := own_ord ev3 q2
  obtain ⟨y4, ev4⟩ := exa_v q20
  have E4 := Exa.start ev4 q20
  have S4 : Sta s s.heap "com/example/stockhold/stockhold/stock/RecordField" "PREORDERABLE" "Lcom/example/stockhold/stockhold/stock/RecordField;" (.ref y4) := Sta.start ev4 (Or.inr ⟨(hw _ (List.mem_of_getElem? (i := 6) rfl)), (hw _ (List.mem_of_getElem? (i := 35) rfl))⟩)
  have O4 := own_ord ev4 q21
  obtain ⟨y5, ev5⟩ := exa_v q16
  have E5 := Exa.start ev5 q16
  have S5 : Sta s s.heap "com/example/stockhold/stockhold/stock/RecordField" "PREORDER_LIMIT" "Lcom/example/stockhold/stockhold/stock/RecordField;" (.ref y5) := Sta.start ev5 (Or.inr ⟨(hw _ (List.mem_of_getElem? (i := 6) rfl)), (hw _ (List.mem_of_getElem? (i := 31) rfl))⟩)
  have O5 := own_ord ev5 q17
  obtain ⟨y6, ev6⟩ := exa_v q18
  have E6 := Exa.start ev6 q18
  have S6 : Sta s s.heap "com/example/stockhold/stockhold/stock/RecordField" "BACKORDERABLE" "Lcom/example/stockhold/stockhold/stock/RecordField;" (.ref y6) := Sta.start ev6 (Or.inr ⟨(hw _ (List.mem_of_getElem? (i := 6) rfl)), (hw _ (List.mem_of_getElem? (i := 33) rfl))⟩)
  have O6 := own_ord ev6 q19
  obtain ⟨y7, ev7⟩ := exa_v q8
  have E7 := Exa.start ev7 q8
  have S7 : Sta s s.heap "com/example/stockhold/stockhold/stock/RecordField" "BACKORDER_LIMIT" "Lcom/example/stockhold/stockhold/stock/RecordField;" (.ref y7) := Sta.start ev7 (Or.inr ⟨(hw _ (List.mem_of_getElem? (i := 6) rfl)), (hw _ (List.mem_of_getElem? (i := 21) rfl))⟩)
  have O7 := own_ord ev7 q9
  obtain ⟨y8, ev8⟩ := exa_v q10
  have E8 := Exa.start ev8 q10
  have S8 : Sta s s.heap "com/example/stockhold/stockhold/stock/RecordField" "STATUS" "Lcom/example/stockhold/stockhold/stock/RecordField;" (.ref y8) := Sta.start ev8 (Or.inr ⟨(hw _ (List.mem_of_getElem? (i := 6) rfl)), (hw _ (List.mem_of_getElem? (i := 23) rfl))⟩)
  have O8 := own_ord ev8 q11
  obtain ⟨y9, ev9⟩ := exa_v q14
  have E9 := Exa.start ev9 q14
  have S9 : Sta s s.heap "com/example/stockhold/stockhold/stock/RecordField" "AVAILABLE_FROM" "Lcom/example/stockhold/stockhold/stock/RecordField;" (.ref y9) := Sta.start ev9 (Or.inr ⟨(hw _ (List.mem_of_getElem? (i := 6) rfl)), (hw _ (List.mem_of_getElem? (i := 29) rfl))⟩)
  have O9 := own_ord ev9 q15
  obtain ⟨y10, ev10⟩ := exa_v q12
  have E10 := Exa.start ev10 q12
  have S10 : Sta s s.heap "com/example/stockhold/stockhold/stock/RecordField" "PREORDER_FROM" "Lcom/example/stockhold/stockhold/stock/RecordField;" (.ref y10) := Sta.start ev10 (Or.inr ⟨(hw _ (List.mem_of_getElem? (i := 6) rfl)), (hw _ (List.mem_of_getElem? (i := 26) rfl))⟩)
  have O10 := own_ord ev10 q13
  obtain ⟨n, o, h1, h2, h3, _, L, rfl, ⟨rfl, N⟩, hq⟩ := own_rm_law l s _ hw tables_1 i0 s.heap s.heap.size (Nat.le_refl _) y0 y1 y2 y3 y4 y5 y6 y7 y8 y9 y10 S0 S1 S2 S3 S4 S5 S6 S7 S8 S9 S10 E0 E1 E2 E3 E4 E5 E6 E7 E8 E9 E10 (own_ord_ne O0 O1 (by decide)) (own_ord_ne O0 O2 (by decide)) (own_ord_ne O1 O0 (by decide)) (own_ord_ne O1 O2 (by decide)) (own_ord_ne O2 O0 (by decide)) (own_ord_ne O2 O1 (by decide)) (own_ord_ne O3 O0 (by decide)) (own_ord_ne O3 O1 (by decide)) (own_ord_ne O3 O2 (by decide)) (own_ord_ne O4 O0 (by decide)) (own_ord_ne O4 O1 (by decide)) (own_ord_ne O4 O2 (by decide)) (own_ord_ne O5 O0 (by decide)) (own_ord_ne O5 O1 (by decide)) (own_ord_ne O5 O2 (by decide)) (own_ord_ne O6 O0 (by decide)) (own_ord_ne O6 O1 (by decide)) (own_ord_ne O6 O2 (by decide)) (own_ord_ne O7 O0 (by decide)) (own_ord_ne O7 O1 (by decide)) (own_ord_ne O7 O2 (by decide)) (own_ord_ne O8 O0 (by decide)) (own_ord_ne O8 O1 (by decide)) (own_ord_ne O8 O2 (by decide)) (own_ord_ne O9 O0 (by decide)) (own_ord_ne O9 O1 (by decide)) (own_ord_ne O9 O2 (by decide)) (own_ord_ne O10 O0 (by decide)) (own_ord_ne O10 O1 (by decide)) (own_ord_ne O10 O2 (by decide)) p e ha hc hk s m _ below hf ((Spec.applies_iff_loose hf).mp happ).1 ⟨rfl, State.Warmed39.refl s, rfl⟩ trivial
  refine ⟨n, _, h1, h2, h3, hpost _ _ _ _ _ _ ⟨Cond.after_iff.mpr rfl, Cond.after_iff.mpr (eq_i res_at (Term.int_eval (1)) rfl), trivial⟩ ⟨hq.1, hq.2.1, (hq.2.2.sift fun y hy => Or.inr (N y hy)).mono (by decide) (by decide)⟩⟩
theorem main_1_1 : Claimed_1_1 := comes_1 fun _ _ _ _ _ _ h hF => ⟨h.1, hF⟩
theorem main_1_2 : Claimed_1_2 := comes_1 fun _ _ _ _ _ _ h hF => ⟨h.2.1, hF⟩
end Jvm.Pilot.@@N@@
namespace Jvm.Pilot.@@N@@
open Jvm Jvm.ClassFile Sem Op Lib Jvm.Free Jvm.Stand Jvm.Pilot.@@N@@.Jvm.D
/-! MADE BY PROGRAM (witnessworld.py) out of the Statement's table words and the real class files: 12 classes; the members and pool entries that the words name. The judged class is class 1, her method 1. -/
namespace start1
open Jvm.ClassFile
def u (s : String) : CpInfo := .utf8 (stringToUtf16 s)
/-- a pool by its gaps: so many unusable entries, then the entry; so many at the end -/
def gap : Nat → List CpInfo → List CpInfo
  | 0, r => r
  | n + 1, r => .unusable :: gap n r
def poolList (es : List (Nat × CpInfo)) (last : Nat) : List CpInfo := es.foldr (fun e r => gap e.1 (e.2 :: r)) (gap last [])
def pool (es : List (Nat × CpInfo)) (last : Nat) : Array CpInfo := ⟨poolList es last⟩
def fileOf (pool : Array CpInfo) (this : Nat) (attrs : Array Attribute := #[]) (ms : Array MethodInfo := #[]) (fl : Nat := 33) (sup : Nat := 0) (ifs : Array Nat := #[]) (fds : Array FieldInfo := #[]) : ClassFile where
  minorVersion := 0
  majorVersion := 65
  constantPool := pool
  accessFlags := fl
  thisClass := this
  superClass := sup
  interfaces := ifs
  fields := fds
  methods := ms
  attributes := attrs
def plain (name : String) (sup : Option ClassId) : Class where
  name := name
  kind := .ordinary
  loader := none
  accessFlags := 33
  super := sup
  interfaces := #[]
  cf := none
  fields := #[]
  methods := #[]
  instanceTypes := #[]
  staticTypes := #[]
  resolved := #[]
  callSites := []
  init := .initialized
  statics := none
  mirror := none

def pool0 : Array CpInfo := pool [(5, u "<init>"), (0, u "()V"), (1, .class_ 10), (1, u "java/lang/Object")] 113

def k0m0 : Method := { name := "<init>", desc := "()V", sig := { parameters := [], returnType := none }, accessFlags := 1, code := none }
/-- java/lang/Object -/
def k0 : Class := { plain "java/lang/Object" none with
  accessFlags := 33
  interfaces := #[]
  cf := some (fileOf pool0 8 #[] #[{ accessFlags := 1, nameIndex := 5, descriptorIndex := 6, attributes := #[] }] 33 0 #[] #[])
  fields := #[]
  methods := #[k0m0]
  instanceTypes := #[]
  staticTypes := #[]
  resolved := Array.replicate 124 none
  statics := none }

def pool1 : Array CpInfo := pool [(2, .class_ 4), (1, u "java/lang/Object"), (0, u "<init>"), (0, u "()V"), (0, .integer 2147483647), (0, .methodref 9 10), (0, .class_ 11), (0, .nameAndType 12 13), (0, u "com/example/stockhold/stockhold/stock/RecordFieldIsTermPinLaw"), (0, u "field"), (0, u "(I)Lcom/example/stockhold/stockhold/stock/RecordField;"), (0, .methodref 15 16), (0, .class_ 17), (0, .nameAndType 18 19), (0, u "com/example/stockhold/stockhold/stock/RecordField"), (0, u "isTerm"), (0, u "()Z"), (0, .fieldref 15 21), (0, .nameAndType 22 23), (0, u "SKU"), (0, u "Lcom/example/stockhold/stockhold/stock/RecordField;"), (0, .fieldref 15 25), (0, .nameAndType 26 23), (0, u "WAREHOUSE"), (0, .fieldref 15 28), (0, .nameAndType 29 23), (0, u "ON_HAND"), (0, .fieldref 15 31), (0, .nameAndType 32 23), (0, u "THRESHOLD"), (0, .fieldref 15 34), (0, .nameAndType 35 23), (0, u "PREORDERABLE"), (0, .fieldref 15 37), (0, .nameAndType 38 23), (0, u "PREORDER_LIMIT"), (0, .fieldref 15 40), (0, .nameAndType 41 23), (0, u "BACKORDERABLE"), (0, .fieldref 15 43), (0, .nameAndType 44 23), (0, u "BACKORDER_LIMIT"), (0, .fieldref 15 46), (0, .nameAndType 47 23), (0, u "STATUS"), (0, .fieldref 15 49), (0, .nameAndType 50 23), (0, u "AVAILABLE_FROM"), (0, .fieldref 15 52), (0, .nameAndType 53 23), (0, u "PREORDER_FROM"), (2, u "law"), (0, u "(I)Z")] 3

def k1m0 : Method := { name := "<init>", desc := "()V", sig := { parameters := [], returnType := none }, accessFlags := 1, code := none }
def k1c1 : Code := { maxStack := 2, maxLocals := 4, code := code, exceptionTable := #[], attributes := #[] }
def k1m1 : Method := { name := "law", desc := "(I)Z", sig := { parameters := [.int], returnType := some .boolean }, accessFlags := 9, code := some k1c1 }
def k1c2 : Code := { maxStack := 2, maxLocals := 1, code := method_3_code, exceptionTable := #[], attributes := #[] }
def k1m2 : Method := { name := "field", desc := "(I)Lcom/example/stockhold/stockhold/stock/RecordField;", sig := { parameters := [.int], returnType := some (.object "com/example/stockhold/stockhold/stock/RecordField") }, accessFlags := 10, code := some k1c2 }
/-- com/example/stockhold/stockhold/stock/RecordFieldIsTermPinLaw -/
def k1 : Class := { plain "com/example/stockhold/stockhold/stock/RecordFieldIsTermPinLaw" (some 0) with
  accessFlags := 49
  interfaces := #[]
  cf := some (fileOf pool1 9 #[] #[{ accessFlags := 1, nameIndex := 5, descriptorIndex := 6, attributes := #[] }, { accessFlags := 9, nameIndex := 56, descriptorIndex := 57, attributes := #[] }, { accessFlags := 10, nameIndex := 12, descriptorIndex := 13, attributes := #[] }] 49 2 #[] #[])
  fields := #[]
  methods := #[k1m0, k1m1, k1m2]
  instanceTypes := #[]
  staticTypes := #[]
  resolved := Array.replicate 61 none
  statics := none }

def pool2 : Array CpInfo := pool [(1, .class_ 2), (0, u "java/lang/constant/Constable"), (0, .class_ 4), (0, u "java/lang/Object")] 6

/-- java/lang/constant/Constable -/
def k2 : Class := { plain "java/lang/constant/Constable" (some 0) with
  accessFlags := 1537
  interfaces := #[]
  cf := some (fileOf pool2 1 #[] #[] 1537 3 #[] #[])
  fields := #[]
  methods := #[]
  instanceTypes := #[]
  staticTypes := #[]
  resolved := Array.replicate 11 none
  statics := none }

def pool3 : Array CpInfo := pool [(1, .class_ 2), (0, u "java/lang/Comparable"), (0, .class_ 4), (0, u "java/lang/Object")] 7

/-- java/lang/Comparable -/
def k3 : Class := { plain "java/lang/Comparable" (some 0) with
  accessFlags := 1537
  interfaces := #[]
  cf := some (fileOf pool3 1 #[] #[] 1537 3 #[] #[])
  fields := #[]
  methods := #[]
  instanceTypes := #[]
  staticTypes := #[]
  resolved := Array.replicate 12 none
  statics := none }

def pool4 : Array CpInfo := pool [(1, .class_ 2), (0, u "java/io/Serializable"), (0, .class_ 4), (0, u "java/lang/Object")] 2

/-- java/io/Serializable -/
def k4 : Class := { plain "java/io/Serializable" (some 0) with
  accessFlags := 1537
  interfaces := #[]
  cf := some (fileOf pool4 1 #[] #[] 1537 3 #[] #[])
  fields := #[]
  methods := #[]
  instanceTypes := #[]
  staticTypes := #[]
  resolved := Array.replicate 7 none
  statics := none }

def pool5 : Array CpInfo := pool [(2, .class_ 4), (1, u "java/lang/Enum"), (0, u "name"), (0, u "Ljava/lang/String;"), (2, u "ordinal"), (0, u "I"), (1, .class_ 14), (1, u "java/lang/Object"), (4, u "hash"), (86, .class_ 108), (1, u "java/lang/Enum$EnumDesc"), (2, .class_ 112), (0, u "java/lang/constant/Constable"), (0, .class_ 114), (0, u "java/lang/Comparable"), (0, .class_ 116), (0, u "java/io/Serializable")] 87

/-- java/lang/Enum -/
def k5 : Class := { plain "java/lang/Enum" (some 0) with
  accessFlags := 1057
  interfaces := #[2, 3, 4]
  cf := some (fileOf pool5 2 #[.nestMembers #[106]] #[] 1057 12 #[111, 113, 115] #[{ accessFlags := 18, nameIndex := 5, descriptorIndex := 6, attributes := #[] }, { accessFlags := 18, nameIndex := 9, descriptorIndex := 10, attributes := #[] }, { accessFlags := 2, nameIndex := 19, descriptorIndex := 10, attributes := #[] }])
  fields := #[{ name := "name", type := (.object "java/lang/String"), accessFlags := 18, slot := 0, constantValue := 0 }, { name := "ordinal", type := .int, accessFlags := 18, slot := 1, constantValue := 0 }, { name := "hash", type := .int, accessFlags := 2, slot := 2, constantValue := 0 }]
  methods := #[]
  instanceTypes := #[(.object "java/lang/String"), .int, .int]
  staticTypes := #[]
  resolved := Array.replicate 204 none
  statics := none }

def pool6 : Array CpInfo := pool [(1, .class_ 2), (0, u "com/example/stockhold/stockhold/stock/RecordField"), (0, .fieldref 1 4), (0, .nameAndType 5 6), (0, u "SKU"), (0, u "Lcom/example/stockhold/stockhold/stock/RecordField;"), (0, .fieldref 1 8), (0, .nameAndType 9 6), (0, u "WAREHOUSE"), (0, .fieldref 1 11), (0, .nameAndType 12 6), (0, u "ON_HAND"), (2, u "THRESHOLD"), (2, u "PREORDERABLE"), (2, u "PREORDER_LIMIT"), (2, u "BACKORDERABLE"), (2, u "BACKORDER_LIMIT"), (2, u "STATUS"), (2, u "AVAILABLE_FROM"), (2, u "PREORDER_FROM"), (2, u "$VALUES"), (0, u "[Lcom/example/stockhold/stockhold/stock/RecordField;"), (6, .class_ 49), (1, u "java/lang/Enum"), (8, u "fieldName"), (0, u "Ljava/lang/String;"), (2, u "form"), (0, u "Lcom/example/stockhold/stockhold/stock/RecordField$Form;"), (2, u "FIELDS"), (40, u "()Z"), (99, .class_ 208), (0, u "com/example/stockhold/stockhold/stock/RecordField$Form"), (67, u "FLAGS"), (0, u "Ljava/util/List;"), (14, u "STATUSES"), (113, u "isTerm")] 69

def k6c0 : Code := { maxStack := 2, maxLocals := 1, code := prog_63_method_6_code, exceptionTable := #[], attributes := #[] }
def k6m0 : Method := { name := "isTerm", desc := "()Z", sig := { parameters := [], returnType := some .boolean }, accessFlags := 1, code := some k6c0 }
/-- com/example/stockhold/stockhold/stock/RecordField -/
def k6 : Class := { plain "com/example/stockhold/stockhold/stock/RecordField" (some 5) with
  accessFlags := 16433
  interfaces := #[]
  cf := some (fileOf pool6 1 #[.nestMembers #[207]] #[{ accessFlags := 1, nameIndex := 406, descriptorIndex := 107, attributes := #[] }] 16433 47 #[] #[{ accessFlags := 16409, nameIndex := 5, descriptorIndex := 6, attributes := #[] }, { accessFlags := 16409, nameIndex := 9, descriptorIndex := 6, attributes := #[] }, { accessFlags := 16409, nameIndex := 12, descriptorIndex := 6, attributes := #[] }, { accessFlags := 16409, nameIndex := 15, descriptorIndex := 6, attributes := #[] }, { accessFlags := 16409, nameIndex := 18, descriptorIndex := 6, attributes := #[] }, { accessFlags := 16409, nameIndex := 21, descriptorIndex := 6, attributes := #[] }, { accessFlags := 16409, nameIndex := 24, descriptorIndex := 6, attributes := #[] }, { accessFlags := 16409, nameIndex := 27, descriptorIndex := 6, attributes := #[] }, { accessFlags := 16409, nameIndex := 30, descriptorIndex := 6, attributes := #[] }, { accessFlags := 16409, nameIndex := 33, descriptorIndex := 6, attributes := #[] }, { accessFlags := 16409, nameIndex := 36, descriptorIndex := 6, attributes := #[] }, { accessFlags := 26, nameIndex := 66, descriptorIndex := 40, attributes := #[] }, { accessFlags := 26, nameIndex := 276, descriptorIndex := 277, attributes := #[] }, { accessFlags := 26, nameIndex := 292, descriptorIndex := 277, attributes := #[] }, { accessFlags := 18, nameIndex := 58, descriptorIndex := 59, attributes := #[] }, { accessFlags := 18, nameIndex := 62, descriptorIndex := 63, attributes := #[] }, { accessFlags := 4122, nameIndex := 39, descriptorIndex := 40, attributes := #[] }])
  fields := #[{ name := "SKU", type := (.object "com/example/stockhold/stockhold/stock/RecordField"), accessFlags := 16409, slot := 0, constantValue := 0 }, { name := "WAREHOUSE", type := (.object "com/example/stockhold/stockhold/stock/RecordField"), accessFlags := 16409, slot := 1, constantValue := 0 }, { name := "ON_HAND", type := (.object "com/example/stockhold/stockhold/stock/RecordField"), accessFlags := 16409, slot := 2, constantValue := 0 }, { name := "THRESHOLD", type := (.object "com/example/stockhold/stockhold/stock/RecordField"), accessFlags := 16409, slot := 3, constantValue := 0 }, { name := "PREORDERABLE", type := (.object "com/example/stockhold/stockhold/stock/RecordField"), accessFlags := 16409, slot := 4, constantValue := 0 }, { name := "PREORDER_LIMIT", type := (.object "com/example/stockhold/stockhold/stock/RecordField"), accessFlags := 16409, slot := 5, constantValue := 0 }, { name := "BACKORDERABLE", type := (.object "com/example/stockhold/stockhold/stock/RecordField"), accessFlags := 16409, slot := 6, constantValue := 0 }, { name := "BACKORDER_LIMIT", type := (.object "com/example/stockhold/stockhold/stock/RecordField"), accessFlags := 16409, slot := 7, constantValue := 0 }, { name := "STATUS", type := (.object "com/example/stockhold/stockhold/stock/RecordField"), accessFlags := 16409, slot := 8, constantValue := 0 }, { name := "AVAILABLE_FROM", type := (.object "com/example/stockhold/stockhold/stock/RecordField"), accessFlags := 16409, slot := 9, constantValue := 0 }, { name := "PREORDER_FROM", type := (.object "com/example/stockhold/stockhold/stock/RecordField"), accessFlags := 16409, slot := 10, constantValue := 0 }, { name := "FIELDS", type := (.array (.object "com/example/stockhold/stockhold/stock/RecordField")), accessFlags := 26, slot := 11, constantValue := 0 }, { name := "FLAGS", type := (.object "java/util/List"), accessFlags := 26, slot := 12, constantValue := 0 }, { name := "STATUSES", type := (.object "java/util/List"), accessFlags := 26, slot := 13, constantValue := 0 }, { name := "fieldName", type := (.object "java/lang/String"), accessFlags := 18, slot := 3, constantValue := 0 }, { name := "form", type := (.object "com/example/stockhold/stockhold/stock/RecordField$Form"), accessFlags := 18, slot := 4, constantValue := 0 }, { name := "$VALUES", type := (.array (.object "com/example/stockhold/stockhold/stock/RecordField")), accessFlags := 4122, slot := 14, constantValue := 0 }]
  methods := #[k6m0]
  instanceTypes := #[(.object "java/lang/String"), .int, .int, (.object "java/lang/String"), (.object "com/example/stockhold/stockhold/stock/RecordField$Form")]
  staticTypes := #[(.object "com/example/stockhold/stockhold/stock/RecordField"), (.object "com/example/stockhold/stockhold/stock/RecordField"), (.object "com/example/stockhold/stockhold/stock/RecordField"), (.object "com/example/stockhold/stockhold/stock/RecordField"), (.object "com/example/stockhold/stockhold/stock/RecordField"), (.object "com/example/stockhold/stockhold/stock/RecordField"), (.object "com/example/stockhold/stockhold/stock/RecordField"), (.object "com/example/stockhold/stockhold/stock/RecordField"), (.object "com/example/stockhold/stockhold/stock/RecordField"), (.object "com/example/stockhold/stockhold/stock/RecordField"), (.object "com/example/stockhold/stockhold/stock/RecordField"), (.array (.object "com/example/stockhold/stockhold/stock/RecordField")), (.object "java/util/List"), (.object "java/util/List"), (.array (.object "com/example/stockhold/stockhold/stock/RecordField"))]
  resolved := Array.replicate 476 none
  statics := some 0 }

def pool7 : Array CpInfo := pool [(1, u "java/lang/Cloneable"), (0, .class_ 1), (0, u "java/lang/Object"), (0, .class_ 3)] 3

/-- java/lang/Cloneable -/
def k7 : Class := { plain "java/lang/Cloneable" (some 0) with
  accessFlags := 1537
  interfaces := #[]
  cf := some (fileOf pool7 2 #[] #[] 1537 4 #[] #[])
  fields := #[]
  methods := #[]
  instanceTypes := #[]
  staticTypes := #[]
  resolved := Array.replicate 8 none
  statics := none }

/-- the primitive byte -/
def k8 : Class := { plain "byte" none with kind := .primitive 'B', accessFlags := 0x411 }
/-- [B -/
def k9 : Class := { plain "[B" (some 0) with kind := .array 8 .byte, interfaces := #[7, 4], accessFlags := 1041 }

/-- the primitive int -/
def k10 : Class := { plain "int" none with kind := .primitive 'I', accessFlags := 0x411 }
/-- [I -/
def k11 : Class := { plain "[I" (some 0) with kind := .array 10 .int, interfaces := #[7, 4], accessFlags := 1041 }

def heap : Heap := #[{ cls := 6, slots := #[.ref 1, .ref 2, .ref 3, .ref 4, .ref 5, .ref 6, .ref 7, .ref 8, .ref 9, .ref 10, .ref 11, .null, .null, .null, .null], vm := .statics 6 },
  { cls := 6, slots := #[.null, .int 0, .int 0, .null, .null], vm := .none },
  { cls := 6, slots := #[.null, .int 1, .int 0, .null, .null], vm := .none },
  { cls := 6, slots := #[.null, .int 2, .int 0, .null, .null], vm := .none },
  { cls := 6, slots := #[.null, .int 3, .int 0, .null, .null], vm := .none },
  { cls := 6, slots := #[.null, .int 4, .int 0, .null, .null], vm := .none },
  { cls := 6, slots := #[.null, .int 5, .int 0, .null, .null], vm := .none },
  { cls := 6, slots := #[.null, .int 6, .int 0, .null, .null], vm := .none },
  { cls := 6, slots := #[.null, .int 7, .int 0, .null, .null], vm := .none },
  { cls := 6, slots := #[.null, .int 8, .int 0, .null, .null], vm := .none },
  { cls := 6, slots := #[.null, .int 9, .int 0, .null, .null], vm := .none },
  { cls := 6, slots := #[.null, .int 10, .int 0, .null, .null], vm := .none }]
def classes : Array Class := #[k0, k1, k2, k3, k4, k5, k6, k7, k8, k9, k10, k11]
def interned : List (Array UInt16 × Addr) := []
def slotsUsed : Nat := 70
def theMethod : MethodId := ⟨1, 1⟩
def args0 : Array Value := #[.int 5]
def aboutOver (below : List Frame) : State where
  vm := { classes := classes, interned := interned.toArray }
  heap := heap
  slotsUsed := slotsUsed
  threads := #[{ frames := .invoking theMethod args0 :: below }]
def below0 : List Frame := [.native { method := ⟨0, 0⟩, args := #[] }]
def about1 : State := aboutOver below0
def p0 : Program := .bare "" "" ""
def e0 : Env := launch0.env 0 0 0
theorem w_frames : about1.frames = Frame.invoking theMethod args0 :: below0 := rfl
set_option maxRecDepth 65536 in
theorem w_args : argsFit about1.vm theMethod args0 = true := by decide +kernel
set_option maxRecDepth 65536 in
theorem w_heap : heapFits about1 = true := by decide +kernel
set_option maxRecDepth 65536 in
theorem w_runnable : about1.curStatus? = some .runnable := by decide +kernel
set_option maxRecDepth 65536 in
theorem w_alone : about1.alone = true := by decide +kernel
set_option maxRecDepth 65536 in
theorem w_named : about1.methodNamed? x = some theMethod := by decide +kernel
set_option maxRecDepth 65536 in
theorem w_hears : about1.hears theMethod below0 = true := by decide +kernel
set_option maxRecDepth 65536 in
theorem w_ripe : about1.ripe theMethod args0 below0 = true := by decide +kernel
theorem w_running : about1.status = .running := rfl
set_option maxRecDepth 65536 in
theorem w_room : about1.hasRoom e0.platform room_1 = true :=
  launch0.hasRoom_least _ room_1 (by decide +kernel) (by decide +kernel) (by decide +kernel) (by decide +kernel) (by decide +kernel) (by decide +kernel)
theorem allAtoms_all (ts : List Jvm.Cond) (a : Array Jvm.Value) (st : Jvm.State) : (allAtoms ts).before a st = ts.all (fun c => c.before a st) := by
  induction ts with
  | nil => rfl
  | cons c t ih =>
    show (Jvm.Cond.and c (allAtoms t)).before a st = _
    rw [Jvm.Cond.before_and, ih, List.all_cons]
def words1 : List Jvm.Cond := Jvm.Cond.code x code maxLocals ret :: tables_1
/-- a 'code' word, met by the world's own term for the bytes: nothing is compared byte by byte -/
theorem code_word {y : MethodName} {bytes : ByteArray} {mx : Nat} {rt : Option FieldType} {a : Array Value} {s : State} {m : MethodId} {meth : Method} {c : Code} (h1 : s.methodNamed? y = some m) (h2 : s.vm.method? m = some meth) (h3 : meth.code = some c) (h4 : c.code = bytes)
    (h5 : (c.maxLocals == mx && c.exceptionTable.isEmpty && decide (c.maxStack ≤ mostOperands) && decide (meth.sig.returnType = rt) && !meth.locks && decide (parseMethodDescriptor y.desc = some meth.sig)) = true) : (Jvm.Cond.code y bytes mx rt).before a s = true := by
  simp only [Bool.and_eq_true, beq_iff_eq, Bool.not_eq_true', decide_eq_true_eq] at h5
  obtain ⟨⟨⟨⟨⟨g1, g2⟩, g3⟩, g4⟩, g5⟩, g6⟩ := h5
  simp [Cond.before, Cond.holds, Cond.value, h1, h2, h3, h4, g1, g2, g3, g4, g5, g6]
def isCode : Jvm.Cond → Bool
  | .code _ _ _ _ => true
  | _ => false
theorem all_split {L : List Jvm.Cond} {P : Jvm.Cond → Bool} (h1 : L.all (fun c => isCode c || P c) = true) (h2 : ∀ c ∈ L.filter isCode, P c = true) : L.all P = true := by
  refine List.all_eq_true.mpr fun c hc => ?_
  have h := List.all_eq_true.mp h1 c hc
  rcases Bool.eq_false_or_eq_true (isCode c) with hi | hi
  · exact h2 c (List.mem_filter.mpr ⟨hc, hi⟩)
  · simpa [hi] using h
set_option maxRecDepth 65536 in
theorem w_c0 : (Jvm.Cond.code x code maxLocals ret).before args0 about1 = true := code_word (m := ⟨1, 1⟩) (meth := k1m1) (c := k1c1) (by decide +kernel) rfl rfl rfl (by decide +kernel)
set_option maxRecDepth 65536 in
theorem w_c1 : (Jvm.Cond.code ({ cls := "com/example/stockhold/stockhold/stock/RecordFieldIsTermPinLaw", name := "field", desc := "(I)Lcom/example/stockhold/stockhold/stock/RecordField;" } : Jvm.MethodName) method_3_code (1 : Nat) (Option.some (Jvm.ClassFile.FieldType.object "com/example/stockhold/stockhold/stock/RecordField"))).before args0 about1 = true := code_word (m := ⟨1, 2⟩) (meth := k1m2) (c := k1c2) (by decide +kernel) rfl rfl rfl (by decide +kernel)
set_option maxRecDepth 65536 in
theorem w_c2 : (Jvm.Cond.code ({ cls := "com/example/stockhold/stockhold/stock/RecordField", name := "isTerm", desc := "()Z" } : Jvm.MethodName) prog_63_method_6_code (1 : Nat) (Option.some Jvm.ClassFile.FieldType.boolean)).before args0 about1 = true := code_word (m := ⟨6, 0⟩) (meth := k6m0) (c := k6c0) (by decide +kernel) rfl rfl rfl (by decide +kernel)
def codes1 : List Jvm.Cond := [Jvm.Cond.code x code maxLocals ret, Jvm.Cond.code ({ cls := "com/example/stockhold/stockhold/stock/RecordFieldIsTermPinLaw", name := "field", desc := "(I)Lcom/example/stockhold/stockhold/stock/RecordField;" } : Jvm.MethodName) method_3_code (1 : Nat) (Option.some (Jvm.ClassFile.FieldType.object "com/example/stockhold/stockhold/stock/RecordField")), Jvm.Cond.code ({ cls := "com/example/stockhold/stockhold/stock/RecordField", name := "isTerm", desc := "()Z" } : Jvm.MethodName) prog_63_method_6_code (1 : Nat) (Option.some Jvm.ClassFile.FieldType.boolean)]
set_option maxRecDepth 65536 in
theorem codes_eq : words1.filter isCode = codes1 := rfl
theorem w_codes : ∀ c ∈ words1.filter isCode, c.before args0 about1 = true := by
  rw [codes_eq]
  intro c hc
  simp only [codes1, List.mem_cons, List.not_mem_nil, or_false] at hc
  rcases hc with rfl | rfl | rfl
  · exact w_c0
  · exact w_c1
  · exact w_c2
set_option maxRecDepth 65536 in
theorem w_t1 : (words1.take 24).all (fun c => isCode c || c.before args0 about1) = true := by decide +kernel
set_option maxRecDepth 65536 in
theorem w_t2 : (words1.drop 24).all (fun c => isCode c || c.before args0 about1) = true := by decide +kernel
theorem w_tables : (allAtoms (Jvm.Cond.code x code maxLocals ret :: tables_1)).before args0 about1 = true := by
  rw [allAtoms_all]
  show words1.all (fun c => c.before args0 about1) = true
  refine all_split ?_ w_codes
  rw [← List.take_append_drop 24 words1, List.all_append, w_t1, w_t2]
  rfl
set_option maxRecDepth 65536 in
theorem w_case : (Jvm.Cond.and given_1 narrow_1).before args0 about1 = true := by decide +kernel
theorem w_applies : (headSpec (Jvm.Cond.code x code maxLocals ret :: tables_1) room_1).applies x e0.platform about1 = true :=
  (Spec.applies_iff w_frames).mpr ⟨w_running, w_runnable, w_alone, w_named, w_hears, w_ripe, w_room, w_tables⟩
theorem atStart : AtStart classFile x code maxLocals ret World_1 tables_1 room_1 Calls_1 rest_1 Pre_1 launch0 p0 e0 about1 theMethod args0 below0 :=
  ⟨lists_1, trivial, launch0.admits_env _ _ _, launch0.least_env, fairChoices_fair.cas, fairChoices_fair.clock, w_frames, w_args, w_heap, w_applies, trivial, trivial, w_case⟩
end start1
theorem witness_1 : WitnessClaimed_1 := ⟨start1.p0, start1.e0, start1.about1, start1.theMethod, start1.args0, start1.below0, start1.atStart⟩
end Jvm.Pilot.@@N@@
