import JvmDerived
import JvmDerived.Pilot.@@N@@Statement
import JvmDerived.Pilot.@@N@@Code
set_option linter.unusedVariables false
set_option linter.unusedSimpArgs false
namespace Jvm.Pilot.@@N@@
open Jvm Jvm.ClassFile Sem Op Lib Jvm.Free Jvm.Stand Jvm.LawKit Jvm.RoadKit Bundle Jvm.Pilot.@@N@@.Jvm.D
section OwnLayer
variable {p : Program} {l : Launch} {e : Env} {R : Room} {s : State} {m : MethodId} {args : Array Value} {below : List Frame} {meth : Method} {c : Code} {T : State} {locs : List Loc} {cells slots : Nat}
/-- what is to be shown from the state S on: the run comes back, Q holds of what it leaves -/
def own_G (p : Program) (e : Env) (below : List Frame) (s : State) (k n : Nat) (Q : Option Value → Heap → List Loc → Prop) (S : State) : Prop :=
  ∃ t o, Steps p.tables e below S t ∧ t.status = .running ∧ Ended t below o ∧ ∃ v L, o = .returned v ∧ Q v t.heap L ∧ FrameEnd s o t L k n
theorem own_to {k n : Nat} {Q : Option Value → Heap → List Loc → Prop} {S S' : State} (h : ∀ t, Steps p.tables e below S' t → Steps p.tables e below S t) (g : own_G p e below s k n Q S') : own_G p e below s k n Q S := by
  obtain ⟨t, o, h1, h2⟩ := g
  exact ⟨t, o, h t h1, h2⟩
theorem own_retI {k n : Nat} {Q : Option Value → Heap → List Loc → Prop} (X : Stand p l e R s m args below meth c T locs cells slots) (hx : p.tables.exec = Jvm.exec) {pc : Nat} {Ls : Array Slot} {z : Int32} (hret : meth.sig.returnType = some .int) (hd : decode c.code pc = .ok (.ireturn, 1)) (hlk : meth.locks = false) (hk : cells ≤ k) (hn : slots ≤ n) (hq : Q (some (.int z)) T.heap locs) :
    own_G p e below s k n Q (T.setTop (mkF m pc Ls [.int z])) := by
  obtain ⟨fs, hr, hrun, hended, hW, hsame⟩ := X.leave (v := some (.int z)) (fun h => by rw [hret] at h; cases h) hlk
  exact ⟨_, _, X.ireturnOut hx hret rfl (Or.inl rfl) hd hr, hrun, hended, _, _, rfl, hq, ⟨_, rfl⟩, hW, hsame.mono hk hn⟩
theorem own_retN {k n : Nat} {Q : Option Value → Heap → List Loc → Prop} (X : Stand p l e R s m args below meth c T locs cells slots) (hx : p.tables.exec = Jvm.exec) {pc : Nat} {Ls : Array Slot} {z : Int32} {t : FieldType} {rest : List Value} (hret : meth.sig.returnType = some t) (ht : t = .boolean ∨ t = .byte ∨ t = .char ∨ t = .short) (hd : decode c.code pc = .ok (.ireturn, 1)) (hlk : meth.locks = false) (hk : cells ≤ k) (hn : slots ≤ n) (hq : Q (some (.int (nar t z))) T.heap locs) :
    own_G p e below s k n Q (T.setTop (mkF m pc Ls (.int z :: rest))) := by
  obtain ⟨fs, hr, hrun, hended, hW, hsame⟩ := X.leave (v := some (.int (nar t z))) (fun h => by rw [hret] at h; cases h) hlk
  exact ⟨_, _, retN X hx hret ht hd hr, hrun, hended, _, _, rfl, hq, ⟨_, rfl⟩, hW, hsame.mono hk hn⟩
theorem own_retJ {k n : Nat} {Q : Option Value → Heap → List Loc → Prop} (X : Stand p l e R s m args below meth c T locs cells slots) (hx : p.tables.exec = Jvm.exec) {pc : Nat} {Ls : Array Slot} {z : Int64} (hret : meth.sig.returnType = some .long) (hd : decode c.code pc = .ok (.lreturn, 1)) (hlk : meth.locks = false) (hk : cells ≤ k) (hn : slots ≤ n) (hq : Q (some (.long z)) T.heap locs) :
    own_G p e below s k n Q (T.setTop (mkF m pc Ls [.long z])) := by
  obtain ⟨fs, hr, hrun, hended, hW, hsame⟩ := X.leave (v := some (.long z)) (fun h => by rw [hret] at h; cases h) hlk
  exact ⟨_, _, X.lreturnOut hx hret hd hr, hrun, hended, _, _, rfl, hq, ⟨_, rfl⟩, hW, hsame.mono hk hn⟩
theorem own_retA {k n : Nat} {Q : Option Value → Heap → List Loc → Prop} (X : Stand p l e R s m args below meth c T locs cells slots) (hx : p.tables.exec = Jvm.exec) {pc : Nat} {Ls : Array Slot} {w : Value} {t : FieldType} (hw : w.isRef = true) (hret : meth.sig.returnType = some t) (ht : t.isReference = true) (hd : decode c.code pc = .ok (.areturn, 1)) (hlk : meth.locks = false) (hk : cells ≤ k) (hn : slots ≤ n) (hq : Q (some w) T.heap locs) :
    own_G p e below s k n Q (T.setTop (mkF m pc Ls [w])) := by
  obtain ⟨fs, hr, hrun, hended, hW, hsame⟩ := X.leave (v := some w) (fun h => by rw [hret] at h; cases h) hlk
  exact ⟨_, _, X.areturnOut hx hw hret ht hd hr, hrun, hended, _, _, rfl, hq, ⟨_, rfl⟩, hW, hsame.mono hk hn⟩
theorem own_retV {k n : Nat} {Q : Option Value → Heap → List Loc → Prop} (X : Stand p l e R s m args below meth c T locs cells slots) (hx : p.tables.exec = Jvm.exec) {pc : Nat} {Ls : Array Slot} (hret : meth.sig.returnType = none) (hd : decode c.code pc = .ok (.return_, 1)) (hlk : meth.locks = false) (hk : cells ≤ k) (hn : slots ≤ n) (hq : Q none T.heap locs) :
    own_G p e below s k n Q (T.setTop (mkF m pc Ls [])) := by
  obtain ⟨fs, hr, hrun, hended, hW, hsame⟩ := X.leave (v := none) (fun _ => rfl) hlk
  exact ⟨_, _, X.returnOut hx hret hd hr, hrun, hended, _, _, rfl, hq, ⟨_, rfl⟩, hW, hsame.mono hk hn⟩
end OwnLayer
/-- a callee that leaves the heap as it was and returns r -/
def own_Qp (r : Option Value) (h0 : Heap) (n0 : Nat) (v : Option Value) (h : Heap) (L : List Loc) : Prop := v = r ∧ Fr n0 L ∧ h = h0
/-- the law itself -/
def own_Ql (n0 : Nat) (v : Option Value) (h : Heap) (L : List Loc) : Prop := v = some (.int 1) ∧ Fr n0 L
/-- a reference's int field, out of the case's words -/
theorem own_ord {args : Array Value} {s : State} {t : Jvm.Term} {C n d : String} {k : Int32} {x : Addr} (ht : t.eval args s none [] s = some (.ref x)) (h : (Jvm.Cond.eq (.field t C n d) (.int k)).value args s none s [] = some true) : s.fieldOf? x C n d = some (.int k) := by
  obtain ⟨u, w, e1, e2, K1, K2⟩ := cmp_v (Or.inl h)
  have e3 : some w = some (.int k) := e2.symm.trans (Term.int_eval k)
  obtain rfl := Option.some.inj e3
  obtain ⟨z, rfl⟩ := K2
  have e4 := gotT (Cond.eq_ints e1 e2) h
  rw [fld_at ht] at e1
  rw [e1, e4]
theorem own_ord_ne {s : State} {C n d : String} {x y : Addr} {k k' : Int32} (h : s.fieldOf? x C n d = some (.int k)) (h' : s.fieldOf? y C n d = some (.int k')) (hk : k ≠ k') : ¬ (x = y) := fun q => by
  subst q
  rw [h] at h'
  exact hk (Value.int.inj (Option.some.inj h'))
theorem own_pn0 : plainName "com/example/wary_ddl/waryddl/sql/StatementKind" = true := by first | (simp [plainName, overriddenIn]; done) | decide +kernel
theorem own_pn1 : plainName "com/example/wary_ddl/waryddl/sql/StatementKindIsJudgedPinLaw" = true := by first | (simp [plainName, overriddenIn]; done) | decide +kernel
theorem own_pd0 : parseMethodDescriptor "()Z" = some ⟨[], some .boolean⟩ := by decide +kernel
theorem d_prog_234_method_4_0 : decode prog_234_method_4_code 0 = .ok (.aload_n 0, 1) := by decide +kernel
theorem d_prog_234_method_4_1 : decode prog_234_method_4_code 1 = .ok (.getstatic 31, 3) := by decide +kernel
theorem d_prog_234_method_4_4 : decode prog_234_method_4_code 4 = .ok (.if_acmp .eq 21, 3) := by decide +kernel
theorem d_prog_234_method_4_7 : decode prog_234_method_4_code 7 = .ok (.aload_n 0, 1) := by decide +kernel
theorem d_prog_234_method_4_8 : decode prog_234_method_4_code 8 = .ok (.getstatic 46, 3) := by decide +kernel
theorem d_prog_234_method_4_11 : decode prog_234_method_4_code 11 = .ok (.if_acmp .eq 14, 3) := by decide +kernel
theorem d_prog_234_method_4_14 : decode prog_234_method_4_code 14 = .ok (.aload_n 0, 1) := by decide +kernel
theorem d_prog_234_method_4_15 : decode prog_234_method_4_code 15 = .ok (.getstatic 49, 3) := by decide +kernel
theorem d_prog_234_method_4_18 : decode prog_234_method_4_code 18 = .ok (.if_acmp .eq 7, 3) := by decide +kernel
theorem d_prog_234_method_4_21 : decode prog_234_method_4_code 21 = .ok (.iconst 1, 1) := by decide +kernel
theorem d_prog_234_method_4_22 : decode prog_234_method_4_code 22 = .ok (.goto 4, 3) := by decide +kernel
theorem d_prog_234_method_4_25 : decode prog_234_method_4_code 25 = .ok (.iconst 0, 1) := by decide +kernel
theorem d_prog_234_method_4_26 : decode prog_234_method_4_code 26 = .ok (.ireturn, 1) := by decide +kernel
section OwnArr
variable {Z : State} {h h' : Heap} {a b : Addr} {ty : FieldType} {vs : List Value} {xs : List Int32} {ys : List Int64}
/-- the array at a holds just the values vs -/
def own_V (Z : State) (h : Heap) (a : Addr) (ty : FieldType) (vs : List Value) : Prop := ∃ c : Cell, Arr Z h a c ty ∧ c.slots.toList = vs ∧ vs.length < 2 ^ 31
theorem own_V_lt (F : own_V Z h a ty vs) : a < h.size := by obtain ⟨c, A, -⟩ := F; exact A.lt
theorem own_V_ext (F : own_V Z h a ty vs) (E : Ext h h') : own_V Z h' a ty vs := by obtain ⟨c, A, r⟩ := F; exact ⟨c, A.ext E, r⟩
theorem own_V_other {sl : Nat} {v : Value} (F : own_V Z h b ty vs) (W : Wr h h' a sl v) (q : b ≠ a) : own_V Z h' b ty vs := by obtain ⟨c, A, r⟩ := F; exact ⟨c, A.other W q, r⟩
theorem own_V_keep {ws : List Addr} (F : own_V Z h a ty vs) (K : Keep h h' ws) (q : a ∉ ws) : own_V Z h' a ty vs := by
  obtain ⟨c, A, r⟩ := F
  exact ⟨c, ⟨K.2.1 a c A.1 q, A.2⟩, r⟩
theorem own_V_set {j : Int32} {k : Nat} {v : Value} (F : own_V Z h a ty vs) (W : Wr h h' a j.toNatClampNeg v) (hj : j.toNatClampNeg = k) : own_V Z h' a ty (vs.set k v) := by
  obtain ⟨c, A, r, q⟩ := F
  subst hj r
  refine ⟨_, A.same W, ?_, ?_⟩
  · simp [Cell.setSlot]
  · rw [List.length_set]; exact q
theorem own_V_new {k : ClassId} {n : Int32} {m : Nat} (A : Arr Z h a (newA k ty n) ty) (hm : n.toNatClampNeg = m) (hn : m < 2 ^ 31) : own_V Z h a ty (List.replicate m (defaultValue ty)) := by
  subst hm
  refine ⟨_, A, by simp [newA], ?_⟩
  rw [List.length_replicate]; exact hn
theorem own_tn {j : Int32} (h0 : 0 ≤ j.toInt) : (j.toNatClampNeg : Int) = j.toInt := by
  show ((j.toInt.toNat : Nat) : Int) = j.toInt
  omega
theorem own_neg {j : Int32} (h0 : 0 ≤ j.toInt) : ¬ j < 0 := by
  rw [Int32.lt_iff_toInt_lt, show (0 : Int32).toInt = 0 from rfl]; omega
theorem own_hin {c : Cell} {j : Int32} (S : c.slots.toList = vs) (h0 : 0 ≤ j.toInt) (h1 : j.toInt < vs.length) : ¬ (j < 0 ∨ c.slots.size ≤ j.toNatClampNeg) := by
  have e := own_tn h0
  have e2 : c.slots.size = vs.length := by rw [← S]; simp
  intro q
  rcases q with q | q
  · exact own_neg h0 q
  · omega
theorem own_hink {c : Cell} {j : Int32} {k : Nat} (S : c.slots.toList = vs) (h0 : ¬ j < 0) (hj : j.toNatClampNeg = k) (hk : k < vs.length) : ¬ (j < 0 ∨ c.slots.size ≤ j.toNatClampNeg) := by
  have e2 : c.slots.size = vs.length := by rw [← S]; simp
  intro q
  rcases q with q | q
  · exact h0 q
  · omega
theorem own_hatk {c : Cell} {j : Int32} {k : Nat} {v : Value} (S : c.slots.toList = vs) (hj : j.toNatClampNeg = k) (hv : vs[k]? = some v) : c.slots[j.toNatClampNeg]? = some v := by
  rw [hj, ← hv, ← S]; simp
theorem own_hatkD {c : Cell} {j : Int32} {v : Value} (S : c.slots.toList = vs) (hv : vs[j.toNatClampNeg]? = some v) : c.slots[j.toNatClampNeg]? = some v := own_hatk S rfl hv
theorem own_hatI {c : Cell} {j : Int32} (S : c.slots.toList = xs.map Value.int) (h0 : 0 ≤ j.toInt) (h1 : j.toInt < xs.length) : c.slots[j.toNatClampNeg]? = some (.int (xs.getD j.toNatClampNeg 0)) := by
  have e := own_tn h0
  have hl : j.toNatClampNeg < xs.length := by omega
  refine own_hatk S rfl ?_
  simp [hl]
theorem own_hatJ {c : Cell} {j : Int32} (S : c.slots.toList = ys.map Value.long) (h0 : 0 ≤ j.toInt) (h1 : j.toInt < ys.length) : c.slots[j.toNatClampNeg]? = some (.long (ys.getD j.toNatClampNeg 0)) := by
  have e := own_tn h0
  have hl : j.toNatClampNeg < ys.length := by omega
  refine own_hatk S rfl ?_
  simp [hl]
theorem own_len {c : Cell} {n : Int32} (S : c.slots.toList = vs) (hn : n.toInt = vs.length) : c.slots.size.toInt32 = n := by
  have e2 : c.slots.size = vs.length := by rw [← S]; simp
  have e := own_tn (j := n) (by omega)
  refine len_of ?_ (own_neg (by omega))
  omega
end OwnArr
theorem own_ofN {d : Nat} (h : d < 2147483648) : (Int32.ofNat d).toInt = d := Int32.toInt_ofNat_of_lt (by omega)
theorem own_tnO {d : Nat} (h : d < 2147483648) : (Int32.ofNat d).toNatClampNeg = d := by
  have := own_tn (j := Int32.ofNat d) (by rw [own_ofN h]; omega)
  rw [own_ofN h] at this; omega
theorem own_ltO {d k : Nat} (h : d < 2147483648) (hk : k < 2147483648) : Int32.ofNat d < Int32.ofNat k ↔ d < k := by
  rw [Int32.lt_iff_toInt_lt, own_ofN h, own_ofN hk]; omega
theorem own_eqO {d k : Nat} (h : d < 2147483648) (hk : k < 2147483648) : Int32.ofNat d = Int32.ofNat k ↔ d = k := by
  rw [← Int32.toInt_inj, own_ofN h, own_ofN hk]; omega
theorem own_pred {d : Nat} (h1 : 1 ≤ d) : Int32.ofNat d - (1 : Int32) = Int32.ofNat (d - 1) := by
  have e : Int32.ofNat d = Int32.ofNat (d - 1) + (1 : Int32) := by
    rw [show (1 : Int32) = Int32.ofNat 1 from rfl, ← Int32.ofNat_add]; congr 1; omega
  rw [e, Int32.add_sub_cancel]
theorem own_addk (p k : Nat) : Int32.ofNat p + Int32.ofNat k = Int32.ofNat (p + k) := (Int32.ofNat_add p k).symm
theorem own_subk {p k : Nat} (h : k ≤ p) : Int32.ofNat p - Int32.ofNat k = Int32.ofNat (p - k) := by
  have e : Int32.ofNat p = Int32.ofNat (p - k) + Int32.ofNat k := by
    rw [own_addk]; congr 1; omega
  rw [e, Int32.add_sub_cancel]
theorem own_atI {xs : List Int32} {k : Nat} (h : k < xs.length) : (xs.map Value.int)[k]? = some (.int (xs.getD k 0)) := by simp [h]
theorem own_atJ {xs : List Int64} {k : Nat} (h : k < xs.length) : (xs.map Value.long)[k]? = some (.long (xs.getD k 0)) := by simp [h]
theorem own_toN {x : Int32} (h : 0 ≤ x.toInt) : x = Int32.ofNat x.toInt.toNat := by
  apply Int32.toInt_inj.mp
  have := x.toInt_lt
  rw [own_ofN (by omega)]; omega
theorem own_ni_0 {a : Addr} : a ∉ ([] : List Addr) := List.not_mem_nil
theorem own_ni_1 {a x : Addr} (h : a ≠ x) : a ∉ [x] := by simp [h]
theorem own_ni_2 {a x y : Addr} (h : a ≠ x) (h' : a ≠ y) : a ∉ [x, y] := by simp [h, h']
theorem own_ni_3 {a x y z : Addr} (h : a ≠ x) (h' : a ≠ y) (h'' : a ≠ z) : a ∉ [x, y, z] := by simp [h, h', h'']
theorem own_sub_0 {P : Addr → Prop} : ∀ x ∈ ([] : List Addr), P x := fun x h => absurd h List.not_mem_nil
theorem own_sub_1 {P : Addr → Prop} {a : Addr} (h : P a) : ∀ x ∈ [a], P x := fun x q => by
  obtain rfl : x = a := by simpa using q
  exact h
section OwnRefArr
variable {Z : State} {h h' : Heap} {a b : Addr} {C : String} {vs : List Value}
/-- the array of references at a holds just the values vs -/
def own_R (Z : State) (h : Heap) (a : Addr) (C : String) (vs : List Value) : Prop := ∃ c : Cell, Arr Z h a c (.object C) ∧ Ovr Z c.cls C ∧ c.slots.toList = vs ∧ vs.length < 2 ^ 31
theorem own_R_lt (F : own_R Z h a C vs) : a < h.size := by obtain ⟨c, A, -⟩ := F; exact A.lt
theorem own_R_ext (F : own_R Z h a C vs) (E : Ext h h') : own_R Z h' a C vs := by obtain ⟨c, A, r⟩ := F; exact ⟨c, A.ext E, r⟩
theorem own_R_other {sl : Nat} {v : Value} (F : own_R Z h b C vs) (W : Wr h h' a sl v) (q : b ≠ a) : own_R Z h' b C vs := by obtain ⟨c, A, r⟩ := F; exact ⟨c, A.other W q, r⟩
theorem own_R_set {j : Int32} {k : Nat} {v : Value} (F : own_R Z h a C vs) (W : Wr h h' a j.toNatClampNeg v) (hj : j.toNatClampNeg = k) : own_R Z h' a C (vs.set k v) := by
  obtain ⟨c, A, O, r, q⟩ := F
  subst hj r
  refine ⟨_, A.same W, O, ?_, ?_⟩
  · simp [Cell.setSlot]
  · rw [List.length_set]; exact q
theorem own_R_new {k : ClassId} {n : Int32} {m : Nat} (A : Arr Z h a (newA k (.object C) n) (.object C)) (O : Ovr Z k C) (hm : n.toNatClampNeg = m) (hn : m < 2 ^ 31) : own_R Z h a C (List.replicate m .null) := by
  subst hm
  refine ⟨_, A, O, by simp [newA, defaultValue], ?_⟩
  rw [List.length_replicate]; exact hn
end OwnRefArr

def own_isJ (z u v w : Addr) : Int32 := if z = u then 0 else if z = v then 0 else if z = w then 0 else 1
theorem own_k16 (x : Int32) : 0 ≤ (x &&& (15 : Int32)).toInt ∧ (x &&& (15 : Int32)).toInt ≤ 15 := by
  have h1 := c_mask x (15 : Int32) 4 (by decide) (by decide)
  omega
theorem own_cases {k : Int32} (h : 0 ≤ k.toInt ∧ k.toInt ≤ 15) : k = (0 : Int32) ∨ k = (1 : Int32) ∨ k = (2 : Int32) ∨ k = (3 : Int32) ∨ k = (4 : Int32) ∨ k = (5 : Int32) ∨ k = (6 : Int32) ∨ k = (7 : Int32) ∨ k = (8 : Int32) ∨ k = (9 : Int32) ∨ k = (10 : Int32) ∨ k = (11 : Int32) ∨ k = (12 : Int32) ∨ k = (13 : Int32) ∨ k = (14 : Int32) ∨ k = (15 : Int32) := by
  have e : ∀ j : Int32, k.toInt = j.toInt → k = j := fun j q => Int32.toInt_inj.mp q
  have h' : k.toInt = 0 ∨ k.toInt = 1 ∨ k.toInt = 2 ∨ k.toInt = 3 ∨ k.toInt = 4 ∨ k.toInt = 5 ∨ k.toInt = 6 ∨ k.toInt = 7 ∨ k.toInt = 8 ∨ k.toInt = 9 ∨ k.toInt = 10 ∨ k.toInt = 11 ∨ k.toInt = 12 ∨ k.toInt = 13 ∨ k.toInt = 14 ∨ k.toInt = 15 := by omega
  rcases h' with q | q | q | q | q | q | q | q | q | q | q | q | q | q | q | q
  · exact Or.inl (e 0 q)
  · exact Or.inr (Or.inl (e 1 q))
  · exact Or.inr (Or.inr (Or.inl (e 2 q)))
  · exact Or.inr (Or.inr (Or.inr (Or.inl (e 3 q))))
  · exact Or.inr (Or.inr (Or.inr (Or.inr (Or.inl (e 4 q)))))
  · exact Or.inr (Or.inr (Or.inr (Or.inr (Or.inr (Or.inl (e 5 q))))))
  · exact Or.inr (Or.inr (Or.inr (Or.inr (Or.inr (Or.inr (Or.inl (e 6 q)))))))
  · exact Or.inr (Or.inr (Or.inr (Or.inr (Or.inr (Or.inr (Or.inr (Or.inl (e 7 q))))))))
  · exact Or.inr (Or.inr (Or.inr (Or.inr (Or.inr (Or.inr (Or.inr (Or.inr (Or.inl (e 8 q)))))))))
  · exact Or.inr (Or.inr (Or.inr (Or.inr (Or.inr (Or.inr (Or.inr (Or.inr (Or.inr (Or.inl (e 9 q))))))))))
  · exact Or.inr (Or.inr (Or.inr (Or.inr (Or.inr (Or.inr (Or.inr (Or.inr (Or.inr (Or.inr (Or.inl (e 10 q)))))))))))
  · exact Or.inr (Or.inr (Or.inr (Or.inr (Or.inr (Or.inr (Or.inr (Or.inr (Or.inr (Or.inr (Or.inr (Or.inl (e 11 q))))))))))))
  · exact Or.inr (Or.inr (Or.inr (Or.inr (Or.inr (Or.inr (Or.inr (Or.inr (Or.inr (Or.inr (Or.inr (Or.inr (Or.inl (e 12 q)))))))))))))
  · exact Or.inr (Or.inr (Or.inr (Or.inr (Or.inr (Or.inr (Or.inr (Or.inr (Or.inr (Or.inr (Or.inr (Or.inr (Or.inr (Or.inl (e 13 q))))))))))))))
  · exact Or.inr (Or.inr (Or.inr (Or.inr (Or.inr (Or.inr (Or.inr (Or.inr (Or.inr (Or.inr (Or.inr (Or.inr (Or.inr (Or.inr (Or.inl (e 14 q)))))))))))))))
  · exact Or.inr (Or.inr (Or.inr (Or.inr (Or.inr (Or.inr (Or.inr (Or.inr (Or.inr (Or.inr (Or.inr (Or.inr (Or.inr (Or.inr (Or.inr (e 15 q)))))))))))))))
/-- all the constants: where they stand, and that each is one -/
def own_HS (Z : State) (h : Heap) (ps : List (String × Addr)) : Prop := ∀ q ∈ ps, Sta Z h "com/example/wary_ddl/waryddl/sql/StatementKind" q.1 "Lcom/example/wary_ddl/waryddl/sql/StatementKind;" (.ref q.2) ∧ Exa Z h q.2 "com/example/wary_ddl/waryddl/sql/StatementKind"
theorem own_HS_ext {Z : State} {h h' : Heap} {ps : List (String × Addr)} (H : own_HS Z h ps) (E : Ext h h') : own_HS Z h' ps := fun q hq => ⟨(H q hq).1.ext E, (H q hq).2.ext E⟩
theorem own_HS_wr {Z : State} {h h' : Heap} {ps : List (String × Addr)} {a : Addr} {sl : Nat} {v : Value} (H : own_HS Z h ps) (W : Wr h h' a sl v) : own_HS Z h' ps := fun q hq => ⟨(H q hq).1.wr W, (H q hq).2.wr W⟩

theorem own_ef_own_rm_isJ (m : MethodId) (x0 : Addr) : entryFrame m #[(.ref x0)] 1 = mkF m 0 #[.val (.ref x0)] [] := by first | (simp [entryFrame, mkF, argsToLocals, Value.category]; done) | rfl
set_option maxRecDepth 65536 in
set_option maxHeartbeats 40000000 in
theorem own_rm_isJ (l : Launch) (Z : State) (a0 : Array Value) (hw : ∀ d ∈ tables_1, d.before a0 Z = true) (ws : List Jvm.Cond) (z : Addr) (h0 : Heap) (n0 : Nat) (Z0 : n0 ≤ h0.size) (y9 y14 y15 : Addr) (S9 : Sta Z h0 "com/example/wary_ddl/waryddl/sql/StatementKind" "ALTER_DATABASE" "Lcom/example/wary_ddl/waryddl/sql/StatementKind;" (.ref y9)) (S14 : Sta Z h0 "com/example/wary_ddl/waryddl/sql/StatementKind" "OTHER" "Lcom/example/wary_ddl/waryddl/sql/StatementKind;" (.ref y14)) (S15 : Sta Z h0 "com/example/wary_ddl/waryddl/sql/StatementKind" "SYNTAX_ERROR" "Lcom/example/wary_ddl/waryddl/sql/StatementKind;" (.ref y15)) :
    MetFree l (⟨"com/example/wary_ddl/waryddl/sql/StatementKind", "isJudged", "()Z"⟩ : MethodName) (head1 (Jvm.Cond.code (⟨"com/example/wary_ddl/waryddl/sql/StatementKind", "isJudged", "()Z"⟩ : MethodName) prog_234_method_4_code 1 (some .boolean) :: ws) ({ frames := 0, cells := 0, slots := 0, locals := 0 } : Room)) (fun aq Uq => aq = #[(.ref z)] ∧ Z.Warmed39 Uq.vm ∧ Uq.heap = h0) (fun _ _ _ _ _ => True) (fun _ Uq oq Uq' => ∃ vq Lq, oq = .returned vq ∧ (own_Qp (some (.int (own_isJ z y9 y14 y15))) h0 n0) vq Uq'.heap Lq ∧ FrameEnd Uq oq Uq' Lq ({ frames := 0, cells := 0, slots := 0, locals := 0 } : Room).cells ({ frames := 0, cells := 0, slots := 0, locals := 0 } : Room).slots) := by
  refine MetFree.of_bodySF (plainFor_of_name own_pn0) hisR ?_
  intro p e s m args below meth c s₁ Bd hml0 hP hK
  obtain ⟨rfl, hZ, hh⟩ := hP
  have hx := Bd.exec
  have hby := Bd.bytes
  have hml : c.maxLocals = 1 := hml0
  have hown : s.vm.findClass "com/example/wary_ddl/waryddl/sql/StatementKind" = some m.cls := findClass_of_methodNamed Bd.named
  have hnm := (name_of_methodNamed Bd.named Bd.method).1
  have X0 : Stand p l e ({ frames := 0, cells := 0, slots := 0, locals := 0 } : Room) s m #[(.ref z)] below meth c s₁ [] 0 0 := Stand.of_body Bd
  have e0 : s₁.heap = h0 := by rw [← hh, Bd.state]; rfl
  have N0 := Fr.nil n0
  have hlk : meth.locks = false := by first | exact BodyLoose.notSynchronized Bd | exact Body.notSynchronized Bd
  obtain ⟨G, hG⟩ : ∃ G : State → Prop, G = own_G p e below s ({ frames := 0, cells := 0, slots := 0, locals := 0 } : Room).cells ({ frames := 0, cells := 0, slots := 0, locals := 0 } : Room).slots ((own_Qp (some (.int (own_isJ z y9 y14 y15))) h0 n0)) := ⟨_, rfl⟩
  have go : ∀ {S S' : State}, (∀ t, Steps p.tables e below S' t → Steps p.tables e below S t) → G S' → G S := by rw [hG]; exact own_to
  suffices hs : G (s₁.setTop (mkF m 0 #[.val (.ref z)] [])) by
    rw [hG] at hs
    exact own_to (fun _ kont => castTop (own_ef_own_rm_isJ m z) kont) hs
  refine go (fun _ kont => XS.aloadN X0.here hx rfl (hb hby d_prog_234_method_4_0) rfl rfl kont) ?_
  show G (s₁.setTop (mkF m 1 #[.val (.ref z)] [(.ref z)]))
  obtain ⟨T1, X1, e1, st1⟩ := getS X0 hx hZ hown (host := "") (hw _ (List.mem_of_getElem? (i := 41) rfl)) Via.refl e0 S9 (g := (mkF m 1 #[.val (.ref z)] [(.ref z)])) rfl (hb hby d_prog_234_method_4_1)
  refine go st1 ?_
  show G (T1.setTop (mkF m 4 #[.val (.ref z)] [(.ref y9), (.ref z)]))
  by_cases hc4 : z = y9
  · refine go (fun _ kont => Jvm.RoadKit.acmp (g := (mkF m 4 #[.val (.ref z)] [(.ref y9), (.ref z)])) X1 hx rfl rfl rfl (pc0 := 4) (pc' := 25) (same := true) rfl (hb hby d_prog_234_method_4_4) rfl (decide_eq_true (congrArg Value.ref hc4)) (by decide) (by decide) kont) ?_
    show G (T1.setTop (mkF m 25 #[.val (.ref z)] []))
    refine go (fun _ kont => XS.iconst X1.here hx rfl (hb hby d_prog_234_method_4_25) kont) ?_
    show G (T1.setTop (mkF m 26 #[.val (.ref z)] [(.int (0 : Int32))]))
    rw [hG]
    exact own_retN X1 hx (t := .boolean) Bd.returns (by simp) (hb hby d_prog_234_method_4_26) hlk (by decide) (by decide) ⟨by simp [own_isJ, *] <;> rfl, N0, e1⟩
  · refine go (fun _ kont => Jvm.RoadKit.acmp (g := (mkF m 4 #[.val (.ref z)] [(.ref y9), (.ref z)])) X1 hx rfl rfl rfl (pc0 := 4) (pc' := 7) (same := false) rfl (hb hby d_prog_234_method_4_4) rfl (decide_eq_false fun q => hc4 (Value.ref.inj q)) (by decide) (by decide) kont) ?_
    show G (T1.setTop (mkF m 7 #[.val (.ref z)] []))
    refine go (fun _ kont => XS.aloadN X1.here hx rfl (hb hby d_prog_234_method_4_7) rfl rfl kont) ?_
    show G (T1.setTop (mkF m 8 #[.val (.ref z)] [(.ref z)]))
    obtain ⟨T2, X2, e2, st2⟩ := getS X1 hx hZ hown (host := "") (hw _ (List.mem_of_getElem? (i := 42) rfl)) Via.refl e1 S14 (g := (mkF m 8 #[.val (.ref z)] [(.ref z)])) rfl (hb hby d_prog_234_method_4_8)
    refine go st2 ?_
    show G (T2.setTop (mkF m 11 #[.val (.ref z)] [(.ref y14), (.ref z)]))
    by_cases hc11 : z = y14
    · refine go (fun _ kont => Jvm.RoadKit.acmp (g := (mkF m 11 #[.val (.ref z)] [(.ref y14), (.ref z)])) X2 hx rfl rfl rfl (pc0 := 11) (pc' := 25) (same := true) rfl (hb hby d_prog_234_method_4_11) rfl (decide_eq_true (congrArg Value.ref hc11)) (by decide) (by decide) kont) ?_
      show G (T2.setTop (mkF m 25 #[.val (.ref z)] []))
      refine go (fun _ kont => XS.iconst X2.here hx rfl (hb hby d_prog_234_method_4_25) kont) ?_
      show G (T2.setTop (mkF m 26 #[.val (.ref z)] [(.int (0 : Int32))]))
      rw [hG]
      exact own_retN X2 hx (t := .boolean) Bd.returns (by simp) (hb hby d_prog_234_method_4_26) hlk (by decide) (by decide) ⟨by simp [own_isJ, *] <;> rfl, N0, e2⟩
    · refine go (fun _ kont => Jvm.RoadKit.acmp (g := (mkF m 11 #[.val (.ref z)] [(.ref y14), (.ref z)])) X2 hx rfl rfl rfl (pc0 := 11) (pc' := 14) (same := false) rfl (hb hby d_prog_234_method_4_11) rfl (decide_eq_false fun q => hc11 (Value.ref.inj q)) (by decide) (by decide) kont) ?_
      show G (T2.setTop (mkF m 14 #[.val (.ref z)] []))
      refine go (fun _ kont => XS.aloadN X2.here hx rfl (hb hby d_prog_234_method_4_14) rfl rfl kont) ?_
      show G (T2.setTop (mkF m 15 #[.val (.ref z)] [(.ref z)]))
      obtain ⟨T3, X3, e3, st3⟩ := getS X2 hx hZ hown (host := "") (hw _ (List.mem_of_getElem? (i := 43) rfl)) Via.refl e2 S15 (g := (mkF m 15 #[.val (.ref z)] [(.ref z)])) rfl (hb hby d_prog_234_method_4_15)
      refine go st3 ?_
      show G (T3.setTop (mkF m 18 #[.val (.ref z)] [(.ref y15), (.ref z)]))
      by_cases hc18 : z = y15
      · refine go (fun _ kont => Jvm.RoadKit.acmp (g := (mkF m 18 #[.val (.ref z)] [(.ref y15), (.ref z)])) X3 hx rfl rfl rfl (pc0 := 18) (pc' := 25) (same := true) rfl (hb hby d_prog_234_method_4_18) rfl (decide_eq_true (congrArg Value.ref hc18)) (by decide) (by decide) kont) ?_
        show G (T3.setTop (mkF m 25 #[.val (.ref z)] []))
        refine go (fun _ kont => XS.iconst X3.here hx rfl (hb hby d_prog_234_method_4_25) kont) ?_
        show G (T3.setTop (mkF m 26 #[.val (.ref z)] [(.int (0 : Int32))]))
        rw [hG]
        exact own_retN X3 hx (t := .boolean) Bd.returns (by simp) (hb hby d_prog_234_method_4_26) hlk (by decide) (by decide) ⟨by simp [own_isJ, *] <;> rfl, N0, e3⟩
      · refine go (fun _ kont => Jvm.RoadKit.acmp (g := (mkF m 18 #[.val (.ref z)] [(.ref y15), (.ref z)])) X3 hx rfl rfl rfl (pc0 := 18) (pc' := 21) (same := false) rfl (hb hby d_prog_234_method_4_18) rfl (decide_eq_false fun q => hc18 (Value.ref.inj q)) (by decide) (by decide) kont) ?_
        show G (T3.setTop (mkF m 21 #[.val (.ref z)] []))
        refine go (fun _ kont => XS.iconst X3.here hx rfl (hb hby d_prog_234_method_4_21) kont) ?_
        show G (T3.setTop (mkF m 22 #[.val (.ref z)] [(.int (1 : Int32))]))
        refine go (fun _ kont => XS.goto X3.here hx rfl (pc0 := 22) (pc' := 26) rfl (hb hby d_prog_234_method_4_22) (by decide) (by decide) kont) ?_
        show G (T3.setTop (mkF m 26 #[.val (.ref z)] [(.int (1 : Int32))]))
        rw [hG]
        exact own_retN X3 hx (t := .boolean) Bd.returns (by simp) (hb hby d_prog_234_method_4_26) hlk (by decide) (by decide) ⟨by simp [own_isJ, *] <;> rfl, N0, e3⟩
theorem own_ef_own_rm_law (m : MethodId) (x0 : Int32) : entryFrame m #[(.int x0)] maxLocals = mkF m 0 #[.val (.int x0), .unset, .unset, .unset] [] := by first | (simp [entryFrame, mkF, argsToLocals, Value.category, maxLocals]; done) | rfl
set_option maxRecDepth 65536 in
set_option maxHeartbeats 40000000 in
theorem own_rm_law (l : Launch) (Z : State) (a0 : Array Value) (hw : ∀ d ∈ tables_1, d.before a0 Z = true) (ws : List Jvm.Cond) (p1 : Int32) (h0 : Heap) (n0 : Nat) (Z0 : n0 ≤ h0.size) (y0 y1 y2 y3 y4 y5 y6 y7 y8 y9 y10 y11 y12 y13 y14 y15 : Addr) (HS : own_HS Z h0 [("ALTER_TABLE", y0), ("CREATE_INDEX", y1), ("DROP_INDEX", y2), ("RENAME_TABLE", y3), ("OPTIMIZE_TABLE", y4), ("ALTER_TABLESPACE", y5), ("CREATE_TABLE", y6), ("CREATE_TABLESPACE", y7), ("DROP_TABLE", y8), ("ALTER_DATABASE", y9), ("DROP_DATABASE", y10), ("TRUNCATE_TABLE", y11), ("EXECUTE", y12), ("CALL", y13), ("OTHER", y14), ("SYNTAX_ERROR", y15)]) (D0_9 : ¬ (y0 = y9)) (D0_14 : ¬ (y0 = y14)) (D0_15 : ¬ (y0 = y15)) (D1_9 : ¬ (y1 = y9)) (D1_14 : ¬ (y1 = y14)) (D1_15 : ¬ (y1 = y15)) (D2_9 : ¬ (y2 = y9)) (D2_14 : ¬ (y2 = y14)) (D2_15 : ¬ (y2 = y15)) (D3_9 : ¬ (y3 = y9)) (D3_14 : ¬ (y3 = y14)) (D3_15 : ¬ (y3 = y15)) (D4_9 : ¬ (y4 = y9)) (D4_14 : ¬ (y4 = y14)) (D4_15 : ¬ (y4 = y15)) (D5_9 : ¬ (y5 = y9)) (D5_14 : ¬ (y5 = y14)) (D5_15 : ¬ (y5 = y15)) (D6_9 : ¬ (y6 = y9)) (D6_14 : ¬ (y6 = y14)) (D6_15 : ¬ (y6 = y15)) (D7_9 : ¬ (y7 = y9)) (D7_14 : ¬ (y7 = y14)) (D7_15 : ¬ (y7 = y15)) (D8_9 : ¬ (y8 = y9)) (D8_14 : ¬ (y8 = y14)) (D8_15 : ¬ (y8 = y15)) (D9_14 : ¬ (y9 = y14)) (D9_15 : ¬ (y9 = y15)) (D10_9 : ¬ (y10 = y9)) (D10_14 : ¬ (y10 = y14)) (D10_15 : ¬ (y10 = y15)) (D11_9 : ¬ (y11 = y9)) (D11_14 : ¬ (y11 = y14)) (D11_15 : ¬ (y11 = y15)) (D12_9 : ¬ (y12 = y9)) (D12_14 : ¬ (y12 = y14)) (D12_15 : ¬ (y12 = y15)) (D13_9 : ¬ (y13 = y9)) (D13_14 : ¬ (y13 = y14)) (D13_15 : ¬ (y13 = y15)) (D14_9 : ¬ (y14 = y9)) (D14_15 : ¬ (y14 = y15)) (D15_9 : ¬ (y15 = y9)) (D15_14 : ¬ (y15 = y14)) :
    MetFree l x (head1 (Jvm.Cond.code x code maxLocals ret :: ws) room_1) (fun aq Uq => aq = #[(.int p1)] ∧ Z.Warmed39 Uq.vm ∧ Uq.heap = h0) (fun _ _ _ _ _ => True) (fun _ Uq oq Uq' => ∃ vq Lq, oq = .returned vq ∧ (own_Ql n0) vq Uq'.heap Lq ∧ FrameEnd Uq oq Uq' Lq room_1.cells room_1.slots) := by
  refine MetFree.of_bodySF (plainFor_of_name own_pn1) hisR ?_
  intro p e s m args below meth c s₁ Bd hml0 hP hK
  obtain ⟨rfl, hZ, hh⟩ := hP
  have hx := Bd.exec
  have hby := Bd.bytes
  have hml : c.maxLocals = 4 := hml0
  have hown : s.vm.findClass "com/example/wary_ddl/waryddl/sql/StatementKindIsJudgedPinLaw" = some m.cls := findClass_of_methodNamed Bd.named
  have hnm := (name_of_methodNamed Bd.named Bd.method).1
  have X0 : Stand p l e room_1 s m #[(.int p1)] below meth c s₁ [] 0 0 := Stand.of_body Bd
  have e0 : s₁.heap = h0 := by rw [← hh, Bd.state]; rfl
  have N0 := Fr.nil n0
  have hlk : meth.locks = false := by first | exact BodyLoose.notSynchronized Bd | exact Body.notSynchronized Bd
  obtain ⟨G, hG⟩ : ∃ G : State → Prop, G = own_G p e below s room_1.cells room_1.slots ((own_Ql n0)) := ⟨_, rfl⟩
  have go : ∀ {S S' : State}, (∀ t, Steps p.tables e below S' t → Steps p.tables e below S t) → G S' → G S := by rw [hG]; exact own_to
  suffices hs : G (s₁.setTop (mkF m 0 #[.val (.int p1), .unset, .unset, .unset] [])) by
    rw [hG] at hs
    exact own_to (fun _ kont => castTop (own_ef_own_rm_law m p1) kont) hs
  refine go (fun _ kont => XS.bipush X0.here hx rfl (hb hby at_0) kont) ?_
  show G (s₁.setTop (mkF m 2 #[.val (.int p1), .unset, .unset, .unset] [(.int (16 : Int32))]))
  obtain ⟨T1, h1, k1, X1, e1, E1, A1, O1, st1⟩ := newR X0 hx hZ hown (hw _ (List.mem_of_getElem? (i := 0) rfl)) (hw _ (List.mem_of_getElem? (i := 1) rfl)) e0 (g := (mkF m 2 #[.val (.int p1), .unset, .unset, .unset] [(.int (16 : Int32))])) rfl (hb hby at_2) rfl (by decide) (cap := 16) (by decide) (by decide) (by decide) (by decide)
  have hs1 := own_HS_ext HS E1
  obtain ⟨b, g1⟩ : ∃ z, z = h0.size := ⟨_, rfl⟩
  rw [← g1] at A1 st1
  refine go st1 ?_
  have V1 : own_R Z h1 b "com/example/wary_ddl/waryddl/sql/StatementKind" [.null, .null, .null, .null, .null, .null, .null, .null, .null, .null, .null, .null, .null, .null, .null, .null] := own_R_new A1 O1 (m := 16) (by decide) (by decide)
  have ga : n0 ≤ b := Nat.le_trans Z0 (Nat.le_of_eq g1.symm)
  have Z1 : n0 ≤ h1.size := Nat.le_trans Z0 E1.1
  show G (T1.setTop (mkF m 5 #[.val (.int p1), .unset, .unset, .unset] [(.ref b)]))
  refine go (fun _ kont => XS.dup X1.here hx rfl (hb hby at_5) rfl rfl kont) ?_
  show G (T1.setTop (mkF m 6 #[.val (.int p1), .unset, .unset, .unset] [(.ref b), (.ref b)]))
  refine go (fun _ kont => XS.iconst X1.here hx rfl (hb hby at_6) kont) ?_
  show G (T1.setTop (mkF m 7 #[.val (.int p1), .unset, .unset, .unset] [(.int (0 : Int32)), (.ref b), (.ref b)]))
  obtain ⟨T2, X2, e2, st2⟩ := getS X1 hx hZ hown (host := "") (hw _ (List.mem_of_getElem? (i := 2) rfl)) Via.refl e1 (hs1 _ (List.mem_of_getElem? (i := 0) rfl)).1 (g := (mkF m 7 #[.val (.int p1), .unset, .unset, .unset] [(.int (0 : Int32)), (.ref b), (.ref b)])) rfl (hb hby at_7)
  refine go st2 ?_
  show G (T2.setTop (mkF m 10 #[.val (.int p1), .unset, .unset, .unset] [(.ref y0), (.int (0 : Int32)), (.ref b), (.ref b)]))
  obtain ⟨cl3, Ar3, Ov3, Sl3, Ml3⟩ := id V1
  obtain ⟨T3, h3, X3, e3, W3, st3⟩ := stR X2 hx hZ e2 Ar3 (j := (0 : Int32)) (own_hink Sl3 (by decide) (k := 0) (by decide) (Nat.le_of_ble_eq_true rfl)) rfl (Sto.of Ar3 Ov3 (Ins.self (hs1 _ (List.mem_of_getElem? (i := 0) rfl)).2)) (g := (mkF m 10 #[.val (.int p1), .unset, .unset, .unset] [(.ref y0), (.int (0 : Int32)), (.ref b), (.ref b)])) rfl rfl (hb hby at_10)
  refine go st3 ?_
  have V3 : own_R Z h3 b "com/example/wary_ddl/waryddl/sql/StatementKind" [(.ref y0), .null, .null, .null, .null, .null, .null, .null, .null, .null, .null, .null, .null, .null, .null, .null] := own_R_set V1 W3 (k := 0) (by decide)
  have hs3 := own_HS_wr hs1 W3
  have N3 := Fr.snoc X3 N0 ga
  have Z3 : n0 ≤ h3.size := by rw [W3.size]; exact Z1
  show G (T3.setTop (mkF m 11 #[.val (.int p1), .unset, .unset, .unset] [(.ref b)]))
  refine go (fun _ kont => XS.dup X3.here hx rfl (hb hby at_11) rfl rfl kont) ?_
  show G (T3.setTop (mkF m 12 #[.val (.int p1), .unset, .unset, .unset] [(.ref b), (.ref b)]))
  refine go (fun _ kont => XS.iconst X3.here hx rfl (hb hby at_12) kont) ?_
  show G (T3.setTop (mkF m 13 #[.val (.int p1), .unset, .unset, .unset] [(.int (1 : Int32)), (.ref b), (.ref b)]))
  obtain ⟨T4, X4, e4, st4⟩ := getS X3 hx hZ hown (host := "") (hw _ (List.mem_of_getElem? (i := 6) rfl)) Via.refl e3 (hs3 _ (List.mem_of_getElem? (i := 1) rfl)).1 (g := (mkF m 13 #[.val (.int p1), .unset, .unset, .unset] [(.int (1 : Int32)), (.ref b), (.ref b)])) rfl (hb hby at_13)
  refine go st4 ?_
  show G (T4.setTop (mkF m 16 #[.val (.int p1), .unset, .unset, .unset] [(.ref y1), (.int (1 : Int32)), (.ref b), (.ref b)]))
  obtain ⟨cl5, Ar5, Ov5, Sl5, Ml5⟩ := id V3
  obtain ⟨T5, h5, X5, e5, W5, st5⟩ := stR X4 hx hZ e4 Ar5 (j := (1 : Int32)) (own_hink Sl5 (by decide) (k := 1) (by decide) (Nat.le_of_ble_eq_true rfl)) rfl (Sto.of Ar5 Ov5 (Ins.self (hs3 _ (List.mem_of_getElem? (i := 1) rfl)).2)) (g := (mkF m 16 #[.val (.int p1), .unset, .unset, .unset] [(.ref y1), (.int (1 : Int32)), (.ref b), (.ref b)])) rfl rfl (hb hby at_16)
  refine go st5 ?_
  have V5 : own_R Z h5 b "com/example/wary_ddl/waryddl/sql/StatementKind" [(.ref y0), (.ref y1), .null, .null, .null, .null, .null, .null, .null, .null, .null, .null, .null, .null, .null, .null] := own_R_set V3 W5 (k := 1) (by decide)
  have hs5 := own_HS_wr hs3 W5
  have N5 := Fr.snoc X5 N3 ga
  have Z5 : n0 ≤ h5.size := by rw [W5.size]; exact Z3
  show G (T5.setTop (mkF m 17 #[.val (.int p1), .unset, .unset, .unset] [(.ref b)]))
  refine go (fun _ kont => XS.dup X5.here hx rfl (hb hby at_17) rfl rfl kont) ?_
  show G (T5.setTop (mkF m 18 #[.val (.int p1), .unset, .unset, .unset] [(.ref b), (.ref b)]))
  refine go (fun _ kont => XS.iconst X5.here hx rfl (hb hby at_18) kont) ?_
  show G (T5.setTop (mkF m 19 #[.val (.int p1), .unset, .unset, .unset] [(.int (2 : Int32)), (.ref b), (.ref b)]))
  obtain ⟨T6, X6, e6, st6⟩ := getS X5 hx hZ hown (host := "") (hw _ (List.mem_of_getElem? (i := 8) rfl)) Via.refl e5 (hs5 _ (List.mem_of_getElem? (i := 2) rfl)).1 (g := (mkF m 19 #[.val (.int p1), .unset, .unset, .unset] [(.int (2 : Int32)), (.ref b), (.ref b)])) rfl (hb hby at_19)
  refine go st6 ?_
  show G (T6.setTop (mkF m 22 #[.val (.int p1), .unset, .unset, .unset] [(.ref y2), (.int (2 : Int32)), (.ref b), (.ref b)]))
  obtain ⟨cl7, Ar7, Ov7, Sl7, Ml7⟩ := id V5
  obtain ⟨T7, h7, X7, e7, W7, st7⟩ := stR X6 hx hZ e6 Ar7 (j := (2 : Int32)) (own_hink Sl7 (by decide) (k := 2) (by decide) (Nat.le_of_ble_eq_true rfl)) rfl (Sto.of Ar7 Ov7 (Ins.self (hs5 _ (List.mem_of_getElem? (i := 2) rfl)).2)) (g := (mkF m 22 #[.val (.int p1), .unset, .unset, .unset] [(.ref y2), (.int (2 : Int32)), (.ref b), (.ref b)])) rfl rfl (hb hby at_22)
  refine go st7 ?_
  have V7 : own_R Z h7 b "com/example/wary_ddl/waryddl/sql/StatementKind" [(.ref y0), (.ref y1), (.ref y2), .null, .null, .null, .null, .null, .null, .null, .null, .null, .null, .null, .null, .null] := own_R_set V5 W7 (k := 2) (by decide)
  have hs7 := own_HS_wr hs5 W7
  have N7 := Fr.snoc X7 N5 ga
  have Z7 : n0 ≤ h7.size := by rw [W7.size]; exact Z5
  show G (T7.setTop (mkF m 23 #[.val (.int p1), .unset, .unset, .unset] [(.ref b)]))
  refine go (fun _ kont => XS.dup X7.here hx rfl (hb hby at_23) rfl rfl kont) ?_
  show G (T7.setTop (mkF m 24 #[.val (.int p1), .unset, .unset, .unset] [(.ref b), (.ref b)]))
  refine go (fun _ kont => XS.iconst X7.here hx rfl (hb hby at_24) kont) ?_
  show G (T7.setTop (mkF m 25 #[.val (.int p1), .unset, .unset, .unset] [(.int (3 : Int32)), (.ref b), (.ref b)]))
  obtain ⟨T8, X8, e8, st8⟩ := getS X7 hx hZ hown (host := "") (hw _ (List.mem_of_getElem? (i := 10) rfl)) Via.refl e7 (hs7 _ (List.mem_of_getElem? (i := 3) rfl)).1 (g := (mkF m 25 #[.val (.int p1), .unset, .unset, .unset] [(.int (3 : Int32)), (.ref b), (.ref b)])) rfl (hb hby at_25)
  refine go st8 ?_
  show G (T8.setTop (mkF m 28 #[.val (.int p1), .unset, .unset, .unset] [(.ref y3), (.int (3 : Int32)), (.ref b), (.ref b)]))
  obtain ⟨cl9, Ar9, Ov9, Sl9, Ml9⟩ := id V7
  obtain ⟨T9, h9, X9, e9, W9, st9⟩ := stR X8 hx hZ e8 Ar9 (j := (3 : Int32)) (own_hink Sl9 (by decide) (k := 3) (by decide) (Nat.le_of_ble_eq_true rfl)) rfl (Sto.of Ar9 Ov9 (Ins.self (hs7 _ (List.mem_of_getElem? (i := 3) rfl)).2)) (g := (mkF m 28 #[.val (.int p1), .unset, .unset, .unset] [(.ref y3), (.int (3 : Int32)), (.ref b), (.ref b)])) rfl rfl (hb hby at_28)
  refine go st9 ?_
  have V9 : own_R Z h9 b "com/example/wary_ddl/waryddl/sql/StatementKind" [(.ref y0), (.ref y1), (.ref y2), (.ref y3), .null, .null, .null, .null, .null, .null, .null, .null, .null, .null, .null, .null] := own_R_set V7 W9 (k := 3) (by decide)
  have hs9 := own_HS_wr hs7 W9
  have N9 := Fr.snoc X9 N7 ga
  have Z9 : n0 ≤ h9.size := by rw [W9.size]; exact Z7
  show G (T9.setTop (mkF m 29 #[.val (.int p1), .unset, .unset, .unset] [(.ref b)]))
  refine go (fun _ kont => XS.dup X9.here hx rfl (hb hby at_29) rfl rfl kont) ?_
  show G (T9.setTop (mkF m 30 #[.val (.int p1), .unset, .unset, .unset] [(.ref b), (.ref b)]))
  refine go (fun _ kont => XS.iconst X9.here hx rfl (hb hby at_30) kont) ?_
  show G (T9.setTop (mkF m 31 #[.val (.int p1), .unset, .unset, .unset] [(.int (4 : Int32)), (.ref b), (.ref b)]))
  obtain ⟨T10, X10, e10, st10⟩ := getS X9 hx hZ hown (host := "") (hw _ (List.mem_of_getElem? (i := 12) rfl)) Via.refl e9 (hs9 _ (List.mem_of_getElem? (i := 4) rfl)).1 (g := (mkF m 31 #[.val (.int p1), .unset, .unset, .unset] [(.int (4 : Int32)), (.ref b), (.ref b)])) rfl (hb hby at_31)
  refine go st10 ?_
  show G (T10.setTop (mkF m 34 #[.val (.int p1), .unset, .unset, .unset] [(.ref y4), (.int (4 : Int32)), (.ref b), (.ref b)]))
  obtain ⟨cl11, Ar11, Ov11, Sl11, Ml11⟩ := id V9
  obtain ⟨T11, h11, X11, e11, W11, st11⟩ := stR X10 hx hZ e10 Ar11 (j := (4 : Int32)) (own_hink Sl11 (by decide) (k := 4) (by decide) (Nat.le_of_ble_eq_true rfl)) rfl (Sto.of Ar11 Ov11 (Ins.self (hs9 _ (List.mem_of_getElem? (i := 4) rfl)).2)) (g := (mkF m 34 #[.val (.int p1), .unset, .unset, .unset] [(.ref y4), (.int (4 : Int32)), (.ref b), (.ref b)])) rfl rfl (hb hby at_34)
  refine go st11 ?_
  have V11 : own_R Z h11 b "com/example/wary_ddl/waryddl/sql/StatementKind" [(.ref y0), (.ref y1), (.ref y2), (.ref y3), (.ref y4), .null, .null, .null, .null, .null, .null, .null, .null, .null, .null, .null] := own_R_set V9 W11 (k := 4) (by decide)
  have hs11 := own_HS_wr hs9 W11
  have N11 := Fr.snoc X11 N9 ga
  have Z11 : n0 ≤ h11.size := by rw [W11.size]; exact Z9
  show G (T11.setTop (mkF m 35 #[.val (.int p1), .unset, .unset, .unset] [(.ref b)]))
  refine go (fun _ kont => XS.dup X11.here hx rfl (hb hby at_35) rfl rfl kont) ?_
  show G (T11.setTop (mkF m 36 #[.val (.int p1), .unset, .unset, .unset] [(.ref b), (.ref b)]))
  refine go (fun _ kont => XS.iconst X11.here hx rfl (hb hby at_36) kont) ?_
  show G (T11.setTop (mkF m 37 #[.val (.int p1), .unset, .unset, .unset] [(.int (5 : Int32)), (.ref b), (.ref b)]))
  obtain ⟨T12, X12, e12, st12⟩ := getS X11 hx hZ hown (host := "") (hw _ (List.mem_of_getElem? (i := 14) rfl)) Via.refl e11 (hs11 _ (List.mem_of_getElem? (i := 5) rfl)).1 (g := (mkF m 37 #[.val (.int p1), .unset, .unset, .unset] [(.int (5 : Int32)), (.ref b), (.ref b)])) rfl (hb hby at_37)
  refine go st12 ?_
  show G (T12.setTop (mkF m 40 #[.val (.int p1), .unset, .unset, .unset] [(.ref y5), (.int (5 : Int32)), (.ref b), (.ref b)]))
  obtain ⟨cl13, Ar13, Ov13, Sl13, Ml13⟩ := id V11
  obtain ⟨T13, h13, X13, e13, W13, st13⟩ := stR X12 hx hZ e12 Ar13 (j := (5 : Int32)) (own_hink Sl13 (by decide) (k := 5) (by decide) (Nat.le_of_ble_eq_true rfl)) rfl (Sto.of Ar13 Ov13 (Ins.self (hs11 _ (List.mem_of_getElem? (i := 5) rfl)).2)) (g := (mkF m 40 #[.val (.int p1), .unset, .unset, .unset] [(.ref y5), (.int (5 : Int32)), (.ref b), (.ref b)])) rfl rfl (hb hby at_40)
  refine go st13 ?_
  have V13 : own_R Z h13 b "com/example/wary_ddl/waryddl/sql/StatementKind" [(.ref y0), (.ref y1), (.ref y2), (.ref y3), (.ref y4), (.ref y5), .null, .null, .null, .null, .null, .null, .null, .null, .null, .null] := own_R_set V11 W13 (k := 5) (by decide)
  have hs13 := own_HS_wr hs11 W13
  have N13 := Fr.snoc X13 N11 ga
  have Z13 : n0 ≤ h13.size := by rw [W13.size]; exact Z11
  show G (T13.setTop (mkF m 41 #[.val (.int p1), .unset, .unset, .unset] [(.ref b)]))
  refine go (fun _ kont => XS.dup X13.here hx rfl (hb hby at_41) rfl rfl kont) ?_
  show G (T13.setTop (mkF m 42 #[.val (.int p1), .unset, .unset, .unset] [(.ref b), (.ref b)]))
  refine go (fun _ kont => XS.bipush X13.here hx rfl (hb hby at_42) kont) ?_
  show G (T13.setTop (mkF m 44 #[.val (.int p1), .unset, .unset, .unset] [(.int (6 : Int32)), (.ref b), (.ref b)]))
  obtain ⟨T14, X14, e14, st14⟩ := getS X13 hx hZ hown (host := "") (hw _ (List.mem_of_getElem? (i := 16) rfl)) Via.refl e13 (hs13 _ (List.mem_of_getElem? (i := 6) rfl)).1 (g := (mkF m 44 #[.val (.int p1), .unset, .unset, .unset] [(.int (6 : Int32)), (.ref b), (.ref b)])) rfl (hb hby at_44)
  refine go st14 ?_
  show G (T14.setTop (mkF m 47 #[.val (.int p1), .unset, .unset, .unset] [(.ref y6), (.int (6 : Int32)), (.ref b), (.ref b)]))
  obtain ⟨cl15, Ar15, Ov15, Sl15, Ml15⟩ := id V13
  obtain ⟨T15, h15, X15, e15, W15, st15⟩ := stR X14 hx hZ e14 Ar15 (j := (6 : Int32)) (own_hink Sl15 (by decide) (k := 6) (by decide) (Nat.le_of_ble_eq_true rfl)) rfl (Sto.of Ar15 Ov15 (Ins.self (hs13 _ (List.mem_of_getElem? (i := 6) rfl)).2)) (g := (mkF m 47 #[.val (.int p1), .unset, .unset, .unset] [(.ref y6), (.int (6 : Int32)), (.ref b), (.ref b)])) rfl rfl (hb hby at_47)
  refine go st15 ?_
  have V15 : own_R Z h15 b "com/example/wary_ddl/waryddl/sql/StatementKind" [(.ref y0), (.ref y1), (.ref y2), (.ref y3), (.ref y4), (.ref y5), (.ref y6), .null, .null, .null, .null, .null, .null, .null, .null, .null] := own_R_set V13 W15 (k := 6) (by decide)
  have hs15 := own_HS_wr hs13 W15
  have N15 := Fr.snoc X15 N13 ga
  have Z15 : n0 ≤ h15.size := by rw [W15.size]; exact Z13
  show G (T15.setTop (mkF m 48 #[.val (.int p1), .unset, .unset, .unset] [(.ref b)]))
  refine go (fun _ kont => XS.dup X15.here hx rfl (hb hby at_48) rfl rfl kont) ?_
  show G (T15.setTop (mkF m 49 #[.val (.int p1), .unset, .unset, .unset] [(.ref b), (.ref b)]))
  refine go (fun _ kont => XS.bipush X15.here hx rfl (hb hby at_49) kont) ?_
  show G (T15.setTop (mkF m 51 #[.val (.int p1), .unset, .unset, .unset] [(.int (7 : Int32)), (.ref b), (.ref b)]))
  obtain ⟨T16, X16, e16, st16⟩ := getS X15 hx hZ hown (host := "") (hw _ (List.mem_of_getElem? (i := 18) rfl)) Via.refl e15 (hs15 _ (List.mem_of_getElem? (i := 7) rfl)).1 (g := (mkF m 51 #[.val (.int p1), .unset, .unset, .unset] [(.int (7 : Int32)), (.ref b), (.ref b)])) rfl (hb hby at_51)
  refine go st16 ?_
  show G (T16.setTop (mkF m 54 #[.val (.int p1), .unset, .unset, .unset] [(.ref y7), (.int (7 : Int32)), (.ref b), (.ref b)]))
  obtain ⟨cl17, Ar17, Ov17, Sl17, Ml17⟩ := id V15
  obtain ⟨T17, h17, X17, e17, W17, st17⟩ := stR X16 hx hZ e16 Ar17 (j := (7 : Int32)) (own_hink Sl17 (by decide) (k := 7) (by decide) (Nat.le_of_ble_eq_true rfl)) rfl (Sto.of Ar17 Ov17 (Ins.self (hs15 _ (List.mem_of_getElem? (i := 7) rfl)).2)) (g := (mkF m 54 #[.val (.int p1), .unset, .unset, .unset] [(.ref y7), (.int (7 : Int32)), (.ref b), (.ref b)])) rfl rfl (hb hby at_54)
  refine go st17 ?_
  have V17 : own_R Z h17 b "com/example/wary_ddl/waryddl/sql/StatementKind" [(.ref y0), (.ref y1), (.ref y2), (.ref y3), (.ref y4), (.ref y5), (.ref y6), (.ref y7), .null, .null, .null, .null, .null, .null, .null, .null] := own_R_set V15 W17 (k := 7) (by decide)
  have hs17 := own_HS_wr hs15 W17
  have N17 := Fr.snoc X17 N15 ga
  have Z17 : n0 ≤ h17.size := by rw [W17.size]; exact Z15
  show G (T17.setTop (mkF m 55 #[.val (.int p1), .unset, .unset, .unset] [(.ref b)]))
  refine go (fun _ kont => XS.dup X17.here hx rfl (hb hby at_55) rfl rfl kont) ?_
  show G (T17.setTop (mkF m 56 #[.val (.int p1), .unset, .unset, .unset] [(.ref b), (.ref b)]))
  refine go (fun _ kont => XS.bipush X17.here hx rfl (hb hby at_56) kont) ?_
  show G (T17.setTop (mkF m 58 #[.val (.int p1), .unset, .unset, .unset] [(.int (8 : Int32)), (.ref b), (.ref b)]))
  obtain ⟨T18, X18, e18, st18⟩ := getS X17 hx hZ hown (host := "") (hw _ (List.mem_of_getElem? (i := 20) rfl)) Via.refl e17 (hs17 _ (List.mem_of_getElem? (i := 8) rfl)).1 (g := (mkF m 58 #[.val (.int p1), .unset, .unset, .unset] [(.int (8 : Int32)), (.ref b), (.ref b)])) rfl (hb hby at_58)
  refine go st18 ?_
  show G (T18.setTop (mkF m 61 #[.val (.int p1), .unset, .unset, .unset] [(.ref y8), (.int (8 : Int32)), (.ref b), (.ref b)]))
  obtain ⟨cl19, Ar19, Ov19, Sl19, Ml19⟩ := id V17
  obtain ⟨T19, h19, X19, e19, W19, st19⟩ := stR X18 hx hZ e18 Ar19 (j := (8 : Int32)) (own_hink Sl19 (by decide) (k := 8) (by decide) (Nat.le_of_ble_eq_true rfl)) rfl (Sto.of Ar19 Ov19 (Ins.self (hs17 _ (List.mem_of_getElem? (i := 8) rfl)).2)) (g := (mkF m 61 #[.val (.int p1), .unset, .unset, .unset] [(.ref y8), (.int (8 : Int32)), (.ref b), (.ref b)])) rfl rfl (hb hby at_61)
  refine go st19 ?_
  have V19 : own_R Z h19 b "com/example/wary_ddl/waryddl/sql/StatementKind" [(.ref y0), (.ref y1), (.ref y2), (.ref y3), (.ref y4), (.ref y5), (.ref y6), (.ref y7), (.ref y8), .null, .null, .null, .null, .null, .null, .null] := own_R_set V17 W19 (k := 8) (by decide)
  have hs19 := own_HS_wr hs17 W19
  have N19 := Fr.snoc X19 N17 ga
  have Z19 : n0 ≤ h19.size := by rw [W19.size]; exact Z17
  show G (T19.setTop (mkF m 62 #[.val (.int p1), .unset, .unset, .unset] [(.ref b)]))
  refine go (fun _ kont => XS.dup X19.here hx rfl (hb hby at_62) rfl rfl kont) ?_
  show G (T19.setTop (mkF m 63 #[.val (.int p1), .unset, .unset, .unset] [(.ref b), (.ref b)]))
  refine go (fun _ kont => XS.bipush X19.here hx rfl (hb hby at_63) kont) ?_
  show G (T19.setTop (mkF m 65 #[.val (.int p1), .unset, .unset, .unset] [(.int (9 : Int32)), (.ref b), (.ref b)]))
  obtain ⟨T20, X20, e20, st20⟩ := getS X19 hx hZ hown (host := "") (hw _ (List.mem_of_getElem? (i := 22) rfl)) Via.refl e19 (hs19 _ (List.mem_of_getElem? (i := 9) rfl)).1 (g := (mkF m 65 #[.val (.int p1), .unset, .unset, .unset] [(.int (9 : Int32)), (.ref b), (.ref b)])) rfl (hb hby at_65)
  refine go st20 ?_
  show G (T20.setTop (mkF m 68 #[.val (.int p1), .unset, .unset, .unset] [(.ref y9), (.int (9 : Int32)), (.ref b), (.ref b)]))
  obtain ⟨cl21, Ar21, Ov21, Sl21, Ml21⟩ := id V19
  obtain ⟨T21, h21, X21, e21, W21, st21⟩ := stR X20 hx hZ e20 Ar21 (j := (9 : Int32)) (own_hink Sl21 (by decide) (k := 9) (by decide) (Nat.le_of_ble_eq_true rfl)) rfl (Sto.of Ar21 Ov21 (Ins.self (hs19 _ (List.mem_of_getElem? (i := 9) rfl)).2)) (g := (mkF m 68 #[.val (.int p1), .unset, .unset, .unset] [(.ref y9), (.int (9 : Int32)), (.ref b), (.ref b)])) rfl rfl (hb hby at_68)
  refine go st21 ?_
  have V21 : own_R Z h21 b "com/example/wary_ddl/waryddl/sql/StatementKind" [(.ref y0), (.ref y1), (.ref y2), (.ref y3), (.ref y4), (.ref y5), (.ref y6), (.ref y7), (.ref y8), (.ref y9), .null, .null, .null, .null, .null, .null] := own_R_set V19 W21 (k := 9) (by decide)
  have hs21 := own_HS_wr hs19 W21
  have N21 := Fr.snoc X21 N19 ga
  have Z21 : n0 ≤ h21.size := by rw [W21.size]; exact Z19
  show G (T21.setTop (mkF m 69 #[.val (.int p1), .unset, .unset, .unset] [(.ref b)]))
  refine go (fun _ kont => XS.dup X21.here hx rfl (hb hby at_69) rfl rfl kont) ?_
  show G (T21.setTop (mkF m 70 #[.val (.int p1), .unset, .unset, .unset] [(.ref b), (.ref b)]))
  refine go (fun _ kont => XS.bipush X21.here hx rfl (hb hby at_70) kont) ?_
  show G (T21.setTop (mkF m 72 #[.val (.int p1), .unset, .unset, .unset] [(.int (10 : Int32)), (.ref b), (.ref b)]))
  obtain ⟨T22, X22, e22, st22⟩ := getS X21 hx hZ hown (host := "") (hw _ (List.mem_of_getElem? (i := 24) rfl)) Via.refl e21 (hs21 _ (List.mem_of_getElem? (i := 10) rfl)).1 (g := (mkF m 72 #[.val (.int p1), .unset, .unset, .unset] [(.int (10 : Int32)), (.ref b), (.ref b)])) rfl (hb hby at_72)
  refine go st22 ?_
  show G (T22.setTop (mkF m 75 #[.val (.int p1), .unset, .unset, .unset] [(.ref y10), (.int (10 : Int32)), (.ref b), (.ref b)]))
  obtain ⟨cl23, Ar23, Ov23, Sl23, Ml23⟩ := id V21
  obtain ⟨T23, h23, X23, e23, W23, st23⟩ := stR X22 hx hZ e22 Ar23 (j := (10 : Int32)) (own_hink Sl23 (by decide) (k := 10) (by decide) (Nat.le_of_ble_eq_true rfl)) rfl (Sto.of Ar23 Ov23 (Ins.self (hs21 _ (List.mem_of_getElem? (i := 10) rfl)).2)) (g := (mkF m 75 #[.val (.int p1), .unset, .unset, .unset] [(.ref y10), (.int (10 : Int32)), (.ref b), (.ref b)])) rfl rfl (hb hby at_75)
  refine go st23 ?_
  have V23 : own_R Z h23 b "com/example/wary_ddl/waryddl/sql/StatementKind" [(.ref y0), (.ref y1), (.ref y2), (.ref y3), (.ref y4), (.ref y5), (.ref y6), (.ref y7), (.ref y8), (.ref y9), (.ref y10), .null, .null, .null, .null, .null] := own_R_set V21 W23 (k := 10) (by decide)
  have hs23 := own_HS_wr hs21 W23
  have N23 := Fr.snoc X23 N21 ga
  have Z23 : n0 ≤ h23.size := by rw [W23.size]; exact Z21
  show G (T23.setTop (mkF m 76 #[.val (.int p1), .unset, .unset, .unset] [(.ref b)]))
  refine go (fun _ kont => XS.dup X23.here hx rfl (hb hby at_76) rfl rfl kont) ?_
  show G (T23.setTop (mkF m 77 #[.val (.int p1), .unset, .unset, .unset] [(.ref b), (.ref b)]))
  refine go (fun _ kont => XS.bipush X23.here hx rfl (hb hby at_77) kont) ?_
  show G (T23.setTop (mkF m 79 #[.val (.int p1), .unset, .unset, .unset] [(.int (11 : Int32)), (.ref b), (.ref b)]))
  obtain ⟨T24, X24, e24, st24⟩ := getS X23 hx hZ hown (host := "") (hw _ (List.mem_of_getElem? (i := 26) rfl)) Via.refl e23 (hs23 _ (List.mem_of_getElem? (i := 11) rfl)).1 (g := (mkF m 79 #[.val (.int p1), .unset, .unset, .unset] [(.int (11 : Int32)), (.ref b), (.ref b)])) rfl (hb hby at_79)
  refine go st24 ?_
  show G (T24.setTop (mkF m 82 #[.val (.int p1), .unset, .unset, .unset] [(.ref y11), (.int (11 : Int32)), (.ref b), (.ref b)]))
  obtain ⟨cl25, Ar25, Ov25, Sl25, Ml25⟩ := id V23
  obtain ⟨T25, h25, X25, e25, W25, st25⟩ := stR X24 hx hZ e24 Ar25 (j := (11 : Int32)) (own_hink Sl25 (by decide) (k := 11) (by decide) (Nat.le_of_ble_eq_true rfl)) rfl (Sto.of Ar25 Ov25 (Ins.self (hs23 _ (List.mem_of_getElem? (i := 11) rfl)).2)) (g := (mkF m 82 #[.val (.int p1), .unset, .unset, .unset] [(.ref y11), (.int (11 : Int32)), (.ref b), (.ref b)])) rfl rfl (hb hby at_82)
  refine go st25 ?_
  have V25 : own_R Z h25 b "com/example/wary_ddl/waryddl/sql/StatementKind" [(.ref y0), (.ref y1), (.ref y2), (.ref y3), (.ref y4), (.ref y5), (.ref y6), (.ref y7), (.ref y8), (.ref y9), (.ref y10), (.ref y11), .null, .null, .null, .null] := own_R_set V23 W25 (k := 11) (by decide)
  have hs25 := own_HS_wr hs23 W25
  have N25 := Fr.snoc X25 N23 ga
  have Z25 : n0 ≤ h25.size := by rw [W25.size]; exact Z23
  show G (T25.setTop (mkF m 83 #[.val (.int p1), .unset, .unset, .unset] [(.ref b)]))
  refine go (fun _ kont => XS.dup X25.here hx rfl (hb hby at_83) rfl rfl kont) ?_
  show G (T25.setTop (mkF m 84 #[.val (.int p1), .unset, .unset, .unset] [(.ref b), (.ref b)]))
  refine go (fun _ kont => XS.bipush X25.here hx rfl (hb hby at_84) kont) ?_
  show G (T25.setTop (mkF m 86 #[.val (.int p1), .unset, .unset, .unset] [(.int (12 : Int32)), (.ref b), (.ref b)]))
  obtain ⟨T26, X26, e26, st26⟩ := getS X25 hx hZ hown (host := "") (hw _ (List.mem_of_getElem? (i := 28) rfl)) Via.refl e25 (hs25 _ (List.mem_of_getElem? (i := 12) rfl)).1 (g := (mkF m 86 #[.val (.int p1), .unset, .unset, .unset] [(.int (12 : Int32)), (.ref b), (.ref b)])) rfl (hb hby at_86)
  refine go st26 ?_
  show G (T26.setTop (mkF m 89 #[.val (.int p1), .unset, .unset, .unset] [(.ref y12), (.int (12 : Int32)), (.ref b), (.ref b)]))
  obtain ⟨cl27, Ar27, Ov27, Sl27, Ml27⟩ := id V25
  obtain ⟨T27, h27, X27, e27, W27, st27⟩ := stR X26 hx hZ e26 Ar27 (j := (12 : Int32)) (own_hink Sl27 (by decide) (k := 12) (by decide) (Nat.le_of_ble_eq_true rfl)) rfl (Sto.of Ar27 Ov27 (Ins.self (hs25 _ (List.mem_of_getElem? (i := 12) rfl)).2)) (g := (mkF m 89 #[.val (.int p1), .unset, .unset, .unset] [(.ref y12), (.int (12 : Int32)), (.ref b), (.ref b)])) rfl rfl (hb hby at_89)
  refine go st27 ?_
  have V27 : own_R Z h27 b "com/example/wary_ddl/waryddl/sql/StatementKind" [(.ref y0), (.ref y1), (.ref y2), (.ref y3), (.ref y4), (.ref y5), (.ref y6), (.ref y7), (.ref y8), (.ref y9), (.ref y10), (.ref y11), (.ref y12), .null, .null, .null] := own_R_set V25 W27 (k := 12) (by decide)
  have hs27 := own_HS_wr hs25 W27
  have N27 := Fr.snoc X27 N25 ga
  have Z27 : n0 ≤ h27.size := by rw [W27.size]; exact Z25
  show G (T27.setTop (mkF m 90 #[.val (.int p1), .unset, .unset, .unset] [(.ref b)]))
  refine go (fun _ kont => XS.dup X27.here hx rfl (hb hby at_90) rfl rfl kont) ?_
  show G (T27.setTop (mkF m 91 #[.val (.int p1), .unset, .unset, .unset] [(.ref b), (.ref b)]))
  refine go (fun _ kont => XS.bipush X27.here hx rfl (hb hby at_91) kont) ?_
  show G (T27.setTop (mkF m 93 #[.val (.int p1), .unset, .unset, .unset] [(.int (13 : Int32)), (.ref b), (.ref b)]))
  obtain ⟨T28, X28, e28, st28⟩ := getS X27 hx hZ hown (host := "") (hw _ (List.mem_of_getElem? (i := 30) rfl)) Via.refl e27 (hs27 _ (List.mem_of_getElem? (i := 13) rfl)).1 (g := (mkF m 93 #[.val (.int p1), .unset, .unset, .unset] [(.int (13 : Int32)), (.ref b), (.ref b)])) rfl (hb hby at_93)
  refine go st28 ?_
  show G (T28.setTop (mkF m 96 #[.val (.int p1), .unset, .unset, .unset] [(.ref y13), (.int (13 : Int32)), (.ref b), (.ref b)]))
  obtain ⟨cl29, Ar29, Ov29, Sl29, Ml29⟩ := id V27
  obtain ⟨T29, h29, X29, e29, W29, st29⟩ := stR X28 hx hZ e28 Ar29 (j := (13 : Int32)) (own_hink Sl29 (by decide) (k := 13) (by decide) (Nat.le_of_ble_eq_true rfl)) rfl (Sto.of Ar29 Ov29 (Ins.self (hs27 _ (List.mem_of_getElem? (i := 13) rfl)).2)) (g := (mkF m 96 #[.val (.int p1), .unset, .unset, .unset] [(.ref y13), (.int (13 : Int32)), (.ref b), (.ref b)])) rfl rfl (hb hby at_96)
  refine go st29 ?_
  have V29 : own_R Z h29 b "com/example/wary_ddl/waryddl/sql/StatementKind" [(.ref y0), (.ref y1), (.ref y2), (.ref y3), (.ref y4), (.ref y5), (.ref y6), (.ref y7), (.ref y8), (.ref y9), (.ref y10), (.ref y11), (.ref y12), (.ref y13), .null, .null] := own_R_set V27 W29 (k := 13) (by decide)
  have hs29 := own_HS_wr hs27 W29
  have N29 := Fr.snoc X29 N27 ga
  have Z29 : n0 ≤ h29.size := by rw [W29.size]; exact Z27
  show G (T29.setTop (mkF m 97 #[.val (.int p1), .unset, .unset, .unset] [(.ref b)]))
  refine go (fun _ kont => XS.dup X29.here hx rfl (hb hby at_97) rfl rfl kont) ?_
  show G (T29.setTop (mkF m 98 #[.val (.int p1), .unset, .unset, .unset] [(.ref b), (.ref b)]))
  refine go (fun _ kont => XS.bipush X29.here hx rfl (hb hby at_98) kont) ?_
  show G (T29.setTop (mkF m 100 #[.val (.int p1), .unset, .unset, .unset] [(.int (14 : Int32)), (.ref b), (.ref b)]))
  obtain ⟨T30, X30, e30, st30⟩ := getS X29 hx hZ hown (host := "") (hw _ (List.mem_of_getElem? (i := 32) rfl)) Via.refl e29 (hs29 _ (List.mem_of_getElem? (i := 14) rfl)).1 (g := (mkF m 100 #[.val (.int p1), .unset, .unset, .unset] [(.int (14 : Int32)), (.ref b), (.ref b)])) rfl (hb hby at_100)
  refine go st30 ?_
  show G (T30.setTop (mkF m 103 #[.val (.int p1), .unset, .unset, .unset] [(.ref y14), (.int (14 : Int32)), (.ref b), (.ref b)]))
  obtain ⟨cl31, Ar31, Ov31, Sl31, Ml31⟩ := id V29
  obtain ⟨T31, h31, X31, e31, W31, st31⟩ := stR X30 hx hZ e30 Ar31 (j := (14 : Int32)) (own_hink Sl31 (by decide) (k := 14) (by decide) (Nat.le_of_ble_eq_true rfl)) rfl (Sto.of Ar31 Ov31 (Ins.self (hs29 _ (List.mem_of_getElem? (i := 14) rfl)).2)) (g := (mkF m 103 #[.val (.int p1), .unset, .unset, .unset] [(.ref y14), (.int (14 : Int32)), (.ref b), (.ref b)])) rfl rfl (hb hby at_103)
  refine go st31 ?_
  have V31 : own_R Z h31 b "com/example/wary_ddl/waryddl/sql/StatementKind" [(.ref y0), (.ref y1), (.ref y2), (.ref y3), (.ref y4), (.ref y5), (.ref y6), (.ref y7), (.ref y8), (.ref y9), (.ref y10), (.ref y11), (.ref y12), (.ref y13), (.ref y14), .null] := own_R_set V29 W31 (k := 14) (by decide)
  have hs31 := own_HS_wr hs29 W31
  have N31 := Fr.snoc X31 N29 ga
  have Z31 : n0 ≤ h31.size := by rw [W31.size]; exact Z29
  show G (T31.setTop (mkF m 104 #[.val (.int p1), .unset, .unset, .unset] [(.ref b)]))
  refine go (fun _ kont => XS.dup X31.here hx rfl (hb hby at_104) rfl rfl kont) ?_
  show G (T31.setTop (mkF m 105 #[.val (.int p1), .unset, .unset, .unset] [(.ref b), (.ref b)]))
  refine go (fun _ kont => XS.bipush X31.here hx rfl (hb hby at_105) kont) ?_
  show G (T31.setTop (mkF m 107 #[.val (.int p1), .unset, .unset, .unset] [(.int (15 : Int32)), (.ref b), (.ref b)]))
  obtain ⟨T32, X32, e32, st32⟩ := getS X31 hx hZ hown (host := "") (hw _ (List.mem_of_getElem? (i := 34) rfl)) Via.refl e31 (hs31 _ (List.mem_of_getElem? (i := 15) rfl)).1 (g := (mkF m 107 #[.val (.int p1), .unset, .unset, .unset] [(.int (15 : Int32)), (.ref b), (.ref b)])) rfl (hb hby at_107)
  refine go st32 ?_
  show G (T32.setTop (mkF m 110 #[.val (.int p1), .unset, .unset, .unset] [(.ref y15), (.int (15 : Int32)), (.ref b), (.ref b)]))
  obtain ⟨cl33, Ar33, Ov33, Sl33, Ml33⟩ := id V31
  obtain ⟨T33, h33, X33, e33, W33, st33⟩ := stR X32 hx hZ e32 Ar33 (j := (15 : Int32)) (own_hink Sl33 (by decide) (k := 15) (by decide) (Nat.le_of_ble_eq_true rfl)) rfl (Sto.of Ar33 Ov33 (Ins.self (hs31 _ (List.mem_of_getElem? (i := 15) rfl)).2)) (g := (mkF m 110 #[.val (.int p1), .unset, .unset, .unset] [(.ref y15), (.int (15 : Int32)), (.ref b), (.ref b)])) rfl rfl (hb hby at_110)
  refine go st33 ?_
  have V33 : own_R Z h33 b "com/example/wary_ddl/waryddl/sql/StatementKind" [(.ref y0), (.ref y1), (.ref y2), (.ref y3), (.ref y4), (.ref y5), (.ref y6), (.ref y7), (.ref y8), (.ref y9), (.ref y10), (.ref y11), (.ref y12), (.ref y13), (.ref y14), (.ref y15)] := own_R_set V31 W33 (k := 15) (by decide)
  have hs33 := own_HS_wr hs31 W33
  have N33 := Fr.snoc X33 N31 ga
  have Z33 : n0 ≤ h33.size := by rw [W33.size]; exact Z31
  show G (T33.setTop (mkF m 111 #[.val (.int p1), .unset, .unset, .unset] [(.ref b)]))
  refine go (fun _ kont => XS.astoreN X33.here hx rfl (hb hby at_111) rfl rfl (l' := #[.val (.int p1), .val (.ref b), .unset, .unset]) rfl kont) ?_
  show G (T33.setTop (mkF m 112 #[.val (.int p1), .val (.ref b), .unset, .unset] []))
  refine go (fun _ kont => XS.iloadN X33.here hx rfl (hb hby at_112) rfl  kont) ?_
  show G (T33.setTop (mkF m 113 #[.val (.int p1), .val (.ref b), .unset, .unset] [(.int p1)]))
  refine go (fun _ kont => XS.bipush X33.here hx rfl (hb hby at_113) kont) ?_
  show G (T33.setTop (mkF m 115 #[.val (.int p1), .val (.ref b), .unset, .unset] [(.int (15 : Int32)), (.int p1)]))
  refine go (fun _ kont => XS.iand X33.here hx rfl (hb hby at_115) rfl kont) ?_
  show G (T33.setTop (mkF m 116 #[.val (.int p1), .val (.ref b), .unset, .unset] [(.int (p1 &&& (15 : Int32)))]))
  generalize hk : (p1 &&& (15 : Int32)) = k
  have hkr : 0 ≤ k.toInt ∧ k.toInt ≤ 15 := by rw [← hk]; exact own_k16 p1
  refine go (fun _ kont => XS.istoreN X33.here hx rfl (hb hby at_116) rfl (l' := #[.val (.int p1), .val (.ref b), .val (.int k), .unset]) rfl kont) ?_
  show G (T33.setTop (mkF m 117 #[.val (.int p1), .val (.ref b), .val (.int k), .unset] []))
  refine go (fun _ kont => XS.iloadN X33.here hx rfl (hb hby at_117) rfl  kont) ?_
  show G (T33.setTop (mkF m 118 #[.val (.int p1), .val (.ref b), .val (.int k), .unset] [(.int k)]))
  refine go (fun _ kont => XS.bipush X33.here hx rfl (hb hby at_118) kont) ?_
  show G (T33.setTop (mkF m 120 #[.val (.int p1), .val (.ref b), .val (.int k), .unset] [(.int (9 : Int32)), (.int k)]))
  have j34 : ∀ (s120_0 : Int32), s120_0 = (if k = (9 : Int32) then (0 : Int32) else (if k < (14 : Int32) then (1 : Int32) else (0 : Int32))) → G (T33.setTop (mkF m 134 #[.val (.int p1), .val (.ref b), .val (.int k), .unset] [(.int s120_0)])) := by
    intro s120_0 hs120_0
    refine go (fun _ kont => XS.istoreN X33.here hx rfl (hb hby at_134) rfl (l' := #[.val (.int p1), .val (.ref b), .val (.int k), .val (.int s120_0)]) rfl kont) ?_
    show G (T33.setTop (mkF m 135 #[.val (.int p1), .val (.ref b), .val (.int k), .val (.int s120_0)] []))
    refine go (fun _ kont => XS.aloadN X33.here hx rfl (hb hby at_135) rfl rfl kont) ?_
    show G (T33.setTop (mkF m 136 #[.val (.int p1), .val (.ref b), .val (.int k), .val (.int s120_0)] [(.ref b)]))
    refine go (fun _ kont => XS.iloadN X33.here hx rfl (hb hby at_136) rfl  kont) ?_
    show G (T33.setTop (mkF m 137 #[.val (.int p1), .val (.ref b), .val (.int k), .val (.int s120_0)] [(.int k), (.ref b)]))
    obtain ⟨cl, Ar, Ov, Sl, Ml⟩ := id V33
    obtain ⟨z, hz⟩ : ∃ z, z = ([y0, y1, y2, y3, y4, y5, y6, y7, y8, y9, y10, y11, y12, y13, y14, y15] : List Addr).getD k.toNatClampNeg 0 := ⟨_, rfl⟩
    have hat : cl.slots[k.toNatClampNeg]? = some (.ref z) := by
      have hk' := own_cases hkr
      rw [hz]
      clear hkr
      rcases hk' with rfl | rfl | rfl | rfl | rfl | rfl | rfl | rfl | rfl | rfl | rfl | rfl | rfl | rfl | rfl | rfl <;> exact own_hatkD Sl rfl
    have EZ : Exa Z h33 z "com/example/wary_ddl/waryddl/sql/StatementKind" := by
      have hk' := own_cases hkr
      rw [hz]
      clear hat hkr
      rcases hk' with rfl | rfl | rfl | rfl | rfl | rfl | rfl | rfl | rfl | rfl | rfl | rfl | rfl | rfl | rfl | rfl
      · exact (hs33 _ (List.mem_of_getElem? (i := 0) rfl)).2
      · exact (hs33 _ (List.mem_of_getElem? (i := 1) rfl)).2
      · exact (hs33 _ (List.mem_of_getElem? (i := 2) rfl)).2
      · exact (hs33 _ (List.mem_of_getElem? (i := 3) rfl)).2
      · exact (hs33 _ (List.mem_of_getElem? (i := 4) rfl)).2
      · exact (hs33 _ (List.mem_of_getElem? (i := 5) rfl)).2
      · exact (hs33 _ (List.mem_of_getElem? (i := 6) rfl)).2
      · exact (hs33 _ (List.mem_of_getElem? (i := 7) rfl)).2
      · exact (hs33 _ (List.mem_of_getElem? (i := 8) rfl)).2
      · exact (hs33 _ (List.mem_of_getElem? (i := 9) rfl)).2
      · exact (hs33 _ (List.mem_of_getElem? (i := 10) rfl)).2
      · exact (hs33 _ (List.mem_of_getElem? (i := 11) rfl)).2
      · exact (hs33 _ (List.mem_of_getElem? (i := 12) rfl)).2
      · exact (hs33 _ (List.mem_of_getElem? (i := 13) rfl)).2
      · exact (hs33 _ (List.mem_of_getElem? (i := 14) rfl)).2
      · exact (hs33 _ (List.mem_of_getElem? (i := 15) rfl)).2
    refine go (fun _ kont => X33.aaload hx (j := k) (v := (.ref z)) (by rw [e33]; exact Ar.1) (State.isArrayOf_alike hZ.alike Ar.2.1) rfl Ar.2.2 (own_hin Sl hkr.1 (by show _ < ((16 : Nat) : Int); omega)) hat (g := (mkF m 137 #[.val (.int p1), .val (.ref b), .val (.int k), .val (.int s120_0)] [(.int k), (.ref b)])) rfl rfl (hb hby at_137) _ kont) ?_
    show G (T33.setTop (mkF m 138 #[.val (.int p1), .val (.ref b), .val (.int k), .val (.int s120_0)] [(.ref z)]))
    obtain ⟨cq35, kq35, qa35, qb35, qc35⟩ := isOf hZ e33 EZ
    obtain ⟨_, _, ⟨T35, L35, k35, n35⟩, -, X35, ⟨Lc35, hQ35, l35, y35, z35⟩, st35⟩ := X33.virtualBack hx (y := (⟨"com/example/wary_ddl/waryddl/sql/StatementKind", "isJudged", "()Z"⟩ : MethodName)) (z := (⟨"com/example/wary_ddl/waryddl/sql/StatementKind", "isJudged", "()Z"⟩ : MethodName)) hown (mvT hZ (hw _ (List.mem_of_getElem? (i := 36) rfl))) (mvT hZ (hw _ (List.mem_of_getElem? (i := 37) rfl))) (notFace_of_selects (args := #[]) (mvT hZ (hw _ (List.mem_of_getElem? (i := 39) rfl)))) (mvT hZ (hw _ (List.mem_of_getElem? (i := 39) rfl))) (mvT hZ (hw _ (List.mem_of_getElem? (i := 38) rfl))) (by decide) (backOf (W := 0) (own_rm_isJ l Z a0 hw [] z h33 n0 Z33 y9 y14 y15 (hs33 _ (List.mem_of_getElem? (i := 9) rfl)).1 (hs33 _ (List.mem_of_getElem? (i := 14) rfl)).1 (hs33 _ (List.mem_of_getElem? (i := 15) rfl)).1) hZ (hw _ (List.mem_of_getElem? (i := 40) rfl)) (hw _ (List.mem_of_getElem? (i := 3) rfl)) (by decide) (by decide)) qa35 qc35 (g := (mkF m 138 #[.val (.int p1), .val (.ref b), .val (.int k), .val (.int s120_0)] [(.ref z)])) rfl (by rw [hml]; rfl) (Steps.refl _) (argsL := []) (rest := []) (lenOf own_pd0 rfl) rfl (by show 2 * 0 + _ ≤ _; exact Nat.le_of_eq rfl) (hb hby at_138) (fun _ _ => ⟨rfl, e33, (by decide : 1 + 0 ≤ _), (by decide : 16 + 0 ≤ _)⟩)
    dsimp only [Pt.U, Pt.locs, Pt.cells, Pt.slots] at X35 l35 y35 z35 st35 hQ35
    subst l35 y35 z35
    obtain ⟨rfl, N35q, e35⟩ := hQ35
    have N35 := Fr.app N33 N35q
    refine go (fun _ kont => st35.trans kont) ?_
    show G (T35.setTop (mkF m 141 #[.val (.int p1), .val (.ref b), .val (.int k), .val (.int s120_0)] [(.int (own_isJ z y9 y14 y15))]))
    refine go (fun _ kont => XS.iloadN X35.here hx rfl (hb hby at_141) rfl  kont) ?_
    show G (T35.setTop (mkF m 142 #[.val (.int p1), .val (.ref b), .val (.int k), .val (.int s120_0)] [(.int s120_0), (.int (own_isJ z y9 y14 y15))]))
    have hfin : (own_isJ z y9 y14 y15) = s120_0 := by
      have hk' := own_cases hkr
      clear hat hkr EZ
      subst hz
      rw [hs120_0]
      rcases hk' with rfl | rfl | rfl | rfl | rfl | rfl | rfl | rfl | rfl | rfl | rfl | rfl | rfl | rfl | rfl | rfl
      · show own_isJ y0 y9 y14 y15 = _
        simp [own_isJ, *] <;> decide
      · show own_isJ y1 y9 y14 y15 = _
        simp [own_isJ, *] <;> decide
      · show own_isJ y2 y9 y14 y15 = _
        simp [own_isJ, *] <;> decide
      · show own_isJ y3 y9 y14 y15 = _
        simp [own_isJ, *] <;> decide
      · show own_isJ y4 y9 y14 y15 = _
        simp [own_isJ, *] <;> decide
      · show own_isJ y5 y9 y14 y15 = _
        simp [own_isJ, *] <;> decide
      · show own_isJ y6 y9 y14 y15 = _
        simp [own_isJ, *] <;> decide
      · show own_isJ y7 y9 y14 y15 = _
        simp [own_isJ, *] <;> decide
      · show own_isJ y8 y9 y14 y15 = _
        simp [own_isJ, *] <;> decide
      · show own_isJ y9 y9 y14 y15 = _
        simp [own_isJ, *] <;> decide
      · show own_isJ y10 y9 y14 y15 = _
        simp [own_isJ, *] <;> decide
      · show own_isJ y11 y9 y14 y15 = _
        simp [own_isJ, *] <;> decide
      · show own_isJ y12 y9 y14 y15 = _
        simp [own_isJ, *] <;> decide
      · show own_isJ y13 y9 y14 y15 = _
        simp [own_isJ, *] <;> decide
      · show own_isJ y14 y9 y14 y15 = _
        simp [own_isJ, *] <;> decide
      · show own_isJ y15 y9 y14 y15 = _
        simp [own_isJ, *] <;> decide
    refine go (fun _ kont => XS.icmpNo X35.here hx rfl (hb hby at_142) rfl (teq hfin).2 kont) ?_
    show G (T35.setTop (mkF m 145 #[.val (.int p1), .val (.ref b), .val (.int k), .val (.int s120_0)] []))
    refine go (fun _ kont => XS.iconst X35.here hx rfl (hb hby at_145) kont) ?_
    show G (T35.setTop (mkF m 146 #[.val (.int p1), .val (.ref b), .val (.int k), .val (.int s120_0)] [(.int (1 : Int32))]))
    refine go (fun _ kont => XS.goto X35.here hx rfl (pc0 := 146) (pc' := 150) rfl (hb hby at_146) (by decide) (by decide) kont) ?_
    show G (T35.setTop (mkF m 150 #[.val (.int p1), .val (.ref b), .val (.int k), .val (.int s120_0)] [(.int (1 : Int32))]))
    rw [hG]
    exact own_retN X35 hx (t := .boolean) Bd.returns (by simp) (hb hby at_150) hlk (by decide) (by decide) ⟨rfl, N35⟩
  by_cases hc120 : k = (9 : Int32)
  · refine go (fun _ kont => XS.icmpYes X33.here hx rfl (pc0 := 120) (pc' := 133) rfl (hb hby at_120) rfl (teq hc120).1 (by decide) (by decide) kont) ?_
    show G (T33.setTop (mkF m 133 #[.val (.int p1), .val (.ref b), .val (.int k), .unset] []))
    refine go (fun _ kont => XS.iconst X33.here hx rfl (hb hby at_133) kont) ?_
    show G (T33.setTop (mkF m 134 #[.val (.int p1), .val (.ref b), .val (.int k), .unset] [(.int (0 : Int32))]))
    exact j34 _ (by first | exact (if_pos hc120).symm | (rw [if_pos hc120]; assumption))
  · refine go (fun _ kont => XS.icmpNo X33.here hx rfl (hb hby at_120) rfl (feq hc120).1 kont) ?_
    show G (T33.setTop (mkF m 123 #[.val (.int p1), .val (.ref b), .val (.int k), .unset] []))
    refine go (fun _ kont => XS.iloadN X33.here hx rfl (hb hby at_123) rfl  kont) ?_
    show G (T33.setTop (mkF m 124 #[.val (.int p1), .val (.ref b), .val (.int k), .unset] [(.int k)]))
    refine go (fun _ kont => XS.bipush X33.here hx rfl (hb hby at_124) kont) ?_
    show G (T33.setTop (mkF m 126 #[.val (.int p1), .val (.ref b), .val (.int k), .unset] [(.int (14 : Int32)), (.int k)]))
    have j36 : ∀ (s126_0 : Int32), s126_0 = (if k < (14 : Int32) then (1 : Int32) else (0 : Int32)) → G (T33.setTop (mkF m 134 #[.val (.int p1), .val (.ref b), .val (.int k), .unset] [(.int s126_0)])) := by
      intro s126_0 hs126_0
      exact j34 _ (by first | exact (if_neg hc120).symm | (rw [if_neg hc120]; assumption))
    by_cases hc126 : k < (14 : Int32)
    · refine go (fun _ kont => XS.icmpNo X33.here hx rfl (hb hby at_126) rfl (tlt hc126).2.1 kont) ?_
      show G (T33.setTop (mkF m 129 #[.val (.int p1), .val (.ref b), .val (.int k), .unset] []))
      refine go (fun _ kont => XS.iconst X33.here hx rfl (hb hby at_129) kont) ?_
      show G (T33.setTop (mkF m 130 #[.val (.int p1), .val (.ref b), .val (.int k), .unset] [(.int (1 : Int32))]))
      refine go (fun _ kont => XS.goto X33.here hx rfl (pc0 := 130) (pc' := 134) rfl (hb hby at_130) (by decide) (by decide) kont) ?_
      show G (T33.setTop (mkF m 134 #[.val (.int p1), .val (.ref b), .val (.int k), .unset] [(.int (1 : Int32))]))
      exact j36 _ (by first | exact (if_pos hc126).symm | (rw [if_pos hc126]; assumption))
    · refine go (fun _ kont => XS.icmpYes X33.here hx rfl (pc0 := 126) (pc' := 133) rfl (hb hby at_126) rfl (flt hc126).2.1 (by decide) (by decide) kont) ?_
      show G (T33.setTop (mkF m 133 #[.val (.int p1), .val (.ref b), .val (.int k), .unset] []))
      refine go (fun _ kont => XS.iconst X33.here hx rfl (hb hby at_133) kont) ?_
      show G (T33.setTop (mkF m 134 #[.val (.int p1), .val (.ref b), .val (.int k), .unset] [(.int (0 : Int32))]))
      exact j36 _ (by first | exact (if_neg hc126).symm | (rw [if_neg hc126]; assumption))
set_option maxRecDepth 65536 in
set_option maxHeartbeats 40000000 in
theorem comes_1 {Post : Tables → Env → Array Value → State → Outcome → State → Prop} (hpost : ∀ tb e args s v u, (limb_1_1.after args s (.returned v) u = true ∧ limb_1_2.after args s (.returned v) u = true ∧ True) → FrameEnd s (.returned v) u (Jvm.fieldLocs frame_1_writes args s ++ Jvm.arrayLocs frame_1_arrays args s ++ Jvm.staticLocs frame_1_statics s) 16 128 → Post tb e args s (.returned v) u) :
    ArmFor flags0 classFile x code maxLocals ret World_1 tables_1 room_1 Calls_1 rest_1 Pre_1 Post := by
  intro l hfl _ _ p e ha hc hk s m args below hf hA hF happ hP
  obtain ⟨hcalls, hrest, hpre⟩ := hP
  obtain ⟨-, -, -, hnamed, -, -, -, hat⟩ := (Spec.applies_iff hf).mp happ
  obtain ⟨hg, hn⟩ := and_e (Cond.before_iff.mp (show (Jvm.Cond.and given_1 narrow_1).before args s = true from hpre))
  obtain ⟨hcnt, ha0⟩ := and_e hg
  have hk0 := ha0
  obtain ⟨w0, rfl⟩ : ∃ w0 : Value, args = #[w0] := by
    have hs : args.size = 1 := by simpa [Cond.value, given_1] using hcnt
    obtain ⟨L⟩ := args
    match L, hs with
    | [w0], _ => exact ⟨w0, rfl⟩
  have hw := fun d (hd : d ∈ tables_1) => atoms_spec (ws := Jvm.Cond.code x code maxLocals ret :: tables_1) hat d (List.mem_cons_of_mem _ hd)
  have hfit : Fit s := fun {y c} hc i hi => by
    obtain ⟨ha, rfl⟩ := Array.getElem?_eq_some_iff.mp hc
    have q := List.all_eq_true.mp ((Array.all_eq_true_iff_forall_mem.mp hF) _ (Array.getElem_mem ha)) i (List.mem_range.mpr hi)
    simpa [Array.getElem?_eq_getElem hi] using q
  obtain ⟨i0, ei0⟩ := is_v hk0
  obtain rfl : w0 = (.int i0) := Option.some.inj ei0
  obtain ⟨q0, r0⟩ := and_e hn
  obtain ⟨q1, r1⟩ := and_e r0
  obtain ⟨q2, r2⟩ := and_e r1
  obtain ⟨q3, r3⟩ := and_e r2
  obtain ⟨q4, r4⟩ := and_e r3
  obtain ⟨q5, r5⟩ := and_e r4
  obtain ⟨q6, r6⟩ := and_e r5
  obtain ⟨q7, r7⟩ := and_e r6
  obtain ⟨q8, r8⟩ := and_e r7
  obtain ⟨q9, r9⟩ := and_e r8
  obtain ⟨q10, r10⟩ := and_e r9
  obtain ⟨q11, r11⟩ := and_e r10
  obtain ⟨q12, r12⟩ := and_e r11
  obtain ⟨q13, r13⟩ := and_e r12
  obtain ⟨q14, r14⟩ := and_e r13
  obtain ⟨q15, r15⟩ := and_e r14
  obtain ⟨q16, r16⟩ := and_e r15
  obtain ⟨q17, r17⟩ := and_e r16
  obtain ⟨q18, r18⟩ := and_e r17
  obtain ⟨q19, r19⟩ := and_e r18
  obtain ⟨q20, r20⟩ := and_e r19
  obtain ⟨q21, r21⟩ := and_e r20
  obtain ⟨q22, r22⟩ := and_e r21
  obtain ⟨q23, r23⟩ := and_e r22
  obtain ⟨q24, r24⟩ := and_e r23
  obtain ⟨q25, r25⟩ := and_e r24
  obtain ⟨q26, r26⟩ := and_e r25
  obtain ⟨q27, r27⟩ := and_e r26
  obtain ⟨q28, r28⟩ := and_e r27
  obtain ⟨q29, r29⟩ := and_e r28
  obtain ⟨q30, r30⟩ := and_e r29
  have q31 := r30
  obtain ⟨y0, ev0⟩ := exa_v q0
  have SE0 : Sta s s.heap "com/example/wary_ddl/waryddl/sql/StatementKind" "ALTER_TABLE" "Lcom/example/wary_ddl/waryddl/sql/StatementKind;" (.ref y0) ∧ Exa s s.heap y0 "com/example/wary_ddl/waryddl/sql/StatementKind" := ⟨Sta.start ev0 (Or.inr ⟨(hw _ (List.mem_of_getElem? (i := 3) rfl)), (hw _ (List.mem_of_getElem? (i := 4) rfl))⟩), Exa.start ev0 q0⟩
  have O0 := own_ord ev0 q16
  obtain ⟨y1, ev1⟩ := exa_v q1
  have SE1 : Sta s s.heap "com/example/wary_ddl/waryddl/sql/StatementKind" "CREATE_INDEX" "Lcom/example/wary_ddl/waryddl/sql/StatementKind;" (.ref y1) ∧ Exa s s.heap y1 "com/example/wary_ddl/waryddl/sql/StatementKind" := ⟨Sta.start ev1 (Or.inr ⟨(hw _ (List.mem_of_getElem? (i := 3) rfl)), (hw _ (List.mem_of_getElem? (i := 7) rfl))⟩), Exa.start ev1 q1⟩
  have O1 := own_ord ev1 q26
  obtain ⟨y2, ev2⟩ := exa_v q2
  have SE2 : Sta s s.heap "com/example/wary_ddl/waryddl/sql/StatementKind" "DROP_INDEX" "Lcom/example/wary_ddl/waryddl/sql/StatementKind;" (.ref y2) ∧ Exa s s.heap y2 "com/example/wary_ddl/waryddl/sql/StatementKind" := ⟨Sta.start ev2 (Or.inr ⟨(hw _ (List.mem_of_getElem? (i := 3) rfl)), (hw _ (List.mem_of_getElem? (i := 9) rfl))⟩), Exa.start ev2 q2⟩
  have O2 := own_ord ev2 q23
  obtain ⟨y3, ev3⟩ := exa_v q3
  have SE3 : Sta s s.heap "com/example/wary_ddl/waryddl/sql/StatementKind" "RENAME_TABLE" "Lcom/example/wary_ddl/waryddl/sql/StatementKind;" (.ref y3) ∧ Exa s s.heap y3 "com/example/wary_ddl/waryddl/sql/StatementKind" := ⟨Sta.start ev3 (Or.inr ⟨(hw _ (List.mem_of_getElem? (i := 3) rfl)), (hw _ (List.mem_of_getElem? (i := 11) rfl))⟩), Exa.start ev3 q3⟩
  have O3 := own_ord ev3 q20
  obtain ⟨y4, ev4⟩ := exa_v q4
  have SE4 : Sta s s.heap "com/example/wary_ddl/waryddl/sql/StatementKind" "OPTIMIZE_TABLE" "Lcom/example/wary_ddl/waryddl/sql/StatementKind;" (.ref y4) ∧ Exa s s.heap y4 "com/example/wary_ddl/waryddl/sql/StatementKind" := ⟨Sta.start ev4 (Or.inr ⟨(hw _ (List.mem_of_getElem? (i := 3) rfl)), (hw _ (List.mem_of_getElem? (i := 13) rfl))⟩), Exa.start ev4 q4⟩
  have O4 := own_ord ev4 q27
  obtain ⟨y5, ev5⟩ := exa_v q5
  have SE5 : Sta s s.heap "com/example/wary_ddl/waryddl/sql/StatementKind" "ALTER_TABLESPACE" "Lcom/example/wary_ddl/waryddl/sql/StatementKind;" (.ref y5) ∧ Exa s s.heap y5 "com/example/wary_ddl/waryddl/sql/StatementKind" := ⟨Sta.start ev5 (Or.inr ⟨(hw _ (List.mem_of_getElem? (i := 3) rfl)), (hw _ (List.mem_of_getElem? (i := 15) rfl))⟩), Exa.start ev5 q5⟩
  have O5 := own_ord ev5 q31
  obtain ⟨y6, ev6⟩ := exa_v q6
  have SE6 : Sta s s.heap "com/example/wary_ddl/waryddl/sql/StatementKind" "CREATE_TABLE" "Lcom/example/wary_ddl/waryddl/sql/StatementKind;" (.ref y6) ∧ Exa s s.heap y6 "com/example/wary_ddl/waryddl/sql/StatementKind" := ⟨Sta.start ev6 (Or.inr ⟨(hw _ (List.mem_of_getElem? (i := 3) rfl)), (hw _ (List.mem_of_getElem? (i := 17) rfl))⟩), Exa.start ev6 q6⟩
  have O6 := own_ord ev6 q30
  obtain ⟨y7, ev7⟩ := exa_v q7
  have SE7 : Sta s s.heap "com/example/wary_ddl/waryddl/sql/StatementKind" "CREATE_TABLESPACE" "Lcom/example/wary_ddl/waryddl/sql/StatementKind;" (.ref y7) ∧ Exa s s.heap y7 "com/example/wary_ddl/waryddl/sql/StatementKind" := ⟨Sta.start ev7 (Or.inr ⟨(hw _ (List.mem_of_getElem? (i := 3) rfl)), (hw _ (List.mem_of_getElem? (i := 19) rfl))⟩), Exa.start ev7 q7⟩
  have O7 := own_ord ev7 q22
  obtain ⟨y8, ev8⟩ := exa_v q8
  have SE8 : Sta s s.heap "com/example/wary_ddl/waryddl/sql/StatementKind" "DROP_TABLE" "Lcom/example/wary_ddl/waryddl/sql/StatementKind;" (.ref y8) ∧ Exa s s.heap y8 "com/example/wary_ddl/waryddl/sql/StatementKind" := ⟨Sta.start ev8 (Or.inr ⟨(hw _ (List.mem_of_getElem? (i := 3) rfl)), (hw _ (List.mem_of_getElem? (i := 21) rfl))⟩), Exa.start ev8 q8⟩
  have O8 := own_ord ev8 q25
  obtain ⟨y9, ev9⟩ := exa_v q9
  have SE9 : Sta s s.heap "com/example/wary_ddl/waryddl/sql/StatementKind" "ALTER_DATABASE" "Lcom/example/wary_ddl/waryddl/sql/StatementKind;" (.ref y9) ∧ Exa s s.heap y9 "com/example/wary_ddl/waryddl/sql/StatementKind" := ⟨Sta.start ev9 (Or.inr ⟨(hw _ (List.mem_of_getElem? (i := 3) rfl)), (hw _ (List.mem_of_getElem? (i := 23) rfl))⟩), Exa.start ev9 q9⟩
  have O9 := own_ord ev9 q17
  obtain ⟨y10, ev10⟩ := exa_v q10
  have SE10 : Sta s s.heap "com/example/wary_ddl/waryddl/sql/StatementKind" "DROP_DATABASE" "Lcom/example/wary_ddl/waryddl/sql/StatementKind;" (.ref y10) ∧ Exa s s.heap y10 "com/example/wary_ddl/waryddl/sql/StatementKind" := ⟨Sta.start ev10 (Or.inr ⟨(hw _ (List.mem_of_getElem? (i := 3) rfl)), (hw _ (List.mem_of_getElem? (i := 25) rfl))⟩), Exa.start ev10 q10⟩
  have O10 := own_ord ev10 q21
  obtain ⟨y11, ev11⟩ := exa_v q11
  have SE11 : Sta s s.heap "com/example/wary_ddl/waryddl/sql/StatementKind" "TRUNCATE_TABLE" "Lcom/example/wary_ddl/waryddl/sql/StatementKind;" (.ref y11) ∧ Exa s s.heap y11 "com/example/wary_ddl/waryddl/sql/StatementKind" := ⟨Sta.start ev11 (Or.inr ⟨(hw _ (List.mem_of_getElem? (i := 3) rfl)), (hw _ (List.mem_of_getElem? (i := 27) rfl))⟩), Exa.start ev11 q11⟩
  have O11 := own_ord ev11 q24
  obtain ⟨y12, ev12⟩ := exa_v q12
  have SE12 : Sta s s.heap "com/example/wary_ddl/waryddl/sql/StatementKind" "EXECUTE" "Lcom/example/wary_ddl/waryddl/sql/StatementKind;" (.ref y12) ∧ Exa s s.heap y12 "com/example/wary_ddl/waryddl/sql/StatementKind" := ⟨Sta.start ev12 (Or.inr ⟨(hw _ (List.mem_of_getElem? (i := 3) rfl)), (hw _ (List.mem_of_getElem? (i := 29) rfl))⟩), Exa.start ev12 q12⟩
  have O12 := own_ord ev12 q28
  obtain ⟨y13, ev13⟩ := exa_v q13
  have SE13 : Sta s s.heap "com/example/wary_ddl/waryddl/sql/StatementKind" "CALL" "Lcom/example/wary_ddl/waryddl/sql/StatementKind;" (.ref y13) ∧ Exa s s.heap y13 "com/example/wary_ddl/waryddl/sql/StatementKind" := ⟨Sta.start ev13 (Or.inr ⟨(hw _ (List.mem_of_getElem? (i := 3) rfl)), (hw _ (List.mem_of_getElem? (i := 31) rfl))⟩), Exa.start ev13 q13⟩
  have O13 := own_ord ev13 q29
  obtain ⟨y14, ev14⟩ := exa_v q14
  have SE14 : Sta s s.heap "com/example/wary_ddl/waryddl/sql/StatementKind" "OTHER" "Lcom/example/wary_ddl/waryddl/sql/StatementKind;" (.ref y14) ∧ Exa s s.heap y14 "com/example/wary_ddl/waryddl/sql/StatementKind" := ⟨Sta.start ev14 (Or.inr ⟨(hw _ (List.mem_of_getElem? (i := 3) rfl)), (hw _ (List.mem_of_getElem? (i := 33) rfl))⟩), Exa.start ev14 q14⟩
  have O14 := own_ord ev14 q18
  obtain ⟨y15, ev15⟩ := exa_v q15
  have SE15 : Sta s s.heap "com/example/wary_ddl/waryddl/sql/StatementKind" "SYNTAX_ERROR" "Lcom/example/wary_ddl/waryddl/sql/StatementKind;" (.ref y15) ∧ Exa s s.heap y15 "com/example/wary_ddl/waryddl/sql/StatementKind" := ⟨Sta.start ev15 (Or.inr ⟨(hw _ (List.mem_of_getElem? (i := 3) rfl)), (hw _ (List.mem_of_getElem? (i := 35) rfl))⟩), Exa.start ev15 q15⟩
  have O15 := own_ord ev15 q19
  have HS : own_HS s s.heap [("ALTER_TABLE", y0), ("CREATE_INDEX", y1), ("DROP_INDEX", y2), ("RENAME_TABLE", y3), ("OPTIMIZE_TABLE", y4), ("ALTER_TABLESPACE", y5), ("CREATE_TABLE", y6), ("CREATE_TABLESPACE", y7), ("DROP_TABLE", y8), ("ALTER_DATABASE", y9), ("DROP_DATABASE", y10), ("TRUNCATE_TABLE", y11), ("EXECUTE", y12), ("CALL", y13), ("OTHER", y14), ("SYNTAX_ERROR", y15)] := by
    intro q hq
    simp only [List.mem_cons, List.not_mem_nil, or_false] at hq
    rcases hq with rfl | rfl | rfl | rfl | rfl | rfl | rfl | rfl | rfl | rfl | rfl | rfl | rfl | rfl | rfl | rfl
    · exact SE0
    · exact SE1
    · exact SE2
    · exact SE3
    · exact SE4
    · exact SE5
    · exact SE6
    · exact SE7
    · exact SE8
    · exact SE9
    · exact SE10
    · exact SE11
    · exact SE12
    · exact SE13
    · exact SE14
    · exact SE15
  obtain ⟨n, o, h1, h2, h3, _, L, rfl, ⟨rfl, N⟩, hq⟩ := own_rm_law l s _ hw tables_1 i0 s.heap s.heap.size (Nat.le_refl _) y0 y1 y2 y3 y4 y5 y6 y7 y8 y9 y10 y11 y12 y13 y14 y15 HS (own_ord_ne O0 O9 (by decide)) (own_ord_ne O0 O14 (by decide)) (own_ord_ne O0 O15 (by decide)) (own_ord_ne O1 O9 (by decide)) (own_ord_ne O1 O14 (by decide)) (own_ord_ne O1 O15 (by decide)) (own_ord_ne O2 O9 (by decide)) (own_ord_ne O2 O14 (by decide)) (own_ord_ne O2 O15 (by decide)) (own_ord_ne O3 O9 (by decide)) (own_ord_ne O3 O14 (by decide)) (own_ord_ne O3 O15 (by decide)) (own_ord_ne O4 O9 (by decide)) (own_ord_ne O4 O14 (by decide)) (own_ord_ne O4 O15 (by decide)) (own_ord_ne O5 O9 (by decide)) (own_ord_ne O5 O14 (by decide)) (own_ord_ne O5 O15 (by decide)) (own_ord_ne O6 O9 (by decide)) (own_ord_ne O6 O14 (by decide)) (own_ord_ne O6 O15 (by decide)) (own_ord_ne O7 O9 (by decide)) (own_ord_ne O7 O14 (by decide)) (own_ord_ne O7 O15 (by decide)) (own_ord_ne O8 O9 (by decide)) (own_ord_ne O8 O14 (by decide)) (own_ord_ne O8 O15 (by decide)) (own_ord_ne O9 O14 (by decide)) (own_ord_ne O9 O15 (by decide)) (own_ord_ne O10 O9 (by decide)) (own_ord_ne O10 O14 (by decide)) (own_ord_ne O10 O15 (by decide)) (own_ord_ne O11 O9 (by decide)) (own_ord_ne O11 O14 (by decide)) (own_ord_ne O11 O15 (by decide)) (own_ord_ne O12 O9 (by decide)) (own_ord_ne O12 O14 (by decide)) (own_ord_ne O12 O15 (by decide)) (own_ord_ne O13 O9 (by decide)) (own_ord_ne O13 O14 (by decide)) (own_ord_ne O13 O15 (by decide)) (own_ord_ne O14 O9 (by decide)) (own_ord_ne O14 O15 (by decide)) (own_ord_ne O15 O9 (by decide)) (own_ord_ne O15 O14 (by decide)) p e ha hc hk s m _ below hf ((Spec.applies_iff_loose hf).mp happ).1 ⟨rfl, State.Warmed39.refl s, rfl⟩ trivial
  refine ⟨n, _, h1, h2, h3, hpost _ _ _ _ _ _ ⟨Cond.after_iff.mpr rfl, Cond.after_iff.mpr (eq_i res_at (Term.int_eval (1)) rfl), trivial⟩ ⟨hq.1, hq.2.1, (hq.2.2.sift fun y hy => Or.inr (N y hy)).mono (by decide) (by decide)⟩⟩
theorem main_1_1 : Claimed_1_1 := comes_1 fun _ _ _ _ _ _ h hF => ⟨h.1, hF⟩
theorem main_1_2 : Claimed_1_2 := comes_1 fun _ _ _ _ _ _ h hF => ⟨h.2.1, hF⟩
end Jvm.Pilot.@@N@@
namespace Jvm.Pilot.@@N@@
open Jvm Jvm.ClassFile Sem Op Lib Jvm.Free Jvm.Stand Jvm.Pilot.@@N@@.Jvm.D
/-! MADE BY PROGRAM (witnessworld.py) out of the Statement's table words and the real class files: 13 classes; the members and pool entries that the words name. The judged class is class 1, her method 1. -/
namespace start1
open Jvm.ClassFile
def u (s : String) : CpInfo := .utf8 (stringToUtf16 s)
/-- a pool by its gaps: so many unusable entries, then the entry; so many at the end -/
def gap : Nat → List CpInfo → List CpInfo
  | 0, r => r
  | n + 1, r => .unusable :: gap n r
def poolList (es : List (Nat × CpInfo)) (last : Nat) : List CpInfo := es.foldr (fun e r => gap e.1 (e.2 :: r)) (gap last [])
def pool (es : List (Nat × CpInfo)) (last : Nat) : Array CpInfo := ⟨poolList es last⟩
def fileOf (pool : Array CpInfo) (this : Nat) (attrs : Array Attribute := #[]) (ms : Array MethodInfo := #[]) (fl : Nat := 33) (sup : Nat := 0) (ifs : Array Nat := #[]) (fds : Array FieldInfo := #[]) : ClassFile where
  minorVersion := 0
  majorVersion := 65
  constantPool := pool
  accessFlags := fl
  thisClass := this
  superClass := sup
  interfaces := ifs
  fields := fds
  methods := ms
  attributes := attrs
def plain (name : String) (sup : Option ClassId) : Class where
  name := name
  kind := .ordinary
  loader := none
  accessFlags := 33
  super := sup
  interfaces := #[]
  cf := none
  fields := #[]
  methods := #[]
  instanceTypes := #[]
  staticTypes := #[]
  resolved := #[]
  callSites := []
  init := .initialized
  statics := none
  mirror := none

def pool0 : Array CpInfo := pool [(5, u "<init>"), (0, u "()V"), (1, .class_ 10), (1, u "java/lang/Object")] 113

def k0m0 : Method := { name := "<init>", desc := "()V", sig := { parameters := [], returnType := none }, accessFlags := 1, code := none }
/-- java/lang/Object -/
def k0 : Class := { plain "java/lang/Object" none with
  accessFlags := 33
  interfaces := #[]
  cf := some (fileOf pool0 8 #[] #[{ accessFlags := 1, nameIndex := 5, descriptorIndex := 6, attributes := #[] }] 33 0 #[] #[])
  fields := #[]
  methods := #[k0m0]
  instanceTypes := #[]
  staticTypes := #[]
  resolved := Array.replicate 124 none
  statics := none }

def pool1 : Array CpInfo := pool [(2, .class_ 4), (1, u "java/lang/Object"), (0, u "<init>"), (0, u "()V"), (0, .class_ 8), (0, u "com/example/wary_ddl/waryddl/sql/StatementKind"), (0, .fieldref 7 10), (0, .nameAndType 11 12), (0, u "ALTER_TABLE"), (0, u "Lcom/example/wary_ddl/waryddl/sql/StatementKind;"), (0, .fieldref 7 14), (0, .nameAndType 15 12), (0, u "CREATE_INDEX"), (0, .fieldref 7 17), (0, .nameAndType 18 12), (0, u "DROP_INDEX"), (0, .fieldref 7 20), (0, .nameAndType 21 12), (0, u "RENAME_TABLE"), (0, .fieldref 7 23), (0, .nameAndType 24 12), (0, u "OPTIMIZE_TABLE"), (0, .fieldref 7 26), (0, .nameAndType 27 12), (0, u "ALTER_TABLESPACE"), (0, .fieldref 7 29), (0, .nameAndType 30 12), (0, u "CREATE_TABLE"), (0, .fieldref 7 32), (0, .nameAndType 33 12), (0, u "CREATE_TABLESPACE"), (0, .fieldref 7 35), (0, .nameAndType 36 12), (0, u "DROP_TABLE"), (0, .fieldref 7 38), (0, .nameAndType 39 12), (0, u "ALTER_DATABASE"), (0, .fieldref 7 41), (0, .nameAndType 42 12), (0, u "DROP_DATABASE"), (0, .fieldref 7 44), (0, .nameAndType 45 12), (0, u "TRUNCATE_TABLE"), (0, .fieldref 7 47), (0, .nameAndType 48 12), (0, u "EXECUTE"), (0, .fieldref 7 50), (0, .nameAndType 51 12), (0, u "CALL"), (0, .fieldref 7 53), (0, .nameAndType 54 12), (0, u "OTHER"), (0, .fieldref 7 56), (0, .nameAndType 57 12), (0, u "SYNTAX_ERROR"), (0, .methodref 7 59), (0, .nameAndType 60 61), (0, u "isJudged"), (0, u "()Z"), (0, .class_ 63), (0, u "com/example/wary_ddl/waryddl/sql/StatementKindIsJudgedPinLaw"), (2, u "law"), (0, u "(I)Z")] 5

def k1m0 : Method := { name := "<init>", desc := "()V", sig := { parameters := [], returnType := none }, accessFlags := 1, code := none }
def k1c1 : Code := { maxStack := 4, maxLocals := 4, code := code, exceptionTable := #[], attributes := #[] }
def k1m1 : Method := { name := "law", desc := "(I)Z", sig := { parameters := [.int], returnType := some .boolean }, accessFlags := 9, code := some k1c1 }
/-- com/example/wary_ddl/waryddl/sql/StatementKindIsJudgedPinLaw -/
def k1 : Class := { plain "com/example/wary_ddl/waryddl/sql/StatementKindIsJudgedPinLaw" (some 0) with
  accessFlags := 49
  interfaces := #[]
  cf := some (fileOf pool1 62 #[] #[{ accessFlags := 1, nameIndex := 5, descriptorIndex := 6, attributes := #[] }, { accessFlags := 9, nameIndex := 66, descriptorIndex := 67, attributes := #[] }] 49 2 #[] #[])
  fields := #[]
  methods := #[k1m0, k1m1]
  instanceTypes := #[]
  staticTypes := #[]
  resolved := Array.replicate 73 none
  statics := none }

def pool2 : Array CpInfo := pool [(1, .class_ 2), (0, u "java/lang/constant/Constable"), (0, .class_ 4), (0, u "java/lang/Object")] 6

/-- java/lang/constant/Constable -/
def k2 : Class := { plain "java/lang/constant/Constable" (some 0) with
  accessFlags := 1537
  interfaces := #[]
  cf := some (fileOf pool2 1 #[] #[] 1537 3 #[] #[])
  fields := #[]
  methods := #[]
  instanceTypes := #[]
  staticTypes := #[]
  resolved := Array.replicate 11 none
  statics := none }

def pool3 : Array CpInfo := pool [(1, .class_ 2), (0, u "java/lang/Comparable"), (0, .class_ 4), (0, u "java/lang/Object")] 7

/-- java/lang/Comparable -/
def k3 : Class := { plain "java/lang/Comparable" (some 0) with
  accessFlags := 1537
  interfaces := #[]
  cf := some (fileOf pool3 1 #[] #[] 1537 3 #[] #[])
  fields := #[]
  methods := #[]
  instanceTypes := #[]
  staticTypes := #[]
  resolved := Array.replicate 12 none
  statics := none }

def pool4 : Array CpInfo := pool [(1, .class_ 2), (0, u "java/io/Serializable"), (0, .class_ 4), (0, u "java/lang/Object")] 2

/-- java/io/Serializable -/
def k4 : Class := { plain "java/io/Serializable" (some 0) with
  accessFlags := 1537
  interfaces := #[]
  cf := some (fileOf pool4 1 #[] #[] 1537 3 #[] #[])
  fields := #[]
  methods := #[]
  instanceTypes := #[]
  staticTypes := #[]
  resolved := Array.replicate 7 none
  statics := none }

def pool5 : Array CpInfo := pool [(2, .class_ 4), (1, u "java/lang/Enum"), (0, u "name"), (0, u "Ljava/lang/String;"), (2, u "ordinal"), (0, u "I"), (1, .class_ 14), (1, u "java/lang/Object"), (4, u "hash"), (86, .class_ 108), (1, u "java/lang/Enum$EnumDesc"), (2, .class_ 112), (0, u "java/lang/constant/Constable"), (0, .class_ 114), (0, u "java/lang/Comparable"), (0, .class_ 116), (0, u "java/io/Serializable")] 87

/-- java/lang/Enum -/
def k5 : Class := { plain "java/lang/Enum" (some 0) with
  accessFlags := 1057
  interfaces := #[2, 3, 4]
  cf := some (fileOf pool5 2 #[.nestMembers #[106]] #[] 1057 12 #[111, 113, 115] #[{ accessFlags := 18, nameIndex := 5, descriptorIndex := 6, attributes := #[] }, { accessFlags := 18, nameIndex := 9, descriptorIndex := 10, attributes := #[] }, { accessFlags := 2, nameIndex := 19, descriptorIndex := 10, attributes := #[] }])
  fields := #[{ name := "name", type := (.object "java/lang/String"), accessFlags := 18, slot := 0, constantValue := 0 }, { name := "ordinal", type := .int, accessFlags := 18, slot := 1, constantValue := 0 }, { name := "hash", type := .int, accessFlags := 2, slot := 2, constantValue := 0 }]
  methods := #[]
  instanceTypes := #[(.object "java/lang/String"), .int, .int]
  staticTypes := #[]
  resolved := Array.replicate 204 none
  statics := none }

def pool6 : Array CpInfo := pool [(1, .class_ 2), (0, u "com/example/wary_ddl/waryddl/sql/StatementKind"), (2, u "ALTER_TABLE"), (0, u "Lcom/example/wary_ddl/waryddl/sql/StatementKind;"), (2, u "CREATE_INDEX"), (2, u "DROP_INDEX"), (2, u "RENAME_TABLE"), (2, u "OPTIMIZE_TABLE"), (2, u "ALTER_TABLESPACE"), (2, u "CREATE_TABLE"), (2, u "CREATE_TABLESPACE"), (2, u "DROP_TABLE"), (0, .fieldref 1 32), (0, .nameAndType 33 6), (0, u "ALTER_DATABASE"), (2, u "DROP_DATABASE"), (2, u "TRUNCATE_TABLE"), (2, u "EXECUTE"), (2, u "CALL"), (0, .fieldref 1 47), (0, .nameAndType 48 6), (0, u "OTHER"), (0, .fieldref 1 50), (0, .nameAndType 51 6), (0, u "SYNTAX_ERROR"), (2, u "$VALUES"), (0, u "[Lcom/example/wary_ddl/waryddl/sql/StatementKind;"), (6, .class_ 64), (1, u "java/lang/Enum"), (54, u "isJudged"), (0, u "()Z")] 6

def k6c0 : Code := { maxStack := 2, maxLocals := 1, code := prog_234_method_4_code, exceptionTable := #[], attributes := #[] }
def k6m0 : Method := { name := "isJudged", desc := "()Z", sig := { parameters := [], returnType := some .boolean }, accessFlags := 1, code := some k6c0 }
/-- com/example/wary_ddl/waryddl/sql/StatementKind -/
def k6 : Class := { plain "com/example/wary_ddl/waryddl/sql/StatementKind" (some 5) with
  accessFlags := 16433
  interfaces := #[]
  cf := some (fileOf pool6 1 #[] #[{ accessFlags := 1, nameIndex := 119, descriptorIndex := 120, attributes := #[] }] 16433 62 #[] #[{ accessFlags := 16409, nameIndex := 5, descriptorIndex := 6, attributes := #[] }, { accessFlags := 16409, nameIndex := 9, descriptorIndex := 6, attributes := #[] }, { accessFlags := 16409, nameIndex := 12, descriptorIndex := 6, attributes := #[] }, { accessFlags := 16409, nameIndex := 15, descriptorIndex := 6, attributes := #[] }, { accessFlags := 16409, nameIndex := 18, descriptorIndex := 6, attributes := #[] }, { accessFlags := 16409, nameIndex := 21, descriptorIndex := 6, attributes := #[] }, { accessFlags := 16409, nameIndex := 24, descriptorIndex := 6, attributes := #[] }, { accessFlags := 16409, nameIndex := 27, descriptorIndex := 6, attributes := #[] }, { accessFlags := 16409, nameIndex := 30, descriptorIndex := 6, attributes := #[] }, { accessFlags := 16409, nameIndex := 33, descriptorIndex := 6, attributes := #[] }, { accessFlags := 16409, nameIndex := 36, descriptorIndex := 6, attributes := #[] }, { accessFlags := 16409, nameIndex := 39, descriptorIndex := 6, attributes := #[] }, { accessFlags := 16409, nameIndex := 42, descriptorIndex := 6, attributes := #[] }, { accessFlags := 16409, nameIndex := 45, descriptorIndex := 6, attributes := #[] }, { accessFlags := 16409, nameIndex := 48, descriptorIndex := 6, attributes := #[] }, { accessFlags := 16409, nameIndex := 51, descriptorIndex := 6, attributes := #[] }, { accessFlags := 4122, nameIndex := 54, descriptorIndex := 55, attributes := #[] }])
  fields := #[{ name := "ALTER_TABLE", type := (.object "com/example/wary_ddl/waryddl/sql/StatementKind"), accessFlags := 16409, slot := 0, constantValue := 0 }, { name := "CREATE_INDEX", type := (.object "com/example/wary_ddl/waryddl/sql/StatementKind"), accessFlags := 16409, slot := 1, constantValue := 0 }, { name := "DROP_INDEX", type := (.object "com/example/wary_ddl/waryddl/sql/StatementKind"), accessFlags := 16409, slot := 2, constantValue := 0 }, { name := "RENAME_TABLE", type := (.object "com/example/wary_ddl/waryddl/sql/StatementKind"), accessFlags := 16409, slot := 3, constantValue := 0 }, { name := "OPTIMIZE_TABLE", type := (.object "com/example/wary_ddl/waryddl/sql/StatementKind"), accessFlags := 16409, slot := 4, constantValue := 0 }, { name := "ALTER_TABLESPACE", type := (.object "com/example/wary_ddl/waryddl/sql/StatementKind"), accessFlags := 16409, slot := 5, constantValue := 0 }, { name := "CREATE_TABLE", type := (.object "com/example/wary_ddl/waryddl/sql/StatementKind"), accessFlags := 16409, slot := 6, constantValue := 0 }, { name := "CREATE_TABLESPACE", type := (.object "com/example/wary_ddl/waryddl/sql/StatementKind"), accessFlags := 16409, slot := 7, constantValue := 0 }, { name := "DROP_TABLE", type := (.object "com/example/wary_ddl/waryddl/sql/StatementKind"), accessFlags := 16409, slot := 8, constantValue := 0 }, { name := "ALTER_DATABASE", type := (.object "com/example/wary_ddl/waryddl/sql/StatementKind"), accessFlags := 16409, slot := 9, constantValue := 0 }, { name := "DROP_DATABASE", type := (.object "com/example/wary_ddl/waryddl/sql/StatementKind"), accessFlags := 16409, slot := 10, constantValue := 0 }, { name := "TRUNCATE_TABLE", type := (.object "com/example/wary_ddl/waryddl/sql/StatementKind"), accessFlags := 16409, slot := 11, constantValue := 0 }, { name := "EXECUTE", type := (.object "com/example/wary_ddl/waryddl/sql/StatementKind"), accessFlags := 16409, slot := 12, constantValue := 0 }, { name := "CALL", type := (.object "com/example/wary_ddl/waryddl/sql/StatementKind"), accessFlags := 16409, slot := 13, constantValue := 0 }, { name := "OTHER", type := (.object "com/example/wary_ddl/waryddl/sql/StatementKind"), accessFlags := 16409, slot := 14, constantValue := 0 }, { name := "SYNTAX_ERROR", type := (.object "com/example/wary_ddl/waryddl/sql/StatementKind"), accessFlags := 16409, slot := 15, constantValue := 0 }, { name := "$VALUES", type := (.array (.object "com/example/wary_ddl/waryddl/sql/StatementKind")), accessFlags := 4122, slot := 16, constantValue := 0 }]
  methods := #[k6m0]
  instanceTypes := #[(.object "java/lang/String"), .int, .int]
  staticTypes := #[(.object "com/example/wary_ddl/waryddl/sql/StatementKind"), (.object "com/example/wary_ddl/waryddl/sql/StatementKind"), (.object "com/example/wary_ddl/waryddl/sql/StatementKind"), (.object "com/example/wary_ddl/waryddl/sql/StatementKind"), (.object "com/example/wary_ddl/waryddl/sql/StatementKind"), (.object "com/example/wary_ddl/waryddl/sql/StatementKind"), (.object "com/example/wary_ddl/waryddl/sql/StatementKind"), (.object "com/example/wary_ddl/waryddl/sql/StatementKind"), (.object "com/example/wary_ddl/waryddl/sql/StatementKind"), (.object "com/example/wary_ddl/waryddl/sql/StatementKind"), (.object "com/example/wary_ddl/waryddl/sql/StatementKind"), (.object "com/example/wary_ddl/waryddl/sql/StatementKind"), (.object "com/example/wary_ddl/waryddl/sql/StatementKind"), (.object "com/example/wary_ddl/waryddl/sql/StatementKind"), (.object "com/example/wary_ddl/waryddl/sql/StatementKind"), (.object "com/example/wary_ddl/waryddl/sql/StatementKind"), (.array (.object "com/example/wary_ddl/waryddl/sql/StatementKind"))]
  resolved := Array.replicate 127 none
  statics := some 0 }

def pool7 : Array CpInfo := pool [(1, u "java/lang/Cloneable"), (0, .class_ 1), (0, u "java/lang/Object"), (0, .class_ 3)] 3

/-- java/lang/Cloneable -/
def k7 : Class := { plain "java/lang/Cloneable" (some 0) with
  accessFlags := 1537
  interfaces := #[]
  cf := some (fileOf pool7 2 #[] #[] 1537 4 #[] #[])
  fields := #[]
  methods := #[]
  instanceTypes := #[]
  staticTypes := #[]
  resolved := Array.replicate 8 none
  statics := none }

/-- the primitive byte -/
def k8 : Class := { plain "byte" none with kind := .primitive 'B', accessFlags := 0x411 }
/-- [B -/
def k9 : Class := { plain "[B" (some 0) with kind := .array 8 .byte, interfaces := #[7, 4], accessFlags := 1041 }

/-- the primitive int -/
def k10 : Class := { plain "int" none with kind := .primitive 'I', accessFlags := 0x411 }
/-- [I -/
def k11 : Class := { plain "[I" (some 0) with kind := .array 10 .int, interfaces := #[7, 4], accessFlags := 1041 }

/-- [Lcom/example/wary_ddl/waryddl/sql/StatementKind; -/
def k12 : Class := { plain "[Lcom/example/wary_ddl/waryddl/sql/StatementKind;" (some 0) with kind := .array 6 (.object "com/example/wary_ddl/waryddl/sql/StatementKind"), interfaces := #[7, 4], accessFlags := 1041 }

def heap : Heap := #[{ cls := 6, slots := #[.ref 1, .ref 2, .ref 3, .ref 4, .ref 5, .ref 6, .ref 7, .ref 8, .ref 9, .ref 10, .ref 11, .ref 12, .ref 13, .ref 14, .ref 15, .ref 16, .null], vm := .statics 6 },
  { cls := 6, slots := #[.null, .int 0, .int 0], vm := .none },
  { cls := 6, slots := #[.null, .int 1, .int 0], vm := .none },
  { cls := 6, slots := #[.null, .int 2, .int 0], vm := .none },
  { cls := 6, slots := #[.null, .int 3, .int 0], vm := .none },
  { cls := 6, slots := #[.null, .int 4, .int 0], vm := .none },
  { cls := 6, slots := #[.null, .int 5, .int 0], vm := .none },
  { cls := 6, slots := #[.null, .int 6, .int 0], vm := .none },
  { cls := 6, slots := #[.null, .int 7, .int 0], vm := .none },
  { cls := 6, slots := #[.null, .int 8, .int 0], vm := .none },
  { cls := 6, slots := #[.null, .int 9, .int 0], vm := .none },
  { cls := 6, slots := #[.null, .int 10, .int 0], vm := .none },
  { cls := 6, slots := #[.null, .int 11, .int 0], vm := .none },
  { cls := 6, slots := #[.null, .int 12, .int 0], vm := .none },
  { cls := 6, slots := #[.null, .int 13, .int 0], vm := .none },
  { cls := 6, slots := #[.null, .int 14, .int 0], vm := .none },
  { cls := 6, slots := #[.null, .int 15, .int 0], vm := .none }]
def classes : Array Class := #[k0, k1, k2, k3, k4, k5, k6, k7, k8, k9, k10, k11, k12]
def interned : List (Array UInt16 × Addr) := []
def slotsUsed : Nat := 65
def theMethod : MethodId := ⟨1, 1⟩
def args0 : Array Value := #[.int 5]
def aboutOver (below : List Frame) : State where
  vm := { classes := classes, interned := interned.toArray }
  heap := heap
  slotsUsed := slotsUsed
  threads := #[{ frames := .invoking theMethod args0 :: below }]
def below0 : List Frame := [.native { method := ⟨0, 0⟩, args := #[] }]
def about1 : State := aboutOver below0
def p0 : Program := .bare "" "" ""
def e0 : Env := launch0.env 0 0 0
theorem w_frames : about1.frames = Frame.invoking theMethod args0 :: below0 := rfl
set_option maxRecDepth 65536 in
theorem w_args : argsFit about1.vm theMethod args0 = true := by decide +kernel
set_option maxRecDepth 65536 in
theorem w_heap : heapFits about1 = true := by decide +kernel
set_option maxRecDepth 65536 in
theorem w_runnable : about1.curStatus? = some .runnable := by decide +kernel
set_option maxRecDepth 65536 in
theorem w_alone : about1.alone = true := by decide +kernel
set_option maxRecDepth 65536 in
theorem w_named : about1.methodNamed? x = some theMethod := by decide +kernel
set_option maxRecDepth 65536 in
theorem w_hears : about1.hears theMethod below0 = true := by decide +kernel
set_option maxRecDepth 65536 in
theorem w_ripe : about1.ripe theMethod args0 below0 = true := by decide +kernel
theorem w_running : about1.status = .running := rfl
set_option maxRecDepth 65536 in
theorem w_room : about1.hasRoom e0.platform room_1 = true :=
  launch0.hasRoom_least _ room_1 (by decide +kernel) (by decide +kernel) (by decide +kernel) (by decide +kernel) (by decide +kernel) (by decide +kernel)
theorem allAtoms_all (ts : List Jvm.Cond) (a : Array Jvm.Value) (st : Jvm.State) : (allAtoms ts).before a st = ts.all (fun c => c.before a st) := by
  induction ts with
  | nil => rfl
  | cons c t ih =>
    show (Jvm.Cond.and c (allAtoms t)).before a st = _
    rw [Jvm.Cond.before_and, ih, List.all_cons]
def words1 : List Jvm.Cond := Jvm.Cond.code x code maxLocals ret :: tables_1
/-- a 'code' word, met by the world's own term for the bytes: nothing is compared byte by byte -/
theorem code_word {y : MethodName} {bytes : ByteArray} {mx : Nat} {rt : Option FieldType} {a : Array Value} {s : State} {m : MethodId} {meth : Method} {c : Code} (h1 : s.methodNamed? y = some m) (h2 : s.vm.method? m = some meth) (h3 : meth.code = some c) (h4 : c.code = bytes)
    (h5 : (c.maxLocals == mx && c.exceptionTable.isEmpty && decide (c.maxStack ≤ mostOperands) && decide (meth.sig.returnType = rt) && !meth.locks && decide (parseMethodDescriptor y.desc = some meth.sig)) = true) : (Jvm.Cond.code y bytes mx rt).before a s = true := by
  simp only [Bool.and_eq_true, beq_iff_eq, Bool.not_eq_true', decide_eq_true_eq] at h5
  obtain ⟨⟨⟨⟨⟨g1, g2⟩, g3⟩, g4⟩, g5⟩, g6⟩ := h5
  simp [Cond.before, Cond.holds, Cond.value, h1, h2, h3, h4, g1, g2, g3, g4, g5, g6]
def isCode : Jvm.Cond → Bool
  | .code _ _ _ _ => true
  | _ => false
theorem all_split {L : List Jvm.Cond} {P : Jvm.Cond → Bool} (h1 : L.all (fun c => isCode c || P c) = true) (h2 : ∀ c ∈ L.filter isCode, P c = true) : L.all P = true := by
  refine List.all_eq_true.mpr fun c hc => ?_
  have h := List.all_eq_true.mp h1 c hc
  rcases Bool.eq_false_or_eq_true (isCode c) with hi | hi
  · exact h2 c (List.mem_filter.mpr ⟨hc, hi⟩)
  · simpa [hi] using h
set_option maxRecDepth 65536 in
theorem w_c0 : (Jvm.Cond.code x code maxLocals ret).before args0 about1 = true := code_word (m := ⟨1, 1⟩) (meth := k1m1) (c := k1c1) (by decide +kernel) rfl rfl rfl (by decide +kernel)
set_option maxRecDepth 65536 in
theorem w_c1 : (Jvm.Cond.code ({ cls := "com/example/wary_ddl/waryddl/sql/StatementKind", name := "isJudged", desc := "()Z" } : Jvm.MethodName) prog_234_method_4_code (1 : Nat) (Option.some Jvm.ClassFile.FieldType.boolean)).before args0 about1 = true := code_word (m := ⟨6, 0⟩) (meth := k6m0) (c := k6c0) (by decide +kernel) rfl rfl rfl (by decide +kernel)
def codes1 : List Jvm.Cond := [Jvm.Cond.code x code maxLocals ret, Jvm.Cond.code ({ cls := "com/example/wary_ddl/waryddl/sql/StatementKind", name := "isJudged", desc := "()Z" } : Jvm.MethodName) prog_234_method_4_code (1 : Nat) (Option.some Jvm.ClassFile.FieldType.boolean)]
set_option maxRecDepth 65536 in
theorem codes_eq : words1.filter isCode = codes1 := rfl
theorem w_codes : ∀ c ∈ words1.filter isCode, c.before args0 about1 = true := by
  rw [codes_eq]
  intro c hc
  simp only [codes1, List.mem_cons, List.not_mem_nil, or_false] at hc
  rcases hc with rfl | rfl
  · exact w_c0
  · exact w_c1
set_option maxRecDepth 65536 in
theorem w_t1 : (words1.take 24).all (fun c => isCode c || c.before args0 about1) = true := by decide +kernel
set_option maxRecDepth 65536 in
theorem w_t2 : (words1.drop 24).all (fun c => isCode c || c.before args0 about1) = true := by decide +kernel
theorem w_tables : (allAtoms (Jvm.Cond.code x code maxLocals ret :: tables_1)).before args0 about1 = true := by
  rw [allAtoms_all]
  show words1.all (fun c => c.before args0 about1) = true
  refine all_split ?_ w_codes
  rw [← List.take_append_drop 24 words1, List.all_append, w_t1, w_t2]
  rfl
set_option maxRecDepth 65536 in
theorem w_case : (Jvm.Cond.and given_1 narrow_1).before args0 about1 = true := by decide +kernel
theorem w_applies : (headSpec (Jvm.Cond.code x code maxLocals ret :: tables_1) room_1).applies x e0.platform about1 = true :=
  (Spec.applies_iff w_frames).mpr ⟨w_running, w_runnable, w_alone, w_named, w_hears, w_ripe, w_room, w_tables⟩
theorem atStart : AtStart classFile x code maxLocals ret World_1 tables_1 room_1 Calls_1 rest_1 Pre_1 launch0 p0 e0 about1 theMethod args0 below0 :=
  ⟨lists_1, trivial, launch0.admits_env _ _ _, launch0.least_env, fairChoices_fair.cas, fairChoices_fair.clock, w_frames, w_args, w_heap, w_applies, trivial, trivial, w_case⟩
end start1
theorem witness_1 : WitnessClaimed_1 := ⟨start1.p0, start1.e0, start1.about1, start1.theMethod, start1.args0, start1.below0, start1.atStart⟩
end Jvm.Pilot.@@N@@
