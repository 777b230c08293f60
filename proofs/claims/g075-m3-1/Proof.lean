import JvmDerived
import JvmDerived.Pilot.@@N@@Statement
import JvmDerived.Pilot.@@N@@Code
set_option linter.unusedVariables false
set_option linter.unusedSimpArgs false
namespace Jvm.Pilot.@@N@@
open Jvm Jvm.ClassFile Sem Op Lib Jvm.Free Jvm.Stand Jvm.LawKit Jvm.RoadKit Bundle Jvm.Pilot.@@N@@.Jvm.D
section OwnLayer
variable {p : Program} {l : Launch} {e : Env} {R : Room} {s : State} {m : MethodId} {args : Array Value} {below : List Frame} {meth : Method} {c : Code} {T : State} {locs : List Loc} {cells slots : Nat}
/-- what is to be shown from the state S on: the run comes back, Q holds of what it leaves -/
def own_G (p : Program) (e : Env) (below : List Frame) (s : State) (k n : Nat) (Q : Option Value → Heap → List Loc → Prop) (S : State) : Prop :=
  ∃ t o, Steps p.tables e below S t ∧ t.status = .running ∧ Ended t below o ∧ ∃ v L, o = .returned v ∧ Q v t.heap L ∧ FrameEnd s o t L k n
theorem own_to {k n : Nat} {Q : Option Value → Heap → List Loc → Prop} {S S' : State} (h : ∀ t, Steps p.tables e below S' t → Steps p.tables e below S t) (g : own_G p e below s k n Q S') : own_G p e below s k n Q S := by
  obtain ⟨t, o, h1, h2⟩ := g
  exact ⟨t, o, h t h1, h2⟩
theorem own_retI {k n : Nat} {Q : Option Value → Heap → List Loc → Prop} (X : Stand p l e R s m args below meth c T locs cells slots) (hx : p.tables.exec = Jvm.exec) {pc : Nat} {Ls : Array Slot} {z : Int32} (hret : meth.sig.returnType = some .int) (hd : decode c.code pc = .ok (.ireturn, 1)) (hlk : meth.locks = false) (hk : cells ≤ k) (hn : slots ≤ n) (hq : Q (some (.int z)) T.heap locs) :
    own_G p e below s k n Q (T.setTop (mkF m pc Ls [.int z])) := by
  obtain ⟨fs, hr, hrun, hended, hW, hsame⟩ := X.leave (v := some (.int z)) (fun h => by rw [hret] at h; cases h) hlk
  exact ⟨_, _, X.ireturnOut hx hret rfl (Or.inl rfl) hd hr, hrun, hended, _, _, rfl, hq, ⟨_, rfl⟩, hW, hsame.mono hk hn⟩
theorem own_retN {k n : Nat} {Q : Option Value → Heap → List Loc → Prop} (X : Stand p l e R s m args below meth c T locs cells slots) (hx : p.tables.exec = Jvm.exec) {pc : Nat} {Ls : Array Slot} {z : Int32} {t : FieldType} {rest : List Value} (hret : meth.sig.returnType = some t) (ht : t = .boolean ∨ t = .byte ∨ t = .char ∨ t = .short) (hd : decode c.code pc = .ok (.ireturn, 1)) (hlk : meth.locks = false) (hk : cells ≤ k) (hn : slots ≤ n) (hq : Q (some (.int (nar t z))) T.heap locs) :
    own_G p e below s k n Q (T.setTop (mkF m pc Ls (.int z :: rest))) := by
  obtain ⟨fs, hr, hrun, hended, hW, hsame⟩ := X.leave (v := some (.int (nar t z))) (fun h => by rw [hret] at h; cases h) hlk
  exact ⟨_, _, retN X hx hret ht hd hr, hrun, hended, _, _, rfl, hq, ⟨_, rfl⟩, hW, hsame.mono hk hn⟩
theorem own_retJ {k n : Nat} {Q : Option Value → Heap → List Loc → Prop} (X : Stand p l e R s m args below meth c T locs cells slots) (hx : p.tables.exec = Jvm.exec) {pc : Nat} {Ls : Array Slot} {z : Int64} (hret : meth.sig.returnType = some .long) (hd : decode c.code pc = .ok (.lreturn, 1)) (hlk : meth.locks = false) (hk : cells ≤ k) (hn : slots ≤ n) (hq : Q (some (.long z)) T.heap locs) :
    own_G p e below s k n Q (T.setTop (mkF m pc Ls [.long z])) := by
  obtain ⟨fs, hr, hrun, hended, hW, hsame⟩ := X.leave (v := some (.long z)) (fun h => by rw [hret] at h; cases h) hlk
  exact ⟨_, _, X.lreturnOut hx hret hd hr, hrun, hended, _, _, rfl, hq, ⟨_, rfl⟩, hW, hsame.mono hk hn⟩
theorem own_retA {k n : Nat} {Q : Option Value → Heap → List Loc → Prop} (X : Stand p l e R s m args below meth c T locs cells slots) (hx : p.tables.exec = Jvm.exec) {pc : Nat} {Ls : Array Slot} {w : Value} {t : FieldType} (hw : w.isRef = true) (hret : meth.sig.returnType = some t) (ht : t.isReference = true) (hd : decode c.code pc = .ok (.areturn, 1)) (hlk : meth.locks = false) (hk : cells ≤ k) (hn : slots ≤ n) (hq : Q (some w) T.heap locs) :
    own_G p e below s k n Q (T.setTop (mkF m pc Ls [w])) := by
  obtain ⟨fs, hr, hrun, hended, hW, hsame⟩ := X.leave (v := some w) (fun h => by rw [hret] at h; cases h) hlk
  exact ⟨_, _, X.areturnOut hx hw hret ht hd hr, hrun, hended, _, _, rfl, hq, ⟨_, rfl⟩, hW, hsame.mono hk hn⟩
theorem own_retV {k n : Nat} {Q : Option Value → Heap → List Loc → Prop} (X : Stand p l e R s m args below meth c T locs cells slots) (hx : p.tables.exec = Jvm.exec) {pc : Nat} {Ls : Array Slot} (hret : meth.sig.returnType = none) (hd : decode c.code pc = .ok (.return_, 1)) (hlk : meth.locks = false) (hk : cells ≤ k) (hn : slots ≤ n) (hq : Q none T.heap locs) :
    own_G p e below s k n Q (T.setTop (mkF m pc Ls [])) := by
  obtain ⟨fs, hr, hrun, hended, hW, hsame⟩ := X.leave (v := none) (fun _ => rfl) hlk
  exact ⟨_, _, X.returnOut hx hret hd hr, hrun, hended, _, _, rfl, hq, ⟨_, rfl⟩, hW, hsame.mono hk hn⟩
end OwnLayer
/-- a callee that leaves the heap as it was and returns r -/
def own_Qp (r : Option Value) (h0 : Heap) (n0 : Nat) (v : Option Value) (h : Heap) (L : List Loc) : Prop := v = r ∧ Fr n0 L ∧ h = h0
/-- the law itself -/
def own_Ql (n0 : Nat) (v : Option Value) (h : Heap) (L : List Loc) : Prop := v = some (.int 1) ∧ Fr n0 L
/-- a reference's int field, out of the case's words -/
theorem own_ord {args : Array Value} {s : State} {t : Jvm.Term} {C n d : String} {k : Int32} {x : Addr} (ht : t.eval args s none [] s = some (.ref x)) (h : (Jvm.Cond.eq (.field t C n d) (.int k)).value args s none s [] = some true) : s.fieldOf? x C n d = some (.int k) := by
  obtain ⟨u, w, e1, e2, K1, K2⟩ := cmp_v (Or.inl h)
  have e3 : some w = some (.int k) := e2.symm.trans (Term.int_eval k)
  obtain rfl := Option.some.inj e3
  obtain ⟨z, rfl⟩ := K2
  have e4 := gotT (Cond.eq_ints e1 e2) h
  rw [fld_at ht] at e1
  rw [e1, e4]
theorem own_ord_ne {s : State} {C n d : String} {x y : Addr} {k k' : Int32} (h : s.fieldOf? x C n d = some (.int k)) (h' : s.fieldOf? y C n d = some (.int k')) (hk : k ≠ k') : ¬ (x = y) := fun q => by
  subst q
  rw [h] at h'
  exact hk (Value.int.inj (Option.some.inj h'))
theorem own_pn0 : plainName "com/example/reckoner/reckoner/core/Digits" = true := by first | (simp [plainName, overriddenIn]; done) | decide +kernel
theorem own_pn1 : plainName "com/example/reckoner/reckoner/core/DigitsCountPinLaw" = true := by first | (simp [plainName, overriddenIn]; done) | decide +kernel
theorem own_pd0 : parseMethodDescriptor "(J)I" = some ⟨[.long], some .int⟩ := by decide +kernel
theorem d_prog_23_method_2_0 : decode prog_23_method_2_code 0 = .ok (.iconst 1, 1) := by decide +kernel
theorem d_prog_23_method_2_1 : decode prog_23_method_2_code 1 = .ok (.istore_n 2, 1) := by decide +kernel
theorem d_prog_23_method_2_2 : decode prog_23_method_2_code 2 = .ok (.iload_n 2, 1) := by decide +kernel
theorem d_prog_23_method_2_3 : decode prog_23_method_2_code 3 = .ok (.getstatic 7, 3) := by decide +kernel
theorem d_prog_23_method_2_6 : decode prog_23_method_2_code 6 = .ok (.arraylength, 1) := by decide +kernel
theorem d_prog_23_method_2_7 : decode prog_23_method_2_code 7 = .ok (.if_icmp .gt 21, 3) := by decide +kernel
theorem d_prog_23_method_2_10 : decode prog_23_method_2_code 10 = .ok (.lload_n 0, 1) := by decide +kernel
theorem d_prog_23_method_2_11 : decode prog_23_method_2_code 11 = .ok (.getstatic 7, 3) := by decide +kernel
theorem d_prog_23_method_2_14 : decode prog_23_method_2_code 14 = .ok (.iload_n 2, 1) := by decide +kernel
theorem d_prog_23_method_2_15 : decode prog_23_method_2_code 15 = .ok (.iconst 1, 1) := by decide +kernel
theorem d_prog_23_method_2_16 : decode prog_23_method_2_code 16 = .ok (.isub, 1) := by decide +kernel
theorem d_prog_23_method_2_17 : decode prog_23_method_2_code 17 = .ok (.laload, 1) := by decide +kernel
theorem d_prog_23_method_2_18 : decode prog_23_method_2_code 18 = .ok (.lcmp, 1) := by decide +kernel
theorem d_prog_23_method_2_19 : decode prog_23_method_2_code 19 = .ok (.ifCond .lt 9, 3) := by decide +kernel
theorem d_prog_23_method_2_22 : decode prog_23_method_2_code 22 = .ok (.iinc 2 1, 3) := by decide +kernel
theorem d_prog_23_method_2_25 : decode prog_23_method_2_code 25 = .ok (.goto (-23), 3) := by decide +kernel
theorem d_prog_23_method_2_28 : decode prog_23_method_2_code 28 = .ok (.iload_n 2, 1) := by decide +kernel
theorem d_prog_23_method_2_29 : decode prog_23_method_2_code 29 = .ok (.ireturn, 1) := by decide +kernel
section OwnArr
variable {Z : State} {h h' : Heap} {a b : Addr} {ty : FieldType} {vs : List Value} {xs : List Int32} {ys : List Int64}
/-- the array at a holds just the values vs -/
def own_V (Z : State) (h : Heap) (a : Addr) (ty : FieldType) (vs : List Value) : Prop := ∃ c : Cell, Arr Z h a c ty ∧ c.slots.toList = vs ∧ vs.length < 2 ^ 31
theorem own_V_lt (F : own_V Z h a ty vs) : a < h.size := by obtain ⟨c, A, -⟩ := F; exact A.lt
theorem own_V_ext (F : own_V Z h a ty vs) (E : Ext h h') : own_V Z h' a ty vs := by obtain ⟨c, A, r⟩ := F; exact ⟨c, A.ext E, r⟩
theorem own_V_other {sl : Nat} {v : Value} (F : own_V Z h b ty vs) (W : Wr h h' a sl v) (q : b ≠ a) : own_V Z h' b ty vs := by obtain ⟨c, A, r⟩ := F; exact ⟨c, A.other W q, r⟩
theorem own_V_keep {ws : List Addr} (F : own_V Z h a ty vs) (K : Keep h h' ws) (q : a ∉ ws) : own_V Z h' a ty vs := by
  obtain ⟨c, A, r⟩ := F
  exact ⟨c, ⟨K.2.1 a c A.1 q, A.2⟩, r⟩
theorem own_V_set {j : Int32} {k : Nat} {v : Value} (F : own_V Z h a ty vs) (W : Wr h h' a j.toNatClampNeg v) (hj : j.toNatClampNeg = k) : own_V Z h' a ty (vs.set k v) := by
  obtain ⟨c, A, r, q⟩ := F
  subst hj r
  refine ⟨_, A.same W, ?_, ?_⟩
  · simp [Cell.setSlot]
  · rw [List.length_set]; exact q
theorem own_V_new {k : ClassId} {n : Int32} {m : Nat} (A : Arr Z h a (newA k ty n) ty) (hm : n.toNatClampNeg = m) (hn : m < 2 ^ 31) : own_V Z h a ty (List.replicate m (defaultValue ty)) := by
  subst hm
  refine ⟨_, A, by simp [newA], ?_⟩
  rw [List.length_replicate]; exact hn
theorem own_tn {j : Int32} (h0 : 0 ≤ j.toInt) : (j.toNatClampNeg : Int) = j.toInt := by
  show ((j.toInt.toNat : Nat) : Int) = j.toInt
  omega
theorem own_neg {j : Int32} (h0 : 0 ≤ j.toInt) : ¬ j < 0 := by
  rw [Int32.lt_iff_toInt_lt, show (0 : Int32).toInt = 0 from rfl]; omega
theorem own_hin {c : Cell} {j : Int32} (S : c.slots.toList = vs) (h0 : 0 ≤ j.toInt) (h1 : j.toInt < vs.length) : ¬ (j < 0 ∨ c.slots.size ≤ j.toNatClampNeg) := by
  have e := own_tn h0
  have e2 : c.slots.size = vs.length := by rw [← S]; simp
  intro q
  rcases q with q | q
  · exact own_neg h0 q
  · omega
theorem own_hink {c : Cell} {j : Int32} {k : Nat} (S : c.slots.toList = vs) (h0 : ¬ j < 0) (hj : j.toNatClampNeg = k) (hk : k < vs.length) : ¬ (j < 0 ∨ c.slots.size ≤ j.toNatClampNeg) := by
  have e2 : c.slots.size = vs.length := by rw [← S]; simp
  intro q
  rcases q with q | q
  · exact h0 q
  · omega
theorem own_hatk {c : Cell} {j : Int32} {k : Nat} {v : Value} (S : c.slots.toList = vs) (hj : j.toNatClampNeg = k) (hv : vs[k]? = some v) : c.slots[j.toNatClampNeg]? = some v := by
  rw [hj, ← hv, ← S]; simp
theorem own_hatkD {c : Cell} {j : Int32} {v : Value} (S : c.slots.toList = vs) (hv : vs[j.toNatClampNeg]? = some v) : c.slots[j.toNatClampNeg]? = some v := own_hatk S rfl hv
theorem own_hatI {c : Cell} {j : Int32} (S : c.slots.toList = xs.map Value.int) (h0 : 0 ≤ j.toInt) (h1 : j.toInt < xs.length) : c.slots[j.toNatClampNeg]? = some (.int (xs.getD j.toNatClampNeg 0)) := by
  have e := own_tn h0
  have hl : j.toNatClampNeg < xs.length := by omega
  refine own_hatk S rfl ?_
  simp [hl]
theorem own_hatJ {c : Cell} {j : Int32} (S : c.slots.toList = ys.map Value.long) (h0 : 0 ≤ j.toInt) (h1 : j.toInt < ys.length) : c.slots[j.toNatClampNeg]? = some (.long (ys.getD j.toNatClampNeg 0)) := by
  have e := own_tn h0
  have hl : j.toNatClampNeg < ys.length := by omega
  refine own_hatk S rfl ?_
  simp [hl]
theorem own_len {c : Cell} {n : Int32} (S : c.slots.toList = vs) (hn : n.toInt = vs.length) : c.slots.size.toInt32 = n := by
  have e2 : c.slots.size = vs.length := by rw [← S]; simp
  have e := own_tn (j := n) (by omega)
  refine len_of ?_ (own_neg (by omega))
  omega
end OwnArr
theorem own_ofN {d : Nat} (h : d < 2147483648) : (Int32.ofNat d).toInt = d := Int32.toInt_ofNat_of_lt (by omega)
theorem own_tnO {d : Nat} (h : d < 2147483648) : (Int32.ofNat d).toNatClampNeg = d := by
  have := own_tn (j := Int32.ofNat d) (by rw [own_ofN h]; omega)
  rw [own_ofN h] at this; omega
theorem own_ltO {d k : Nat} (h : d < 2147483648) (hk : k < 2147483648) : Int32.ofNat d < Int32.ofNat k ↔ d < k := by
  rw [Int32.lt_iff_toInt_lt, own_ofN h, own_ofN hk]; omega
theorem own_eqO {d k : Nat} (h : d < 2147483648) (hk : k < 2147483648) : Int32.ofNat d = Int32.ofNat k ↔ d = k := by
  rw [← Int32.toInt_inj, own_ofN h, own_ofN hk]; omega
theorem own_pred {d : Nat} (h1 : 1 ≤ d) : Int32.ofNat d - (1 : Int32) = Int32.ofNat (d - 1) := by
  have e : Int32.ofNat d = Int32.ofNat (d - 1) + (1 : Int32) := by
    rw [show (1 : Int32) = Int32.ofNat 1 from rfl, ← Int32.ofNat_add]; congr 1; omega
  rw [e, Int32.add_sub_cancel]
theorem own_addk (p k : Nat) : Int32.ofNat p + Int32.ofNat k = Int32.ofNat (p + k) := (Int32.ofNat_add p k).symm
theorem own_subk {p k : Nat} (h : k ≤ p) : Int32.ofNat p - Int32.ofNat k = Int32.ofNat (p - k) := by
  have e : Int32.ofNat p = Int32.ofNat (p - k) + Int32.ofNat k := by
    rw [own_addk]; congr 1; omega
  rw [e, Int32.add_sub_cancel]
theorem own_atI {xs : List Int32} {k : Nat} (h : k < xs.length) : (xs.map Value.int)[k]? = some (.int (xs.getD k 0)) := by simp [h]
theorem own_atJ {xs : List Int64} {k : Nat} (h : k < xs.length) : (xs.map Value.long)[k]? = some (.long (xs.getD k 0)) := by simp [h]
theorem own_toN {x : Int32} (h : 0 ≤ x.toInt) : x = Int32.ofNat x.toInt.toNat := by
  apply Int32.toInt_inj.mp
  have := x.toInt_lt
  rw [own_ofN (by omega)]; omega
theorem own_ni_0 {a : Addr} : a ∉ ([] : List Addr) := List.not_mem_nil
theorem own_ni_1 {a x : Addr} (h : a ≠ x) : a ∉ [x] := by simp [h]
theorem own_ni_2 {a x y : Addr} (h : a ≠ x) (h' : a ≠ y) : a ∉ [x, y] := by simp [h, h']
theorem own_ni_3 {a x y z : Addr} (h : a ≠ x) (h' : a ≠ y) (h'' : a ≠ z) : a ∉ [x, y, z] := by simp [h, h', h'']
theorem own_sub_0 {P : Addr → Prop} : ∀ x ∈ ([] : List Addr), P x := fun x h => absurd h List.not_mem_nil
theorem own_sub_1 {P : Addr → Prop} {a : Addr} (h : P a) : ∀ x ∈ [a], P x := fun x q => by
  obtain rfl : x = a := by simpa using q
  exact h

def own_P : List Int64 := [10, 100, 1000, 10000, 100000, 1000000, 10000000, 100000000, 1000000000, 10000000000, 100000000000, 1000000000000, 10000000000000, 100000000000000, 1000000000000000, 10000000000000000, 100000000000000000, 1000000000000000000]
theorem own_P_map : own_P.map Value.long = [(.long 10), (.long 100), (.long 1000), (.long 10000), (.long 100000), (.long 1000000), (.long 10000000), (.long 100000000), (.long 1000000000), (.long 10000000000), (.long 100000000000), (.long 1000000000000), (.long 10000000000000), (.long 100000000000000), (.long 1000000000000000), (.long 10000000000000000), (.long 100000000000000000), (.long 1000000000000000000)] := rfl
theorem own_Pat {k : Nat} (h : k < 18) : (own_P.map Value.long)[k]? = some (.long (own_P.getD k 0)) := by
  have : k < own_P.length := h
  simp [this]
def own_L : List Int64 := [1, 10, 100, 1000, 10000, 100000, 1000000, 10000000, 100000000, 1000000000, 10000000000, 100000000000, 1000000000000, 10000000000000, 100000000000000, 1000000000000000, 10000000000000000, 100000000000000000, 1000000000000000000]
theorem own_Lat {k : Nat} (h : k < 19) : (own_L.map Value.long)[k]? = some (.long (own_L.getD k 0)) := by
  have : k < own_L.length := h
  simp [this]
theorem own_LP {k : Nat} (h1 : 1 ≤ k) : own_L.getD k 0 = own_P.getD (k - 1) 0 := by
  obtain ⟨j, rfl⟩ : ∃ j, k = j + 1 := ⟨k - 1, by omega⟩
  rfl
theorem own_idx (x : Int32) (m : Int32) (d : Nat) (hm : m.toInt = d) (hd : 0 < d) : 0 ≤ (((x &&& (2147483647 : Int32)) - ((x &&& (2147483647 : Int32)) / m) * m)).toInt ∧ (((x &&& (2147483647 : Int32)) - ((x &&& (2147483647 : Int32)) / m) * m)).toInt < d := by
  have h1 := c_mask x (2147483647 : Int32) 31 (by decide) (by decide)
  rw [irem_eq_mod]
  have h2 := (c_irem (x &&& (2147483647 : Int32)) m d hm).1 (by omega)
  rw [h2]
  exact ⟨Int.emod_nonneg _ (by omega), Int.emod_lt_of_pos _ (by omega)⟩
/-- what count's answer says -/
def own_C (n : Int64) (d : Nat) : Prop := 1 ≤ d ∧ d ≤ 19 ∧ (d = 1 ∨ own_P.getD (d - 2) 0 ≤ n) ∧ (d = 19 ∨ n < own_P.getD (d - 1) 0)

theorem own_elemL {args : Array Value} {s : State} {t : Jvm.Term} {x : Addr} {cl : Cell} {j : Int32} {v : Int64} {ty : FieldType} (ht : t.eval args s none [] s = some (.ref x)) (A : Arr s s.heap x cl ty) (h : (Jvm.Cond.eq (.elem t (.int j)) (.long v)).value args s none s [] = some true) : cl.slots[j.toNatClampNeg]? = some (.long v) := by
  obtain ⟨u, w, e1, e2, K1, K2⟩ := cmp_v (Or.inl h)
  have e3 : some w = some (.long v) := e2.symm.trans (long_at v)
  obtain rfl := Option.some.inj e3
  obtain ⟨z, rfl⟩ := K2
  have e4 := gotT (eq_L e1 e2) h
  rw [← e4]
  exact (elem_in e1 ht (Term.int_eval j) A.1).2
theorem own_lenv {args : Array Value} {s : State} {t : Jvm.Term} {x : Addr} {cl : Cell} {n : Int32} {ty : FieldType} (ht : t.eval args s none [] s = some (.ref x)) (A : Arr s s.heap x cl ty) (h : (Jvm.Cond.eq (.length t) (.int n)).value args s none s [] = some true) : cl.slots.size = n.toNatClampNeg := by
  obtain ⟨u, w, e1, e2, K1, K2⟩ := cmp_v (Or.inl h)
  have e3 : some w = some (.int n) := e2.symm.trans (Term.int_eval n)
  obtain rfl := Option.some.inj e3
  obtain ⟨z, rfl⟩ := K2
  have e4 := gotT (Cond.eq_ints e1 e2) h
  have q := Arr.fin (State.Warmed39.refl s).alike A
  by_cases hl : cl.slots.size < 2 ^ 31
  · rw [len_f ht q hl] at e1
    have e5 : cl.slots.size.toInt32 = z := Value.int.inj (Option.some.inj e1)
    have e6 := len_toInt hl
    rw [e5, e4] at e6
    show _ = n.toInt.toNat
    omega
  · exfalso
    simp [Term.eval, ht, q, hl] at e1
theorem own_V_static {args : Array Value} {s : State} {t : Jvm.Term} {x : Addr} {cl : Cell} {n : Int32} {ty : FieldType} {vs : List Value} (ht : t.eval args s none [] s = some (.ref x)) (A : Arr s s.heap x cl ty) (hf : Fit s) (h : (Jvm.Cond.eq (.length t) (.int n)).value args s none s [] = some true) (hn : vs.length = n.toNatClampNeg) (H : ∀ k, k < vs.length → cl.slots[k]? = vs[k]?) : own_V s s.heap x ty vs := by
  have e := own_lenv ht A h
  refine ⟨cl, A, ?_, ?_⟩
  · apply List.ext_getElem?
    intro i
    by_cases hi : i < vs.length
    · rw [← H i hi]; simp
    · have e3 : cl.slots.toList.length = vs.length := by rw [Array.length_toList]; omega
      rw [List.getElem?_eq_none (by omega), List.getElem?_eq_none (by omega)]
  · have := n.toInt_lt
    rw [hn]; show n.toInt.toNat < 2 ^ 31; omega

theorem own_ef_own_rm_count (m : MethodId) (x0 : Int64) : entryFrame m #[(.long x0)] 3 = mkF m 0 #[.val (.long x0), .second, .unset] [] := by first | (simp [entryFrame, mkF, argsToLocals, Value.category]; done) | rfl
def own_Q_count (Z : State) (h0 : Heap) (n0 : Nat) (n : Int64)  (v : Option Value) (h : Heap) (L : List Loc) : Prop := (∃ d : Nat, v = some (.int (Int32.ofNat d)) ∧ own_C n d) ∧ Fr n0 L ∧ h = h0
set_option maxRecDepth 65536 in
set_option maxHeartbeats 40000000 in
theorem own_rm_count (l : Launch) (Z : State) (a0 : Array Value) (hw : ∀ d ∈ tables_1, d.before a0 Z = true) (ws : List Jvm.Cond) (n : Int64) (h0 : Heap) (n0 : Nat) (Z0 : n0 ≤ h0.size) (pw : Addr) (S : Sta Z h0 "com/example/reckoner/reckoner/core/Digits" "POWERS" "[J" (.ref pw)) (V : own_V Z h0 pw .long (own_P.map Value.long)) :
    MetFree l (⟨"com/example/reckoner/reckoner/core/Digits", "count", "(J)I"⟩ : MethodName) (head1 (Jvm.Cond.code (⟨"com/example/reckoner/reckoner/core/Digits", "count", "(J)I"⟩ : MethodName) prog_23_method_2_code 3 (some .int) :: ws) ({ frames := 0, cells := 0, slots := 0, locals := 0 } : Room)) (fun aq Uq => aq = #[(.long n)] ∧ Z.Warmed39 Uq.vm ∧ Uq.heap = h0) (fun _ _ _ _ _ => True) (fun _ Uq oq Uq' => ∃ vq Lq, oq = .returned vq ∧ (own_Q_count Z h0 n0 n) vq Uq'.heap Lq ∧ FrameEnd Uq oq Uq' Lq ({ frames := 0, cells := 0, slots := 0, locals := 0 } : Room).cells ({ frames := 0, cells := 0, slots := 0, locals := 0 } : Room).slots) := by
  refine MetFree.of_bodySF (plainFor_of_name own_pn0) hisR ?_
  intro p e s m args below meth c s₁ Bd hml0 hP hK
  obtain ⟨rfl, hZ, hh⟩ := hP
  have hx := Bd.exec
  have hby := Bd.bytes
  have hml : c.maxLocals = 3 := hml0
  have hown : s.vm.findClass "com/example/reckoner/reckoner/core/Digits" = some m.cls := findClass_of_methodNamed Bd.named
  have hnm := (name_of_methodNamed Bd.named Bd.method).1
  have X0 : Stand p l e ({ frames := 0, cells := 0, slots := 0, locals := 0 } : Room) s m #[(.long n)] below meth c s₁ [] 0 0 := Stand.of_body Bd
  have e0 : s₁.heap = h0 := by rw [← hh, Bd.state]; rfl
  have N0 := Fr.nil n0
  have hlk : meth.locks = false := by first | exact BodyLoose.notSynchronized Bd | exact Body.notSynchronized Bd
  obtain ⟨G, hG⟩ : ∃ G : State → Prop, G = own_G p e below s ({ frames := 0, cells := 0, slots := 0, locals := 0 } : Room).cells ({ frames := 0, cells := 0, slots := 0, locals := 0 } : Room).slots ((own_Q_count Z h0 n0 n)) := ⟨_, rfl⟩
  have go : ∀ {S S' : State}, (∀ t, Steps p.tables e below S' t → Steps p.tables e below S t) → G S' → G S := by rw [hG]; exact own_to
  suffices hs : G (s₁.setTop (mkF m 0 #[.val (.long n), .second, .unset] [])) by
    rw [hG] at hs
    exact own_to (fun _ kont => castTop (own_ef_own_rm_count m n) kont) hs
  obtain ⟨cl, Ar, Sl, Ml⟩ := id V
  have loop : ∀ (k d : Nat), 19 - d < k → 1 ≤ d → d ≤ 19 → (d = 1 ∨ own_P.getD (d - 2) 0 ≤ n) → ∀ (T' : State), Stand p l e ({ frames := 0, cells := 0, slots := 0, locals := 0 } : Room) s m #[(.long n)] below meth c T' [] 0 0 → T'.heap = h0 → G (T'.setTop (mkF m 2 #[.val (.long n), .second, .val (.int (Int32.ofNat d))] [])) := by
    intro k
    induction k with
    | zero => intro d hk; omega
    | succ k ih =>
      intro d hk h1 h19 hlow T' X' e'
      show G (T'.setTop (mkF m 2 #[.val (.long n), .second, .val (.int (Int32.ofNat d))] []))
      refine go (fun _ kont => XS.iloadN X'.here hx rfl (hb hby d_prog_23_method_2_2) rfl  kont) ?_
      show G (T'.setTop (mkF m 3 #[.val (.long n), .second, .val (.int (Int32.ofNat d))] [(.int (Int32.ofNat d))]))
      obtain ⟨T1, X1, e1, st1⟩ := getS X' hx hZ hown (host := "") (hw _ (List.mem_of_getElem? (i := 24) rfl)) Via.refl e' S (g := (mkF m 3 #[.val (.long n), .second, .val (.int (Int32.ofNat d))] [(.int (Int32.ofNat d))])) rfl (hb hby d_prog_23_method_2_3)
      refine go st1 ?_
      show G (T1.setTop (mkF m 6 #[.val (.long n), .second, .val (.int (Int32.ofNat d))] [(.ref pw), (.int (Int32.ofNat d))]))
      refine go (fun _ kont => X1.arraylength hx (by rw [e1]; exact Ar.1) (State.isArrayOf_alike hZ.alike Ar.2.1) (g := (mkF m 6 #[.val (.long n), .second, .val (.int (Int32.ofNat d))] [(.ref pw), (.int (Int32.ofNat d))])) rfl (rest := [(.int (Int32.ofNat d))]) rfl (hb hby d_prog_23_method_2_6) _ kont) ?_
      rw [own_len (n := (18 : Int32)) Sl (by decide)]
      show G (T1.setTop (mkF m 7 #[.val (.long n), .second, .val (.int (Int32.ofNat d))] [(.int (18 : Int32)), (.int (Int32.ofNat d))]))
      by_cases hc7 : (18 : Int32) < (Int32.ofNat d)
      · refine go (fun _ kont => XS.icmpYes X1.here hx rfl (pc0 := 7) (pc' := 28) rfl (hb hby d_prog_23_method_2_7) rfl (tlt hc7).2.2.1 (by decide) (by decide) kont) ?_
        show G (T1.setTop (mkF m 28 #[.val (.long n), .second, .val (.int (Int32.ofNat d))] []))
        refine go (fun _ kont => XS.iloadN X1.here hx rfl (hb hby d_prog_23_method_2_28) rfl  kont) ?_
        show G (T1.setTop (mkF m 29 #[.val (.long n), .second, .val (.int (Int32.ofNat d))] [(.int (Int32.ofNat d))]))
        rw [hG]
        exact own_retI X1 hx Bd.returns (hb hby d_prog_23_method_2_29) hlk (by decide) (by decide) ⟨⟨d, rfl, h1, h19, hlow, by first | (exact Or.inr hc19) | (left; have q := (own_ltO (d := 18) (k := d) (by omega) (by omega)).mp hc7; omega)⟩, N0, e1⟩
      · refine go (fun _ kont => XS.icmpNo X1.here hx rfl (hb hby d_prog_23_method_2_7) rfl (flt hc7).2.2.1 kont) ?_
        show G (T1.setTop (mkF m 10 #[.val (.long n), .second, .val (.int (Int32.ofNat d))] []))
        refine go (fun _ kont => XS.lloadN X1.here hx rfl (hb hby d_prog_23_method_2_10) rfl  kont) ?_
        show G (T1.setTop (mkF m 11 #[.val (.long n), .second, .val (.int (Int32.ofNat d))] [(.long n)]))
        obtain ⟨T2, X2, e2, st2⟩ := getS X1 hx hZ hown (host := "") (hw _ (List.mem_of_getElem? (i := 24) rfl)) Via.refl e1 S (g := (mkF m 11 #[.val (.long n), .second, .val (.int (Int32.ofNat d))] [(.long n)])) rfl (hb hby d_prog_23_method_2_11)
        refine go st2 ?_
        show G (T2.setTop (mkF m 14 #[.val (.long n), .second, .val (.int (Int32.ofNat d))] [(.ref pw), (.long n)]))
        refine go (fun _ kont => XS.iloadN X2.here hx rfl (hb hby d_prog_23_method_2_14) rfl  kont) ?_
        show G (T2.setTop (mkF m 15 #[.val (.long n), .second, .val (.int (Int32.ofNat d))] [(.int (Int32.ofNat d)), (.ref pw), (.long n)]))
        refine go (fun _ kont => XS.iconst X2.here hx rfl (hb hby d_prog_23_method_2_15) kont) ?_
        show G (T2.setTop (mkF m 16 #[.val (.long n), .second, .val (.int (Int32.ofNat d))] [(.int (1 : Int32)), (.int (Int32.ofNat d)), (.ref pw), (.long n)]))
        refine go (fun _ kont => XS.isub X2.here hx rfl (hb hby d_prog_23_method_2_16) rfl kont) ?_
        show G (T2.setTop (mkF m 17 #[.val (.long n), .second, .val (.int (Int32.ofNat d))] [(.int ((Int32.ofNat d) - (1 : Int32))), (.ref pw), (.long n)]))
        have hd18 : d ≤ 18 := by
          have q := mt (own_ltO (d := 18) (k := d) (by omega) (by omega)).mpr hc7
          omega
        refine go (fun _ kont => X2.laload hx (j := ((Int32.ofNat d) - (1 : Int32))) (v := (.long (own_P.getD (d - 1) 0))) (by rw [e2]; exact Ar.1) (State.isArrayOf_alike hZ.alike Ar.2.1) Ar.2.2 (own_hink Sl (by rw [own_pred h1]; exact own_neg (by rw [own_ofN (by omega)]; omega)) (by rw [own_pred h1]; exact own_tnO (by omega)) (k := d - 1) (by show d - 1 < 18; omega)) (own_hatk Sl (by rw [own_pred h1]; exact own_tnO (by omega)) (own_Pat (by omega))) (g := (mkF m 17 #[.val (.long n), .second, .val (.int (Int32.ofNat d))] [(.int ((Int32.ofNat d) - (1 : Int32))), (.ref pw), (.long n)])) rfl rfl (hb hby d_prog_23_method_2_17) _ kont) ?_
        show G (T2.setTop (mkF m 18 #[.val (.long n), .second, .val (.int (Int32.ofNat d))] [(.long (own_P.getD (d - 1) 0)), (.long n)]))
        refine go (fun _ kont => XS.lcmp X2.here hx rfl (hb hby d_prog_23_method_2_18) rfl kont) ?_
        show G (T2.setTop (mkF m 19 #[.val (.long n), .second, .val (.int (Int32.ofNat d))] [(.int (lcmpW n (own_P.getD (d - 1) 0)))]))
        by_cases hc19 : n < (own_P.getD (d - 1) 0)
        · refine go (fun _ kont => XS.ifYes X2.here hx rfl (pc0 := 19) (pc' := 28) rfl (hb hby d_prog_23_method_2_19) rfl ((if0 _ _).trans (tlt ((lw_lt _ _).mpr hc19)).1) (by decide) (by decide) kont) ?_
          show G (T2.setTop (mkF m 28 #[.val (.long n), .second, .val (.int (Int32.ofNat d))] []))
          refine go (fun _ kont => XS.iloadN X2.here hx rfl (hb hby d_prog_23_method_2_28) rfl  kont) ?_
          show G (T2.setTop (mkF m 29 #[.val (.long n), .second, .val (.int (Int32.ofNat d))] [(.int (Int32.ofNat d))]))
          rw [hG]
          exact own_retI X2 hx Bd.returns (hb hby d_prog_23_method_2_29) hlk (by decide) (by decide) ⟨⟨d, rfl, h1, h19, hlow, by first | (exact Or.inr hc19) | (left; have q := (own_ltO (d := 18) (k := d) (by omega) (by omega)).mp hc7; omega)⟩, N0, e2⟩
        · refine go (fun _ kont => XS.ifNo X2.here hx rfl (hb hby d_prog_23_method_2_19) rfl ((if0 _ _).trans (flt (mt (lw_lt _ _).mp hc19)).1) kont) ?_
          show G (T2.setTop (mkF m 22 #[.val (.long n), .second, .val (.int (Int32.ofNat d))] []))
          refine go (fun _ kont => XS.iinc X2.here hx rfl (hb hby d_prog_23_method_2_22) rfl (l' := #[.val (.long n), .second, .val (.int ((Int32.ofNat d) + (1 : Int32)))]) rfl kont) ?_
          show G (T2.setTop (mkF m 25 #[.val (.long n), .second, .val (.int ((Int32.ofNat d) + (1 : Int32)))] []))
          refine go (fun _ kont => XS.goto X2.here hx rfl (pc0 := 25) (pc' := 2) rfl (hb hby d_prog_23_method_2_25) (by decide) (by decide) kont) ?_
          show G (T2.setTop (mkF m 2 #[.val (.long n), .second, .val (.int ((Int32.ofNat d) + (1 : Int32)))] []))
          rw [show Int32.ofNat d + (1 : Int32) = Int32.ofNat (d + 1) from (Int32.ofNat_add d 1).symm]
          exact ih (d + 1) (by omega) (by omega) (by omega) (Or.inr (by rw [show d + 1 - 2 = d - 1 by omega]; exact Int64.not_lt.mp hc19)) _ X2 e2
  refine go (fun _ kont => XS.iconst X0.here hx rfl (hb hby d_prog_23_method_2_0) kont) ?_
  show G (s₁.setTop (mkF m 1 #[.val (.long n), .second, .unset] [(.int (1 : Int32))]))
  refine go (fun _ kont => XS.istoreN X0.here hx rfl (hb hby d_prog_23_method_2_1) rfl (l' := #[.val (.long n), .second, .val (.int (1 : Int32))]) rfl kont) ?_
  show G (s₁.setTop (mkF m 2 #[.val (.long n), .second, .val (.int (1 : Int32))] []))
  exact loop 20 1 (by omega) (by omega) (by omega) (Or.inl rfl) _ X0 e0
theorem own_ef_own_rm_law (m : MethodId) (x0 : Int64) (x1 : Int32) (x2 : Int32) : entryFrame m #[(.long x0), (.int x1), (.int x2)] maxLocals = mkF m 0 #[.val (.long x0), .second, .val (.int x1), .val (.int x2), .unset, .unset, .unset, .unset, .unset, .unset] [] := by first | (simp [entryFrame, mkF, argsToLocals, Value.category, maxLocals]; done) | rfl
set_option maxRecDepth 65536 in
set_option maxHeartbeats 40000000 in
theorem own_rm_law (l : Launch) (Z : State) (a0 : Array Value) (hw : ∀ d ∈ tables_1, d.before a0 Z = true) (ws : List Jvm.Cond) (p1 : Int64) (p2 : Int32) (p3 : Int32) (h0 : Heap) (n0 : Nat) (Z0 : n0 ≤ h0.size) (pw : Addr) (S : Sta Z h0 "com/example/reckoner/reckoner/core/Digits" "POWERS" "[J" (.ref pw)) (V : own_V Z h0 pw .long (own_P.map Value.long)) :
    MetFree l x (head1 (Jvm.Cond.code x code maxLocals ret :: ws) room_1) (fun aq Uq => aq = #[(.long p1), (.int p2), (.int p3)] ∧ Z.Warmed39 Uq.vm ∧ Uq.heap = h0) (fun _ _ _ _ _ => True) (fun _ Uq oq Uq' => ∃ vq Lq, oq = .returned vq ∧ (own_Ql n0) vq Uq'.heap Lq ∧ FrameEnd Uq oq Uq' Lq room_1.cells room_1.slots) := by
  refine MetFree.of_bodySF (plainFor_of_name own_pn1) hisR ?_
  intro p e s m args below meth c s₁ Bd hml0 hP hK
  obtain ⟨rfl, hZ, hh⟩ := hP
  have hx := Bd.exec
  have hby := Bd.bytes
  have hml : c.maxLocals = 10 := hml0
  have hown : s.vm.findClass "com/example/reckoner/reckoner/core/DigitsCountPinLaw" = some m.cls := findClass_of_methodNamed Bd.named
  have hnm := (name_of_methodNamed Bd.named Bd.method).1
  have X0 : Stand p l e room_1 s m #[(.long p1), (.int p2), (.int p3)] below meth c s₁ [] 0 0 := Stand.of_body Bd
  have e0 : s₁.heap = h0 := by rw [← hh, Bd.state]; rfl
  have N0 := Fr.nil n0
  have hlk : meth.locks = false := by first | exact BodyLoose.notSynchronized Bd | exact Body.notSynchronized Bd
  obtain ⟨G, hG⟩ : ∃ G : State → Prop, G = own_G p e below s room_1.cells room_1.slots ((own_Ql n0)) := ⟨_, rfl⟩
  have go : ∀ {S S' : State}, (∀ t, Steps p.tables e below S' t → Steps p.tables e below S t) → G S' → G S := by rw [hG]; exact own_to
  suffices hs : G (s₁.setTop (mkF m 0 #[.val (.long p1), .second, .val (.int p2), .val (.int p3), .unset, .unset, .unset, .unset, .unset, .unset] [])) by
    rw [hG] at hs
    exact own_to (fun _ kont => castTop (own_ef_own_rm_law m p1 p2 p3) kont) hs
  refine go (fun _ kont => XS.bipush X0.here hx rfl (hb hby at_0) kont) ?_
  show G (s₁.setTop (mkF m 2 #[.val (.long p1), .second, .val (.int p2), .val (.int p3), .unset, .unset, .unset, .unset, .unset, .unset] [(.int (19 : Int32))]))
  obtain ⟨T1, h1, k1, X1, e1, E1, A1, st1⟩ := newP X0 hx hZ (hw _ (List.mem_of_getElem? (i := 0) rfl)) e0 (g := (mkF m 2 #[.val (.long p1), .second, .val (.int p2), .val (.int p3), .unset, .unset, .unset, .unset, .unset, .unset] [(.int (19 : Int32))])) rfl (hb hby at_2) rfl (by decide) (cap := 19) (by decide) (by decide) (by decide) (by decide)
  obtain ⟨b1, g1⟩ : ∃ z, z = h0.size := ⟨_, rfl⟩
  rw [← g1] at A1 st1
  refine go st1 ?_
  show G (T1.setTop (mkF m 4 #[.val (.long p1), .second, .val (.int p2), .val (.int p3), .unset, .unset, .unset, .unset, .unset, .unset] [(.ref b1)]))
  have ne_pw_b1 : pw ≠ b1 := by rw [g1]; exact Nat.ne_of_lt (own_V_lt V)
  have V_1 := own_V_ext V E1
  have S_1 := S.ext E1
  have V1 : own_V Z h1 b1 .long [(.long 0), (.long 0), (.long 0), (.long 0), (.long 0), (.long 0), (.long 0), (.long 0), (.long 0), (.long 0), (.long 0), (.long 0), (.long 0), (.long 0), (.long 0), (.long 0), (.long 0), (.long 0), (.long 0)] := own_V_new A1 (m := 19) (by decide) (by decide)
  have Z1 : n0 ≤ h1.size := Nat.le_trans Z0 E1.1
  have ga_b1 : n0 ≤ b1 := Nat.le_trans Z0 (Nat.le_of_eq g1.symm)
  refine go (fun _ kont => XS.dup X1.here hx rfl (hb hby at_4) rfl rfl kont) ?_
  show G (T1.setTop (mkF m 5 #[.val (.long p1), .second, .val (.int p2), .val (.int p3), .unset, .unset, .unset, .unset, .unset, .unset] [(.ref b1), (.ref b1)]))
  refine go (fun _ kont => XS.iconst X1.here hx rfl (hb hby at_5) kont) ?_
  show G (T1.setTop (mkF m 6 #[.val (.long p1), .second, .val (.int p2), .val (.int p3), .unset, .unset, .unset, .unset, .unset, .unset] [(.int (0 : Int32)), (.ref b1), (.ref b1)]))
  refine go (fun _ kont => XS.lconst X1.here hx rfl (hb hby at_6) kont) ?_
  show G (T1.setTop (mkF m 7 #[.val (.long p1), .second, .val (.int p2), .val (.int p3), .unset, .unset, .unset, .unset, .unset, .unset] [(.long (1 : Int64)), (.int (0 : Int32)), (.ref b1), (.ref b1)]))
  obtain ⟨cl2, Ar2, Sl2, Ml2⟩ := id V1
  obtain ⟨T3, h3, X3, e3, W3, st3⟩ := stJ X1 hx hZ e1 Ar2 (j := (0 : Int32)) (own_hink Sl2 (by decide) (k := 0) (by decide) (Nat.le_of_ble_eq_true rfl)) (g := (mkF m 7 #[.val (.long p1), .second, .val (.int p2), .val (.int p3), .unset, .unset, .unset, .unset, .unset, .unset] [(.long (1 : Int64)), (.int (0 : Int32)), (.ref b1), (.ref b1)])) rfl rfl (hb hby at_7)
  refine go st3 ?_
  show G (T3.setTop (mkF m 8 #[.val (.long p1), .second, .val (.int p2), .val (.int p3), .unset, .unset, .unset, .unset, .unset, .unset] [(.ref b1)]))
  have V_3 := own_V_other V_1 W3 ne_pw_b1
  have S_3 := S_1.wr W3
  have V3 : own_V Z h3 b1 .long [(.long (1 : Int64)), (.long 0), (.long 0), (.long 0), (.long 0), (.long 0), (.long 0), (.long 0), (.long 0), (.long 0), (.long 0), (.long 0), (.long 0), (.long 0), (.long 0), (.long 0), (.long 0), (.long 0), (.long 0)] := own_V_set V1 W3 (k := 0) (by decide)
  have N3 := Fr.snoc X3 N0 ga_b1
  have Z3 : n0 ≤ h3.size := by rw [W3.size]; exact Z1
  refine go (fun _ kont => XS.dup X3.here hx rfl (hb hby at_8) rfl rfl kont) ?_
  show G (T3.setTop (mkF m 9 #[.val (.long p1), .second, .val (.int p2), .val (.int p3), .unset, .unset, .unset, .unset, .unset, .unset] [(.ref b1), (.ref b1)]))
  refine go (fun _ kont => XS.iconst X3.here hx rfl (hb hby at_9) kont) ?_
  show G (T3.setTop (mkF m 10 #[.val (.long p1), .second, .val (.int p2), .val (.int p3), .unset, .unset, .unset, .unset, .unset, .unset] [(.int (1 : Int32)), (.ref b1), (.ref b1)]))
  refine go (fun _ kont => X3.ldc2Long hx hown (mvT hZ (hw _ (List.mem_of_getElem? (i := 1) rfl))) (g := (mkF m 10 #[.val (.long p1), .second, .val (.int p2), .val (.int p3), .unset, .unset, .unset, .unset, .unset, .unset] [(.int (1 : Int32)), (.ref b1), (.ref b1)])) rfl (hb hby at_10) _ kont) ?_
  show G (T3.setTop (mkF m 13 #[.val (.long p1), .second, .val (.int p2), .val (.int p3), .unset, .unset, .unset, .unset, .unset, .unset] [(.long (10 : Int64)), (.int (1 : Int32)), (.ref b1), (.ref b1)]))
  obtain ⟨cl4, Ar4, Sl4, Ml4⟩ := id V3
  obtain ⟨T5, h5, X5, e5, W5, st5⟩ := stJ X3 hx hZ e3 Ar4 (j := (1 : Int32)) (own_hink Sl4 (by decide) (k := 1) (by decide) (Nat.le_of_ble_eq_true rfl)) (g := (mkF m 13 #[.val (.long p1), .second, .val (.int p2), .val (.int p3), .unset, .unset, .unset, .unset, .unset, .unset] [(.long (10 : Int64)), (.int (1 : Int32)), (.ref b1), (.ref b1)])) rfl rfl (hb hby at_13)
  refine go st5 ?_
  show G (T5.setTop (mkF m 14 #[.val (.long p1), .second, .val (.int p2), .val (.int p3), .unset, .unset, .unset, .unset, .unset, .unset] [(.ref b1)]))
  have V_5 := own_V_other V_3 W5 ne_pw_b1
  have S_5 := S_3.wr W5
  have V5 : own_V Z h5 b1 .long [(.long (1 : Int64)), (.long (10 : Int64)), (.long 0), (.long 0), (.long 0), (.long 0), (.long 0), (.long 0), (.long 0), (.long 0), (.long 0), (.long 0), (.long 0), (.long 0), (.long 0), (.long 0), (.long 0), (.long 0), (.long 0)] := own_V_set V3 W5 (k := 1) (by decide)
  have N5 := Fr.snoc X5 N3 ga_b1
  have Z5 : n0 ≤ h5.size := by rw [W5.size]; exact Z3
  refine go (fun _ kont => XS.dup X5.here hx rfl (hb hby at_14) rfl rfl kont) ?_
  show G (T5.setTop (mkF m 15 #[.val (.long p1), .second, .val (.int p2), .val (.int p3), .unset, .unset, .unset, .unset, .unset, .unset] [(.ref b1), (.ref b1)]))
  refine go (fun _ kont => XS.iconst X5.here hx rfl (hb hby at_15) kont) ?_
  show G (T5.setTop (mkF m 16 #[.val (.long p1), .second, .val (.int p2), .val (.int p3), .unset, .unset, .unset, .unset, .unset, .unset] [(.int (2 : Int32)), (.ref b1), (.ref b1)]))
  refine go (fun _ kont => X5.ldc2Long hx hown (mvT hZ (hw _ (List.mem_of_getElem? (i := 2) rfl))) (g := (mkF m 16 #[.val (.long p1), .second, .val (.int p2), .val (.int p3), .unset, .unset, .unset, .unset, .unset, .unset] [(.int (2 : Int32)), (.ref b1), (.ref b1)])) rfl (hb hby at_16) _ kont) ?_
  show G (T5.setTop (mkF m 19 #[.val (.long p1), .second, .val (.int p2), .val (.int p3), .unset, .unset, .unset, .unset, .unset, .unset] [(.long (100 : Int64)), (.int (2 : Int32)), (.ref b1), (.ref b1)]))
  obtain ⟨cl6, Ar6, Sl6, Ml6⟩ := id V5
  obtain ⟨T7, h7, X7, e7, W7, st7⟩ := stJ X5 hx hZ e5 Ar6 (j := (2 : Int32)) (own_hink Sl6 (by decide) (k := 2) (by decide) (Nat.le_of_ble_eq_true rfl)) (g := (mkF m 19 #[.val (.long p1), .second, .val (.int p2), .val (.int p3), .unset, .unset, .unset, .unset, .unset, .unset] [(.long (100 : Int64)), (.int (2 : Int32)), (.ref b1), (.ref b1)])) rfl rfl (hb hby at_19)
  refine go st7 ?_
  show G (T7.setTop (mkF m 20 #[.val (.long p1), .second, .val (.int p2), .val (.int p3), .unset, .unset, .unset, .unset, .unset, .unset] [(.ref b1)]))
  have V_7 := own_V_other V_5 W7 ne_pw_b1
  have S_7 := S_5.wr W7
  have V7 : own_V Z h7 b1 .long [(.long (1 : Int64)), (.long (10 : Int64)), (.long (100 : Int64)), (.long 0), (.long 0), (.long 0), (.long 0), (.long 0), (.long 0), (.long 0), (.long 0), (.long 0), (.long 0), (.long 0), (.long 0), (.long 0), (.long 0), (.long 0), (.long 0)] := own_V_set V5 W7 (k := 2) (by decide)
  have N7 := Fr.snoc X7 N5 ga_b1
  have Z7 : n0 ≤ h7.size := by rw [W7.size]; exact Z5
  refine go (fun _ kont => XS.dup X7.here hx rfl (hb hby at_20) rfl rfl kont) ?_
  show G (T7.setTop (mkF m 21 #[.val (.long p1), .second, .val (.int p2), .val (.int p3), .unset, .unset, .unset, .unset, .unset, .unset] [(.ref b1), (.ref b1)]))
  refine go (fun _ kont => XS.iconst X7.here hx rfl (hb hby at_21) kont) ?_
  show G (T7.setTop (mkF m 22 #[.val (.long p1), .second, .val (.int p2), .val (.int p3), .unset, .unset, .unset, .unset, .unset, .unset] [(.int (3 : Int32)), (.ref b1), (.ref b1)]))
  refine go (fun _ kont => X7.ldc2Long hx hown (mvT hZ (hw _ (List.mem_of_getElem? (i := 3) rfl))) (g := (mkF m 22 #[.val (.long p1), .second, .val (.int p2), .val (.int p3), .unset, .unset, .unset, .unset, .unset, .unset] [(.int (3 : Int32)), (.ref b1), (.ref b1)])) rfl (hb hby at_22) _ kont) ?_
  show G (T7.setTop (mkF m 25 #[.val (.long p1), .second, .val (.int p2), .val (.int p3), .unset, .unset, .unset, .unset, .unset, .unset] [(.long (1000 : Int64)), (.int (3 : Int32)), (.ref b1), (.ref b1)]))
  obtain ⟨cl8, Ar8, Sl8, Ml8⟩ := id V7
  obtain ⟨T9, h9, X9, e9, W9, st9⟩ := stJ X7 hx hZ e7 Ar8 (j := (3 : Int32)) (own_hink Sl8 (by decide) (k := 3) (by decide) (Nat.le_of_ble_eq_true rfl)) (g := (mkF m 25 #[.val (.long p1), .second, .val (.int p2), .val (.int p3), .unset, .unset, .unset, .unset, .unset, .unset] [(.long (1000 : Int64)), (.int (3 : Int32)), (.ref b1), (.ref b1)])) rfl rfl (hb hby at_25)
  refine go st9 ?_
  show G (T9.setTop (mkF m 26 #[.val (.long p1), .second, .val (.int p2), .val (.int p3), .unset, .unset, .unset, .unset, .unset, .unset] [(.ref b1)]))
  have V_9 := own_V_other V_7 W9 ne_pw_b1
  have S_9 := S_7.wr W9
  have V9 : own_V Z h9 b1 .long [(.long (1 : Int64)), (.long (10 : Int64)), (.long (100 : Int64)), (.long (1000 : Int64)), (.long 0), (.long 0), (.long 0), (.long 0), (.long 0), (.long 0), (.long 0), (.long 0), (.long 0), (.long 0), (.long 0), (.long 0), (.long 0), (.long 0), (.long 0)] := own_V_set V7 W9 (k := 3) (by decide)
  have N9 := Fr.snoc X9 N7 ga_b1
  have Z9 : n0 ≤ h9.size := by rw [W9.size]; exact Z7
  refine go (fun _ kont => XS.dup X9.here hx rfl (hb hby at_26) rfl rfl kont) ?_
  show G (T9.setTop (mkF m 27 #[.val (.long p1), .second, .val (.int p2), .val (.int p3), .unset, .unset, .unset, .unset, .unset, .unset] [(.ref b1), (.ref b1)]))
  refine go (fun _ kont => XS.iconst X9.here hx rfl (hb hby at_27) kont) ?_
  show G (T9.setTop (mkF m 28 #[.val (.long p1), .second, .val (.int p2), .val (.int p3), .unset, .unset, .unset, .unset, .unset, .unset] [(.int (4 : Int32)), (.ref b1), (.ref b1)]))
  refine go (fun _ kont => X9.ldc2Long hx hown (mvT hZ (hw _ (List.mem_of_getElem? (i := 4) rfl))) (g := (mkF m 28 #[.val (.long p1), .second, .val (.int p2), .val (.int p3), .unset, .unset, .unset, .unset, .unset, .unset] [(.int (4 : Int32)), (.ref b1), (.ref b1)])) rfl (hb hby at_28) _ kont) ?_
  show G (T9.setTop (mkF m 31 #[.val (.long p1), .second, .val (.int p2), .val (.int p3), .unset, .unset, .unset, .unset, .unset, .unset] [(.long (10000 : Int64)), (.int (4 : Int32)), (.ref b1), (.ref b1)]))
  obtain ⟨cl10, Ar10, Sl10, Ml10⟩ := id V9
  obtain ⟨T11, h11, X11, e11, W11, st11⟩ := stJ X9 hx hZ e9 Ar10 (j := (4 : Int32)) (own_hink Sl10 (by decide) (k := 4) (by decide) (Nat.le_of_ble_eq_true rfl)) (g := (mkF m 31 #[.val (.long p1), .second, .val (.int p2), .val (.int p3), .unset, .unset, .unset, .unset, .unset, .unset] [(.long (10000 : Int64)), (.int (4 : Int32)), (.ref b1), (.ref b1)])) rfl rfl (hb hby at_31)
  refine go st11 ?_
  show G (T11.setTop (mkF m 32 #[.val (.long p1), .second, .val (.int p2), .val (.int p3), .unset, .unset, .unset, .unset, .unset, .unset] [(.ref b1)]))
  have V_11 := own_V_other V_9 W11 ne_pw_b1
  have S_11 := S_9.wr W11
  have V11 : own_V Z h11 b1 .long [(.long (1 : Int64)), (.long (10 : Int64)), (.long (100 : Int64)), (.long (1000 : Int64)), (.long (10000 : Int64)), (.long 0), (.long 0), (.long 0), (.long 0), (.long 0), (.long 0), (.long 0), (.long 0), (.long 0), (.long 0), (.long 0), (.long 0), (.long 0), (.long 0)] := own_V_set V9 W11 (k := 4) (by decide)
  have N11 := Fr.snoc X11 N9 ga_b1
  have Z11 : n0 ≤ h11.size := by rw [W11.size]; exact Z9
  refine go (fun _ kont => XS.dup X11.here hx rfl (hb hby at_32) rfl rfl kont) ?_
  show G (T11.setTop (mkF m 33 #[.val (.long p1), .second, .val (.int p2), .val (.int p3), .unset, .unset, .unset, .unset, .unset, .unset] [(.ref b1), (.ref b1)]))
  refine go (fun _ kont => XS.iconst X11.here hx rfl (hb hby at_33) kont) ?_
  show G (T11.setTop (mkF m 34 #[.val (.long p1), .second, .val (.int p2), .val (.int p3), .unset, .unset, .unset, .unset, .unset, .unset] [(.int (5 : Int32)), (.ref b1), (.ref b1)]))
  refine go (fun _ kont => X11.ldc2Long hx hown (mvT hZ (hw _ (List.mem_of_getElem? (i := 5) rfl))) (g := (mkF m 34 #[.val (.long p1), .second, .val (.int p2), .val (.int p3), .unset, .unset, .unset, .unset, .unset, .unset] [(.int (5 : Int32)), (.ref b1), (.ref b1)])) rfl (hb hby at_34) _ kont) ?_
  show G (T11.setTop (mkF m 37 #[.val (.long p1), .second, .val (.int p2), .val (.int p3), .unset, .unset, .unset, .unset, .unset, .unset] [(.long (100000 : Int64)), (.int (5 : Int32)), (.ref b1), (.ref b1)]))
  obtain ⟨cl12, Ar12, Sl12, Ml12⟩ := id V11
  obtain ⟨T13, h13, X13, e13, W13, st13⟩ := stJ X11 hx hZ e11 Ar12 (j := (5 : Int32)) (own_hink Sl12 (by decide) (k := 5) (by decide) (Nat.le_of_ble_eq_true rfl)) (g := (mkF m 37 #[.val (.long p1), .second, .val (.int p2), .val (.int p3), .unset, .unset, .unset, .unset, .unset, .unset] [(.long (100000 : Int64)), (.int (5 : Int32)), (.ref b1), (.ref b1)])) rfl rfl (hb hby at_37)
  refine go st13 ?_
  show G (T13.setTop (mkF m 38 #[.val (.long p1), .second, .val (.int p2), .val (.int p3), .unset, .unset, .unset, .unset, .unset, .unset] [(.ref b1)]))
  have V_13 := own_V_other V_11 W13 ne_pw_b1
  have S_13 := S_11.wr W13
  have V13 : own_V Z h13 b1 .long [(.long (1 : Int64)), (.long (10 : Int64)), (.long (100 : Int64)), (.long (1000 : Int64)), (.long (10000 : Int64)), (.long (100000 : Int64)), (.long 0), (.long 0), (.long 0), (.long 0), (.long 0), (.long 0), (.long 0), (.long 0), (.long 0), (.long 0), (.long 0), (.long 0), (.long 0)] := own_V_set V11 W13 (k := 5) (by decide)
  have N13 := Fr.snoc X13 N11 ga_b1
  have Z13 : n0 ≤ h13.size := by rw [W13.size]; exact Z11
  refine go (fun _ kont => XS.dup X13.here hx rfl (hb hby at_38) rfl rfl kont) ?_
  show G (T13.setTop (mkF m 39 #[.val (.long p1), .second, .val (.int p2), .val (.int p3), .unset, .unset, .unset, .unset, .unset, .unset] [(.ref b1), (.ref b1)]))
  refine go (fun _ kont => XS.bipush X13.here hx rfl (hb hby at_39) kont) ?_
  show G (T13.setTop (mkF m 41 #[.val (.long p1), .second, .val (.int p2), .val (.int p3), .unset, .unset, .unset, .unset, .unset, .unset] [(.int (6 : Int32)), (.ref b1), (.ref b1)]))
  refine go (fun _ kont => X13.ldc2Long hx hown (mvT hZ (hw _ (List.mem_of_getElem? (i := 6) rfl))) (g := (mkF m 41 #[.val (.long p1), .second, .val (.int p2), .val (.int p3), .unset, .unset, .unset, .unset, .unset, .unset] [(.int (6 : Int32)), (.ref b1), (.ref b1)])) rfl (hb hby at_41) _ kont) ?_
  show G (T13.setTop (mkF m 44 #[.val (.long p1), .second, .val (.int p2), .val (.int p3), .unset, .unset, .unset, .unset, .unset, .unset] [(.long (1000000 : Int64)), (.int (6 : Int32)), (.ref b1), (.ref b1)]))
  obtain ⟨cl14, Ar14, Sl14, Ml14⟩ := id V13
  obtain ⟨T15, h15, X15, e15, W15, st15⟩ := stJ X13 hx hZ e13 Ar14 (j := (6 : Int32)) (own_hink Sl14 (by decide) (k := 6) (by decide) (Nat.le_of_ble_eq_true rfl)) (g := (mkF m 44 #[.val (.long p1), .second, .val (.int p2), .val (.int p3), .unset, .unset, .unset, .unset, .unset, .unset] [(.long (1000000 : Int64)), (.int (6 : Int32)), (.ref b1), (.ref b1)])) rfl rfl (hb hby at_44)
  refine go st15 ?_
  show G (T15.setTop (mkF m 45 #[.val (.long p1), .second, .val (.int p2), .val (.int p3), .unset, .unset, .unset, .unset, .unset, .unset] [(.ref b1)]))
  have V_15 := own_V_other V_13 W15 ne_pw_b1
  have S_15 := S_13.wr W15
  have V15 : own_V Z h15 b1 .long [(.long (1 : Int64)), (.long (10 : Int64)), (.long (100 : Int64)), (.long (1000 : Int64)), (.long (10000 : Int64)), (.long (100000 : Int64)), (.long (1000000 : Int64)), (.long 0), (.long 0), (.long 0), (.long 0), (.long 0), (.long 0), (.long 0), (.long 0), (.long 0), (.long 0), (.long 0), (.long 0)] := own_V_set V13 W15 (k := 6) (by decide)
  have N15 := Fr.snoc X15 N13 ga_b1
  have Z15 : n0 ≤ h15.size := by rw [W15.size]; exact Z13
  refine go (fun _ kont => XS.dup X15.here hx rfl (hb hby at_45) rfl rfl kont) ?_
  show G (T15.setTop (mkF m 46 #[.val (.long p1), .second, .val (.int p2), .val (.int p3), .unset, .unset, .unset, .unset, .unset, .unset] [(.ref b1), (.ref b1)]))
  refine go (fun _ kont => XS.bipush X15.here hx rfl (hb hby at_46) kont) ?_
  show G (T15.setTop (mkF m 48 #[.val (.long p1), .second, .val (.int p2), .val (.int p3), .unset, .unset, .unset, .unset, .unset, .unset] [(.int (7 : Int32)), (.ref b1), (.ref b1)]))
  refine go (fun _ kont => X15.ldc2Long hx hown (mvT hZ (hw _ (List.mem_of_getElem? (i := 7) rfl))) (g := (mkF m 48 #[.val (.long p1), .second, .val (.int p2), .val (.int p3), .unset, .unset, .unset, .unset, .unset, .unset] [(.int (7 : Int32)), (.ref b1), (.ref b1)])) rfl (hb hby at_48) _ kont) ?_
  show G (T15.setTop (mkF m 51 #[.val (.long p1), .second, .val (.int p2), .val (.int p3), .unset, .unset, .unset, .unset, .unset, .unset] [(.long (10000000 : Int64)), (.int (7 : Int32)), (.ref b1), (.ref b1)]))
  obtain ⟨cl16, Ar16, Sl16, Ml16⟩ := id V15
  obtain ⟨T17, h17, X17, e17, W17, st17⟩ := stJ X15 hx hZ e15 Ar16 (j := (7 : Int32)) (own_hink Sl16 (by decide) (k := 7) (by decide) (Nat.le_of_ble_eq_true rfl)) (g := (mkF m 51 #[.val (.long p1), .second, .val (.int p2), .val (.int p3), .unset, .unset, .unset, .unset, .unset, .unset] [(.long (10000000 : Int64)), (.int (7 : Int32)), (.ref b1), (.ref b1)])) rfl rfl (hb hby at_51)
  refine go st17 ?_
  show G (T17.setTop (mkF m 52 #[.val (.long p1), .second, .val (.int p2), .val (.int p3), .unset, .unset, .unset, .unset, .unset, .unset] [(.ref b1)]))
  have V_17 := own_V_other V_15 W17 ne_pw_b1
  have S_17 := S_15.wr W17
  have V17 : own_V Z h17 b1 .long [(.long (1 : Int64)), (.long (10 : Int64)), (.long (100 : Int64)), (.long (1000 : Int64)), (.long (10000 : Int64)), (.long (100000 : Int64)), (.long (1000000 : Int64)), (.long (10000000 : Int64)), (.long 0), (.long 0), (.long 0), (.long 0), (.long 0), (.long 0), (.long 0), (.long 0), (.long 0), (.long 0), (.long 0)] := own_V_set V15 W17 (k := 7) (by decide)
  have N17 := Fr.snoc X17 N15 ga_b1
  have Z17 : n0 ≤ h17.size := by rw [W17.size]; exact Z15
  refine go (fun _ kont => XS.dup X17.here hx rfl (hb hby at_52) rfl rfl kont) ?_
  show G (T17.setTop (mkF m 53 #[.val (.long p1), .second, .val (.int p2), .val (.int p3), .unset, .unset, .unset, .unset, .unset, .unset] [(.ref b1), (.ref b1)]))
  refine go (fun _ kont => XS.bipush X17.here hx rfl (hb hby at_53) kont) ?_
  show G (T17.setTop (mkF m 55 #[.val (.long p1), .second, .val (.int p2), .val (.int p3), .unset, .unset, .unset, .unset, .unset, .unset] [(.int (8 : Int32)), (.ref b1), (.ref b1)]))
  refine go (fun _ kont => X17.ldc2Long hx hown (mvT hZ (hw _ (List.mem_of_getElem? (i := 8) rfl))) (g := (mkF m 55 #[.val (.long p1), .second, .val (.int p2), .val (.int p3), .unset, .unset, .unset, .unset, .unset, .unset] [(.int (8 : Int32)), (.ref b1), (.ref b1)])) rfl (hb hby at_55) _ kont) ?_
  show G (T17.setTop (mkF m 58 #[.val (.long p1), .second, .val (.int p2), .val (.int p3), .unset, .unset, .unset, .unset, .unset, .unset] [(.long (100000000 : Int64)), (.int (8 : Int32)), (.ref b1), (.ref b1)]))
  obtain ⟨cl18, Ar18, Sl18, Ml18⟩ := id V17
  obtain ⟨T19, h19, X19, e19, W19, st19⟩ := stJ X17 hx hZ e17 Ar18 (j := (8 : Int32)) (own_hink Sl18 (by decide) (k := 8) (by decide) (Nat.le_of_ble_eq_true rfl)) (g := (mkF m 58 #[.val (.long p1), .second, .val (.int p2), .val (.int p3), .unset, .unset, .unset, .unset, .unset, .unset] [(.long (100000000 : Int64)), (.int (8 : Int32)), (.ref b1), (.ref b1)])) rfl rfl (hb hby at_58)
  refine go st19 ?_
  show G (T19.setTop (mkF m 59 #[.val (.long p1), .second, .val (.int p2), .val (.int p3), .unset, .unset, .unset, .unset, .unset, .unset] [(.ref b1)]))
  have V_19 := own_V_other V_17 W19 ne_pw_b1
  have S_19 := S_17.wr W19
  have V19 : own_V Z h19 b1 .long [(.long (1 : Int64)), (.long (10 : Int64)), (.long (100 : Int64)), (.long (1000 : Int64)), (.long (10000 : Int64)), (.long (100000 : Int64)), (.long (1000000 : Int64)), (.long (10000000 : Int64)), (.long (100000000 : Int64)), (.long 0), (.long 0), (.long 0), (.long 0), (.long 0), (.long 0), (.long 0), (.long 0), (.long 0), (.long 0)] := own_V_set V17 W19 (k := 8) (by decide)
  have N19 := Fr.snoc X19 N17 ga_b1
  have Z19 : n0 ≤ h19.size := by rw [W19.size]; exact Z17
  refine go (fun _ kont => XS.dup X19.here hx rfl (hb hby at_59) rfl rfl kont) ?_
  show G (T19.setTop (mkF m 60 #[.val (.long p1), .second, .val (.int p2), .val (.int p3), .unset, .unset, .unset, .unset, .unset, .unset] [(.ref b1), (.ref b1)]))
  refine go (fun _ kont => XS.bipush X19.here hx rfl (hb hby at_60) kont) ?_
  show G (T19.setTop (mkF m 62 #[.val (.long p1), .second, .val (.int p2), .val (.int p3), .unset, .unset, .unset, .unset, .unset, .unset] [(.int (9 : Int32)), (.ref b1), (.ref b1)]))
  refine go (fun _ kont => X19.ldc2Long hx hown (mvT hZ (hw _ (List.mem_of_getElem? (i := 9) rfl))) (g := (mkF m 62 #[.val (.long p1), .second, .val (.int p2), .val (.int p3), .unset, .unset, .unset, .unset, .unset, .unset] [(.int (9 : Int32)), (.ref b1), (.ref b1)])) rfl (hb hby at_62) _ kont) ?_
  show G (T19.setTop (mkF m 65 #[.val (.long p1), .second, .val (.int p2), .val (.int p3), .unset, .unset, .unset, .unset, .unset, .unset] [(.long (1000000000 : Int64)), (.int (9 : Int32)), (.ref b1), (.ref b1)]))
  obtain ⟨cl20, Ar20, Sl20, Ml20⟩ := id V19
  obtain ⟨T21, h21, X21, e21, W21, st21⟩ := stJ X19 hx hZ e19 Ar20 (j := (9 : Int32)) (own_hink Sl20 (by decide) (k := 9) (by decide) (Nat.le_of_ble_eq_true rfl)) (g := (mkF m 65 #[.val (.long p1), .second, .val (.int p2), .val (.int p3), .unset, .unset, .unset, .unset, .unset, .unset] [(.long (1000000000 : Int64)), (.int (9 : Int32)), (.ref b1), (.ref b1)])) rfl rfl (hb hby at_65)
  refine go st21 ?_
  show G (T21.setTop (mkF m 66 #[.val (.long p1), .second, .val (.int p2), .val (.int p3), .unset, .unset, .unset, .unset, .unset, .unset] [(.ref b1)]))
  have V_21 := own_V_other V_19 W21 ne_pw_b1
  have S_21 := S_19.wr W21
  have V21 : own_V Z h21 b1 .long [(.long (1 : Int64)), (.long (10 : Int64)), (.long (100 : Int64)), (.long (1000 : Int64)), (.long (10000 : Int64)), (.long (100000 : Int64)), (.long (1000000 : Int64)), (.long (10000000 : Int64)), (.long (100000000 : Int64)), (.long (1000000000 : Int64)), (.long 0), (.long 0), (.long 0), (.long 0), (.long 0), (.long 0), (.long 0), (.long 0), (.long 0)] := own_V_set V19 W21 (k := 9) (by decide)
  have N21 := Fr.snoc X21 N19 ga_b1
  have Z21 : n0 ≤ h21.size := by rw [W21.size]; exact Z19
  refine go (fun _ kont => XS.dup X21.here hx rfl (hb hby at_66) rfl rfl kont) ?_
  show G (T21.setTop (mkF m 67 #[.val (.long p1), .second, .val (.int p2), .val (.int p3), .unset, .unset, .unset, .unset, .unset, .unset] [(.ref b1), (.ref b1)]))
  refine go (fun _ kont => XS.bipush X21.here hx rfl (hb hby at_67) kont) ?_
  show G (T21.setTop (mkF m 69 #[.val (.long p1), .second, .val (.int p2), .val (.int p3), .unset, .unset, .unset, .unset, .unset, .unset] [(.int (10 : Int32)), (.ref b1), (.ref b1)]))
  refine go (fun _ kont => X21.ldc2Long hx hown (mvT hZ (hw _ (List.mem_of_getElem? (i := 10) rfl))) (g := (mkF m 69 #[.val (.long p1), .second, .val (.int p2), .val (.int p3), .unset, .unset, .unset, .unset, .unset, .unset] [(.int (10 : Int32)), (.ref b1), (.ref b1)])) rfl (hb hby at_69) _ kont) ?_
  show G (T21.setTop (mkF m 72 #[.val (.long p1), .second, .val (.int p2), .val (.int p3), .unset, .unset, .unset, .unset, .unset, .unset] [(.long (10000000000 : Int64)), (.int (10 : Int32)), (.ref b1), (.ref b1)]))
  obtain ⟨cl22, Ar22, Sl22, Ml22⟩ := id V21
  obtain ⟨T23, h23, X23, e23, W23, st23⟩ := stJ X21 hx hZ e21 Ar22 (j := (10 : Int32)) (own_hink Sl22 (by decide) (k := 10) (by decide) (Nat.le_of_ble_eq_true rfl)) (g := (mkF m 72 #[.val (.long p1), .second, .val (.int p2), .val (.int p3), .unset, .unset, .unset, .unset, .unset, .unset] [(.long (10000000000 : Int64)), (.int (10 : Int32)), (.ref b1), (.ref b1)])) rfl rfl (hb hby at_72)
  refine go st23 ?_
  show G (T23.setTop (mkF m 73 #[.val (.long p1), .second, .val (.int p2), .val (.int p3), .unset, .unset, .unset, .unset, .unset, .unset] [(.ref b1)]))
  have V_23 := own_V_other V_21 W23 ne_pw_b1
  have S_23 := S_21.wr W23
  have V23 : own_V Z h23 b1 .long [(.long (1 : Int64)), (.long (10 : Int64)), (.long (100 : Int64)), (.long (1000 : Int64)), (.long (10000 : Int64)), (.long (100000 : Int64)), (.long (1000000 : Int64)), (.long (10000000 : Int64)), (.long (100000000 : Int64)), (.long (1000000000 : Int64)), (.long (10000000000 : Int64)), (.long 0), (.long 0), (.long 0), (.long 0), (.long 0), (.long 0), (.long 0), (.long 0)] := own_V_set V21 W23 (k := 10) (by decide)
  have N23 := Fr.snoc X23 N21 ga_b1
  have Z23 : n0 ≤ h23.size := by rw [W23.size]; exact Z21
  refine go (fun _ kont => XS.dup X23.here hx rfl (hb hby at_73) rfl rfl kont) ?_
  show G (T23.setTop (mkF m 74 #[.val (.long p1), .second, .val (.int p2), .val (.int p3), .unset, .unset, .unset, .unset, .unset, .unset] [(.ref b1), (.ref b1)]))
  refine go (fun _ kont => XS.bipush X23.here hx rfl (hb hby at_74) kont) ?_
  show G (T23.setTop (mkF m 76 #[.val (.long p1), .second, .val (.int p2), .val (.int p3), .unset, .unset, .unset, .unset, .unset, .unset] [(.int (11 : Int32)), (.ref b1), (.ref b1)]))
  refine go (fun _ kont => X23.ldc2Long hx hown (mvT hZ (hw _ (List.mem_of_getElem? (i := 11) rfl))) (g := (mkF m 76 #[.val (.long p1), .second, .val (.int p2), .val (.int p3), .unset, .unset, .unset, .unset, .unset, .unset] [(.int (11 : Int32)), (.ref b1), (.ref b1)])) rfl (hb hby at_76) _ kont) ?_
  show G (T23.setTop (mkF m 79 #[.val (.long p1), .second, .val (.int p2), .val (.int p3), .unset, .unset, .unset, .unset, .unset, .unset] [(.long (100000000000 : Int64)), (.int (11 : Int32)), (.ref b1), (.ref b1)]))
  obtain ⟨cl24, Ar24, Sl24, Ml24⟩ := id V23
  obtain ⟨T25, h25, X25, e25, W25, st25⟩ := stJ X23 hx hZ e23 Ar24 (j := (11 : Int32)) (own_hink Sl24 (by decide) (k := 11) (by decide) (Nat.le_of_ble_eq_true rfl)) (g := (mkF m 79 #[.val (.long p1), .second, .val (.int p2), .val (.int p3), .unset, .unset, .unset, .unset, .unset, .unset] [(.long (100000000000 : Int64)), (.int (11 : Int32)), (.ref b1), (.ref b1)])) rfl rfl (hb hby at_79)
  refine go st25 ?_
  show G (T25.setTop (mkF m 80 #[.val (.long p1), .second, .val (.int p2), .val (.int p3), .unset, .unset, .unset, .unset, .unset, .unset] [(.ref b1)]))
  have V_25 := own_V_other V_23 W25 ne_pw_b1
  have S_25 := S_23.wr W25
  have V25 : own_V Z h25 b1 .long [(.long (1 : Int64)), (.long (10 : Int64)), (.long (100 : Int64)), (.long (1000 : Int64)), (.long (10000 : Int64)), (.long (100000 : Int64)), (.long (1000000 : Int64)), (.long (10000000 : Int64)), (.long (100000000 : Int64)), (.long (1000000000 : Int64)), (.long (10000000000 : Int64)), (.long (100000000000 : Int64)), (.long 0), (.long 0), (.long 0), (.long 0), (.long 0), (.long 0), (.long 0)] := own_V_set V23 W25 (k := 11) (by decide)
  have N25 := Fr.snoc X25 N23 ga_b1
  have Z25 : n0 ≤ h25.size := by rw [W25.size]; exact Z23
  refine go (fun _ kont => XS.dup X25.here hx rfl (hb hby at_80) rfl rfl kont) ?_
  show G (T25.setTop (mkF m 81 #[.val (.long p1), .second, .val (.int p2), .val (.int p3), .unset, .unset, .unset, .unset, .unset, .unset] [(.ref b1), (.ref b1)]))
  refine go (fun _ kont => XS.bipush X25.here hx rfl (hb hby at_81) kont) ?_
  show G (T25.setTop (mkF m 83 #[.val (.long p1), .second, .val (.int p2), .val (.int p3), .unset, .unset, .unset, .unset, .unset, .unset] [(.int (12 : Int32)), (.ref b1), (.ref b1)]))
  refine go (fun _ kont => X25.ldc2Long hx hown (mvT hZ (hw _ (List.mem_of_getElem? (i := 12) rfl))) (g := (mkF m 83 #[.val (.long p1), .second, .val (.int p2), .val (.int p3), .unset, .unset, .unset, .unset, .unset, .unset] [(.int (12 : Int32)), (.ref b1), (.ref b1)])) rfl (hb hby at_83) _ kont) ?_
  show G (T25.setTop (mkF m 86 #[.val (.long p1), .second, .val (.int p2), .val (.int p3), .unset, .unset, .unset, .unset, .unset, .unset] [(.long (1000000000000 : Int64)), (.int (12 : Int32)), (.ref b1), (.ref b1)]))
  obtain ⟨cl26, Ar26, Sl26, Ml26⟩ := id V25
  obtain ⟨T27, h27, X27, e27, W27, st27⟩ := stJ X25 hx hZ e25 Ar26 (j := (12 : Int32)) (own_hink Sl26 (by decide) (k := 12) (by decide) (Nat.le_of_ble_eq_true rfl)) (g := (mkF m 86 #[.val (.long p1), .second, .val (.int p2), .val (.int p3), .unset, .unset, .unset, .unset, .unset, .unset] [(.long (1000000000000 : Int64)), (.int (12 : Int32)), (.ref b1), (.ref b1)])) rfl rfl (hb hby at_86)
  refine go st27 ?_
  show G (T27.setTop (mkF m 87 #[.val (.long p1), .second, .val (.int p2), .val (.int p3), .unset, .unset, .unset, .unset, .unset, .unset] [(.ref b1)]))
  have V_27 := own_V_other V_25 W27 ne_pw_b1
  have S_27 := S_25.wr W27
  have V27 : own_V Z h27 b1 .long [(.long (1 : Int64)), (.long (10 : Int64)), (.long (100 : Int64)), (.long (1000 : Int64)), (.long (10000 : Int64)), (.long (100000 : Int64)), (.long (1000000 : Int64)), (.long (10000000 : Int64)), (.long (100000000 : Int64)), (.long (1000000000 : Int64)), (.long (10000000000 : Int64)), (.long (100000000000 : Int64)), (.long (1000000000000 : Int64)), (.long 0), (.long 0), (.long 0), (.long 0), (.long 0), (.long 0)] := own_V_set V25 W27 (k := 12) (by decide)
  have N27 := Fr.snoc X27 N25 ga_b1
  have Z27 : n0 ≤ h27.size := by rw [W27.size]; exact Z25
  refine go (fun _ kont => XS.dup X27.here hx rfl (hb hby at_87) rfl rfl kont) ?_
  show G (T27.setTop (mkF m 88 #[.val (.long p1), .second, .val (.int p2), .val (.int p3), .unset, .unset, .unset, .unset, .unset, .unset] [(.ref b1), (.ref b1)]))
  refine go (fun _ kont => XS.bipush X27.here hx rfl (hb hby at_88) kont) ?_
  show G (T27.setTop (mkF m 90 #[.val (.long p1), .second, .val (.int p2), .val (.int p3), .unset, .unset, .unset, .unset, .unset, .unset] [(.int (13 : Int32)), (.ref b1), (.ref b1)]))
  refine go (fun _ kont => X27.ldc2Long hx hown (mvT hZ (hw _ (List.mem_of_getElem? (i := 13) rfl))) (g := (mkF m 90 #[.val (.long p1), .second, .val (.int p2), .val (.int p3), .unset, .unset, .unset, .unset, .unset, .unset] [(.int (13 : Int32)), (.ref b1), (.ref b1)])) rfl (hb hby at_90) _ kont) ?_
  show G (T27.setTop (mkF m 93 #[.val (.long p1), .second, .val (.int p2), .val (.int p3), .unset, .unset, .unset, .unset, .unset, .unset] [(.long (10000000000000 : Int64)), (.int (13 : Int32)), (.ref b1), (.ref b1)]))
  obtain ⟨cl28, Ar28, Sl28, Ml28⟩ := id V27
  obtain ⟨T29, h29, X29, e29, W29, st29⟩ := stJ X27 hx hZ e27 Ar28 (j := (13 : Int32)) (own_hink Sl28 (by decide) (k := 13) (by decide) (Nat.le_of_ble_eq_true rfl)) (g := (mkF m 93 #[.val (.long p1), .second, .val (.int p2), .val (.int p3), .unset, .unset, .unset, .unset, .unset, .unset] [(.long (10000000000000 : Int64)), (.int (13 : Int32)), (.ref b1), (.ref b1)])) rfl rfl (hb hby at_93)
  refine go st29 ?_
  show G (T29.setTop (mkF m 94 #[.val (.long p1), .second, .val (.int p2), .val (.int p3), .unset, .unset, .unset, .unset, .unset, .unset] [(.ref b1)]))
  have V_29 := own_V_other V_27 W29 ne_pw_b1
  have S_29 := S_27.wr W29
  have V29 : own_V Z h29 b1 .long [(.long (1 : Int64)), (.long (10 : Int64)), (.long (100 : Int64)), (.long (1000 : Int64)), (.long (10000 : Int64)), (.long (100000 : Int64)), (.long (1000000 : Int64)), (.long (10000000 : Int64)), (.long (100000000 : Int64)), (.long (1000000000 : Int64)), (.long (10000000000 : Int64)), (.long (100000000000 : Int64)), (.long (1000000000000 : Int64)), (.long (10000000000000 : Int64)), (.long 0), (.long 0), (.long 0), (.long 0), (.long 0)] := own_V_set V27 W29 (k := 13) (by decide)
  have N29 := Fr.snoc X29 N27 ga_b1
  have Z29 : n0 ≤ h29.size := by rw [W29.size]; exact Z27
  refine go (fun _ kont => XS.dup X29.here hx rfl (hb hby at_94) rfl rfl kont) ?_
  show G (T29.setTop (mkF m 95 #[.val (.long p1), .second, .val (.int p2), .val (.int p3), .unset, .unset, .unset, .unset, .unset, .unset] [(.ref b1), (.ref b1)]))
  refine go (fun _ kont => XS.bipush X29.here hx rfl (hb hby at_95) kont) ?_
  show G (T29.setTop (mkF m 97 #[.val (.long p1), .second, .val (.int p2), .val (.int p3), .unset, .unset, .unset, .unset, .unset, .unset] [(.int (14 : Int32)), (.ref b1), (.ref b1)]))
  refine go (fun _ kont => X29.ldc2Long hx hown (mvT hZ (hw _ (List.mem_of_getElem? (i := 14) rfl))) (g := (mkF m 97 #[.val (.long p1), .second, .val (.int p2), .val (.int p3), .unset, .unset, .unset, .unset, .unset, .unset] [(.int (14 : Int32)), (.ref b1), (.ref b1)])) rfl (hb hby at_97) _ kont) ?_
  show G (T29.setTop (mkF m 100 #[.val (.long p1), .second, .val (.int p2), .val (.int p3), .unset, .unset, .unset, .unset, .unset, .unset] [(.long (100000000000000 : Int64)), (.int (14 : Int32)), (.ref b1), (.ref b1)]))
  obtain ⟨cl30, Ar30, Sl30, Ml30⟩ := id V29
  obtain ⟨T31, h31, X31, e31, W31, st31⟩ := stJ X29 hx hZ e29 Ar30 (j := (14 : Int32)) (own_hink Sl30 (by decide) (k := 14) (by decide) (Nat.le_of_ble_eq_true rfl)) (g := (mkF m 100 #[.val (.long p1), .second, .val (.int p2), .val (.int p3), .unset, .unset, .unset, .unset, .unset, .unset] [(.long (100000000000000 : Int64)), (.int (14 : Int32)), (.ref b1), (.ref b1)])) rfl rfl (hb hby at_100)
  refine go st31 ?_
  show G (T31.setTop (mkF m 101 #[.val (.long p1), .second, .val (.int p2), .val (.int p3), .unset, .unset, .unset, .unset, .unset, .unset] [(.ref b1)]))
  have V_31 := own_V_other V_29 W31 ne_pw_b1
  have S_31 := S_29.wr W31
  have V31 : own_V Z h31 b1 .long [(.long (1 : Int64)), (.long (10 : Int64)), (.long (100 : Int64)), (.long (1000 : Int64)), (.long (10000 : Int64)), (.long (100000 : Int64)), (.long (1000000 : Int64)), (.long (10000000 : Int64)), (.long (100000000 : Int64)), (.long (1000000000 : Int64)), (.long (10000000000 : Int64)), (.long (100000000000 : Int64)), (.long (1000000000000 : Int64)), (.long (10000000000000 : Int64)), (.long (100000000000000 : Int64)), (.long 0), (.long 0), (.long 0), (.long 0)] := own_V_set V29 W31 (k := 14) (by decide)
  have N31 := Fr.snoc X31 N29 ga_b1
  have Z31 : n0 ≤ h31.size := by rw [W31.size]; exact Z29
  refine go (fun _ kont => XS.dup X31.here hx rfl (hb hby at_101) rfl rfl kont) ?_
  show G (T31.setTop (mkF m 102 #[.val (.long p1), .second, .val (.int p2), .val (.int p3), .unset, .unset, .unset, .unset, .unset, .unset] [(.ref b1), (.ref b1)]))
  refine go (fun _ kont => XS.bipush X31.here hx rfl (hb hby at_102) kont) ?_
  show G (T31.setTop (mkF m 104 #[.val (.long p1), .second, .val (.int p2), .val (.int p3), .unset, .unset, .unset, .unset, .unset, .unset] [(.int (15 : Int32)), (.ref b1), (.ref b1)]))
  refine go (fun _ kont => X31.ldc2Long hx hown (mvT hZ (hw _ (List.mem_of_getElem? (i := 15) rfl))) (g := (mkF m 104 #[.val (.long p1), .second, .val (.int p2), .val (.int p3), .unset, .unset, .unset, .unset, .unset, .unset] [(.int (15 : Int32)), (.ref b1), (.ref b1)])) rfl (hb hby at_104) _ kont) ?_
  show G (T31.setTop (mkF m 107 #[.val (.long p1), .second, .val (.int p2), .val (.int p3), .unset, .unset, .unset, .unset, .unset, .unset] [(.long (1000000000000000 : Int64)), (.int (15 : Int32)), (.ref b1), (.ref b1)]))
  obtain ⟨cl32, Ar32, Sl32, Ml32⟩ := id V31
  obtain ⟨T33, h33, X33, e33, W33, st33⟩ := stJ X31 hx hZ e31 Ar32 (j := (15 : Int32)) (own_hink Sl32 (by decide) (k := 15) (by decide) (Nat.le_of_ble_eq_true rfl)) (g := (mkF m 107 #[.val (.long p1), .second, .val (.int p2), .val (.int p3), .unset, .unset, .unset, .unset, .unset, .unset] [(.long (1000000000000000 : Int64)), (.int (15 : Int32)), (.ref b1), (.ref b1)])) rfl rfl (hb hby at_107)
  refine go st33 ?_
  show G (T33.setTop (mkF m 108 #[.val (.long p1), .second, .val (.int p2), .val (.int p3), .unset, .unset, .unset, .unset, .unset, .unset] [(.ref b1)]))
  have V_33 := own_V_other V_31 W33 ne_pw_b1
  have S_33 := S_31.wr W33
  have V33 : own_V Z h33 b1 .long [(.long (1 : Int64)), (.long (10 : Int64)), (.long (100 : Int64)), (.long (1000 : Int64)), (.long (10000 : Int64)), (.long (100000 : Int64)), (.long (1000000 : Int64)), (.long (10000000 : Int64)), (.long (100000000 : Int64)), (.long (1000000000 : Int64)), (.long (10000000000 : Int64)), (.long (100000000000 : Int64)), (.long (1000000000000 : Int64)), (.long (10000000000000 : Int64)), (.long (100000000000000 : Int64)), (.long (1000000000000000 : Int64)), (.long 0), (.long 0), (.long 0)] := own_V_set V31 W33 (k := 15) (by decide)
  have N33 := Fr.snoc X33 N31 ga_b1
  have Z33 : n0 ≤ h33.size := by rw [W33.size]; exact Z31
  refine go (fun _ kont => XS.dup X33.here hx rfl (hb hby at_108) rfl rfl kont) ?_
  show G (T33.setTop (mkF m 109 #[.val (.long p1), .second, .val (.int p2), .val (.int p3), .unset, .unset, .unset, .unset, .unset, .unset] [(.ref b1), (.ref b1)]))
  refine go (fun _ kont => XS.bipush X33.here hx rfl (hb hby at_109) kont) ?_
  show G (T33.setTop (mkF m 111 #[.val (.long p1), .second, .val (.int p2), .val (.int p3), .unset, .unset, .unset, .unset, .unset, .unset] [(.int (16 : Int32)), (.ref b1), (.ref b1)]))
  refine go (fun _ kont => X33.ldc2Long hx hown (mvT hZ (hw _ (List.mem_of_getElem? (i := 16) rfl))) (g := (mkF m 111 #[.val (.long p1), .second, .val (.int p2), .val (.int p3), .unset, .unset, .unset, .unset, .unset, .unset] [(.int (16 : Int32)), (.ref b1), (.ref b1)])) rfl (hb hby at_111) _ kont) ?_
  show G (T33.setTop (mkF m 114 #[.val (.long p1), .second, .val (.int p2), .val (.int p3), .unset, .unset, .unset, .unset, .unset, .unset] [(.long (10000000000000000 : Int64)), (.int (16 : Int32)), (.ref b1), (.ref b1)]))
  obtain ⟨cl34, Ar34, Sl34, Ml34⟩ := id V33
  obtain ⟨T35, h35, X35, e35, W35, st35⟩ := stJ X33 hx hZ e33 Ar34 (j := (16 : Int32)) (own_hink Sl34 (by decide) (k := 16) (by decide) (Nat.le_of_ble_eq_true rfl)) (g := (mkF m 114 #[.val (.long p1), .second, .val (.int p2), .val (.int p3), .unset, .unset, .unset, .unset, .unset, .unset] [(.long (10000000000000000 : Int64)), (.int (16 : Int32)), (.ref b1), (.ref b1)])) rfl rfl (hb hby at_114)
  refine go st35 ?_
  show G (T35.setTop (mkF m 115 #[.val (.long p1), .second, .val (.int p2), .val (.int p3), .unset, .unset, .unset, .unset, .unset, .unset] [(.ref b1)]))
  have V_35 := own_V_other V_33 W35 ne_pw_b1
  have S_35 := S_33.wr W35
  have V35 : own_V Z h35 b1 .long [(.long (1 : Int64)), (.long (10 : Int64)), (.long (100 : Int64)), (.long (1000 : Int64)), (.long (10000 : Int64)), (.long (100000 : Int64)), (.long (1000000 : Int64)), (.long (10000000 : Int64)), (.long (100000000 : Int64)), (.long (1000000000 : Int64)), (.long (10000000000 : Int64)), (.long (100000000000 : Int64)), (.long (1000000000000 : Int64)), (.long (10000000000000 : Int64)), (.long (100000000000000 : Int64)), (.long (1000000000000000 : Int64)), (.long (10000000000000000 : Int64)), (.long 0), (.long 0)] := own_V_set V33 W35 (k := 16) (by decide)
  have N35 := Fr.snoc X35 N33 ga_b1
  have Z35 : n0 ≤ h35.size := by rw [W35.size]; exact Z33
  refine go (fun _ kont => XS.dup X35.here hx rfl (hb hby at_115) rfl rfl kont) ?_
  show G (T35.setTop (mkF m 116 #[.val (.long p1), .second, .val (.int p2), .val (.int p3), .unset, .unset, .unset, .unset, .unset, .unset] [(.ref b1), (.ref b1)]))
  refine go (fun _ kont => XS.bipush X35.here hx rfl (hb hby at_116) kont) ?_
  show G (T35.setTop (mkF m 118 #[.val (.long p1), .second, .val (.int p2), .val (.int p3), .unset, .unset, .unset, .unset, .unset, .unset] [(.int (17 : Int32)), (.ref b1), (.ref b1)]))
  refine go (fun _ kont => X35.ldc2Long hx hown (mvT hZ (hw _ (List.mem_of_getElem? (i := 17) rfl))) (g := (mkF m 118 #[.val (.long p1), .second, .val (.int p2), .val (.int p3), .unset, .unset, .unset, .unset, .unset, .unset] [(.int (17 : Int32)), (.ref b1), (.ref b1)])) rfl (hb hby at_118) _ kont) ?_
  show G (T35.setTop (mkF m 121 #[.val (.long p1), .second, .val (.int p2), .val (.int p3), .unset, .unset, .unset, .unset, .unset, .unset] [(.long (100000000000000000 : Int64)), (.int (17 : Int32)), (.ref b1), (.ref b1)]))
  obtain ⟨cl36, Ar36, Sl36, Ml36⟩ := id V35
  obtain ⟨T37, h37, X37, e37, W37, st37⟩ := stJ X35 hx hZ e35 Ar36 (j := (17 : Int32)) (own_hink Sl36 (by decide) (k := 17) (by decide) (Nat.le_of_ble_eq_true rfl)) (g := (mkF m 121 #[.val (.long p1), .second, .val (.int p2), .val (.int p3), .unset, .unset, .unset, .unset, .unset, .unset] [(.long (100000000000000000 : Int64)), (.int (17 : Int32)), (.ref b1), (.ref b1)])) rfl rfl (hb hby at_121)
  refine go st37 ?_
  show G (T37.setTop (mkF m 122 #[.val (.long p1), .second, .val (.int p2), .val (.int p3), .unset, .unset, .unset, .unset, .unset, .unset] [(.ref b1)]))
  have V_37 := own_V_other V_35 W37 ne_pw_b1
  have S_37 := S_35.wr W37
  have V37 : own_V Z h37 b1 .long [(.long (1 : Int64)), (.long (10 : Int64)), (.long (100 : Int64)), (.long (1000 : Int64)), (.long (10000 : Int64)), (.long (100000 : Int64)), (.long (1000000 : Int64)), (.long (10000000 : Int64)), (.long (100000000 : Int64)), (.long (1000000000 : Int64)), (.long (10000000000 : Int64)), (.long (100000000000 : Int64)), (.long (1000000000000 : Int64)), (.long (10000000000000 : Int64)), (.long (100000000000000 : Int64)), (.long (1000000000000000 : Int64)), (.long (10000000000000000 : Int64)), (.long (100000000000000000 : Int64)), (.long 0)] := own_V_set V35 W37 (k := 17) (by decide)
  have N37 := Fr.snoc X37 N35 ga_b1
  have Z37 : n0 ≤ h37.size := by rw [W37.size]; exact Z35
  refine go (fun _ kont => XS.dup X37.here hx rfl (hb hby at_122) rfl rfl kont) ?_
  show G (T37.setTop (mkF m 123 #[.val (.long p1), .second, .val (.int p2), .val (.int p3), .unset, .unset, .unset, .unset, .unset, .unset] [(.ref b1), (.ref b1)]))
  refine go (fun _ kont => XS.bipush X37.here hx rfl (hb hby at_123) kont) ?_
  show G (T37.setTop (mkF m 125 #[.val (.long p1), .second, .val (.int p2), .val (.int p3), .unset, .unset, .unset, .unset, .unset, .unset] [(.int (18 : Int32)), (.ref b1), (.ref b1)]))
  refine go (fun _ kont => X37.ldc2Long hx hown (mvT hZ (hw _ (List.mem_of_getElem? (i := 18) rfl))) (g := (mkF m 125 #[.val (.long p1), .second, .val (.int p2), .val (.int p3), .unset, .unset, .unset, .unset, .unset, .unset] [(.int (18 : Int32)), (.ref b1), (.ref b1)])) rfl (hb hby at_125) _ kont) ?_
  show G (T37.setTop (mkF m 128 #[.val (.long p1), .second, .val (.int p2), .val (.int p3), .unset, .unset, .unset, .unset, .unset, .unset] [(.long (1000000000000000000 : Int64)), (.int (18 : Int32)), (.ref b1), (.ref b1)]))
  obtain ⟨cl38, Ar38, Sl38, Ml38⟩ := id V37
  obtain ⟨T39, h39, X39, e39, W39, st39⟩ := stJ X37 hx hZ e37 Ar38 (j := (18 : Int32)) (own_hink Sl38 (by decide) (k := 18) (by decide) (Nat.le_of_ble_eq_true rfl)) (g := (mkF m 128 #[.val (.long p1), .second, .val (.int p2), .val (.int p3), .unset, .unset, .unset, .unset, .unset, .unset] [(.long (1000000000000000000 : Int64)), (.int (18 : Int32)), (.ref b1), (.ref b1)])) rfl rfl (hb hby at_128)
  refine go st39 ?_
  show G (T39.setTop (mkF m 129 #[.val (.long p1), .second, .val (.int p2), .val (.int p3), .unset, .unset, .unset, .unset, .unset, .unset] [(.ref b1)]))
  have V_39 := own_V_other V_37 W39 ne_pw_b1
  have S_39 := S_37.wr W39
  have V39 : own_V Z h39 b1 .long [(.long (1 : Int64)), (.long (10 : Int64)), (.long (100 : Int64)), (.long (1000 : Int64)), (.long (10000 : Int64)), (.long (100000 : Int64)), (.long (1000000 : Int64)), (.long (10000000 : Int64)), (.long (100000000 : Int64)), (.long (1000000000 : Int64)), (.long (10000000000 : Int64)), (.long (100000000000 : Int64)), (.long (1000000000000 : Int64)), (.long (10000000000000 : Int64)), (.long (100000000000000 : Int64)), (.long (1000000000000000 : Int64)), (.long (10000000000000000 : Int64)), (.long (100000000000000000 : Int64)), (.long (1000000000000000000 : Int64))] := own_V_set V37 W39 (k := 18) (by decide)
  have N39 := Fr.snoc X39 N37 ga_b1
  have Z39 : n0 ≤ h39.size := by rw [W39.size]; exact Z37
  have VL : own_V Z h39 b1 .long (own_L.map Value.long) := V39
  have rest : ∀ (n : Int64) (s7 s8 : Slot), One s7 → One s8 → ∀ (T' : State) (ls : List Loc), Fr n0 ls → Stand p l e room_1 s m #[(.long p1), (.int p2), (.int p3)] below meth c T' ls 1 19 → T'.heap = h39 → G (T'.setTop (mkF m 179 #[.val (.long p1), .second, .val (.int p2), .val (.int p3), .val (.ref b1), .val (.long n), .second, s7, s8, .unset] [])) := by
    intro n s7 s8 hs7 hs8 T' ls N' X' e'
    show G (T'.setTop (mkF m 179 #[.val (.long p1), .second, .val (.int p2), .val (.int p3), .val (.ref b1), .val (.long n), .second, s7, s8, .unset] []))
    refine go (fun _ kont => XS.lload X'.here hx rfl (hb hby at_179) rfl  kont) ?_
    show G (T'.setTop (mkF m 181 #[.val (.long p1), .second, .val (.int p2), .val (.int p3), .val (.ref b1), .val (.long n), .second, s7, s8, .unset] [(.long n)]))
    obtain ⟨_, _, ⟨T40, L40, k40, n40⟩, -, X40, ⟨Lc40, hQ40, l40, y40, z40⟩, st40⟩ := Jvm.LawKit.callS X' hx (y := (⟨"com/example/reckoner/reckoner/core/Digits", "count", "(J)I"⟩ : MethodName)) hown (mvT hZ (hw _ (List.mem_of_getElem? (i := 20) rfl))) (mvT hZ (hw _ (List.mem_of_getElem? (i := 21) rfl))) (mvT hZ (hw _ (List.mem_of_getElem? (i := 22) rfl))) (mvT hZ (hw _ (List.mem_of_getElem? (i := 23) rfl))) (by decide) (backOf (W := 0) (own_rm_count l Z a0 hw [] n h39 n0 Z39 pw S_39 V_39) hZ (hw _ (List.mem_of_getElem? (i := 23) rfl)) (hw _ (List.mem_of_getElem? (i := 22) rfl)) (by decide) (by decide)) (g := (mkF m 181 #[.val (.long p1), .second, .val (.int p2), .val (.int p3), .val (.ref b1), .val (.long n), .second, s7, s8, .unset] [(.long n)])) rfl (by rw [hml]; rfl) (argsL := [(.long n)]) (rest := []) (lenOf own_pd0 rfl) rfl (by show 2 * 0 + _ ≤ _; exact Nat.le_of_eq rfl) (hb hby at_181) (fun _ _ => ⟨rfl, e', (by decide : 1 + 0 ≤ _), (by decide : 19 + 0 ≤ _)⟩)
    dsimp only [Pt.U, Pt.locs, Pt.cells, Pt.slots] at X40 l40 y40 z40 st40 hQ40
    subst l40 y40 z40
    obtain ⟨⟨d, rfl, hd1, hd19, hlo, hhi⟩, N40q, e40⟩ := hQ40
    have N40 := Fr.app N' N40q
    refine go st40 ?_
    show G (T40.setTop (mkF m 184 #[.val (.long p1), .second, .val (.int p2), .val (.int p3), .val (.ref b1), .val (.long n), .second, s7, s8, .unset] [(.int (Int32.ofNat d))]))
    refine go (fun _ kont => XS.istore X40.here hx rfl (hb hby at_184) rfl (l' := #[.val (.long p1), .second, .val (.int p2), .val (.int p3), .val (.ref b1), .val (.long n), .second, .val (.int (Int32.ofNat d)), s8, .unset]) (by rcases hs7 with rfl | ⟨w, rfl, hw⟩ <;> first | rfl | (cases w <;> first | rfl | (simp [Value.category] at hw))) kont) ?_
    show G (T40.setTop (mkF m 186 #[.val (.long p1), .second, .val (.int p2), .val (.int p3), .val (.ref b1), .val (.long n), .second, .val (.int (Int32.ofNat d)), s8, .unset] []))
    refine go (fun _ kont => XS.iload X40.here hx rfl (hb hby at_186) rfl  kont) ?_
    show G (T40.setTop (mkF m 188 #[.val (.long p1), .second, .val (.int p2), .val (.int p3), .val (.ref b1), .val (.long n), .second, .val (.int (Int32.ofNat d)), s8, .unset] [(.int (Int32.ofNat d))]))
    refine go (fun _ kont => XS.iconst X40.here hx rfl (hb hby at_188) kont) ?_
    show G (T40.setTop (mkF m 189 #[.val (.long p1), .second, .val (.int p2), .val (.int p3), .val (.ref b1), .val (.long n), .second, .val (.int (Int32.ofNat d)), s8, .unset] [(.int (1 : Int32)), (.int (Int32.ofNat d))]))
    refine go (fun _ kont => XS.icmpNo X40.here hx rfl (hb hby at_189) rfl (flt (fun q => by have q' := (own_ltO (d := d) (k := 1) (by omega) (by omega)).mp q; omega)).1 kont) ?_
    show G (T40.setTop (mkF m 192 #[.val (.long p1), .second, .val (.int p2), .val (.int p3), .val (.ref b1), .val (.long n), .second, .val (.int (Int32.ofNat d)), s8, .unset] []))
    refine go (fun _ kont => XS.iload X40.here hx rfl (hb hby at_192) rfl  kont) ?_
    show G (T40.setTop (mkF m 194 #[.val (.long p1), .second, .val (.int p2), .val (.int p3), .val (.ref b1), .val (.long n), .second, .val (.int (Int32.ofNat d)), s8, .unset] [(.int (Int32.ofNat d))]))
    refine go (fun _ kont => XS.bipush X40.here hx rfl (hb hby at_194) kont) ?_
    show G (T40.setTop (mkF m 196 #[.val (.long p1), .second, .val (.int p2), .val (.int p3), .val (.ref b1), .val (.long n), .second, .val (.int (Int32.ofNat d)), s8, .unset] [(.int (19 : Int32)), (.int (Int32.ofNat d))]))
    refine go (fun _ kont => XS.icmpYes X40.here hx rfl (pc0 := 196) (pc' := 201) rfl (hb hby at_196) rfl (flt (fun q => by have q' := (own_ltO (d := 19) (k := d) (by omega) (by omega)).mp q; omega)).2.2.2 (by decide) (by decide) kont) ?_
    show G (T40.setTop (mkF m 201 #[.val (.long p1), .second, .val (.int p2), .val (.int p3), .val (.ref b1), .val (.long n), .second, .val (.int (Int32.ofNat d)), s8, .unset] []))
    refine go (fun _ kont => XS.iload X40.here hx rfl (hb hby at_201) rfl  kont) ?_
    show G (T40.setTop (mkF m 203 #[.val (.long p1), .second, .val (.int p2), .val (.int p3), .val (.ref b1), .val (.long n), .second, .val (.int (Int32.ofNat d)), s8, .unset] [(.int (Int32.ofNat d))]))
    refine go (fun _ kont => XS.iconst X40.here hx rfl (hb hby at_203) kont) ?_
    show G (T40.setTop (mkF m 204 #[.val (.long p1), .second, .val (.int p2), .val (.int p3), .val (.ref b1), .val (.long n), .second, .val (.int (Int32.ofNat d)), s8, .unset] [(.int (1 : Int32)), (.int (Int32.ofNat d))]))
    by_cases hc204 : (Int32.ofNat d) = (1 : Int32)
    · refine go (fun _ kont => XS.icmpYes X40.here hx rfl (pc0 := 204) (pc' := 220) rfl (hb hby at_204) rfl (teq hc204).1 (by decide) (by decide) kont) ?_
      show G (T40.setTop (mkF m 220 #[.val (.long p1), .second, .val (.int p2), .val (.int p3), .val (.ref b1), .val (.long n), .second, .val (.int (Int32.ofNat d)), s8, .unset] []))
      refine go (fun _ kont => XS.iconst X40.here hx rfl (hb hby at_220) kont) ?_
      show G (T40.setTop (mkF m 221 #[.val (.long p1), .second, .val (.int p2), .val (.int p3), .val (.ref b1), .val (.long n), .second, .val (.int (Int32.ofNat d)), s8, .unset] [(.int (1 : Int32))]))
      refine go (fun _ kont => XS.goto X40.here hx rfl (pc0 := 221) (pc' := 225) rfl (hb hby at_221) (by decide) (by decide) kont) ?_
      show G (T40.setTop (mkF m 225 #[.val (.long p1), .second, .val (.int p2), .val (.int p3), .val (.ref b1), .val (.long n), .second, .val (.int (Int32.ofNat d)), s8, .unset] [(.int (1 : Int32))]))
      refine go (fun _ kont => XS.istore X40.here hx rfl (hb hby at_225) rfl (l' := #[.val (.long p1), .second, .val (.int p2), .val (.int p3), .val (.ref b1), .val (.long n), .second, .val (.int (Int32.ofNat d)), .val (.int (1 : Int32)), .unset]) (by rcases hs8 with rfl | ⟨w, rfl, hw⟩ <;> first | rfl | (cases w <;> first | rfl | (simp [Value.category] at hw))) kont) ?_
      show G (T40.setTop (mkF m 227 #[.val (.long p1), .second, .val (.int p2), .val (.int p3), .val (.ref b1), .val (.long n), .second, .val (.int (Int32.ofNat d)), .val (.int (1 : Int32)), .unset] []))
      refine go (fun _ kont => XS.iload X40.here hx rfl (hb hby at_227) rfl  kont) ?_
      show G (T40.setTop (mkF m 229 #[.val (.long p1), .second, .val (.int p2), .val (.int p3), .val (.ref b1), .val (.long n), .second, .val (.int (Int32.ofNat d)), .val (.int (1 : Int32)), .unset] [(.int (Int32.ofNat d))]))
      refine go (fun _ kont => XS.bipush X40.here hx rfl (hb hby at_229) kont) ?_
      show G (T40.setTop (mkF m 231 #[.val (.long p1), .second, .val (.int p2), .val (.int p3), .val (.ref b1), .val (.long n), .second, .val (.int (Int32.ofNat d)), .val (.int (1 : Int32)), .unset] [(.int (19 : Int32)), (.int (Int32.ofNat d))]))
      by_cases hc231 : (Int32.ofNat d) = (19 : Int32)
      · refine go (fun _ kont => XS.icmpYes X40.here hx rfl (pc0 := 231) (pc' := 245) rfl (hb hby at_231) rfl (teq hc231).1 (by decide) (by decide) kont) ?_
        show G (T40.setTop (mkF m 245 #[.val (.long p1), .second, .val (.int p2), .val (.int p3), .val (.ref b1), .val (.long n), .second, .val (.int (Int32.ofNat d)), .val (.int (1 : Int32)), .unset] []))
        refine go (fun _ kont => XS.iconst X40.here hx rfl (hb hby at_245) kont) ?_
        show G (T40.setTop (mkF m 246 #[.val (.long p1), .second, .val (.int p2), .val (.int p3), .val (.ref b1), .val (.long n), .second, .val (.int (Int32.ofNat d)), .val (.int (1 : Int32)), .unset] [(.int (1 : Int32))]))
        refine go (fun _ kont => XS.goto X40.here hx rfl (pc0 := 246) (pc' := 250) rfl (hb hby at_246) (by decide) (by decide) kont) ?_
        show G (T40.setTop (mkF m 250 #[.val (.long p1), .second, .val (.int p2), .val (.int p3), .val (.ref b1), .val (.long n), .second, .val (.int (Int32.ofNat d)), .val (.int (1 : Int32)), .unset] [(.int (1 : Int32))]))
        refine go (fun _ kont => XS.istore X40.here hx rfl (hb hby at_250) rfl (l' := #[.val (.long p1), .second, .val (.int p2), .val (.int p3), .val (.ref b1), .val (.long n), .second, .val (.int (Int32.ofNat d)), .val (.int (1 : Int32)), .val (.int (1 : Int32))]) rfl kont) ?_
        show G (T40.setTop (mkF m 252 #[.val (.long p1), .second, .val (.int p2), .val (.int p3), .val (.ref b1), .val (.long n), .second, .val (.int (Int32.ofNat d)), .val (.int (1 : Int32)), .val (.int (1 : Int32))] []))
        refine go (fun _ kont => XS.iload X40.here hx rfl (hb hby at_252) rfl  kont) ?_
        show G (T40.setTop (mkF m 254 #[.val (.long p1), .second, .val (.int p2), .val (.int p3), .val (.ref b1), .val (.long n), .second, .val (.int (Int32.ofNat d)), .val (.int (1 : Int32)), .val (.int (1 : Int32))] [(.int (1 : Int32))]))
        refine go (fun _ kont => XS.ifNo X40.here hx rfl (hb hby at_254) rfl ((if0 _ _).trans (feq (by decide)).1) kont) ?_
        show G (T40.setTop (mkF m 257 #[.val (.long p1), .second, .val (.int p2), .val (.int p3), .val (.ref b1), .val (.long n), .second, .val (.int (Int32.ofNat d)), .val (.int (1 : Int32)), .val (.int (1 : Int32))] []))
        refine go (fun _ kont => XS.iload X40.here hx rfl (hb hby at_257) rfl  kont) ?_
        show G (T40.setTop (mkF m 259 #[.val (.long p1), .second, .val (.int p2), .val (.int p3), .val (.ref b1), .val (.long n), .second, .val (.int (Int32.ofNat d)), .val (.int (1 : Int32)), .val (.int (1 : Int32))] [(.int (1 : Int32))]))
        refine go (fun _ kont => XS.ifNo X40.here hx rfl (hb hby at_259) rfl ((if0 _ _).trans (feq (by decide)).1) kont) ?_
        show G (T40.setTop (mkF m 262 #[.val (.long p1), .second, .val (.int p2), .val (.int p3), .val (.ref b1), .val (.long n), .second, .val (.int (Int32.ofNat d)), .val (.int (1 : Int32)), .val (.int (1 : Int32))] []))
        refine go (fun _ kont => XS.iconst X40.here hx rfl (hb hby at_262) kont) ?_
        show G (T40.setTop (mkF m 263 #[.val (.long p1), .second, .val (.int p2), .val (.int p3), .val (.ref b1), .val (.long n), .second, .val (.int (Int32.ofNat d)), .val (.int (1 : Int32)), .val (.int (1 : Int32))] [(.int (1 : Int32))]))
        refine go (fun _ kont => XS.goto X40.here hx rfl (pc0 := 263) (pc' := 267) rfl (hb hby at_263) (by decide) (by decide) kont) ?_
        show G (T40.setTop (mkF m 267 #[.val (.long p1), .second, .val (.int p2), .val (.int p3), .val (.ref b1), .val (.long n), .second, .val (.int (Int32.ofNat d)), .val (.int (1 : Int32)), .val (.int (1 : Int32))] [(.int (1 : Int32))]))
        rw [hG]
        exact own_retN X40 hx (t := .boolean) Bd.returns (by simp) (hb hby at_267) hlk (by decide) (by decide) ⟨rfl, N40⟩
      · refine go (fun _ kont => XS.icmpNo X40.here hx rfl (hb hby at_231) rfl (feq hc231).1 kont) ?_
        show G (T40.setTop (mkF m 234 #[.val (.long p1), .second, .val (.int p2), .val (.int p3), .val (.ref b1), .val (.long n), .second, .val (.int (Int32.ofNat d)), .val (.int (1 : Int32)), .unset] []))
        have hne19 : d ≠ 19 := fun q => hc231 (by rw [q]; rfl)
        refine go (fun _ kont => XS.lload X40.here hx rfl (hb hby at_234) rfl  kont) ?_
        show G (T40.setTop (mkF m 236 #[.val (.long p1), .second, .val (.int p2), .val (.int p3), .val (.ref b1), .val (.long n), .second, .val (.int (Int32.ofNat d)), .val (.int (1 : Int32)), .unset] [(.long n)]))
        refine go (fun _ kont => XS.aload X40.here hx rfl (hb hby at_236) rfl rfl kont) ?_
        show G (T40.setTop (mkF m 238 #[.val (.long p1), .second, .val (.int p2), .val (.int p3), .val (.ref b1), .val (.long n), .second, .val (.int (Int32.ofNat d)), .val (.int (1 : Int32)), .unset] [(.ref b1), (.long n)]))
        refine go (fun _ kont => XS.iload X40.here hx rfl (hb hby at_238) rfl  kont) ?_
        show G (T40.setTop (mkF m 240 #[.val (.long p1), .second, .val (.int p2), .val (.int p3), .val (.ref b1), .val (.long n), .second, .val (.int (Int32.ofNat d)), .val (.int (1 : Int32)), .unset] [(.int (Int32.ofNat d)), (.ref b1), (.long n)]))
        obtain ⟨cl, Ar, Sl, Ml⟩ := id VL
        refine go (fun _ kont => X40.laload hx (j := (Int32.ofNat d)) (v := (.long (own_L.getD (d) 0))) (by rw [e40]; exact Ar.1) (State.isArrayOf_alike hZ.alike Ar.2.1) Ar.2.2 (own_hink Sl (k := d) (by exact own_neg (by rw [own_ofN (by omega)]; omega)) (by exact own_tnO (by omega)) (by show d < 19; omega)) (own_hatk Sl (by exact own_tnO (by omega)) (own_Lat (k := d) (by omega))) (g := (mkF m 240 #[.val (.long p1), .second, .val (.int p2), .val (.int p3), .val (.ref b1), .val (.long n), .second, .val (.int (Int32.ofNat d)), .val (.int (1 : Int32)), .unset] [(.int (Int32.ofNat d)), (.ref b1), (.long n)])) rfl rfl (hb hby at_240) _ kont) ?_
        show G (T40.setTop (mkF m 241 #[.val (.long p1), .second, .val (.int p2), .val (.int p3), .val (.ref b1), .val (.long n), .second, .val (.int (Int32.ofNat d)), .val (.int (1 : Int32)), .unset] [(.long (own_L.getD (d) 0)), (.long n)]))
        refine go (fun _ kont => XS.lcmp X40.here hx rfl (hb hby at_241) rfl kont) ?_
        show G (T40.setTop (mkF m 242 #[.val (.long p1), .second, .val (.int p2), .val (.int p3), .val (.ref b1), .val (.long n), .second, .val (.int (Int32.ofNat d)), .val (.int (1 : Int32)), .unset] [(.int (lcmpW n (own_L.getD (d) 0)))]))
        refine go (fun _ kont => XS.ifNo X40.here hx rfl (hb hby at_242) rfl ((if0 _ _).trans (tlt ((lw_lt _ _).mpr (by rw [own_LP hd1]; exact hhi.resolve_left hne19))).2.1) kont) ?_
        show G (T40.setTop (mkF m 245 #[.val (.long p1), .second, .val (.int p2), .val (.int p3), .val (.ref b1), .val (.long n), .second, .val (.int (Int32.ofNat d)), .val (.int (1 : Int32)), .unset] []))
        refine go (fun _ kont => XS.iconst X40.here hx rfl (hb hby at_245) kont) ?_
        show G (T40.setTop (mkF m 246 #[.val (.long p1), .second, .val (.int p2), .val (.int p3), .val (.ref b1), .val (.long n), .second, .val (.int (Int32.ofNat d)), .val (.int (1 : Int32)), .unset] [(.int (1 : Int32))]))
        refine go (fun _ kont => XS.goto X40.here hx rfl (pc0 := 246) (pc' := 250) rfl (hb hby at_246) (by decide) (by decide) kont) ?_
        show G (T40.setTop (mkF m 250 #[.val (.long p1), .second, .val (.int p2), .val (.int p3), .val (.ref b1), .val (.long n), .second, .val (.int (Int32.ofNat d)), .val (.int (1 : Int32)), .unset] [(.int (1 : Int32))]))
        refine go (fun _ kont => XS.istore X40.here hx rfl (hb hby at_250) rfl (l' := #[.val (.long p1), .second, .val (.int p2), .val (.int p3), .val (.ref b1), .val (.long n), .second, .val (.int (Int32.ofNat d)), .val (.int (1 : Int32)), .val (.int (1 : Int32))]) rfl kont) ?_
        show G (T40.setTop (mkF m 252 #[.val (.long p1), .second, .val (.int p2), .val (.int p3), .val (.ref b1), .val (.long n), .second, .val (.int (Int32.ofNat d)), .val (.int (1 : Int32)), .val (.int (1 : Int32))] []))
        refine go (fun _ kont => XS.iload X40.here hx rfl (hb hby at_252) rfl  kont) ?_
        show G (T40.setTop (mkF m 254 #[.val (.long p1), .second, .val (.int p2), .val (.int p3), .val (.ref b1), .val (.long n), .second, .val (.int (Int32.ofNat d)), .val (.int (1 : Int32)), .val (.int (1 : Int32))] [(.int (1 : Int32))]))
        refine go (fun _ kont => XS.ifNo X40.here hx rfl (hb hby at_254) rfl ((if0 _ _).trans (feq (by decide)).1) kont) ?_
        show G (T40.setTop (mkF m 257 #[.val (.long p1), .second, .val (.int p2), .val (.int p3), .val (.ref b1), .val (.long n), .second, .val (.int (Int32.ofNat d)), .val (.int (1 : Int32)), .val (.int (1 : Int32))] []))
        refine go (fun _ kont => XS.iload X40.here hx rfl (hb hby at_257) rfl  kont) ?_
        show G (T40.setTop (mkF m 259 #[.val (.long p1), .second, .val (.int p2), .val (.int p3), .val (.ref b1), .val (.long n), .second, .val (.int (Int32.ofNat d)), .val (.int (1 : Int32)), .val (.int (1 : Int32))] [(.int (1 : Int32))]))
        refine go (fun _ kont => XS.ifNo X40.here hx rfl (hb hby at_259) rfl ((if0 _ _).trans (feq (by decide)).1) kont) ?_
        show G (T40.setTop (mkF m 262 #[.val (.long p1), .second, .val (.int p2), .val (.int p3), .val (.ref b1), .val (.long n), .second, .val (.int (Int32.ofNat d)), .val (.int (1 : Int32)), .val (.int (1 : Int32))] []))
        refine go (fun _ kont => XS.iconst X40.here hx rfl (hb hby at_262) kont) ?_
        show G (T40.setTop (mkF m 263 #[.val (.long p1), .second, .val (.int p2), .val (.int p3), .val (.ref b1), .val (.long n), .second, .val (.int (Int32.ofNat d)), .val (.int (1 : Int32)), .val (.int (1 : Int32))] [(.int (1 : Int32))]))
        refine go (fun _ kont => XS.goto X40.here hx rfl (pc0 := 263) (pc' := 267) rfl (hb hby at_263) (by decide) (by decide) kont) ?_
        show G (T40.setTop (mkF m 267 #[.val (.long p1), .second, .val (.int p2), .val (.int p3), .val (.ref b1), .val (.long n), .second, .val (.int (Int32.ofNat d)), .val (.int (1 : Int32)), .val (.int (1 : Int32))] [(.int (1 : Int32))]))
        rw [hG]
        exact own_retN X40 hx (t := .boolean) Bd.returns (by simp) (hb hby at_267) hlk (by decide) (by decide) ⟨rfl, N40⟩
    · refine go (fun _ kont => XS.icmpNo X40.here hx rfl (hb hby at_204) rfl (feq hc204).1 kont) ?_
      show G (T40.setTop (mkF m 207 #[.val (.long p1), .second, .val (.int p2), .val (.int p3), .val (.ref b1), .val (.long n), .second, .val (.int (Int32.ofNat d)), s8, .unset] []))
      have hne1 : d ≠ 1 := fun q => hc204 (by rw [q]; rfl)
      refine go (fun _ kont => XS.aload X40.here hx rfl (hb hby at_207) rfl rfl kont) ?_
      show G (T40.setTop (mkF m 209 #[.val (.long p1), .second, .val (.int p2), .val (.int p3), .val (.ref b1), .val (.long n), .second, .val (.int (Int32.ofNat d)), s8, .unset] [(.ref b1)]))
      refine go (fun _ kont => XS.iload X40.here hx rfl (hb hby at_209) rfl  kont) ?_
      show G (T40.setTop (mkF m 211 #[.val (.long p1), .second, .val (.int p2), .val (.int p3), .val (.ref b1), .val (.long n), .second, .val (.int (Int32.ofNat d)), s8, .unset] [(.int (Int32.ofNat d)), (.ref b1)]))
      refine go (fun _ kont => XS.iconst X40.here hx rfl (hb hby at_211) kont) ?_
      show G (T40.setTop (mkF m 212 #[.val (.long p1), .second, .val (.int p2), .val (.int p3), .val (.ref b1), .val (.long n), .second, .val (.int (Int32.ofNat d)), s8, .unset] [(.int (1 : Int32)), (.int (Int32.ofNat d)), (.ref b1)]))
      refine go (fun _ kont => XS.isub X40.here hx rfl (hb hby at_212) rfl kont) ?_
      show G (T40.setTop (mkF m 213 #[.val (.long p1), .second, .val (.int p2), .val (.int p3), .val (.ref b1), .val (.long n), .second, .val (.int (Int32.ofNat d)), s8, .unset] [(.int ((Int32.ofNat d) - (1 : Int32))), (.ref b1)]))
      obtain ⟨cl, Ar, Sl, Ml⟩ := id VL
      refine go (fun _ kont => X40.laload hx (j := ((Int32.ofNat d) - (1 : Int32))) (v := (.long (own_L.getD (d - 1) 0))) (by rw [e40]; exact Ar.1) (State.isArrayOf_alike hZ.alike Ar.2.1) Ar.2.2 (own_hink Sl (k := d - 1) (by rw [own_pred hd1]; exact own_neg (by rw [own_ofN (by omega)]; omega)) (by rw [own_pred hd1]; exact own_tnO (by omega)) (by show d - 1 < 19; omega)) (own_hatk Sl (by rw [own_pred hd1]; exact own_tnO (by omega)) (own_Lat (k := d - 1) (by omega))) (g := (mkF m 213 #[.val (.long p1), .second, .val (.int p2), .val (.int p3), .val (.ref b1), .val (.long n), .second, .val (.int (Int32.ofNat d)), s8, .unset] [(.int ((Int32.ofNat d) - (1 : Int32))), (.ref b1)])) rfl rfl (hb hby at_213) _ kont) ?_
      show G (T40.setTop (mkF m 214 #[.val (.long p1), .second, .val (.int p2), .val (.int p3), .val (.ref b1), .val (.long n), .second, .val (.int (Int32.ofNat d)), s8, .unset] [(.long (own_L.getD (d - 1) 0))]))
      refine go (fun _ kont => XS.lload X40.here hx rfl (hb hby at_214) rfl  kont) ?_
      show G (T40.setTop (mkF m 216 #[.val (.long p1), .second, .val (.int p2), .val (.int p3), .val (.ref b1), .val (.long n), .second, .val (.int (Int32.ofNat d)), s8, .unset] [(.long n), (.long (own_L.getD (d - 1) 0))]))
      refine go (fun _ kont => XS.lcmp X40.here hx rfl (hb hby at_216) rfl kont) ?_
      show G (T40.setTop (mkF m 217 #[.val (.long p1), .second, .val (.int p2), .val (.int p3), .val (.ref b1), .val (.long n), .second, .val (.int (Int32.ofNat d)), s8, .unset] [(.int (lcmpW (own_L.getD (d - 1) 0) n))]))
      refine go (fun _ kont => XS.ifNo X40.here hx rfl (hb hby at_217) rfl ((if0 _ _).trans (flt (mt (lw_gt _ _).mp (Int64.not_lt.mpr (by rw [own_LP (by omega), show d - 1 - 1 = d - 2 by omega]; exact hlo.resolve_left hne1)))).2.2.1) kont) ?_
      show G (T40.setTop (mkF m 220 #[.val (.long p1), .second, .val (.int p2), .val (.int p3), .val (.ref b1), .val (.long n), .second, .val (.int (Int32.ofNat d)), s8, .unset] []))
      refine go (fun _ kont => XS.iconst X40.here hx rfl (hb hby at_220) kont) ?_
      show G (T40.setTop (mkF m 221 #[.val (.long p1), .second, .val (.int p2), .val (.int p3), .val (.ref b1), .val (.long n), .second, .val (.int (Int32.ofNat d)), s8, .unset] [(.int (1 : Int32))]))
      refine go (fun _ kont => XS.goto X40.here hx rfl (pc0 := 221) (pc' := 225) rfl (hb hby at_221) (by decide) (by decide) kont) ?_
      show G (T40.setTop (mkF m 225 #[.val (.long p1), .second, .val (.int p2), .val (.int p3), .val (.ref b1), .val (.long n), .second, .val (.int (Int32.ofNat d)), s8, .unset] [(.int (1 : Int32))]))
      refine go (fun _ kont => XS.istore X40.here hx rfl (hb hby at_225) rfl (l' := #[.val (.long p1), .second, .val (.int p2), .val (.int p3), .val (.ref b1), .val (.long n), .second, .val (.int (Int32.ofNat d)), .val (.int (1 : Int32)), .unset]) (by rcases hs8 with rfl | ⟨w, rfl, hw⟩ <;> first | rfl | (cases w <;> first | rfl | (simp [Value.category] at hw))) kont) ?_
      show G (T40.setTop (mkF m 227 #[.val (.long p1), .second, .val (.int p2), .val (.int p3), .val (.ref b1), .val (.long n), .second, .val (.int (Int32.ofNat d)), .val (.int (1 : Int32)), .unset] []))
      refine go (fun _ kont => XS.iload X40.here hx rfl (hb hby at_227) rfl  kont) ?_
      show G (T40.setTop (mkF m 229 #[.val (.long p1), .second, .val (.int p2), .val (.int p3), .val (.ref b1), .val (.long n), .second, .val (.int (Int32.ofNat d)), .val (.int (1 : Int32)), .unset] [(.int (Int32.ofNat d))]))
      refine go (fun _ kont => XS.bipush X40.here hx rfl (hb hby at_229) kont) ?_
      show G (T40.setTop (mkF m 231 #[.val (.long p1), .second, .val (.int p2), .val (.int p3), .val (.ref b1), .val (.long n), .second, .val (.int (Int32.ofNat d)), .val (.int (1 : Int32)), .unset] [(.int (19 : Int32)), (.int (Int32.ofNat d))]))
      by_cases hc231 : (Int32.ofNat d) = (19 : Int32)
      · refine go (fun _ kont => XS.icmpYes X40.here hx rfl (pc0 := 231) (pc' := 245) rfl (hb hby at_231) rfl (teq hc231).1 (by decide) (by decide) kont) ?_
        show G (T40.setTop (mkF m 245 #[.val (.long p1), .second, .val (.int p2), .val (.int p3), .val (.ref b1), .val (.long n), .second, .val (.int (Int32.ofNat d)), .val (.int (1 : Int32)), .unset] []))
        refine go (fun _ kont => XS.iconst X40.here hx rfl (hb hby at_245) kont) ?_
        show G (T40.setTop (mkF m 246 #[.val (.long p1), .second, .val (.int p2), .val (.int p3), .val (.ref b1), .val (.long n), .second, .val (.int (Int32.ofNat d)), .val (.int (1 : Int32)), .unset] [(.int (1 : Int32))]))
        refine go (fun _ kont => XS.goto X40.here hx rfl (pc0 := 246) (pc' := 250) rfl (hb hby at_246) (by decide) (by decide) kont) ?_
        show G (T40.setTop (mkF m 250 #[.val (.long p1), .second, .val (.int p2), .val (.int p3), .val (.ref b1), .val (.long n), .second, .val (.int (Int32.ofNat d)), .val (.int (1 : Int32)), .unset] [(.int (1 : Int32))]))
        refine go (fun _ kont => XS.istore X40.here hx rfl (hb hby at_250) rfl (l' := #[.val (.long p1), .second, .val (.int p2), .val (.int p3), .val (.ref b1), .val (.long n), .second, .val (.int (Int32.ofNat d)), .val (.int (1 : Int32)), .val (.int (1 : Int32))]) rfl kont) ?_
        show G (T40.setTop (mkF m 252 #[.val (.long p1), .second, .val (.int p2), .val (.int p3), .val (.ref b1), .val (.long n), .second, .val (.int (Int32.ofNat d)), .val (.int (1 : Int32)), .val (.int (1 : Int32))] []))
        refine go (fun _ kont => XS.iload X40.here hx rfl (hb hby at_252) rfl  kont) ?_
        show G (T40.setTop (mkF m 254 #[.val (.long p1), .second, .val (.int p2), .val (.int p3), .val (.ref b1), .val (.long n), .second, .val (.int (Int32.ofNat d)), .val (.int (1 : Int32)), .val (.int (1 : Int32))] [(.int (1 : Int32))]))
        refine go (fun _ kont => XS.ifNo X40.here hx rfl (hb hby at_254) rfl ((if0 _ _).trans (feq (by decide)).1) kont) ?_
        show G (T40.setTop (mkF m 257 #[.val (.long p1), .second, .val (.int p2), .val (.int p3), .val (.ref b1), .val (.long n), .second, .val (.int (Int32.ofNat d)), .val (.int (1 : Int32)), .val (.int (1 : Int32))] []))
        refine go (fun _ kont => XS.iload X40.here hx rfl (hb hby at_257) rfl  kont) ?_
        show G (T40.setTop (mkF m 259 #[.val (.long p1), .second, .val (.int p2), .val (.int p3), .val (.ref b1), .val (.long n), .second, .val (.int (Int32.ofNat d)), .val (.int (1 : Int32)), .val (.int (1 : Int32))] [(.int (1 : Int32))]))
        refine go (fun _ kont => XS.ifNo X40.here hx rfl (hb hby at_259) rfl ((if0 _ _).trans (feq (by decide)).1) kont) ?_
        show G (T40.setTop (mkF m 262 #[.val (.long p1), .second, .val (.int p2), .val (.int p3), .val (.ref b1), .val (.long n), .second, .val (.int (Int32.ofNat d)), .val (.int (1 : Int32)), .val (.int (1 : Int32))] []))
        refine go (fun _ kont => XS.iconst X40.here hx rfl (hb hby at_262) kont) ?_
        show G (T40.setTop (mkF m 263 #[.val (.long p1), .second, .val (.int p2), .val (.int p3), .val (.ref b1), .val (.long n), .second, .val (.int (Int32.ofNat d)), .val (.int (1 : Int32)), .val (.int (1 : Int32))] [(.int (1 : Int32))]))
        refine go (fun _ kont => XS.goto X40.here hx rfl (pc0 := 263) (pc' := 267) rfl (hb hby at_263) (by decide) (by decide) kont) ?_
        show G (T40.setTop (mkF m 267 #[.val (.long p1), .second, .val (.int p2), .val (.int p3), .val (.ref b1), .val (.long n), .second, .val (.int (Int32.ofNat d)), .val (.int (1 : Int32)), .val (.int (1 : Int32))] [(.int (1 : Int32))]))
        rw [hG]
        exact own_retN X40 hx (t := .boolean) Bd.returns (by simp) (hb hby at_267) hlk (by decide) (by decide) ⟨rfl, N40⟩
      · refine go (fun _ kont => XS.icmpNo X40.here hx rfl (hb hby at_231) rfl (feq hc231).1 kont) ?_
        show G (T40.setTop (mkF m 234 #[.val (.long p1), .second, .val (.int p2), .val (.int p3), .val (.ref b1), .val (.long n), .second, .val (.int (Int32.ofNat d)), .val (.int (1 : Int32)), .unset] []))
        have hne19 : d ≠ 19 := fun q => hc231 (by rw [q]; rfl)
        refine go (fun _ kont => XS.lload X40.here hx rfl (hb hby at_234) rfl  kont) ?_
        show G (T40.setTop (mkF m 236 #[.val (.long p1), .second, .val (.int p2), .val (.int p3), .val (.ref b1), .val (.long n), .second, .val (.int (Int32.ofNat d)), .val (.int (1 : Int32)), .unset] [(.long n)]))
        refine go (fun _ kont => XS.aload X40.here hx rfl (hb hby at_236) rfl rfl kont) ?_
        show G (T40.setTop (mkF m 238 #[.val (.long p1), .second, .val (.int p2), .val (.int p3), .val (.ref b1), .val (.long n), .second, .val (.int (Int32.ofNat d)), .val (.int (1 : Int32)), .unset] [(.ref b1), (.long n)]))
        refine go (fun _ kont => XS.iload X40.here hx rfl (hb hby at_238) rfl  kont) ?_
        show G (T40.setTop (mkF m 240 #[.val (.long p1), .second, .val (.int p2), .val (.int p3), .val (.ref b1), .val (.long n), .second, .val (.int (Int32.ofNat d)), .val (.int (1 : Int32)), .unset] [(.int (Int32.ofNat d)), (.ref b1), (.long n)]))
        obtain ⟨cl, Ar, Sl, Ml⟩ := id VL
        refine go (fun _ kont => X40.laload hx (j := (Int32.ofNat d)) (v := (.long (own_L.getD (d) 0))) (by rw [e40]; exact Ar.1) (State.isArrayOf_alike hZ.alike Ar.2.1) Ar.2.2 (own_hink Sl (k := d) (by exact own_neg (by rw [own_ofN (by omega)]; omega)) (by exact own_tnO (by omega)) (by show d < 19; omega)) (own_hatk Sl (by exact own_tnO (by omega)) (own_Lat (k := d) (by omega))) (g := (mkF m 240 #[.val (.long p1), .second, .val (.int p2), .val (.int p3), .val (.ref b1), .val (.long n), .second, .val (.int (Int32.ofNat d)), .val (.int (1 : Int32)), .unset] [(.int (Int32.ofNat d)), (.ref b1), (.long n)])) rfl rfl (hb hby at_240) _ kont) ?_
        show G (T40.setTop (mkF m 241 #[.val (.long p1), .second, .val (.int p2), .val (.int p3), .val (.ref b1), .val (.long n), .second, .val (.int (Int32.ofNat d)), .val (.int (1 : Int32)), .unset] [(.long (own_L.getD (d) 0)), (.long n)]))
        refine go (fun _ kont => XS.lcmp X40.here hx rfl (hb hby at_241) rfl kont) ?_
        show G (T40.setTop (mkF m 242 #[.val (.long p1), .second, .val (.int p2), .val (.int p3), .val (.ref b1), .val (.long n), .second, .val (.int (Int32.ofNat d)), .val (.int (1 : Int32)), .unset] [(.int (lcmpW n (own_L.getD (d) 0)))]))
        refine go (fun _ kont => XS.ifNo X40.here hx rfl (hb hby at_242) rfl ((if0 _ _).trans (tlt ((lw_lt _ _).mpr (by rw [own_LP hd1]; exact hhi.resolve_left hne19))).2.1) kont) ?_
        show G (T40.setTop (mkF m 245 #[.val (.long p1), .second, .val (.int p2), .val (.int p3), .val (.ref b1), .val (.long n), .second, .val (.int (Int32.ofNat d)), .val (.int (1 : Int32)), .unset] []))
        refine go (fun _ kont => XS.iconst X40.here hx rfl (hb hby at_245) kont) ?_
        show G (T40.setTop (mkF m 246 #[.val (.long p1), .second, .val (.int p2), .val (.int p3), .val (.ref b1), .val (.long n), .second, .val (.int (Int32.ofNat d)), .val (.int (1 : Int32)), .unset] [(.int (1 : Int32))]))
        refine go (fun _ kont => XS.goto X40.here hx rfl (pc0 := 246) (pc' := 250) rfl (hb hby at_246) (by decide) (by decide) kont) ?_
        show G (T40.setTop (mkF m 250 #[.val (.long p1), .second, .val (.int p2), .val (.int p3), .val (.ref b1), .val (.long n), .second, .val (.int (Int32.ofNat d)), .val (.int (1 : Int32)), .unset] [(.int (1 : Int32))]))
        refine go (fun _ kont => XS.istore X40.here hx rfl (hb hby at_250) rfl (l' := #[.val (.long p1), .second, .val (.int p2), .val (.int p3), .val (.ref b1), .val (.long n), .second, .val (.int (Int32.ofNat d)), .val (.int (1 : Int32)), .val (.int (1 : Int32))]) rfl kont) ?_
        show G (T40.setTop (mkF m 252 #[.val (.long p1), .second, .val (.int p2), .val (.int p3), .val (.ref b1), .val (.long n), .second, .val (.int (Int32.ofNat d)), .val (.int (1 : Int32)), .val (.int (1 : Int32))] []))
        refine go (fun _ kont => XS.iload X40.here hx rfl (hb hby at_252) rfl  kont) ?_
        show G (T40.setTop (mkF m 254 #[.val (.long p1), .second, .val (.int p2), .val (.int p3), .val (.ref b1), .val (.long n), .second, .val (.int (Int32.ofNat d)), .val (.int (1 : Int32)), .val (.int (1 : Int32))] [(.int (1 : Int32))]))
        refine go (fun _ kont => XS.ifNo X40.here hx rfl (hb hby at_254) rfl ((if0 _ _).trans (feq (by decide)).1) kont) ?_
        show G (T40.setTop (mkF m 257 #[.val (.long p1), .second, .val (.int p2), .val (.int p3), .val (.ref b1), .val (.long n), .second, .val (.int (Int32.ofNat d)), .val (.int (1 : Int32)), .val (.int (1 : Int32))] []))
        refine go (fun _ kont => XS.iload X40.here hx rfl (hb hby at_257) rfl  kont) ?_
        show G (T40.setTop (mkF m 259 #[.val (.long p1), .second, .val (.int p2), .val (.int p3), .val (.ref b1), .val (.long n), .second, .val (.int (Int32.ofNat d)), .val (.int (1 : Int32)), .val (.int (1 : Int32))] [(.int (1 : Int32))]))
        refine go (fun _ kont => XS.ifNo X40.here hx rfl (hb hby at_259) rfl ((if0 _ _).trans (feq (by decide)).1) kont) ?_
        show G (T40.setTop (mkF m 262 #[.val (.long p1), .second, .val (.int p2), .val (.int p3), .val (.ref b1), .val (.long n), .second, .val (.int (Int32.ofNat d)), .val (.int (1 : Int32)), .val (.int (1 : Int32))] []))
        refine go (fun _ kont => XS.iconst X40.here hx rfl (hb hby at_262) kont) ?_
        show G (T40.setTop (mkF m 263 #[.val (.long p1), .second, .val (.int p2), .val (.int p3), .val (.ref b1), .val (.long n), .second, .val (.int (Int32.ofNat d)), .val (.int (1 : Int32)), .val (.int (1 : Int32))] [(.int (1 : Int32))]))
        refine go (fun _ kont => XS.goto X40.here hx rfl (pc0 := 263) (pc' := 267) rfl (hb hby at_263) (by decide) (by decide) kont) ?_
        show G (T40.setTop (mkF m 267 #[.val (.long p1), .second, .val (.int p2), .val (.int p3), .val (.ref b1), .val (.long n), .second, .val (.int (Int32.ofNat d)), .val (.int (1 : Int32)), .val (.int (1 : Int32))] [(.int (1 : Int32))]))
        rw [hG]
        exact own_retN X40 hx (t := .boolean) Bd.returns (by simp) (hb hby at_267) hlk (by decide) (by decide) ⟨rfl, N40⟩
  refine go (fun _ kont => XS.astore X39.here hx rfl (hb hby at_129) rfl rfl (l' := #[.val (.long p1), .second, .val (.int p2), .val (.int p3), .val (.ref b1), .unset, .unset, .unset, .unset, .unset]) rfl kont) ?_
  show G (T39.setTop (mkF m 131 #[.val (.long p1), .second, .val (.int p2), .val (.int p3), .val (.ref b1), .unset, .unset, .unset, .unset, .unset] []))
  refine go (fun _ kont => XS.iloadN X39.here hx rfl (hb hby at_131) rfl  kont) ?_
  show G (T39.setTop (mkF m 132 #[.val (.long p1), .second, .val (.int p2), .val (.int p3), .val (.ref b1), .unset, .unset, .unset, .unset, .unset] [(.int p3)]))
  refine go (fun _ kont => XS.iconst X39.here hx rfl (hb hby at_132) kont) ?_
  show G (T39.setTop (mkF m 133 #[.val (.long p1), .second, .val (.int p2), .val (.int p3), .val (.ref b1), .unset, .unset, .unset, .unset, .unset] [(.int (1 : Int32)), (.int p3)]))
  refine go (fun _ kont => XS.iand X39.here hx rfl (hb hby at_133) rfl kont) ?_
  show G (T39.setTop (mkF m 134 #[.val (.long p1), .second, .val (.int p2), .val (.int p3), .val (.ref b1), .unset, .unset, .unset, .unset, .unset] [(.int (p3 &&& (1 : Int32)))]))
  by_cases hc134 : (p3 &&& (1 : Int32)) = (0 : Int32)
  · refine go (fun _ kont => XS.ifNo X39.here hx rfl (hb hby at_134) rfl ((if0 _ _).trans (teq hc134).2) kont) ?_
    show G (T39.setTop (mkF m 137 #[.val (.long p1), .second, .val (.int p2), .val (.int p3), .val (.ref b1), .unset, .unset, .unset, .unset, .unset] []))
    refine go (fun _ kont => XS.lloadN X39.here hx rfl (hb hby at_137) rfl  kont) ?_
    show G (T39.setTop (mkF m 138 #[.val (.long p1), .second, .val (.int p2), .val (.int p3), .val (.ref b1), .unset, .unset, .unset, .unset, .unset] [(.long p1)]))
    refine go (fun _ kont => X39.ldc2Long hx hown (mvT hZ (hw _ (List.mem_of_getElem? (i := 26) rfl))) (g := (mkF m 138 #[.val (.long p1), .second, .val (.int p2), .val (.int p3), .val (.ref b1), .unset, .unset, .unset, .unset, .unset] [(.long p1)])) rfl (hb hby at_138) _ kont) ?_
    show G (T39.setTop (mkF m 141 #[.val (.long p1), .second, .val (.int p2), .val (.int p3), .val (.ref b1), .unset, .unset, .unset, .unset, .unset] [(.long (9223372036854775807 : Int64)), (.long p1)]))
    refine go (fun _ kont => XS.land X39.here hx rfl (hb hby at_141) rfl kont) ?_
    show G (T39.setTop (mkF m 142 #[.val (.long p1), .second, .val (.int p2), .val (.int p3), .val (.ref b1), .unset, .unset, .unset, .unset, .unset] [(.long (p1 &&& (9223372036854775807 : Int64)))]))
    refine go (fun _ kont => XS.lstore X39.here hx rfl (hb hby at_142) rfl (l' := #[.val (.long p1), .second, .val (.int p2), .val (.int p3), .val (.ref b1), .val (.long (p1 &&& (9223372036854775807 : Int64))), .second, .unset, .unset, .unset]) rfl kont) ?_
    show G (T39.setTop (mkF m 144 #[.val (.long p1), .second, .val (.int p2), .val (.int p3), .val (.ref b1), .val (.long (p1 &&& (9223372036854775807 : Int64))), .second, .unset, .unset, .unset] []))
    refine go (fun _ kont => XS.goto X39.here hx rfl (pc0 := 144) (pc' := 179) rfl (hb hby at_144) (by decide) (by decide) kont) ?_
    show G (T39.setTop (mkF m 179 #[.val (.long p1), .second, .val (.int p2), .val (.int p3), .val (.ref b1), .val (.long (p1 &&& (9223372036854775807 : Int64))), .second, .unset, .unset, .unset] []))
    exact rest _ _ _ One.u One.u _ _ N39 X39 e39
  · refine go (fun _ kont => XS.ifYes X39.here hx rfl (pc0 := 134) (pc' := 147) rfl (hb hby at_134) rfl ((if0 _ _).trans (feq hc134).2) (by decide) (by decide) kont) ?_
    show G (T39.setTop (mkF m 147 #[.val (.long p1), .second, .val (.int p2), .val (.int p3), .val (.ref b1), .unset, .unset, .unset, .unset, .unset] []))
    refine go (fun _ kont => XS.iloadN X39.here hx rfl (hb hby at_147) rfl  kont) ?_
    show G (T39.setTop (mkF m 148 #[.val (.long p1), .second, .val (.int p2), .val (.int p3), .val (.ref b1), .unset, .unset, .unset, .unset, .unset] [(.int p2)]))
    refine go (fun _ kont => X39.ldcInt hx hown (mvT hZ (hw _ (List.mem_of_getElem? (i := 19) rfl))) (g := (mkF m 148 #[.val (.long p1), .second, .val (.int p2), .val (.int p3), .val (.ref b1), .unset, .unset, .unset, .unset, .unset] [(.int p2)])) rfl (hb hby at_148) _ kont) ?_
    show G (T39.setTop (mkF m 150 #[.val (.long p1), .second, .val (.int p2), .val (.int p3), .val (.ref b1), .unset, .unset, .unset, .unset, .unset] [(.int (2147483647 : Int32)), (.int p2)]))
    refine go (fun _ kont => XS.iand X39.here hx rfl (hb hby at_150) rfl kont) ?_
    show G (T39.setTop (mkF m 151 #[.val (.long p1), .second, .val (.int p2), .val (.int p3), .val (.ref b1), .unset, .unset, .unset, .unset, .unset] [(.int (p2 &&& (2147483647 : Int32)))]))
    refine go (fun _ kont => XS.bipush X39.here hx rfl (hb hby at_151) kont) ?_
    show G (T39.setTop (mkF m 153 #[.val (.long p1), .second, .val (.int p2), .val (.int p3), .val (.ref b1), .unset, .unset, .unset, .unset, .unset] [(.int (19 : Int32)), (.int (p2 &&& (2147483647 : Int32)))]))
    refine go (fun _ kont => XS.irem X39.here hx rfl (hb hby at_153) rfl (by decide) kont) ?_
    show G (T39.setTop (mkF m 154 #[.val (.long p1), .second, .val (.int p2), .val (.int p3), .val (.ref b1), .unset, .unset, .unset, .unset, .unset] [(.int ((p2 &&& (2147483647 : Int32)) - ((p2 &&& (2147483647 : Int32)) / (19 : Int32)) * (19 : Int32)))]))
    generalize hi7 : ((p2 &&& (2147483647 : Int32)) - ((p2 &&& (2147483647 : Int32)) / (19 : Int32)) * (19 : Int32)) = idx
    have hidx : 0 ≤ idx.toInt ∧ idx.toInt < ((19 : Nat) : Int) := by rw [← hi7]; exact own_idx p2 (19 : Int32) 19 (by decide) (by decide)
    refine go (fun _ kont => XS.istore X39.here hx rfl (hb hby at_154) rfl (l' := #[.val (.long p1), .second, .val (.int p2), .val (.int p3), .val (.ref b1), .unset, .unset, .val (.int idx), .unset, .unset]) rfl kont) ?_
    show G (T39.setTop (mkF m 156 #[.val (.long p1), .second, .val (.int p2), .val (.int p3), .val (.ref b1), .unset, .unset, .val (.int idx), .unset, .unset] []))
    refine go (fun _ kont => XS.iloadN X39.here hx rfl (hb hby at_156) rfl  kont) ?_
    show G (T39.setTop (mkF m 157 #[.val (.long p1), .second, .val (.int p2), .val (.int p3), .val (.ref b1), .unset, .unset, .val (.int idx), .unset, .unset] [(.int p3)]))
    refine go (fun _ kont => XS.iconst X39.here hx rfl (hb hby at_157) kont) ?_
    show G (T39.setTop (mkF m 158 #[.val (.long p1), .second, .val (.int p2), .val (.int p3), .val (.ref b1), .unset, .unset, .val (.int idx), .unset, .unset] [(.int (1 : Int32)), (.int p3)]))
    refine go (fun _ kont => XS.iushr X39.here hx rfl (hb hby at_158) rfl kont) ?_
    show G (T39.setTop (mkF m 159 #[.val (.long p1), .second, .val (.int p2), .val (.int p3), .val (.ref b1), .unset, .unset, .val (.int idx), .unset, .unset] [(.int ((p3.toUInt32 >>> ((1 : Int32) &&& 31).toUInt32).toInt32))]))
    refine go (fun _ kont => X39.ldcInt hx hown (mvT hZ (hw _ (List.mem_of_getElem? (i := 19) rfl))) (g := (mkF m 159 #[.val (.long p1), .second, .val (.int p2), .val (.int p3), .val (.ref b1), .unset, .unset, .val (.int idx), .unset, .unset] [(.int ((p3.toUInt32 >>> ((1 : Int32) &&& 31).toUInt32).toInt32))])) rfl (hb hby at_159) _ kont) ?_
    show G (T39.setTop (mkF m 161 #[.val (.long p1), .second, .val (.int p2), .val (.int p3), .val (.ref b1), .unset, .unset, .val (.int idx), .unset, .unset] [(.int (2147483647 : Int32)), (.int ((p3.toUInt32 >>> ((1 : Int32) &&& 31).toUInt32).toInt32))]))
    refine go (fun _ kont => XS.iand X39.here hx rfl (hb hby at_161) rfl kont) ?_
    show G (T39.setTop (mkF m 162 #[.val (.long p1), .second, .val (.int p2), .val (.int p3), .val (.ref b1), .unset, .unset, .val (.int idx), .unset, .unset] [(.int (((p3.toUInt32 >>> ((1 : Int32) &&& 31).toUInt32).toInt32) &&& (2147483647 : Int32)))]))
    refine go (fun _ kont => XS.iconst X39.here hx rfl (hb hby at_162) kont) ?_
    show G (T39.setTop (mkF m 163 #[.val (.long p1), .second, .val (.int p2), .val (.int p3), .val (.ref b1), .unset, .unset, .val (.int idx), .unset, .unset] [(.int (3 : Int32)), (.int (((p3.toUInt32 >>> ((1 : Int32) &&& 31).toUInt32).toInt32) &&& (2147483647 : Int32)))]))
    refine go (fun _ kont => XS.irem X39.here hx rfl (hb hby at_163) rfl (by decide) kont) ?_
    show G (T39.setTop (mkF m 164 #[.val (.long p1), .second, .val (.int p2), .val (.int p3), .val (.ref b1), .unset, .unset, .val (.int idx), .unset, .unset] [(.int ((((p3.toUInt32 >>> ((1 : Int32) &&& 31).toUInt32).toInt32) &&& (2147483647 : Int32)) - ((((p3.toUInt32 >>> ((1 : Int32) &&& 31).toUInt32).toInt32) &&& (2147483647 : Int32)) / (3 : Int32)) * (3 : Int32)))]))
    refine go (fun _ kont => XS.iconst X39.here hx rfl (hb hby at_164) kont) ?_
    show G (T39.setTop (mkF m 165 #[.val (.long p1), .second, .val (.int p2), .val (.int p3), .val (.ref b1), .unset, .unset, .val (.int idx), .unset, .unset] [(.int (1 : Int32)), (.int ((((p3.toUInt32 >>> ((1 : Int32) &&& 31).toUInt32).toInt32) &&& (2147483647 : Int32)) - ((((p3.toUInt32 >>> ((1 : Int32) &&& 31).toUInt32).toInt32) &&& (2147483647 : Int32)) / (3 : Int32)) * (3 : Int32)))]))
    refine go (fun _ kont => XS.isub X39.here hx rfl (hb hby at_165) rfl kont) ?_
    show G (T39.setTop (mkF m 166 #[.val (.long p1), .second, .val (.int p2), .val (.int p3), .val (.ref b1), .unset, .unset, .val (.int idx), .unset, .unset] [(.int (((((p3.toUInt32 >>> ((1 : Int32) &&& 31).toUInt32).toInt32) &&& (2147483647 : Int32)) - ((((p3.toUInt32 >>> ((1 : Int32) &&& 31).toUInt32).toInt32) &&& (2147483647 : Int32)) / (3 : Int32)) * (3 : Int32)) - (1 : Int32)))]))
    generalize hi8 : (((((p3.toUInt32 >>> ((1 : Int32) &&& 31).toUInt32).toInt32) &&& (2147483647 : Int32)) - ((((p3.toUInt32 >>> ((1 : Int32) &&& 31).toUInt32).toInt32) &&& (2147483647 : Int32)) / (3 : Int32)) * (3 : Int32)) - (1 : Int32)) = off
    refine go (fun _ kont => XS.istore X39.here hx rfl (hb hby at_166) rfl (l' := #[.val (.long p1), .second, .val (.int p2), .val (.int p3), .val (.ref b1), .unset, .unset, .val (.int idx), .val (.int off), .unset]) rfl kont) ?_
    show G (T39.setTop (mkF m 168 #[.val (.long p1), .second, .val (.int p2), .val (.int p3), .val (.ref b1), .unset, .unset, .val (.int idx), .val (.int off), .unset] []))
    refine go (fun _ kont => XS.aload X39.here hx rfl (hb hby at_168) rfl rfl kont) ?_
    show G (T39.setTop (mkF m 170 #[.val (.long p1), .second, .val (.int p2), .val (.int p3), .val (.ref b1), .unset, .unset, .val (.int idx), .val (.int off), .unset] [(.ref b1)]))
    refine go (fun _ kont => XS.iload X39.here hx rfl (hb hby at_170) rfl  kont) ?_
    show G (T39.setTop (mkF m 172 #[.val (.long p1), .second, .val (.int p2), .val (.int p3), .val (.ref b1), .unset, .unset, .val (.int idx), .val (.int off), .unset] [(.int idx), (.ref b1)]))
    obtain ⟨cl, Ar, Sl, Ml⟩ := id VL
    refine go (fun _ kont => X39.laload hx (j := idx) (v := (.long (own_L.getD (idx).toNatClampNeg 0))) (by rw [e39]; exact Ar.1) (State.isArrayOf_alike hZ.alike Ar.2.1) Ar.2.2 (own_hin Sl hidx.1 (by show _ < ((19 : Nat) : Int); exact hidx.2)) (own_hatJ Sl hidx.1 (by show _ < ((19 : Nat) : Int); exact hidx.2)) (g := (mkF m 172 #[.val (.long p1), .second, .val (.int p2), .val (.int p3), .val (.ref b1), .unset, .unset, .val (.int idx), .val (.int off), .unset] [(.int idx), (.ref b1)])) rfl rfl (hb hby at_172) _ kont) ?_
    show G (T39.setTop (mkF m 173 #[.val (.long p1), .second, .val (.int p2), .val (.int p3), .val (.ref b1), .unset, .unset, .val (.int idx), .val (.int off), .unset] [(.long (own_L.getD (idx).toNatClampNeg 0))]))
    refine go (fun _ kont => XS.iload X39.here hx rfl (hb hby at_173) rfl  kont) ?_
    show G (T39.setTop (mkF m 175 #[.val (.long p1), .second, .val (.int p2), .val (.int p3), .val (.ref b1), .unset, .unset, .val (.int idx), .val (.int off), .unset] [(.int off), (.long (own_L.getD (idx).toNatClampNeg 0))]))
    refine go (fun _ kont => XS.i2l X39.here hx rfl (hb hby at_175) rfl kont) ?_
    show G (T39.setTop (mkF m 176 #[.val (.long p1), .second, .val (.int p2), .val (.int p3), .val (.ref b1), .unset, .unset, .val (.int idx), .val (.int off), .unset] [(.long off.toInt64), (.long (own_L.getD (idx).toNatClampNeg 0))]))
    refine go (fun _ kont => XS.ladd X39.here hx rfl (hb hby at_176) rfl kont) ?_
    show G (T39.setTop (mkF m 177 #[.val (.long p1), .second, .val (.int p2), .val (.int p3), .val (.ref b1), .unset, .unset, .val (.int idx), .val (.int off), .unset] [(.long ((own_L.getD (idx).toNatClampNeg 0) + off.toInt64))]))
    generalize hn5 : ((own_L.getD (idx).toNatClampNeg 0) + off.toInt64) = n
    refine go (fun _ kont => XS.lstore X39.here hx rfl (hb hby at_177) rfl (l' := #[.val (.long p1), .second, .val (.int p2), .val (.int p3), .val (.ref b1), .val (.long n), .second, .val (.int idx), .val (.int off), .unset]) rfl kont) ?_
    show G (T39.setTop (mkF m 179 #[.val (.long p1), .second, .val (.int p2), .val (.int p3), .val (.ref b1), .val (.long n), .second, .val (.int idx), .val (.int off), .unset] []))
    exact rest _ _ _ (One.val rfl) (One.val rfl) _ _ N39 X39 e39
set_option maxRecDepth 65536 in
set_option maxHeartbeats 40000000 in
theorem comes_1 {Post : Tables → Env → Array Value → State → Outcome → State → Prop} (hpost : ∀ tb e args s v u, (limb_1_1.after args s (.returned v) u = true ∧ limb_1_2.after args s (.returned v) u = true ∧ True) → FrameEnd s (.returned v) u (Jvm.fieldLocs frame_1_writes args s ++ Jvm.arrayLocs frame_1_arrays args s ++ Jvm.staticLocs frame_1_statics s) 16 128 → Post tb e args s (.returned v) u) :
    ArmFor flags0 classFile x code maxLocals ret World_1 tables_1 room_1 Calls_1 rest_1 Pre_1 Post := by
  intro l hfl _ _ p e ha hc hk s m args below hf hA hF happ hP
  obtain ⟨hcalls, hrest, hpre⟩ := hP
  obtain ⟨-, -, -, hnamed, -, -, -, hat⟩ := (Spec.applies_iff hf).mp happ
  obtain ⟨hg, hn⟩ := and_e (Cond.before_iff.mp (show (Jvm.Cond.and given_1 narrow_1).before args s = true from hpre))
  obtain ⟨hcnt, ha0⟩ := and_e hg
  obtain ⟨hk0, ha1⟩ := and_e ha0
  obtain ⟨hk1, ha2⟩ := and_e ha1
  have hk2 := ha2
  obtain ⟨w0, w1, w2, rfl⟩ : ∃ w0 w1 w2 : Value, args = #[w0, w1, w2] := by
    have hs : args.size = 3 := by simpa [Cond.value, given_1] using hcnt
    obtain ⟨L⟩ := args
    match L, hs with
    | [w0, w1, w2], _ => exact ⟨w0, w1, w2, rfl⟩
  have hw := fun d (hd : d ∈ tables_1) => atoms_spec (ws := Jvm.Cond.code x code maxLocals ret :: tables_1) hat d (List.mem_cons_of_mem _ hd)
  have hfit : Fit s := fun {y c} hc i hi => by
    obtain ⟨ha, rfl⟩ := Array.getElem?_eq_some_iff.mp hc
    have q := List.all_eq_true.mp ((Array.all_eq_true_iff_forall_mem.mp hF) _ (Array.getElem_mem ha)) i (List.mem_range.mpr hi)
    simpa [Array.getElem?_eq_getElem hi] using q
  obtain ⟨i0, ei0⟩ := isL_v hk0
  obtain rfl : w0 = (.long i0) := Option.some.inj ei0
  obtain ⟨i1, ei1⟩ := is_v hk1
  obtain rfl : w1 = (.int i1) := Option.some.inj ei1
  obtain ⟨i2, ei2⟩ := is_v hk2
  obtain rfl : w2 = (.int i2) := Option.some.inj ei2
  obtain ⟨q0, r0⟩ := and_e hn
  obtain ⟨q1, r1⟩ := and_e r0
  obtain ⟨q2, r2⟩ := and_e r1
  obtain ⟨q3, r3⟩ := and_e r2
  obtain ⟨q4, r4⟩ := and_e r3
  obtain ⟨q5, r5⟩ := and_e r4
  obtain ⟨q6, r6⟩ := and_e r5
  obtain ⟨q7, r7⟩ := and_e r6
  obtain ⟨q8, r8⟩ := and_e r7
  obtain ⟨q9, r9⟩ := and_e r8
  obtain ⟨q10, r10⟩ := and_e r9
  obtain ⟨q11, r11⟩ := and_e r10
  obtain ⟨q12, r12⟩ := and_e r11
  obtain ⟨q13, r13⟩ := and_e r12
  obtain ⟨q14, r14⟩ := and_e r13
  obtain ⟨q15, r15⟩ := and_e r14
  obtain ⟨q16, r16⟩ := and_e r15
  obtain ⟨q17, r17⟩ := and_e r16
  obtain ⟨q18, r18⟩ := and_e r17
  have q19 := r18
  obtain ⟨pw, ev⟩ := arr_v q0
  obtain ⟨cl, Ar⟩ := Arr.start ev q0
  have S : Sta s s.heap "com/example/reckoner/reckoner/core/Digits" "POWERS" "[J" (.ref pw) := Sta.start ev (Or.inr ⟨(hw _ (List.mem_of_getElem? (i := 22) rfl)), (hw _ (List.mem_of_getElem? (i := 25) rfl))⟩)
  have V : own_V s s.heap pw .long (own_P.map Value.long) := own_V_static ev Ar hfit q1 (by decide) (fun k hk => by
    have hk' : k < 18 := hk
    match k, hk' with
    | 0, _ => exact own_elemL ev Ar q2
    | 1, _ => exact own_elemL ev Ar q3
    | 2, _ => exact own_elemL ev Ar q4
    | 3, _ => exact own_elemL ev Ar q5
    | 4, _ => exact own_elemL ev Ar q6
    | 5, _ => exact own_elemL ev Ar q7
    | 6, _ => exact own_elemL ev Ar q8
    | 7, _ => exact own_elemL ev Ar q9
    | 8, _ => exact own_elemL ev Ar q10
    | 9, _ => exact own_elemL ev Ar q11
    | 10, _ => exact own_elemL ev Ar q12
    | 11, _ => exact own_elemL ev Ar q13
    | 12, _ => exact own_elemL ev Ar q14
    | 13, _ => exact own_elemL ev Ar q15
    | 14, _ => exact own_elemL ev Ar q16
    | 15, _ => exact own_elemL ev Ar q17
    | 16, _ => exact own_elemL ev Ar q18
    | 17, _ => exact own_elemL ev Ar q19
    | n + 18, q => exact absurd q (by omega))
  obtain ⟨n, o, h1, h2, h3, _, L, rfl, ⟨rfl, N⟩, hq⟩ := own_rm_law l s _ hw tables_1 i0 i1 i2 s.heap s.heap.size (Nat.le_refl _) pw S V p e ha hc hk s m _ below hf ((Spec.applies_iff_loose hf).mp happ).1 ⟨rfl, State.Warmed39.refl s, rfl⟩ trivial
  refine ⟨n, _, h1, h2, h3, hpost _ _ _ _ _ _ ⟨Cond.after_iff.mpr rfl, Cond.after_iff.mpr (eq_i res_at (Term.int_eval (1)) rfl), trivial⟩ ⟨hq.1, hq.2.1, (hq.2.2.sift fun y hy => Or.inr (N y hy)).mono (by decide) (by decide)⟩⟩
theorem main_1_1 : Claimed_1_1 := comes_1 fun _ _ _ _ _ _ h hF => ⟨h.1, hF⟩
theorem main_1_2 : Claimed_1_2 := comes_1 fun _ _ _ _ _ _ h hF => ⟨h.2.1, hF⟩
end Jvm.Pilot.@@N@@
namespace Jvm.Pilot.@@N@@
open Jvm Jvm.ClassFile Sem Op Lib Jvm.Free Jvm.Stand Jvm.Pilot.@@N@@.Jvm.D
/-! MADE BY PROGRAM (witnessworld.py) out of the Statement's table words and the real class files: 11 classes; the members and pool entries that the words name. The judged class is class 1, her method 1. -/
namespace start1
open Jvm.ClassFile
def u (s : String) : CpInfo := .utf8 (stringToUtf16 s)
/-- a pool by its gaps: so many unusable entries, then the entry; so many at the end -/
def gap : Nat → List CpInfo → List CpInfo
  | 0, r => r
  | n + 1, r => .unusable :: gap n r
def poolList (es : List (Nat × CpInfo)) (last : Nat) : List CpInfo := es.foldr (fun e r => gap e.1 (e.2 :: r)) (gap last [])
def pool (es : List (Nat × CpInfo)) (last : Nat) : Array CpInfo := ⟨poolList es last⟩
def fileOf (pool : Array CpInfo) (this : Nat) (attrs : Array Attribute := #[]) (ms : Array MethodInfo := #[]) (fl : Nat := 33) (sup : Nat := 0) (ifs : Array Nat := #[]) (fds : Array FieldInfo := #[]) : ClassFile where
  minorVersion := 0
  majorVersion := 65
  constantPool := pool
  accessFlags := fl
  thisClass := this
  superClass := sup
  interfaces := ifs
  fields := fds
  methods := ms
  attributes := attrs
def plain (name : String) (sup : Option ClassId) : Class where
  name := name
  kind := .ordinary
  loader := none
  accessFlags := 33
  super := sup
  interfaces := #[]
  cf := none
  fields := #[]
  methods := #[]
  instanceTypes := #[]
  staticTypes := #[]
  resolved := #[]
  callSites := []
  init := .initialized
  statics := none
  mirror := none

def pool0 : Array CpInfo := pool [(5, u "<init>"), (0, u "()V"), (1, .class_ 10), (1, u "java/lang/Object")] 113

def k0m0 : Method := { name := "<init>", desc := "()V", sig := { parameters := [], returnType := none }, accessFlags := 1, code := none }
/-- java/lang/Object -/
def k0 : Class := { plain "java/lang/Object" none with
  accessFlags := 33
  interfaces := #[]
  cf := some (fileOf pool0 8 #[] #[{ accessFlags := 1, nameIndex := 5, descriptorIndex := 6, attributes := #[] }] 33 0 #[] #[])
  fields := #[]
  methods := #[k0m0]
  instanceTypes := #[]
  staticTypes := #[]
  resolved := Array.replicate 124 none
  statics := none }

def pool1 : Array CpInfo := pool [(2, .class_ 4), (1, u "java/lang/Object"), (0, u "<init>"), (0, u "()V"), (0, .long 10), (1, .long 100), (1, .long 1000), (1, .long 10000), (1, .long 100000), (1, .long 1000000), (1, .long 10000000), (1, .long 100000000), (1, .long 1000000000), (1, .long 10000000000), (1, .long 100000000000), (1, .long 1000000000000), (1, .long 10000000000000), (1, .long 100000000000000), (1, .long 1000000000000000), (1, .long 10000000000000000), (1, .long 100000000000000000), (1, .long 1000000000000000000), (3, .long 9223372036854775807), (1, .integer 2147483647), (0, .methodref 49 50), (0, .class_ 51), (0, .nameAndType 52 53), (0, u "com/example/reckoner/reckoner/core/Digits"), (0, u "count"), (0, u "(J)I"), (0, .class_ 55), (0, u "com/example/reckoner/reckoner/core/DigitsCountPinLaw"), (2, u "law"), (0, u "(JII)Z")] 5

def k1m0 : Method := { name := "<init>", desc := "()V", sig := { parameters := [], returnType := none }, accessFlags := 2, code := none }
def k1c1 : Code := { maxStack := 5, maxLocals := 10, code := code, exceptionTable := #[], attributes := #[] }
def k1m1 : Method := { name := "law", desc := "(JII)Z", sig := { parameters := [.long, .int, .int], returnType := some .boolean }, accessFlags := 9, code := some k1c1 }
/-- com/example/reckoner/reckoner/core/DigitsCountPinLaw -/
def k1 : Class := { plain "com/example/reckoner/reckoner/core/DigitsCountPinLaw" (some 0) with
  accessFlags := 49
  interfaces := #[]
  cf := some (fileOf pool1 54 #[] #[{ accessFlags := 2, nameIndex := 5, descriptorIndex := 6, attributes := #[] }, { accessFlags := 9, nameIndex := 58, descriptorIndex := 59, attributes := #[] }] 49 2 #[] #[])
  fields := #[]
  methods := #[k1m0, k1m1]
  instanceTypes := #[]
  staticTypes := #[]
  resolved := Array.replicate 65 none
  statics := none }

def pool2 : Array CpInfo := pool [(2, .class_ 4), (1, u "java/lang/Object"), (0, u "<init>"), (0, u "()V"), (0, .fieldref 8 9), (0, .class_ 10), (0, .nameAndType 11 12), (0, u "com/example/reckoner/reckoner/core/Digits"), (0, u "POWERS"), (0, u "[J"), (8, u "count"), (0, u "(J)I")] 7

def k2m0 : Method := { name := "<init>", desc := "()V", sig := { parameters := [], returnType := none }, accessFlags := 2, code := none }
def k2c1 : Code := { maxStack := 5, maxLocals := 3, code := prog_23_method_2_code, exceptionTable := #[], attributes := #[] }
def k2m1 : Method := { name := "count", desc := "(J)I", sig := { parameters := [.long], returnType := some .int }, accessFlags := 9, code := some k2c1 }
/-- com/example/reckoner/reckoner/core/Digits -/
def k2 : Class := { plain "com/example/reckoner/reckoner/core/Digits" (some 0) with
  accessFlags := 49
  interfaces := #[]
  cf := some (fileOf pool2 8 #[] #[{ accessFlags := 2, nameIndex := 5, descriptorIndex := 6, attributes := #[] }, { accessFlags := 9, nameIndex := 21, descriptorIndex := 22, attributes := #[] }] 49 2 #[] #[{ accessFlags := 26, nameIndex := 11, descriptorIndex := 12, attributes := #[] }])
  fields := #[{ name := "POWERS", type := (.array .long), accessFlags := 26, slot := 0, constantValue := 0 }]
  methods := #[k2m0, k2m1]
  instanceTypes := #[]
  staticTypes := #[(.array .long)]
  resolved := Array.replicate 30 none
  statics := some 0 }

def pool3 : Array CpInfo := pool [(1, u "java/lang/Cloneable"), (0, .class_ 1), (0, u "java/lang/Object"), (0, .class_ 3)] 3

/-- java/lang/Cloneable -/
def k3 : Class := { plain "java/lang/Cloneable" (some 0) with
  accessFlags := 1537
  interfaces := #[]
  cf := some (fileOf pool3 2 #[] #[] 1537 4 #[] #[])
  fields := #[]
  methods := #[]
  instanceTypes := #[]
  staticTypes := #[]
  resolved := Array.replicate 8 none
  statics := none }

def pool4 : Array CpInfo := pool [(1, u "java/io/Serializable"), (0, .class_ 1), (0, u "java/lang/Object"), (0, .class_ 3)] 3

/-- java/io/Serializable -/
def k4 : Class := { plain "java/io/Serializable" (some 0) with
  accessFlags := 1537
  interfaces := #[]
  cf := some (fileOf pool4 2 #[] #[] 1537 4 #[] #[])
  fields := #[]
  methods := #[]
  instanceTypes := #[]
  staticTypes := #[]
  resolved := Array.replicate 8 none
  statics := none }

/-- the primitive byte -/
def k5 : Class := { plain "byte" none with kind := .primitive 'B', accessFlags := 0x411 }
/-- [B -/
def k6 : Class := { plain "[B" (some 0) with kind := .array 5 .byte, interfaces := #[3, 4], accessFlags := 1041 }

/-- the primitive int -/
def k7 : Class := { plain "int" none with kind := .primitive 'I', accessFlags := 0x411 }
/-- [I -/
def k8 : Class := { plain "[I" (some 0) with kind := .array 7 .int, interfaces := #[3, 4], accessFlags := 1041 }

/-- the primitive long -/
def k9 : Class := { plain "long" none with kind := .primitive 'J', accessFlags := 0x411 }
/-- [J -/
def k10 : Class := { plain "[J" (some 0) with kind := .array 9 .long, interfaces := #[3, 4], accessFlags := 1041 }

def heap : Heap := #[{ cls := 2, slots := #[.ref 1], vm := .statics 2 },
  { cls := 10, slots := #[.long 10, .long 100, .long 1000, .long 10000, .long 100000, .long 1000000, .long 10000000, .long 100000000, .long 1000000000, .long 10000000000, .long 100000000000, .long 1000000000000, .long 10000000000000, .long 100000000000000, .long 1000000000000000, .long 10000000000000000, .long 100000000000000000, .long 1000000000000000000], vm := .none }]
def classes : Array Class := #[k0, k1, k2, k3, k4, k5, k6, k7, k8, k9, k10]
def interned : List (Array UInt16 × Addr) := []
def slotsUsed : Nat := 19
def theMethod : MethodId := ⟨1, 1⟩
def args0 : Array Value := #[.long 5, .int 1, .int 1]
def aboutOver (below : List Frame) : State where
  vm := { classes := classes, interned := interned.toArray }
  heap := heap
  slotsUsed := slotsUsed
  threads := #[{ frames := .invoking theMethod args0 :: below }]
def below0 : List Frame := [.native { method := ⟨0, 0⟩, args := #[] }]
def about1 : State := aboutOver below0
def p0 : Program := .bare "" "" ""
def e0 : Env := launch0.env 0 0 0
theorem w_frames : about1.frames = Frame.invoking theMethod args0 :: below0 := rfl
set_option maxRecDepth 65536 in
theorem w_args : argsFit about1.vm theMethod args0 = true := by decide +kernel
set_option maxRecDepth 65536 in
theorem w_heap : heapFits about1 = true := by decide +kernel
set_option maxRecDepth 65536 in
theorem w_runnable : about1.curStatus? = some .runnable := by decide +kernel
set_option maxRecDepth 65536 in
theorem w_alone : about1.alone = true := by decide +kernel
set_option maxRecDepth 65536 in
theorem w_named : about1.methodNamed? x = some theMethod := by decide +kernel
set_option maxRecDepth 65536 in
theorem w_hears : about1.hears theMethod below0 = true := by decide +kernel
set_option maxRecDepth 65536 in
theorem w_ripe : about1.ripe theMethod args0 below0 = true := by decide +kernel
theorem w_running : about1.status = .running := rfl
set_option maxRecDepth 65536 in
theorem w_room : about1.hasRoom e0.platform room_1 = true :=
  launch0.hasRoom_least _ room_1 (by decide +kernel) (by decide +kernel) (by decide +kernel) (by decide +kernel) (by decide +kernel) (by decide +kernel)
theorem allAtoms_all (ts : List Jvm.Cond) (a : Array Jvm.Value) (st : Jvm.State) : (allAtoms ts).before a st = ts.all (fun c => c.before a st) := by
  induction ts with
  | nil => rfl
  | cons c t ih =>
    show (Jvm.Cond.and c (allAtoms t)).before a st = _
    rw [Jvm.Cond.before_and, ih, List.all_cons]
def words1 : List Jvm.Cond := Jvm.Cond.code x code maxLocals ret :: tables_1
/-- a 'code' word, met by the world's own term for the bytes: nothing is compared byte by byte -/
theorem code_word {y : MethodName} {bytes : ByteArray} {mx : Nat} {rt : Option FieldType} {a : Array Value} {s : State} {m : MethodId} {meth : Method} {c : Code} (h1 : s.methodNamed? y = some m) (h2 : s.vm.method? m = some meth) (h3 : meth.code = some c) (h4 : c.code = bytes)
    (h5 : (c.maxLocals == mx && c.exceptionTable.isEmpty && decide (c.maxStack ≤ mostOperands) && decide (meth.sig.returnType = rt) && !meth.locks && decide (parseMethodDescriptor y.desc = some meth.sig)) = true) : (Jvm.Cond.code y bytes mx rt).before a s = true := by
  simp only [Bool.and_eq_true, beq_iff_eq, Bool.not_eq_true', decide_eq_true_eq] at h5
  obtain ⟨⟨⟨⟨⟨g1, g2⟩, g3⟩, g4⟩, g5⟩, g6⟩ := h5
  simp [Cond.before, Cond.holds, Cond.value, h1, h2, h3, h4, g1, g2, g3, g4, g5, g6]
def isCode : Jvm.Cond → Bool
  | .code _ _ _ _ => true
  | _ => false
theorem all_split {L : List Jvm.Cond} {P : Jvm.Cond → Bool} (h1 : L.all (fun c => isCode c || P c) = true) (h2 : ∀ c ∈ L.filter isCode, P c = true) : L.all P = true := by
  refine List.all_eq_true.mpr fun c hc => ?_
  have h := List.all_eq_true.mp h1 c hc
  rcases Bool.eq_false_or_eq_true (isCode c) with hi | hi
  · exact h2 c (List.mem_filter.mpr ⟨hc, hi⟩)
  · simpa [hi] using h
set_option maxRecDepth 65536 in
theorem w_c0 : (Jvm.Cond.code x code maxLocals ret).before args0 about1 = true := code_word (m := ⟨1, 1⟩) (meth := k1m1) (c := k1c1) (by decide +kernel) rfl rfl rfl (by decide +kernel)
set_option maxRecDepth 65536 in
theorem w_c1 : (Jvm.Cond.code ({ cls := "com/example/reckoner/reckoner/core/Digits", name := "count", desc := "(J)I" } : Jvm.MethodName) prog_23_method_2_code (3 : Nat) (Option.some Jvm.ClassFile.FieldType.int)).before args0 about1 = true := code_word (m := ⟨2, 1⟩) (meth := k2m1) (c := k2c1) (by decide +kernel) rfl rfl rfl (by decide +kernel)
def codes1 : List Jvm.Cond := [Jvm.Cond.code x code maxLocals ret, Jvm.Cond.code ({ cls := "com/example/reckoner/reckoner/core/Digits", name := "count", desc := "(J)I" } : Jvm.MethodName) prog_23_method_2_code (3 : Nat) (Option.some Jvm.ClassFile.FieldType.int)]
set_option maxRecDepth 65536 in
theorem codes_eq : words1.filter isCode = codes1 := rfl
theorem w_codes : ∀ c ∈ words1.filter isCode, c.before args0 about1 = true := by
  rw [codes_eq]
  intro c hc
  simp only [codes1, List.mem_cons, List.not_mem_nil, or_false] at hc
  rcases hc with rfl | rfl
  · exact w_c0
  · exact w_c1
set_option maxRecDepth 65536 in
theorem w_t1 : (words1.take 24).all (fun c => isCode c || c.before args0 about1) = true := by decide +kernel
set_option maxRecDepth 65536 in
theorem w_t2 : (words1.drop 24).all (fun c => isCode c || c.before args0 about1) = true := by decide +kernel
theorem w_tables : (allAtoms (Jvm.Cond.code x code maxLocals ret :: tables_1)).before args0 about1 = true := by
  rw [allAtoms_all]
  show words1.all (fun c => c.before args0 about1) = true
  refine all_split ?_ w_codes
  rw [← List.take_append_drop 24 words1, List.all_append, w_t1, w_t2]
  rfl
set_option maxRecDepth 65536 in
theorem w_case : (Jvm.Cond.and given_1 narrow_1).before args0 about1 = true := by decide +kernel
theorem w_applies : (headSpec (Jvm.Cond.code x code maxLocals ret :: tables_1) room_1).applies x e0.platform about1 = true :=
  (Spec.applies_iff w_frames).mpr ⟨w_running, w_runnable, w_alone, w_named, w_hears, w_ripe, w_room, w_tables⟩
theorem atStart : AtStart classFile x code maxLocals ret World_1 tables_1 room_1 Calls_1 rest_1 Pre_1 launch0 p0 e0 about1 theMethod args0 below0 :=
  ⟨lists_1, trivial, launch0.admits_env _ _ _, launch0.least_env, fairChoices_fair.cas, fairChoices_fair.clock, w_frames, w_args, w_heap, w_applies, trivial, trivial, w_case⟩
end start1
theorem witness_1 : WitnessClaimed_1 := ⟨start1.p0, start1.e0, start1.about1, start1.theMethod, start1.args0, start1.below0, start1.atStart⟩
end Jvm.Pilot.@@N@@
