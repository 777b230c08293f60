import JvmDerived
import JvmDerived.Pilot.@@N@@Statement
import JvmDerived.Pilot.@@N@@Code
set_option linter.unusedVariables false
set_option linter.unusedSimpArgs false
namespace OwnCeil
set_option maxRecDepth 100000
open Jvm Sem ClassFile Op Lib Jvm.Stand Jvm.Free Jvm.Free.Hsc Jvm.Free.Fl Jvm.Free.Fl.Abs
open Jvm.Lib.Cold (StaticIs)

/-- the state U with other tables and other frames -/
def own_st (U : State) (vm : Vm) (F : List Frame) : State := (U.setVm vm).setFrames F

theorem own_st_cur {U : State} (hcur : U.cur < U.threads.size) (vm : Vm) : (U.setVm vm).cur < (U.setVm vm).threads.size := hcur

theorem own_st_frames {U : State} (hcur : U.cur < U.threads.size) (vm : Vm) (F : List Frame) : (own_st U vm F).frames = F := State.frames_setFrames _ (own_st_cur hcur vm)

theorem own_st_setTop {U : State} (hcur : U.cur < U.threads.size) (vm : Vm) (f0 f : JFrame) (R : List Frame) : (own_st U vm (.java f0 :: R)).setTop f = own_st U vm (.java f :: R) := by
  rw [State.setTop_of_frames _ (own_st_frames hcur vm _)]
  exact State.setFrames_setFrames _ _ _

theorem own_st_setVm (U : State) (vm vm' : Vm) (F : List Frame) : (own_st U vm F).setVm vm' = own_st U vm' F := rfl

theorem own_st_push {U : State} (hcur : U.cur < U.threads.size) (vm : Vm) (F : List Frame) (x : Frame) : (own_st U vm F).pushFrame x = own_st U vm (x :: F) := by
  rw [State.pushFrame, own_st_frames hcur]
  exact State.setFrames_setFrames _ _ _

theorem own_st_setFrames (U : State) (vm : Vm) (F F' : List Frame) : (own_st U vm F).setFrames F' = own_st U vm F' := State.setFrames_setFrames _ _ _

/-- a method stands on top of such a state -/
theorem own_st_at {s U : State} {below mid : List Frame} {vm : Vm} {x : MethodName} {m : MethodId} {meth : Method} {c : Code} {f : JFrame}
    (hcur : U.cur < U.threads.size) (hrun : U.status = .running) (hable : U.curStatus? = some .runnable) (hal : U.alone = true)
    (hW : s.WarmedH vm) (hx : plainFor x = true) (hn : s.methodNamed? x = some m) (hm : s.vm.method? m = some meth) (hc : meth.code = some c) :
    At (own_st U vm (.java f :: (mid ++ below))) m c below := by
  have hf := own_st_frames hcur vm (.java f :: (mid ++ below))
  have hmv : (own_st U vm (.java f :: (mid ++ below))).vm.method? m = some meth := by
    show vm.method? m = some meth
    rw [hW.alike.method?]; exact hm
  refine ⟨?_, ⟨mid, by rw [hf]; rfl⟩, hrun, ?_, ?_, ?_, ?_⟩
  · rw [State.topJava?_of_frames hf]; rfl
  · show ((U.setVm vm).setFrames _).curStatus? = _
    simpa using hable
  · show ((U.setVm vm).setFrames _).alone = true
    simpa using hal
  · rw [State.code?_eq, hmv]; simp [hc]
  · intro k hk
    obtain ⟨k0, hk0, -⟩ := className_of_methodNamed hn
    obtain ⟨k1, hk1, he1⟩ := hW.alike.2.2 _ _ hk0
    have : k = k1 := by
      have h2 : vm.classes[m.cls]? = some k := hk
      rw [hk1] at h2; exact (Option.some.inj h2).symm
    subst this
    have hp := State.plainMethod.of_named hx hn hm k0 hk0
    rw [he1]; exact hp


/-- a static call under such a state: it comes to the machine's own invocation of the resolved method -/
theorem own_low_static {p : Program} {l : Launch} {e : Env} {s T : State} {m : MethodId} {c : Code} {below : List Frame} {args : Array Value}
    (hadm : l.admits e) (here : At T m c below) (hW : s.WarmedH T.vm) (hexec : p.tables.exec = Jvm.exec)
    {own : String} {index : Nat} {x : MethodName} (hown : s.vm.findClass own = some m.cls) (hlink : (Cond.methodLink own index x).before args s = true)
    {m' : MethodId} {meth' : Method} {k' : Class} (hn : s.methodNamed? x = some m') (hm' : s.vm.method? m' = some meth') (hstatic : meth'.isStatic = true)
    (hk' : s.vm.classes[m'.cls]? = some k') (hinit : k'.init = .initialized)
    (hx : x.cls ≠ "java/lang/invoke/MethodHandle" ∧ x.cls ≠ "java/lang/invoke/VarHandle")
    {g : JFrame} (hg : g.method = m) {argsL rest : List Value} (hlen : argsL.length = meth'.sig.parameters.length) (hstack : g.stack = argsL.reverse ++ rest)
    (hdg : decode c.code g.pc = .ok (.invokestatic index, 3)) :
    ∃ vm', s.WarmedH vm' ∧
      ∀ target, (∀ acts, Steps p.tables e below (doInvoke e ((T.setVm vm').setTop { g with stack := rest }) acts m' argsL.toArray).1 target) → Steps p.tables e below (T.setTop g) target := by
  obtain ⟨ci, hl, hright⟩ := Cond.methodLink_spec hown hn hlink e.platform (by rw [hadm.platform])
  obtain ⟨kx, hkx, hnx⟩ := className_of_methodNamed hn
  have hkk : kx = k' := Option.some.inj (hkx.symm.trans hk')
  subst hkk
  have hE : s.MethodEntry e T.vm m.cls index m' ci := State.methodEntry hW hl hright fun k hk => by
    rw [← Option.some.inj (hkx.symm.trans hk), hnx]; exact hx
  obtain ⟨dk, cfile, nt, mname, mdesc, via, ck, _, hd, hcf, hcp, hnt, -, -, hck, -, hnopoly, -⟩ := hl.here
  have hck2 : kx = ck := Option.some.inj (hkx.symm.trans hck)
  subst hck2
  obtain ⟨dk₂, hdk₂, hed₂⟩ := hE.warmed.alike.2.2 _ _ hd
  obtain ⟨k₂, hk₂, he₂⟩ := hE.warmed.alike.2.2 _ _ hkx
  have hnone : (kx.methods.any fun y => y.name == mname && !y.isStatic && signaturePolymorphic kx y) = false := by simp [hnopoly]
  have hnone₂ : (k₂.methods.any fun y => y.name == mname && !y.isStatic && signaturePolymorphic k₂ y) = false := by rw [he₂]; exact hnone
  refine ⟨T.vm.called m.cls ci index m', hE.warmed, fun target hrest => ?_⟩
  subst hg
  jvm_step here [hexec, hdg, invokestatic.wp_cold (e := e) (s := T) (s₀ := s) (f := g) here.top (by rw [hadm.platform]) hW hE hd hcf hcp hnt hkx hnone,
    invokestatic.wp_ready (e := e) (s := T.setVm (T.vm.called g.method.cls ci index m')) (k := k₂) (meth := meth') (m := m') (args := argsL) (rest := rest) (f := g)
      here.top ⟨ci, mname, mdesc, via, m'.cls, k₂, memberRef_ask_via (e := e) hdk₂ (by rw [hed₂]; exact hcf) hcp hnt, hE.classReady, hk₂, hnone₂⟩ hE.ready hk₂
      (by show (T.vm.called g.method.cls ci index m').method? m' = some meth'; rw [hE.warmed.alike.method?]; exact hm') (by rw [he₂]; exact hnopoly meth') hstatic (by rw [he₂]; exact hinit) hlen hstack]
  exact fun acts => hrest _

/-- ldc2_w of a long -/
theorem own_low_long {p : Program} {e : Env} {s T : State} {m : MethodId} {c : Code} {below : List Frame} {args : Array Value}
    (here : At T m c below) (hW : s.WarmedH T.vm) (hexec : p.tables.exec = Jvm.exec) {own : String} {index : Nat} {v : Int64} (hown : s.vm.findClass own = some m.cls)
    (hconst : (Cond.constantLong own index v).before args s = true) {g : JFrame} (hg : g.method = m) (hdg : decode c.code g.pc = .ok (.ldc2_w index, 3)) :
    ∀ target, Steps p.tables e below (T.setTop { g with pc := g.pc + 3, stack := .long v :: g.stack }) target → Steps p.tables e below (T.setTop g) target := by
  obtain ⟨k, cf, bytes, hk, hcf, hcp, hb⟩ := Cond.constantLong_spec hown hconst
  obtain ⟨k', hk', he⟩ := hW.alike.2.2 _ _ hk
  intro target hrest
  subst hg
  jvm_step here [hexec, hdg, ldc2_w.wp_long (s := T) (f := g) here.top hk' (by rw [he]; exact hcf) hcp, hb]
  exact hrest

/-- ldc2_w of a double -/
theorem own_low_double {p : Program} {e : Env} {s T : State} {m : MethodId} {c : Code} {below : List Frame} {args : Array Value}
    (here : At T m c below) (hW : s.WarmedH T.vm) (hexec : p.tables.exec = Jvm.exec) {own : String} {index : Nat} {b : UInt64} (hown : s.vm.findClass own = some m.cls)
    (hconst : (Cond.constantDouble own index b).before args s = true) {g : JFrame} (hg : g.method = m) (hdg : decode c.code g.pc = .ok (.ldc2_w index, 3)) :
    ∀ target, Steps p.tables e below (T.setTop { g with pc := g.pc + 3, stack := .double b :: g.stack }) target → Steps p.tables e below (T.setTop g) target := by
  obtain ⟨k, cf, hk, hcf, hcp⟩ := Cond.constantDouble_spec hown hconst
  obtain ⟨k', hk', he⟩ := hW.alike.2.2 _ _ hk
  intro target hrest
  subst hg
  jvm_step here [hexec, hdg, ldc2_w.wp_double (s := T) (f := g) here.top hk' (by rw [he]; exact hcf) hcp]
  exact hrest

/-- getstatic of a static that is laid and initialised -/
theorem own_low_getstatic {p : Program} {l : Launch} {e : Env} {s T : State} {m : MethodId} {c : Code} {below : List Frame} {args : Array Value}
    (hadm : l.admits e) (here : At T m c below) (hW : s.WarmedH T.vm) (hexec : p.tables.exec = Jvm.exec)
    {own ref name desc : String} {index : Nat} (hown : s.vm.findClass own = some m.cls) (hlink : (Cond.fieldLink own index ref name desc).before args s = true)
    {cf i : Nat} {k : Class} {f : Field} (hi : s.fieldFound? ref name desc = some (cf, k, i, f)) (hst : f.isStatic = true) (hinit : k.init = .initialized)
    {a₁ : Addr} {cell₁ : Cell} {v : Value} (hstatics : k.statics = some a₁) (hcell : T.heap[a₁]? = some cell₁) (hknown : cell₁.vm ≠ .unknown) (hslot : cell₁.slots[f.slot]? = some v)
    {g : JFrame} (hg : g.method = m) (hdg : decode c.code g.pc = .ok (.getstatic index, 3)) :
    ∃ vm', s.WarmedH vm' ∧
      ∀ target, Steps p.tables e below ((T.setVm vm').setTop { g with pc := g.pc + 3, stack := v :: g.stack }) target → Steps p.tables e below (T.setTop g) target := by
  obtain ⟨ci', cfl, k', i', f', hi', hlinks, hright⟩ := Cond.fieldLink_spec hown hlink e.platform (by rw [hadm.platform])
  cases hi.symm.trans hi'
  obtain ⟨hk, hf⟩ := State.fieldFound?_spec hi
  subst hg
  exact Steps.getstaticCold here hexec hdg hW hlinks hright hk hf hst hinit hstatics hcell hknown hslot

/-- free words and frames of the thread's stack under the frames F, as the machine counts them -/
def own_free (e : Env) (U : State) (F : List Frame) (k n : Nat) : Prop :=
  F.length + k ≤ (e.platform.stackLimits U.me).1 ∧ (stackUse F).2 + n ≤ (e.platform.stackLimits U.me).2

theorem own_free_full {e : Env} {U : State} {vm : Vm} {F : List Frame} {k n vars : Nat} (hcur : U.cur < U.threads.size) (h : own_free e U F k n) (hk : 1 ≤ k) (hn : vars + 11 ≤ n) :
    e.platform.stackFull (own_st U vm F).me (own_st U vm F).frames vars = false := by
  rw [own_st_frames hcur]
  obtain ⟨h1, h2⟩ := h
  have e1 : e.platform.stackLimits (own_st U vm F).me = e.platform.stackLimits U.me := State.stackLimits_setFrames _ _ _
  refine Platform.stackFull_eq_false (by rw [e1]; omega) (by rw [e1]; omega)

theorem own_free_java {e : Env} {U : State} {R : List Frame} {f : JFrame} {k n n' : Nat} (h : own_free e U R (k + 1) n') (hn : n + (f.locals.size + 11 + 2 * f.monitorRoom + operandWords f.stack) ≤ n') : own_free e U (.java f :: R) k n := by
  obtain ⟨h1, h2⟩ := h
  refine ⟨by simp only [List.length_cons]; omega, ?_⟩
  rw [stackUse_java]
  show (stackUse R).2 + _ + n ≤ _
  omega

theorem own_free_native {e : Env} {U : State} {R : List Frame} {f : NFrame} {k n : Nat} (h : own_free e U R (k + 1) n) (hw : f.words = 0) : own_free e U (.native f :: R) k n := by
  obtain ⟨h1, h2⟩ := h
  refine ⟨by simp only [List.length_cons]; omega, ?_⟩
  rw [stackUse_light (.native f) R (fun g hg => by cases hg) hw]
  exact h2

/-- a static call of a Java method: its frame is laid -/
theorem own_low_call {p : Program} {l : Launch} {e : Env} {s U : State} {vm : Vm} {m : MethodId} {c : Code} {below : List Frame} {args : Array Value} {f0 : JFrame} {R : List Frame} {k n : Nat}
    (hcur : U.cur < U.threads.size) (hadm : l.admits e) (here : At (own_st U vm (.java f0 :: R)) m c below) (hW : s.WarmedH vm) (hexec : p.tables.exec = Jvm.exec)
    {own : String} {index : Nat} {x : MethodName} (hown : s.vm.findClass own = some m.cls) (hlink : (Cond.methodLink own index x).before args s = true)
    (hstat : (Cond.static x).before args s = true) (hinit : (Cond.initialized x.cls).before args s = true)
    {m' : MethodId} {meth' : Method} {c' : Code} {maxL : Nat} (hn : s.methodNamed? x = some m') (hm' : s.vm.method? m' = some meth') (hc' : meth'.code = some c') (hml : c'.maxLocals = maxL) (hl' : meth'.locks = false)
    (hx : x.cls ≠ "java/lang/invoke/MethodHandle" ∧ x.cls ≠ "java/lang/invoke/VarHandle")
    {g : JFrame} (hg : g.method = m) {argsL rest : List Value} (hlen : argsL.length = meth'.sig.parameters.length) (hstack : g.stack = argsL.reverse ++ rest)
    (hdg : decode c.code g.pc = .ok (.invokestatic index, 3)) (hfree : own_free e U (.java { g with stack := rest } :: R) (k + 1) n) (hroom : maxL + 11 ≤ n) :
    ∃ vm', s.WarmedH vm' ∧
      ∀ target, Steps p.tables e below ((own_st U vm' (.java (entryFrame m' argsL.toArray maxL) :: .java { g with stack := rest } :: R)).setTop (entryFrame m' argsL.toArray maxL)) target →
        Steps p.tables e below ((own_st U vm (.java f0 :: R)).setTop g) target := by
  obtain ⟨k0, hk0, -⟩ := className_of_methodNamed hn
  obtain ⟨vm', hW', hstep⟩ := own_low_static hadm here hW hexec hown hlink hn hm' (Cond.static_spec hn hm' hstat) hk0 (Cond.initialized_spec (findClass_of_methodNamed hn) hk0 hinit) hx hg hlen hstack hdg
  refine ⟨vm', hW', fun target hrest => hstep target fun acts => ?_⟩
  rw [own_st_setVm, own_st_setTop hcur]
  have hmv : (own_st U vm' (.java { g with stack := rest } :: R)).vm.method? m' = some meth' := by
    show vm'.method? m' = some meth'
    rw [hW'.alike.method?]; exact hm'
  rw [(doInvoke_java (s := own_st U vm' (.java { g with stack := rest } :: R)) (e := e) (acts := acts) (args := argsL.toArray) hmv hc' hl' (own_free_full hcur hfree (by omega) (by rw [hml]; exact hroom))).1, own_st_push hcur, hml]
  rw [own_st_setTop hcur] at hrest
  exact hrest

/-- a Java method returns to a Java method -/
theorem own_low_ret {e : Env} {s U : State} {vm : Vm} {m : MethodId} {meth meth1 : Method} {c1 : Code} {f0 g1 : JFrame} {R : List Frame} {v : Value} {ig : Instr} {len : Nat}
    (hcur : U.cur < U.threads.size) (hW : s.WarmedH vm) (hm : s.vm.method? m = some meth) (hl : meth.locks = false)
    (hm1 : s.vm.method? g1.method = some meth1) (hc1 : meth1.code = some c1) (hdg : decode c1.code g1.pc = .ok (ig, len))
    (f : JFrame) (acts : List Action) (hf : f.method = m) (hlk : f.locked = none) (hen : f.entered = []) :
    (doReturn e ((own_st U vm (.java f0 :: .java g1 :: R)).setTop f) acts (some v)).1 = (own_st U vm (.java g1 :: R)).setTop { g1 with pc := g1.pc + len, stack := v :: g1.stack } := by
  have hmv : (own_st U vm (.java f0 :: .java g1 :: R)).vm.method? f.method = some meth := by
    show vm.method? f.method = some meth
    rw [hW.alike.method?, hf]; exact hm
  have hcode : (own_st U vm (.java f0 :: .java g1 :: R)).code? g1.method = some c1 := by
    rw [State.code?_eq]
    show (vm.method? g1.method).bind _ = _
    rw [hW.alike.method?, hm1]; simp [hc1]
  have hfs : handOver (own_st U vm (.java f0 :: .java g1 :: R)) (some v) (.java g1 :: R) = some (.java { g1 with pc := g1.pc + len, stack := v :: g1.stack } :: R) := by
    simp [handOver, hcode, hdg, Except.toOption]
  rw [ret_to (own_st_frames hcur vm _) hmv hl hlk hen hfs acts, own_st_setFrames, own_st_setTop hcur]

/-- a Java method returns to a native method's frame -/
theorem own_low_retN {e : Env} {s U : State} {vm : Vm} {m : MethodId} {meth : Method} {f0 : JFrame} {N : NFrame} {R : List Frame} {v : Value}
    (hcur : U.cur < U.threads.size) (hW : s.WarmedH vm) (hm : s.vm.method? m = some meth) (hl : meth.locks = false)
    (f : JFrame) (acts : List Action) (hf : f.method = m) (hlk : f.locked = none) (hen : f.entered = []) :
    (doReturn e ((own_st U vm (.java f0 :: .native N :: R)).setTop f) acts (some v)).1 = own_st U vm (.native { N with awaiting := false, answer := some (.returned (some v)) } :: R) := by
  have hmv : (own_st U vm (.java f0 :: .native N :: R)).vm.method? f.method = some meth := by
    show vm.method? f.method = some meth
    rw [hW.alike.method?, hf]; exact hm
  have hfs : handOver (own_st U vm (.java f0 :: .native N :: R)) (some v) (.native N :: R) = some (.native { N with awaiting := false, answer := some (.returned (some v)) } :: R) := by
    simp [handOver]
  rw [ret_to (own_st_frames hcur vm _) hmv hl hlk hen hfs acts, own_st_setFrames]
/-- Math.getExponent under a native frame -/
theorem own_low_exp {p : Program} {l : Launch} {e : Env} {s U : State} {vm : Vm} {below mid R : List Frame} {args : Array Value} {g1 : JFrame} {meth1 : Method} {c1 : Code} {m : MethodId} {meth : Method} {c : Code} {k n : Nat} {b : UInt64} {ig : Instr}
    (hcur : U.cur < U.threads.size) (hrun : U.status = .running) (hable : U.curStatus? = some .runnable) (hal : U.alone = true)
    (hadm : l.admits e) (hW : s.WarmedH vm) (hexec : p.tables.exec = Jvm.exec) (hR : R = mid ++ below) (htab : GetExp.tab.before args s = true)
    (hn : s.methodNamed? GetExp.yN = some m) (hm : s.vm.method? m = some meth) (hc : meth.code = some c) (hbytes : c.code = GetExp.yB) (hret : meth.sig.returnType = some .int) (hl : meth.locks = false)
    (hm1 : s.vm.method? g1.method = some meth1) (hc1 : meth1.code = some c1) (hdg : decode c1.code g1.pc = .ok (ig, 3))
    (hfree : own_free e U (.java g1 :: R) (k + 2) (n + 28)) :
    ∃ vm', s.WarmedH vm' ∧ Steps p.tables e below ((own_st U vm (.java (entryFrame m #[.double b] 2) :: .java g1 :: R)).setTop (entryFrame m #[.double b] 2))
      ((own_st U vm' (.java g1 :: R)).setTop { g1 with pc := g1.pc + 3, stack := .int (expOf b) :: g1.stack }) := by
  subst hR
  have hown : s.vm.findClass MA = some m.cls := findClass_of_methodNamed hn
  simp only [GetExp.tab, Cond.before_and, Bool.and_eq_true] at htab
  obtain ⟨-, hL, hN, hS, hI, hk1, hk2⟩ := htab
  have here0 : At (own_st U vm (.java (entryFrame m #[.double b] 2) :: .java g1 :: (mid ++ below))) m c below := own_st_at (mid := .java g1 :: mid) hcur hrun hable hal hW (by decide +kernel) hn hm hc
  obtain ⟨r, kS, methS, hnS, hmS, hkS, NO⟩ := NativeOf.of_static hN hS (ps := [.double]) (ret := some .long) (by decide +kernel)
  have hinitS : kS.init = .initialized := Cond.initialized_spec (findClass_of_methodNamed hnS) hkS hI
  obtain ⟨vm1, hW1, step1⟩ := own_low_static hadm here0 hW hexec hown hL hnS hmS NO.static hkS hinitS (by decide)
    (g := { method := m, pc := 1, locals := #[.val (.double b), .second], stack := [.double b], locked := none }) rfl (argsL := [.double b]) (rest := []) (by rw [NO.sig]; rfl) rfl (by rw [hbytes]; exact GetExp.d1)
  obtain ⟨kS', N'⟩ := NO.alike hW1.alike
  have here1 : At (own_st U vm1 (.java (entryFrame m #[.double b] 2) :: .java g1 :: (mid ++ below))) m c below := own_st_at (mid := .java g1 :: mid) hcur hrun hable hal hW1 (by decide +kernel) hn hm hc
  refine ⟨vm1, hW1, ?_⟩
  show Steps p.tables e below ((own_st U vm (.java (entryFrame m #[.double b] 2) :: .java g1 :: (mid ++ below))).setTop { method := m, pc := 0, locals := #[.val (.double b), .second], stack := [], locked := none }) _
  jvm_step here0 [hexec, hbytes, GetExp.d0]
  refine step1 _ fun acts => ?_
  rw [own_st_setVm]
  have hfull : own_free e U (.java { method := m, pc := 1, locals := #[.val (.double b), .second], stack := [], locked := none } :: .java g1 :: (mid ++ below)) (k + 1) (n + 15) := own_free_java hfree (by show n + 15 + 13 ≤ n + 28; omega)
  refine Steps.doubleToRawLongBitsOf (g := { method := m, pc := 1, locals := #[.val (.double b), .second], stack := [], locked := none }) (ig := .invokestatic 79) (len := 3) p here1 acts N' b (by
    rw [own_st_setTop hcur]
    exact own_free_full hcur hfull (by omega) (by show 4 + 11 ≤ n + 15; omega)) (by rw [hbytes]; exact GetExp.d1) ?_
  refine own_low_long here1 hW1 hexec hown hk1 (g := { method := m, pc := 4, locals := #[.val (.double b), .second], stack := [.long b.toInt64], locked := none }) rfl (by rw [hbytes]; exact GetExp.d4) _ ?_
  have hm' : (own_st U vm1 (.java (entryFrame m #[.double b] 2) :: .java g1 :: (mid ++ below))).vm.method? m = some meth := by
    show vm1.method? m = some meth
    rw [hW1.alike.method?]; exact hm
  jvm_step here1 [here1.top, hexec, hbytes, GetExp.d7]
  jvm_step here1 [here1.top, hexec, hbytes, GetExp.d8]
  jvm_step here1 [here1.top, hexec, hbytes, GetExp.d10]
  refine own_low_long here1 hW1 hexec hown hk2 (g := { method := m, pc := 11, locals := #[.val (.double b), .second], stack := [.long ((b.toInt64 &&& 9218868437227405312) >>> ((52 : Int32) &&& 0x3f).toInt64)], locked := none }) rfl (by rw [hbytes]; exact GetExp.d11) _ ?_
  jvm_step here1 [here1.top, hexec, hbytes, GetExp.d14]
  jvm_step here1 [here1.top, hexec, hbytes, GetExp.d15]
  jvm_step here1 [here1.top, hexec, hbytes, GetExp.d16, hm', hret, narrow]
  intro acts
  have h9 := own_low_ret (e := e) (v := .int (expOf b)) (f0 := entryFrame m #[.double b] 2) (R := mid ++ below) hcur hW1 hm hl hm1 hc1 hdg { method := m, pc := 16, locals := #[.val (.double b), .second], stack := [], locked := none } acts rfl rfl rfl
  simp only [expOf] at h9 ⊢
  rw [h9]
  exact Steps.refl _

set_option maxHeartbeats 16000000 in
theorem own_foc_head {p : Program} {l : Launch} {e : Env} {s U : State} {vm : Vm} {below mid : List Frame} {args : Array Value} {g1 : JFrame} {meth1 : Method} {c1 : Code} {m : MethodId} {meth : Method} {c : Code} {k n : Nat} {b nb pb sg : UInt64} {ig : Instr}
    (hcur : U.cur < U.threads.size) (hrun : U.status = .running) (hable : U.curStatus? = some .runnable) (hal : U.alone = true)
    (hadm : l.admits e) (hW : s.WarmedH vm) (hexec : p.tables.exec = Jvm.exec) (htab : FocA.tab.before args s = true)
    (hn : s.methodNamed? Foc.yN = some m) (hm : s.vm.method? m = some meth) (hc : meth.code = some c) (hbytes : c.code = Foc.yB) (hret : meth.sig.returnType = some .double) (hl : meth.locks = false)
    (hm1 : s.vm.method? g1.method = some meth1) (hc1 : meth1.code = some c1) (hdg : decode c1.code g1.pc = .ok (ig, 3))
    (hfree : own_free e U (.java g1 :: (mid ++ below)) (k + 3) (n + 54)) :
    ∃ vm1, s.WarmedH vm1 ∧ ∀ target, Steps p.tables e below ((own_st U vm1 (.java (entryFrame m #[Value.double b, .double nb, .double pb, .double sg] 15) :: .java g1 :: (mid ++ below))).setTop { method := m, pc := 8, locals := #[.val (.double b), .second, .val (.double nb), .second, .val (.double pb), .second, .val (.double sg), .second, .val (.int (expOf b)), .unset, .unset, .unset, .unset, .unset, .unset], stack := [.int (expOf b)], locked := none }) target → Steps p.tables e below ((own_st U vm (.java (entryFrame m #[Value.double b, .double nb, .double pb, .double sg] 15) :: .java g1 :: (mid ++ below))).setTop (entryFrame m #[Value.double b, .double nb, .double pb, .double sg] 15)) target := by
  have hown : s.vm.findClass SM = some m.cls := findClass_of_methodNamed hn
  simp only [FocA.tab, Foc.tab, Cond.before_and, Bool.and_eq_true] at htab
  obtain ⟨⟨-, hLG, hSG, hIM, hTG, hLA, hLD, hND, hSD, hID, hk1⟩, hk2, hLL, hNL, hSL⟩ := htab
  have hat : ∀ vmx, s.WarmedH vmx → At (own_st U vmx (.java (entryFrame m #[Value.double b, .double nb, .double pb, .double sg] 15) :: .java g1 :: (mid ++ below))) m c below := fun vmx hWx => own_st_at (mid := .java g1 :: mid) hcur hrun hable hal hWx (by decide +kernel) hn hm hc
  have hmx : ∀ vmx, s.WarmedH vmx → (own_st U vmx (.java (entryFrame m #[Value.double b, .double nb, .double pb, .double sg] 15) :: .java g1 :: (mid ++ below))).vm.method? m = some meth := fun vmx hWx => by
    show vmx.method? m = some meth
    rw [hWx.alike.method?]; exact hm
  have hfr : ∀ (pc : Nat) (ls : Array Slot), ls.size = 15 → own_free e U (.java { method := m, pc := pc, locals := ls, stack := [], locked := none } :: .java g1 :: (mid ++ below)) (k + 2) (n + 28) := fun pc ls hs => own_free_java hfree (by
    show n + 28 + (ls.size + 11 + 2 * 0 + 0) ≤ n + 54
    omega)
  have hCG : (Cond.code GetExp.yN GetExp.yB 2 (some .int)).before args s = true := by have h := hTG; simp only [GetExp.tab, Cond.before_and, Bool.and_eq_true] at h; exact h.1
  obtain ⟨mg, hnG⟩ := Cond.code_named hCG
  obtain ⟨methG, cG, hmG, hcG, hbG, hlG, hrG, hlkG, -, hsG⟩ := Cond.code_spec hnG hCG
  have here0 := hat vm hW
  obtain ⟨vma, hWa, stepa⟩ := own_low_call hcur hadm here0 hW hexec hown hLG hSG hIM hnG hmG hcG hlG hlkG (by decide) (k := k + 1) (n := n + 28)
    (g := { method := m, pc := 1, locals := #[.val (.double b), .second, .val (.double nb), .second, .val (.double pb), .second, .val (.double sg), .second, .unset, .unset, .unset, .unset, .unset, .unset, .unset], stack := [.double b], locked := none }) rfl (argsL := [.double b]) (rest := []) (by rw [← Option.some.inj ((show parseMethodDescriptor GetExp.yN.desc = some ⟨[.double], some .int⟩ from by decide +kernel).symm.trans hsG)]; rfl) rfl (by rw [hbytes]; exact Foc.d1) (hfr 1 _ rfl) (by omega)
  obtain ⟨vm1, hW1, stepb⟩ := own_low_exp (b := b) (mid := .java g1 :: mid) (R := .java g1 :: (mid ++ below)) (g1 := { method := m, pc := 1, locals := #[.val (.double b), .second, .val (.double nb), .second, .val (.double pb), .second, .val (.double sg), .second, .unset, .unset, .unset, .unset, .unset, .unset, .unset], stack := [], locked := none }) (k := k) (n := n) hcur hrun hable hal hadm hWa hexec rfl hTG hnG hmG hcG hbG hrG hlkG hm hc (by rw [hbytes]; exact Foc.d1) (hfr 1 _ rfl)
  have here1 := hat vm1 hW1
  have hm1' := hmx vm1 hW1
  have come8 : ∀ target, Steps p.tables e below ((own_st U vm1 (.java (entryFrame m #[Value.double b, .double nb, .double pb, .double sg] 15) :: .java g1 :: (mid ++ below))).setTop { method := m, pc := 8, locals := #[.val (.double b), .second, .val (.double nb), .second, .val (.double pb), .second, .val (.double sg), .second, .val (.int (expOf b)), .unset, .unset, .unset, .unset, .unset, .unset], stack := [.int (expOf b)], locked := none }) target → Steps p.tables e below ((own_st U vm (.java (entryFrame m #[Value.double b, .double nb, .double pb, .double sg] 15) :: .java g1 :: (mid ++ below))).setTop (entryFrame m #[Value.double b, .double nb, .double pb, .double sg] 15)) target := by
    intro target hrest
    show Steps p.tables e below ((own_st U vm (.java (entryFrame m #[Value.double b, .double nb, .double pb, .double sg] 15) :: .java g1 :: (mid ++ below))).setTop { method := m, pc := 0, locals := #[.val (.double b), .second, .val (.double nb), .second, .val (.double pb), .second, .val (.double sg), .second, .unset, .unset, .unset, .unset, .unset, .unset, .unset], stack := [], locked := none }) _
    jvm_step here0 [hexec, hbytes, Foc.d0]
    refine stepa _ (stepb.trans ?_)
    rw [own_st_setTop hcur]
    have e1 := own_st_setTop hcur vm1 (entryFrame m #[Value.double b, .double nb, .double pb, .double sg] 15) { method := m, pc := 4, locals := #[.val (.double b), .second, .val (.double nb), .second, .val (.double pb), .second, .val (.double sg), .second, .unset, .unset, .unset, .unset, .unset, .unset, .unset], stack := [.int (expOf b)], locked := none } (.java g1 :: (mid ++ below))
    refine e1 ▸ ?_
    jvm_step here1 [here1.top, hexec, hbytes, Foc.d4]
    refine ⟨#[.val (.double b), .second, .val (.double nb), .second, .val (.double pb), .second, .val (.double sg), .second, .val (.int (expOf b)), .unset, .unset, .unset, .unset, .unset, .unset], rfl, ?_⟩
    jvm_step here1 [here1.top, hexec, hbytes, Foc.d6]
    exact hrest
  exact ⟨vm1, hW1, come8⟩


set_option maxHeartbeats 16000000 in
theorem own_foc_zero {p : Program} {l : Launch} {e : Env} {s U : State} {vm : Vm} {below mid : List Frame} {args : Array Value} {g1 : JFrame} {meth1 : Method} {c1 : Code} {m : MethodId} {meth : Method} {c : Code} {k n : Nat} {b nb pb sg : UInt64} {ig : Instr}
    (hcur : U.cur < U.threads.size) (hrun : U.status = .running) (hable : U.curStatus? = some .runnable) (hal : U.alone = true)
    (hadm : l.admits e) (hW : s.WarmedH vm) (hexec : p.tables.exec = Jvm.exec) (htab : FocA.tab.before args s = true)
    (hn : s.methodNamed? Foc.yN = some m) (hm : s.vm.method? m = some meth) (hc : meth.code = some c) (hbytes : c.code = Foc.yB) (hret : meth.sig.returnType = some .double) (hl : meth.locks = false)
    (hm1 : s.vm.method? g1.method = some meth1) (hc1 : meth1.code = some c1) (hdg : decode c1.code g1.pc = .ok (ig, 3))
    (hw1 : expOf b < 0) (hz : cmpValue (FP.dcmp b 0) .l = 0) :
    Steps p.tables e below ((own_st U vm (.java (entryFrame m #[Value.double b, .double nb, .double pb, .double sg] 15) :: .java g1 :: (mid ++ below))).setTop { method := m, pc := 8, locals := #[.val (.double b), .second, .val (.double nb), .second, .val (.double pb), .second, .val (.double sg), .second, .val (.int (expOf b)), .unset, .unset, .unset, .unset, .unset, .unset], stack := [.int (expOf b)], locked := none }) ((own_st U vm (.java g1 :: (mid ++ below))).setTop { g1 with pc := g1.pc + 3, stack := .double (b) :: g1.stack }) := by
  have hown : s.vm.findClass SM = some m.cls := findClass_of_methodNamed hn
  simp only [FocA.tab, Foc.tab, Cond.before_and, Bool.and_eq_true] at htab
  obtain ⟨⟨-, hLG, hSG, hIM, hTG, hLA, hLD, hND, hSD, hID, hk1⟩, hk2, hLL, hNL, hSL⟩ := htab
  have hat : ∀ vmx, s.WarmedH vmx → At (own_st U vmx (.java (entryFrame m #[Value.double b, .double nb, .double pb, .double sg] 15) :: .java g1 :: (mid ++ below))) m c below := fun vmx hWx => own_st_at (mid := .java g1 :: mid) hcur hrun hable hal hWx (by decide +kernel) hn hm hc
  have hmx : ∀ vmx, s.WarmedH vmx → (own_st U vmx (.java (entryFrame m #[Value.double b, .double nb, .double pb, .double sg] 15) :: .java g1 :: (mid ++ below))).vm.method? m = some meth := fun vmx hWx => by
    show vmx.method? m = some meth
    rw [hWx.alike.method?]; exact hm
  have here1 := hat vm hW
  have hm' := hmx vm hW
  have hge : ¬ (0 ≤ expOf b) := Int32.not_le.mpr hw1
  jvm_step here1 [here1.top, hexec, hbytes, Foc.d8, ifCond.wp_sem, ifCond.holds, hge]
  show Steps p.tables e below ((own_st U vm (.java (entryFrame m #[Value.double b, .double nb, .double pb, .double sg] 15) :: .java g1 :: (mid ++ below))).setTop { method := m, pc := 11, locals := #[.val (.double b), .second, .val (.double nb), .second, .val (.double pb), .second, .val (.double sg), .second, .val (.int (expOf b)), .unset, .unset, .unset, .unset, .unset, .unset], stack := [], locked := none }) _
  jvm_step here1 [here1.top, hexec, hbytes, FocA.e11]
  jvm_step here1 [here1.top, hexec, hbytes, FocA.e12]
  show Steps p.tables e below ((own_st U vm (.java (entryFrame m #[Value.double b, .double nb, .double pb, .double sg] 15) :: .java g1 :: (mid ++ below))).setTop { method := m, pc := 13, locals := #[.val (.double b), .second, .val (.double nb), .second, .val (.double pb), .second, .val (.double sg), .second, .val (.int (expOf b)), .unset, .unset, .unset, .unset, .unset, .unset], stack := [.double 0, .double b], locked := none }) _
  jvm_step here1 [here1.top, hexec, hbytes, FocA.e13, dcmp.wp_sem]
  show Steps p.tables e below ((own_st U vm (.java (entryFrame m #[Value.double b, .double nb, .double pb, .double sg] 15) :: .java g1 :: (mid ++ below))).setTop { method := m, pc := 14, locals := #[.val (.double b), .second, .val (.double nb), .second, .val (.double pb), .second, .val (.double sg), .second, .val (.int (expOf b)), .unset, .unset, .unset, .unset, .unset, .unset], stack := [.int (cmpValue (FP.dcmp b 0) .l)], locked := none }) _
  jvm_step here1 [here1.top, hexec, hbytes, FocA.e14, ifCond.wp_sem, ifCond.holds, hz]
  show Steps p.tables e below ((own_st U vm (.java (entryFrame m #[Value.double b, .double nb, .double pb, .double sg] 15) :: .java g1 :: (mid ++ below))).setTop { method := m, pc := 17, locals := #[.val (.double b), .second, .val (.double nb), .second, .val (.double pb), .second, .val (.double sg), .second, .val (.int (expOf b)), .unset, .unset, .unset, .unset, .unset, .unset], stack := [], locked := none }) _
  jvm_step here1 [here1.top, hexec, hbytes, FocA.e17]
  jvm_step here1 [here1.top, hexec, hbytes, FocA.e18]
  show Steps p.tables e below ((own_st U vm (.java (entryFrame m #[Value.double b, .double nb, .double pb, .double sg] 15) :: .java g1 :: (mid ++ below))).setTop { method := m, pc := 33, locals := #[.val (.double b), .second, .val (.double nb), .second, .val (.double pb), .second, .val (.double sg), .second, .val (.int (expOf b)), .unset, .unset, .unset, .unset, .unset, .unset], stack := [.double b], locked := none }) _
  jvm_step here1 [here1.top, hexec, hbytes, FocA.e33, hm', hret, narrow]
  have hend := fun (acts : List Action) => own_low_ret (e := e) (v := .double (b)) (f0 := (entryFrame m #[Value.double b, .double nb, .double pb, .double sg] 15)) (R := mid ++ below) hcur hW hm hl hm1 hc1 hdg { method := m, pc := 33, locals := #[.val (.double b), .second, .val (.double nb), .second, .val (.double pb), .second, .val (.double sg), .second, .val (.int (expOf b)), .unset, .unset, .unset, .unset, .unset, .unset], stack := [], locked := none } acts rfl rfl rfl
  first | (intro acts; rw [hend acts]) | (refine ⟨meth, hm', ⟨_, hret, rfl⟩, fun acts => ?_⟩; rw [hend acts])
  exact Steps.refl _


set_option maxHeartbeats 16000000 in
theorem own_foc_low {p : Program} {l : Launch} {e : Env} {s U : State} {vm : Vm} {below mid : List Frame} {args : Array Value} {g1 : JFrame} {meth1 : Method} {c1 : Code} {m : MethodId} {meth : Method} {c : Code} {k n : Nat} {b nb pb sg : UInt64} {ig : Instr}
    (hcur : U.cur < U.threads.size) (hrun : U.status = .running) (hable : U.curStatus? = some .runnable) (hal : U.alone = true)
    (hadm : l.admits e) (hW : s.WarmedH vm) (hexec : p.tables.exec = Jvm.exec) (htab : FocA.tab.before args s = true)
    (hn : s.methodNamed? Foc.yN = some m) (hm : s.vm.method? m = some meth) (hc : meth.code = some c) (hbytes : c.code = Foc.yB) (hret : meth.sig.returnType = some .double) (hl : meth.locks = false)
    (hm1 : s.vm.method? g1.method = some meth1) (hc1 : meth1.code = some c1) (hdg : decode c1.code g1.pc = .ok (ig, 3))
    (hw1 : expOf b < 0) (hz : ¬ cmpValue (FP.dcmp b 0) .l = 0) (hpos : 0 ≤ cmpValue (FP.dcmp b 0) .g) :
    Steps p.tables e below ((own_st U vm (.java (entryFrame m #[Value.double b, .double nb, .double pb, .double sg] 15) :: .java g1 :: (mid ++ below))).setTop { method := m, pc := 8, locals := #[.val (.double b), .second, .val (.double nb), .second, .val (.double pb), .second, .val (.double sg), .second, .val (.int (expOf b)), .unset, .unset, .unset, .unset, .unset, .unset], stack := [.int (expOf b)], locked := none }) ((own_st U vm (.java g1 :: (mid ++ below))).setTop { g1 with pc := g1.pc + 3, stack := .double (pb) :: g1.stack }) := by
  have hown : s.vm.findClass SM = some m.cls := findClass_of_methodNamed hn
  simp only [FocA.tab, Foc.tab, Cond.before_and, Bool.and_eq_true] at htab
  obtain ⟨⟨-, hLG, hSG, hIM, hTG, hLA, hLD, hND, hSD, hID, hk1⟩, hk2, hLL, hNL, hSL⟩ := htab
  have hat : ∀ vmx, s.WarmedH vmx → At (own_st U vmx (.java (entryFrame m #[Value.double b, .double nb, .double pb, .double sg] 15) :: .java g1 :: (mid ++ below))) m c below := fun vmx hWx => own_st_at (mid := .java g1 :: mid) hcur hrun hable hal hWx (by decide +kernel) hn hm hc
  have hmx : ∀ vmx, s.WarmedH vmx → (own_st U vmx (.java (entryFrame m #[Value.double b, .double nb, .double pb, .double sg] 15) :: .java g1 :: (mid ++ below))).vm.method? m = some meth := fun vmx hWx => by
    show vmx.method? m = some meth
    rw [hWx.alike.method?]; exact hm
  have here1 := hat vm hW
  have hm' := hmx vm hW
  have hge : ¬ (0 ≤ expOf b) := Int32.not_le.mpr hw1
  jvm_step here1 [here1.top, hexec, hbytes, Foc.d8, ifCond.wp_sem, ifCond.holds, hge]
  show Steps p.tables e below ((own_st U vm (.java (entryFrame m #[Value.double b, .double nb, .double pb, .double sg] 15) :: .java g1 :: (mid ++ below))).setTop { method := m, pc := 11, locals := #[.val (.double b), .second, .val (.double nb), .second, .val (.double pb), .second, .val (.double sg), .second, .val (.int (expOf b)), .unset, .unset, .unset, .unset, .unset, .unset], stack := [], locked := none }) _
  jvm_step here1 [here1.top, hexec, hbytes, FocA.e11]
  jvm_step here1 [here1.top, hexec, hbytes, FocA.e12]
  show Steps p.tables e below ((own_st U vm (.java (entryFrame m #[Value.double b, .double nb, .double pb, .double sg] 15) :: .java g1 :: (mid ++ below))).setTop { method := m, pc := 13, locals := #[.val (.double b), .second, .val (.double nb), .second, .val (.double pb), .second, .val (.double sg), .second, .val (.int (expOf b)), .unset, .unset, .unset, .unset, .unset, .unset], stack := [.double 0, .double b], locked := none }) _
  jvm_step here1 [here1.top, hexec, hbytes, FocA.e13, dcmp.wp_sem]
  show Steps p.tables e below ((own_st U vm (.java (entryFrame m #[Value.double b, .double nb, .double pb, .double sg] 15) :: .java g1 :: (mid ++ below))).setTop { method := m, pc := 14, locals := #[.val (.double b), .second, .val (.double nb), .second, .val (.double pb), .second, .val (.double sg), .second, .val (.int (expOf b)), .unset, .unset, .unset, .unset, .unset, .unset], stack := [.int (cmpValue (FP.dcmp b 0) .l)], locked := none }) _
  jvm_step here1 [here1.top, hexec, hbytes, FocA.e14, ifCond.wp_sem, ifCond.holds, hz]
  show Steps p.tables e below ((own_st U vm (.java (entryFrame m #[Value.double b, .double nb, .double pb, .double sg] 15) :: .java g1 :: (mid ++ below))).setTop { method := m, pc := 21, locals := #[.val (.double b), .second, .val (.double nb), .second, .val (.double pb), .second, .val (.double sg), .second, .val (.int (expOf b)), .unset, .unset, .unset, .unset, .unset, .unset], stack := [], locked := none }) _
  jvm_step here1 [here1.top, hexec, hbytes, FocA.e21]
  jvm_step here1 [here1.top, hexec, hbytes, FocA.e22]
  show Steps p.tables e below ((own_st U vm (.java (entryFrame m #[Value.double b, .double nb, .double pb, .double sg] 15) :: .java g1 :: (mid ++ below))).setTop { method := m, pc := 23, locals := #[.val (.double b), .second, .val (.double nb), .second, .val (.double pb), .second, .val (.double sg), .second, .val (.int (expOf b)), .unset, .unset, .unset, .unset, .unset, .unset], stack := [.double 0, .double b], locked := none }) _
  jvm_step here1 [here1.top, hexec, hbytes, FocA.e23, dcmp.wp_sem]
  show Steps p.tables e below ((own_st U vm (.java (entryFrame m #[Value.double b, .double nb, .double pb, .double sg] 15) :: .java g1 :: (mid ++ below))).setTop { method := m, pc := 24, locals := #[.val (.double b), .second, .val (.double nb), .second, .val (.double pb), .second, .val (.double sg), .second, .val (.int (expOf b)), .unset, .unset, .unset, .unset, .unset, .unset], stack := [.int (cmpValue (FP.dcmp b 0) .g)], locked := none }) _
  jvm_step here1 [here1.top, hexec, hbytes, FocA.e24, ifCond.wp_sem, ifCond.holds, hpos]
  show Steps p.tables e below ((own_st U vm (.java (entryFrame m #[Value.double b, .double nb, .double pb, .double sg] 15) :: .java g1 :: (mid ++ below))).setTop { method := m, pc := 31, locals := #[.val (.double b), .second, .val (.double nb), .second, .val (.double pb), .second, .val (.double sg), .second, .val (.int (expOf b)), .unset, .unset, .unset, .unset, .unset, .unset], stack := [], locked := none }) _
  jvm_step here1 [here1.top, hexec, hbytes, FocA.e31]
  show Steps p.tables e below ((own_st U vm (.java (entryFrame m #[Value.double b, .double nb, .double pb, .double sg] 15) :: .java g1 :: (mid ++ below))).setTop { method := m, pc := 33, locals := #[.val (.double b), .second, .val (.double nb), .second, .val (.double pb), .second, .val (.double sg), .second, .val (.int (expOf b)), .unset, .unset, .unset, .unset, .unset, .unset], stack := [.double pb], locked := none }) _
  jvm_step here1 [here1.top, hexec, hbytes, FocA.e33, hm', hret, narrow]
  have hend := fun (acts : List Action) => own_low_ret (e := e) (v := .double (pb)) (f0 := (entryFrame m #[Value.double b, .double nb, .double pb, .double sg] 15)) (R := mid ++ below) hcur hW hm hl hm1 hc1 hdg { method := m, pc := 33, locals := #[.val (.double b), .second, .val (.double nb), .second, .val (.double pb), .second, .val (.double sg), .second, .val (.int (expOf b)), .unset, .unset, .unset, .unset, .unset, .unset], stack := [], locked := none } acts rfl rfl rfl
  first | (intro acts; rw [hend acts]) | (refine ⟨meth, hm', ⟨_, hret, rfl⟩, fun acts => ?_⟩; rw [hend acts])
  exact Steps.refl _


set_option maxHeartbeats 16000000 in
theorem own_foc_mid {p : Program} {l : Launch} {e : Env} {s U : State} {vm : Vm} {below mid : List Frame} {args : Array Value} {g1 : JFrame} {meth1 : Method} {c1 : Code} {m : MethodId} {meth : Method} {c : Code} {k n : Nat} {b nb pb sg : UInt64} {ig : Instr}
    (hcur : U.cur < U.threads.size) (hrun : U.status = .running) (hable : U.curStatus? = some .runnable) (hal : U.alone = true)
    (hadm : l.admits e) (hW : s.WarmedH vm) (hexec : p.tables.exec = Jvm.exec) (htab : FocA.tab.before args s = true)
    (hn : s.methodNamed? Foc.yN = some m) (hm : s.vm.method? m = some meth) (hc : meth.code = some c) (hbytes : c.code = Foc.yB) (hret : meth.sig.returnType = some .double) (hl : meth.locks = false)
    (hm1 : s.vm.method? g1.method = some meth1) (hc1 : meth1.code = some c1) (hdg : decode c1.code g1.pc = .ok (ig, 3))
    (hfree : own_free e U (.java g1 :: (mid ++ below)) (k + 3) (n + 54)) (hAs : ∃ (cf i : Nat) (k : Class) (f : Field) (a₁ : Addr) (cell₁ : Cell), s.fieldFound? SM "$assertionsDisabled" "Z" = some (cf, k, i, f) ∧ f.isStatic = true ∧ k.init = .initialized ∧ k.statics = some a₁ ∧ U.heap[a₁]? = some cell₁ ∧ cell₁.vm ≠ .unknown ∧ cell₁.slots[f.slot]? = some (.int 1)) (hw1 : ¬ expOf b < 0) (h52 : expOf b < 52) :
    ∃ vm1, s.WarmedH vm1 ∧ ∀ target, Steps p.tables e below ((own_st U vm1 (.java (entryFrame m #[Value.double b, .double nb, .double pb, .double sg] 15) :: .java g1 :: (mid ++ below))).setTop { method := m, pc := 89, locals := #[.val (.double b), .second, .val (.double nb), .second, .val (.double pb), .second, .val (.double sg), .second, .val (.int (expOf b)), .val (.long b.toInt64), .second, .val (.long (maskOf b)), .second, .unset, .unset], stack := [.long 0, .long (maskOf b &&& b.toInt64)], locked := none }) target → Steps p.tables e below ((own_st U vm (.java (entryFrame m #[Value.double b, .double nb, .double pb, .double sg] 15) :: .java g1 :: (mid ++ below))).setTop { method := m, pc := 8, locals := #[.val (.double b), .second, .val (.double nb), .second, .val (.double pb), .second, .val (.double sg), .second, .val (.int (expOf b)), .unset, .unset, .unset, .unset, .unset, .unset], stack := [.int (expOf b)], locked := none }) target := by
  have hown : s.vm.findClass SM = some m.cls := findClass_of_methodNamed hn
  simp only [FocA.tab, Foc.tab, Cond.before_and, Bool.and_eq_true] at htab
  obtain ⟨⟨-, hLG, hSG, hIM, hTG, hLA, hLD, hND, hSD, hID, hk1⟩, hk2, hLL, hNL, hSL⟩ := htab
  have hat : ∀ vmx, s.WarmedH vmx → At (own_st U vmx (.java (entryFrame m #[Value.double b, .double nb, .double pb, .double sg] 15) :: .java g1 :: (mid ++ below))) m c below := fun vmx hWx => own_st_at (mid := .java g1 :: mid) hcur hrun hable hal hWx (by decide +kernel) hn hm hc
  have hmx : ∀ vmx, s.WarmedH vmx → (own_st U vmx (.java (entryFrame m #[Value.double b, .double nb, .double pb, .double sg] 15) :: .java g1 :: (mid ++ below))).vm.method? m = some meth := fun vmx hWx => by
    show vmx.method? m = some meth
    rw [hWx.alike.method?]; exact hm
  have hfr : ∀ (pc : Nat) (ls : Array Slot), ls.size = 15 → own_free e U (.java { method := m, pc := pc, locals := ls, stack := [], locked := none } :: .java g1 :: (mid ++ below)) (k + 2) (n + 28) := fun pc ls hs => own_free_java hfree (by
    show n + 28 + (ls.size + 11 + 2 * 0 + 0) ≤ n + 54
    omega)
  have here1 := hat vm hW
  have hge : 0 ≤ expOf b := Int32.not_lt.mp hw1
  obtain ⟨cf1, i1, kk1, ff1, a1, cell1, y1, y2, y3, y4, y5, y6, y7⟩ := hAs
  obtain ⟨vm2, hW2, st2⟩ := own_low_getstatic hadm here1 hW hexec hown hLA y1 y2 y3 y4 (show (own_st U vm (.java (entryFrame m #[Value.double b, .double nb, .double pb, .double sg] 15) :: .java g1 :: (mid ++ below))).heap[a1]? = some cell1 from y5) y6 y7 (g := { method := m, pc := 43, locals := #[.val (.double b), .second, .val (.double nb), .second, .val (.double pb), .second, .val (.double sg), .second, .val (.int (expOf b)), .unset, .unset, .unset, .unset, .unset, .unset], stack := [], locked := none }) rfl (by rw [hbytes]; exact Foc.d43)
  rw [own_st_setVm] at st2
  have here2 := hat vm2 hW2
  obtain ⟨r, kS, methS, hnS, hmS, hkS, NO⟩ := NativeOf.of_static hND hSD (ps := [.double]) (ret := some .long) (by decide +kernel)
  have hinitS : kS.init = .initialized := Cond.initialized_spec (findClass_of_methodNamed hnS) hkS hID
  obtain ⟨vm3, hW3, st3⟩ := own_low_static hadm here2 hW2 hexec hown hLD hnS hmS NO.static hkS hinitS (by decide) (g := { method := m, pc := 70, locals := #[.val (.double b), .second, .val (.double nb), .second, .val (.double pb), .second, .val (.double sg), .second, .val (.int (expOf b)), .unset, .unset, .unset, .unset, .unset, .unset], stack := [.double b], locked := none }) rfl (argsL := [.double b]) (rest := []) (by rw [NO.sig]; rfl) rfl (by rw [hbytes]; exact Foc.d70)
  obtain ⟨kS', N'⟩ := NO.alike hW3.alike
  rw [own_st_setVm] at st3
  have here3 := hat vm3 hW3
  refine ⟨vm3, hW3, fun target hrest => ?_⟩
  jvm_step here1 [here1.top, hexec, hbytes, Foc.d8, ifCond.wp_sem, ifCond.holds, hge]
  show Steps p.tables e below ((own_st U vm (.java (entryFrame m #[Value.double b, .double nb, .double pb, .double sg] 15) :: .java g1 :: (mid ++ below))).setTop { method := m, pc := 34, locals := #[.val (.double b), .second, .val (.double nb), .second, .val (.double pb), .second, .val (.double sg), .second, .val (.int (expOf b)), .unset, .unset, .unset, .unset, .unset, .unset], stack := [], locked := none }) _
  jvm_step here1 [here1.top, hexec, hbytes, Foc.d34]
  jvm_step here1 [here1.top, hexec, hbytes, Foc.d36]
  jvm_step here1 [here1.top, hexec, hbytes, Foc.d38, if_icmp.holds, h52]
  show Steps p.tables e below ((own_st U vm (.java (entryFrame m #[Value.double b, .double nb, .double pb, .double sg] 15) :: .java g1 :: (mid ++ below))).setTop { method := m, pc := 43, locals := #[.val (.double b), .second, .val (.double nb), .second, .val (.double pb), .second, .val (.double sg), .second, .val (.int (expOf b)), .unset, .unset, .unset, .unset, .unset, .unset], stack := [], locked := none }) _
  refine st2 _ ?_
  show Steps p.tables e below ((own_st U vm2 (.java (entryFrame m #[Value.double b, .double nb, .double pb, .double sg] 15) :: .java g1 :: (mid ++ below))).setTop { method := m, pc := 46, locals := #[.val (.double b), .second, .val (.double nb), .second, .val (.double pb), .second, .val (.double sg), .second, .val (.int (expOf b)), .unset, .unset, .unset, .unset, .unset, .unset], stack := [.int 1], locked := none }) _
  jvm_step here2 [here2.top, hexec, hbytes, Foc.d46, ifCond.wp_sem, ifCond.holds]
  show Steps p.tables e below ((own_st U vm2 (.java (entryFrame m #[Value.double b, .double nb, .double pb, .double sg] 15) :: .java g1 :: (mid ++ below))).setTop { method := m, pc := 69, locals := #[.val (.double b), .second, .val (.double nb), .second, .val (.double pb), .second, .val (.double sg), .second, .val (.int (expOf b)), .unset, .unset, .unset, .unset, .unset, .unset], stack := [], locked := none }) _
  jvm_step here2 [here2.top, hexec, hbytes, Foc.d69]
  refine st3 _ fun acts => ?_
  refine Steps.doubleToRawLongBitsOf (g := { method := m, pc := 70, locals := #[.val (.double b), .second, .val (.double nb), .second, .val (.double pb), .second, .val (.double sg), .second, .val (.int (expOf b)), .unset, .unset, .unset, .unset, .unset, .unset], stack := [], locked := none }) (ig := .invokestatic 77) (len := 3) p here3 acts N' b (by
    rw [own_st_setTop hcur]
    exact own_free_full hcur (hfr 70 _ rfl) (by omega) (by show 4 + 11 ≤ n + 28; omega)) (by rw [hbytes]; exact Foc.d70) ?_
  show Steps p.tables e below ((own_st U vm3 (.java (entryFrame m #[Value.double b, .double nb, .double pb, .double sg] 15) :: .java g1 :: (mid ++ below))).setTop { method := m, pc := 73, locals := #[.val (.double b), .second, .val (.double nb), .second, .val (.double pb), .second, .val (.double sg), .second, .val (.int (expOf b)), .unset, .unset, .unset, .unset, .unset, .unset], stack := [.long b.toInt64], locked := none }) _
  jvm_step here3 [here3.top, hexec, hbytes, Foc.d73]
  refine ⟨#[.val (.double b), .second, .val (.double nb), .second, .val (.double pb), .second, .val (.double sg), .second, .val (.int (expOf b)), .val (.long b.toInt64), .second, .unset, .unset, .unset, .unset], rfl, ?_⟩
  refine own_low_long here3 hW3 hexec hown hk1 (g := { method := m, pc := 75, locals := #[.val (.double b), .second, .val (.double nb), .second, .val (.double pb), .second, .val (.double sg), .second, .val (.int (expOf b)), .val (.long b.toInt64), .second, .unset, .unset, .unset, .unset], stack := [], locked := none }) rfl (by rw [hbytes]; exact Foc.d75) _ ?_
  show Steps p.tables e below ((own_st U vm3 (.java (entryFrame m #[Value.double b, .double nb, .double pb, .double sg] 15) :: .java g1 :: (mid ++ below))).setTop { method := m, pc := 78, locals := #[.val (.double b), .second, .val (.double nb), .second, .val (.double pb), .second, .val (.double sg), .second, .val (.int (expOf b)), .val (.long b.toInt64), .second, .unset, .unset, .unset, .unset], stack := [.long 4503599627370495], locked := none }) _
  jvm_step here3 [here3.top, hexec, hbytes, Foc.d78]
  jvm_step here3 [here3.top, hexec, hbytes, Foc.d80]
  show Steps p.tables e below ((own_st U vm3 (.java (entryFrame m #[Value.double b, .double nb, .double pb, .double sg] 15) :: .java g1 :: (mid ++ below))).setTop { method := m, pc := 81, locals := #[.val (.double b), .second, .val (.double nb), .second, .val (.double pb), .second, .val (.double sg), .second, .val (.int (expOf b)), .val (.long b.toInt64), .second, .unset, .unset, .unset, .unset], stack := [.long (maskOf b)], locked := none }) _
  jvm_step here3 [here3.top, hexec, hbytes, Foc.d81]
  refine ⟨#[.val (.double b), .second, .val (.double nb), .second, .val (.double pb), .second, .val (.double sg), .second, .val (.int (expOf b)), .val (.long b.toInt64), .second, .val (.long (maskOf b)), .second, .unset, .unset], rfl, ?_⟩
  jvm_step here3 [here3.top, hexec, hbytes, Foc.d83]
  jvm_step here3 [here3.top, hexec, hbytes, Foc.d85]
  jvm_step here3 [here3.top, hexec, hbytes, Foc.d87]
  jvm_step here3 [here3.top, hexec, hbytes, Foc.d88]
  exact hrest


set_option maxHeartbeats 16000000 in
theorem own_foc_whole {p : Program} {l : Launch} {e : Env} {s U : State} {vm : Vm} {below mid : List Frame} {args : Array Value} {g1 : JFrame} {meth1 : Method} {c1 : Code} {m : MethodId} {meth : Method} {c : Code} {k n : Nat} {b nb pb sg : UInt64} {ig : Instr}
    (hcur : U.cur < U.threads.size) (hrun : U.status = .running) (hable : U.curStatus? = some .runnable) (hal : U.alone = true)
    (hadm : l.admits e) (hW : s.WarmedH vm) (hexec : p.tables.exec = Jvm.exec) (htab : FocA.tab.before args s = true)
    (hn : s.methodNamed? Foc.yN = some m) (hm : s.vm.method? m = some meth) (hc : meth.code = some c) (hbytes : c.code = Foc.yB) (hret : meth.sig.returnType = some .double) (hl : meth.locks = false)
    (hm1 : s.vm.method? g1.method = some meth1) (hc1 : meth1.code = some c1) (hdg : decode c1.code g1.pc = .ok (ig, 3))
    (hw3 : maskOf b &&& b.toInt64 = 0) :
    Steps p.tables e below ((own_st U vm (.java (entryFrame m #[Value.double b, .double nb, .double pb, .double sg] 15) :: .java g1 :: (mid ++ below))).setTop { method := m, pc := 89, locals := #[.val (.double b), .second, .val (.double nb), .second, .val (.double pb), .second, .val (.double sg), .second, .val (.int (expOf b)), .val (.long b.toInt64), .second, .val (.long (maskOf b)), .second, .unset, .unset], stack := [.long 0, .long (maskOf b &&& b.toInt64)], locked := none }) ((own_st U vm (.java g1 :: (mid ++ below))).setTop { g1 with pc := g1.pc + 3, stack := .double (b) :: g1.stack }) := by
  have hown : s.vm.findClass SM = some m.cls := findClass_of_methodNamed hn
  simp only [FocA.tab, Foc.tab, Cond.before_and, Bool.and_eq_true] at htab
  obtain ⟨⟨-, hLG, hSG, hIM, hTG, hLA, hLD, hND, hSD, hID, hk1⟩, hk2, hLL, hNL, hSL⟩ := htab
  have hat : ∀ vmx, s.WarmedH vmx → At (own_st U vmx (.java (entryFrame m #[Value.double b, .double nb, .double pb, .double sg] 15) :: .java g1 :: (mid ++ below))) m c below := fun vmx hWx => own_st_at (mid := .java g1 :: mid) hcur hrun hable hal hWx (by decide +kernel) hn hm hc
  have hmx : ∀ vmx, s.WarmedH vmx → (own_st U vmx (.java (entryFrame m #[Value.double b, .double nb, .double pb, .double sg] 15) :: .java g1 :: (mid ++ below))).vm.method? m = some meth := fun vmx hWx => by
    show vmx.method? m = some meth
    rw [hWx.alike.method?]; exact hm
  have here3 := hat vm hW
  have hm' := hmx vm hW
  jvm_step here3 [here3.top, hexec, hbytes, Foc.d89, hw3]
  jvm_step here3 [here3.top, hexec, hbytes, Foc.d90, ifCond.wp_sem, ifCond.holds]
  jvm_step here3 [here3.top, hexec, hbytes, Foc.d93]
  show Steps p.tables e below ((own_st U vm (.java (entryFrame m #[Value.double b, .double nb, .double pb, .double sg] 15) :: .java g1 :: (mid ++ below))).setTop { method := m, pc := 94, locals := #[.val (.double b), .second, .val (.double nb), .second, .val (.double pb), .second, .val (.double sg), .second, .val (.int (expOf b)), .val (.long b.toInt64), .second, .val (.long (maskOf b)), .second, .unset, .unset], stack := [.double b], locked := none }) _
  jvm_step here3 [here3.top, hexec, hbytes, FocA.e94, hm', hret, narrow]
  have hend := fun (acts : List Action) => own_low_ret (e := e) (v := .double (b)) (f0 := (entryFrame m #[Value.double b, .double nb, .double pb, .double sg] 15)) (R := mid ++ below) hcur hW hm hl hm1 hc1 hdg { method := m, pc := 94, locals := #[.val (.double b), .second, .val (.double nb), .second, .val (.double pb), .second, .val (.double sg), .second, .val (.int (expOf b)), .val (.long b.toInt64), .second, .val (.long (maskOf b)), .second, .unset, .unset], stack := [], locked := none } acts rfl rfl rfl
  first | (intro acts; rw [hend acts]) | (refine ⟨meth, hm', ⟨_, hret, rfl⟩, fun acts => ?_⟩; rw [hend acts])
  exact Steps.refl _


set_option maxHeartbeats 16000000 in
theorem own_foc_cut {p : Program} {l : Launch} {e : Env} {s U : State} {vm : Vm} {below mid : List Frame} {args : Array Value} {g1 : JFrame} {meth1 : Method} {c1 : Code} {m : MethodId} {meth : Method} {c : Code} {k n : Nat} {b nb pb sg : UInt64} {ig : Instr}
    (hcur : U.cur < U.threads.size) (hrun : U.status = .running) (hable : U.curStatus? = some .runnable) (hal : U.alone = true)
    (hadm : l.admits e) (hW : s.WarmedH vm) (hexec : p.tables.exec = Jvm.exec) (htab : FocA.tab.before args s = true)
    (hn : s.methodNamed? Foc.yN = some m) (hm : s.vm.method? m = some meth) (hc : meth.code = some c) (hbytes : c.code = Foc.yB) (hret : meth.sig.returnType = some .double) (hl : meth.locks = false)
    (hm1 : s.vm.method? g1.method = some meth1) (hc1 : meth1.code = some c1) (hdg : decode c1.code g1.pc = .ok (ig, 3))
    (hfree : own_free e U (.java g1 :: (mid ++ below)) (k + 3) (n + 54)) (hfin : Fin64 b) (hsg : Fin64 sg) (hw3 : ¬ maskOf b &&& b.toInt64 = 0) :
    ∃ vm1, s.WarmedH vm1 ∧ ∀ target, Steps p.tables e below ((own_st U vm1 (.java (entryFrame m #[Value.double b, .double nb, .double pb, .double sg] 15) :: .java g1 :: (mid ++ below))).setTop { method := m, pc := 115, locals := #[.val (.double b), .second, .val (.double nb), .second, .val (.double pb), .second, .val (.double sg), .second, .val (.int (expOf b)), .val (.long b.toInt64), .second, .val (.long (maskOf b)), .second, .val (.double (cutOf b)), .second], stack := [.int (cmpValue (FP.dcmp (FP.dmul sg b) 0) .l)], locked := none }) target → Steps p.tables e below ((own_st U vm (.java (entryFrame m #[Value.double b, .double nb, .double pb, .double sg] 15) :: .java g1 :: (mid ++ below))).setTop { method := m, pc := 89, locals := #[.val (.double b), .second, .val (.double nb), .second, .val (.double pb), .second, .val (.double sg), .second, .val (.int (expOf b)), .val (.long b.toInt64), .second, .val (.long (maskOf b)), .second, .unset, .unset], stack := [.long 0, .long (maskOf b &&& b.toInt64)], locked := none }) target := by
  have hown : s.vm.findClass SM = some m.cls := findClass_of_methodNamed hn
  simp only [FocA.tab, Foc.tab, Cond.before_and, Bool.and_eq_true] at htab
  obtain ⟨⟨-, hLG, hSG, hIM, hTG, hLA, hLD, hND, hSD, hID, hk1⟩, hk2, hLL, hNL, hSL⟩ := htab
  have hat : ∀ vmx, s.WarmedH vmx → At (own_st U vmx (.java (entryFrame m #[Value.double b, .double nb, .double pb, .double sg] 15) :: .java g1 :: (mid ++ below))) m c below := fun vmx hWx => own_st_at (mid := .java g1 :: mid) hcur hrun hable hal hWx (by decide +kernel) hn hm hc
  have hmx : ∀ vmx, s.WarmedH vmx → (own_st U vmx (.java (entryFrame m #[Value.double b, .double nb, .double pb, .double sg] 15) :: .java g1 :: (mid ++ below))).vm.method? m = some meth := fun vmx hWx => by
    show vmx.method? m = some meth
    rw [hWx.alike.method?]; exact hm
  have hfr : ∀ (pc : Nat) (ls : Array Slot), ls.size = 15 → own_free e U (.java { method := m, pc := pc, locals := ls, stack := [], locked := none } :: .java g1 :: (mid ++ below)) (k + 2) (n + 28) := fun pc ls hs => own_free_java hfree (by
    show n + 28 + (ls.size + 11 + 2 * 0 + 0) ≤ n + 54
    omega)
  have here3 := hat vm hW
  have hcf := cut_fin hfin
  obtain ⟨r, kS, methS, hnS, hmS, hkS, NO⟩ := NativeOf.of_static hNL hSL (ps := [.long]) (ret := some .double) (by decide +kernel)
  have hinitS : kS.init = .initialized := Cond.initialized_spec (findClass_of_methodNamed hnS) hkS hID
  obtain ⟨vm4, hW4, st4⟩ := own_low_static hadm here3 hW hexec hown hLL hnS hmS NO.static hkS hinitS (by decide) (g := { method := m, pc := 104, locals := #[.val (.double b), .second, .val (.double nb), .second, .val (.double pb), .second, .val (.double sg), .second, .val (.int (expOf b)), .val (.long b.toInt64), .second, .val (.long (maskOf b)), .second, .unset, .unset], stack := [.long (b.toInt64 &&& ~~~(maskOf b))], locked := none }) rfl (argsL := [.long (b.toInt64 &&& ~~~(maskOf b))]) (rest := []) (by rw [NO.sig]; rfl) rfl (by rw [hbytes]; exact FocA.e104)
  obtain ⟨kS', N'⟩ := NO.alike hW4.alike
  rw [own_st_setVm] at st4
  have here4 := hat vm4 hW4
  have hmul : FP.dmul sg b &&& 0x7fffffffffffffff ≤ 0x7ff0000000000000 := dmul_out hsg hfin
  refine ⟨vm4, hW4, fun target hrest => ?_⟩
  have h95 : Steps p.tables e below ((own_st U vm (.java (entryFrame m #[Value.double b, .double nb, .double pb, .double sg] 15) :: .java g1 :: (mid ++ below))).setTop { method := m, pc := 95, locals := #[.val (.double b), .second, .val (.double nb), .second, .val (.double pb), .second, .val (.double sg), .second, .val (.int (expOf b)), .val (.long b.toInt64), .second, .val (.long (maskOf b)), .second, .unset, .unset], stack := [], locked := none }) target := ?_
  · by_cases hp : maskOf b &&& b.toInt64 > 0
    · jvm_step here3 [here3.top, hexec, hbytes, Foc.d89, hp]
      jvm_step here3 [here3.top, hexec, hbytes, Foc.d90, ifCond.wp_sem, ifCond.holds]
      exact h95
    · jvm_step here3 [here3.top, hexec, hbytes, Foc.d89, hp, hw3]
      jvm_step here3 [here3.top, hexec, hbytes, Foc.d90, ifCond.wp_sem, ifCond.holds]
      exact h95
  jvm_step here3 [here3.top, hexec, hbytes, FocA.e95]
  jvm_step here3 [here3.top, hexec, hbytes, FocA.e97]
  refine own_low_long here3 hW hexec hown hk2 (g := { method := m, pc := 99, locals := #[.val (.double b), .second, .val (.double nb), .second, .val (.double pb), .second, .val (.double sg), .second, .val (.int (expOf b)), .val (.long b.toInt64), .second, .val (.long (maskOf b)), .second, .unset, .unset], stack := [.long (maskOf b), .long b.toInt64], locked := none }) rfl (by rw [hbytes]; exact FocA.e99) _ ?_
  show Steps p.tables e below ((own_st U vm (.java (entryFrame m #[Value.double b, .double nb, .double pb, .double sg] 15) :: .java g1 :: (mid ++ below))).setTop { method := m, pc := 102, locals := #[.val (.double b), .second, .val (.double nb), .second, .val (.double pb), .second, .val (.double sg), .second, .val (.int (expOf b)), .val (.long b.toInt64), .second, .val (.long (maskOf b)), .second, .unset, .unset], stack := [.long (-1), .long (maskOf b), .long b.toInt64], locked := none }) _
  jvm_step here3 [here3.top, hexec, hbytes, FocA.e102]
  show Steps p.tables e below ((own_st U vm (.java (entryFrame m #[Value.double b, .double nb, .double pb, .double sg] 15) :: .java g1 :: (mid ++ below))).setTop { method := m, pc := 103, locals := #[.val (.double b), .second, .val (.double nb), .second, .val (.double pb), .second, .val (.double sg), .second, .val (.int (expOf b)), .val (.long b.toInt64), .second, .val (.long (maskOf b)), .second, .unset, .unset], stack := [.long (~~~(maskOf b)), .long b.toInt64], locked := none }) _
  jvm_step here3 [here3.top, hexec, hbytes, FocA.e103]
  refine st4 _ fun acts => ?_
  refine Steps.longBitsToDoubleOf (g := { method := m, pc := 104, locals := #[.val (.double b), .second, .val (.double nb), .second, .val (.double pb), .second, .val (.double sg), .second, .val (.int (expOf b)), .val (.long b.toInt64), .second, .val (.long (maskOf b)), .second, .unset, .unset], stack := [], locked := none }) (ig := .invokestatic 89) (len := 3) p here4 acts N' (b.toInt64 &&& ~~~(maskOf b)) (by
    rw [own_st_setTop hcur]
    exact own_free_full hcur (hfr 104 _ rfl) (by omega) (by show 4 + 11 ≤ n + 28; omega)) (by
      have h : ¬ (cutOf b &&& 0x7fffffffffffffff > 0x7ff0000000000000) := UInt64.not_lt.mpr hcf.noNaN
      show (decide (cutOf b &&& 0x7fffffffffffffff > 0x7ff0000000000000) && _) = false
      rw [decide_eq_false h]; rfl) (by rw [hbytes]; exact FocA.e104) ?_
  show Steps p.tables e below ((own_st U vm4 (.java (entryFrame m #[Value.double b, .double nb, .double pb, .double sg] 15) :: .java g1 :: (mid ++ below))).setTop { method := m, pc := 107, locals := #[.val (.double b), .second, .val (.double nb), .second, .val (.double pb), .second, .val (.double sg), .second, .val (.int (expOf b)), .val (.long b.toInt64), .second, .val (.long (maskOf b)), .second, .unset, .unset], stack := [.double (cutOf b)], locked := none }) _
  jvm_step here4 [here4.top, hexec, hbytes, FocA.e107]
  refine ⟨#[.val (.double b), .second, .val (.double nb), .second, .val (.double pb), .second, .val (.double sg), .second, .val (.int (expOf b)), .val (.long b.toInt64), .second, .val (.long (maskOf b)), .second, .val (.double (cutOf b)), .second], rfl, ?_⟩
  jvm_step here4 [here4.top, hexec, hbytes, FocA.e109]
  jvm_step here4 [here4.top, hexec, hbytes, FocA.e111]
  show Steps p.tables e below ((own_st U vm4 (.java (entryFrame m #[Value.double b, .double nb, .double pb, .double sg] 15) :: .java g1 :: (mid ++ below))).setTop { method := m, pc := 112, locals := #[.val (.double b), .second, .val (.double nb), .second, .val (.double pb), .second, .val (.double sg), .second, .val (.int (expOf b)), .val (.long b.toInt64), .second, .val (.long (maskOf b)), .second, .val (.double (cutOf b)), .second], stack := [.double b, .double sg], locked := none }) _
  jvm_step here4 [here4.top, hexec, hbytes, FocA.e112, dmul.wp_number (hr := hmul)]
  jvm_step here4 [here4.top, hexec, hbytes, FocA.e113]
  show Steps p.tables e below ((own_st U vm4 (.java (entryFrame m #[Value.double b, .double nb, .double pb, .double sg] 15) :: .java g1 :: (mid ++ below))).setTop { method := m, pc := 114, locals := #[.val (.double b), .second, .val (.double nb), .second, .val (.double pb), .second, .val (.double sg), .second, .val (.int (expOf b)), .val (.long b.toInt64), .second, .val (.long (maskOf b)), .second, .val (.double (cutOf b)), .second], stack := [.double 0, .double (FP.dmul sg b)], locked := none }) _
  jvm_step here4 [here4.top, hexec, hbytes, FocA.e114, dcmp.wp_sem]
  exact hrest


set_option maxHeartbeats 16000000 in
theorem own_foc_end1 {p : Program} {l : Launch} {e : Env} {s U : State} {vm : Vm} {below mid : List Frame} {args : Array Value} {g1 : JFrame} {meth1 : Method} {c1 : Code} {m : MethodId} {meth : Method} {c : Code} {k n : Nat} {b nb pb sg : UInt64} {ig : Instr}
    (hcur : U.cur < U.threads.size) (hrun : U.status = .running) (hable : U.curStatus? = some .runnable) (hal : U.alone = true)
    (hadm : l.admits e) (hW : s.WarmedH vm) (hexec : p.tables.exec = Jvm.exec) (htab : FocA.tab.before args s = true)
    (hn : s.methodNamed? Foc.yN = some m) (hm : s.vm.method? m = some meth) (hc : meth.code = some c) (hbytes : c.code = Foc.yB) (hret : meth.sig.returnType = some .double) (hl : meth.locks = false)
    (hm1 : s.vm.method? g1.method = some meth1) (hc1 : meth1.code = some c1) (hdg : decode c1.code g1.pc = .ok (ig, 3))
    (hle : cmpValue (FP.dcmp (FP.dmul sg b) 0) .l ≤ 0) :
    Steps p.tables e below ((own_st U vm (.java (entryFrame m #[Value.double b, .double nb, .double pb, .double sg] 15) :: .java g1 :: (mid ++ below))).setTop { method := m, pc := 115, locals := #[.val (.double b), .second, .val (.double nb), .second, .val (.double pb), .second, .val (.double sg), .second, .val (.int (expOf b)), .val (.long b.toInt64), .second, .val (.long (maskOf b)), .second, .val (.double (cutOf b)), .second], stack := [.int (cmpValue (FP.dcmp (FP.dmul sg b) 0) .l)], locked := none }) ((own_st U vm (.java g1 :: (mid ++ below))).setTop { g1 with pc := g1.pc + 3, stack := .double (cutOf b) :: g1.stack }) := by
  have hown : s.vm.findClass SM = some m.cls := findClass_of_methodNamed hn
  simp only [FocA.tab, Foc.tab, Cond.before_and, Bool.and_eq_true] at htab
  obtain ⟨⟨-, hLG, hSG, hIM, hTG, hLA, hLD, hND, hSD, hID, hk1⟩, hk2, hLL, hNL, hSL⟩ := htab
  have hat : ∀ vmx, s.WarmedH vmx → At (own_st U vmx (.java (entryFrame m #[Value.double b, .double nb, .double pb, .double sg] 15) :: .java g1 :: (mid ++ below))) m c below := fun vmx hWx => own_st_at (mid := .java g1 :: mid) hcur hrun hable hal hWx (by decide +kernel) hn hm hc
  have hmx : ∀ vmx, s.WarmedH vmx → (own_st U vmx (.java (entryFrame m #[Value.double b, .double nb, .double pb, .double sg] 15) :: .java g1 :: (mid ++ below))).vm.method? m = some meth := fun vmx hWx => by
    show vmx.method? m = some meth
    rw [hWx.alike.method?]; exact hm
  have here4 := hat vm hW
  have hm' := hmx vm hW
  jvm_step here4 [here4.top, hexec, hbytes, FocA.e115, ifCond.wp_sem, ifCond.holds, hle]
  show Steps p.tables e below ((own_st U vm (.java (entryFrame m #[Value.double b, .double nb, .double pb, .double sg] 15) :: .java g1 :: (mid ++ below))).setTop { method := m, pc := 125, locals := #[.val (.double b), .second, .val (.double nb), .second, .val (.double pb), .second, .val (.double sg), .second, .val (.int (expOf b)), .val (.long b.toInt64), .second, .val (.long (maskOf b)), .second, .val (.double (cutOf b)), .second], stack := [], locked := none }) _
  jvm_step here4 [here4.top, hexec, hbytes, FocA.e125]
  show Steps p.tables e below ((own_st U vm (.java (entryFrame m #[Value.double b, .double nb, .double pb, .double sg] 15) :: .java g1 :: (mid ++ below))).setTop { method := m, pc := 127, locals := #[.val (.double b), .second, .val (.double nb), .second, .val (.double pb), .second, .val (.double sg), .second, .val (.int (expOf b)), .val (.long b.toInt64), .second, .val (.long (maskOf b)), .second, .val (.double (cutOf b)), .second], stack := [.double (cutOf b)], locked := none }) _
  jvm_step here4 [here4.top, hexec, hbytes, FocA.e127, hm', hret, narrow]
  have hend := fun (acts : List Action) => own_low_ret (e := e) (v := .double (cutOf b)) (f0 := (entryFrame m #[Value.double b, .double nb, .double pb, .double sg] 15)) (R := mid ++ below) hcur hW hm hl hm1 hc1 hdg { method := m, pc := 127, locals := #[.val (.double b), .second, .val (.double nb), .second, .val (.double pb), .second, .val (.double sg), .second, .val (.int (expOf b)), .val (.long b.toInt64), .second, .val (.long (maskOf b)), .second, .val (.double (cutOf b)), .second], stack := [], locked := none } acts rfl rfl rfl
  first | (intro acts; rw [hend acts]) | (refine ⟨meth, hm', ⟨_, hret, rfl⟩, fun acts => ?_⟩; rw [hend acts])
  exact Steps.refl _


set_option maxHeartbeats 16000000 in
theorem own_foc_end2 {p : Program} {l : Launch} {e : Env} {s U : State} {vm : Vm} {below mid : List Frame} {args : Array Value} {g1 : JFrame} {meth1 : Method} {c1 : Code} {m : MethodId} {meth : Method} {c : Code} {k n : Nat} {b nb pb sg : UInt64} {ig : Instr}
    (hcur : U.cur < U.threads.size) (hrun : U.status = .running) (hable : U.curStatus? = some .runnable) (hal : U.alone = true)
    (hadm : l.admits e) (hW : s.WarmedH vm) (hexec : p.tables.exec = Jvm.exec) (htab : FocA.tab.before args s = true)
    (hn : s.methodNamed? Foc.yN = some m) (hm : s.vm.method? m = some meth) (hc : meth.code = some c) (hbytes : c.code = Foc.yB) (hret : meth.sig.returnType = some .double) (hl : meth.locks = false)
    (hm1 : s.vm.method? g1.method = some meth1) (hc1 : meth1.code = some c1) (hdg : decode c1.code g1.pc = .ok (ig, 3))
    (hfin : Fin64 b) (hsg : Fin64 sg) (hle : ¬ cmpValue (FP.dcmp (FP.dmul sg b) 0) .l ≤ 0) :
    Steps p.tables e below ((own_st U vm (.java (entryFrame m #[Value.double b, .double nb, .double pb, .double sg] 15) :: .java g1 :: (mid ++ below))).setTop { method := m, pc := 115, locals := #[.val (.double b), .second, .val (.double nb), .second, .val (.double pb), .second, .val (.double sg), .second, .val (.int (expOf b)), .val (.long b.toInt64), .second, .val (.long (maskOf b)), .second, .val (.double (cutOf b)), .second], stack := [.int (cmpValue (FP.dcmp (FP.dmul sg b) 0) .l)], locked := none }) ((own_st U vm (.java g1 :: (mid ++ below))).setTop { g1 with pc := g1.pc + 3, stack := .double (FP.dadd (cutOf b) sg) :: g1.stack }) := by
  have hown : s.vm.findClass SM = some m.cls := findClass_of_methodNamed hn
  simp only [FocA.tab, Foc.tab, Cond.before_and, Bool.and_eq_true] at htab
  obtain ⟨⟨-, hLG, hSG, hIM, hTG, hLA, hLD, hND, hSD, hID, hk1⟩, hk2, hLL, hNL, hSL⟩ := htab
  have hat : ∀ vmx, s.WarmedH vmx → At (own_st U vmx (.java (entryFrame m #[Value.double b, .double nb, .double pb, .double sg] 15) :: .java g1 :: (mid ++ below))) m c below := fun vmx hWx => own_st_at (mid := .java g1 :: mid) hcur hrun hable hal hWx (by decide +kernel) hn hm hc
  have hmx : ∀ vmx, s.WarmedH vmx → (own_st U vmx (.java (entryFrame m #[Value.double b, .double nb, .double pb, .double sg] 15) :: .java g1 :: (mid ++ below))).vm.method? m = some meth := fun vmx hWx => by
    show vmx.method? m = some meth
    rw [hWx.alike.method?]; exact hm
  have here4 := hat vm hW
  have hm' := hmx vm hW
  have hadd : FP.dadd (cutOf b) sg &&& 0x7fffffffffffffff ≤ 0x7ff0000000000000 := dadd_out (cut_fin hfin).noNaN hsg
  jvm_step here4 [here4.top, hexec, hbytes, FocA.e115, ifCond.wp_sem, ifCond.holds, hle]
  show Steps p.tables e below ((own_st U vm (.java (entryFrame m #[Value.double b, .double nb, .double pb, .double sg] 15) :: .java g1 :: (mid ++ below))).setTop { method := m, pc := 118, locals := #[.val (.double b), .second, .val (.double nb), .second, .val (.double pb), .second, .val (.double sg), .second, .val (.int (expOf b)), .val (.long b.toInt64), .second, .val (.long (maskOf b)), .second, .val (.double (cutOf b)), .second], stack := [], locked := none }) _
  jvm_step here4 [here4.top, hexec, hbytes, FocA.e118]
  jvm_step here4 [here4.top, hexec, hbytes, FocA.e120]
  show Steps p.tables e below ((own_st U vm (.java (entryFrame m #[Value.double b, .double nb, .double pb, .double sg] 15) :: .java g1 :: (mid ++ below))).setTop { method := m, pc := 122, locals := #[.val (.double b), .second, .val (.double nb), .second, .val (.double pb), .second, .val (.double sg), .second, .val (.int (expOf b)), .val (.long b.toInt64), .second, .val (.long (maskOf b)), .second, .val (.double (cutOf b)), .second], stack := [.double sg, .double (cutOf b)], locked := none }) _
  jvm_step here4 [here4.top, hexec, hbytes, FocA.e122, dadd.wp_number (hr := hadd)]
  show Steps p.tables e below ((own_st U vm (.java (entryFrame m #[Value.double b, .double nb, .double pb, .double sg] 15) :: .java g1 :: (mid ++ below))).setTop { method := m, pc := 123, locals := #[.val (.double b), .second, .val (.double nb), .second, .val (.double pb), .second, .val (.double sg), .second, .val (.int (expOf b)), .val (.long b.toInt64), .second, .val (.long (maskOf b)), .second, .val (.double (cutOf b)), .second], stack := [.double (FP.dadd (cutOf b) sg)], locked := none }) _
  jvm_step here4 [here4.top, hexec, hbytes, FocA.e123]
  refine ⟨#[.val (.double b), .second, .val (.double nb), .second, .val (.double pb), .second, .val (.double sg), .second, .val (.int (expOf b)), .val (.long b.toInt64), .second, .val (.long (maskOf b)), .second, .val (.double (FP.dadd (cutOf b) sg)), .second], rfl, ?_⟩
  jvm_step here4 [here4.top, hexec, hbytes, FocA.e125]
  show Steps p.tables e below ((own_st U vm (.java (entryFrame m #[Value.double b, .double nb, .double pb, .double sg] 15) :: .java g1 :: (mid ++ below))).setTop { method := m, pc := 127, locals := #[.val (.double b), .second, .val (.double nb), .second, .val (.double pb), .second, .val (.double sg), .second, .val (.int (expOf b)), .val (.long b.toInt64), .second, .val (.long (maskOf b)), .second, .val (.double (FP.dadd (cutOf b) sg)), .second], stack := [.double (FP.dadd (cutOf b) sg)], locked := none }) _
  jvm_step here4 [here4.top, hexec, hbytes, FocA.e127, hm', hret, narrow]
  have hend := fun (acts : List Action) => own_low_ret (e := e) (v := .double (FP.dadd (cutOf b) sg)) (f0 := (entryFrame m #[Value.double b, .double nb, .double pb, .double sg] 15)) (R := mid ++ below) hcur hW hm hl hm1 hc1 hdg { method := m, pc := 127, locals := #[.val (.double b), .second, .val (.double nb), .second, .val (.double pb), .second, .val (.double sg), .second, .val (.int (expOf b)), .val (.long b.toInt64), .second, .val (.long (maskOf b)), .second, .val (.double (FP.dadd (cutOf b) sg)), .second], stack := [], locked := none } acts rfl rfl rfl
  first | (intro acts; rw [hend acts]) | (refine ⟨meth, hm', ⟨_, hret, rfl⟩, fun acts => ?_⟩; rw [hend acts])
  exact Steps.refl _

theorem own_low_foc {p : Program} {l : Launch} {e : Env} {s U : State} {vm : Vm} {below mid : List Frame} {args : Array Value} {g1 : JFrame} {meth1 : Method} {c1 : Code} {m : MethodId} {meth : Method} {c : Code} {k n : Nat} {b nb pb sg : UInt64} {ig : Instr}
    (hcur : U.cur < U.threads.size) (hrun : U.status = .running) (hable : U.curStatus? = some .runnable) (hal : U.alone = true)
    (hadm : l.admits e) (hW : s.WarmedH vm) (hexec : p.tables.exec = Jvm.exec) (htab : FocA.tab.before args s = true)
    (hn : s.methodNamed? Foc.yN = some m) (hm : s.vm.method? m = some meth) (hc : meth.code = some c) (hbytes : c.code = Foc.yB) (hret : meth.sig.returnType = some .double) (hl : meth.locks = false)
    (hm1 : s.vm.method? g1.method = some meth1) (hc1 : meth1.code = some c1) (hdg : decode c1.code g1.pc = .ok (ig, 3))
    (hfree : own_free e U (.java g1 :: (mid ++ below)) (k + 3) (n + 54)) (hAs : ∃ (cf i : Nat) (k : Class) (f : Field) (a₁ : Addr) (cell₁ : Cell), s.fieldFound? SM "$assertionsDisabled" "Z" = some (cf, k, i, f) ∧ f.isStatic = true ∧ k.init = .initialized ∧ k.statics = some a₁ ∧ U.heap[a₁]? = some cell₁ ∧ cell₁.vm ≠ .unknown ∧ cell₁.slots[f.slot]? = some (.int 1)) (hb : NoNaN64 b) (hsg : Fin64 sg) (h52 : expOf b < 52) (hpos : 0 ≤ cmpValue (FP.dcmp b 0) .g) :
    ∃ vm', s.WarmedH vm' ∧ Steps p.tables e below ((own_st U vm (.java (entryFrame m #[Value.double b, .double nb, .double pb, .double sg] 15) :: .java g1 :: (mid ++ below))).setTop (entryFrame m #[Value.double b, .double nb, .double pb, .double sg] 15)) ((own_st U vm' (.java g1 :: (mid ++ below))).setTop { g1 with pc := g1.pc + 3, stack := .double (focOf b nb pb sg) :: g1.stack }) := by
  obtain ⟨vm1, hW1, c8⟩ := own_foc_head (nb := nb) (pb := pb) (sg := sg) (b := b) hcur hrun hable hal hadm hW hexec htab hn hm hc hbytes hret hl hm1 hc1 hdg hfree
  by_cases hw1 : expOf b < 0
  · by_cases hz : cmpValue (FP.dcmp b 0) .l = 0
    · have hval : focOf b nb pb sg = b := by simp [focOf, hw1, hz]
      rw [hval]
      exact ⟨vm1, hW1, c8 _ (own_foc_zero (k := 0) (n := 0) hcur hrun hable hal hadm hW1 hexec htab hn hm hc hbytes hret hl hm1 hc1 hdg hw1 hz)⟩
    · have hl' : ¬ cmpValue (FP.dcmp b 0) .g < 0 := Int32.not_lt.mpr hpos
      have hval : focOf b nb pb sg = pb := by simp [focOf, hw1, hz, hl']
      rw [hval]
      exact ⟨vm1, hW1, c8 _ (own_foc_low (k := 0) (n := 0) hcur hrun hable hal hadm hW1 hexec htab hn hm hc hbytes hret hl hm1 hc1 hdg hw1 hz hpos)⟩
  · have hfin := fin_of_exp hb h52
    obtain ⟨vm2, hW2, c89⟩ := own_foc_mid (nb := nb) (pb := pb) (sg := sg) hcur hrun hable hal hadm hW1 hexec htab hn hm hc hbytes hret hl hm1 hc1 hdg hfree hAs hw1 h52
    by_cases hw3 : maskOf b &&& b.toInt64 = 0
    · have hval : focOf b nb pb sg = b := by simp [focOf, hw1, h52, hw3]
      rw [hval]
      exact ⟨vm2, hW2, c8 _ (c89 _ (own_foc_whole (k := 0) (n := 0) hcur hrun hable hal hadm hW2 hexec htab hn hm hc hbytes hret hl hm1 hc1 hdg hw3))⟩
    · obtain ⟨vm3, hW3, c115⟩ := own_foc_cut (nb := nb) (pb := pb) (sg := sg) hcur hrun hable hal hadm hW2 hexec htab hn hm hc hbytes hret hl hm1 hc1 hdg hfree hfin hsg hw3
      by_cases hle : cmpValue (FP.dcmp (FP.dmul sg b) 0) .l ≤ 0
      · have hval : focOf b nb pb sg = cutOf b := by simp [focOf, hw1, h52, hw3, hle]
        rw [hval]
        exact ⟨vm3, hW3, c8 _ (c89 _ (c115 _ (own_foc_end1 (k := 0) (n := 0) hcur hrun hable hal hadm hW3 hexec htab hn hm hc hbytes hret hl hm1 hc1 hdg hle)))⟩
      · have hval : focOf b nb pb sg = FP.dadd (cutOf b) sg := by simp [focOf, hw1, h52, hw3, hle]
        rw [hval]
        exact ⟨vm3, hW3, c8 _ (c89 _ (c115 _ (own_foc_end2 (k := 0) (n := 0) hcur hrun hable hal hadm hW3 hexec htab hn hm hc hbytes hret hl hm1 hc1 hdg hfin hsg hle)))⟩

theorem own_low_ceil {p : Program} {l : Launch} {e : Env} {s U : State} {vm : Vm} {below mid : List Frame} {args : Array Value} {N : NFrame} {m : MethodId} {meth : Method} {c : Code} {k n : Nat} {b : UInt64}
    (hcur : U.cur < U.threads.size) (hrun : U.status = .running) (hable : U.curStatus? = some .runnable) (hal : U.alone = true)
    (hadm : l.admits e) (hW : s.WarmedH vm) (hexec : p.tables.exec = Jvm.exec) (htab : SCeilA.tab.before args s = true)
    (hn : s.methodNamed? SCeilA.yN = some m) (hm : s.vm.method? m = some meth) (hc : meth.code = some c) (hbytes : c.code = SCeilA.yB) (hret : meth.sig.returnType = some .double) (hl : meth.locks = false)
    (hfree : own_free e U (.native N :: (mid ++ below)) (k + 4) (n + 67)) (hAs : ∃ (cf i : Nat) (k : Class) (f : Field) (a₁ : Addr) (cell₁ : Cell), s.fieldFound? SM "$assertionsDisabled" "Z" = some (cf, k, i, f) ∧ f.isStatic = true ∧ k.init = .initialized ∧ k.statics = some a₁ ∧ U.heap[a₁]? = some cell₁ ∧ cell₁.vm ≠ .unknown ∧ cell₁.slots[f.slot]? = some (.int 1))
    (hb : NoNaN64 b) (h52 : expOf b < 52) (hpos : 0 ≤ cmpValue (FP.dcmp b 0) .g) :
    ∃ vm', s.WarmedH vm' ∧ Steps p.tables e below ((own_st U vm (.java (entryFrame m #[.double b] 2) :: .native N :: (mid ++ below))).setTop (entryFrame m #[.double b] 2))
      (own_st U vm' (.native { N with awaiting := false, answer := some (.returned (some (.double (ceilOf b)))) } :: (mid ++ below))) := by
  have hown : s.vm.findClass SM = some m.cls := findClass_of_methodNamed hn
  simp only [SCeilA.tab, Cond.before_and, Bool.and_eq_true] at htab
  obtain ⟨-, hk1, hLF, hSF, hIS, hTF⟩ := htab
  have hCF : (Cond.code Foc.yN Foc.yB 15 (some .double)).before args s = true := by have h := hTF; simp only [FocA.tab, Foc.tab, Cond.before_and, Bool.and_eq_true] at h; exact h.1.1
  obtain ⟨mF, hnF⟩ := Cond.code_named hCF
  obtain ⟨methF, cF, hmF, hcF, hbF, hlF, hrF, hlkF, -, hsF⟩ := Cond.code_spec hnF hCF
  have hat : ∀ vmx, s.WarmedH vmx → At (own_st U vmx (.java (entryFrame m #[.double b] 2) :: .native N :: (mid ++ below))) m c below := fun vmx hWx => own_st_at (mid := .native N :: mid) hcur hrun hable hal hWx (by decide +kernel) hn hm hc
  have here0 := hat vm hW
  have hfr : own_free e U (.java { method := m, pc := 6, locals := #[.val (.double b), .second], stack := [], locked := none } :: .native N :: (mid ++ below)) (k + 3) (n + 54) := own_free_java hfree (by show n + 54 + 13 ≤ n + 67; omega)
  obtain ⟨vma, hWa, stepa⟩ := own_low_call hcur hadm here0 hW hexec hown hLF hSF hIS hnF hmF hcF hlF hlkF (by decide) (k := k + 2) (n := n + 54)
    (g := { method := m, pc := 6, locals := #[.val (.double b), .second], stack := [.double 0x3FF0000000000000, .double 0x3FF0000000000000, .double 0x8000000000000000, .double b], locked := none }) rfl
    (argsL := [.double b, .double 0x8000000000000000, .double 0x3FF0000000000000, .double 0x3FF0000000000000]) (rest := []) (by rw [← Option.some.inj ((show parseMethodDescriptor Foc.yN.desc = some ⟨[.double, .double, .double, .double], some .double⟩ from by decide +kernel).symm.trans hsF)]; rfl) rfl (by rw [hbytes]; exact SCeilA.d6) hfr (by omega)
  obtain ⟨vm1, hW1, stepb⟩ := own_low_foc (b := b) (nb := 0x8000000000000000) (pb := 0x3FF0000000000000) (sg := 0x3FF0000000000000) (mid := .native N :: mid) (g1 := { method := m, pc := 6, locals := #[.val (.double b), .second], stack := [], locked := none }) (k := k) (n := n)
    hcur hrun hable hal hadm hWa hexec hTF hnF hmF hcF hbF hrF hlkF hm hc (by rw [hbytes]; exact SCeilA.d6) hfr hAs hb (by unfold Fin64; decide) h52 hpos
  have here1 := hat vm1 hW1
  have hm' : (own_st U vm1 (.java (entryFrame m #[.double b] 2) :: .native N :: (mid ++ below))).vm.method? m = some meth := by
    show vm1.method? m = some meth
    rw [hW1.alike.method?]; exact hm
  refine ⟨vm1, hW1, ?_⟩
  show Steps p.tables e below ((own_st U vm (.java (entryFrame m #[.double b] 2) :: .native N :: (mid ++ below))).setTop { method := m, pc := 0, locals := #[.val (.double b), .second], stack := [], locked := none }) _
  jvm_step here0 [here0.top, hexec, hbytes, SCeilA.d0]
  refine own_low_double here0 hW hexec hown hk1 (g := { method := m, pc := 1, locals := #[.val (.double b), .second], stack := [.double b], locked := none }) rfl (by rw [hbytes]; exact SCeilA.d1) _ ?_
  show Steps p.tables e below ((own_st U vm (.java (entryFrame m #[.double b] 2) :: .native N :: (mid ++ below))).setTop { method := m, pc := 4, locals := #[.val (.double b), .second], stack := [.double 0x8000000000000000, .double b], locked := none }) _
  jvm_step here0 [here0.top, hexec, hbytes, SCeilA.d4]
  jvm_step here0 [here0.top, hexec, hbytes, SCeilA.d5]
  refine stepa _ (stepb.trans ?_)
  have e1 := own_st_setTop hcur vm1 (entryFrame m #[.double b] 2) { method := m, pc := 9, locals := #[.val (.double b), .second], stack := [.double (ceilOf b)], locked := none } (.native N :: (mid ++ below))
  rw [own_st_setTop hcur]
  refine e1 ▸ ?_
  jvm_step here1 [here1.top, hexec, hbytes, SCeilA.d9, hm', hret, narrow]
  have hend := fun (acts : List Action) => own_low_retN (e := e) (v := .double (ceilOf b)) (f0 := entryFrame m #[.double b] 2) (N := N) (R := mid ++ below) hcur hW1 hm hl { method := m, pc := 9, locals := #[.val (.double b), .second], stack := [], locked := none } acts rfl rfl rfl
  first | (intro acts; rw [hend acts]) | (refine ⟨meth, hm', ⟨_, hret, rfl⟩, fun acts => ?_⟩; rw [hend acts])
  exact Steps.refl _

set_option maxHeartbeats 4000000 in
/-- **Math.ceil(double) at a site, in a small room**: for numbers that are no NaN, not below zero, below 2^52 -/
theorem own_mceil {l : Launch} {R : Room} {p : Program} {e : Env} {below : List Frame} {s : State} {sargs : Array Value} {len W : Nat} (hexec : p.tables.exec = Jvm.exec) (htab : MCeilA.tab.before sargs s = true)
    (hfr : 7 ≤ R.frames) (hlo : W ≤ R.locals) :
    Back l R p e below s sargs MCeilA.yN len W (fun A a => ∃ b : UInt64, a = #[.double b] ∧ NoNaN64 b ∧ expOf b < 52 ∧ 0 ≤ cmpValue (FP.dcmp b 0) .g ∧ StaticIs A.U SM "$assertionsDisabled" "Z" (.int 1))
      (fun A a v B => pureAt A B ∧ ∀ b : UInt64, a = #[.double b] → v = some (.double (ceilOf b))) := by
  intro m meth c A g ig mk a' X hg hsize hdg hWt hnamed ⟨b, ha', hb, h52, hpos, hAs⟩
  subst ha'
  obtain ⟨U, Ls, c0, s0⟩ := A
  dsimp only [Pt.U, Pt.locs, Pt.cells, Pt.slots] at hAs X hnamed ⊢
  have htabU : MCeilA.tab.before #[.double b] U = true := Cond.tabsOnly_warm (args' := #[.double b]) (T := U) X.warmed _ MCeilA.tab_tabsOnly htab
  simp only [MCeilA.tab, Cond.before_and, Bool.and_eq_true] at htabU
  obtain ⟨hcodeU, hiniS, hTS⟩ := htabU
  obtain ⟨methM, cM, hmethM, hcodeM, -, hlocalsM, -, hlocksM, -, hsigM⟩ := Cond.code_spec hnamed hcodeU
  obtain ⟨kP, hkP, hkname⟩ := className_of_methodNamed hnamed
  obtain ⟨hmnM, hmdM⟩ := name_of_methodNamed hnamed hmethM
  have hxP : kP.methods[mk.idx]? = some methM := by simpa [Vm.method?, hkP] using hmethM
  have hbootP : kP.loader = none := Vm.bootOf_findClass (findClass_of_methodNamed hnamed) hkP
  have hCS : (Cond.code SCeilA.yN SCeilA.yB 2 (some .double)).before #[.double b] U = true := by have h := hTS; simp only [SCeilA.tab, Cond.before_and, Bool.and_eq_true] at h; exact h.1
  obtain ⟨mS, hnS⟩ := Cond.code_named hCS
  obtain ⟨methS, cS, hmethS, hcodeS, hbytesS, hlocS, hretS, hlksS, -, -⟩ := Cond.code_spec hnS hCS
  obtain ⟨kS, hkS, -⟩ := className_of_methodNamed hnS
  have hfS : U.vm.findClass "java/lang/StrictMath" = some mS.cls := findClass_of_methodNamed hnS
  have hiS : kS.init = .initialized := Cond.initialized_spec hfS hkS hiniS
  have hmS : kS.findMethod "ceil" "(D)D" = some mS.idx := findMethod_of_methodNamed (x := SCeilA.yN) hnS hkS
  obtain ⟨g₀, hr⟩ := X.frames_eq
  have hcur : U.cur < U.threads.size := State.cur_lt_of_frames hr
  have hrun := X.here.running
  have hable := X.here.runnable
  have hal := X.here.alone
  have hlim := X.limits
  have hfree : own_free e U (.java g :: below) 6 1024 := by
    obtain ⟨-, r2, -, r4⟩ := State.hasRoom_stack X.room
    rw [State.localsInUse_invoking X.frames X.method X.code] at r4
    rw [X.frames] at r2
    have hw := stackUse_le_stackWeight (.java g :: below)
    have hwe : stackWeight (.java g :: below) = 11 + g.locals.size + 2 * g.monitorRoom + (g.stack.map fun v => v.category).sum + stackWeight below := by
      simp [stackWeight, Frame.weight]
    simp only [List.length_cons] at r2
    rw [show vmFrameWords = 1024 from rfl] at r4
    refine ⟨by rw [hlim]; simp only [List.length_cons]; omega, by rw [hlim]; omega⟩
  have hst : U.setTop g = own_st U U.vm (.java g :: below) := State.setTop_of_frames _ hr
  have hW0 : U.WarmedH U.vm := State.WarmedH.refl U
  rw [hst, (doInvoke_java (s := own_st U U.vm (.java g :: below)) (e := e) (acts := []) (args := #[.double b]) (meth := methM) (code := cM) hmethM hcodeM hlocksM (own_free_full hcur hfree (by omega) (by omega))).1, hlocalsM, own_st_push hcur]
  have hf1 := own_st_frames hcur U.vm (.java (entryFrame mk #[.double b] 2) :: .java g :: below)
  have hov : overridden p.tables e (own_st U U.vm (.java (entryFrame mk #[.double b] 2) :: .java g :: below)) (entryFrame mk #[.double b] 2) = some ceilRow :=
    overridden_some (k := kP) (x := methM) rfl hkP (by rw [hkname]; decide) hbootP hxP (by rw [hkname, hmnM, hmdM]; exact ceil_row p)
  have hparams : methM.sig.parameters.length = 1 := by
    rw [← Option.some.inj ((show parseMethodDescriptor MCeilA.yN.desc = some { parameters := [.double], returnType := some .double } from by decide +kernel).symm.trans hsigM)]
    rfl
  have htake : ∀ n : Nat, List.take (1 + n) [Value.double b] = [Value.double b] := fun n => List.take_of_length_le (Nat.le_add_right 1 n)
  obtain ⟨acts₂, hr2⟩ := ceil_run b e (own_st U U.vm (.native { method := mk, args := #[.double b] } :: .java g :: below)) (cS := mS.cls) (kS := kS) (i := mS.idx) hfS hkS hiS hmS
  have hstep2 : (stepThread p.tables e (own_st U U.vm (.java (entryFrame mk #[.double b] 2) :: .java g :: below))).1 = (doInvoke e (own_st U U.vm (.native { method := mk, args := #[.double b], stage := 1, saved := #[], awaiting := true, answer := none, words := 0 } :: .java g :: below)) acts₂ mS #[.double b]).1 := by
    unfold stepThread
    simp only [hf1, hov]
    have hb3 : (U.vm.classes[mk.cls]?.bind fun x => x.methods[mk.idx]?) = some methM := by simp [hkP, hxP]
    have hb2 : ∀ F : List Frame, ((own_st U U.vm F).vm.classes[mk.cls]?.bind fun y => y.methods[mk.idx]?) = some methM := fun F => hb3
    have hw3 : ((U.vm.classes[mk.cls]?).bind fun k => Option.map (fun n => upcallWords k.name n.name) k.methods[mk.idx]?).getD 0 = 0 := by simp [hkP, hxP, hkname, hmnM, upcallWords, MCeilA.yN, MA]
    have hw4 : ∀ F : List Frame, (((own_st U U.vm F).vm.classes[mk.cls]?).bind fun k => Option.map (fun n => upcallWords k.name n.name) k.methods[mk.idx]?).getD 0 = 0 := fun F => hw3
    simp [entryFrame, argsToLocals, Value.category, argCount, hb2, hb3, hparams, htake, hr2, afterNative, hw4, hw3, own_st_setFrames]
  have hfreeN : own_free e U (.native { method := mk, args := #[.double b], stage := 1, saved := #[], awaiting := true, answer := none, words := 0 } :: ([.java g] ++ below)) (1 + 4) (957 + 67) := own_free_native hfree rfl
  obtain ⟨vm', hW', hceil⟩ := own_low_ceil (p := p) (s := U) (b := b) (mid := [.java g]) (N := { method := mk, args := #[.double b], stage := 1, saved := #[], awaiting := true, answer := none, words := 0 }) (k := 1) (n := 957)
    hcur hrun hable hal X.admits hW0 hexec hTS hnS hmethS hcodeS hbytesS hretS hlksS hfreeN hAs hb h52 hpos
  rw [own_st_setTop hcur] at hceil
  have hnn : ceilOf b &&& 0x7fffffffffffffff ≤ 0x7ff0000000000000 := ceilOf_noNaN hb
  obtain ⟨k', hk', ek⟩ := hW'.alike.2.2 _ _ hkP
  obtain ⟨acts₃, hr3⟩ := ceil_resume hnn e (own_st U vm' (.native { method := mk, args := #[.double b], stage := 1, saved := #[], awaiting := false, answer := some (.returned (some (.double (ceilOf b)))), words := 0 } :: .java g :: below))
  have hfE := own_st_frames hcur vm' (.native { method := mk, args := #[.double b], stage := 1, saved := #[], awaiting := false, answer := some (.returned (some (.double (ceilOf b)))), words := 0 } :: .java g :: below)
  have hcode2 : (own_st U vm' (.native { method := mk, args := #[.double b], stage := 1, saved := #[], awaiting := false, answer := some (.returned (some (.double (ceilOf b)))), words := 0 } :: .java g :: below)).code? g.method = some c := by
    have h1 := X.here.code
    rw [State.code?_eq] at h1 ⊢
    show (vm'.method? g.method).bind _ = _
    rw [hW'.alike.method?, hg]; exact h1
  have hfs : handOver (own_st U vm' (.native { method := mk, args := #[.double b], stage := 1, saved := #[], awaiting := false, answer := some (.returned (some (.double (ceilOf b)))), words := 0 } :: .java g :: below)) (some (.double (ceilOf b))) (.java g :: below) = some (.java { g with pc := g.pc + len, stack := .double (ceilOf b) :: g.stack } :: below) := by
    simp [handOver, hcode2, hdg, Except.toOption]
  have hstep4 : (stepThread p.tables e (own_st U vm' (.native { method := mk, args := #[.double b], stage := 1, saved := #[], awaiting := false, answer := some (.returned (some (.double (ceilOf b)))), words := 0 } :: .java g :: below))).1 = own_st U vm' (.java { g with pc := g.pc + len, stack := .double (ceilOf b) :: g.stack } :: below) := by
    rw [stepThread_resumed' (f := { method := mk, args := #[.double b], stage := 1, saved := #[], awaiting := false, answer := some (.returned (some (.double (ceilOf b)))), words := 0 }) (o := .returned (some (.double (ceilOf b)))) hfE hk' (by rw [ek]; exact hbootP) (by rw [ek]; exact hxP) (by rw [ek]; show NativeRow.find? p.tables.natives kP.name methM.name methM.desc = some ceilRow; rw [hkname, hmnM, hmdM]; exact ceil_row p) rfl]
    show (afterNative e _ _ ((ceilRow.resume 1 #[] (.returned (some (.double (ceilOf b))))).run e _)).1 = _
    rw [hr3]
    refine (doReturn_native (f := { method := mk, args := #[.double b], stage := 1, saved := #[], awaiting := false, answer := some (.returned (some (.double (ceilOf b)))), words := 0 }) hfE rfl hfs).trans ?_
    exact own_st_setFrames _ _ _ _
  have hg1 : ∀ vmx F, (own_st U vmx F).goesOn := fun vmx F => ⟨hrun, by show ((U.setVm vmx).setFrames F).curStatus? = _; simpa using hable, by show ((U.setVm vmx).setFrames F).alone = true; simpa using hal⟩
  refine ⟨some (.double (ceilOf b)), ⟨U.setVm vm', Ls, c0, s0⟩, X.noted (State.WarmedH.trans X.warmed hW'), ⟨⟨rfl, rfl, rfl, rfl⟩, fun b' hb' => by simp at hb'; rw [hb']⟩, ?_⟩
  show Steps p.tables e below (own_st U U.vm (.java (entryFrame mk #[.double b] 2) :: .java g :: below)) _
  refine Steps.head (hg1 _ _) ⟨[.java (entryFrame mk #[.double b] 2), .java g], by rw [hf1]; rfl, by simp, by simp⟩ ?_
  rw [hstep2, (doInvoke_java (s := own_st U U.vm (.native { method := mk, args := #[.double b], stage := 1, saved := #[], awaiting := true, answer := none, words := 0 } :: .java g :: below)) (e := e) (acts := acts₂) (args := #[.double b]) (meth := methS) (code := cS) hmethS hcodeS hlksS (own_free_full hcur hfreeN (by omega) (by omega))).1, hlocS, own_st_push hcur]
  refine hceil.trans ?_
  refine Steps.head (hg1 _ _) ⟨[.native _, .java g], by rw [own_st_frames hcur]; rfl, by simp, by simp⟩ ?_
  refine hstep4 ▸ ?_
  have hlast : (U.setVm vm').setTop { g with pc := g.pc + len, stack := .double (ceilOf b) :: g.stack } = own_st U vm' (.java { g with pc := g.pc + len, stack := .double (ceilOf b) :: g.stack } :: below) := State.setTop_of_frames _ (show (U.setVm vm').frames = .java g₀ :: below from hr)
  show Steps p.tables e below _ ((U.setVm vm').setTop { g with pc := g.pc + len, stack := .double (ceilOf b) :: g.stack })
  rw [hlast]
  exact Steps.refl _

end OwnCeil

namespace Jvm.Pilot.@@N@@
open Jvm Jvm.ClassFile Sem Op Lib Jvm.Free Jvm.Stand Jvm.LawKit Jvm.RoadKit Bundle Jvm.Pilot.@@N@@.Jvm.D
section OwnLayer
variable {p : Program} {l : Launch} {e : Env} {R : Room} {s : State} {m : MethodId} {args : Array Value} {below : List Frame} {meth : Method} {c : Code} {T : State} {locs : List Loc} {cells slots : Nat}
/-- what is to be shown from the state S on: the run comes back, Q holds of what it leaves -/
def own_G (p : Program) (e : Env) (below : List Frame) (s : State) (k n : Nat) (Q : Option Value → Heap → List Loc → Prop) (S : State) : Prop :=
  ∃ t o, Steps p.tables e below S t ∧ t.status = .running ∧ Ended t below o ∧ ∃ v L, o = .returned v ∧ Q v t.heap L ∧ FrameEnd s o t L k n
theorem own_to {k n : Nat} {Q : Option Value → Heap → List Loc → Prop} {S S' : State} (h : ∀ t, Steps p.tables e below S' t → Steps p.tables e below S t) (g : own_G p e below s k n Q S') : own_G p e below s k n Q S := by
  obtain ⟨t, o, h1, h2⟩ := g
  exact ⟨t, o, h t h1, h2⟩
theorem own_retI {k n : Nat} {Q : Option Value → Heap → List Loc → Prop} (X : Stand p l e R s m args below meth c T locs cells slots) (hx : p.tables.exec = Jvm.exec) {pc : Nat} {Ls : Array Slot} {z : Int32} (hret : meth.sig.returnType = some .int) (hd : decode c.code pc = .ok (.ireturn, 1)) (hlk : meth.locks = false) (hk : cells ≤ k) (hn : slots ≤ n) (hq : Q (some (.int z)) T.heap locs) :
    own_G p e below s k n Q (T.setTop (mkF m pc Ls [.int z])) := by
  obtain ⟨fs, hr, hrun, hended, hW, hsame⟩ := X.leave (v := some (.int z)) (fun h => by rw [hret] at h; cases h) hlk
  exact ⟨_, _, X.ireturnOut hx hret rfl (Or.inl rfl) hd hr, hrun, hended, _, _, rfl, hq, ⟨_, rfl⟩, hW, hsame.mono hk hn⟩
theorem own_retN {k n : Nat} {Q : Option Value → Heap → List Loc → Prop} (X : Stand p l e R s m args below meth c T locs cells slots) (hx : p.tables.exec = Jvm.exec) {pc : Nat} {Ls : Array Slot} {z : Int32} {t : FieldType} {rest : List Value} (hret : meth.sig.returnType = some t) (ht : t = .boolean ∨ t = .byte ∨ t = .char ∨ t = .short) (hd : decode c.code pc = .ok (.ireturn, 1)) (hlk : meth.locks = false) (hk : cells ≤ k) (hn : slots ≤ n) (hq : Q (some (.int (nar t z))) T.heap locs) :
    own_G p e below s k n Q (T.setTop (mkF m pc Ls (.int z :: rest))) := by
  obtain ⟨fs, hr, hrun, hended, hW, hsame⟩ := X.leave (v := some (.int (nar t z))) (fun h => by rw [hret] at h; cases h) hlk
  exact ⟨_, _, retN X hx hret ht hd hr, hrun, hended, _, _, rfl, hq, ⟨_, rfl⟩, hW, hsame.mono hk hn⟩
theorem own_retJ {k n : Nat} {Q : Option Value → Heap → List Loc → Prop} (X : Stand p l e R s m args below meth c T locs cells slots) (hx : p.tables.exec = Jvm.exec) {pc : Nat} {Ls : Array Slot} {z : Int64} (hret : meth.sig.returnType = some .long) (hd : decode c.code pc = .ok (.lreturn, 1)) (hlk : meth.locks = false) (hk : cells ≤ k) (hn : slots ≤ n) (hq : Q (some (.long z)) T.heap locs) :
    own_G p e below s k n Q (T.setTop (mkF m pc Ls [.long z])) := by
  obtain ⟨fs, hr, hrun, hended, hW, hsame⟩ := X.leave (v := some (.long z)) (fun h => by rw [hret] at h; cases h) hlk
  exact ⟨_, _, X.lreturnOut hx hret hd hr, hrun, hended, _, _, rfl, hq, ⟨_, rfl⟩, hW, hsame.mono hk hn⟩
theorem own_retA {k n : Nat} {Q : Option Value → Heap → List Loc → Prop} (X : Stand p l e R s m args below meth c T locs cells slots) (hx : p.tables.exec = Jvm.exec) {pc : Nat} {Ls : Array Slot} {w : Value} {t : FieldType} (hw : w.isRef = true) (hret : meth.sig.returnType = some t) (ht : t.isReference = true) (hd : decode c.code pc = .ok (.areturn, 1)) (hlk : meth.locks = false) (hk : cells ≤ k) (hn : slots ≤ n) (hq : Q (some w) T.heap locs) :
    own_G p e below s k n Q (T.setTop (mkF m pc Ls [w])) := by
  obtain ⟨fs, hr, hrun, hended, hW, hsame⟩ := X.leave (v := some w) (fun h => by rw [hret] at h; cases h) hlk
  exact ⟨_, _, X.areturnOut hx hw hret ht hd hr, hrun, hended, _, _, rfl, hq, ⟨_, rfl⟩, hW, hsame.mono hk hn⟩
theorem own_retV {k n : Nat} {Q : Option Value → Heap → List Loc → Prop} (X : Stand p l e R s m args below meth c T locs cells slots) (hx : p.tables.exec = Jvm.exec) {pc : Nat} {Ls : Array Slot} (hret : meth.sig.returnType = none) (hd : decode c.code pc = .ok (.return_, 1)) (hlk : meth.locks = false) (hk : cells ≤ k) (hn : slots ≤ n) (hq : Q none T.heap locs) :
    own_G p e below s k n Q (T.setTop (mkF m pc Ls [])) := by
  obtain ⟨fs, hr, hrun, hended, hW, hsame⟩ := X.leave (v := none) (fun _ => rfl) hlk
  exact ⟨_, _, X.returnOut hx hret hd hr, hrun, hended, _, _, rfl, hq, ⟨_, rfl⟩, hW, hsame.mono hk hn⟩
end OwnLayer
/-- a callee that leaves the heap as it was and returns r -/
def own_Qp (r : Option Value) (h0 : Heap) (n0 : Nat) (v : Option Value) (h : Heap) (L : List Loc) : Prop := v = r ∧ Fr n0 L ∧ h = h0
/-- the law itself -/
def own_Ql (n0 : Nat) (v : Option Value) (h : Heap) (L : List Loc) : Prop := v = some (.int 1) ∧ Fr n0 L
/-- a reference's int field, out of the case's words -/
theorem own_ord {args : Array Value} {s : State} {t : Jvm.Term} {C n d : String} {k : Int32} {x : Addr} (ht : t.eval args s none [] s = some (.ref x)) (h : (Jvm.Cond.eq (.field t C n d) (.int k)).value args s none s [] = some true) : s.fieldOf? x C n d = some (.int k) := by
  obtain ⟨u, w, e1, e2, K1, K2⟩ := cmp_v (Or.inl h)
  have e3 : some w = some (.int k) := e2.symm.trans (Term.int_eval k)
  obtain rfl := Option.some.inj e3
  obtain ⟨z, rfl⟩ := K2
  have e4 := gotT (Cond.eq_ints e1 e2) h
  rw [fld_at ht] at e1
  rw [e1, e4]
theorem own_ord_ne {s : State} {C n d : String} {x y : Addr} {k k' : Int32} (h : s.fieldOf? x C n d = some (.int k)) (h' : s.fieldOf? y C n d = some (.int k')) (hk : k ≠ k') : ¬ (x = y) := fun q => by
  subst q
  rw [h] at h'
  exact hk (Value.int.inj (Option.some.inj h'))
theorem own_pn1 : plainName "java/lang/Integer" = true := by first | (simp [plainName, overriddenIn]; done) | decide +kernel
theorem own_pn2 : plainName "java/lang/Long" = true := by first | (simp [plainName, overriddenIn]; done) | decide +kernel
theorem own_pn3 : plainName "com/example/keyspace/keyspace/bench/Latencies" = true := by first | (simp [plainName, overriddenIn]; done) | decide +kernel
theorem own_pn4 : plainName "com/example/keyspace/keyspace/bench/LatenciesAddPinLaw" = true := by first | (simp [plainName, overriddenIn]; done) | decide +kernel
theorem own_pd0 : parseMethodDescriptor "(I)I" = some ⟨[.int], some .int⟩ := by decide +kernel
theorem own_pd1 : parseMethodDescriptor "(J)I" = some ⟨[.long], some .int⟩ := by decide +kernel
theorem own_pd2 : parseMethodDescriptor "(JJ)J" = some ⟨[.long, .long], some .long⟩ := by decide +kernel
theorem own_pd3 : parseMethodDescriptor "(I)J" = some ⟨[.int], some .long⟩ := by decide +kernel
theorem own_pd4 : parseMethodDescriptor "(D)D" = some ⟨[.double], some .double⟩ := by decide +kernel
theorem own_pd5 : parseMethodDescriptor "()V" = some ⟨[], none⟩ := by decide +kernel
theorem own_pd6 : parseMethodDescriptor "(Lcom/example/keyspace/keyspace/bench/Latencies;)V" = some ⟨[.object "com/example/keyspace/keyspace/bench/Latencies"], none⟩ := by decide +kernel
theorem own_pd7 : parseMethodDescriptor "(D)J" = some ⟨[.double], some .long⟩ := by decide +kernel
theorem own_pd8 : parseMethodDescriptor "(J)V" = some ⟨[.long], none⟩ := by decide +kernel
theorem d_prog_4_method_1_0 : decode prog_4_method_1_code 0 = .ok (.aload_n 0, 1) := by decide +kernel
theorem d_prog_4_method_1_1 : decode prog_4_method_1_code 1 = .ok (.invokespecial 5, 3) := by decide +kernel
theorem d_prog_4_method_1_4 : decode prog_4_method_1_code 4 = .ok (.aload_n 0, 1) := by decide +kernel
theorem d_prog_4_method_1_5 : decode prog_4_method_1_code 5 = .ok (.ldc 11, 2) := by decide +kernel
theorem d_prog_4_method_1_7 : decode prog_4_method_1_code 7 = .ok (.newarray .long, 2) := by decide +kernel
theorem d_prog_4_method_1_9 : decode prog_4_method_1_code 9 = .ok (.putfield 12, 3) := by decide +kernel
theorem d_prog_4_method_1_12 : decode prog_4_method_1_code 12 = .ok (.return_, 1) := by decide +kernel
theorem d_prog_4_method_2_0 : decode prog_4_method_2_code 0 = .ok (.aload_n 0, 1) := by decide +kernel
theorem d_prog_4_method_2_1 : decode prog_4_method_2_code 1 = .ok (.getfield 12, 3) := by decide +kernel
theorem d_prog_4_method_2_4 : decode prog_4_method_2_code 4 = .ok (.lload_n 1, 1) := by decide +kernel
theorem d_prog_4_method_2_5 : decode prog_4_method_2_code 5 = .ok (.lconst 0, 1) := by decide +kernel
theorem d_prog_4_method_2_6 : decode prog_4_method_2_code 6 = .ok (.invokestatic 16, 3) := by decide +kernel
theorem d_prog_4_method_2_9 : decode prog_4_method_2_code 9 = .ok (.invokestatic 22, 3) := by decide +kernel
theorem d_prog_4_method_2_12 : decode prog_4_method_2_code 12 = .ok (.dup2, 1) := by decide +kernel
theorem d_prog_4_method_2_13 : decode prog_4_method_2_code 13 = .ok (.laload, 1) := by decide +kernel
theorem d_prog_4_method_2_14 : decode prog_4_method_2_code 14 = .ok (.lconst 1, 1) := by decide +kernel
theorem d_prog_4_method_2_15 : decode prog_4_method_2_code 15 = .ok (.ladd, 1) := by decide +kernel
theorem d_prog_4_method_2_16 : decode prog_4_method_2_code 16 = .ok (.lastore, 1) := by decide +kernel
theorem d_prog_4_method_2_17 : decode prog_4_method_2_code 17 = .ok (.aload_n 0, 1) := by decide +kernel
theorem d_prog_4_method_2_18 : decode prog_4_method_2_code 18 = .ok (.dup, 1) := by decide +kernel
theorem d_prog_4_method_2_19 : decode prog_4_method_2_code 19 = .ok (.getfield 26, 3) := by decide +kernel
theorem d_prog_4_method_2_22 : decode prog_4_method_2_code 22 = .ok (.lconst 1, 1) := by decide +kernel
theorem d_prog_4_method_2_23 : decode prog_4_method_2_code 23 = .ok (.ladd, 1) := by decide +kernel
theorem d_prog_4_method_2_24 : decode prog_4_method_2_code 24 = .ok (.putfield 26, 3) := by decide +kernel
theorem d_prog_4_method_2_27 : decode prog_4_method_2_code 27 = .ok (.return_, 1) := by decide +kernel
theorem d_jdk_29_method_66_0 : decode jdk_29_method_66_code 0 = .ok (.lload_n 0, 1) := by decide +kernel
theorem d_jdk_29_method_66_1 : decode jdk_29_method_66_code 1 = .ok (.lload_n 2, 1) := by decide +kernel
theorem d_jdk_29_method_66_2 : decode jdk_29_method_66_code 2 = .ok (.lcmp, 1) := by decide +kernel
theorem d_jdk_29_method_66_3 : decode jdk_29_method_66_code 3 = .ok (.ifCond .lt 7, 3) := by decide +kernel
theorem d_jdk_29_method_66_6 : decode jdk_29_method_66_code 6 = .ok (.lload_n 0, 1) := by decide +kernel
theorem d_jdk_29_method_66_7 : decode jdk_29_method_66_code 7 = .ok (.goto 4, 3) := by decide +kernel
theorem d_jdk_29_method_66_10 : decode jdk_29_method_66_code 10 = .ok (.lload_n 2, 1) := by decide +kernel
theorem d_jdk_29_method_66_11 : decode jdk_29_method_66_code 11 = .ok (.lreturn, 1) := by decide +kernel
theorem d_prog_4_method_5_0 : decode prog_4_method_5_code 0 = .ok (.lload_n 0, 1) := by decide +kernel
theorem d_prog_4_method_5_1 : decode prog_4_method_5_code 1 = .ok (.ldc2_w 40, 3) := by decide +kernel
theorem d_prog_4_method_5_4 : decode prog_4_method_5_code 4 = .ok (.lcmp, 1) := by decide +kernel
theorem d_prog_4_method_5_5 : decode prog_4_method_5_code 5 = .ok (.ifCond .ge 9, 3) := by decide +kernel
theorem d_prog_4_method_5_8 : decode prog_4_method_5_code 8 = .ok (.lload_n 0, 1) := by decide +kernel
theorem d_prog_4_method_5_9 : decode prog_4_method_5_code 9 = .ok (.l2i, 1) := by decide +kernel
theorem d_prog_4_method_5_10 : decode prog_4_method_5_code 10 = .ok (.istore_n 2, 1) := by decide +kernel
theorem d_prog_4_method_5_11 : decode prog_4_method_5_code 11 = .ok (.goto 31, 3) := by decide +kernel
theorem d_prog_4_method_5_14 : decode prog_4_method_5_code 14 = .ok (.bipush 63, 2) := by decide +kernel
theorem d_prog_4_method_5_16 : decode prog_4_method_5_code 16 = .ok (.lload_n 0, 1) := by decide +kernel
theorem d_prog_4_method_5_17 : decode prog_4_method_5_code 17 = .ok (.invokestatic 42, 3) := by decide +kernel
theorem d_prog_4_method_5_20 : decode prog_4_method_5_code 20 = .ok (.isub, 1) := by decide +kernel
theorem d_prog_4_method_5_21 : decode prog_4_method_5_code 21 = .ok (.bipush 10, 2) := by decide +kernel
theorem d_prog_4_method_5_23 : decode prog_4_method_5_code 23 = .ok (.isub, 1) := by decide +kernel
theorem d_prog_4_method_5_24 : decode prog_4_method_5_code 24 = .ok (.istore_n 3, 1) := by decide +kernel
theorem d_prog_4_method_5_25 : decode prog_4_method_5_code 25 = .ok (.iload_n 3, 1) := by decide +kernel
theorem d_prog_4_method_5_26 : decode prog_4_method_5_code 26 = .ok (.iconst 1, 1) := by decide +kernel
theorem d_prog_4_method_5_27 : decode prog_4_method_5_code 27 = .ok (.iadd, 1) := by decide +kernel
theorem d_prog_4_method_5_28 : decode prog_4_method_5_code 28 = .ok (.sipush 1024, 3) := by decide +kernel
theorem d_prog_4_method_5_31 : decode prog_4_method_5_code 31 = .ok (.imul, 1) := by decide +kernel
theorem d_prog_4_method_5_32 : decode prog_4_method_5_code 32 = .ok (.lload_n 0, 1) := by decide +kernel
theorem d_prog_4_method_5_33 : decode prog_4_method_5_code 33 = .ok (.iload_n 3, 1) := by decide +kernel
theorem d_prog_4_method_5_34 : decode prog_4_method_5_code 34 = .ok (.lushr, 1) := by decide +kernel
theorem d_prog_4_method_5_35 : decode prog_4_method_5_code 35 = .ok (.l2i, 1) := by decide +kernel
theorem d_prog_4_method_5_36 : decode prog_4_method_5_code 36 = .ok (.iadd, 1) := by decide +kernel
theorem d_prog_4_method_5_37 : decode prog_4_method_5_code 37 = .ok (.sipush 1024, 3) := by decide +kernel
theorem d_prog_4_method_5_40 : decode prog_4_method_5_code 40 = .ok (.isub, 1) := by decide +kernel
theorem d_prog_4_method_5_41 : decode prog_4_method_5_code 41 = .ok (.istore_n 2, 1) := by decide +kernel
theorem d_prog_4_method_5_42 : decode prog_4_method_5_code 42 = .ok (.iload_n 2, 1) := by decide +kernel
theorem d_prog_4_method_5_43 : decode prog_4_method_5_code 43 = .ok (.ireturn, 1) := by decide +kernel
theorem d_prog_4_method_3_0 : decode prog_4_method_3_code 0 = .ok (.iconst 0, 1) := by decide +kernel
theorem d_prog_4_method_3_1 : decode prog_4_method_3_code 1 = .ok (.istore_n 2, 1) := by decide +kernel
theorem d_prog_4_method_3_2 : decode prog_4_method_3_code 2 = .ok (.iload_n 2, 1) := by decide +kernel
theorem d_prog_4_method_3_3 : decode prog_4_method_3_code 3 = .ok (.ldc 11, 2) := by decide +kernel
theorem d_prog_4_method_3_5 : decode prog_4_method_3_code 5 = .ok (.if_icmp .ge 24, 3) := by decide +kernel
theorem d_prog_4_method_3_8 : decode prog_4_method_3_code 8 = .ok (.aload_n 0, 1) := by decide +kernel
theorem d_prog_4_method_3_9 : decode prog_4_method_3_code 9 = .ok (.getfield 12, 3) := by decide +kernel
theorem d_prog_4_method_3_12 : decode prog_4_method_3_code 12 = .ok (.iload_n 2, 1) := by decide +kernel
theorem d_prog_4_method_3_13 : decode prog_4_method_3_code 13 = .ok (.dup2, 1) := by decide +kernel
theorem d_prog_4_method_3_14 : decode prog_4_method_3_code 14 = .ok (.laload, 1) := by decide +kernel
theorem d_prog_4_method_3_15 : decode prog_4_method_3_code 15 = .ok (.aload_n 1, 1) := by decide +kernel
theorem d_prog_4_method_3_16 : decode prog_4_method_3_code 16 = .ok (.getfield 12, 3) := by decide +kernel
theorem d_prog_4_method_3_19 : decode prog_4_method_3_code 19 = .ok (.iload_n 2, 1) := by decide +kernel
theorem d_prog_4_method_3_20 : decode prog_4_method_3_code 20 = .ok (.laload, 1) := by decide +kernel
theorem d_prog_4_method_3_21 : decode prog_4_method_3_code 21 = .ok (.ladd, 1) := by decide +kernel
theorem d_prog_4_method_3_22 : decode prog_4_method_3_code 22 = .ok (.lastore, 1) := by decide +kernel
theorem d_prog_4_method_3_23 : decode prog_4_method_3_code 23 = .ok (.iinc 2 1, 3) := by decide +kernel
theorem d_prog_4_method_3_26 : decode prog_4_method_3_code 26 = .ok (.goto (-24), 3) := by decide +kernel
theorem d_prog_4_method_3_29 : decode prog_4_method_3_code 29 = .ok (.aload_n 0, 1) := by decide +kernel
theorem d_prog_4_method_3_30 : decode prog_4_method_3_code 30 = .ok (.dup, 1) := by decide +kernel
theorem d_prog_4_method_3_31 : decode prog_4_method_3_code 31 = .ok (.getfield 26, 3) := by decide +kernel
theorem d_prog_4_method_3_34 : decode prog_4_method_3_code 34 = .ok (.aload_n 1, 1) := by decide +kernel
theorem d_prog_4_method_3_35 : decode prog_4_method_3_code 35 = .ok (.getfield 26, 3) := by decide +kernel
theorem d_prog_4_method_3_38 : decode prog_4_method_3_code 38 = .ok (.ladd, 1) := by decide +kernel
theorem d_prog_4_method_3_39 : decode prog_4_method_3_code 39 = .ok (.putfield 26, 3) := by decide +kernel
theorem d_prog_4_method_3_42 : decode prog_4_method_3_code 42 = .ok (.return_, 1) := by decide +kernel
theorem d_prog_4_method_4_0 : decode prog_4_method_4_code 0 = .ok (.dload_n 1, 1) := by decide +kernel
theorem d_prog_4_method_4_1 : decode prog_4_method_4_code 1 = .ok (.aload_n 0, 1) := by decide +kernel
theorem d_prog_4_method_4_2 : decode prog_4_method_4_code 2 = .ok (.getfield 26, 3) := by decide +kernel
theorem d_prog_4_method_4_5 : decode prog_4_method_4_code 5 = .ok (.l2d, 1) := by decide +kernel
theorem d_prog_4_method_4_6 : decode prog_4_method_4_code 6 = .ok (.dmul, 1) := by decide +kernel
theorem d_prog_4_method_4_7 : decode prog_4_method_4_code 7 = .ok (.ldc2_w 30, 3) := by decide +kernel
theorem d_prog_4_method_4_10 : decode prog_4_method_4_code 10 = .ok (.ddiv, 1) := by decide +kernel
theorem d_prog_4_method_4_11 : decode prog_4_method_4_code 11 = .ok (.invokestatic 32, 3) := by decide +kernel
theorem d_prog_4_method_4_14 : decode prog_4_method_4_code 14 = .ok (.d2l, 1) := by decide +kernel
theorem d_prog_4_method_4_15 : decode prog_4_method_4_code 15 = .ok (.lstore_n 3, 1) := by decide +kernel
theorem d_prog_4_method_4_16 : decode prog_4_method_4_code 16 = .ok (.lconst 0, 1) := by decide +kernel
theorem d_prog_4_method_4_17 : decode prog_4_method_4_code 17 = .ok (.lstore 5, 2) := by decide +kernel
theorem d_prog_4_method_4_19 : decode prog_4_method_4_code 19 = .ok (.iconst 0, 1) := by decide +kernel
theorem d_prog_4_method_4_20 : decode prog_4_method_4_code 20 = .ok (.istore 7, 2) := by decide +kernel
theorem d_prog_4_method_4_22 : decode prog_4_method_4_code 22 = .ok (.lload 5, 2) := by decide +kernel
theorem d_prog_4_method_4_24 : decode prog_4_method_4_code 24 = .ok (.lload_n 3, 1) := by decide +kernel
theorem d_prog_4_method_4_25 : decode prog_4_method_4_code 25 = .ok (.lcmp, 1) := by decide +kernel
theorem d_prog_4_method_4_26 : decode prog_4_method_4_code 26 = .ok (.ifCond .ge 21, 3) := by decide +kernel
theorem d_prog_4_method_4_29 : decode prog_4_method_4_code 29 = .ok (.lload 5, 2) := by decide +kernel
theorem d_prog_4_method_4_31 : decode prog_4_method_4_code 31 = .ok (.aload_n 0, 1) := by decide +kernel
theorem d_prog_4_method_4_32 : decode prog_4_method_4_code 32 = .ok (.getfield 12, 3) := by decide +kernel
theorem d_prog_4_method_4_35 : decode prog_4_method_4_code 35 = .ok (.iload 7, 2) := by decide +kernel
theorem d_prog_4_method_4_37 : decode prog_4_method_4_code 37 = .ok (.laload, 1) := by decide +kernel
theorem d_prog_4_method_4_38 : decode prog_4_method_4_code 38 = .ok (.ladd, 1) := by decide +kernel
theorem d_prog_4_method_4_39 : decode prog_4_method_4_code 39 = .ok (.lstore 5, 2) := by decide +kernel
theorem d_prog_4_method_4_41 : decode prog_4_method_4_code 41 = .ok (.iinc 7 1, 3) := by decide +kernel
theorem d_prog_4_method_4_44 : decode prog_4_method_4_code 44 = .ok (.goto (-22), 3) := by decide +kernel
theorem d_prog_4_method_4_47 : decode prog_4_method_4_code 47 = .ok (.iload 7, 2) := by decide +kernel
theorem d_prog_4_method_4_49 : decode prog_4_method_4_code 49 = .ok (.ifCond .ne 7, 3) := by decide +kernel
theorem d_prog_4_method_4_52 : decode prog_4_method_4_code 52 = .ok (.lconst 0, 1) := by decide +kernel
theorem d_prog_4_method_4_53 : decode prog_4_method_4_code 53 = .ok (.goto 10, 3) := by decide +kernel
theorem d_prog_4_method_4_56 : decode prog_4_method_4_code 56 = .ok (.iload 7, 2) := by decide +kernel
theorem d_prog_4_method_4_58 : decode prog_4_method_4_code 58 = .ok (.iconst 1, 1) := by decide +kernel
theorem d_prog_4_method_4_59 : decode prog_4_method_4_code 59 = .ok (.isub, 1) := by decide +kernel
theorem d_prog_4_method_4_60 : decode prog_4_method_4_code 60 = .ok (.invokestatic 36, 3) := by decide +kernel
theorem d_prog_4_method_4_63 : decode prog_4_method_4_code 63 = .ok (.lreturn, 1) := by decide +kernel
theorem d_prog_4_method_6_0 : decode prog_4_method_6_code 0 = .ok (.iload_n 0, 1) := by decide +kernel
theorem d_prog_4_method_6_1 : decode prog_4_method_6_code 1 = .ok (.i2l, 1) := by decide +kernel
theorem d_prog_4_method_6_2 : decode prog_4_method_6_code 2 = .ok (.ldc2_w 40, 3) := by decide +kernel
theorem d_prog_4_method_6_5 : decode prog_4_method_6_code 5 = .ok (.lcmp, 1) := by decide +kernel
theorem d_prog_4_method_6_6 : decode prog_4_method_6_code 6 = .ok (.ifCond .ge 9, 3) := by decide +kernel
theorem d_prog_4_method_6_9 : decode prog_4_method_6_code 9 = .ok (.iload_n 0, 1) := by decide +kernel
theorem d_prog_4_method_6_10 : decode prog_4_method_6_code 10 = .ok (.i2l, 1) := by decide +kernel
theorem d_prog_4_method_6_11 : decode prog_4_method_6_code 11 = .ok (.lstore_n 1, 1) := by decide +kernel
theorem d_prog_4_method_6_12 : decode prog_4_method_6_code 12 = .ok (.goto 36, 3) := by decide +kernel
theorem d_prog_4_method_6_15 : decode prog_4_method_6_code 15 = .ok (.iload_n 0, 1) := by decide +kernel
theorem d_prog_4_method_6_16 : decode prog_4_method_6_code 16 = .ok (.sipush 1024, 3) := by decide +kernel
theorem d_prog_4_method_6_19 : decode prog_4_method_6_code 19 = .ok (.idiv, 1) := by decide +kernel
theorem d_prog_4_method_6_20 : decode prog_4_method_6_code 20 = .ok (.iconst 1, 1) := by decide +kernel
theorem d_prog_4_method_6_21 : decode prog_4_method_6_code 21 = .ok (.isub, 1) := by decide +kernel
theorem d_prog_4_method_6_22 : decode prog_4_method_6_code 22 = .ok (.istore_n 3, 1) := by decide +kernel
theorem d_prog_4_method_6_23 : decode prog_4_method_6_code 23 = .ok (.iload_n 0, 1) := by decide +kernel
theorem d_prog_4_method_6_24 : decode prog_4_method_6_code 24 = .ok (.sipush 1024, 3) := by decide +kernel
theorem d_prog_4_method_6_27 : decode prog_4_method_6_code 27 = .ok (.irem, 1) := by decide +kernel
theorem d_prog_4_method_6_28 : decode prog_4_method_6_code 28 = .ok (.sipush 1024, 3) := by decide +kernel
theorem d_prog_4_method_6_31 : decode prog_4_method_6_code 31 = .ok (.iadd, 1) := by decide +kernel
theorem d_prog_4_method_6_32 : decode prog_4_method_6_code 32 = .ok (.i2l, 1) := by decide +kernel
theorem d_prog_4_method_6_33 : decode prog_4_method_6_code 33 = .ok (.iload_n 3, 1) := by decide +kernel
theorem d_prog_4_method_6_34 : decode prog_4_method_6_code 34 = .ok (.lshl, 1) := by decide +kernel
theorem d_prog_4_method_6_35 : decode prog_4_method_6_code 35 = .ok (.lstore 4, 2) := by decide +kernel
theorem d_prog_4_method_6_37 : decode prog_4_method_6_code 37 = .ok (.lload 4, 2) := by decide +kernel
theorem d_prog_4_method_6_39 : decode prog_4_method_6_code 39 = .ok (.lconst 1, 1) := by decide +kernel
theorem d_prog_4_method_6_40 : decode prog_4_method_6_code 40 = .ok (.iload_n 3, 1) := by decide +kernel
theorem d_prog_4_method_6_41 : decode prog_4_method_6_code 41 = .ok (.lshl, 1) := by decide +kernel
theorem d_prog_4_method_6_42 : decode prog_4_method_6_code 42 = .ok (.ldc2_w 45, 3) := by decide +kernel
theorem d_prog_4_method_6_45 : decode prog_4_method_6_code 45 = .ok (.ldiv, 1) := by decide +kernel
theorem d_prog_4_method_6_46 : decode prog_4_method_6_code 46 = .ok (.ladd, 1) := by decide +kernel
theorem d_prog_4_method_6_47 : decode prog_4_method_6_code 47 = .ok (.lstore_n 1, 1) := by decide +kernel
theorem d_prog_4_method_6_48 : decode prog_4_method_6_code 48 = .ok (.lload_n 1, 1) := by decide +kernel
theorem d_prog_4_method_6_49 : decode prog_4_method_6_code 49 = .ok (.lreturn, 1) := by decide +kernel
theorem d_jdk_35_method_48_0 : decode jdk_35_method_48_code 0 = .ok (.lload_n 0, 1) := by decide +kernel
theorem d_jdk_35_method_48_1 : decode jdk_35_method_48_code 1 = .ok (.bipush 32, 2) := by decide +kernel
theorem d_jdk_35_method_48_3 : decode jdk_35_method_48_code 3 = .ok (.lushr, 1) := by decide +kernel
theorem d_jdk_35_method_48_4 : decode jdk_35_method_48_code 4 = .ok (.l2i, 1) := by decide +kernel
theorem d_jdk_35_method_48_5 : decode jdk_35_method_48_code 5 = .ok (.istore_n 2, 1) := by decide +kernel
theorem d_jdk_35_method_48_6 : decode jdk_35_method_48_code 6 = .ok (.iload_n 2, 1) := by decide +kernel
theorem d_jdk_35_method_48_7 : decode jdk_35_method_48_code 7 = .ok (.ifCond .ne 14, 3) := by decide +kernel
theorem d_jdk_35_method_48_10 : decode jdk_35_method_48_code 10 = .ok (.bipush 32, 2) := by decide +kernel
theorem d_jdk_35_method_48_12 : decode jdk_35_method_48_code 12 = .ok (.lload_n 0, 1) := by decide +kernel
theorem d_jdk_35_method_48_13 : decode jdk_35_method_48_code 13 = .ok (.l2i, 1) := by decide +kernel
theorem d_jdk_35_method_48_14 : decode jdk_35_method_48_code 14 = .ok (.invokestatic 308, 3) := by decide +kernel
theorem d_jdk_35_method_48_17 : decode jdk_35_method_48_code 17 = .ok (.iadd, 1) := by decide +kernel
theorem d_jdk_35_method_48_18 : decode jdk_35_method_48_code 18 = .ok (.goto 7, 3) := by decide +kernel
theorem d_jdk_35_method_48_21 : decode jdk_35_method_48_code 21 = .ok (.iload_n 2, 1) := by decide +kernel
theorem d_jdk_35_method_48_22 : decode jdk_35_method_48_code 22 = .ok (.invokestatic 308, 3) := by decide +kernel
theorem d_jdk_35_method_48_25 : decode jdk_35_method_48_code 25 = .ok (.ireturn, 1) := by decide +kernel
theorem d_jdk_33_method_47_0 : decode jdk_33_method_47_code 0 = .ok (.iload_n 0, 1) := by decide +kernel
theorem d_jdk_33_method_47_1 : decode jdk_33_method_47_code 1 = .ok (.ifCond .gt 14, 3) := by decide +kernel
theorem d_jdk_33_method_47_4 : decode jdk_33_method_47_code 4 = .ok (.iload_n 0, 1) := by decide +kernel
theorem d_jdk_33_method_47_5 : decode jdk_33_method_47_code 5 = .ok (.ifCond .ne 8, 3) := by decide +kernel
theorem d_jdk_33_method_47_13 : decode jdk_33_method_47_code 13 = .ok (.iconst 0, 1) := by decide +kernel
theorem d_jdk_33_method_47_14 : decode jdk_33_method_47_code 14 = .ok (.ireturn, 1) := by decide +kernel
theorem d_jdk_33_method_47_15 : decode jdk_33_method_47_code 15 = .ok (.bipush 31, 2) := by decide +kernel
theorem d_jdk_33_method_47_17 : decode jdk_33_method_47_code 17 = .ok (.istore_n 1, 1) := by decide +kernel
theorem d_jdk_33_method_47_18 : decode jdk_33_method_47_code 18 = .ok (.iload_n 0, 1) := by decide +kernel
theorem d_jdk_33_method_47_19 : decode jdk_33_method_47_code 19 = .ok (.ldc_w 264, 3) := by decide +kernel
theorem d_jdk_33_method_47_22 : decode jdk_33_method_47_code 22 = .ok (.if_icmp .lt 11, 3) := by decide +kernel
theorem d_jdk_33_method_47_25 : decode jdk_33_method_47_code 25 = .ok (.iinc 1 (-16), 3) := by decide +kernel
theorem d_jdk_33_method_47_28 : decode jdk_33_method_47_code 28 = .ok (.iload_n 0, 1) := by decide +kernel
theorem d_jdk_33_method_47_29 : decode jdk_33_method_47_code 29 = .ok (.bipush 16, 2) := by decide +kernel
theorem d_jdk_33_method_47_31 : decode jdk_33_method_47_code 31 = .ok (.iushr, 1) := by decide +kernel
theorem d_jdk_33_method_47_32 : decode jdk_33_method_47_code 32 = .ok (.istore_n 0, 1) := by decide +kernel
theorem d_jdk_33_method_47_33 : decode jdk_33_method_47_code 33 = .ok (.iload_n 0, 1) := by decide +kernel
theorem d_jdk_33_method_47_34 : decode jdk_33_method_47_code 34 = .ok (.sipush 256, 3) := by decide +kernel
theorem d_jdk_33_method_47_37 : decode jdk_33_method_47_code 37 = .ok (.if_icmp .lt 11, 3) := by decide +kernel
theorem d_jdk_33_method_47_40 : decode jdk_33_method_47_code 40 = .ok (.iinc 1 (-8), 3) := by decide +kernel
theorem d_jdk_33_method_47_43 : decode jdk_33_method_47_code 43 = .ok (.iload_n 0, 1) := by decide +kernel
theorem d_jdk_33_method_47_44 : decode jdk_33_method_47_code 44 = .ok (.bipush 8, 2) := by decide +kernel
theorem d_jdk_33_method_47_46 : decode jdk_33_method_47_code 46 = .ok (.iushr, 1) := by decide +kernel
theorem d_jdk_33_method_47_47 : decode jdk_33_method_47_code 47 = .ok (.istore_n 0, 1) := by decide +kernel
theorem d_jdk_33_method_47_48 : decode jdk_33_method_47_code 48 = .ok (.iload_n 0, 1) := by decide +kernel
theorem d_jdk_33_method_47_49 : decode jdk_33_method_47_code 49 = .ok (.bipush 16, 2) := by decide +kernel
theorem d_jdk_33_method_47_51 : decode jdk_33_method_47_code 51 = .ok (.if_icmp .lt 10, 3) := by decide +kernel
theorem d_jdk_33_method_47_54 : decode jdk_33_method_47_code 54 = .ok (.iinc 1 (-4), 3) := by decide +kernel
theorem d_jdk_33_method_47_57 : decode jdk_33_method_47_code 57 = .ok (.iload_n 0, 1) := by decide +kernel
theorem d_jdk_33_method_47_58 : decode jdk_33_method_47_code 58 = .ok (.iconst 4, 1) := by decide +kernel
theorem d_jdk_33_method_47_59 : decode jdk_33_method_47_code 59 = .ok (.iushr, 1) := by decide +kernel
theorem d_jdk_33_method_47_60 : decode jdk_33_method_47_code 60 = .ok (.istore_n 0, 1) := by decide +kernel
theorem d_jdk_33_method_47_61 : decode jdk_33_method_47_code 61 = .ok (.iload_n 0, 1) := by decide +kernel
theorem d_jdk_33_method_47_62 : decode jdk_33_method_47_code 62 = .ok (.iconst 4, 1) := by decide +kernel
theorem d_jdk_33_method_47_63 : decode jdk_33_method_47_code 63 = .ok (.if_icmp .lt 10, 3) := by decide +kernel
theorem d_jdk_33_method_47_66 : decode jdk_33_method_47_code 66 = .ok (.iinc 1 (-2), 3) := by decide +kernel
theorem d_jdk_33_method_47_69 : decode jdk_33_method_47_code 69 = .ok (.iload_n 0, 1) := by decide +kernel
theorem d_jdk_33_method_47_70 : decode jdk_33_method_47_code 70 = .ok (.iconst 2, 1) := by decide +kernel
theorem d_jdk_33_method_47_71 : decode jdk_33_method_47_code 71 = .ok (.iushr, 1) := by decide +kernel
theorem d_jdk_33_method_47_72 : decode jdk_33_method_47_code 72 = .ok (.istore_n 0, 1) := by decide +kernel
theorem d_jdk_33_method_47_73 : decode jdk_33_method_47_code 73 = .ok (.iload_n 1, 1) := by decide +kernel
theorem d_jdk_33_method_47_74 : decode jdk_33_method_47_code 74 = .ok (.iload_n 0, 1) := by decide +kernel
theorem d_jdk_33_method_47_75 : decode jdk_33_method_47_code 75 = .ok (.iconst 1, 1) := by decide +kernel
theorem d_jdk_33_method_47_76 : decode jdk_33_method_47_code 76 = .ok (.iushr, 1) := by decide +kernel
theorem d_jdk_33_method_47_77 : decode jdk_33_method_47_code 77 = .ok (.isub, 1) := by decide +kernel
theorem d_jdk_33_method_47_78 : decode jdk_33_method_47_code 78 = .ok (.ireturn, 1) := by decide +kernel
section OwnArr
variable {Z : State} {h h' : Heap} {a b : Addr} {ty : FieldType} {vs : List Value} {xs : List Int32} {ys : List Int64}
/-- the array at a holds just the values vs -/
def own_V (Z : State) (h : Heap) (a : Addr) (ty : FieldType) (vs : List Value) : Prop := ∃ c : Cell, Arr Z h a c ty ∧ c.slots.toList = vs ∧ vs.length < 2 ^ 31
theorem own_V_lt (F : own_V Z h a ty vs) : a < h.size := by obtain ⟨c, A, -⟩ := F; exact A.lt
theorem own_V_ext (F : own_V Z h a ty vs) (E : Ext h h') : own_V Z h' a ty vs := by obtain ⟨c, A, r⟩ := F; exact ⟨c, A.ext E, r⟩
theorem own_V_other {sl : Nat} {v : Value} (F : own_V Z h b ty vs) (W : Wr h h' a sl v) (q : b ≠ a) : own_V Z h' b ty vs := by obtain ⟨c, A, r⟩ := F; exact ⟨c, A.other W q, r⟩
theorem own_V_keep {ws : List Addr} (F : own_V Z h a ty vs) (K : Keep h h' ws) (q : a ∉ ws) : own_V Z h' a ty vs := by
  obtain ⟨c, A, r⟩ := F
  exact ⟨c, ⟨K.2.1 a c A.1 q, A.2⟩, r⟩
theorem own_V_set {j : Int32} {k : Nat} {v : Value} (F : own_V Z h a ty vs) (W : Wr h h' a j.toNatClampNeg v) (hj : j.toNatClampNeg = k) : own_V Z h' a ty (vs.set k v) := by
  obtain ⟨c, A, r, q⟩ := F
  subst hj r
  refine ⟨_, A.same W, ?_, ?_⟩
  · simp [Cell.setSlot]
  · rw [List.length_set]; exact q
theorem own_V_new {k : ClassId} {n : Int32} {m : Nat} (A : Arr Z h a (newA k ty n) ty) (hm : n.toNatClampNeg = m) (hn : m < 2 ^ 31) : own_V Z h a ty (List.replicate m (defaultValue ty)) := by
  subst hm
  refine ⟨_, A, by simp [newA], ?_⟩
  rw [List.length_replicate]; exact hn
theorem own_tn {j : Int32} (h0 : 0 ≤ j.toInt) : (j.toNatClampNeg : Int) = j.toInt := by
  show ((j.toInt.toNat : Nat) : Int) = j.toInt
  omega
theorem own_neg {j : Int32} (h0 : 0 ≤ j.toInt) : ¬ j < 0 := by
  rw [Int32.lt_iff_toInt_lt, show (0 : Int32).toInt = 0 from rfl]; omega
theorem own_hin {c : Cell} {j : Int32} (S : c.slots.toList = vs) (h0 : 0 ≤ j.toInt) (h1 : j.toInt < vs.length) : ¬ (j < 0 ∨ c.slots.size ≤ j.toNatClampNeg) := by
  have e := own_tn h0
  have e2 : c.slots.size = vs.length := by rw [← S]; simp
  intro q
  rcases q with q | q
  · exact own_neg h0 q
  · omega
theorem own_hink {c : Cell} {j : Int32} {k : Nat} (S : c.slots.toList = vs) (h0 : ¬ j < 0) (hj : j.toNatClampNeg = k) (hk : k < vs.length) : ¬ (j < 0 ∨ c.slots.size ≤ j.toNatClampNeg) := by
  have e2 : c.slots.size = vs.length := by rw [← S]; simp
  intro q
  rcases q with q | q
  · exact h0 q
  · omega
theorem own_hatk {c : Cell} {j : Int32} {k : Nat} {v : Value} (S : c.slots.toList = vs) (hj : j.toNatClampNeg = k) (hv : vs[k]? = some v) : c.slots[j.toNatClampNeg]? = some v := by
  rw [hj, ← hv, ← S]; simp
theorem own_hatkD {c : Cell} {j : Int32} {v : Value} (S : c.slots.toList = vs) (hv : vs[j.toNatClampNeg]? = some v) : c.slots[j.toNatClampNeg]? = some v := own_hatk S rfl hv
theorem own_hatI {c : Cell} {j : Int32} (S : c.slots.toList = xs.map Value.int) (h0 : 0 ≤ j.toInt) (h1 : j.toInt < xs.length) : c.slots[j.toNatClampNeg]? = some (.int (xs.getD j.toNatClampNeg 0)) := by
  have e := own_tn h0
  have hl : j.toNatClampNeg < xs.length := by omega
  refine own_hatk S rfl ?_
  simp [hl]
theorem own_hatJ {c : Cell} {j : Int32} (S : c.slots.toList = ys.map Value.long) (h0 : 0 ≤ j.toInt) (h1 : j.toInt < ys.length) : c.slots[j.toNatClampNeg]? = some (.long (ys.getD j.toNatClampNeg 0)) := by
  have e := own_tn h0
  have hl : j.toNatClampNeg < ys.length := by omega
  refine own_hatk S rfl ?_
  simp [hl]
theorem own_len {c : Cell} {n : Int32} (S : c.slots.toList = vs) (hn : n.toInt = vs.length) : c.slots.size.toInt32 = n := by
  have e2 : c.slots.size = vs.length := by rw [← S]; simp
  have e := own_tn (j := n) (by omega)
  refine len_of ?_ (own_neg (by omega))
  omega
end OwnArr
theorem own_ofN {d : Nat} (h : d < 2147483648) : (Int32.ofNat d).toInt = d := Int32.toInt_ofNat_of_lt (by omega)
theorem own_tnO {d : Nat} (h : d < 2147483648) : (Int32.ofNat d).toNatClampNeg = d := by
  have := own_tn (j := Int32.ofNat d) (by rw [own_ofN h]; omega)
  rw [own_ofN h] at this; omega
theorem own_ltO {d k : Nat} (h : d < 2147483648) (hk : k < 2147483648) : Int32.ofNat d < Int32.ofNat k ↔ d < k := by
  rw [Int32.lt_iff_toInt_lt, own_ofN h, own_ofN hk]; omega
theorem own_eqO {d k : Nat} (h : d < 2147483648) (hk : k < 2147483648) : Int32.ofNat d = Int32.ofNat k ↔ d = k := by
  rw [← Int32.toInt_inj, own_ofN h, own_ofN hk]; omega
theorem own_pred {d : Nat} (h1 : 1 ≤ d) : Int32.ofNat d - (1 : Int32) = Int32.ofNat (d - 1) := by
  have e : Int32.ofNat d = Int32.ofNat (d - 1) + (1 : Int32) := by
    rw [show (1 : Int32) = Int32.ofNat 1 from rfl, ← Int32.ofNat_add]; congr 1; omega
  rw [e, Int32.add_sub_cancel]
theorem own_addk (p k : Nat) : Int32.ofNat p + Int32.ofNat k = Int32.ofNat (p + k) := (Int32.ofNat_add p k).symm
theorem own_subk {p k : Nat} (h : k ≤ p) : Int32.ofNat p - Int32.ofNat k = Int32.ofNat (p - k) := by
  have e : Int32.ofNat p = Int32.ofNat (p - k) + Int32.ofNat k := by
    rw [own_addk]; congr 1; omega
  rw [e, Int32.add_sub_cancel]
theorem own_atI {xs : List Int32} {k : Nat} (h : k < xs.length) : (xs.map Value.int)[k]? = some (.int (xs.getD k 0)) := by simp [h]
theorem own_atJ {xs : List Int64} {k : Nat} (h : k < xs.length) : (xs.map Value.long)[k]? = some (.long (xs.getD k 0)) := by simp [h]
theorem own_toN {x : Int32} (h : 0 ≤ x.toInt) : x = Int32.ofNat x.toInt.toNat := by
  apply Int32.toInt_inj.mp
  have := x.toInt_lt
  rw [own_ofN (by omega)]; omega
theorem own_ni_0 {a : Addr} : a ∉ ([] : List Addr) := List.not_mem_nil
theorem own_ni_1 {a x : Addr} (h : a ≠ x) : a ∉ [x] := by simp [h]
theorem own_ni_2 {a x y : Addr} (h : a ≠ x) (h' : a ≠ y) : a ∉ [x, y] := by simp [h, h']
theorem own_ni_3 {a x y z : Addr} (h : a ≠ x) (h' : a ≠ y) (h'' : a ≠ z) : a ∉ [x, y, z] := by simp [h, h', h'']
theorem own_sub_0 {P : Addr → Prop} : ∀ x ∈ ([] : List Addr), P x := fun x h => absurd h List.not_mem_nil
theorem own_sub_1 {P : Addr → Prop} {a : Addr} (h : P a) : ∀ x ∈ [a], P x := fun x q => by
  obtain rfl : x = a := by simpa using q
  exact h
theorem own_rep {n j : Nat} {x : Int32} (h : j < n) : (List.replicate n x).getD j 0 = x := by simp [h]
theorem own_ni_4 {a x y z w : Addr} (h1 : a ≠ x) (h2 : a ≠ y) (h3 : a ≠ z) (h4 : a ≠ w) : a ∉ [x, y, z, w] := by simp [h1, h2, h3, h4]
theorem own_toI64 {n : Nat} (h : n < 9223372036854775808) : (Int64.ofNat n).toInt = n := Int64.toInt_ofNat_of_lt (by omega)
theorem own_divO {a b : Nat} (ha : a < 2147483648) (hb : b < 2147483648) (h0 : 0 < b) : Int32.ofNat a / Int32.ofNat b = Int32.ofNat (a / b) := by
  apply Int32.toInt_inj.mp
  have hlt : a / b < 2147483648 := Nat.lt_of_le_of_lt (Nat.div_le_self _ _) ha
  have hb1 : Int32.ofNat b ≠ -1 := fun q => by
    have := congrArg Int32.toInt q
    rw [own_ofN hb, show (-1 : Int32).toInt = -1 by decide] at this
    omega
  rw [(c_idiv (Int32.ofNat a) (Int32.ofNat b) b (own_ofN hb) hb1).1 (by rw [own_ofN ha]; omega), own_ofN ha, own_ofN hlt]
  exact (Int.natCast_ediv a b).symm
theorem own_remO {a b : Nat} (ha : a < 2147483648) (hb : b < 2147483648) (h0 : 0 < b) : Int32.ofNat a - (Int32.ofNat a / Int32.ofNat b) * Int32.ofNat b = Int32.ofNat (a % b) := by
  rw [irem_eq_mod]
  apply Int32.toInt_inj.mp
  have hlt : a % b < 2147483648 := Nat.lt_of_le_of_lt (Nat.mod_le _ _) ha
  rw [(c_irem (Int32.ofNat a) (Int32.ofNat b) b (own_ofN hb)).1 (by rw [own_ofN ha]; omega), own_ofN ha, own_ofN hlt]
  exact (Int.natCast_emod a b).symm
theorem own_divJ {a b : Nat} (ha : a < 9223372036854775808) (hb : b < 9223372036854775808) (h0 : 0 < b) : Int64.ofNat a / Int64.ofNat b = Int64.ofNat (a / b) := by
  apply Int64.toInt_inj.mp
  have hlt : a / b < 9223372036854775808 := Nat.lt_of_le_of_lt (Nat.div_le_self _ _) ha
  have hb1 : Int64.ofNat b ≠ -1 := fun q => by
    have := congrArg Int64.toInt q
    rw [own_toI64 hb, show (-1 : Int64).toInt = -1 by decide] at this
    omega
  rw [(c_ldiv (Int64.ofNat a) (Int64.ofNat b) b (own_toI64 hb) hb1).1 (by rw [own_toI64 ha]; omega), own_toI64 ha, own_toI64 hlt]
  exact (Int.natCast_ediv a b).symm
theorem own_remJ {a b : Nat} (ha : a < 9223372036854775808) (hb : b < 9223372036854775808) (h0 : 0 < b) : Int64.ofNat a - (Int64.ofNat a / Int64.ofNat b) * Int64.ofNat b = Int64.ofNat (a % b) := by
  apply Int64.toInt_inj.mp
  have hlt : a % b < 9223372036854775808 := Nat.lt_of_le_of_lt (Nat.mod_le _ _) ha
  rw [(c_lrem (Int64.ofNat a) (Int64.ofNat b) b (own_toI64 hb)).1 (by rw [own_toI64 ha]; omega), own_toI64 ha, own_toI64 hlt]
  exact (Int.natCast_emod a b).symm
theorem own_i2l {n : Nat} (h : n < 2147483648) : (Int32.ofNat n).toInt64 = Int64.ofNat n := by
  apply Int64.toInt_inj.mp
  rw [c_i2l, own_ofN h, own_toI64 (by omega)]
theorem own_l2i {n : Nat} (h : n < 2147483648) : (Int64.ofNat n).toInt32 = Int32.ofNat n := by
  apply Int32.toInt_inj.mp
  have h1 := c_l2i (Int64.ofNat n)
  have h2 := rng32 (Int64.ofNat n).toInt32
  rw [own_toI64 (by omega)] at h1
  rw [own_ofN h]; omega
theorem own_i2c {n : Nat} (h : n < 65536) : (Int32.ofNat n).toUInt32.toUInt16.toUInt32.toInt32 = Int32.ofNat n := by
  apply Int32.toInt_inj.mp
  have h1 := c_i2c (Int32.ofNat n)
  rw [own_ofN (by omega)] at h1 ⊢
  omega
theorem own_narC {n : Nat} (h : n < 65536) : nar .char (Int32.ofNat n) = Int32.ofNat n := own_i2c h
theorem own_getset {xs : List Int32} {i j : Nat} {v : Int32} (h : i < xs.length) : (xs.set i v).getD j 0 = if j = i then v else xs.getD j 0 := by
  by_cases hj : j = i
  · subst hj; simp [h]
  · simp [hj, Ne.symm hj]
theorem own_dec {i : Int32} {u : Nat} (hi : i.toInt = (u : Int) - 1) (hu : 1 ≤ u) : (i + (-1 : Int32)).toInt = ((u - 1 : Nat) : Int) - 1 := by
  have h1 := c_iadd i (-1 : Int32)
  have h2 := rng32 (i + (-1 : Int32))
  have h3 := rng32 i
  rw [show (-1 : Int32).toInt = -1 by decide] at h1
  omega
theorem own_preI {u : Nat} (hu : u < 2147483648) : (Int32.ofNat u - (1 : Int32)).toInt = (u : Int) - 1 := by
  have h1 := c_isub (Int32.ofNat u) (1 : Int32)
  have h2 := rng32 (Int32.ofNat u - (1 : Int32))
  rw [own_ofN hu, show (1 : Int32).toInt = 1 by decide] at h1
  omega

theorem own_sub_2 {P : Addr → Prop} {a b : Addr} (h : P a) (h' : P b) : ∀ x ∈ [a, b], P x := fun x q => by
  rcases List.mem_cons.mp q with rfl | q
  · exact h
  · obtain rfl : x = b := by simpa using q
    exact h'
section OwnLat
variable {Z : State} {h h' : Heap} {a b : Addr} {ct : Addr} {t : Nat}
/-- a Latencies: her array of counts, her total -/
def own_O (Z : State) (h : Heap) (a : Addr) (ct : Addr) (t : Nat) : Prop := Exa Z h a "com/example/keyspace/keyspace/bench/Latencies" ∧ Fld Z h a "com/example/keyspace/keyspace/bench/Latencies" "counts" "[J" (.ref ct) ∧ Fld Z h a "com/example/keyspace/keyspace/bench/Latencies" "total" "J" (.long (Int64.ofNat t))
theorem own_O_ext (O : own_O Z h a ct t) (E : Ext h h') : own_O Z h' a ct t := ⟨O.1.ext E, O.2.1.ext E, O.2.2.ext E⟩
theorem own_O_other {sl : Nat} {v : Value} (O : own_O Z h a ct t) (W : Wr h h' b sl v) (q : a ≠ b) : own_O Z h' a ct t := ⟨O.1.wr W, O.2.1.other W (Or.inl q), O.2.2.other W (Or.inl q)⟩
theorem own_O_keep {ws : List Addr} (O : own_O Z h a ct t) (K : Keep h h' ws) (q : a ∉ ws) : own_O Z h' a ct t := ⟨O.1.keep K, O.2.1.keep K q, O.2.2.keep K q⟩
theorem own_Sta_old {n d : String} {C : String} {v : Value} (S : Sta Z h C n d v) (K : Keep h h' []) : Sta Z h' C n d v := by
  obtain ⟨cf, i, k, f, st, cell, h1, h2, h3, h4, h5, r⟩ := S
  exact ⟨cf, i, k, f, st, cell, h1, h2, h3, h4, K.2.1 _ _ h5 List.not_mem_nil, r⟩
end OwnLat
theorem own_O_total {Z : State} {h h' : Heap} {a ct : Addr} {a0 : Array Value} {t t' : Nat} (hw : ∀ d ∈ tables_1, d.before a0 Z = true) (O : own_O Z h a ct t) (W : Wr h h' a (Jvm.RoadKit.slotOf Z "com/example/keyspace/keyspace/bench/Latencies" "total" "J") (.long (Int64.ofNat t'))) : own_O Z h' a ct t' := ⟨O.1.wr W, O.2.1.other W (Or.inr (slot_ne (t := (.array .long)) (t' := .long) (Or.inr (hw _ (List.mem_of_getElem? (i := 12) rfl))) (Or.inl (hw _ (List.mem_of_getElem? (i := 27) rfl))) (by decide) (by decide) (by decide))), O.2.2.same W⟩
theorem own_O_new {Z : State} {h h' : Heap} {a ct : Addr} {a0 : Array Value} (hw : ∀ d ∈ tables_1, d.before a0 Z = true) (E : Exa Z h a "com/example/keyspace/keyspace/bench/Latencies") (F1 : Fld Z h a "com/example/keyspace/keyspace/bench/Latencies" "counts" "[J" .null) (F2 : Fld Z h a "com/example/keyspace/keyspace/bench/Latencies" "total" "J" (.long 0)) (W : Wr h h' a (Jvm.RoadKit.slotOf Z "com/example/keyspace/keyspace/bench/Latencies" "counts" "[J") (.ref ct)) : own_O Z h' a ct 0 := ⟨E.wr W, F1.same W, F2.other W (Or.inr (slot_ne (t := .long) (t' := (.array .long)) (Or.inl (hw _ (List.mem_of_getElem? (i := 27) rfl))) (Or.inr (hw _ (List.mem_of_getElem? (i := 12) rfl))) (by decide) (by decide) (by decide)))⟩
theorem own_StaticIs {Z V : State} {h : Heap} {C n d : String} {v : Value} (S : Sta Z h C n d v) (hv : Z.vm.Alike V.vm) (hh : V.heap = h) : Jvm.Lib.Cold.StaticIs V C n d v := by
  obtain ⟨cf, i, k, f, st, cell, h1, h2, h3, h4, h5, h6, h7⟩ := S
  obtain ⟨k', hk', he⟩ := State.fieldFound?_setVm hv h1
  exact ⟨cf, i, k', f, st, cell, hk', h2, by rw [he]; exact h3, by rw [he]; exact h4, by rw [hh]; exact h5, (fun q => by rw [q] at h6; cases h6), h7⟩
theorem own_static1 {args : Array Value} {s : State} {C n d : String} {k : Int32} (h : (Jvm.Cond.eq (.static C n d) (.int k)).value args s none s [] = some true) : (Jvm.Term.static C n d).eval args s none [] s = some (.int k) := by
  obtain ⟨u, w, e1, e2, K1, K2⟩ := cmp_v (Or.inl h)
  have e3 : some w = some (.int k) := e2.symm.trans (Term.int_eval k)
  obtain rfl := Option.some.inj e3
  obtain ⟨z, rfl⟩ := K2
  have e4 := gotT (Cond.eq_ints e1 e2) h
  rw [e1, e4]
/-- the counts as a list of values -/
def own_A (f : Nat → Nat) : List Value := (List.range 55296).map fun j => Value.long (Int64.ofNat (f j))
theorem own_A_len (f : Nat → Nat) : (own_A f).length = 55296 := by rw [own_A, List.length_map, List.length_range]
theorem own_A_at (f : Nat → Nat) {k : Nat} (h : k < 55296) : (own_A f)[k]? = some (.long (Int64.ofNat (f k))) := by
  rw [own_A, List.getElem?_map, List.getElem?_range h]; rfl
theorem own_A_out (f : Nat → Nat) {k : Nat} (h : ¬ k < 55296) : (own_A f)[k]? = none := List.getElem?_eq_none (by rw [own_A_len]; omega)
theorem own_A_congr {f g : Nat → Nat} (h : ∀ j, j < 55296 → f j = g j) : own_A f = own_A g := by
  apply List.ext_getElem?
  intro k
  by_cases hk : k < 55296
  · rw [own_A_at _ hk, own_A_at _ hk, h k hk]
  · rw [own_A_out _ hk, own_A_out _ hk]
theorem own_A_set {f : Nat → Nat} {i v : Nat} (hi : i < 55296) : (own_A f).set i (.long (Int64.ofNat v)) = own_A (fun j => if j = i then v else f j) := by
  apply List.ext_getElem?
  intro k
  by_cases hk : k < 55296
  · rw [own_A_at _ hk, List.getElem?_set]
    by_cases q : i = k
    · rw [if_pos q, if_pos (by rw [own_A_len]; exact hi), if_pos q.symm]
    · rw [if_neg q, own_A_at _ hk, if_neg (fun z => q z.symm)]
  · rw [own_A_out _ hk, List.getElem?_eq_none (by rw [List.length_set, own_A_len]; omega)]
/-- the counts when es are the buckets that were recorded -/
def own_K (es : List Nat) : List Value := own_A fun j => es.count j
theorem own_K_len (es : List Nat) : (own_K es).length = 55296 := own_A_len _
theorem own_K_at (es : List Nat) {k : Nat} (h : k < 55296) : (own_K es)[k]? = some (.long (Int64.ofNat (es.count k))) := own_A_at _ h
theorem own_cnt (x : Nat) (es : List Nat) (j : Nat) : (x :: es).count j = es.count j + if x = j then 1 else 0 := by
  rw [List.count_cons]
  by_cases q : x = j <;> simp [q]
theorem own_K_set {es : List Nat} {i : Nat} (hi : i < 55296) : (own_K es).set i (.long (Int64.ofNat (es.count i + 1))) = own_K (i :: es) := by
  rw [own_K, own_A_set hi]
  refine own_A_congr fun j _ => ?_
  rw [own_cnt]
  by_cases q : j = i
  · subst q; rw [if_pos rfl, if_pos rfl]
  · rw [if_neg q, if_neg (fun z => q z.symm), Nat.add_zero]
theorem own_K_new {Z : State} {h : Heap} {a : Addr} (F : own_V Z h a .long (List.replicate 55296 (Value.long 0))) : own_V Z h a .long (own_K []) := by
  have e : List.replicate 55296 (Value.long 0) = own_K [] := by
    apply List.ext_getElem?
    intro k
    by_cases hk : k < 55296
    · rw [own_K_at _ hk, List.getElem?_replicate, if_pos hk]; rfl
    · rw [own_K, own_A_out _ hk, List.getElem?_eq_none (by rw [List.length_replicate]; omega)]
  rw [← e]; exact F
theorem own_K_congr {es fs : List Nat} (h : ∀ j, es.count j = fs.count j) : own_K es = own_K fs := own_A_congr fun j _ => h j
def own_mix (es fs : List Nat) (i j : Nat) : Nat := if j < i then es.count j + fs.count j else es.count j
theorem own_mix_at {es fs : List Nat} {i : Nat} (h : i < 55296) : (own_A (own_mix es fs i))[i]? = some (.long (Int64.ofNat (es.count i))) := by
  rw [own_A_at _ h, own_mix, if_neg (Nat.lt_irrefl i)]
theorem own_mix_set {es fs : List Nat} {i : Nat} (h : i < 55296) : (own_A (own_mix es fs i)).set i (.long (Int64.ofNat (es.count i + fs.count i))) = own_A (own_mix es fs (i + 1)) := by
  rw [own_A_set h]
  refine own_A_congr fun j _ => ?_
  by_cases q : j = i
  · rw [if_pos q, own_mix, if_pos (by omega), q]
  · rw [if_neg q, own_mix, own_mix]
    by_cases q2 : j < i
    · rw [if_pos q2, if_pos (by omega)]
    · rw [if_neg q2, if_neg (by omega)]
theorem own_mix_0 (es fs : List Nat) : own_A (own_mix es fs 0) = own_K es := own_A_congr fun j _ => by rw [own_mix, if_neg (Nat.not_lt_zero j)]
theorem own_mix_end {es fs : List Nat} {i : Nat} (h : ¬ i < 55296) : own_A (own_mix es fs i) = own_K (es ++ fs) := own_A_congr fun j hj => by rw [own_mix, if_pos (by omega), List.count_append]
theorem own_addJ (a b : Nat) : Int64.ofNat a + Int64.ofNat b = Int64.ofNat (a + b) := (Int64.ofNat_add a b).symm
theorem own_ltJ64 {d k : Nat} (h : d < 9223372036854775808) (hk : k < 9223372036854775808) : Int64.ofNat d < Int64.ofNat k ↔ d < k := by
  rw [Int64.lt_iff_toInt_lt, own_toI64 h, own_toI64 hk]; omega
theorem own_toN64 {x : Int64} (h : 0 ≤ x.toInt) : x = Int64.ofNat x.toInt.toNat := by
  apply Int64.toInt_inj.mp
  have := rng64 x
  rw [own_toI64 (by omega)]; omega
/-- the sum of the first counts -/
def own_S (f : Nat → Nat) : Nat → Nat
  | 0 => 0
  | i + 1 => own_S f i + f i
theorem own_S_le {f : Nat → Nat} {i : Nat} : ∀ {n : Nat}, i ≤ n → own_S f i ≤ own_S f n := by
  intro n
  induction n with
  | zero => intro h; rw [Nat.le_zero.mp h]; exact Nat.le_refl _
  | succ n ih =>
    intro h
    by_cases q : i = n + 1
    · rw [q]; exact Nat.le_refl _
    · exact Nat.le_trans (ih (by omega)) (Nat.le_add_right _ _)
theorem own_S_nil (n : Nat) : own_S (fun j => ([] : List Nat).count j) n = 0 := by
  induction n with
  | zero => rfl
  | succ n ih => show own_S _ n + 0 = 0; rw [ih]
theorem own_S_cons (x : Nat) (es : List Nat) (n : Nat) : own_S (fun j => (x :: es).count j) n = own_S (fun j => es.count j) n + (if x < n then 1 else 0) := by
  induction n with
  | zero => rw [if_neg (Nat.not_lt_zero x)]; rfl
  | succ n ih =>
    show own_S _ n + (x :: es).count n = (own_S _ n + es.count n) + _
    rw [ih, own_cnt]
    by_cases q1 : x = n
    · rw [if_pos q1, if_neg (by omega), if_pos (by omega)]; omega
    · rw [if_neg q1]
      by_cases q2 : x < n
      · rw [if_pos q2, if_pos (by omega)]; omega
      · rw [if_neg q2, if_neg (by omega)]; omega
theorem own_S_tot {n : Nat} : ∀ {es : List Nat}, (∀ x ∈ es, x < n) → own_S (fun j => es.count j) n = es.length := by
  intro es
  induction es with
  | nil => intro _; exact own_S_nil n
  | cons x es ih =>
    intro h
    rw [own_S_cons, ih (fun y hy => h y (List.mem_cons_of_mem _ hy)), if_pos (h x List.mem_cons_self)]; rfl
/-- i: how many counts percentile reads -/
def own_isp (zs : List Nat) (rk i : Nat) : Prop := rk ≤ own_S (fun j => zs.count j) i ∧ ∀ j, j < i → own_S (fun j => zs.count j) j < rk
theorem own_isp_ex {zs : List Nat} {rk : Nat} : ∀ n, rk ≤ own_S (fun j => zs.count j) n → ∃ i, i ≤ n ∧ own_isp zs rk i := by
  intro n
  induction n with
  | zero => intro h; exact ⟨0, Nat.le_refl _, h, fun j hj => absurd hj (Nat.not_lt_zero j)⟩
  | succ n ih =>
    intro h
    by_cases q : rk ≤ own_S (fun j => zs.count j) n
    · obtain ⟨i, h1, h2⟩ := ih q
      exact ⟨i, by omega, h2⟩
    · refine ⟨n + 1, Nat.le_refl _, h, fun j hj => ?_⟩
      have := own_S_le (f := fun j => zs.count j) (i := j) (n := n) (by omega)
      omega
theorem own_isp_lt {zs : List Nat} {rk i j : Nat} (H : own_isp zs rk i) (hj : j ≤ i) (h : own_S (fun j => zs.count j) j < rk) : j < i := by
  rcases Nat.lt_or_ge j i with q | q
  · exact q
  · have e : j = i := by omega
    rw [e] at h
    have := H.1
    omega
theorem own_isp_eq {zs : List Nat} {rk i j : Nat} (H : own_isp zs rk i) (hj : j ≤ i) (h : ¬ own_S (fun j => zs.count j) j < rk) : j = i := by
  rcases Nat.lt_or_ge j i with q | q
  · exact absurd (H.2 j q) h
  · omega
/-- xs and ys together are zs -/
def own_P (xs ys zs : List Nat) (k : Nat) : Prop := (∀ j, xs.count j + ys.count j = zs.count j) ∧ xs.length + ys.length = zs.length ∧ zs.length ≤ k ∧ ∀ e ∈ zs, e < 55296
theorem own_P_0 : own_P [] [] [] 0 := ⟨fun _ => rfl, rfl, Nat.le_refl _, fun e he => absurd he List.not_mem_nil⟩
theorem own_P_up {xs ys zs : List Nat} {k : Nat} (P : own_P xs ys zs k) : own_P xs ys zs (k + 1) := ⟨P.1, P.2.1, Nat.le_succ_of_le P.2.2.1, P.2.2.2⟩
theorem own_P_all {zs : List Nat} {i : Nat} (h : ∀ e ∈ zs, e < 55296) (hi : i < 55296) : ∀ e ∈ (i :: zs), e < 55296 := fun e he => by
  rcases List.mem_cons.mp he with q | q
  · rw [q]; exact hi
  · exact h e q
theorem own_P_x {xs ys zs : List Nat} {k i : Nat} (P : own_P xs ys zs k) (hi : i < 55296) : own_P (i :: xs) ys (i :: zs) (k + 1) := by
  obtain ⟨h1, h2, h3, h4⟩ := P
  refine ⟨fun j => ?_, ?_, ?_, own_P_all h4 hi⟩
  · rw [own_cnt, own_cnt, ← h1 j]; omega
  · rw [List.length_cons, List.length_cons]; omega
  · rw [List.length_cons]; omega
theorem own_P_y {xs ys zs : List Nat} {k i : Nat} (P : own_P xs ys zs k) (hi : i < 55296) : own_P xs (i :: ys) (i :: zs) (k + 1) := by
  obtain ⟨h1, h2, h3, h4⟩ := P
  refine ⟨fun j => ?_, ?_, ?_, own_P_all h4 hi⟩
  · rw [own_cnt, own_cnt, ← h1 j]; omega
  · rw [List.length_cons, List.length_cons]; omega
  · rw [List.length_cons]; omega
/-- the three objects of the law -/
def own_W3 (Z : State) (h0 : Heap) (n0 : Nat) (b1 c1 b2 c2 b3 c3 : Addr) (h : Heap) (xs ys zs : List Nat) : Prop :=
  own_O Z h b1 c1 xs.length ∧ own_V Z h c1 .long (own_K xs) ∧ own_O Z h b2 c2 ys.length ∧ own_V Z h c2 .long (own_K ys) ∧ own_O Z h b3 c3 zs.length ∧ own_V Z h c3 .long (own_K zs) ∧ Keep h0 h [] ∧ n0 ≤ h.size
/-- leading zeros -/
def own_lz (N k r : Nat) : Prop := r < N ∧ 2 ^ (N - 1 - r) ≤ k ∧ k < 2 ^ (N - r)
def own_nl (k i n : Nat) : Prop := n ≤ 31 ∧ i * 2 ^ (31 - n) ≤ k ∧ k < (i + 1) * 2 ^ (31 - n)
theorem own_nl_0 (k : Nat) : own_nl k k 31 := by
  refine ⟨Nat.le_refl _, ?_, ?_⟩
  · rw [Nat.sub_self, Nat.pow_zero, Nat.mul_one]; exact Nat.le_refl _
  · rw [Nat.sub_self, Nat.pow_zero, Nat.mul_one]; exact Nat.lt_succ_self _
theorem own_nl_step {k i n : Nat} (d : Nat) (H : own_nl k i n) (hd : d ≤ n) : own_nl k (i / 2 ^ d) (n - d) := by
  obtain ⟨h1, h2, h3⟩ := H
  have e : 2 ^ (31 - (n - d)) = 2 ^ d * 2 ^ (31 - n) := by rw [← Nat.pow_add]; congr 1; omega
  refine ⟨by omega, ?_, ?_⟩
  · rw [e, ← Nat.mul_assoc]
    exact Nat.le_trans (Nat.mul_le_mul_right _ (Nat.div_mul_le_self i (2 ^ d))) h2
  · rw [e, ← Nat.mul_assoc]
    refine Nat.lt_of_lt_of_le h3 (Nat.mul_le_mul_right _ ?_)
    have q := Nat.lt_div_mul_add (a := i) (b := 2 ^ d) (Nat.two_pow_pos d)
    rw [Nat.add_mul, Nat.one_mul]
    exact q
theorem own_lz_end {k i n : Nat} (H : own_nl k i n) (h1 : 1 ≤ i) (h4 : i < 4) (hn : 1 ≤ n) : own_lz 32 k (n - i / 2 ^ 1) := by
  obtain ⟨a, b, c⟩ := H
  have p1 : 2 ^ (31 - n + 1) = 2 ^ (31 - n) * 2 := Nat.pow_succ 2 (31 - n)
  have p2 : 2 ^ (31 - n + 1 + 1) = 2 ^ (31 - n) * 2 * 2 := by rw [Nat.pow_succ, Nat.pow_succ]
  have hi : i = 1 ∨ i = 2 ∨ i = 3 := by omega
  rcases hi with rfl | rfl | rfl
  · refine ⟨by omega, ?_, ?_⟩
    · rw [show 32 - 1 - (n - 1 / 2 ^ 1) = 31 - n by omega]; omega
    · rw [show 32 - (n - 1 / 2 ^ 1) = 31 - n + 1 by omega, p1]; omega
  · refine ⟨by omega, ?_, ?_⟩
    · rw [show 32 - 1 - (n - 2 / 2 ^ 1) = 31 - n + 1 by omega, p1]; omega
    · rw [show 32 - (n - 2 / 2 ^ 1) = 31 - n + 1 + 1 by omega, p2]; omega
  · refine ⟨by omega, ?_, ?_⟩
    · rw [show 32 - 1 - (n - 3 / 2 ^ 1) = 31 - n + 1 by omega, p1]; omega
    · rw [show 32 - (n - 3 / 2 ^ 1) = 31 - n + 1 + 1 by omega, p2]; omega
theorem own_lz_lo {V z : Nat} (h : own_lz 32 V z) : own_lz 64 V (32 + z) := by
  obtain ⟨a, b, c⟩ := h
  refine ⟨by omega, ?_, ?_⟩
  · rw [show 64 - 1 - (32 + z) = 32 - 1 - z by omega]; exact b
  · rw [show 64 - (32 + z) = 32 - z by omega]; exact c
theorem own_lz_hi {V z : Nat} (h : own_lz 32 (V / 2 ^ 32) z) : own_lz 64 V z := by
  obtain ⟨a, b, c⟩ := h
  refine ⟨by omega, ?_, ?_⟩
  · rw [show 64 - 1 - z = 32 - 1 - z + 32 by omega, Nat.pow_add]
    exact Nat.le_trans (Nat.mul_le_mul_right _ b) (Nat.div_mul_le_self V (2 ^ 32))
  · rw [show 64 - z = 32 - z + 32 by omega, Nat.pow_add]
    exact (Nat.div_lt_iff_lt_mul (Nat.two_pow_pos 32)).mp c
theorem own_lz_s {V z : Nat} (h : own_lz 64 V z) (h1 : 2048 ≤ V) (h2 : V < 9223372036854775808) : ∃ sh, 1 ≤ sh ∧ sh ≤ 52 ∧ z + sh = 53 ∧ 2 ^ (sh + 10) ≤ V ∧ V < 2 ^ (sh + 11) := by
  obtain ⟨a, b, c⟩ := h
  have hz1 : 1 ≤ z := by
    rcases Nat.eq_zero_or_pos z with q | q
    · exfalso
      rw [q, show (2 : Nat) ^ (64 - 1 - 0) = 9223372036854775808 by decide] at b
      omega
    · exact q
  have hz52 : z ≤ 52 := by
    apply Classical.byContradiction
    intro q
    have p1 : (2 : Nat) ^ (64 - z) ≤ 2 ^ 11 := Nat.pow_le_pow_right (by decide) (by omega)
    rw [show (2 : Nat) ^ 11 = 2048 by decide] at p1
    omega
  refine ⟨53 - z, by omega, by omega, by omega, ?_, ?_⟩
  · rw [show 53 - z + 10 = 64 - 1 - z by omega]; exact b
  · rw [show 53 - z + 11 = 64 - z by omega]; exact c
theorem own_dv {V sh : Nat} (h1 : 2 ^ (sh + 10) ≤ V) (h2 : V < 2 ^ (sh + 11)) : 1024 ≤ V / 2 ^ sh ∧ V / 2 ^ sh < 2048 := by
  constructor
  · rw [Nat.le_div_iff_mul_le (Nat.two_pow_pos sh)]
    rw [Nat.pow_add, show (2 : Nat) ^ 10 = 1024 by decide, Nat.mul_comm] at h1
    exact h1
  · rw [Nat.div_lt_iff_lt_mul (Nat.two_pow_pos sh)]
    rw [Nat.pow_add, show (2 : Nat) ^ 11 = 2048 by decide, Nat.mul_comm] at h2
    exact h2
/-- V's bucket -/
def own_isb (V i : Nat) : Prop := (V < 2048 ∧ i = V) ∨ ∃ sh, 1 ≤ sh ∧ sh ≤ 52 ∧ 2 ^ (sh + 10) ≤ V ∧ V < 2 ^ (sh + 11) ∧ i = sh * 1024 + V / 2 ^ sh
theorem own_isb_lt {V i : Nat} (h : own_isb V i) : i < 55296 := by
  rcases h with ⟨h1, h2⟩ | ⟨sh, h1, h2, h3, h4, h5⟩
  · omega
  · have := own_dv h3 h4
    rw [h5]; omega
theorem own_big {V sh : Nat} (h1 : 1 ≤ sh) (h : 2 ^ (sh + 10) ≤ V) : 2048 ≤ V := by
  have p1 : (2 : Nat) ^ 11 ≤ 2 ^ (sh + 10) := Nat.pow_le_pow_right (by decide) (by omega)
  rw [show (2 : Nat) ^ 11 = 2048 by decide] at p1
  omega
theorem own_isb_uniq {V i j : Nat} (h : own_isb V i) (h' : own_isb V j) : i = j := by
  rcases h with ⟨h1, h2⟩ | ⟨sh, h1, h2, h3, h4, h5⟩
  · rcases h' with ⟨g1, g2⟩ | ⟨sg, g1, g2, g3, g4, g5⟩
    · omega
    · have := own_big g1 g3; omega
  · rcases h' with ⟨g1, g2⟩ | ⟨sg, g1, g2, g3, g4, g5⟩
    · have := own_big h1 h3; omega
    · have e : sh = sg := by
        rcases Nat.lt_trichotomy sh sg with q | q | q
        · have p1 : (2 : Nat) ^ (sh + 11) ≤ 2 ^ (sg + 10) := Nat.pow_le_pow_right (by decide) (by omega)
          omega
        · exact q
        · have p1 : (2 : Nat) ^ (sg + 11) ≤ 2 ^ (sh + 10) := Nat.pow_le_pow_right (by decide) (by omega)
          omega
      rw [h5, g5, e]
def own_mx (v : Int64) : Int64 := if v < (0 : Int64) then (0 : Int64) else v
theorem own_mxN (v : Int64) : ∃ V : Nat, V < 9223372036854775808 ∧ own_mx v = Int64.ofNat V := by
  by_cases h : v < (0 : Int64)
  · exact ⟨0, by decide, by rw [own_mx, if_pos h]; rfl⟩
  · have h1 := rng64 v
    have h2 := h
    rw [Int64.lt_iff_toInt_lt, show (0 : Int64).toInt = 0 by decide] at h2
    exact ⟨v.toInt.toNat, by omega, by rw [own_mx, if_neg h]; exact own_toN64 (by omega)⟩
theorem own_ushr {i k : Nat} {q : Int32} (hk : q.toBitVec.toNat % 32 = k) (h0 : 0 < k) (hi : i < 2147483648) : ((Int32.ofNat i).toUInt32 >>> (q &&& 31).toUInt32).toInt32 = Int32.ofNat (i / 2 ^ k) := by
  apply Int32.toInt_inj.mp
  have h1 := c_iushr (Int32.ofNat i) q k hk h0
  rw [own_ofN hi, show ((i : Int) % 4294967296) = (i : Int) by omega] at h1
  have h2 : i / 2 ^ k ≤ i := Nat.div_le_self _ _
  rw [h1, own_ofN (Nat.lt_of_le_of_lt h2 hi)]
  exact (Int.natCast_ediv i (2 ^ k)).symm
theorem own_lushr {V k : Nat} {q : Int32} (hk : q.toBitVec.toNat % 64 = k) (h0 : 0 < k) (hV : V < 9223372036854775808) : ((Int64.ofNat V).toUInt64 >>> (q &&& 0x3f).toInt64.toUInt64).toInt64 = Int64.ofNat (V / 2 ^ k) := by
  apply Int64.toInt_inj.mp
  have h1 := c_lushr (Int64.ofNat V) q k hk h0
  rw [own_toI64 hV, show ((V : Int) % 18446744073709551616) = (V : Int) by omega] at h1
  have h2 : V / 2 ^ k ≤ V := Nat.div_le_self _ _
  rw [h1, own_toI64 (Nat.lt_of_le_of_lt h2 hV)]
  exact (Int.natCast_ediv V (2 ^ k)).symm
theorem own_sh6 : ∀ sh, sh < 64 → (Int32.ofNat sh).toBitVec.toNat % 64 = sh := by decide +kernel
theorem own_iincN {n d : Nat} {c : Int32} (hc : c.toInt = -(d : Int)) (h : d ≤ n) (hn : n < 2147483648) : Int32.ofNat n + c = Int32.ofNat (n - d) := by
  apply Int32.toInt_inj.mp
  have h1 := c_iadd (Int32.ofNat n) c
  have h2 := rng32 (Int32.ofNat n + c)
  rw [own_ofN hn, hc] at h1
  rw [own_ofN (by omega)]
  omega
theorem own_sgn {k : Nat} (h1 : 1 ≤ k) (h2 : k < 4294967296) : ((Int32.ofNat k).toInt = k ∧ k < 2147483648) ∨ ((Int32.ofNat k).toInt = (k : Int) - 4294967296 ∧ 2147483648 ≤ k) := by
  by_cases q : k < 2147483648
  · exact Or.inl ⟨own_ofN q, q⟩
  · refine Or.inr ⟨?_, by omega⟩
    have h3 := bm32 (k : Int)
    have h4 := rng32 (Int32.ofNat k)
    have h5 : (Int32.ofNat k).toInt = (k : Int).bmod (2 ^ 32) := Int32.toInt_ofNat'
    rw [h5] at h4 ⊢
    omega
theorem own_s63 {z sh : Nat} (h : z + sh = 53) : (((63 : Int32) - Int32.ofNat z) - (10 : Int32)) = Int32.ofNat sh := by
  rw [show (63 : Int32) = Int32.ofNat 63 from rfl, own_subk (by omega), show (10 : Int32) = Int32.ofNat 10 from rfl, own_subk (by omega)]
  congr 1; omega
theorem own_bki {sh d : Nat} (hs : sh ≤ 52) (hd : d < 2048) : ((((Int32.ofNat sh + (1 : Int32)) * (1024 : Int32)) + Int32.ofNat d) - (1024 : Int32)) = Int32.ofNat (sh * 1024 + d) := by
  rw [show (1 : Int32) = Int32.ofNat 1 from rfl, own_addk, show (1024 : Int32) = Int32.ofNat 1024 from rfl, ← Int32.ofNat_mul, own_addk, own_subk (by omega)]
  exact congrArg Int32.ofNat (by omega)
theorem own_q (x : Int32) : ∃ q : Nat, 1 ≤ q ∧ q ≤ 100 ∧ (((x &&& (127 : Int32)) - ((x &&& (127 : Int32)) / (100 : Int32)) * (100 : Int32)) + (1 : Int32)) = Int32.ofNat q := by
  have h1 := c_mask x (127 : Int32) 7 (by decide) (by decide)
  have e7 : ((2 ^ 7 : Nat) : Int) = 128 := by decide
  rw [e7] at h1
  generalize (x &&& (127 : Int32)) = y at h1 ⊢
  have h2 : y = Int32.ofNat y.toInt.toNat := own_toN (by omega)
  have h3 : y.toInt.toNat < 128 := by omega
  generalize y.toInt.toNat = n at h2 h3
  subst h2
  refine ⟨n % 100 + 1, by omega, by omega, ?_⟩
  rw [show (100 : Int32) = Int32.ofNat 100 from rfl, own_remO (by omega) (by omega) (by omega), show (1 : Int32) = Int32.ofNat 1 from rfl, own_addk]
/-- what the rank's reckoning asks -/
def own_ok (b : UInt64) (t rk : Nat) : Prop := Jvm.Free.Fl.NoNaN64 (FP.dmul b (FP.l2d (Int64.ofNat t))) ∧ Jvm.Free.Fl.NoNaN64 (FP.ddiv (FP.dmul b (FP.l2d (Int64.ofNat t))) (4636737291354636288 : UInt64)) ∧ Jvm.Free.Hsc.expOf (FP.ddiv (FP.dmul b (FP.l2d (Int64.ofNat t))) (4636737291354636288 : UInt64)) < 52 ∧ 0 ≤ cmpValue (FP.dcmp (FP.ddiv (FP.dmul b (FP.l2d (Int64.ofNat t))) (4636737291354636288 : UInt64)) 0) .g ∧ FP.d2l (Jvm.Free.Hsc.ceilOf (FP.ddiv (FP.dmul b (FP.l2d (Int64.ofNat t))) (4636737291354636288 : UInt64))) = Int64.ofNat rk ∧ rk ≤ t
def own_okM (m : UInt64) : Bool := decide (m &&& 0x7fffffffffffffff ≤ 0x7ff0000000000000)
def own_okD (d : UInt64) (t : Nat) : Bool := own_okM d && (decide (Jvm.Free.Hsc.expOf d < 52) && (decide (0 ≤ cmpValue (FP.dcmp d 0) .g) && (decide (0 ≤ (FP.d2l (Jvm.Free.Hsc.ceilOf d)).toInt) && decide ((FP.d2l (Jvm.Free.Hsc.ceilOf d)).toInt ≤ (t : Int)))))
def own_okB (b : UInt64) (t : Nat) : Bool := own_okM (FP.dmul b (FP.l2d (Int64.ofNat t))) && own_okD (FP.ddiv (FP.dmul b (FP.l2d (Int64.ofNat t))) (4636737291354636288 : UInt64)) t
theorem own_okM_of {m : UInt64} (h : own_okM m = true) : Jvm.Free.Fl.NoNaN64 m := by
  have q : m &&& 0x7fffffffffffffff ≤ 0x7ff0000000000000 := of_decide_eq_true h
  exact q
theorem own_and {x y : Bool} (h : (x && y) = true) : x = true ∧ y = true := by
  cases x <;> cases y <;> simp_all
theorem own_ok_of {b : UInt64} {t : Nat} (h : own_okB b t = true) : ∃ rk, own_ok b t rk := by
  obtain ⟨h1, hd⟩ := own_and h
  obtain ⟨h2, hd⟩ := own_and hd
  obtain ⟨h3, hd⟩ := own_and hd
  obtain ⟨h4, hd⟩ := own_and hd
  obtain ⟨h5, h6⟩ := own_and hd
  have h3' := of_decide_eq_true h3
  have h4' := of_decide_eq_true h4
  have h5' := of_decide_eq_true h5
  have h6' := of_decide_eq_true h6
  exact ⟨_, own_okM_of h1, own_okM_of h2, h3', h4', own_toN64 h5', by omega⟩
theorem own_okq : ∀ q, q < 101 → ∀ t, t < 4 → own_okB (FP.i2d (Int32.ofNat q)) t = true := by decide +kernel
theorem own_ok100 : ∀ t, t < 4 → own_okB (4636737291354636288 : UInt64) t = true := by decide +kernel

set_option maxRecDepth 65536 in
theorem own_tabC {Z s : State} {a0 args : Array Value} (hw : ∀ d ∈ tables_1, d.before a0 Z = true) (hZ : Z.Warmed39 s.vm) : Jvm.Free.Hsc.MCeilA.tab.before args s = true := by
  have A : ∀ {c d : Jvm.Cond}, c.before args s = true → d.before args s = true → (Jvm.Cond.and c d).before args s = true := fun h1 h2 => by rw [Cond.before_and, h1, h2]; rfl
  exact (A (mvT hZ (hw _ (List.mem_of_getElem? (i := 42) rfl))) (A (mvT hZ (hw _ (List.mem_of_getElem? (i := 45) rfl))) (A (mvT hZ (hw _ (List.mem_of_getElem? (i := 46) rfl))) (A (mvT hZ (hw _ (List.mem_of_getElem? (i := 47) rfl))) (A (mvT hZ (hw _ (List.mem_of_getElem? (i := 48) rfl))) (A (mvT hZ (hw _ (List.mem_of_getElem? (i := 49) rfl))) (A (mvT hZ (hw _ (List.mem_of_getElem? (i := 45) rfl))) (A (A (mvT hZ (hw _ (List.mem_of_getElem? (i := 50) rfl))) (A (mvT hZ (hw _ (List.mem_of_getElem? (i := 51) rfl))) (A (mvT hZ (hw _ (List.mem_of_getElem? (i := 52) rfl))) (A (mvT hZ (hw _ (List.mem_of_getElem? (i := 20) rfl))) (A (A (mvT hZ (hw _ (List.mem_of_getElem? (i := 53) rfl))) (A (mvT hZ (hw _ (List.mem_of_getElem? (i := 54) rfl))) (A (mvT hZ (hw _ (List.mem_of_getElem? (i := 57) rfl))) (A (mvT hZ (hw _ (List.mem_of_getElem? (i := 55) rfl))) (A (mvT hZ (hw _ (List.mem_of_getElem? (i := 56) rfl))) (A (mvT hZ (hw _ (List.mem_of_getElem? (i := 58) rfl))) (mvT hZ (hw _ (List.mem_of_getElem? (i := 59) rfl))))))))) (A (mvT hZ (hw _ (List.mem_of_getElem? (i := 60) rfl))) (A (mvT hZ (hw _ (List.mem_of_getElem? (i := 61) rfl))) (A (mvT hZ (hw _ (List.mem_of_getElem? (i := 57) rfl))) (A (mvT hZ (hw _ (List.mem_of_getElem? (i := 55) rfl))) (A (mvT hZ (hw _ (List.mem_of_getElem? (i := 56) rfl))) (mvT hZ (hw _ (List.mem_of_getElem? (i := 62) rfl))))))))))))) (A (mvT hZ (hw _ (List.mem_of_getElem? (i := 76) rfl))) (A (mvT hZ (hw _ (List.mem_of_getElem? (i := 77) rfl))) (A (mvT hZ (hw _ (List.mem_of_getElem? (i := 79) rfl))) (mvT hZ (hw _ (List.mem_of_getElem? (i := 78) rfl))))))))))))))

def own_mid (v : Int32) : Int64 := if v.toInt64 < (2048 : Int64) then v.toInt64 else (((((v - (v / (1024 : Int32)) * (1024 : Int32)) + (1024 : Int32)).toInt64) <<< (((v / (1024 : Int32)) - (1 : Int32)) &&& 0x3f).toInt64) + (((1 : Int64) <<< (((v / (1024 : Int32)) - (1 : Int32)) &&& 0x3f).toInt64) / (2 : Int64)))
def own_pv (i : Nat) : Int64 := if i = 0 then (0 : Int64) else own_mid (Int32.ofNat (i - 1))

theorem own_ef_own_rm_max (m : MethodId) (x0 : Int64) (x1 : Int64) : entryFrame m #[(.long x0), (.long x1)] 4 = mkF m 0 #[.val (.long x0), .second, .val (.long x1), .second] [] := by first | (simp [entryFrame, mkF, argsToLocals, Value.category]; done) | rfl
set_option maxRecDepth 65536 in
set_option maxHeartbeats 40000000 in
theorem own_rm_max (l : Launch) (Z : State) (a0 : Array Value) (hw : ∀ d ∈ tables_1, d.before a0 Z = true) (ws : List Jvm.Cond) (v : Int64) (h0 : Heap) (n0 : Nat) (Z0 : n0 ≤ h0.size)  :
    MetFree l (⟨"java/lang/Math", "max", "(JJ)J"⟩ : MethodName) (head1 (Jvm.Cond.code (⟨"java/lang/Math", "max", "(JJ)J"⟩ : MethodName) jdk_29_method_66_code 4 (some .long) :: ws) ({ frames := 0, cells := 0, slots := 0, locals := 0 } : Room)) (fun aq Uq => aq = #[(.long v), (.long (0 : Int64))] ∧ Z.Warmed39 Uq.vm ∧ Uq.heap = h0) (fun _ _ _ _ _ => True) (fun _ Uq oq Uq' => ∃ vq Lq, oq = .returned vq ∧ (own_Qp (some (.long (own_mx v))) h0 n0) vq Uq'.heap Lq ∧ FrameEnd Uq oq Uq' Lq ({ frames := 0, cells := 0, slots := 0, locals := 0 } : Room).cells ({ frames := 0, cells := 0, slots := 0, locals := 0 } : Room).slots) := by
  refine MetFree.of_bodySF (show plainFor (⟨"java/lang/Math", "max", "(JJ)J"⟩ : MethodName) = true by decide +kernel) hisR ?_
  intro p e s m args below meth c s₁ Bd hml0 hP hK
  obtain ⟨rfl, hZ, hh⟩ := hP
  have hx := Bd.exec
  have hby := Bd.bytes
  have hml : c.maxLocals = 4 := hml0
  have hown : s.vm.findClass "java/lang/Math" = some m.cls := findClass_of_methodNamed Bd.named
  have hnm := (name_of_methodNamed Bd.named Bd.method).1
  have X0 : Stand p l e ({ frames := 0, cells := 0, slots := 0, locals := 0 } : Room) s m #[(.long v), (.long (0 : Int64))] below meth c s₁ [] 0 0 := Stand.of_body Bd
  have e0 : s₁.heap = h0 := by rw [← hh, Bd.state]; rfl
  have N0 := Fr.nil n0
  have hlk : meth.locks = false := by first | exact BodyLoose.notSynchronized Bd | exact Body.notSynchronized Bd
  obtain ⟨G, hG⟩ : ∃ G : State → Prop, G = own_G p e below s ({ frames := 0, cells := 0, slots := 0, locals := 0 } : Room).cells ({ frames := 0, cells := 0, slots := 0, locals := 0 } : Room).slots ((own_Qp (some (.long (own_mx v))) h0 n0)) := ⟨_, rfl⟩
  have go : ∀ {S S' : State}, (∀ t, Steps p.tables e below S' t → Steps p.tables e below S t) → G S' → G S := by rw [hG]; exact own_to
  suffices hs : G (s₁.setTop (mkF m 0 #[.val (.long v), .second, .val (.long (0 : Int64)), .second] [])) by
    rw [hG] at hs
    exact own_to (fun _ kont => castTop (own_ef_own_rm_max m v (0 : Int64)) kont) hs
  refine go (fun _ kont => XS.lloadN X0.here hx rfl (hb hby d_jdk_29_method_66_0) rfl  kont) ?_
  show G (s₁.setTop (mkF m 1 #[.val (.long v), .second, .val (.long (0 : Int64)), .second] [(.long v)]))
  refine go (fun _ kont => XS.lloadN X0.here hx rfl (hb hby d_jdk_29_method_66_1) rfl  kont) ?_
  show G (s₁.setTop (mkF m 2 #[.val (.long v), .second, .val (.long (0 : Int64)), .second] [(.long (0 : Int64)), (.long v)]))
  refine go (fun _ kont => XS.lcmp X0.here hx rfl (hb hby d_jdk_29_method_66_2) rfl kont) ?_
  show G (s₁.setTop (mkF m 3 #[.val (.long v), .second, .val (.long (0 : Int64)), .second] [(.int (lcmpW v (0 : Int64)))]))
  by_cases hc3 : v < (0 : Int64)
  · refine go (fun _ kont => XS.ifYes X0.here hx rfl (pc0 := 3) (pc' := 10) rfl (hb hby d_jdk_29_method_66_3) rfl ((if0 _ _).trans (tlt ((lw_lt _ _).mpr hc3)).1) (by decide) (by decide) kont) ?_
    show G (s₁.setTop (mkF m 10 #[.val (.long v), .second, .val (.long (0 : Int64)), .second] []))
    refine go (fun _ kont => XS.lloadN X0.here hx rfl (hb hby d_jdk_29_method_66_10) rfl  kont) ?_
    show G (s₁.setTop (mkF m 11 #[.val (.long v), .second, .val (.long (0 : Int64)), .second] [(.long (0 : Int64))]))
    rw [hG]
    exact own_retJ X0 hx Bd.returns (hb hby d_jdk_29_method_66_11) hlk (by decide) (by decide) ⟨by rw [own_mx, if_pos hc3], N0, e0⟩
  · refine go (fun _ kont => XS.ifNo X0.here hx rfl (hb hby d_jdk_29_method_66_3) rfl ((if0 _ _).trans (flt (mt (lw_lt _ _).mp hc3)).1) kont) ?_
    show G (s₁.setTop (mkF m 6 #[.val (.long v), .second, .val (.long (0 : Int64)), .second] []))
    refine go (fun _ kont => XS.lloadN X0.here hx rfl (hb hby d_jdk_29_method_66_6) rfl  kont) ?_
    show G (s₁.setTop (mkF m 7 #[.val (.long v), .second, .val (.long (0 : Int64)), .second] [(.long v)]))
    refine go (fun _ kont => XS.goto X0.here hx rfl (pc0 := 7) (pc' := 11) rfl (hb hby d_jdk_29_method_66_7) (by decide) (by decide) kont) ?_
    show G (s₁.setTop (mkF m 11 #[.val (.long v), .second, .val (.long (0 : Int64)), .second] [(.long v)]))
    rw [hG]
    exact own_retJ X0 hx Bd.returns (hb hby d_jdk_29_method_66_11) hlk (by decide) (by decide) ⟨by rw [own_mx, if_neg hc3], N0, e0⟩
theorem own_ef_own_rm_ni (m : MethodId) (x0 : Int32) : entryFrame m #[(.int x0)] 2 = mkF m 0 #[.val (.int x0), .unset] [] := by first | (simp [entryFrame, mkF, argsToLocals, Value.category]; done) | rfl
def own_Q_ni (Z : State) (h0 : Heap) (n0 : Nat) (v : Int32) (k : Nat) (r : Option Value) (h : Heap) (L : List Loc) : Prop := (∃ z : Nat, own_lz 32 k z ∧ r = some (.int (Int32.ofNat z))) ∧ Fr n0 L ∧ h = h0
set_option maxRecDepth 65536 in
set_option maxHeartbeats 40000000 in
theorem own_rm_ni (l : Launch) (Z : State) (a0 : Array Value) (hw : ∀ d ∈ tables_1, d.before a0 Z = true) (ws : List Jvm.Cond) (v : Int32) (h0 : Heap) (n0 : Nat) (Z0 : n0 ≤ h0.size) (k : Nat) (hk1 : 1 ≤ k) (hk2 : k < 4294967296) (hvk : v = Int32.ofNat k) :
    MetFree l (⟨"java/lang/Integer", "numberOfLeadingZeros", "(I)I"⟩ : MethodName) (head1 (Jvm.Cond.code (⟨"java/lang/Integer", "numberOfLeadingZeros", "(I)I"⟩ : MethodName) jdk_33_method_47_code 2 (some .int) :: ws) ({ frames := 0, cells := 0, slots := 0, locals := 0 } : Room)) (fun aq Uq => aq = #[(.int v)] ∧ Z.Warmed39 Uq.vm ∧ Uq.heap = h0) (fun _ _ _ _ _ => True) (fun _ Uq oq Uq' => ∃ vq Lq, oq = .returned vq ∧ (own_Q_ni Z h0 n0 v k) vq Uq'.heap Lq ∧ FrameEnd Uq oq Uq' Lq ({ frames := 0, cells := 0, slots := 0, locals := 0 } : Room).cells ({ frames := 0, cells := 0, slots := 0, locals := 0 } : Room).slots) := by
  refine MetFree.of_bodySF (plainFor_of_name own_pn1) hisR ?_
  intro p e s m args below meth c s₁ Bd hml0 hP hK
  obtain ⟨rfl, hZ, hh⟩ := hP
  have hx := Bd.exec
  have hby := Bd.bytes
  have hml : c.maxLocals = 2 := hml0
  have hown : s.vm.findClass "java/lang/Integer" = some m.cls := findClass_of_methodNamed Bd.named
  have hnm := (name_of_methodNamed Bd.named Bd.method).1
  have X0 : Stand p l e ({ frames := 0, cells := 0, slots := 0, locals := 0 } : Room) s m #[(.int v)] below meth c s₁ [] 0 0 := Stand.of_body Bd
  have e0 : s₁.heap = h0 := by rw [← hh, Bd.state]; rfl
  have N0 := Fr.nil n0
  have hlk : meth.locks = false := by first | exact BodyLoose.notSynchronized Bd | exact Body.notSynchronized Bd
  obtain ⟨G, hG⟩ : ∃ G : State → Prop, G = own_G p e below s ({ frames := 0, cells := 0, slots := 0, locals := 0 } : Room).cells ({ frames := 0, cells := 0, slots := 0, locals := 0 } : Room).slots ((own_Q_ni Z h0 n0 v k)) := ⟨_, rfl⟩
  have go : ∀ {S S' : State}, (∀ t, Steps p.tables e below S' t → Steps p.tables e below S t) → G S' → G S := by rw [hG]; exact own_to
  suffices hs : G (s₁.setTop (mkF m 0 #[.val (.int v), .unset] [])) by
    rw [hG] at hs
    exact own_to (fun _ kont => castTop (own_ef_own_rm_ni m v) kont) hs
  have hsg := own_sgn hk1 hk2
  rw [← hvk] at hsg
  have hv0 : ¬ v = (0 : Int32) := fun q => by
    have q' := congrArg Int32.toInt q
    rw [show (0 : Int32).toInt = 0 by decide] at q'
    omega
  have hvp : (0 : Int32) < v → k < 2147483648 := fun q => by
    rw [Int32.lt_iff_toInt_lt, show (0 : Int32).toInt = 0 by decide] at q
    omega
  have hvn : ¬ (0 : Int32) < v → 2147483648 ≤ k := fun q => by
    rw [Int32.lt_iff_toInt_lt, show (0 : Int32).toInt = 0 by decide] at q
    omega
  have at73 : ∀ (i n : Nat), own_nl k i n → 1 ≤ i → i < 4 → 1 ≤ n → G (s₁.setTop (mkF m 73 #[.val (.int (Int32.ofNat i)), .val (.int (Int32.ofNat n))] [])) := by
    intro i n H hi1 hiB hn
    have hn31 := H.1
    show G (s₁.setTop (mkF m 73 #[.val (.int (Int32.ofNat i)), .val (.int (Int32.ofNat n))] []))
    refine go (fun _ kont => XS.iloadN X0.here hx rfl (hb hby d_jdk_33_method_47_73) rfl  kont) ?_
    show G (s₁.setTop (mkF m 74 #[.val (.int (Int32.ofNat i)), .val (.int (Int32.ofNat n))] [(.int (Int32.ofNat n))]))
    refine go (fun _ kont => XS.iloadN X0.here hx rfl (hb hby d_jdk_33_method_47_74) rfl  kont) ?_
    show G (s₁.setTop (mkF m 75 #[.val (.int (Int32.ofNat i)), .val (.int (Int32.ofNat n))] [(.int (Int32.ofNat i)), (.int (Int32.ofNat n))]))
    refine go (fun _ kont => XS.iconst X0.here hx rfl (hb hby d_jdk_33_method_47_75) kont) ?_
    show G (s₁.setTop (mkF m 76 #[.val (.int (Int32.ofNat i)), .val (.int (Int32.ofNat n))] [(.int (1 : Int32)), (.int (Int32.ofNat i)), (.int (Int32.ofNat n))]))
    refine go (fun _ kont => XS.iushr X0.here hx rfl (hb hby d_jdk_33_method_47_76) rfl kont) ?_
    show G (s₁.setTop (mkF m 77 #[.val (.int (Int32.ofNat i)), .val (.int (Int32.ofNat n))] [(.int (((Int32.ofNat i).toUInt32 >>> ((1 : Int32) &&& 31).toUInt32).toInt32)), (.int (Int32.ofNat n))]))
    rw [show (((Int32.ofNat i).toUInt32 >>> ((1 : Int32) &&& 31).toUInt32).toInt32) = (Int32.ofNat (i / 2 ^ 1)) from own_ushr (by decide) (by decide) (by omega)]
    show G (s₁.setTop (mkF m 77 #[.val (.int (Int32.ofNat i)), .val (.int (Int32.ofNat n))] [(.int (Int32.ofNat (i / 2 ^ 1))), (.int (Int32.ofNat n))]))
    refine go (fun _ kont => XS.isub X0.here hx rfl (hb hby d_jdk_33_method_47_77) rfl kont) ?_
    show G (s₁.setTop (mkF m 78 #[.val (.int (Int32.ofNat i)), .val (.int (Int32.ofNat n))] [(.int ((Int32.ofNat n) - (Int32.ofNat (i / 2 ^ 1))))]))
    rw [show ((Int32.ofNat n) - (Int32.ofNat (i / 2 ^ 1))) = (Int32.ofNat (n - i / 2 ^ 1)) from own_subk (by omega)]
    show G (s₁.setTop (mkF m 78 #[.val (.int (Int32.ofNat i)), .val (.int (Int32.ofNat n))] [(.int (Int32.ofNat (n - i / 2 ^ 1)))]))
    rw [hG]
    exact own_retI X0 hx Bd.returns (hb hby d_jdk_33_method_47_78) hlk (by decide) (by decide) ⟨⟨n - i / 2 ^ 1, own_lz_end H hi1 hiB hn, rfl⟩, N0, e0⟩
  have at61 : ∀ (i n : Nat), own_nl k i n → 1 ≤ i → i < 16 → 3 ≤ n → G (s₁.setTop (mkF m 61 #[.val (.int (Int32.ofNat i)), .val (.int (Int32.ofNat n))] [])) := by
    intro i n H hi1 hiB hn
    have hn31 := H.1
    show G (s₁.setTop (mkF m 61 #[.val (.int (Int32.ofNat i)), .val (.int (Int32.ofNat n))] []))
    refine go (fun _ kont => XS.iloadN X0.here hx rfl (hb hby d_jdk_33_method_47_61) rfl  kont) ?_
    show G (s₁.setTop (mkF m 62 #[.val (.int (Int32.ofNat i)), .val (.int (Int32.ofNat n))] [(.int (Int32.ofNat i))]))
    refine go (fun _ kont => XS.iconst X0.here hx rfl (hb hby d_jdk_33_method_47_62) kont) ?_
    show G (s₁.setTop (mkF m 63 #[.val (.int (Int32.ofNat i)), .val (.int (Int32.ofNat n))] [(.int (4 : Int32)), (.int (Int32.ofNat i))]))
    by_cases hc63 : (Int32.ofNat i) < (4 : Int32)
    · refine go (fun _ kont => XS.icmpYes X0.here hx rfl (pc0 := 63) (pc' := 73) rfl (hb hby d_jdk_33_method_47_63) rfl (tlt hc63).1 (by decide) (by decide) kont) ?_
      show G (s₁.setTop (mkF m 73 #[.val (.int (Int32.ofNat i)), .val (.int (Int32.ofNat n))] []))
      rw [show (Int32.ofNat i) < (4 : Int32) ↔ i < 4 from own_ltO (d := i) (k := 4) (by omega) (by omega)] at hc63
      exact at73 i n H hi1 hc63 (by omega)
    · refine go (fun _ kont => XS.icmpNo X0.here hx rfl (hb hby d_jdk_33_method_47_63) rfl (flt hc63).1 kont) ?_
      show G (s₁.setTop (mkF m 66 #[.val (.int (Int32.ofNat i)), .val (.int (Int32.ofNat n))] []))
      rw [show (Int32.ofNat i) < (4 : Int32) ↔ i < 4 from own_ltO (d := i) (k := 4) (by omega) (by omega)] at hc63
      refine go (fun _ kont => XS.iinc X0.here hx rfl (hb hby d_jdk_33_method_47_66) rfl (l' := #[.val (.int (Int32.ofNat i)), .val (.int ((Int32.ofNat n) + (-2 : Int32)))]) rfl kont) ?_
      show G (s₁.setTop (mkF m 69 #[.val (.int (Int32.ofNat i)), .val (.int ((Int32.ofNat n) + (-2 : Int32)))] []))
      refine go (fun _ kont => XS.iloadN X0.here hx rfl (hb hby d_jdk_33_method_47_69) rfl  kont) ?_
      show G (s₁.setTop (mkF m 70 #[.val (.int (Int32.ofNat i)), .val (.int ((Int32.ofNat n) + (-2 : Int32)))] [(.int (Int32.ofNat i))]))
      refine go (fun _ kont => XS.iconst X0.here hx rfl (hb hby d_jdk_33_method_47_70) kont) ?_
      show G (s₁.setTop (mkF m 71 #[.val (.int (Int32.ofNat i)), .val (.int ((Int32.ofNat n) + (-2 : Int32)))] [(.int (2 : Int32)), (.int (Int32.ofNat i))]))
      refine go (fun _ kont => XS.iushr X0.here hx rfl (hb hby d_jdk_33_method_47_71) rfl kont) ?_
      show G (s₁.setTop (mkF m 72 #[.val (.int (Int32.ofNat i)), .val (.int ((Int32.ofNat n) + (-2 : Int32)))] [(.int (((Int32.ofNat i).toUInt32 >>> ((2 : Int32) &&& 31).toUInt32).toInt32))]))
      refine go (fun _ kont => XS.istoreN X0.here hx rfl (hb hby d_jdk_33_method_47_72) rfl (l' := #[.val (.int (((Int32.ofNat i).toUInt32 >>> ((2 : Int32) &&& 31).toUInt32).toInt32)), .val (.int ((Int32.ofNat n) + (-2 : Int32)))]) rfl kont) ?_
      show G (s₁.setTop (mkF m 73 #[.val (.int (((Int32.ofNat i).toUInt32 >>> ((2 : Int32) &&& 31).toUInt32).toInt32)), .val (.int ((Int32.ofNat n) + (-2 : Int32)))] []))
      rw [show ((Int32.ofNat n) + (-2 : Int32)) = (Int32.ofNat (n - 2)) from own_iincN (d := 2) (by decide) (by omega) (by omega)]
      show G (s₁.setTop (mkF m 73 #[.val (.int (((Int32.ofNat i).toUInt32 >>> ((2 : Int32) &&& 31).toUInt32).toInt32)), .val (.int (Int32.ofNat (n - 2)))] []))
      rw [show (((Int32.ofNat i).toUInt32 >>> ((2 : Int32) &&& 31).toUInt32).toInt32) = (Int32.ofNat (i / 2 ^ 2)) from own_ushr (by decide) (by decide) (by omega)]
      show G (s₁.setTop (mkF m 73 #[.val (.int (Int32.ofNat (i / 2 ^ 2))), .val (.int (Int32.ofNat (n - 2)))] []))
      exact at73 (i / 2 ^ 2) (n - 2) (own_nl_step 2 H (by omega)) (by omega) (by omega) (by omega)
  have at48 : ∀ (i n : Nat), own_nl k i n → 1 ≤ i → i < 256 → 7 ≤ n → G (s₁.setTop (mkF m 48 #[.val (.int (Int32.ofNat i)), .val (.int (Int32.ofNat n))] [])) := by
    intro i n H hi1 hiB hn
    have hn31 := H.1
    show G (s₁.setTop (mkF m 48 #[.val (.int (Int32.ofNat i)), .val (.int (Int32.ofNat n))] []))
    refine go (fun _ kont => XS.iloadN X0.here hx rfl (hb hby d_jdk_33_method_47_48) rfl  kont) ?_
    show G (s₁.setTop (mkF m 49 #[.val (.int (Int32.ofNat i)), .val (.int (Int32.ofNat n))] [(.int (Int32.ofNat i))]))
    refine go (fun _ kont => XS.bipush X0.here hx rfl (hb hby d_jdk_33_method_47_49) kont) ?_
    show G (s₁.setTop (mkF m 51 #[.val (.int (Int32.ofNat i)), .val (.int (Int32.ofNat n))] [(.int (16 : Int32)), (.int (Int32.ofNat i))]))
    by_cases hc51 : (Int32.ofNat i) < (16 : Int32)
    · refine go (fun _ kont => XS.icmpYes X0.here hx rfl (pc0 := 51) (pc' := 61) rfl (hb hby d_jdk_33_method_47_51) rfl (tlt hc51).1 (by decide) (by decide) kont) ?_
      show G (s₁.setTop (mkF m 61 #[.val (.int (Int32.ofNat i)), .val (.int (Int32.ofNat n))] []))
      rw [show (Int32.ofNat i) < (16 : Int32) ↔ i < 16 from own_ltO (d := i) (k := 16) (by omega) (by omega)] at hc51
      exact at61 i n H hi1 hc51 (by omega)
    · refine go (fun _ kont => XS.icmpNo X0.here hx rfl (hb hby d_jdk_33_method_47_51) rfl (flt hc51).1 kont) ?_
      show G (s₁.setTop (mkF m 54 #[.val (.int (Int32.ofNat i)), .val (.int (Int32.ofNat n))] []))
      rw [show (Int32.ofNat i) < (16 : Int32) ↔ i < 16 from own_ltO (d := i) (k := 16) (by omega) (by omega)] at hc51
      refine go (fun _ kont => XS.iinc X0.here hx rfl (hb hby d_jdk_33_method_47_54) rfl (l' := #[.val (.int (Int32.ofNat i)), .val (.int ((Int32.ofNat n) + (-4 : Int32)))]) rfl kont) ?_
      show G (s₁.setTop (mkF m 57 #[.val (.int (Int32.ofNat i)), .val (.int ((Int32.ofNat n) + (-4 : Int32)))] []))
      refine go (fun _ kont => XS.iloadN X0.here hx rfl (hb hby d_jdk_33_method_47_57) rfl  kont) ?_
      show G (s₁.setTop (mkF m 58 #[.val (.int (Int32.ofNat i)), .val (.int ((Int32.ofNat n) + (-4 : Int32)))] [(.int (Int32.ofNat i))]))
      refine go (fun _ kont => XS.iconst X0.here hx rfl (hb hby d_jdk_33_method_47_58) kont) ?_
      show G (s₁.setTop (mkF m 59 #[.val (.int (Int32.ofNat i)), .val (.int ((Int32.ofNat n) + (-4 : Int32)))] [(.int (4 : Int32)), (.int (Int32.ofNat i))]))
      refine go (fun _ kont => XS.iushr X0.here hx rfl (hb hby d_jdk_33_method_47_59) rfl kont) ?_
      show G (s₁.setTop (mkF m 60 #[.val (.int (Int32.ofNat i)), .val (.int ((Int32.ofNat n) + (-4 : Int32)))] [(.int (((Int32.ofNat i).toUInt32 >>> ((4 : Int32) &&& 31).toUInt32).toInt32))]))
      refine go (fun _ kont => XS.istoreN X0.here hx rfl (hb hby d_jdk_33_method_47_60) rfl (l' := #[.val (.int (((Int32.ofNat i).toUInt32 >>> ((4 : Int32) &&& 31).toUInt32).toInt32)), .val (.int ((Int32.ofNat n) + (-4 : Int32)))]) rfl kont) ?_
      show G (s₁.setTop (mkF m 61 #[.val (.int (((Int32.ofNat i).toUInt32 >>> ((4 : Int32) &&& 31).toUInt32).toInt32)), .val (.int ((Int32.ofNat n) + (-4 : Int32)))] []))
      rw [show ((Int32.ofNat n) + (-4 : Int32)) = (Int32.ofNat (n - 4)) from own_iincN (d := 4) (by decide) (by omega) (by omega)]
      show G (s₁.setTop (mkF m 61 #[.val (.int (((Int32.ofNat i).toUInt32 >>> ((4 : Int32) &&& 31).toUInt32).toInt32)), .val (.int (Int32.ofNat (n - 4)))] []))
      rw [show (((Int32.ofNat i).toUInt32 >>> ((4 : Int32) &&& 31).toUInt32).toInt32) = (Int32.ofNat (i / 2 ^ 4)) from own_ushr (by decide) (by decide) (by omega)]
      show G (s₁.setTop (mkF m 61 #[.val (.int (Int32.ofNat (i / 2 ^ 4))), .val (.int (Int32.ofNat (n - 4)))] []))
      exact at61 (i / 2 ^ 4) (n - 4) (own_nl_step 4 H (by omega)) (by omega) (by omega) (by omega)
  have at33 : ∀ (i n : Nat), own_nl k i n → 1 ≤ i → i < 65536 → 15 ≤ n → G (s₁.setTop (mkF m 33 #[.val (.int (Int32.ofNat i)), .val (.int (Int32.ofNat n))] [])) := by
    intro i n H hi1 hiB hn
    have hn31 := H.1
    show G (s₁.setTop (mkF m 33 #[.val (.int (Int32.ofNat i)), .val (.int (Int32.ofNat n))] []))
    refine go (fun _ kont => XS.iloadN X0.here hx rfl (hb hby d_jdk_33_method_47_33) rfl  kont) ?_
    show G (s₁.setTop (mkF m 34 #[.val (.int (Int32.ofNat i)), .val (.int (Int32.ofNat n))] [(.int (Int32.ofNat i))]))
    refine go (fun _ kont => XS.sipush X0.here hx rfl (hb hby d_jdk_33_method_47_34) kont) ?_
    show G (s₁.setTop (mkF m 37 #[.val (.int (Int32.ofNat i)), .val (.int (Int32.ofNat n))] [(.int (256 : Int32)), (.int (Int32.ofNat i))]))
    by_cases hc37 : (Int32.ofNat i) < (256 : Int32)
    · refine go (fun _ kont => XS.icmpYes X0.here hx rfl (pc0 := 37) (pc' := 48) rfl (hb hby d_jdk_33_method_47_37) rfl (tlt hc37).1 (by decide) (by decide) kont) ?_
      show G (s₁.setTop (mkF m 48 #[.val (.int (Int32.ofNat i)), .val (.int (Int32.ofNat n))] []))
      rw [show (Int32.ofNat i) < (256 : Int32) ↔ i < 256 from own_ltO (d := i) (k := 256) (by omega) (by omega)] at hc37
      exact at48 i n H hi1 hc37 (by omega)
    · refine go (fun _ kont => XS.icmpNo X0.here hx rfl (hb hby d_jdk_33_method_47_37) rfl (flt hc37).1 kont) ?_
      show G (s₁.setTop (mkF m 40 #[.val (.int (Int32.ofNat i)), .val (.int (Int32.ofNat n))] []))
      rw [show (Int32.ofNat i) < (256 : Int32) ↔ i < 256 from own_ltO (d := i) (k := 256) (by omega) (by omega)] at hc37
      refine go (fun _ kont => XS.iinc X0.here hx rfl (hb hby d_jdk_33_method_47_40) rfl (l' := #[.val (.int (Int32.ofNat i)), .val (.int ((Int32.ofNat n) + (-8 : Int32)))]) rfl kont) ?_
      show G (s₁.setTop (mkF m 43 #[.val (.int (Int32.ofNat i)), .val (.int ((Int32.ofNat n) + (-8 : Int32)))] []))
      refine go (fun _ kont => XS.iloadN X0.here hx rfl (hb hby d_jdk_33_method_47_43) rfl  kont) ?_
      show G (s₁.setTop (mkF m 44 #[.val (.int (Int32.ofNat i)), .val (.int ((Int32.ofNat n) + (-8 : Int32)))] [(.int (Int32.ofNat i))]))
      refine go (fun _ kont => XS.bipush X0.here hx rfl (hb hby d_jdk_33_method_47_44) kont) ?_
      show G (s₁.setTop (mkF m 46 #[.val (.int (Int32.ofNat i)), .val (.int ((Int32.ofNat n) + (-8 : Int32)))] [(.int (8 : Int32)), (.int (Int32.ofNat i))]))
      refine go (fun _ kont => XS.iushr X0.here hx rfl (hb hby d_jdk_33_method_47_46) rfl kont) ?_
      show G (s₁.setTop (mkF m 47 #[.val (.int (Int32.ofNat i)), .val (.int ((Int32.ofNat n) + (-8 : Int32)))] [(.int (((Int32.ofNat i).toUInt32 >>> ((8 : Int32) &&& 31).toUInt32).toInt32))]))
      refine go (fun _ kont => XS.istoreN X0.here hx rfl (hb hby d_jdk_33_method_47_47) rfl (l' := #[.val (.int (((Int32.ofNat i).toUInt32 >>> ((8 : Int32) &&& 31).toUInt32).toInt32)), .val (.int ((Int32.ofNat n) + (-8 : Int32)))]) rfl kont) ?_
      show G (s₁.setTop (mkF m 48 #[.val (.int (((Int32.ofNat i).toUInt32 >>> ((8 : Int32) &&& 31).toUInt32).toInt32)), .val (.int ((Int32.ofNat n) + (-8 : Int32)))] []))
      rw [show ((Int32.ofNat n) + (-8 : Int32)) = (Int32.ofNat (n - 8)) from own_iincN (d := 8) (by decide) (by omega) (by omega)]
      show G (s₁.setTop (mkF m 48 #[.val (.int (((Int32.ofNat i).toUInt32 >>> ((8 : Int32) &&& 31).toUInt32).toInt32)), .val (.int (Int32.ofNat (n - 8)))] []))
      rw [show (((Int32.ofNat i).toUInt32 >>> ((8 : Int32) &&& 31).toUInt32).toInt32) = (Int32.ofNat (i / 2 ^ 8)) from own_ushr (by decide) (by decide) (by omega)]
      show G (s₁.setTop (mkF m 48 #[.val (.int (Int32.ofNat (i / 2 ^ 8))), .val (.int (Int32.ofNat (n - 8)))] []))
      exact at48 (i / 2 ^ 8) (n - 8) (own_nl_step 8 H (by omega)) (by omega) (by omega) (by omega)
  have at18 : ∀ (i n : Nat), own_nl k i n → 1 ≤ i → i < 2147483648 → 31 ≤ n → G (s₁.setTop (mkF m 18 #[.val (.int (Int32.ofNat i)), .val (.int (Int32.ofNat n))] [])) := by
    intro i n H hi1 hiB hn
    have hn31 := H.1
    show G (s₁.setTop (mkF m 18 #[.val (.int (Int32.ofNat i)), .val (.int (Int32.ofNat n))] []))
    refine go (fun _ kont => XS.iloadN X0.here hx rfl (hb hby d_jdk_33_method_47_18) rfl  kont) ?_
    show G (s₁.setTop (mkF m 19 #[.val (.int (Int32.ofNat i)), .val (.int (Int32.ofNat n))] [(.int (Int32.ofNat i))]))
    refine go (fun _ kont => X0.ldcWInt hx hown (mvT hZ (hw _ (List.mem_of_getElem? (i := 74) rfl))) (g := (mkF m 19 #[.val (.int (Int32.ofNat i)), .val (.int (Int32.ofNat n))] [(.int (Int32.ofNat i))])) rfl (hb hby d_jdk_33_method_47_19) _ kont) ?_
    show G (s₁.setTop (mkF m 22 #[.val (.int (Int32.ofNat i)), .val (.int (Int32.ofNat n))] [(.int (65536 : Int32)), (.int (Int32.ofNat i))]))
    by_cases hc22 : (Int32.ofNat i) < (65536 : Int32)
    · refine go (fun _ kont => XS.icmpYes X0.here hx rfl (pc0 := 22) (pc' := 33) rfl (hb hby d_jdk_33_method_47_22) rfl (tlt hc22).1 (by decide) (by decide) kont) ?_
      show G (s₁.setTop (mkF m 33 #[.val (.int (Int32.ofNat i)), .val (.int (Int32.ofNat n))] []))
      rw [show (Int32.ofNat i) < (65536 : Int32) ↔ i < 65536 from own_ltO (d := i) (k := 65536) (by omega) (by omega)] at hc22
      exact at33 i n H hi1 hc22 (by omega)
    · refine go (fun _ kont => XS.icmpNo X0.here hx rfl (hb hby d_jdk_33_method_47_22) rfl (flt hc22).1 kont) ?_
      show G (s₁.setTop (mkF m 25 #[.val (.int (Int32.ofNat i)), .val (.int (Int32.ofNat n))] []))
      rw [show (Int32.ofNat i) < (65536 : Int32) ↔ i < 65536 from own_ltO (d := i) (k := 65536) (by omega) (by omega)] at hc22
      refine go (fun _ kont => XS.iinc X0.here hx rfl (hb hby d_jdk_33_method_47_25) rfl (l' := #[.val (.int (Int32.ofNat i)), .val (.int ((Int32.ofNat n) + (-16 : Int32)))]) rfl kont) ?_
      show G (s₁.setTop (mkF m 28 #[.val (.int (Int32.ofNat i)), .val (.int ((Int32.ofNat n) + (-16 : Int32)))] []))
      refine go (fun _ kont => XS.iloadN X0.here hx rfl (hb hby d_jdk_33_method_47_28) rfl  kont) ?_
      show G (s₁.setTop (mkF m 29 #[.val (.int (Int32.ofNat i)), .val (.int ((Int32.ofNat n) + (-16 : Int32)))] [(.int (Int32.ofNat i))]))
      refine go (fun _ kont => XS.bipush X0.here hx rfl (hb hby d_jdk_33_method_47_29) kont) ?_
      show G (s₁.setTop (mkF m 31 #[.val (.int (Int32.ofNat i)), .val (.int ((Int32.ofNat n) + (-16 : Int32)))] [(.int (16 : Int32)), (.int (Int32.ofNat i))]))
      refine go (fun _ kont => XS.iushr X0.here hx rfl (hb hby d_jdk_33_method_47_31) rfl kont) ?_
      show G (s₁.setTop (mkF m 32 #[.val (.int (Int32.ofNat i)), .val (.int ((Int32.ofNat n) + (-16 : Int32)))] [(.int (((Int32.ofNat i).toUInt32 >>> ((16 : Int32) &&& 31).toUInt32).toInt32))]))
      refine go (fun _ kont => XS.istoreN X0.here hx rfl (hb hby d_jdk_33_method_47_32) rfl (l' := #[.val (.int (((Int32.ofNat i).toUInt32 >>> ((16 : Int32) &&& 31).toUInt32).toInt32)), .val (.int ((Int32.ofNat n) + (-16 : Int32)))]) rfl kont) ?_
      show G (s₁.setTop (mkF m 33 #[.val (.int (((Int32.ofNat i).toUInt32 >>> ((16 : Int32) &&& 31).toUInt32).toInt32)), .val (.int ((Int32.ofNat n) + (-16 : Int32)))] []))
      rw [show ((Int32.ofNat n) + (-16 : Int32)) = (Int32.ofNat (n - 16)) from own_iincN (d := 16) (by decide) (by omega) (by omega)]
      show G (s₁.setTop (mkF m 33 #[.val (.int (((Int32.ofNat i).toUInt32 >>> ((16 : Int32) &&& 31).toUInt32).toInt32)), .val (.int (Int32.ofNat (n - 16)))] []))
      rw [show (((Int32.ofNat i).toUInt32 >>> ((16 : Int32) &&& 31).toUInt32).toInt32) = (Int32.ofNat (i / 2 ^ 16)) from own_ushr (by decide) (by decide) (by omega)]
      show G (s₁.setTop (mkF m 33 #[.val (.int (Int32.ofNat (i / 2 ^ 16))), .val (.int (Int32.ofNat (n - 16)))] []))
      exact at33 (i / 2 ^ 16) (n - 16) (own_nl_step 16 H (by omega)) (by omega) (by omega) (by omega)
  refine go (fun _ kont => XS.iloadN X0.here hx rfl (hb hby d_jdk_33_method_47_0) rfl  kont) ?_
  show G (s₁.setTop (mkF m 1 #[.val (.int v), .unset] [(.int v)]))
  by_cases hc1 : (0 : Int32) < v
  · refine go (fun _ kont => XS.ifYes X0.here hx rfl (pc0 := 1) (pc' := 15) rfl (hb hby d_jdk_33_method_47_1) rfl ((if0 _ _).trans (tlt hc1).2.2.1) (by decide) (by decide) kont) ?_
    show G (s₁.setTop (mkF m 15 #[.val (.int v), .unset] []))
    refine go (fun _ kont => XS.bipush X0.here hx rfl (hb hby d_jdk_33_method_47_15) kont) ?_
    show G (s₁.setTop (mkF m 17 #[.val (.int v), .unset] [(.int (31 : Int32))]))
    refine go (fun _ kont => XS.istoreN X0.here hx rfl (hb hby d_jdk_33_method_47_17) rfl (l' := #[.val (.int v), .val (.int (31 : Int32))]) rfl kont) ?_
    show G (s₁.setTop (mkF m 18 #[.val (.int v), .val (.int (31 : Int32))] []))
    rw [hvk]
    exact at18 k 31 (own_nl_0 k) hk1 (hvp hc1) (Nat.le_refl _)
  · refine go (fun _ kont => XS.ifNo X0.here hx rfl (hb hby d_jdk_33_method_47_1) rfl ((if0 _ _).trans (flt hc1).2.2.1) kont) ?_
    show G (s₁.setTop (mkF m 4 #[.val (.int v), .unset] []))
    refine go (fun _ kont => XS.iloadN X0.here hx rfl (hb hby d_jdk_33_method_47_4) rfl  kont) ?_
    show G (s₁.setTop (mkF m 5 #[.val (.int v), .unset] [(.int v)]))
    refine go (fun _ kont => XS.ifYes X0.here hx rfl (pc0 := 5) (pc' := 13) rfl (hb hby d_jdk_33_method_47_5) rfl ((if0 _ _).trans (feq hv0).2) (by decide) (by decide) kont) ?_
    show G (s₁.setTop (mkF m 13 #[.val (.int v), .unset] []))
    refine go (fun _ kont => XS.iconst X0.here hx rfl (hb hby d_jdk_33_method_47_13) kont) ?_
    show G (s₁.setTop (mkF m 14 #[.val (.int v), .unset] [(.int (0 : Int32))]))
    rw [hG]
    exact own_retI X0 hx Bd.returns (hb hby d_jdk_33_method_47_14) hlk (by decide) (by decide) ⟨⟨0, ⟨by decide, hvn hc1, hk2⟩, rfl⟩, N0, e0⟩
theorem own_ef_own_rm_nj (m : MethodId) (x0 : Int64) : entryFrame m #[(.long x0)] 3 = mkF m 0 #[.val (.long x0), .second, .unset] [] := by first | (simp [entryFrame, mkF, argsToLocals, Value.category]; done) | rfl
def own_Q_nj (Z : State) (h0 : Heap) (n0 : Nat)  (V : Nat) (r : Option Value) (h : Heap) (L : List Loc) : Prop := (∃ z : Nat, own_lz 64 V z ∧ r = some (.int (Int32.ofNat z))) ∧ Fr n0 L ∧ h = h0
set_option maxRecDepth 65536 in
set_option maxHeartbeats 40000000 in
theorem own_rm_nj (l : Launch) (Z : State) (a0 : Array Value) (hw : ∀ d ∈ tables_1, d.before a0 Z = true) (ws : List Jvm.Cond)  (h0 : Heap) (n0 : Nat) (Z0 : n0 ≤ h0.size) (V : Nat) (hV1 : 1 ≤ V) (hV2 : V < 9223372036854775808) :
    MetFree l (⟨"java/lang/Long", "numberOfLeadingZeros", "(J)I"⟩ : MethodName) (head1 (Jvm.Cond.code (⟨"java/lang/Long", "numberOfLeadingZeros", "(J)I"⟩ : MethodName) jdk_35_method_48_code 3 (some .int) :: ws) ({ frames := 1, cells := 0, slots := 0, locals := 14 } : Room)) (fun aq Uq => aq = #[(.long (Int64.ofNat V))] ∧ Z.Warmed39 Uq.vm ∧ Uq.heap = h0) (fun _ _ _ _ _ => True) (fun _ Uq oq Uq' => ∃ vq Lq, oq = .returned vq ∧ (own_Q_nj Z h0 n0 V) vq Uq'.heap Lq ∧ FrameEnd Uq oq Uq' Lq ({ frames := 1, cells := 0, slots := 0, locals := 14 } : Room).cells ({ frames := 1, cells := 0, slots := 0, locals := 14 } : Room).slots) := by
  refine MetFree.of_bodySF (plainFor_of_name own_pn2) hisR ?_
  intro p e s m args below meth c s₁ Bd hml0 hP hK
  obtain ⟨rfl, hZ, hh⟩ := hP
  have hx := Bd.exec
  have hby := Bd.bytes
  have hml : c.maxLocals = 3 := hml0
  have hown : s.vm.findClass "java/lang/Long" = some m.cls := findClass_of_methodNamed Bd.named
  have hnm := (name_of_methodNamed Bd.named Bd.method).1
  have X0 : Stand p l e ({ frames := 1, cells := 0, slots := 0, locals := 14 } : Room) s m #[(.long (Int64.ofNat V))] below meth c s₁ [] 0 0 := Stand.of_body Bd
  have e0 : s₁.heap = h0 := by rw [← hh, Bd.state]; rfl
  have N0 := Fr.nil n0
  have hlk : meth.locks = false := by first | exact BodyLoose.notSynchronized Bd | exact Body.notSynchronized Bd
  obtain ⟨G, hG⟩ : ∃ G : State → Prop, G = own_G p e below s ({ frames := 1, cells := 0, slots := 0, locals := 14 } : Room).cells ({ frames := 1, cells := 0, slots := 0, locals := 14 } : Room).slots ((own_Q_nj Z h0 n0 V)) := ⟨_, rfl⟩
  have go : ∀ {S S' : State}, (∀ t, Steps p.tables e below S' t → Steps p.tables e below S t) → G S' → G S := by rw [hG]; exact own_to
  suffices hs : G (s₁.setTop (mkF m 0 #[.val (.long (Int64.ofNat V)), .second, .unset] [])) by
    rw [hG] at hs
    exact own_to (fun _ kont => castTop (own_ef_own_rm_nj m (Int64.ofNat V)) kont) hs
  refine go (fun _ kont => XS.lloadN X0.here hx rfl (hb hby d_jdk_35_method_48_0) rfl  kont) ?_
  show G (s₁.setTop (mkF m 1 #[.val (.long (Int64.ofNat V)), .second, .unset] [(.long (Int64.ofNat V))]))
  refine go (fun _ kont => XS.bipush X0.here hx rfl (hb hby d_jdk_35_method_48_1) kont) ?_
  show G (s₁.setTop (mkF m 3 #[.val (.long (Int64.ofNat V)), .second, .unset] [(.int (32 : Int32)), (.long (Int64.ofNat V))]))
  refine go (fun _ kont => XS.lushr X0.here hx rfl (hb hby d_jdk_35_method_48_3) rfl kont) ?_
  show G (s₁.setTop (mkF m 4 #[.val (.long (Int64.ofNat V)), .second, .unset] [(.long (((Int64.ofNat V).toUInt64 >>> ((32 : Int32) &&& 0x3f).toInt64.toUInt64).toInt64))]))
  rw [show (((Int64.ofNat V).toUInt64 >>> ((32 : Int32) &&& 0x3f).toInt64.toUInt64).toInt64) = (Int64.ofNat (V / 2 ^ 32)) from own_lushr (by decide) (by decide) hV2]
  show G (s₁.setTop (mkF m 4 #[.val (.long (Int64.ofNat V)), .second, .unset] [(.long (Int64.ofNat (V / 2 ^ 32)))]))
  refine go (fun _ kont => XS.l2i X0.here hx rfl (hb hby d_jdk_35_method_48_4) rfl kont) ?_
  show G (s₁.setTop (mkF m 5 #[.val (.long (Int64.ofNat V)), .second, .unset] [(.int (Int64.ofNat (V / 2 ^ 32)).toInt32)]))
  rw [show (Int64.ofNat (V / 2 ^ 32)).toInt32 = (Int32.ofNat (V / 2 ^ 32)) from Int64.toInt32_ofNat']
  show G (s₁.setTop (mkF m 5 #[.val (.long (Int64.ofNat V)), .second, .unset] [(.int (Int32.ofNat (V / 2 ^ 32)))]))
  refine go (fun _ kont => XS.istoreN X0.here hx rfl (hb hby d_jdk_35_method_48_5) rfl (l' := #[.val (.long (Int64.ofNat V)), .second, .val (.int (Int32.ofNat (V / 2 ^ 32)))]) rfl kont) ?_
  show G (s₁.setTop (mkF m 6 #[.val (.long (Int64.ofNat V)), .second, .val (.int (Int32.ofNat (V / 2 ^ 32)))] []))
  refine go (fun _ kont => XS.iloadN X0.here hx rfl (hb hby d_jdk_35_method_48_6) rfl  kont) ?_
  show G (s₁.setTop (mkF m 7 #[.val (.long (Int64.ofNat V)), .second, .val (.int (Int32.ofNat (V / 2 ^ 32)))] [(.int (Int32.ofNat (V / 2 ^ 32)))]))
  by_cases hc7 : (Int32.ofNat (V / 2 ^ 32)) = (0 : Int32)
  · refine go (fun _ kont => XS.ifNo X0.here hx rfl (hb hby d_jdk_35_method_48_7) rfl ((if0 _ _).trans (teq hc7).2) kont) ?_
    show G (s₁.setTop (mkF m 10 #[.val (.long (Int64.ofNat V)), .second, .val (.int (Int32.ofNat (V / 2 ^ 32)))] []))
    rw [show (Int32.ofNat (V / 2 ^ 32)) = (0 : Int32) ↔ V / 2 ^ 32 = 0 from own_eqO (d := V / 2 ^ 32) (k := 0) (by omega) (by omega)] at hc7
    refine go (fun _ kont => XS.bipush X0.here hx rfl (hb hby d_jdk_35_method_48_10) kont) ?_
    show G (s₁.setTop (mkF m 12 #[.val (.long (Int64.ofNat V)), .second, .val (.int (Int32.ofNat (V / 2 ^ 32)))] [(.int (32 : Int32))]))
    refine go (fun _ kont => XS.lloadN X0.here hx rfl (hb hby d_jdk_35_method_48_12) rfl  kont) ?_
    show G (s₁.setTop (mkF m 13 #[.val (.long (Int64.ofNat V)), .second, .val (.int (Int32.ofNat (V / 2 ^ 32)))] [(.long (Int64.ofNat V)), (.int (32 : Int32))]))
    refine go (fun _ kont => XS.l2i X0.here hx rfl (hb hby d_jdk_35_method_48_13) rfl kont) ?_
    show G (s₁.setTop (mkF m 14 #[.val (.long (Int64.ofNat V)), .second, .val (.int (Int32.ofNat (V / 2 ^ 32)))] [(.int (Int64.ofNat V).toInt32), (.int (32 : Int32))]))
    rw [show (Int64.ofNat V).toInt32 = (Int32.ofNat V) from Int64.toInt32_ofNat']
    show G (s₁.setTop (mkF m 14 #[.val (.long (Int64.ofNat V)), .second, .val (.int (Int32.ofNat (V / 2 ^ 32)))] [(.int (Int32.ofNat V)), (.int (32 : Int32))]))
    obtain ⟨_, _, ⟨T1, L1, k1, n1⟩, -, X1, ⟨Lc1, hQ1, l1, y1, z1⟩, st1⟩ := Jvm.LawKit.callS X0 hx (y := (⟨"java/lang/Integer", "numberOfLeadingZeros", "(I)I"⟩ : MethodName)) hown (mvT hZ (hw _ (List.mem_of_getElem? (i := 70) rfl))) (mvT hZ (hw _ (List.mem_of_getElem? (i := 71) rfl))) (mvT hZ (hw _ (List.mem_of_getElem? (i := 72) rfl))) (mvT hZ (hw _ (List.mem_of_getElem? (i := 73) rfl))) (by decide) (backOf (W := 1) (own_rm_ni l Z a0 hw [] (Int32.ofNat V) h0 n0 Z0 V hV1 (by omega) rfl) hZ (hw _ (List.mem_of_getElem? (i := 73) rfl)) (hw _ (List.mem_of_getElem? (i := 72) rfl)) (by decide) (by decide)) (g := (mkF m 14 #[.val (.long (Int64.ofNat V)), .second, .val (.int (Int32.ofNat (V / 2 ^ 32)))] [(.int (Int32.ofNat V)), (.int (32 : Int32))])) rfl (by rw [hml]; rfl) (argsL := [(.int (Int32.ofNat V))]) (rest := [(.int (32 : Int32))]) (lenOf own_pd0 rfl) rfl (by show 2 * 0 + _ ≤ _; exact Nat.le_of_eq rfl) (hb hby d_jdk_35_method_48_14) (fun _ _ => ⟨rfl, e0, (by decide : 0 + 0 ≤ _), (by decide : 0 + 0 ≤ _)⟩)
    dsimp only [Pt.U, Pt.locs, Pt.cells, Pt.slots] at X1 l1 y1 z1 st1 hQ1
    obtain ⟨⟨z, hz, rfl⟩, N1q, e1⟩ := hQ1
    have N1 : Fr n0 L1 := by rw [l1]; exact Fr.app N0 N1q
    rw [show k1 = 0 from y1, show n1 = 0 from z1] at X1
    refine go st1 ?_
    show G (T1.setTop (mkF m 17 #[.val (.long (Int64.ofNat V)), .second, .val (.int (Int32.ofNat (V / 2 ^ 32)))] [(.int (Int32.ofNat z)), (.int (32 : Int32))]))
    refine go (fun _ kont => XS.iadd X1.here hx rfl (hb hby d_jdk_35_method_48_17) rfl kont) ?_
    show G (T1.setTop (mkF m 18 #[.val (.long (Int64.ofNat V)), .second, .val (.int (Int32.ofNat (V / 2 ^ 32)))] [(.int ((32 : Int32) + (Int32.ofNat z)))]))
    rw [show ((32 : Int32) + (Int32.ofNat z)) = (Int32.ofNat (32 + z)) from own_addk 32 z]
    show G (T1.setTop (mkF m 18 #[.val (.long (Int64.ofNat V)), .second, .val (.int (Int32.ofNat (V / 2 ^ 32)))] [(.int (Int32.ofNat (32 + z)))]))
    refine go (fun _ kont => XS.goto X1.here hx rfl (pc0 := 18) (pc' := 25) rfl (hb hby d_jdk_35_method_48_18) (by decide) (by decide) kont) ?_
    show G (T1.setTop (mkF m 25 #[.val (.long (Int64.ofNat V)), .second, .val (.int (Int32.ofNat (V / 2 ^ 32)))] [(.int (Int32.ofNat (32 + z)))]))
    rw [hG]
    exact own_retI X1 hx Bd.returns (hb hby d_jdk_35_method_48_25) hlk (by decide) (by decide) ⟨⟨32 + z, own_lz_lo hz, rfl⟩, N1, e1⟩
  · refine go (fun _ kont => XS.ifYes X0.here hx rfl (pc0 := 7) (pc' := 21) rfl (hb hby d_jdk_35_method_48_7) rfl ((if0 _ _).trans (feq hc7).2) (by decide) (by decide) kont) ?_
    show G (s₁.setTop (mkF m 21 #[.val (.long (Int64.ofNat V)), .second, .val (.int (Int32.ofNat (V / 2 ^ 32)))] []))
    rw [show (Int32.ofNat (V / 2 ^ 32)) = (0 : Int32) ↔ V / 2 ^ 32 = 0 from own_eqO (d := V / 2 ^ 32) (k := 0) (by omega) (by omega)] at hc7
    refine go (fun _ kont => XS.iloadN X0.here hx rfl (hb hby d_jdk_35_method_48_21) rfl  kont) ?_
    show G (s₁.setTop (mkF m 22 #[.val (.long (Int64.ofNat V)), .second, .val (.int (Int32.ofNat (V / 2 ^ 32)))] [(.int (Int32.ofNat (V / 2 ^ 32)))]))
    obtain ⟨_, _, ⟨T2, L2, k2, n2⟩, -, X2, ⟨Lc2, hQ2, l2, y2, z2⟩, st2⟩ := Jvm.LawKit.callS X0 hx (y := (⟨"java/lang/Integer", "numberOfLeadingZeros", "(I)I"⟩ : MethodName)) hown (mvT hZ (hw _ (List.mem_of_getElem? (i := 70) rfl))) (mvT hZ (hw _ (List.mem_of_getElem? (i := 71) rfl))) (mvT hZ (hw _ (List.mem_of_getElem? (i := 72) rfl))) (mvT hZ (hw _ (List.mem_of_getElem? (i := 73) rfl))) (by decide) (backOf (W := 0) (own_rm_ni l Z a0 hw [] (Int32.ofNat (V / 2 ^ 32)) h0 n0 Z0 (V / 2 ^ 32) (by omega) (by omega) rfl) hZ (hw _ (List.mem_of_getElem? (i := 73) rfl)) (hw _ (List.mem_of_getElem? (i := 72) rfl)) (by decide) (by decide)) (g := (mkF m 22 #[.val (.long (Int64.ofNat V)), .second, .val (.int (Int32.ofNat (V / 2 ^ 32)))] [(.int (Int32.ofNat (V / 2 ^ 32)))])) rfl (by rw [hml]; rfl) (argsL := [(.int (Int32.ofNat (V / 2 ^ 32)))]) (rest := []) (lenOf own_pd0 rfl) rfl (by show 2 * 0 + _ ≤ _; exact Nat.le_of_eq rfl) (hb hby d_jdk_35_method_48_22) (fun _ _ => ⟨rfl, e0, (by decide : 0 + 0 ≤ _), (by decide : 0 + 0 ≤ _)⟩)
    dsimp only [Pt.U, Pt.locs, Pt.cells, Pt.slots] at X2 l2 y2 z2 st2 hQ2
    obtain ⟨⟨z, hz, rfl⟩, N2q, e2⟩ := hQ2
    have N2 : Fr n0 L2 := by rw [l2]; exact Fr.app N0 N2q
    rw [show k2 = 0 from y2, show n2 = 0 from z2] at X2
    refine go st2 ?_
    show G (T2.setTop (mkF m 25 #[.val (.long (Int64.ofNat V)), .second, .val (.int (Int32.ofNat (V / 2 ^ 32)))] [(.int (Int32.ofNat z))]))
    rw [hG]
    exact own_retI X2 hx Bd.returns (hb hby d_jdk_35_method_48_25) hlk (by decide) (by decide) ⟨⟨z, own_lz_hi hz, rfl⟩, N2, e2⟩
theorem own_ef_own_rm_bk (m : MethodId) (x0 : Int64) : entryFrame m #[(.long x0)] 4 = mkF m 0 #[.val (.long x0), .second, .unset, .unset] [] := by first | (simp [entryFrame, mkF, argsToLocals, Value.category]; done) | rfl
def own_Q_bk (Z : State) (h0 : Heap) (n0 : Nat)  (V : Nat) (r : Option Value) (h : Heap) (L : List Loc) : Prop := (∃ i : Nat, own_isb V i ∧ r = some (.int (Int32.ofNat i))) ∧ Fr n0 L ∧ h = h0
set_option maxRecDepth 65536 in
set_option maxHeartbeats 40000000 in
theorem own_rm_bk (l : Launch) (Z : State) (a0 : Array Value) (hw : ∀ d ∈ tables_1, d.before a0 Z = true) (ws : List Jvm.Cond)  (h0 : Heap) (n0 : Nat) (Z0 : n0 ≤ h0.size) (V : Nat) (hV2 : V < 9223372036854775808) :
    MetFree l (⟨"com/example/keyspace/keyspace/bench/Latencies", "bucket", "(J)I"⟩ : MethodName) (head1 (Jvm.Cond.code (⟨"com/example/keyspace/keyspace/bench/Latencies", "bucket", "(J)I"⟩ : MethodName) prog_4_method_5_code 4 (some .int) :: ws) ({ frames := 2, cells := 0, slots := 0, locals := 29 } : Room)) (fun aq Uq => aq = #[(.long (Int64.ofNat V))] ∧ Z.Warmed39 Uq.vm ∧ Uq.heap = h0) (fun _ _ _ _ _ => True) (fun _ Uq oq Uq' => ∃ vq Lq, oq = .returned vq ∧ (own_Q_bk Z h0 n0 V) vq Uq'.heap Lq ∧ FrameEnd Uq oq Uq' Lq ({ frames := 2, cells := 0, slots := 0, locals := 29 } : Room).cells ({ frames := 2, cells := 0, slots := 0, locals := 29 } : Room).slots) := by
  refine MetFree.of_bodySF (plainFor_of_name own_pn3) hisR ?_
  intro p e s m args below meth c s₁ Bd hml0 hP hK
  obtain ⟨rfl, hZ, hh⟩ := hP
  have hx := Bd.exec
  have hby := Bd.bytes
  have hml : c.maxLocals = 4 := hml0
  have hown : s.vm.findClass "com/example/keyspace/keyspace/bench/Latencies" = some m.cls := findClass_of_methodNamed Bd.named
  have hnm := (name_of_methodNamed Bd.named Bd.method).1
  have X0 : Stand p l e ({ frames := 2, cells := 0, slots := 0, locals := 29 } : Room) s m #[(.long (Int64.ofNat V))] below meth c s₁ [] 0 0 := Stand.of_body Bd
  have e0 : s₁.heap = h0 := by rw [← hh, Bd.state]; rfl
  have N0 := Fr.nil n0
  have hlk : meth.locks = false := by first | exact BodyLoose.notSynchronized Bd | exact Body.notSynchronized Bd
  obtain ⟨G, hG⟩ : ∃ G : State → Prop, G = own_G p e below s ({ frames := 2, cells := 0, slots := 0, locals := 29 } : Room).cells ({ frames := 2, cells := 0, slots := 0, locals := 29 } : Room).slots ((own_Q_bk Z h0 n0 V)) := ⟨_, rfl⟩
  have go : ∀ {S S' : State}, (∀ t, Steps p.tables e below S' t → Steps p.tables e below S t) → G S' → G S := by rw [hG]; exact own_to
  suffices hs : G (s₁.setTop (mkF m 0 #[.val (.long (Int64.ofNat V)), .second, .unset, .unset] [])) by
    rw [hG] at hs
    exact own_to (fun _ kont => castTop (own_ef_own_rm_bk m (Int64.ofNat V)) kont) hs
  refine go (fun _ kont => XS.lloadN X0.here hx rfl (hb hby d_prog_4_method_5_0) rfl  kont) ?_
  show G (s₁.setTop (mkF m 1 #[.val (.long (Int64.ofNat V)), .second, .unset, .unset] [(.long (Int64.ofNat V))]))
  refine go (fun _ kont => X0.ldc2Long hx hown (mvT hZ (hw _ (List.mem_of_getElem? (i := 25) rfl))) (g := (mkF m 1 #[.val (.long (Int64.ofNat V)), .second, .unset, .unset] [(.long (Int64.ofNat V))])) rfl (hb hby d_prog_4_method_5_1) _ kont) ?_
  show G (s₁.setTop (mkF m 4 #[.val (.long (Int64.ofNat V)), .second, .unset, .unset] [(.long (2048 : Int64)), (.long (Int64.ofNat V))]))
  refine go (fun _ kont => XS.lcmp X0.here hx rfl (hb hby d_prog_4_method_5_4) rfl kont) ?_
  show G (s₁.setTop (mkF m 5 #[.val (.long (Int64.ofNat V)), .second, .unset, .unset] [(.int (lcmpW (Int64.ofNat V) (2048 : Int64)))]))
  by_cases hc5 : (Int64.ofNat V) < (2048 : Int64)
  · refine go (fun _ kont => XS.ifNo X0.here hx rfl (hb hby d_prog_4_method_5_5) rfl ((if0 _ _).trans (tlt ((lw_lt _ _).mpr hc5)).2.1) kont) ?_
    show G (s₁.setTop (mkF m 8 #[.val (.long (Int64.ofNat V)), .second, .unset, .unset] []))
    rw [show (Int64.ofNat V) < (2048 : Int64) ↔ V < 2048 from own_ltJ64 (d := V) (k := 2048) (by omega) (by omega)] at hc5
    refine go (fun _ kont => XS.lloadN X0.here hx rfl (hb hby d_prog_4_method_5_8) rfl  kont) ?_
    show G (s₁.setTop (mkF m 9 #[.val (.long (Int64.ofNat V)), .second, .unset, .unset] [(.long (Int64.ofNat V))]))
    refine go (fun _ kont => XS.l2i X0.here hx rfl (hb hby d_prog_4_method_5_9) rfl kont) ?_
    show G (s₁.setTop (mkF m 10 #[.val (.long (Int64.ofNat V)), .second, .unset, .unset] [(.int (Int64.ofNat V).toInt32)]))
    rw [show (Int64.ofNat V).toInt32 = (Int32.ofNat V) from Int64.toInt32_ofNat']
    show G (s₁.setTop (mkF m 10 #[.val (.long (Int64.ofNat V)), .second, .unset, .unset] [(.int (Int32.ofNat V))]))
    refine go (fun _ kont => XS.istoreN X0.here hx rfl (hb hby d_prog_4_method_5_10) rfl (l' := #[.val (.long (Int64.ofNat V)), .second, .val (.int (Int32.ofNat V)), .unset]) rfl kont) ?_
    show G (s₁.setTop (mkF m 11 #[.val (.long (Int64.ofNat V)), .second, .val (.int (Int32.ofNat V)), .unset] []))
    refine go (fun _ kont => XS.goto X0.here hx rfl (pc0 := 11) (pc' := 42) rfl (hb hby d_prog_4_method_5_11) (by decide) (by decide) kont) ?_
    show G (s₁.setTop (mkF m 42 #[.val (.long (Int64.ofNat V)), .second, .val (.int (Int32.ofNat V)), .unset] []))
    refine go (fun _ kont => XS.iloadN X0.here hx rfl (hb hby d_prog_4_method_5_42) rfl  kont) ?_
    show G (s₁.setTop (mkF m 43 #[.val (.long (Int64.ofNat V)), .second, .val (.int (Int32.ofNat V)), .unset] [(.int (Int32.ofNat V))]))
    rw [hG]
    exact own_retI X0 hx Bd.returns (hb hby d_prog_4_method_5_43) hlk (by decide) (by decide) ⟨⟨V, Or.inl ⟨hc5, rfl⟩, rfl⟩, N0, e0⟩
  · refine go (fun _ kont => XS.ifYes X0.here hx rfl (pc0 := 5) (pc' := 14) rfl (hb hby d_prog_4_method_5_5) rfl ((if0 _ _).trans (flt (mt (lw_lt _ _).mp hc5)).2.1) (by decide) (by decide) kont) ?_
    show G (s₁.setTop (mkF m 14 #[.val (.long (Int64.ofNat V)), .second, .unset, .unset] []))
    rw [show (Int64.ofNat V) < (2048 : Int64) ↔ V < 2048 from own_ltJ64 (d := V) (k := 2048) (by omega) (by omega)] at hc5
    refine go (fun _ kont => XS.bipush X0.here hx rfl (hb hby d_prog_4_method_5_14) kont) ?_
    show G (s₁.setTop (mkF m 16 #[.val (.long (Int64.ofNat V)), .second, .unset, .unset] [(.int (63 : Int32))]))
    refine go (fun _ kont => XS.lloadN X0.here hx rfl (hb hby d_prog_4_method_5_16) rfl  kont) ?_
    show G (s₁.setTop (mkF m 17 #[.val (.long (Int64.ofNat V)), .second, .unset, .unset] [(.long (Int64.ofNat V)), (.int (63 : Int32))]))
    obtain ⟨_, _, ⟨T1, L1, k1, n1⟩, -, X1, ⟨Lc1, hQ1, l1, y1, z1⟩, st1⟩ := Jvm.LawKit.callS X0 hx (y := (⟨"java/lang/Long", "numberOfLeadingZeros", "(J)I"⟩ : MethodName)) hown (mvT hZ (hw _ (List.mem_of_getElem? (i := 66) rfl))) (mvT hZ (hw _ (List.mem_of_getElem? (i := 67) rfl))) (mvT hZ (hw _ (List.mem_of_getElem? (i := 68) rfl))) (mvT hZ (hw _ (List.mem_of_getElem? (i := 69) rfl))) (by decide) (backOf (W := 1) (own_rm_nj l Z a0 hw [] h0 n0 Z0 V (by omega) hV2) hZ (hw _ (List.mem_of_getElem? (i := 69) rfl)) (hw _ (List.mem_of_getElem? (i := 68) rfl)) (by decide) (by decide)) (g := (mkF m 17 #[.val (.long (Int64.ofNat V)), .second, .unset, .unset] [(.long (Int64.ofNat V)), (.int (63 : Int32))])) rfl (by rw [hml]; rfl) (argsL := [(.long (Int64.ofNat V))]) (rest := [(.int (63 : Int32))]) (lenOf own_pd1 rfl) rfl (by show 2 * 0 + _ ≤ _; exact Nat.le_of_eq rfl) (hb hby d_prog_4_method_5_17) (fun _ _ => ⟨rfl, e0, (by decide : 0 + 0 ≤ _), (by decide : 0 + 0 ≤ _)⟩)
    dsimp only [Pt.U, Pt.locs, Pt.cells, Pt.slots] at X1 l1 y1 z1 st1 hQ1
    obtain ⟨⟨z, hz, rfl⟩, N1q, e1⟩ := hQ1
    have N1 : Fr n0 L1 := by rw [l1]; exact Fr.app N0 N1q
    rw [show k1 = 0 from y1, show n1 = 0 from z1] at X1
    refine go st1 ?_
    show G (T1.setTop (mkF m 20 #[.val (.long (Int64.ofNat V)), .second, .unset, .unset] [(.int (Int32.ofNat z)), (.int (63 : Int32))]))
    obtain ⟨sh, hs1, hs52, hzs, hlo, hhi⟩ := own_lz_s hz (by omega) hV2
    obtain ⟨hd1, hd2⟩ := own_dv hlo hhi
    refine go (fun _ kont => XS.isub X1.here hx rfl (hb hby d_prog_4_method_5_20) rfl kont) ?_
    show G (T1.setTop (mkF m 21 #[.val (.long (Int64.ofNat V)), .second, .unset, .unset] [(.int ((63 : Int32) - (Int32.ofNat z)))]))
    refine go (fun _ kont => XS.bipush X1.here hx rfl (hb hby d_prog_4_method_5_21) kont) ?_
    show G (T1.setTop (mkF m 23 #[.val (.long (Int64.ofNat V)), .second, .unset, .unset] [(.int (10 : Int32)), (.int ((63 : Int32) - (Int32.ofNat z)))]))
    refine go (fun _ kont => XS.isub X1.here hx rfl (hb hby d_prog_4_method_5_23) rfl kont) ?_
    show G (T1.setTop (mkF m 24 #[.val (.long (Int64.ofNat V)), .second, .unset, .unset] [(.int (((63 : Int32) - (Int32.ofNat z)) - (10 : Int32)))]))
    rw [show (((63 : Int32) - (Int32.ofNat z)) - (10 : Int32)) = (Int32.ofNat sh) from own_s63 hzs]
    show G (T1.setTop (mkF m 24 #[.val (.long (Int64.ofNat V)), .second, .unset, .unset] [(.int (Int32.ofNat sh))]))
    refine go (fun _ kont => XS.istoreN X1.here hx rfl (hb hby d_prog_4_method_5_24) rfl (l' := #[.val (.long (Int64.ofNat V)), .second, .unset, .val (.int (Int32.ofNat sh))]) rfl kont) ?_
    show G (T1.setTop (mkF m 25 #[.val (.long (Int64.ofNat V)), .second, .unset, .val (.int (Int32.ofNat sh))] []))
    refine go (fun _ kont => XS.iloadN X1.here hx rfl (hb hby d_prog_4_method_5_25) rfl  kont) ?_
    show G (T1.setTop (mkF m 26 #[.val (.long (Int64.ofNat V)), .second, .unset, .val (.int (Int32.ofNat sh))] [(.int (Int32.ofNat sh))]))
    refine go (fun _ kont => XS.iconst X1.here hx rfl (hb hby d_prog_4_method_5_26) kont) ?_
    show G (T1.setTop (mkF m 27 #[.val (.long (Int64.ofNat V)), .second, .unset, .val (.int (Int32.ofNat sh))] [(.int (1 : Int32)), (.int (Int32.ofNat sh))]))
    refine go (fun _ kont => XS.iadd X1.here hx rfl (hb hby d_prog_4_method_5_27) rfl kont) ?_
    show G (T1.setTop (mkF m 28 #[.val (.long (Int64.ofNat V)), .second, .unset, .val (.int (Int32.ofNat sh))] [(.int ((Int32.ofNat sh) + (1 : Int32)))]))
    refine go (fun _ kont => XS.sipush X1.here hx rfl (hb hby d_prog_4_method_5_28) kont) ?_
    show G (T1.setTop (mkF m 31 #[.val (.long (Int64.ofNat V)), .second, .unset, .val (.int (Int32.ofNat sh))] [(.int (1024 : Int32)), (.int ((Int32.ofNat sh) + (1 : Int32)))]))
    refine go (fun _ kont => XS.imul X1.here hx rfl (hb hby d_prog_4_method_5_31) rfl kont) ?_
    show G (T1.setTop (mkF m 32 #[.val (.long (Int64.ofNat V)), .second, .unset, .val (.int (Int32.ofNat sh))] [(.int (((Int32.ofNat sh) + (1 : Int32)) * (1024 : Int32)))]))
    refine go (fun _ kont => XS.lloadN X1.here hx rfl (hb hby d_prog_4_method_5_32) rfl  kont) ?_
    show G (T1.setTop (mkF m 33 #[.val (.long (Int64.ofNat V)), .second, .unset, .val (.int (Int32.ofNat sh))] [(.long (Int64.ofNat V)), (.int (((Int32.ofNat sh) + (1 : Int32)) * (1024 : Int32)))]))
    refine go (fun _ kont => XS.iloadN X1.here hx rfl (hb hby d_prog_4_method_5_33) rfl  kont) ?_
    show G (T1.setTop (mkF m 34 #[.val (.long (Int64.ofNat V)), .second, .unset, .val (.int (Int32.ofNat sh))] [(.int (Int32.ofNat sh)), (.long (Int64.ofNat V)), (.int (((Int32.ofNat sh) + (1 : Int32)) * (1024 : Int32)))]))
    refine go (fun _ kont => XS.lushr X1.here hx rfl (hb hby d_prog_4_method_5_34) rfl kont) ?_
    show G (T1.setTop (mkF m 35 #[.val (.long (Int64.ofNat V)), .second, .unset, .val (.int (Int32.ofNat sh))] [(.long (((Int64.ofNat V).toUInt64 >>> ((Int32.ofNat sh) &&& 0x3f).toInt64.toUInt64).toInt64)), (.int (((Int32.ofNat sh) + (1 : Int32)) * (1024 : Int32)))]))
    rw [show (((Int64.ofNat V).toUInt64 >>> ((Int32.ofNat sh) &&& 0x3f).toInt64.toUInt64).toInt64) = (Int64.ofNat (V / 2 ^ sh)) from own_lushr (own_sh6 sh (by omega)) (by omega) hV2]
    show G (T1.setTop (mkF m 35 #[.val (.long (Int64.ofNat V)), .second, .unset, .val (.int (Int32.ofNat sh))] [(.long (Int64.ofNat (V / 2 ^ sh))), (.int (((Int32.ofNat sh) + (1 : Int32)) * (1024 : Int32)))]))
    refine go (fun _ kont => XS.l2i X1.here hx rfl (hb hby d_prog_4_method_5_35) rfl kont) ?_
    show G (T1.setTop (mkF m 36 #[.val (.long (Int64.ofNat V)), .second, .unset, .val (.int (Int32.ofNat sh))] [(.int (Int64.ofNat (V / 2 ^ sh)).toInt32), (.int (((Int32.ofNat sh) + (1 : Int32)) * (1024 : Int32)))]))
    rw [show (Int64.ofNat (V / 2 ^ sh)).toInt32 = (Int32.ofNat (V / 2 ^ sh)) from Int64.toInt32_ofNat']
    show G (T1.setTop (mkF m 36 #[.val (.long (Int64.ofNat V)), .second, .unset, .val (.int (Int32.ofNat sh))] [(.int (Int32.ofNat (V / 2 ^ sh))), (.int (((Int32.ofNat sh) + (1 : Int32)) * (1024 : Int32)))]))
    refine go (fun _ kont => XS.iadd X1.here hx rfl (hb hby d_prog_4_method_5_36) rfl kont) ?_
    show G (T1.setTop (mkF m 37 #[.val (.long (Int64.ofNat V)), .second, .unset, .val (.int (Int32.ofNat sh))] [(.int ((((Int32.ofNat sh) + (1 : Int32)) * (1024 : Int32)) + (Int32.ofNat (V / 2 ^ sh))))]))
    refine go (fun _ kont => XS.sipush X1.here hx rfl (hb hby d_prog_4_method_5_37) kont) ?_
    show G (T1.setTop (mkF m 40 #[.val (.long (Int64.ofNat V)), .second, .unset, .val (.int (Int32.ofNat sh))] [(.int (1024 : Int32)), (.int ((((Int32.ofNat sh) + (1 : Int32)) * (1024 : Int32)) + (Int32.ofNat (V / 2 ^ sh))))]))
    refine go (fun _ kont => XS.isub X1.here hx rfl (hb hby d_prog_4_method_5_40) rfl kont) ?_
    show G (T1.setTop (mkF m 41 #[.val (.long (Int64.ofNat V)), .second, .unset, .val (.int (Int32.ofNat sh))] [(.int (((((Int32.ofNat sh) + (1 : Int32)) * (1024 : Int32)) + (Int32.ofNat (V / 2 ^ sh))) - (1024 : Int32)))]))
    rw [show (((((Int32.ofNat sh) + (1 : Int32)) * (1024 : Int32)) + (Int32.ofNat (V / 2 ^ sh))) - (1024 : Int32)) = (Int32.ofNat (sh * 1024 + V / 2 ^ sh)) from own_bki hs52 hd2]
    show G (T1.setTop (mkF m 41 #[.val (.long (Int64.ofNat V)), .second, .unset, .val (.int (Int32.ofNat sh))] [(.int (Int32.ofNat (sh * 1024 + V / 2 ^ sh)))]))
    refine go (fun _ kont => XS.istoreN X1.here hx rfl (hb hby d_prog_4_method_5_41) rfl (l' := #[.val (.long (Int64.ofNat V)), .second, .val (.int (Int32.ofNat (sh * 1024 + V / 2 ^ sh))), .val (.int (Int32.ofNat sh))]) rfl kont) ?_
    show G (T1.setTop (mkF m 42 #[.val (.long (Int64.ofNat V)), .second, .val (.int (Int32.ofNat (sh * 1024 + V / 2 ^ sh))), .val (.int (Int32.ofNat sh))] []))
    refine go (fun _ kont => XS.iloadN X1.here hx rfl (hb hby d_prog_4_method_5_42) rfl  kont) ?_
    show G (T1.setTop (mkF m 43 #[.val (.long (Int64.ofNat V)), .second, .val (.int (Int32.ofNat (sh * 1024 + V / 2 ^ sh))), .val (.int (Int32.ofNat sh))] [(.int (Int32.ofNat (sh * 1024 + V / 2 ^ sh)))]))
    rw [hG]
    exact own_retI X1 hx Bd.returns (hb hby d_prog_4_method_5_43) hlk (by decide) (by decide) ⟨⟨sh * 1024 + V / 2 ^ sh, Or.inr ⟨sh, hs1, hs52, hlo, hhi, rfl⟩, rfl⟩, N1, e1⟩
theorem own_ef_own_rm_rec (m : MethodId) (x0 : Addr) (x1 : Int64) : entryFrame m #[(.ref x0), (.long x1)] 3 = mkF m 0 #[.val (.ref x0), .val (.long x1), .second] [] := by first | (simp [entryFrame, mkF, argsToLocals, Value.category]; done) | rfl
def own_Q_rec (Z : State) (h0 : Heap) (n0 : Nat) (a : Addr) (v : Int64) (ct : Addr) (es : List Nat) (V : Nat) (r : Option Value) (h : Heap) (L : List Loc) : Prop := r = none ∧ Fr n0 L ∧ Keep h0 h [a, ct] ∧ ∃ i : Nat, own_isb V i ∧ own_O Z h a ct (es.length + 1) ∧ own_V Z h ct .long (own_K (i :: es))
set_option maxRecDepth 65536 in
set_option maxHeartbeats 40000000 in
theorem own_rm_rec (l : Launch) (Z : State) (a0 : Array Value) (hw : ∀ d ∈ tables_1, d.before a0 Z = true) (ws : List Jvm.Cond) (a : Addr) (v : Int64) (h0 : Heap) (n0 : Nat) (Z0 : n0 ≤ h0.size) (ct : Addr) (es : List Nat) (V : Nat) (hV : own_mx v = Int64.ofNat V) (hV2 : V < 9223372036854775808) (O : own_O Z h0 a ct es.length) (VA : own_V Z h0 ct .long (own_K es)) (hac : a ≠ ct) (ga : n0 ≤ a) (gc : n0 ≤ ct) :
    MetFree l (⟨"com/example/keyspace/keyspace/bench/Latencies", "record", "(J)V"⟩ : MethodName) (head1 (Jvm.Cond.code (⟨"com/example/keyspace/keyspace/bench/Latencies", "record", "(J)V"⟩ : MethodName) prog_4_method_2_code 3 none :: ws) ({ frames := 3, cells := 0, slots := 0, locals := 45 } : Room)) (fun aq Uq => aq = #[(.ref a), (.long v)] ∧ Z.Warmed39 Uq.vm ∧ Uq.heap = h0) (fun _ _ _ _ _ => True) (fun _ Uq oq Uq' => ∃ vq Lq, oq = .returned vq ∧ (own_Q_rec Z h0 n0 a v ct es V) vq Uq'.heap Lq ∧ FrameEnd Uq oq Uq' Lq ({ frames := 3, cells := 0, slots := 0, locals := 45 } : Room).cells ({ frames := 3, cells := 0, slots := 0, locals := 45 } : Room).slots) := by
  refine MetFree.of_bodySF (plainFor_of_name own_pn3) hisR ?_
  intro p e s m args below meth c s₁ Bd hml0 hP hK
  obtain ⟨rfl, hZ, hh⟩ := hP
  have hx := Bd.exec
  have hby := Bd.bytes
  have hml : c.maxLocals = 3 := hml0
  have hown : s.vm.findClass "com/example/keyspace/keyspace/bench/Latencies" = some m.cls := findClass_of_methodNamed Bd.named
  have hnm := (name_of_methodNamed Bd.named Bd.method).1
  have X0 : Stand p l e ({ frames := 3, cells := 0, slots := 0, locals := 45 } : Room) s m #[(.ref a), (.long v)] below meth c s₁ [] 0 0 := Stand.of_body Bd
  have e0 : s₁.heap = h0 := by rw [← hh, Bd.state]; rfl
  have N0 := Fr.nil n0
  have hlk : meth.locks = false := by first | exact BodyLoose.notSynchronized Bd | exact Body.notSynchronized Bd
  obtain ⟨G, hG⟩ : ∃ G : State → Prop, G = own_G p e below s ({ frames := 3, cells := 0, slots := 0, locals := 45 } : Room).cells ({ frames := 3, cells := 0, slots := 0, locals := 45 } : Room).slots ((own_Q_rec Z h0 n0 a v ct es V)) := ⟨_, rfl⟩
  have go : ∀ {S S' : State}, (∀ t, Steps p.tables e below S' t → Steps p.tables e below S t) → G S' → G S := by rw [hG]; exact own_to
  suffices hs : G (s₁.setTop (mkF m 0 #[.val (.ref a), .val (.long v), .second] [])) by
    rw [hG] at hs
    exact own_to (fun _ kont => castTop (own_ef_own_rm_rec m a v) kont) hs
  refine go (fun _ kont => XS.aloadN X0.here hx rfl (hb hby d_prog_4_method_2_0) rfl rfl kont) ?_
  show G (s₁.setTop (mkF m 1 #[.val (.ref a), .val (.long v), .second] [(.ref a)]))
  obtain ⟨T1, X1, e1, st1⟩ := getF X0 hx hZ hown (host := "") (Or.inl (hw _ (List.mem_of_getElem? (i := 11) rfl))) Via.refl e0 O.2.1 (g := (mkF m 1 #[.val (.ref a), .val (.long v), .second] [(.ref a)])) rfl rfl (hb hby d_prog_4_method_2_1)
  refine go st1 ?_
  show G (T1.setTop (mkF m 4 #[.val (.ref a), .val (.long v), .second] [(.ref ct)]))
  refine go (fun _ kont => XS.lloadN X1.here hx rfl (hb hby d_prog_4_method_2_4) rfl  kont) ?_
  show G (T1.setTop (mkF m 5 #[.val (.ref a), .val (.long v), .second] [(.long v), (.ref ct)]))
  refine go (fun _ kont => XS.lconst X1.here hx rfl (hb hby d_prog_4_method_2_5) kont) ?_
  show G (T1.setTop (mkF m 6 #[.val (.ref a), .val (.long v), .second] [(.long (0 : Int64)), (.long v), (.ref ct)]))
  obtain ⟨_, _, ⟨T2, L2, k2, n2⟩, -, X2, ⟨Lc2, hQ2, l2, y2, z2⟩, st2⟩ := Jvm.LawKit.callS X1 hx (y := (⟨"java/lang/Math", "max", "(JJ)J"⟩ : MethodName)) hown (mvT hZ (hw _ (List.mem_of_getElem? (i := 18) rfl))) (mvT hZ (hw _ (List.mem_of_getElem? (i := 19) rfl))) (mvT hZ (hw _ (List.mem_of_getElem? (i := 20) rfl))) (mvT hZ (hw _ (List.mem_of_getElem? (i := 21) rfl))) (by decide) (backOf (W := 1) (own_rm_max l Z a0 hw [] v h0 n0 Z0) hZ (hw _ (List.mem_of_getElem? (i := 21) rfl)) (hw _ (List.mem_of_getElem? (i := 20) rfl)) (by decide) (by decide)) (g := (mkF m 6 #[.val (.ref a), .val (.long v), .second] [(.long (0 : Int64)), (.long v), (.ref ct)])) rfl (by rw [hml]; rfl) (argsL := [(.long v), (.long (0 : Int64))]) (rest := [(.ref ct)]) (lenOf own_pd2 rfl) rfl (by show 2 * 0 + _ ≤ _; exact Nat.le_of_eq rfl) (hb hby d_prog_4_method_2_6) (fun _ _ => ⟨rfl, e1, (by decide : 0 + 0 ≤ _), (by decide : 0 + 0 ≤ _)⟩)
  dsimp only [Pt.U, Pt.locs, Pt.cells, Pt.slots] at X2 l2 y2 z2 st2 hQ2
  obtain ⟨rfl, N2q, e2⟩ := hQ2
  have N2 : Fr n0 L2 := by rw [l2]; exact Fr.app N0 N2q
  rw [show k2 = 0 from y2, show n2 = 0 from z2] at X2
  refine go st2 ?_
  show G (T2.setTop (mkF m 9 #[.val (.ref a), .val (.long v), .second] [(.long (own_mx v)), (.ref ct)]))
  rw [hV]
  show G (T2.setTop (mkF m 9 #[.val (.ref a), .val (.long v), .second] [(.long (Int64.ofNat V)), (.ref ct)]))
  obtain ⟨_, _, ⟨T3, L3, k3, n3⟩, -, X3, ⟨Lc3, hQ3, l3, y3, z3⟩, st3⟩ := Jvm.LawKit.callS X2 hx (y := (⟨"com/example/keyspace/keyspace/bench/Latencies", "bucket", "(J)I"⟩ : MethodName)) hown (mvT hZ (hw _ (List.mem_of_getElem? (i := 22) rfl))) (mvT hZ (hw _ (List.mem_of_getElem? (i := 23) rfl))) (mvT hZ (hw _ (List.mem_of_getElem? (i := 2) rfl))) (mvT hZ (hw _ (List.mem_of_getElem? (i := 24) rfl))) (by decide) (backOf (W := 1) (own_rm_bk l Z a0 hw [] h0 n0 Z0 V hV2) hZ (hw _ (List.mem_of_getElem? (i := 24) rfl)) (hw _ (List.mem_of_getElem? (i := 2) rfl)) (by decide) (by decide)) (g := (mkF m 9 #[.val (.ref a), .val (.long v), .second] [(.long (Int64.ofNat V)), (.ref ct)])) rfl (by rw [hml]; rfl) (argsL := [(.long (Int64.ofNat V))]) (rest := [(.ref ct)]) (lenOf own_pd1 rfl) rfl (by show 2 * 0 + _ ≤ _; exact Nat.le_of_eq rfl) (hb hby d_prog_4_method_2_9) (fun _ _ => ⟨rfl, e2, (by decide : 0 + 0 ≤ _), (by decide : 0 + 0 ≤ _)⟩)
  dsimp only [Pt.U, Pt.locs, Pt.cells, Pt.slots] at X3 l3 y3 z3 st3 hQ3
  obtain ⟨⟨i, hib, rfl⟩, N3q, e3⟩ := hQ3
  have N3 : Fr n0 L3 := by rw [l3]; exact Fr.app N2 N3q
  rw [show k3 = 0 from y3, show n3 = 0 from z3] at X3
  refine go st3 ?_
  show G (T3.setTop (mkF m 12 #[.val (.ref a), .val (.long v), .second] [(.int (Int32.ofNat i)), (.ref ct)]))
  have hil := own_isb_lt hib
  obtain ⟨cl, Ar, Sl, Ml⟩ := id VA
  refine go (fun _ kont => XT.dup2 X3.here hx rfl (hb hby d_prog_4_method_2_12) rfl rfl rfl kont) ?_
  show G (T3.setTop (mkF m 13 #[.val (.ref a), .val (.long v), .second] [(.int (Int32.ofNat i)), (.ref ct), (.int (Int32.ofNat i)), (.ref ct)]))
  refine go (fun _ kont => X3.laload hx (j := (Int32.ofNat i)) (v := (.long (Int64.ofNat (es.count i)))) (by rw [e3]; exact Ar.1) (State.isArrayOf_alike hZ.alike Ar.2.1) Ar.2.2 (own_hink Sl (own_neg (by rw [own_ofN (by omega)]; omega)) (own_tnO (by omega)) (k := i) (by rw [own_K_len]; omega)) (own_hatk Sl (own_tnO (by omega)) (own_K_at es (k := i) hil)) (g := (mkF m 13 #[.val (.ref a), .val (.long v), .second] [(.int (Int32.ofNat i)), (.ref ct), (.int (Int32.ofNat i)), (.ref ct)])) rfl rfl (hb hby d_prog_4_method_2_13) _ kont) ?_
  show G (T3.setTop (mkF m 14 #[.val (.ref a), .val (.long v), .second] [(.long (Int64.ofNat (es.count i))), (.int (Int32.ofNat i)), (.ref ct)]))
  refine go (fun _ kont => XS.lconst X3.here hx rfl (hb hby d_prog_4_method_2_14) kont) ?_
  show G (T3.setTop (mkF m 15 #[.val (.ref a), .val (.long v), .second] [(.long (1 : Int64)), (.long (Int64.ofNat (es.count i))), (.int (Int32.ofNat i)), (.ref ct)]))
  refine go (fun _ kont => XS.ladd X3.here hx rfl (hb hby d_prog_4_method_2_15) rfl kont) ?_
  show G (T3.setTop (mkF m 16 #[.val (.ref a), .val (.long v), .second] [(.long ((Int64.ofNat (es.count i)) + (1 : Int64))), (.int (Int32.ofNat i)), (.ref ct)]))
  rw [show ((Int64.ofNat (es.count i)) + (1 : Int64)) = (Int64.ofNat (es.count i + 1)) from own_addJ (es.count i) 1]
  show G (T3.setTop (mkF m 16 #[.val (.ref a), .val (.long v), .second] [(.long (Int64.ofNat (es.count i + 1))), (.int (Int32.ofNat i)), (.ref ct)]))
  obtain ⟨T4, h4, X4, e4, W4, st4⟩ := stJ X3 hx hZ e3 Ar (j := (Int32.ofNat i)) (own_hink Sl (own_neg (by rw [own_ofN (by omega)]; omega)) (own_tnO (by omega)) (k := i) (by rw [own_K_len]; omega)) (g := (mkF m 16 #[.val (.ref a), .val (.long v), .second] [(.long (Int64.ofNat (es.count i + 1))), (.int (Int32.ofNat i)), (.ref ct)])) rfl rfl (hb hby d_prog_4_method_2_16)
  refine go st4 ?_
  show G (T4.setTop (mkF m 17 #[.val (.ref a), .val (.long v), .second] []))
  have VB : own_V Z h4 ct .long (own_K (i :: es)) := by rw [← own_K_set hil]; exact own_V_set VA W4 (own_tnO (by omega))
  have OB := own_O_other O W4 hac
  have KB := (Keep.refl h0 [a, ct]).wr W4 (Or.inl (List.mem_of_getElem? (i := 1) rfl))
  have N4 := Fr.snoc X4 N3 gc
  refine go (fun _ kont => XS.aloadN X4.here hx rfl (hb hby d_prog_4_method_2_17) rfl rfl kont) ?_
  show G (T4.setTop (mkF m 18 #[.val (.ref a), .val (.long v), .second] [(.ref a)]))
  refine go (fun _ kont => XS.dup X4.here hx rfl (hb hby d_prog_4_method_2_18) rfl rfl kont) ?_
  show G (T4.setTop (mkF m 19 #[.val (.ref a), .val (.long v), .second] [(.ref a), (.ref a)]))
  obtain ⟨T5, X5, e5, st5⟩ := getF X4 hx hZ hown (host := "") (Or.inl (hw _ (List.mem_of_getElem? (i := 26) rfl))) Via.refl e4 OB.2.2 (g := (mkF m 19 #[.val (.ref a), .val (.long v), .second] [(.ref a), (.ref a)])) rfl rfl (hb hby d_prog_4_method_2_19)
  refine go st5 ?_
  show G (T5.setTop (mkF m 22 #[.val (.ref a), .val (.long v), .second] [(.long (Int64.ofNat es.length)), (.ref a)]))
  refine go (fun _ kont => XS.lconst X5.here hx rfl (hb hby d_prog_4_method_2_22) kont) ?_
  show G (T5.setTop (mkF m 23 #[.val (.ref a), .val (.long v), .second] [(.long (1 : Int64)), (.long (Int64.ofNat es.length)), (.ref a)]))
  refine go (fun _ kont => XS.ladd X5.here hx rfl (hb hby d_prog_4_method_2_23) rfl kont) ?_
  show G (T5.setTop (mkF m 24 #[.val (.ref a), .val (.long v), .second] [(.long ((Int64.ofNat es.length) + (1 : Int64))), (.ref a)]))
  rw [show ((Int64.ofNat es.length) + (1 : Int64)) = (Int64.ofNat (es.length + 1)) from own_addJ es.length 1]
  show G (T5.setTop (mkF m 24 #[.val (.ref a), .val (.long v), .second] [(.long (Int64.ofNat (es.length + 1))), (.ref a)]))
  obtain ⟨T6, h6, X6, e6, W6, st6⟩ := putF X5 hx hZ hown (host := "") (Or.inl (hw _ (List.mem_of_getElem? (i := 26) rfl))) Via.refl e5 OB.2.2 OB.1 (Or.inl (hw _ (List.mem_of_getElem? (i := 27) rfl))) (hw _ (List.mem_of_getElem? (i := 1) rfl)) (ty := .long) (by decide) rfl rfl (g := (mkF m 24 #[.val (.ref a), .val (.long v), .second] [(.long (Int64.ofNat (es.length + 1))), (.ref a)])) rfl rfl (hb hby d_prog_4_method_2_24)
  refine go st6 ?_
  show G (T6.setTop (mkF m 27 #[.val (.ref a), .val (.long v), .second] []))
  have OC := own_O_total hw OB W6
  have VC := own_V_other VB W6 (Ne.symm hac)
  have KC := KB.wr W6 (Or.inl (List.mem_of_getElem? (i := 0) rfl))
  have N6 := Fr.snoc X6 N4 ga
  rw [hG]
  exact own_retV X6 hx Bd.returns (hb hby d_prog_4_method_2_27) hlk (by decide) (by decide) (by rw [e6]; exact ⟨rfl, N6, KC, i, hib, OC, VC⟩)
theorem own_ef_own_rm_ctor (m : MethodId) (x0 : Addr) : entryFrame m #[(.ref x0)] 1 = mkF m 0 #[.val (.ref x0)] [] := by first | (simp [entryFrame, mkF, argsToLocals, Value.category]; done) | rfl
def own_Q_ctor (Z : State) (h0 : Heap) (n0 : Nat) (a : Addr)  (r : Option Value) (h : Heap) (L : List Loc) : Prop := r = none ∧ Fr n0 L ∧ Keep h0 h [a] ∧ ∃ ct : Addr, h0.size ≤ ct ∧ own_O Z h a ct 0 ∧ own_V Z h ct .long (own_K [])
set_option maxRecDepth 65536 in
set_option maxHeartbeats 40000000 in
theorem own_rm_ctor (l : Launch) (Z : State) (a0 : Array Value) (hw : ∀ d ∈ tables_1, d.before a0 Z = true) (ws : List Jvm.Cond) (a : Addr) (h0 : Heap) (n0 : Nat) (Z0 : n0 ≤ h0.size) (F1 : Fld Z h0 a "com/example/keyspace/keyspace/bench/Latencies" "counts" "[J" .null) (F2 : Fld Z h0 a "com/example/keyspace/keyspace/bench/Latencies" "total" "J" (.long 0)) (EX : Exa Z h0 a "com/example/keyspace/keyspace/bench/Latencies") (ga : n0 ≤ a) :
    MetFree l (⟨"com/example/keyspace/keyspace/bench/Latencies", "<init>", "()V"⟩ : MethodName) (head1 (Jvm.Cond.code (⟨"com/example/keyspace/keyspace/bench/Latencies", "<init>", "()V"⟩ : MethodName) prog_4_method_1_code 1 none :: ws) ({ frames := 1, cells := 1, slots := 55296, locals := 12 } : Room)) (fun aq Uq => aq = #[(.ref a)] ∧ Z.Warmed39 Uq.vm ∧ Uq.heap = h0) (fun _ _ _ _ _ => True) (fun _ Uq oq Uq' => ∃ vq Lq, oq = .returned vq ∧ (own_Q_ctor Z h0 n0 a) vq Uq'.heap Lq ∧ FrameEnd Uq oq Uq' Lq ({ frames := 1, cells := 1, slots := 55296, locals := 12 } : Room).cells ({ frames := 1, cells := 1, slots := 55296, locals := 12 } : Room).slots) := by
  refine MetFree.of_bodySF (plainFor_of_name own_pn3) hisR ?_
  intro p e s m args below meth c s₁ Bd hml0 hP hK
  obtain ⟨rfl, hZ, hh⟩ := hP
  have hx := Bd.exec
  have hby := Bd.bytes
  have hml : c.maxLocals = 1 := hml0
  have hown : s.vm.findClass "com/example/keyspace/keyspace/bench/Latencies" = some m.cls := findClass_of_methodNamed Bd.named
  have hnm := (name_of_methodNamed Bd.named Bd.method).1
  have X0 : Stand p l e ({ frames := 1, cells := 1, slots := 55296, locals := 12 } : Room) s m #[(.ref a)] below meth c s₁ [] 0 0 := Stand.of_body Bd
  have e0 : s₁.heap = h0 := by rw [← hh, Bd.state]; rfl
  have N0 := Fr.nil n0
  have hlk : meth.locks = false := by first | exact BodyLoose.notSynchronized Bd | exact Body.notSynchronized Bd
  obtain ⟨G, hG⟩ : ∃ G : State → Prop, G = own_G p e below s ({ frames := 1, cells := 1, slots := 55296, locals := 12 } : Room).cells ({ frames := 1, cells := 1, slots := 55296, locals := 12 } : Room).slots ((own_Q_ctor Z h0 n0 a)) := ⟨_, rfl⟩
  have go : ∀ {S S' : State}, (∀ t, Steps p.tables e below S' t → Steps p.tables e below S t) → G S' → G S := by rw [hG]; exact own_to
  suffices hs : G (s₁.setTop (mkF m 0 #[.val (.ref a)] [])) by
    rw [hG] at hs
    exact own_to (fun _ kont => castTop (own_ef_own_rm_ctor m a) kont) hs
  refine go (fun _ kont => XS.aloadN X0.here hx rfl (hb hby d_prog_4_method_1_0) rfl rfl kont) ?_
  show G (s₁.setTop (mkF m 1 #[.val (.ref a)] [(.ref a)]))
  obtain ⟨T1, X1, e1, st1⟩ := initO X0 hx hZ hown (hw _ (List.mem_of_getElem? (i := 6) rfl)) (hw _ (List.mem_of_getElem? (i := 7) rfl)) (hw _ (List.mem_of_getElem? (i := 8) rfl)) e0 (g := (mkF m 1 #[.val (.ref a)] [(.ref a)])) rfl (by rw [hml]; rfl) rfl (hb hby d_prog_4_method_1_1) (by decide) (W := 0) (by show 2 * 0 + _ ≤ _; exact Nat.le_of_eq rfl) (by decide)
  refine go st1 ?_
  show G (T1.setTop (mkF m 4 #[.val (.ref a)] []))
  refine go (fun _ kont => XS.aloadN X1.here hx rfl (hb hby d_prog_4_method_1_4) rfl rfl kont) ?_
  show G (T1.setTop (mkF m 5 #[.val (.ref a)] [(.ref a)]))
  refine go (fun _ kont => X1.ldcInt hx hown (mvT hZ (hw _ (List.mem_of_getElem? (i := 9) rfl))) (g := (mkF m 5 #[.val (.ref a)] [(.ref a)])) rfl (hb hby d_prog_4_method_1_5) _ kont) ?_
  show G (T1.setTop (mkF m 7 #[.val (.ref a)] [(.int (55296 : Int32)), (.ref a)]))
  obtain ⟨T2, h2, k2, X2, e2, E2, A2, st2⟩ := newP X1 hx hZ (hw _ (List.mem_of_getElem? (i := 10) rfl)) e1 (g := (mkF m 7 #[.val (.ref a)] [(.int (55296 : Int32)), (.ref a)])) rfl (hb hby d_prog_4_method_1_7) rfl (by decide) (cap := 55296) (by decide) (by decide) (by decide) (by decide)
  obtain ⟨b2, g2⟩ : ∃ z, z = h0.size := ⟨_, rfl⟩
  rw [← g2] at A2 st2
  refine go st2 ?_
  show G (T2.setTop (mkF m 9 #[.val (.ref a)] [(.ref b2), (.ref a)]))
  have VA : own_V Z h2 b2 .long (own_K []) := own_K_new (own_V_new A2 (m := 55296) (by decide) (by decide))
  have F1' := F1.ext E2
  have F2' := F2.ext E2
  have EX' := EX.ext E2
  have K' := (Keep.refl h0 [a]).ext E2
  have hsz : h0.size ≤ b2 := Nat.le_of_eq g2.symm
  have hne : b2 ≠ a := Nat.ne_of_gt (Nat.lt_of_lt_of_le EX.lt hsz)
  obtain ⟨T3, h3, X3, e3, W3, st3⟩ := putF X2 hx hZ hown (host := "") (Or.inl (hw _ (List.mem_of_getElem? (i := 11) rfl))) Via.refl e2 F1' EX' (Or.inr ⟨(hw _ (List.mem_of_getElem? (i := 12) rfl)), rfl, hnm⟩) (hw _ (List.mem_of_getElem? (i := 1) rfl)) (ty := (.array .long)) (by decide) rfl rfl (g := (mkF m 9 #[.val (.ref a)] [(.ref b2), (.ref a)])) rfl rfl (hb hby d_prog_4_method_1_9)
  refine go st3 ?_
  show G (T3.setTop (mkF m 12 #[.val (.ref a)] []))
  have O := own_O_new hw EX' F1' F2' W3
  have VC := own_V_other VA W3 hne
  have KC := K'.wr W3 (Or.inl (List.mem_of_getElem? (i := 0) rfl))
  have N3 := Fr.snoc X3 N0 ga
  rw [hG]
  exact own_retV X3 hx Bd.returns (hb hby d_prog_4_method_1_12) hlk (by decide) (by decide) (by rw [e3]; exact ⟨rfl, N3, KC, b2, hsz, O, VC⟩)
theorem own_ef_own_rm_add (m : MethodId) (x0 : Addr) (x1 : Addr) : entryFrame m #[(.ref x0), (.ref x1)] 3 = mkF m 0 #[.val (.ref x0), .val (.ref x1), .unset] [] := by first | (simp [entryFrame, mkF, argsToLocals, Value.category]; done) | rfl
def own_Q_add (Z : State) (h0 : Heap) (n0 : Nat) (a : Addr) (b : Addr) (ca : Addr) (es fs : List Nat) (r : Option Value) (h : Heap) (L : List Loc) : Prop := r = none ∧ Fr n0 L ∧ Keep h0 h [a, ca] ∧ own_O Z h a ca (es.length + fs.length) ∧ own_V Z h ca .long (own_K (es ++ fs))
set_option maxRecDepth 65536 in
set_option maxHeartbeats 40000000 in
theorem own_rm_add (l : Launch) (Z : State) (a0 : Array Value) (hw : ∀ d ∈ tables_1, d.before a0 Z = true) (ws : List Jvm.Cond) (a : Addr) (b : Addr) (h0 : Heap) (n0 : Nat) (Z0 : n0 ≤ h0.size) (ca cb : Addr) (es fs : List Nat) (Oa : own_O Z h0 a ca es.length) (Ob : own_O Z h0 b cb fs.length) (Va : own_V Z h0 ca .long (own_K es)) (Vb : own_V Z h0 cb .long (own_K fs)) (hac : a ≠ ca) (hbc : b ≠ ca) (hcc : cb ≠ ca) (ga : n0 ≤ a) (gc : n0 ≤ ca) :
    MetFree l (⟨"com/example/keyspace/keyspace/bench/Latencies", "add", "(Lcom/example/keyspace/keyspace/bench/Latencies;)V"⟩ : MethodName) (head1 (Jvm.Cond.code (⟨"com/example/keyspace/keyspace/bench/Latencies", "add", "(Lcom/example/keyspace/keyspace/bench/Latencies;)V"⟩ : MethodName) prog_4_method_3_code 3 none :: ws) ({ frames := 0, cells := 0, slots := 0, locals := 0 } : Room)) (fun aq Uq => aq = #[(.ref a), (.ref b)] ∧ Z.Warmed39 Uq.vm ∧ Uq.heap = h0) (fun _ _ _ _ _ => True) (fun _ Uq oq Uq' => ∃ vq Lq, oq = .returned vq ∧ (own_Q_add Z h0 n0 a b ca es fs) vq Uq'.heap Lq ∧ FrameEnd Uq oq Uq' Lq ({ frames := 0, cells := 0, slots := 0, locals := 0 } : Room).cells ({ frames := 0, cells := 0, slots := 0, locals := 0 } : Room).slots) := by
  refine MetFree.of_bodySF (plainFor_of_name own_pn3) hisR ?_
  intro p e s m args below meth c s₁ Bd hml0 hP hK
  obtain ⟨rfl, hZ, hh⟩ := hP
  have hx := Bd.exec
  have hby := Bd.bytes
  have hml : c.maxLocals = 3 := hml0
  have hown : s.vm.findClass "com/example/keyspace/keyspace/bench/Latencies" = some m.cls := findClass_of_methodNamed Bd.named
  have hnm := (name_of_methodNamed Bd.named Bd.method).1
  have X0 : Stand p l e ({ frames := 0, cells := 0, slots := 0, locals := 0 } : Room) s m #[(.ref a), (.ref b)] below meth c s₁ [] 0 0 := Stand.of_body Bd
  have e0 : s₁.heap = h0 := by rw [← hh, Bd.state]; rfl
  have N0 := Fr.nil n0
  have hlk : meth.locks = false := by first | exact BodyLoose.notSynchronized Bd | exact Body.notSynchronized Bd
  obtain ⟨G, hG⟩ : ∃ G : State → Prop, G = own_G p e below s ({ frames := 0, cells := 0, slots := 0, locals := 0 } : Room).cells ({ frames := 0, cells := 0, slots := 0, locals := 0 } : Room).slots ((own_Q_add Z h0 n0 a b ca es fs)) := ⟨_, rfl⟩
  have go : ∀ {S S' : State}, (∀ t, Steps p.tables e below S' t → Steps p.tables e below S t) → G S' → G S := by rw [hG]; exact own_to
  suffices hs : G (s₁.setTop (mkF m 0 #[.val (.ref a), .val (.ref b), .unset] [])) by
    rw [hG] at hs
    exact own_to (fun _ kont => castTop (own_ef_own_rm_add m a b) kont) hs
  have hlp : ∀ (k i : Nat), 55296 - i < k → i ≤ 55296 → ∀ (T' : State) (h' : Heap) (ls : List Loc), own_V Z h' ca .long (own_A (own_mix es fs i)) → Keep h0 h' [ca] → Fr n0 ls → Stand p l e ({ frames := 0, cells := 0, slots := 0, locals := 0 } : Room) s m #[(.ref a), (.ref b)] below meth c T' ls 0 0 → T'.heap = h' → G (T'.setTop (mkF m 2 #[.val (.ref a), .val (.ref b), .val (.int (Int32.ofNat i))] [])) := by
    intro k
    induction k with
    | zero => intro i hk; omega
    | succ k ih =>
      intro i hk hi T' h' ls Vz K' N' X' e'
      have Oa' := own_O_keep Oa K' (own_ni_1 hac)
      have Ob' := own_O_keep Ob K' (own_ni_1 hbc)
      have Vb' := own_V_keep Vb K' (own_ni_1 hcc)
      show G (T'.setTop (mkF m 2 #[.val (.ref a), .val (.ref b), .val (.int (Int32.ofNat i))] []))
      refine go (fun _ kont => XS.iloadN X'.here hx rfl (hb hby d_prog_4_method_3_2) rfl  kont) ?_
      show G (T'.setTop (mkF m 3 #[.val (.ref a), .val (.ref b), .val (.int (Int32.ofNat i))] [(.int (Int32.ofNat i))]))
      refine go (fun _ kont => X'.ldcInt hx hown (mvT hZ (hw _ (List.mem_of_getElem? (i := 9) rfl))) (g := (mkF m 3 #[.val (.ref a), .val (.ref b), .val (.int (Int32.ofNat i))] [(.int (Int32.ofNat i))])) rfl (hb hby d_prog_4_method_3_3) _ kont) ?_
      show G (T'.setTop (mkF m 5 #[.val (.ref a), .val (.ref b), .val (.int (Int32.ofNat i))] [(.int (55296 : Int32)), (.int (Int32.ofNat i))]))
      by_cases hc5 : (Int32.ofNat i) < (55296 : Int32)
      · refine go (fun _ kont => XS.icmpNo X'.here hx rfl (hb hby d_prog_4_method_3_5) rfl (tlt hc5).2.1 kont) ?_
        show G (T'.setTop (mkF m 8 #[.val (.ref a), .val (.ref b), .val (.int (Int32.ofNat i))] []))
        rw [show (Int32.ofNat i) < (55296 : Int32) ↔ i < 55296 from own_ltO (d := i) (k := 55296) (by omega) (by omega)] at hc5
        refine go (fun _ kont => XS.aloadN X'.here hx rfl (hb hby d_prog_4_method_3_8) rfl rfl kont) ?_
        show G (T'.setTop (mkF m 9 #[.val (.ref a), .val (.ref b), .val (.int (Int32.ofNat i))] [(.ref a)]))
        obtain ⟨T1, X1, e1, st1⟩ := getF X' hx hZ hown (host := "") (Or.inl (hw _ (List.mem_of_getElem? (i := 11) rfl))) Via.refl e' Oa'.2.1 (g := (mkF m 9 #[.val (.ref a), .val (.ref b), .val (.int (Int32.ofNat i))] [(.ref a)])) rfl rfl (hb hby d_prog_4_method_3_9)
        refine go st1 ?_
        show G (T1.setTop (mkF m 12 #[.val (.ref a), .val (.ref b), .val (.int (Int32.ofNat i))] [(.ref ca)]))
        refine go (fun _ kont => XS.iloadN X1.here hx rfl (hb hby d_prog_4_method_3_12) rfl  kont) ?_
        show G (T1.setTop (mkF m 13 #[.val (.ref a), .val (.ref b), .val (.int (Int32.ofNat i))] [(.int (Int32.ofNat i)), (.ref ca)]))
        refine go (fun _ kont => XT.dup2 X1.here hx rfl (hb hby d_prog_4_method_3_13) rfl rfl rfl kont) ?_
        show G (T1.setTop (mkF m 14 #[.val (.ref a), .val (.ref b), .val (.int (Int32.ofNat i))] [(.int (Int32.ofNat i)), (.ref ca), (.int (Int32.ofNat i)), (.ref ca)]))
        obtain ⟨cl1, Ar1, Sl1, Ml1⟩ := id Vz
        refine go (fun _ kont => X1.laload hx (j := (Int32.ofNat i)) (v := (.long (Int64.ofNat (es.count i)))) (by rw [e1]; exact Ar1.1) (State.isArrayOf_alike hZ.alike Ar1.2.1) Ar1.2.2 (own_hink Sl1 (own_neg (by rw [own_ofN (by omega)]; omega)) (own_tnO (by omega)) (k := i) (by rw [own_A_len]; omega)) (own_hatk Sl1 (own_tnO (by omega)) (own_mix_at hc5)) (g := (mkF m 14 #[.val (.ref a), .val (.ref b), .val (.int (Int32.ofNat i))] [(.int (Int32.ofNat i)), (.ref ca), (.int (Int32.ofNat i)), (.ref ca)])) rfl rfl (hb hby d_prog_4_method_3_14) _ kont) ?_
        show G (T1.setTop (mkF m 15 #[.val (.ref a), .val (.ref b), .val (.int (Int32.ofNat i))] [(.long (Int64.ofNat (es.count i))), (.int (Int32.ofNat i)), (.ref ca)]))
        refine go (fun _ kont => XS.aloadN X1.here hx rfl (hb hby d_prog_4_method_3_15) rfl rfl kont) ?_
        show G (T1.setTop (mkF m 16 #[.val (.ref a), .val (.ref b), .val (.int (Int32.ofNat i))] [(.ref b), (.long (Int64.ofNat (es.count i))), (.int (Int32.ofNat i)), (.ref ca)]))
        obtain ⟨T2, X2, e2, st2⟩ := getF X1 hx hZ hown (host := "") (Or.inl (hw _ (List.mem_of_getElem? (i := 11) rfl))) Via.refl e1 Ob'.2.1 (g := (mkF m 16 #[.val (.ref a), .val (.ref b), .val (.int (Int32.ofNat i))] [(.ref b), (.long (Int64.ofNat (es.count i))), (.int (Int32.ofNat i)), (.ref ca)])) rfl rfl (hb hby d_prog_4_method_3_16)
        refine go st2 ?_
        show G (T2.setTop (mkF m 19 #[.val (.ref a), .val (.ref b), .val (.int (Int32.ofNat i))] [(.ref cb), (.long (Int64.ofNat (es.count i))), (.int (Int32.ofNat i)), (.ref ca)]))
        refine go (fun _ kont => XS.iloadN X2.here hx rfl (hb hby d_prog_4_method_3_19) rfl  kont) ?_
        show G (T2.setTop (mkF m 20 #[.val (.ref a), .val (.ref b), .val (.int (Int32.ofNat i))] [(.int (Int32.ofNat i)), (.ref cb), (.long (Int64.ofNat (es.count i))), (.int (Int32.ofNat i)), (.ref ca)]))
        obtain ⟨cl2, Ar2, Sl2, Ml2⟩ := id Vb'
        refine go (fun _ kont => X2.laload hx (j := (Int32.ofNat i)) (v := (.long (Int64.ofNat (fs.count i)))) (by rw [e2]; exact Ar2.1) (State.isArrayOf_alike hZ.alike Ar2.2.1) Ar2.2.2 (own_hink Sl2 (own_neg (by rw [own_ofN (by omega)]; omega)) (own_tnO (by omega)) (k := i) (by rw [own_K_len]; omega)) (own_hatk Sl2 (own_tnO (by omega)) (own_K_at fs (k := i) hc5)) (g := (mkF m 20 #[.val (.ref a), .val (.ref b), .val (.int (Int32.ofNat i))] [(.int (Int32.ofNat i)), (.ref cb), (.long (Int64.ofNat (es.count i))), (.int (Int32.ofNat i)), (.ref ca)])) rfl rfl (hb hby d_prog_4_method_3_20) _ kont) ?_
        show G (T2.setTop (mkF m 21 #[.val (.ref a), .val (.ref b), .val (.int (Int32.ofNat i))] [(.long (Int64.ofNat (fs.count i))), (.long (Int64.ofNat (es.count i))), (.int (Int32.ofNat i)), (.ref ca)]))
        refine go (fun _ kont => XS.ladd X2.here hx rfl (hb hby d_prog_4_method_3_21) rfl kont) ?_
        show G (T2.setTop (mkF m 22 #[.val (.ref a), .val (.ref b), .val (.int (Int32.ofNat i))] [(.long ((Int64.ofNat (es.count i)) + (Int64.ofNat (fs.count i)))), (.int (Int32.ofNat i)), (.ref ca)]))
        rw [show ((Int64.ofNat (es.count i)) + (Int64.ofNat (fs.count i))) = (Int64.ofNat (es.count i + fs.count i)) from own_addJ (es.count i) (fs.count i)]
        show G (T2.setTop (mkF m 22 #[.val (.ref a), .val (.ref b), .val (.int (Int32.ofNat i))] [(.long (Int64.ofNat (es.count i + fs.count i))), (.int (Int32.ofNat i)), (.ref ca)]))
        obtain ⟨T3, h3, X3, e3, W3, st3⟩ := stJ X2 hx hZ e2 Ar1 (j := (Int32.ofNat i)) (own_hink Sl1 (own_neg (by rw [own_ofN (by omega)]; omega)) (own_tnO (by omega)) (k := i) (by rw [own_A_len]; omega)) (g := (mkF m 22 #[.val (.ref a), .val (.ref b), .val (.int (Int32.ofNat i))] [(.long (Int64.ofNat (es.count i + fs.count i))), (.int (Int32.ofNat i)), (.ref ca)])) rfl rfl (hb hby d_prog_4_method_3_22)
        refine go st3 ?_
        show G (T3.setTop (mkF m 23 #[.val (.ref a), .val (.ref b), .val (.int (Int32.ofNat i))] []))
        have VB : own_V Z h3 ca .long (own_A (own_mix es fs (i + 1))) := by rw [← own_mix_set hc5]; exact own_V_set Vz W3 (own_tnO (by omega))
        have KB := K'.wr W3 (Or.inl (List.mem_of_getElem? (i := 0) rfl))
        have N3 := Fr.snoc X3 N' gc
        refine go (fun _ kont => XS.iinc X3.here hx rfl (hb hby d_prog_4_method_3_23) rfl (l' := #[.val (.ref a), .val (.ref b), .val (.int ((Int32.ofNat i) + (1 : Int32)))]) rfl kont) ?_
        show G (T3.setTop (mkF m 26 #[.val (.ref a), .val (.ref b), .val (.int ((Int32.ofNat i) + (1 : Int32)))] []))
        refine go (fun _ kont => XS.goto X3.here hx rfl (pc0 := 26) (pc' := 2) rfl (hb hby d_prog_4_method_3_26) (by decide) (by decide) kont) ?_
        show G (T3.setTop (mkF m 2 #[.val (.ref a), .val (.ref b), .val (.int ((Int32.ofNat i) + (1 : Int32)))] []))
        rw [show (Int32.ofNat i) + (1 : Int32) = (Int32.ofNat (i + 1)) from own_addk i 1]
        exact ih (i + 1) (by omega) (by omega) _ _ _ VB KB N3 X3 e3
      · refine go (fun _ kont => XS.icmpYes X'.here hx rfl (pc0 := 5) (pc' := 29) rfl (hb hby d_prog_4_method_3_5) rfl (flt hc5).2.1 (by decide) (by decide) kont) ?_
        show G (T'.setTop (mkF m 29 #[.val (.ref a), .val (.ref b), .val (.int (Int32.ofNat i))] []))
        rw [show (Int32.ofNat i) < (55296 : Int32) ↔ i < 55296 from own_ltO (d := i) (k := 55296) (by omega) (by omega)] at hc5
        refine go (fun _ kont => XS.aloadN X'.here hx rfl (hb hby d_prog_4_method_3_29) rfl rfl kont) ?_
        show G (T'.setTop (mkF m 30 #[.val (.ref a), .val (.ref b), .val (.int (Int32.ofNat i))] [(.ref a)]))
        refine go (fun _ kont => XS.dup X'.here hx rfl (hb hby d_prog_4_method_3_30) rfl rfl kont) ?_
        show G (T'.setTop (mkF m 31 #[.val (.ref a), .val (.ref b), .val (.int (Int32.ofNat i))] [(.ref a), (.ref a)]))
        obtain ⟨T4, X4, e4, st4⟩ := getF X' hx hZ hown (host := "") (Or.inl (hw _ (List.mem_of_getElem? (i := 26) rfl))) Via.refl e' Oa'.2.2 (g := (mkF m 31 #[.val (.ref a), .val (.ref b), .val (.int (Int32.ofNat i))] [(.ref a), (.ref a)])) rfl rfl (hb hby d_prog_4_method_3_31)
        refine go st4 ?_
        show G (T4.setTop (mkF m 34 #[.val (.ref a), .val (.ref b), .val (.int (Int32.ofNat i))] [(.long (Int64.ofNat es.length)), (.ref a)]))
        refine go (fun _ kont => XS.aloadN X4.here hx rfl (hb hby d_prog_4_method_3_34) rfl rfl kont) ?_
        show G (T4.setTop (mkF m 35 #[.val (.ref a), .val (.ref b), .val (.int (Int32.ofNat i))] [(.ref b), (.long (Int64.ofNat es.length)), (.ref a)]))
        obtain ⟨T5, X5, e5, st5⟩ := getF X4 hx hZ hown (host := "") (Or.inl (hw _ (List.mem_of_getElem? (i := 26) rfl))) Via.refl e4 Ob'.2.2 (g := (mkF m 35 #[.val (.ref a), .val (.ref b), .val (.int (Int32.ofNat i))] [(.ref b), (.long (Int64.ofNat es.length)), (.ref a)])) rfl rfl (hb hby d_prog_4_method_3_35)
        refine go st5 ?_
        show G (T5.setTop (mkF m 38 #[.val (.ref a), .val (.ref b), .val (.int (Int32.ofNat i))] [(.long (Int64.ofNat fs.length)), (.long (Int64.ofNat es.length)), (.ref a)]))
        refine go (fun _ kont => XS.ladd X5.here hx rfl (hb hby d_prog_4_method_3_38) rfl kont) ?_
        show G (T5.setTop (mkF m 39 #[.val (.ref a), .val (.ref b), .val (.int (Int32.ofNat i))] [(.long ((Int64.ofNat es.length) + (Int64.ofNat fs.length))), (.ref a)]))
        rw [show ((Int64.ofNat es.length) + (Int64.ofNat fs.length)) = (Int64.ofNat (es.length + fs.length)) from own_addJ es.length fs.length]
        show G (T5.setTop (mkF m 39 #[.val (.ref a), .val (.ref b), .val (.int (Int32.ofNat i))] [(.long (Int64.ofNat (es.length + fs.length))), (.ref a)]))
        obtain ⟨T6, h6, X6, e6, W6, st6⟩ := putF X5 hx hZ hown (host := "") (Or.inl (hw _ (List.mem_of_getElem? (i := 26) rfl))) Via.refl e5 Oa'.2.2 Oa'.1 (Or.inl (hw _ (List.mem_of_getElem? (i := 27) rfl))) (hw _ (List.mem_of_getElem? (i := 1) rfl)) (ty := .long) (by decide) rfl rfl (g := (mkF m 39 #[.val (.ref a), .val (.ref b), .val (.int (Int32.ofNat i))] [(.long (Int64.ofNat (es.length + fs.length))), (.ref a)])) rfl rfl (hb hby d_prog_4_method_3_39)
        refine go st6 ?_
        show G (T6.setTop (mkF m 42 #[.val (.ref a), .val (.ref b), .val (.int (Int32.ofNat i))] []))
        have OC := own_O_total hw Oa' W6
        have VC := own_V_other Vz W6 (Ne.symm hac)
        rw [own_mix_end hc5] at VC
        have KC := ((Keep.refl h0 [a, ca]).trans K' (own_sub_1 (Or.inl (List.mem_of_getElem? (i := 1) rfl)))).wr W6 (Or.inl (List.mem_of_getElem? (i := 0) rfl))
        have N6 := Fr.snoc X6 N' ga
        rw [hG]
        exact own_retV X6 hx Bd.returns (hb hby d_prog_4_method_3_42) hlk (by decide) (by decide) (by rw [e6]; exact ⟨rfl, N6, KC, OC, VC⟩)
  refine go (fun _ kont => XS.iconst X0.here hx rfl (hb hby d_prog_4_method_3_0) kont) ?_
  show G (s₁.setTop (mkF m 1 #[.val (.ref a), .val (.ref b), .unset] [(.int (0 : Int32))]))
  refine go (fun _ kont => XS.istoreN X0.here hx rfl (hb hby d_prog_4_method_3_1) rfl (l' := #[.val (.ref a), .val (.ref b), .val (.int (0 : Int32))]) rfl kont) ?_
  show G (s₁.setTop (mkF m 2 #[.val (.ref a), .val (.ref b), .val (.int (0 : Int32))] []))
  exact hlp 55297 0 (by omega) (by omega) _ _ _ (by rw [own_mix_0]; exact Va) (Keep.refl h0 [ca]) N0 X0 e0
theorem own_ef_own_rm_mid (m : MethodId) (x0 : Int32) : entryFrame m #[(.int x0)] 6 = mkF m 0 #[.val (.int x0), .unset, .unset, .unset, .unset, .unset] [] := by first | (simp [entryFrame, mkF, argsToLocals, Value.category]; done) | rfl
set_option maxRecDepth 65536 in
set_option maxHeartbeats 40000000 in
theorem own_rm_mid (l : Launch) (Z : State) (a0 : Array Value) (hw : ∀ d ∈ tables_1, d.before a0 Z = true) (ws : List Jvm.Cond) (v : Int32) (h0 : Heap) (n0 : Nat) (Z0 : n0 ≤ h0.size)  :
    MetFree l (⟨"com/example/keyspace/keyspace/bench/Latencies", "middle", "(I)J"⟩ : MethodName) (head1 (Jvm.Cond.code (⟨"com/example/keyspace/keyspace/bench/Latencies", "middle", "(I)J"⟩ : MethodName) prog_4_method_6_code 6 (some .long) :: ws) ({ frames := 0, cells := 0, slots := 0, locals := 0 } : Room)) (fun aq Uq => aq = #[(.int v)] ∧ Z.Warmed39 Uq.vm ∧ Uq.heap = h0) (fun _ _ _ _ _ => True) (fun _ Uq oq Uq' => ∃ vq Lq, oq = .returned vq ∧ (own_Qp (some (.long (own_mid v))) h0 n0) vq Uq'.heap Lq ∧ FrameEnd Uq oq Uq' Lq ({ frames := 0, cells := 0, slots := 0, locals := 0 } : Room).cells ({ frames := 0, cells := 0, slots := 0, locals := 0 } : Room).slots) := by
  refine MetFree.of_bodySF (plainFor_of_name own_pn3) hisR ?_
  intro p e s m args below meth c s₁ Bd hml0 hP hK
  obtain ⟨rfl, hZ, hh⟩ := hP
  have hx := Bd.exec
  have hby := Bd.bytes
  have hml : c.maxLocals = 6 := hml0
  have hown : s.vm.findClass "com/example/keyspace/keyspace/bench/Latencies" = some m.cls := findClass_of_methodNamed Bd.named
  have hnm := (name_of_methodNamed Bd.named Bd.method).1
  have X0 : Stand p l e ({ frames := 0, cells := 0, slots := 0, locals := 0 } : Room) s m #[(.int v)] below meth c s₁ [] 0 0 := Stand.of_body Bd
  have e0 : s₁.heap = h0 := by rw [← hh, Bd.state]; rfl
  have N0 := Fr.nil n0
  have hlk : meth.locks = false := by first | exact BodyLoose.notSynchronized Bd | exact Body.notSynchronized Bd
  obtain ⟨G, hG⟩ : ∃ G : State → Prop, G = own_G p e below s ({ frames := 0, cells := 0, slots := 0, locals := 0 } : Room).cells ({ frames := 0, cells := 0, slots := 0, locals := 0 } : Room).slots ((own_Qp (some (.long (own_mid v))) h0 n0)) := ⟨_, rfl⟩
  have go : ∀ {S S' : State}, (∀ t, Steps p.tables e below S' t → Steps p.tables e below S t) → G S' → G S := by rw [hG]; exact own_to
  suffices hs : G (s₁.setTop (mkF m 0 #[.val (.int v), .unset, .unset, .unset, .unset, .unset] [])) by
    rw [hG] at hs
    exact own_to (fun _ kont => castTop (own_ef_own_rm_mid m v) kont) hs
  refine go (fun _ kont => XS.iloadN X0.here hx rfl (hb hby d_prog_4_method_6_0) rfl  kont) ?_
  show G (s₁.setTop (mkF m 1 #[.val (.int v), .unset, .unset, .unset, .unset, .unset] [(.int v)]))
  refine go (fun _ kont => XS.i2l X0.here hx rfl (hb hby d_prog_4_method_6_1) rfl kont) ?_
  show G (s₁.setTop (mkF m 2 #[.val (.int v), .unset, .unset, .unset, .unset, .unset] [(.long v.toInt64)]))
  refine go (fun _ kont => X0.ldc2Long hx hown (mvT hZ (hw _ (List.mem_of_getElem? (i := 25) rfl))) (g := (mkF m 2 #[.val (.int v), .unset, .unset, .unset, .unset, .unset] [(.long v.toInt64)])) rfl (hb hby d_prog_4_method_6_2) _ kont) ?_
  show G (s₁.setTop (mkF m 5 #[.val (.int v), .unset, .unset, .unset, .unset, .unset] [(.long (2048 : Int64)), (.long v.toInt64)]))
  refine go (fun _ kont => XS.lcmp X0.here hx rfl (hb hby d_prog_4_method_6_5) rfl kont) ?_
  show G (s₁.setTop (mkF m 6 #[.val (.int v), .unset, .unset, .unset, .unset, .unset] [(.int (lcmpW v.toInt64 (2048 : Int64)))]))
  by_cases hc6 : v.toInt64 < (2048 : Int64)
  · refine go (fun _ kont => XS.ifNo X0.here hx rfl (hb hby d_prog_4_method_6_6) rfl ((if0 _ _).trans (tlt ((lw_lt _ _).mpr hc6)).2.1) kont) ?_
    show G (s₁.setTop (mkF m 9 #[.val (.int v), .unset, .unset, .unset, .unset, .unset] []))
    refine go (fun _ kont => XS.iloadN X0.here hx rfl (hb hby d_prog_4_method_6_9) rfl  kont) ?_
    show G (s₁.setTop (mkF m 10 #[.val (.int v), .unset, .unset, .unset, .unset, .unset] [(.int v)]))
    refine go (fun _ kont => XS.i2l X0.here hx rfl (hb hby d_prog_4_method_6_10) rfl kont) ?_
    show G (s₁.setTop (mkF m 11 #[.val (.int v), .unset, .unset, .unset, .unset, .unset] [(.long v.toInt64)]))
    refine go (fun _ kont => XS.lstoreN X0.here hx rfl (hb hby d_prog_4_method_6_11) rfl (l' := #[.val (.int v), .val (.long v.toInt64), .second, .unset, .unset, .unset]) rfl kont) ?_
    show G (s₁.setTop (mkF m 12 #[.val (.int v), .val (.long v.toInt64), .second, .unset, .unset, .unset] []))
    refine go (fun _ kont => XS.goto X0.here hx rfl (pc0 := 12) (pc' := 48) rfl (hb hby d_prog_4_method_6_12) (by decide) (by decide) kont) ?_
    show G (s₁.setTop (mkF m 48 #[.val (.int v), .val (.long v.toInt64), .second, .unset, .unset, .unset] []))
    refine go (fun _ kont => XS.lloadN X0.here hx rfl (hb hby d_prog_4_method_6_48) rfl  kont) ?_
    show G (s₁.setTop (mkF m 49 #[.val (.int v), .val (.long v.toInt64), .second, .unset, .unset, .unset] [(.long v.toInt64)]))
    rw [hG]
    exact own_retJ X0 hx Bd.returns (hb hby d_prog_4_method_6_49) hlk (by decide) (by decide) ⟨by rw [own_mid, if_pos hc6], N0, e0⟩
  · refine go (fun _ kont => XS.ifYes X0.here hx rfl (pc0 := 6) (pc' := 15) rfl (hb hby d_prog_4_method_6_6) rfl ((if0 _ _).trans (flt (mt (lw_lt _ _).mp hc6)).2.1) (by decide) (by decide) kont) ?_
    show G (s₁.setTop (mkF m 15 #[.val (.int v), .unset, .unset, .unset, .unset, .unset] []))
    refine go (fun _ kont => XS.iloadN X0.here hx rfl (hb hby d_prog_4_method_6_15) rfl  kont) ?_
    show G (s₁.setTop (mkF m 16 #[.val (.int v), .unset, .unset, .unset, .unset, .unset] [(.int v)]))
    refine go (fun _ kont => XS.sipush X0.here hx rfl (hb hby d_prog_4_method_6_16) kont) ?_
    show G (s₁.setTop (mkF m 19 #[.val (.int v), .unset, .unset, .unset, .unset, .unset] [(.int (1024 : Int32)), (.int v)]))
    refine go (fun _ kont => XS.idiv X0.here hx rfl (hb hby d_prog_4_method_6_19) rfl (by decide) kont) ?_
    show G (s₁.setTop (mkF m 20 #[.val (.int v), .unset, .unset, .unset, .unset, .unset] [(.int (v / (1024 : Int32)))]))
    refine go (fun _ kont => XS.iconst X0.here hx rfl (hb hby d_prog_4_method_6_20) kont) ?_
    show G (s₁.setTop (mkF m 21 #[.val (.int v), .unset, .unset, .unset, .unset, .unset] [(.int (1 : Int32)), (.int (v / (1024 : Int32)))]))
    refine go (fun _ kont => XS.isub X0.here hx rfl (hb hby d_prog_4_method_6_21) rfl kont) ?_
    show G (s₁.setTop (mkF m 22 #[.val (.int v), .unset, .unset, .unset, .unset, .unset] [(.int ((v / (1024 : Int32)) - (1 : Int32)))]))
    refine go (fun _ kont => XS.istoreN X0.here hx rfl (hb hby d_prog_4_method_6_22) rfl (l' := #[.val (.int v), .unset, .unset, .val (.int ((v / (1024 : Int32)) - (1 : Int32))), .unset, .unset]) rfl kont) ?_
    show G (s₁.setTop (mkF m 23 #[.val (.int v), .unset, .unset, .val (.int ((v / (1024 : Int32)) - (1 : Int32))), .unset, .unset] []))
    refine go (fun _ kont => XS.iloadN X0.here hx rfl (hb hby d_prog_4_method_6_23) rfl  kont) ?_
    show G (s₁.setTop (mkF m 24 #[.val (.int v), .unset, .unset, .val (.int ((v / (1024 : Int32)) - (1 : Int32))), .unset, .unset] [(.int v)]))
    refine go (fun _ kont => XS.sipush X0.here hx rfl (hb hby d_prog_4_method_6_24) kont) ?_
    show G (s₁.setTop (mkF m 27 #[.val (.int v), .unset, .unset, .val (.int ((v / (1024 : Int32)) - (1 : Int32))), .unset, .unset] [(.int (1024 : Int32)), (.int v)]))
    refine go (fun _ kont => XS.irem X0.here hx rfl (hb hby d_prog_4_method_6_27) rfl (by decide) kont) ?_
    show G (s₁.setTop (mkF m 28 #[.val (.int v), .unset, .unset, .val (.int ((v / (1024 : Int32)) - (1 : Int32))), .unset, .unset] [(.int (v - (v / (1024 : Int32)) * (1024 : Int32)))]))
    refine go (fun _ kont => XS.sipush X0.here hx rfl (hb hby d_prog_4_method_6_28) kont) ?_
    show G (s₁.setTop (mkF m 31 #[.val (.int v), .unset, .unset, .val (.int ((v / (1024 : Int32)) - (1 : Int32))), .unset, .unset] [(.int (1024 : Int32)), (.int (v - (v / (1024 : Int32)) * (1024 : Int32)))]))
    refine go (fun _ kont => XS.iadd X0.here hx rfl (hb hby d_prog_4_method_6_31) rfl kont) ?_
    show G (s₁.setTop (mkF m 32 #[.val (.int v), .unset, .unset, .val (.int ((v / (1024 : Int32)) - (1 : Int32))), .unset, .unset] [(.int ((v - (v / (1024 : Int32)) * (1024 : Int32)) + (1024 : Int32)))]))
    refine go (fun _ kont => XS.i2l X0.here hx rfl (hb hby d_prog_4_method_6_32) rfl kont) ?_
    show G (s₁.setTop (mkF m 33 #[.val (.int v), .unset, .unset, .val (.int ((v / (1024 : Int32)) - (1 : Int32))), .unset, .unset] [(.long ((v - (v / (1024 : Int32)) * (1024 : Int32)) + (1024 : Int32)).toInt64)]))
    refine go (fun _ kont => XS.iloadN X0.here hx rfl (hb hby d_prog_4_method_6_33) rfl  kont) ?_
    show G (s₁.setTop (mkF m 34 #[.val (.int v), .unset, .unset, .val (.int ((v / (1024 : Int32)) - (1 : Int32))), .unset, .unset] [(.int ((v / (1024 : Int32)) - (1 : Int32))), (.long ((v - (v / (1024 : Int32)) * (1024 : Int32)) + (1024 : Int32)).toInt64)]))
    refine go (fun _ kont => XS.lshl X0.here hx rfl (hb hby d_prog_4_method_6_34) rfl kont) ?_
    show G (s₁.setTop (mkF m 35 #[.val (.int v), .unset, .unset, .val (.int ((v / (1024 : Int32)) - (1 : Int32))), .unset, .unset] [(.long ((((v - (v / (1024 : Int32)) * (1024 : Int32)) + (1024 : Int32)).toInt64) <<< (((v / (1024 : Int32)) - (1 : Int32)) &&& 0x3f).toInt64))]))
    refine go (fun _ kont => XS.lstore X0.here hx rfl (hb hby d_prog_4_method_6_35) rfl (l' := #[.val (.int v), .unset, .unset, .val (.int ((v / (1024 : Int32)) - (1 : Int32))), .val (.long ((((v - (v / (1024 : Int32)) * (1024 : Int32)) + (1024 : Int32)).toInt64) <<< (((v / (1024 : Int32)) - (1 : Int32)) &&& 0x3f).toInt64)), .second]) rfl kont) ?_
    show G (s₁.setTop (mkF m 37 #[.val (.int v), .unset, .unset, .val (.int ((v / (1024 : Int32)) - (1 : Int32))), .val (.long ((((v - (v / (1024 : Int32)) * (1024 : Int32)) + (1024 : Int32)).toInt64) <<< (((v / (1024 : Int32)) - (1 : Int32)) &&& 0x3f).toInt64)), .second] []))
    refine go (fun _ kont => XS.lload X0.here hx rfl (hb hby d_prog_4_method_6_37) rfl  kont) ?_
    show G (s₁.setTop (mkF m 39 #[.val (.int v), .unset, .unset, .val (.int ((v / (1024 : Int32)) - (1 : Int32))), .val (.long ((((v - (v / (1024 : Int32)) * (1024 : Int32)) + (1024 : Int32)).toInt64) <<< (((v / (1024 : Int32)) - (1 : Int32)) &&& 0x3f).toInt64)), .second] [(.long ((((v - (v / (1024 : Int32)) * (1024 : Int32)) + (1024 : Int32)).toInt64) <<< (((v / (1024 : Int32)) - (1 : Int32)) &&& 0x3f).toInt64))]))
    refine go (fun _ kont => XS.lconst X0.here hx rfl (hb hby d_prog_4_method_6_39) kont) ?_
    show G (s₁.setTop (mkF m 40 #[.val (.int v), .unset, .unset, .val (.int ((v / (1024 : Int32)) - (1 : Int32))), .val (.long ((((v - (v / (1024 : Int32)) * (1024 : Int32)) + (1024 : Int32)).toInt64) <<< (((v / (1024 : Int32)) - (1 : Int32)) &&& 0x3f).toInt64)), .second] [(.long (1 : Int64)), (.long ((((v - (v / (1024 : Int32)) * (1024 : Int32)) + (1024 : Int32)).toInt64) <<< (((v / (1024 : Int32)) - (1 : Int32)) &&& 0x3f).toInt64))]))
    refine go (fun _ kont => XS.iloadN X0.here hx rfl (hb hby d_prog_4_method_6_40) rfl  kont) ?_
    show G (s₁.setTop (mkF m 41 #[.val (.int v), .unset, .unset, .val (.int ((v / (1024 : Int32)) - (1 : Int32))), .val (.long ((((v - (v / (1024 : Int32)) * (1024 : Int32)) + (1024 : Int32)).toInt64) <<< (((v / (1024 : Int32)) - (1 : Int32)) &&& 0x3f).toInt64)), .second] [(.int ((v / (1024 : Int32)) - (1 : Int32))), (.long (1 : Int64)), (.long ((((v - (v / (1024 : Int32)) * (1024 : Int32)) + (1024 : Int32)).toInt64) <<< (((v / (1024 : Int32)) - (1 : Int32)) &&& 0x3f).toInt64))]))
    refine go (fun _ kont => XS.lshl X0.here hx rfl (hb hby d_prog_4_method_6_41) rfl kont) ?_
    show G (s₁.setTop (mkF m 42 #[.val (.int v), .unset, .unset, .val (.int ((v / (1024 : Int32)) - (1 : Int32))), .val (.long ((((v - (v / (1024 : Int32)) * (1024 : Int32)) + (1024 : Int32)).toInt64) <<< (((v / (1024 : Int32)) - (1 : Int32)) &&& 0x3f).toInt64)), .second] [(.long ((1 : Int64) <<< (((v / (1024 : Int32)) - (1 : Int32)) &&& 0x3f).toInt64)), (.long ((((v - (v / (1024 : Int32)) * (1024 : Int32)) + (1024 : Int32)).toInt64) <<< (((v / (1024 : Int32)) - (1 : Int32)) &&& 0x3f).toInt64))]))
    refine go (fun _ kont => X0.ldc2Long hx hown (mvT hZ (hw _ (List.mem_of_getElem? (i := 75) rfl))) (g := (mkF m 42 #[.val (.int v), .unset, .unset, .val (.int ((v / (1024 : Int32)) - (1 : Int32))), .val (.long ((((v - (v / (1024 : Int32)) * (1024 : Int32)) + (1024 : Int32)).toInt64) <<< (((v / (1024 : Int32)) - (1 : Int32)) &&& 0x3f).toInt64)), .second] [(.long ((1 : Int64) <<< (((v / (1024 : Int32)) - (1 : Int32)) &&& 0x3f).toInt64)), (.long ((((v - (v / (1024 : Int32)) * (1024 : Int32)) + (1024 : Int32)).toInt64) <<< (((v / (1024 : Int32)) - (1 : Int32)) &&& 0x3f).toInt64))])) rfl (hb hby d_prog_4_method_6_42) _ kont) ?_
    show G (s₁.setTop (mkF m 45 #[.val (.int v), .unset, .unset, .val (.int ((v / (1024 : Int32)) - (1 : Int32))), .val (.long ((((v - (v / (1024 : Int32)) * (1024 : Int32)) + (1024 : Int32)).toInt64) <<< (((v / (1024 : Int32)) - (1 : Int32)) &&& 0x3f).toInt64)), .second] [(.long (2 : Int64)), (.long ((1 : Int64) <<< (((v / (1024 : Int32)) - (1 : Int32)) &&& 0x3f).toInt64)), (.long ((((v - (v / (1024 : Int32)) * (1024 : Int32)) + (1024 : Int32)).toInt64) <<< (((v / (1024 : Int32)) - (1 : Int32)) &&& 0x3f).toInt64))]))
    refine go (fun _ kont => XS.ldiv X0.here hx rfl (hb hby d_prog_4_method_6_45) rfl (by decide) kont) ?_
    show G (s₁.setTop (mkF m 46 #[.val (.int v), .unset, .unset, .val (.int ((v / (1024 : Int32)) - (1 : Int32))), .val (.long ((((v - (v / (1024 : Int32)) * (1024 : Int32)) + (1024 : Int32)).toInt64) <<< (((v / (1024 : Int32)) - (1 : Int32)) &&& 0x3f).toInt64)), .second] [(.long (((1 : Int64) <<< (((v / (1024 : Int32)) - (1 : Int32)) &&& 0x3f).toInt64) / (2 : Int64))), (.long ((((v - (v / (1024 : Int32)) * (1024 : Int32)) + (1024 : Int32)).toInt64) <<< (((v / (1024 : Int32)) - (1 : Int32)) &&& 0x3f).toInt64))]))
    refine go (fun _ kont => XS.ladd X0.here hx rfl (hb hby d_prog_4_method_6_46) rfl kont) ?_
    show G (s₁.setTop (mkF m 47 #[.val (.int v), .unset, .unset, .val (.int ((v / (1024 : Int32)) - (1 : Int32))), .val (.long ((((v - (v / (1024 : Int32)) * (1024 : Int32)) + (1024 : Int32)).toInt64) <<< (((v / (1024 : Int32)) - (1 : Int32)) &&& 0x3f).toInt64)), .second] [(.long (((((v - (v / (1024 : Int32)) * (1024 : Int32)) + (1024 : Int32)).toInt64) <<< (((v / (1024 : Int32)) - (1 : Int32)) &&& 0x3f).toInt64) + (((1 : Int64) <<< (((v / (1024 : Int32)) - (1 : Int32)) &&& 0x3f).toInt64) / (2 : Int64))))]))
    refine go (fun _ kont => XS.lstoreN X0.here hx rfl (hb hby d_prog_4_method_6_47) rfl (l' := #[.val (.int v), .val (.long (((((v - (v / (1024 : Int32)) * (1024 : Int32)) + (1024 : Int32)).toInt64) <<< (((v / (1024 : Int32)) - (1 : Int32)) &&& 0x3f).toInt64) + (((1 : Int64) <<< (((v / (1024 : Int32)) - (1 : Int32)) &&& 0x3f).toInt64) / (2 : Int64)))), .second, .val (.int ((v / (1024 : Int32)) - (1 : Int32))), .val (.long ((((v - (v / (1024 : Int32)) * (1024 : Int32)) + (1024 : Int32)).toInt64) <<< (((v / (1024 : Int32)) - (1 : Int32)) &&& 0x3f).toInt64)), .second]) rfl kont) ?_
    show G (s₁.setTop (mkF m 48 #[.val (.int v), .val (.long (((((v - (v / (1024 : Int32)) * (1024 : Int32)) + (1024 : Int32)).toInt64) <<< (((v / (1024 : Int32)) - (1 : Int32)) &&& 0x3f).toInt64) + (((1 : Int64) <<< (((v / (1024 : Int32)) - (1 : Int32)) &&& 0x3f).toInt64) / (2 : Int64)))), .second, .val (.int ((v / (1024 : Int32)) - (1 : Int32))), .val (.long ((((v - (v / (1024 : Int32)) * (1024 : Int32)) + (1024 : Int32)).toInt64) <<< (((v / (1024 : Int32)) - (1 : Int32)) &&& 0x3f).toInt64)), .second] []))
    refine go (fun _ kont => XS.lloadN X0.here hx rfl (hb hby d_prog_4_method_6_48) rfl  kont) ?_
    show G (s₁.setTop (mkF m 49 #[.val (.int v), .val (.long (((((v - (v / (1024 : Int32)) * (1024 : Int32)) + (1024 : Int32)).toInt64) <<< (((v / (1024 : Int32)) - (1 : Int32)) &&& 0x3f).toInt64) + (((1 : Int64) <<< (((v / (1024 : Int32)) - (1 : Int32)) &&& 0x3f).toInt64) / (2 : Int64)))), .second, .val (.int ((v / (1024 : Int32)) - (1 : Int32))), .val (.long ((((v - (v / (1024 : Int32)) * (1024 : Int32)) + (1024 : Int32)).toInt64) <<< (((v / (1024 : Int32)) - (1 : Int32)) &&& 0x3f).toInt64)), .second] [(.long (((((v - (v / (1024 : Int32)) * (1024 : Int32)) + (1024 : Int32)).toInt64) <<< (((v / (1024 : Int32)) - (1 : Int32)) &&& 0x3f).toInt64) + (((1 : Int64) <<< (((v / (1024 : Int32)) - (1 : Int32)) &&& 0x3f).toInt64) / (2 : Int64))))]))
    rw [hG]
    exact own_retJ X0 hx Bd.returns (hb hby d_prog_4_method_6_49) hlk (by decide) (by decide) ⟨by rw [own_mid, if_neg hc6], N0, e0⟩
theorem own_ef_own_rm_pct (m : MethodId) (x0 : Addr) (x1 : UInt64) : entryFrame m #[(.ref x0), (.double x1)] 8 = mkF m 0 #[.val (.ref x0), .val (.double x1), .second, .unset, .unset, .unset, .unset, .unset] [] := by first | (simp [entryFrame, mkF, argsToLocals, Value.category]; done) | rfl
set_option maxRecDepth 65536 in
set_option maxHeartbeats 40000000 in
theorem own_rm_pct (l : Launch) (Z : State) (a0 : Array Value) (hw : ∀ d ∈ tables_1, d.before a0 Z = true) (ws : List Jvm.Cond) (a : Addr) (bb : UInt64) (h0 : Heap) (n0 : Nat) (Z0 : n0 ≤ h0.size) (ct : Addr) (zs : List Nat) (rk i : Nat) (ht : zs.length ≤ 3) (O : own_O Z h0 a ct zs.length) (VA : own_V Z h0 ct .long (own_K zs)) (hall : ∀ e ∈ zs, e < 55296) (hok : own_ok bb zs.length rk) (hi : own_isp zs rk i) (hi55 : i ≤ 55296) (S : Sta Z h0 "java/lang/StrictMath" "$assertionsDisabled" "Z" (.int 1)) :
    MetFree l (⟨"com/example/keyspace/keyspace/bench/Latencies", "percentile", "(D)J"⟩ : MethodName) (head1 (Jvm.Cond.code (⟨"com/example/keyspace/keyspace/bench/Latencies", "percentile", "(D)J"⟩ : MethodName) prog_4_method_4_code 8 (some .long) :: ws) ({ frames := 7, cells := 0, slots := 0, locals := 17 } : Room)) (fun aq Uq => aq = #[(.ref a), (.double bb)] ∧ Z.Warmed39 Uq.vm ∧ Uq.heap = h0) (fun _ _ _ _ _ => True) (fun _ Uq oq Uq' => ∃ vq Lq, oq = .returned vq ∧ (own_Qp (some (.long (own_pv i))) h0 n0) vq Uq'.heap Lq ∧ FrameEnd Uq oq Uq' Lq ({ frames := 7, cells := 0, slots := 0, locals := 17 } : Room).cells ({ frames := 7, cells := 0, slots := 0, locals := 17 } : Room).slots) := by
  refine MetFree.of_bodySF (plainFor_of_name own_pn3) hisR ?_
  intro p e s m args below meth c s₁ Bd hml0 hP hK
  obtain ⟨rfl, hZ, hh⟩ := hP
  have hx := Bd.exec
  have hby := Bd.bytes
  have hml : c.maxLocals = 8 := hml0
  have hown : s.vm.findClass "com/example/keyspace/keyspace/bench/Latencies" = some m.cls := findClass_of_methodNamed Bd.named
  have hnm := (name_of_methodNamed Bd.named Bd.method).1
  have X0 : Stand p l e ({ frames := 7, cells := 0, slots := 0, locals := 17 } : Room) s m #[(.ref a), (.double bb)] below meth c s₁ [] 0 0 := Stand.of_body Bd
  have e0 : s₁.heap = h0 := by rw [← hh, Bd.state]; rfl
  have N0 := Fr.nil n0
  have hlk : meth.locks = false := by first | exact BodyLoose.notSynchronized Bd | exact Body.notSynchronized Bd
  obtain ⟨G, hG⟩ : ∃ G : State → Prop, G = own_G p e below s ({ frames := 7, cells := 0, slots := 0, locals := 17 } : Room).cells ({ frames := 7, cells := 0, slots := 0, locals := 17 } : Room).slots ((own_Qp (some (.long (own_pv i))) h0 n0)) := ⟨_, rfl⟩
  have go : ∀ {S S' : State}, (∀ t, Steps p.tables e below S' t → Steps p.tables e below S t) → G S' → G S := by rw [hG]; exact own_to
  suffices hs : G (s₁.setTop (mkF m 0 #[.val (.ref a), .val (.double bb), .second, .unset, .unset, .unset, .unset, .unset] [])) by
    rw [hG] at hs
    exact own_to (fun _ kont => castTop (own_ef_own_rm_pct m a bb) kont) hs
  obtain ⟨ok1, ok2, ok3, ok4, ok5, ok6⟩ := hok
  obtain ⟨cl, Ar, Sl, Ml⟩ := id VA
  have htot := own_S_tot (n := 55296) hall
  have hlp : ∀ (k j : Nat), i - j < k → j ≤ i → ∀ (T' : State), Stand p l e ({ frames := 7, cells := 0, slots := 0, locals := 17 } : Room) s m #[(.ref a), (.double bb)] below meth c T' [] 0 0 → T'.heap = h0 → G (T'.setTop (mkF m 22 #[.val (.ref a), .val (.double bb), .second, .val (.long (Int64.ofNat rk)), .second, .val (.long (Int64.ofNat (own_S (fun j => zs.count j) j))), .second, .val (.int (Int32.ofNat j))] [])) := by
    intro k
    induction k with
    | zero => intro j hk; omega
    | succ k ih =>
      intro j hk hj T' X' e'
      have hSj : own_S (fun j => zs.count j) j ≤ 3 := Nat.le_trans (own_S_le (f := (fun j => zs.count j)) (i := j) (n := 55296) (by omega)) (by rw [htot]; exact ht)
      show G (T'.setTop (mkF m 22 #[.val (.ref a), .val (.double bb), .second, .val (.long (Int64.ofNat rk)), .second, .val (.long (Int64.ofNat (own_S (fun j => zs.count j) j))), .second, .val (.int (Int32.ofNat j))] []))
      refine go (fun _ kont => XS.lload X'.here hx rfl (hb hby d_prog_4_method_4_22) rfl  kont) ?_
      show G (T'.setTop (mkF m 24 #[.val (.ref a), .val (.double bb), .second, .val (.long (Int64.ofNat rk)), .second, .val (.long (Int64.ofNat (own_S (fun j => zs.count j) j))), .second, .val (.int (Int32.ofNat j))] [(.long (Int64.ofNat (own_S (fun j => zs.count j) j)))]))
      refine go (fun _ kont => XS.lloadN X'.here hx rfl (hb hby d_prog_4_method_4_24) rfl  kont) ?_
      show G (T'.setTop (mkF m 25 #[.val (.ref a), .val (.double bb), .second, .val (.long (Int64.ofNat rk)), .second, .val (.long (Int64.ofNat (own_S (fun j => zs.count j) j))), .second, .val (.int (Int32.ofNat j))] [(.long (Int64.ofNat rk)), (.long (Int64.ofNat (own_S (fun j => zs.count j) j)))]))
      refine go (fun _ kont => XS.lcmp X'.here hx rfl (hb hby d_prog_4_method_4_25) rfl kont) ?_
      show G (T'.setTop (mkF m 26 #[.val (.ref a), .val (.double bb), .second, .val (.long (Int64.ofNat rk)), .second, .val (.long (Int64.ofNat (own_S (fun j => zs.count j) j))), .second, .val (.int (Int32.ofNat j))] [(.int (lcmpW (Int64.ofNat (own_S (fun j => zs.count j) j)) (Int64.ofNat rk)))]))
      by_cases hc26 : (Int64.ofNat (own_S (fun j => zs.count j) j)) < (Int64.ofNat rk)
      · refine go (fun _ kont => XS.ifNo X'.here hx rfl (hb hby d_prog_4_method_4_26) rfl ((if0 _ _).trans (tlt ((lw_lt _ _).mpr hc26)).2.1) kont) ?_
        show G (T'.setTop (mkF m 29 #[.val (.ref a), .val (.double bb), .second, .val (.long (Int64.ofNat rk)), .second, .val (.long (Int64.ofNat (own_S (fun j => zs.count j) j))), .second, .val (.int (Int32.ofNat j))] []))
        rw [own_ltJ64 (by omega) (by omega)] at hc26
        refine go (fun _ kont => XS.lload X'.here hx rfl (hb hby d_prog_4_method_4_29) rfl  kont) ?_
        show G (T'.setTop (mkF m 31 #[.val (.ref a), .val (.double bb), .second, .val (.long (Int64.ofNat rk)), .second, .val (.long (Int64.ofNat (own_S (fun j => zs.count j) j))), .second, .val (.int (Int32.ofNat j))] [(.long (Int64.ofNat (own_S (fun j => zs.count j) j)))]))
        refine go (fun _ kont => XS.aloadN X'.here hx rfl (hb hby d_prog_4_method_4_31) rfl rfl kont) ?_
        show G (T'.setTop (mkF m 32 #[.val (.ref a), .val (.double bb), .second, .val (.long (Int64.ofNat rk)), .second, .val (.long (Int64.ofNat (own_S (fun j => zs.count j) j))), .second, .val (.int (Int32.ofNat j))] [(.ref a), (.long (Int64.ofNat (own_S (fun j => zs.count j) j)))]))
        obtain ⟨T1, X1, e1, st1⟩ := getF X' hx hZ hown (host := "") (Or.inl (hw _ (List.mem_of_getElem? (i := 11) rfl))) Via.refl e' O.2.1 (g := (mkF m 32 #[.val (.ref a), .val (.double bb), .second, .val (.long (Int64.ofNat rk)), .second, .val (.long (Int64.ofNat (own_S (fun j => zs.count j) j))), .second, .val (.int (Int32.ofNat j))] [(.ref a), (.long (Int64.ofNat (own_S (fun j => zs.count j) j)))])) rfl rfl (hb hby d_prog_4_method_4_32)
        refine go st1 ?_
        show G (T1.setTop (mkF m 35 #[.val (.ref a), .val (.double bb), .second, .val (.long (Int64.ofNat rk)), .second, .val (.long (Int64.ofNat (own_S (fun j => zs.count j) j))), .second, .val (.int (Int32.ofNat j))] [(.ref ct), (.long (Int64.ofNat (own_S (fun j => zs.count j) j)))]))
        refine go (fun _ kont => XS.iload X1.here hx rfl (hb hby d_prog_4_method_4_35) rfl  kont) ?_
        show G (T1.setTop (mkF m 37 #[.val (.ref a), .val (.double bb), .second, .val (.long (Int64.ofNat rk)), .second, .val (.long (Int64.ofNat (own_S (fun j => zs.count j) j))), .second, .val (.int (Int32.ofNat j))] [(.int (Int32.ofNat j)), (.ref ct), (.long (Int64.ofNat (own_S (fun j => zs.count j) j)))]))
        have hji : j < i := own_isp_lt hi hj hc26
        refine go (fun _ kont => X1.laload hx (j := (Int32.ofNat j)) (v := (.long (Int64.ofNat (zs.count j)))) (by rw [e1]; exact Ar.1) (State.isArrayOf_alike hZ.alike Ar.2.1) Ar.2.2 (own_hink Sl (own_neg (by rw [own_ofN (by omega)]; omega)) (own_tnO (by omega)) (k := j) (by rw [own_K_len]; omega)) (own_hatk Sl (own_tnO (by omega)) (own_K_at zs (k := j) (by omega))) (g := (mkF m 37 #[.val (.ref a), .val (.double bb), .second, .val (.long (Int64.ofNat rk)), .second, .val (.long (Int64.ofNat (own_S (fun j => zs.count j) j))), .second, .val (.int (Int32.ofNat j))] [(.int (Int32.ofNat j)), (.ref ct), (.long (Int64.ofNat (own_S (fun j => zs.count j) j)))])) rfl rfl (hb hby d_prog_4_method_4_37) _ kont) ?_
        show G (T1.setTop (mkF m 38 #[.val (.ref a), .val (.double bb), .second, .val (.long (Int64.ofNat rk)), .second, .val (.long (Int64.ofNat (own_S (fun j => zs.count j) j))), .second, .val (.int (Int32.ofNat j))] [(.long (Int64.ofNat (zs.count j))), (.long (Int64.ofNat (own_S (fun j => zs.count j) j)))]))
        refine go (fun _ kont => XS.ladd X1.here hx rfl (hb hby d_prog_4_method_4_38) rfl kont) ?_
        show G (T1.setTop (mkF m 39 #[.val (.ref a), .val (.double bb), .second, .val (.long (Int64.ofNat rk)), .second, .val (.long (Int64.ofNat (own_S (fun j => zs.count j) j))), .second, .val (.int (Int32.ofNat j))] [(.long ((Int64.ofNat (own_S (fun j => zs.count j) j)) + (Int64.ofNat (zs.count j))))]))
        rw [show ((Int64.ofNat (own_S (fun j => zs.count j) j)) + (Int64.ofNat (zs.count j))) = (Int64.ofNat (own_S (fun j => zs.count j) (j + 1))) from own_addJ (own_S (fun j => zs.count j) j) (zs.count j)]
        show G (T1.setTop (mkF m 39 #[.val (.ref a), .val (.double bb), .second, .val (.long (Int64.ofNat rk)), .second, .val (.long (Int64.ofNat (own_S (fun j => zs.count j) j))), .second, .val (.int (Int32.ofNat j))] [(.long (Int64.ofNat (own_S (fun j => zs.count j) (j + 1))))]))
        refine go (fun _ kont => XS.lstore X1.here hx rfl (hb hby d_prog_4_method_4_39) rfl (l' := #[.val (.ref a), .val (.double bb), .second, .val (.long (Int64.ofNat rk)), .second, .val (.long (Int64.ofNat (own_S (fun j => zs.count j) (j + 1)))), .second, .val (.int (Int32.ofNat j))]) rfl kont) ?_
        show G (T1.setTop (mkF m 41 #[.val (.ref a), .val (.double bb), .second, .val (.long (Int64.ofNat rk)), .second, .val (.long (Int64.ofNat (own_S (fun j => zs.count j) (j + 1)))), .second, .val (.int (Int32.ofNat j))] []))
        refine go (fun _ kont => XS.iinc X1.here hx rfl (hb hby d_prog_4_method_4_41) rfl (l' := #[.val (.ref a), .val (.double bb), .second, .val (.long (Int64.ofNat rk)), .second, .val (.long (Int64.ofNat (own_S (fun j => zs.count j) (j + 1)))), .second, .val (.int ((Int32.ofNat j) + (1 : Int32)))]) rfl kont) ?_
        show G (T1.setTop (mkF m 44 #[.val (.ref a), .val (.double bb), .second, .val (.long (Int64.ofNat rk)), .second, .val (.long (Int64.ofNat (own_S (fun j => zs.count j) (j + 1)))), .second, .val (.int ((Int32.ofNat j) + (1 : Int32)))] []))
        refine go (fun _ kont => XS.goto X1.here hx rfl (pc0 := 44) (pc' := 22) rfl (hb hby d_prog_4_method_4_44) (by decide) (by decide) kont) ?_
        show G (T1.setTop (mkF m 22 #[.val (.ref a), .val (.double bb), .second, .val (.long (Int64.ofNat rk)), .second, .val (.long (Int64.ofNat (own_S (fun j => zs.count j) (j + 1)))), .second, .val (.int ((Int32.ofNat j) + (1 : Int32)))] []))
        rw [show (Int32.ofNat j) + (1 : Int32) = (Int32.ofNat (j + 1)) from own_addk j 1]
        exact ih (j + 1) (by omega) (by omega) _ X1 e1
      · refine go (fun _ kont => XS.ifYes X'.here hx rfl (pc0 := 26) (pc' := 47) rfl (hb hby d_prog_4_method_4_26) rfl ((if0 _ _).trans (flt (mt (lw_lt _ _).mp hc26)).2.1) (by decide) (by decide) kont) ?_
        show G (T'.setTop (mkF m 47 #[.val (.ref a), .val (.double bb), .second, .val (.long (Int64.ofNat rk)), .second, .val (.long (Int64.ofNat (own_S (fun j => zs.count j) j))), .second, .val (.int (Int32.ofNat j))] []))
        rw [own_ltJ64 (by omega) (by omega)] at hc26
        have hje : j = i := own_isp_eq hi hj hc26
        refine go (fun _ kont => XS.iload X'.here hx rfl (hb hby d_prog_4_method_4_47) rfl  kont) ?_
        show G (T'.setTop (mkF m 49 #[.val (.ref a), .val (.double bb), .second, .val (.long (Int64.ofNat rk)), .second, .val (.long (Int64.ofNat (own_S (fun j => zs.count j) j))), .second, .val (.int (Int32.ofNat j))] [(.int (Int32.ofNat j))]))
        by_cases hc49 : (Int32.ofNat j) = (0 : Int32)
        · refine go (fun _ kont => XS.ifNo X'.here hx rfl (hb hby d_prog_4_method_4_49) rfl ((if0 _ _).trans (teq hc49).2) kont) ?_
          show G (T'.setTop (mkF m 52 #[.val (.ref a), .val (.double bb), .second, .val (.long (Int64.ofNat rk)), .second, .val (.long (Int64.ofNat (own_S (fun j => zs.count j) j))), .second, .val (.int (Int32.ofNat j))] []))
          rw [show (Int32.ofNat j) = (0 : Int32) ↔ j = 0 from own_eqO (d := j) (k := 0) (by omega) (by omega)] at hc49
          refine go (fun _ kont => XS.lconst X'.here hx rfl (hb hby d_prog_4_method_4_52) kont) ?_
          show G (T'.setTop (mkF m 53 #[.val (.ref a), .val (.double bb), .second, .val (.long (Int64.ofNat rk)), .second, .val (.long (Int64.ofNat (own_S (fun j => zs.count j) j))), .second, .val (.int (Int32.ofNat j))] [(.long (0 : Int64))]))
          refine go (fun _ kont => XS.goto X'.here hx rfl (pc0 := 53) (pc' := 63) rfl (hb hby d_prog_4_method_4_53) (by decide) (by decide) kont) ?_
          show G (T'.setTop (mkF m 63 #[.val (.ref a), .val (.double bb), .second, .val (.long (Int64.ofNat rk)), .second, .val (.long (Int64.ofNat (own_S (fun j => zs.count j) j))), .second, .val (.int (Int32.ofNat j))] [(.long (0 : Int64))]))
          rw [hG]
          exact own_retJ X' hx Bd.returns (hb hby d_prog_4_method_4_63) hlk (by decide) (by decide) ⟨by rw [own_pv, if_pos (by omega)], N0, e'⟩
        · refine go (fun _ kont => XS.ifYes X'.here hx rfl (pc0 := 49) (pc' := 56) rfl (hb hby d_prog_4_method_4_49) rfl ((if0 _ _).trans (feq hc49).2) (by decide) (by decide) kont) ?_
          show G (T'.setTop (mkF m 56 #[.val (.ref a), .val (.double bb), .second, .val (.long (Int64.ofNat rk)), .second, .val (.long (Int64.ofNat (own_S (fun j => zs.count j) j))), .second, .val (.int (Int32.ofNat j))] []))
          rw [show (Int32.ofNat j) = (0 : Int32) ↔ j = 0 from own_eqO (d := j) (k := 0) (by omega) (by omega)] at hc49
          refine go (fun _ kont => XS.iload X'.here hx rfl (hb hby d_prog_4_method_4_56) rfl  kont) ?_
          show G (T'.setTop (mkF m 58 #[.val (.ref a), .val (.double bb), .second, .val (.long (Int64.ofNat rk)), .second, .val (.long (Int64.ofNat (own_S (fun j => zs.count j) j))), .second, .val (.int (Int32.ofNat j))] [(.int (Int32.ofNat j))]))
          refine go (fun _ kont => XS.iconst X'.here hx rfl (hb hby d_prog_4_method_4_58) kont) ?_
          show G (T'.setTop (mkF m 59 #[.val (.ref a), .val (.double bb), .second, .val (.long (Int64.ofNat rk)), .second, .val (.long (Int64.ofNat (own_S (fun j => zs.count j) j))), .second, .val (.int (Int32.ofNat j))] [(.int (1 : Int32)), (.int (Int32.ofNat j))]))
          refine go (fun _ kont => XS.isub X'.here hx rfl (hb hby d_prog_4_method_4_59) rfl kont) ?_
          show G (T'.setTop (mkF m 60 #[.val (.ref a), .val (.double bb), .second, .val (.long (Int64.ofNat rk)), .second, .val (.long (Int64.ofNat (own_S (fun j => zs.count j) j))), .second, .val (.int (Int32.ofNat j))] [(.int ((Int32.ofNat j) - (1 : Int32)))]))
          rw [show ((Int32.ofNat j) - (1 : Int32)) = (Int32.ofNat (j - 1)) from own_pred (by omega)]
          show G (T'.setTop (mkF m 60 #[.val (.ref a), .val (.double bb), .second, .val (.long (Int64.ofNat rk)), .second, .val (.long (Int64.ofNat (own_S (fun j => zs.count j) j))), .second, .val (.int (Int32.ofNat j))] [(.int (Int32.ofNat (j - 1)))]))
          obtain ⟨_, _, ⟨T2, L2, k2, n2⟩, -, X2, ⟨Lc2, hQ2, l2, y2, z2⟩, st2⟩ := Jvm.LawKit.callS X' hx (y := (⟨"com/example/keyspace/keyspace/bench/Latencies", "middle", "(I)J"⟩ : MethodName)) hown (mvT hZ (hw _ (List.mem_of_getElem? (i := 63) rfl))) (mvT hZ (hw _ (List.mem_of_getElem? (i := 64) rfl))) (mvT hZ (hw _ (List.mem_of_getElem? (i := 2) rfl))) (mvT hZ (hw _ (List.mem_of_getElem? (i := 65) rfl))) (by decide) (backOf (W := 0) (own_rm_mid l Z a0 hw [] (Int32.ofNat (j - 1)) h0 n0 Z0) hZ (hw _ (List.mem_of_getElem? (i := 65) rfl)) (hw _ (List.mem_of_getElem? (i := 2) rfl)) (by decide) (by decide)) (g := (mkF m 60 #[.val (.ref a), .val (.double bb), .second, .val (.long (Int64.ofNat rk)), .second, .val (.long (Int64.ofNat (own_S (fun j => zs.count j) j))), .second, .val (.int (Int32.ofNat j))] [(.int (Int32.ofNat (j - 1)))])) rfl (by rw [hml]; rfl) (argsL := [(.int (Int32.ofNat (j - 1)))]) (rest := []) (lenOf own_pd3 rfl) rfl (by show 2 * 0 + _ ≤ _; exact Nat.le_of_eq rfl) (hb hby d_prog_4_method_4_60) (fun _ _ => ⟨rfl, e', (by decide : 0 + 0 ≤ _), (by decide : 0 + 0 ≤ _)⟩)
          dsimp only [Pt.U, Pt.locs, Pt.cells, Pt.slots] at X2 l2 y2 z2 st2 hQ2
          obtain ⟨rfl, N2q, e2⟩ := hQ2
          have N2 : Fr n0 L2 := by rw [l2]; exact Fr.app N0 N2q
          rw [show k2 = 0 from y2, show n2 = 0 from z2] at X2
          refine go st2 ?_
          show G (T2.setTop (mkF m 63 #[.val (.ref a), .val (.double bb), .second, .val (.long (Int64.ofNat rk)), .second, .val (.long (Int64.ofNat (own_S (fun j => zs.count j) j))), .second, .val (.int (Int32.ofNat j))] [(.long (own_mid (Int32.ofNat (j - 1))))]))
          rw [hG]
          exact own_retJ X2 hx Bd.returns (hb hby d_prog_4_method_4_63) hlk (by decide) (by decide) ⟨by rw [own_pv, if_neg (by omega), hje], N2, e2⟩
  refine go (fun _ kont => XS.dloadN X0.here hx rfl (hb hby d_prog_4_method_4_0) rfl  kont) ?_
  show G (s₁.setTop (mkF m 1 #[.val (.ref a), .val (.double bb), .second, .unset, .unset, .unset, .unset, .unset] [(.double bb)]))
  refine go (fun _ kont => XS.aloadN X0.here hx rfl (hb hby d_prog_4_method_4_1) rfl rfl kont) ?_
  show G (s₁.setTop (mkF m 2 #[.val (.ref a), .val (.double bb), .second, .unset, .unset, .unset, .unset, .unset] [(.ref a), (.double bb)]))
  obtain ⟨T3, X3, e3, st3⟩ := getF X0 hx hZ hown (host := "") (Or.inl (hw _ (List.mem_of_getElem? (i := 26) rfl))) Via.refl e0 O.2.2 (g := (mkF m 2 #[.val (.ref a), .val (.double bb), .second, .unset, .unset, .unset, .unset, .unset] [(.ref a), (.double bb)])) rfl rfl (hb hby d_prog_4_method_4_2)
  refine go st3 ?_
  show G (T3.setTop (mkF m 5 #[.val (.ref a), .val (.double bb), .second, .unset, .unset, .unset, .unset, .unset] [(.long (Int64.ofNat zs.length)), (.double bb)]))
  refine go (fun _ kont => XS.l2dS X3.here hx rfl (hb hby d_prog_4_method_4_5) rfl rfl kont) ?_
  show G (T3.setTop (mkF m 6 #[.val (.ref a), .val (.double bb), .second, .unset, .unset, .unset, .unset, .unset] [(.double (FP.l2d (Int64.ofNat zs.length))), (.double bb)]))
  refine go (fun _ kont => XS.dmulS X3.here hx rfl (hb hby d_prog_4_method_4_6) rfl ok1 rfl kont) ?_
  show G (T3.setTop (mkF m 7 #[.val (.ref a), .val (.double bb), .second, .unset, .unset, .unset, .unset, .unset] [(.double (FP.dmul bb (FP.l2d (Int64.ofNat zs.length))))]))
  refine go (fun _ kont => X3.ldc2DoubleC hx hown (mvT hZ (hw _ (List.mem_of_getElem? (i := 39) rfl))) (g := (mkF m 7 #[.val (.ref a), .val (.double bb), .second, .unset, .unset, .unset, .unset, .unset] [(.double (FP.dmul bb (FP.l2d (Int64.ofNat zs.length))))])) rfl (hb hby d_prog_4_method_4_7) _ kont) ?_
  show G (T3.setTop (mkF m 10 #[.val (.ref a), .val (.double bb), .second, .unset, .unset, .unset, .unset, .unset] [(.double (4636737291354636288 : UInt64)), (.double (FP.dmul bb (FP.l2d (Int64.ofNat zs.length))))]))
  refine go (fun _ kont => XS.ddivS X3.here hx rfl (hb hby d_prog_4_method_4_10) rfl ok2 rfl kont) ?_
  show G (T3.setTop (mkF m 11 #[.val (.ref a), .val (.double bb), .second, .unset, .unset, .unset, .unset, .unset] [(.double (FP.ddiv (FP.dmul bb (FP.l2d (Int64.ofNat zs.length))) (4636737291354636288 : UInt64)))]))
  obtain ⟨vv, vmc, ⟨T4, L4, k4, n4⟩, -, X4, ⟨pu, hv⟩, st4⟩ := Jvm.LawKit.callS X3 hx (y := (⟨"java/lang/Math", "ceil", "(D)D"⟩ : MethodName)) hown (mvT hZ (hw _ (List.mem_of_getElem? (i := 40) rfl))) (mvT hZ (hw _ (List.mem_of_getElem? (i := 41) rfl))) (mvT hZ (hw _ (List.mem_of_getElem? (i := 20) rfl))) (mvT hZ (hw _ (List.mem_of_getElem? (i := 42) rfl))) (by decide) (OwnCeil.own_mceil (W := 0) hx (own_tabC hw hZ) (by decide) (by decide)) (g := (mkF m 11 #[.val (.ref a), .val (.double bb), .second, .unset, .unset, .unset, .unset, .unset] [(.double (FP.ddiv (FP.dmul bb (FP.l2d (Int64.ofNat zs.length))) (4636737291354636288 : UInt64)))])) rfl (by rw [hml]; rfl) (argsL := [(.double (FP.ddiv (FP.dmul bb (FP.l2d (Int64.ofNat zs.length))) (4636737291354636288 : UInt64)))]) (rest := []) (lenOf own_pd4 rfl) rfl (by show 2 * 0 + _ ≤ _; exact Nat.le_of_eq rfl) (hb hby d_prog_4_method_4_11) (fun vm1 hW1 => ⟨_, rfl, ok2, ok3, ok4, own_StaticIs S (hZ.alike.trans hW1.alike) e3⟩)
  dsimp only [Pt.U, Pt.locs, Pt.cells, Pt.slots] at X4 st4
  obtain ⟨q1, q2, q3, q4⟩ := pu
  have e4 : T4.heap = h0 := Eq.trans q1 e3
  have q2' : L4 = [] := q2
  have q3' : k4 = 0 := q3
  have q4' : n4 = 0 := q4
  subst q2' q3' q4'
  obtain rfl := hv _ rfl
  refine go st4 ?_
  show G (T4.setTop (mkF m 14 #[.val (.ref a), .val (.double bb), .second, .unset, .unset, .unset, .unset, .unset] [(.double (Jvm.Free.Hsc.ceilOf (FP.ddiv (FP.dmul bb (FP.l2d (Int64.ofNat zs.length))) (4636737291354636288 : UInt64))))]))
  refine go (fun _ kont => XS.d2lS X4.here hx rfl (hb hby d_prog_4_method_4_14) rfl ok5 kont) ?_
  show G (T4.setTop (mkF m 15 #[.val (.ref a), .val (.double bb), .second, .unset, .unset, .unset, .unset, .unset] [(.long (Int64.ofNat rk))]))
  refine go (fun _ kont => XS.lstoreN X4.here hx rfl (hb hby d_prog_4_method_4_15) rfl (l' := #[.val (.ref a), .val (.double bb), .second, .val (.long (Int64.ofNat rk)), .second, .unset, .unset, .unset]) rfl kont) ?_
  show G (T4.setTop (mkF m 16 #[.val (.ref a), .val (.double bb), .second, .val (.long (Int64.ofNat rk)), .second, .unset, .unset, .unset] []))
  refine go (fun _ kont => XS.lconst X4.here hx rfl (hb hby d_prog_4_method_4_16) kont) ?_
  show G (T4.setTop (mkF m 17 #[.val (.ref a), .val (.double bb), .second, .val (.long (Int64.ofNat rk)), .second, .unset, .unset, .unset] [(.long (0 : Int64))]))
  refine go (fun _ kont => XS.lstore X4.here hx rfl (hb hby d_prog_4_method_4_17) rfl (l' := #[.val (.ref a), .val (.double bb), .second, .val (.long (Int64.ofNat rk)), .second, .val (.long (0 : Int64)), .second, .unset]) rfl kont) ?_
  show G (T4.setTop (mkF m 19 #[.val (.ref a), .val (.double bb), .second, .val (.long (Int64.ofNat rk)), .second, .val (.long (0 : Int64)), .second, .unset] []))
  refine go (fun _ kont => XS.iconst X4.here hx rfl (hb hby d_prog_4_method_4_19) kont) ?_
  show G (T4.setTop (mkF m 20 #[.val (.ref a), .val (.double bb), .second, .val (.long (Int64.ofNat rk)), .second, .val (.long (0 : Int64)), .second, .unset] [(.int (0 : Int32))]))
  refine go (fun _ kont => XS.istore X4.here hx rfl (hb hby d_prog_4_method_4_20) rfl (l' := #[.val (.ref a), .val (.double bb), .second, .val (.long (Int64.ofNat rk)), .second, .val (.long (0 : Int64)), .second, .val (.int (0 : Int32))]) rfl kont) ?_
  show G (T4.setTop (mkF m 22 #[.val (.ref a), .val (.double bb), .second, .val (.long (Int64.ofNat rk)), .second, .val (.long (0 : Int64)), .second, .val (.int (0 : Int32))] []))
  exact hlp (i + 1) 0 (by omega) (by omega) _ X4 e4
theorem own_ef_own_rm_law (m : MethodId) (x0 : Int64) (x1 : Int64) (x2 : Int64) (x3 : Int32) : entryFrame m #[(.long x0), (.long x1), (.long x2), (.int x3)] maxLocals = mkF m 0 #[.val (.long x0), .second, .val (.long x1), .second, .val (.long x2), .second, .val (.int x3), .unset, .unset, .unset, .unset, .unset, .unset, .unset, .unset, .unset] [] := by first | (simp [entryFrame, mkF, argsToLocals, Value.category, maxLocals]; done) | rfl
set_option maxRecDepth 65536 in
set_option maxHeartbeats 40000000 in
theorem own_rm_law (l : Launch) (Z : State) (a0 : Array Value) (hw : ∀ d ∈ tables_1, d.before a0 Z = true) (ws : List Jvm.Cond) (p1 : Int64) (p2 : Int64) (p3 : Int64) (p4 : Int32) (h0 : Heap) (n0 : Nat) (Z0 : n0 ≤ h0.size) (hn0 : n0 = h0.size) (S : Sta Z h0 "java/lang/StrictMath" "$assertionsDisabled" "Z" (.int 1)) :
    MetFree l x (head1 (Jvm.Cond.code x code maxLocals ret :: ws) room_1) (fun aq Uq => aq = #[(.long p1), (.long p2), (.long p3), (.int p4)] ∧ Z.Warmed39 Uq.vm ∧ Uq.heap = h0) (fun _ _ _ _ _ => True) (fun _ Uq oq Uq' => ∃ vq Lq, oq = .returned vq ∧ (own_Ql n0) vq Uq'.heap Lq ∧ FrameEnd Uq oq Uq' Lq room_1.cells room_1.slots) := by
  refine MetFree.of_bodySF (plainFor_of_name own_pn4) hisR ?_
  intro p e s m args below meth c s₁ Bd hml0 hP hK
  obtain ⟨rfl, hZ, hh⟩ := hP
  have hx := Bd.exec
  have hby := Bd.bytes
  have hml : c.maxLocals = 16 := hml0
  have hown : s.vm.findClass "com/example/keyspace/keyspace/bench/LatenciesAddPinLaw" = some m.cls := findClass_of_methodNamed Bd.named
  have hnm := (name_of_methodNamed Bd.named Bd.method).1
  have X0 : Stand p l e room_1 s m #[(.long p1), (.long p2), (.long p3), (.int p4)] below meth c s₁ [] 0 0 := Stand.of_body Bd
  have e0 : s₁.heap = h0 := by rw [← hh, Bd.state]; rfl
  have N0 := Fr.nil n0
  have hlk : meth.locks = false := by first | exact BodyLoose.notSynchronized Bd | exact Body.notSynchronized Bd
  obtain ⟨G, hG⟩ : ∃ G : State → Prop, G = own_G p e below s room_1.cells room_1.slots ((own_Ql n0)) := ⟨_, rfl⟩
  have go : ∀ {S S' : State}, (∀ t, Steps p.tables e below S' t → Steps p.tables e below S t) → G S' → G S := by rw [hG]; exact own_to
  suffices hs : G (s₁.setTop (mkF m 0 #[.val (.long p1), .second, .val (.long p2), .second, .val (.long p3), .second, .val (.int p4), .unset, .unset, .unset, .unset, .unset, .unset, .unset, .unset, .unset] [])) by
    rw [hG] at hs
    exact own_to (fun _ kont => castTop (own_ef_own_rm_law m p1 p2 p3 p4) kont) hs
  have at42 : ∀ (u7 u8 u9 : Int32), G (s₁.setTop (mkF m 42 #[.val (.long p1), .second, .val (.long p2), .second, .val (.long p3), .second, .val (.int p4), .val (.int u7), .val (.int u8), .val (.int u9), .unset, .unset, .unset, .unset, .unset, .unset] [])) := by
    intro u7 u8 u9
    show G (s₁.setTop (mkF m 42 #[.val (.long p1), .second, .val (.long p2), .second, .val (.long p3), .second, .val (.int p4), .val (.int u7), .val (.int u8), .val (.int u9), .unset, .unset, .unset, .unset, .unset, .unset] []))
    refine go (fun _ kont => XS.iload X0.here hx rfl (hb hby at_42) rfl  kont) ?_
    show G (s₁.setTop (mkF m 44 #[.val (.long p1), .second, .val (.long p2), .second, .val (.long p3), .second, .val (.int p4), .val (.int u7), .val (.int u8), .val (.int u9), .unset, .unset, .unset, .unset, .unset, .unset] [(.int p4)]))
    refine go (fun _ kont => XS.iconst X0.here hx rfl (hb hby at_44) kont) ?_
    show G (s₁.setTop (mkF m 45 #[.val (.long p1), .second, .val (.long p2), .second, .val (.long p3), .second, .val (.int p4), .val (.int u7), .val (.int u8), .val (.int u9), .unset, .unset, .unset, .unset, .unset, .unset] [(.int (3 : Int32)), (.int p4)]))
    refine go (fun _ kont => XS.iushr X0.here hx rfl (hb hby at_45) rfl kont) ?_
    show G (s₁.setTop (mkF m 46 #[.val (.long p1), .second, .val (.long p2), .second, .val (.long p3), .second, .val (.int p4), .val (.int u7), .val (.int u8), .val (.int u9), .unset, .unset, .unset, .unset, .unset, .unset] [(.int ((p4.toUInt32 >>> ((3 : Int32) &&& 31).toUInt32).toInt32))]))
    refine go (fun _ kont => XS.bipush X0.here hx rfl (hb hby at_46) kont) ?_
    show G (s₁.setTop (mkF m 48 #[.val (.long p1), .second, .val (.long p2), .second, .val (.long p3), .second, .val (.int p4), .val (.int u7), .val (.int u8), .val (.int u9), .unset, .unset, .unset, .unset, .unset, .unset] [(.int (127 : Int32)), (.int ((p4.toUInt32 >>> ((3 : Int32) &&& 31).toUInt32).toInt32))]))
    refine go (fun _ kont => XS.iand X0.here hx rfl (hb hby at_48) rfl kont) ?_
    show G (s₁.setTop (mkF m 49 #[.val (.long p1), .second, .val (.long p2), .second, .val (.long p3), .second, .val (.int p4), .val (.int u7), .val (.int u8), .val (.int u9), .unset, .unset, .unset, .unset, .unset, .unset] [(.int (((p4.toUInt32 >>> ((3 : Int32) &&& 31).toUInt32).toInt32) &&& (127 : Int32)))]))
    refine go (fun _ kont => XS.bipush X0.here hx rfl (hb hby at_49) kont) ?_
    show G (s₁.setTop (mkF m 51 #[.val (.long p1), .second, .val (.long p2), .second, .val (.long p3), .second, .val (.int p4), .val (.int u7), .val (.int u8), .val (.int u9), .unset, .unset, .unset, .unset, .unset, .unset] [(.int (100 : Int32)), (.int (((p4.toUInt32 >>> ((3 : Int32) &&& 31).toUInt32).toInt32) &&& (127 : Int32)))]))
    refine go (fun _ kont => XS.irem X0.here hx rfl (hb hby at_51) rfl (by decide) kont) ?_
    show G (s₁.setTop (mkF m 52 #[.val (.long p1), .second, .val (.long p2), .second, .val (.long p3), .second, .val (.int p4), .val (.int u7), .val (.int u8), .val (.int u9), .unset, .unset, .unset, .unset, .unset, .unset] [(.int ((((p4.toUInt32 >>> ((3 : Int32) &&& 31).toUInt32).toInt32) &&& (127 : Int32)) - ((((p4.toUInt32 >>> ((3 : Int32) &&& 31).toUInt32).toInt32) &&& (127 : Int32)) / (100 : Int32)) * (100 : Int32)))]))
    refine go (fun _ kont => XS.iconst X0.here hx rfl (hb hby at_52) kont) ?_
    show G (s₁.setTop (mkF m 53 #[.val (.long p1), .second, .val (.long p2), .second, .val (.long p3), .second, .val (.int p4), .val (.int u7), .val (.int u8), .val (.int u9), .unset, .unset, .unset, .unset, .unset, .unset] [(.int (1 : Int32)), (.int ((((p4.toUInt32 >>> ((3 : Int32) &&& 31).toUInt32).toInt32) &&& (127 : Int32)) - ((((p4.toUInt32 >>> ((3 : Int32) &&& 31).toUInt32).toInt32) &&& (127 : Int32)) / (100 : Int32)) * (100 : Int32)))]))
    refine go (fun _ kont => XS.iadd X0.here hx rfl (hb hby at_53) rfl kont) ?_
    show G (s₁.setTop (mkF m 54 #[.val (.long p1), .second, .val (.long p2), .second, .val (.long p3), .second, .val (.int p4), .val (.int u7), .val (.int u8), .val (.int u9), .unset, .unset, .unset, .unset, .unset, .unset] [(.int (((((p4.toUInt32 >>> ((3 : Int32) &&& 31).toUInt32).toInt32) &&& (127 : Int32)) - ((((p4.toUInt32 >>> ((3 : Int32) &&& 31).toUInt32).toInt32) &&& (127 : Int32)) / (100 : Int32)) * (100 : Int32)) + (1 : Int32)))]))
    obtain ⟨q, hq1, hq2, eq⟩ : ∃ q : Nat, 1 ≤ q ∧ q ≤ 100 ∧ (((((p4.toUInt32 >>> ((3 : Int32) &&& 31).toUInt32).toInt32) &&& (127 : Int32)) - ((((p4.toUInt32 >>> ((3 : Int32) &&& 31).toUInt32).toInt32) &&& (127 : Int32)) / (100 : Int32)) * (100 : Int32)) + (1 : Int32)) = Int32.ofNat q := own_q _
    rw [eq]
    show G (s₁.setTop (mkF m 54 #[.val (.long p1), .second, .val (.long p2), .second, .val (.long p3), .second, .val (.int p4), .val (.int u7), .val (.int u8), .val (.int u9), .unset, .unset, .unset, .unset, .unset, .unset] [(.int (Int32.ofNat q))]))
    refine go (fun _ kont => XS.istore X0.here hx rfl (hb hby at_54) rfl (l' := #[.val (.long p1), .second, .val (.long p2), .second, .val (.long p3), .second, .val (.int p4), .val (.int u7), .val (.int u8), .val (.int u9), .val (.int (Int32.ofNat q)), .unset, .unset, .unset, .unset, .unset]) rfl kont) ?_
    show G (s₁.setTop (mkF m 56 #[.val (.long p1), .second, .val (.long p2), .second, .val (.long p3), .second, .val (.int p4), .val (.int u7), .val (.int u8), .val (.int u9), .val (.int (Int32.ofNat q)), .unset, .unset, .unset, .unset, .unset] []))
    refine go (fun _ kont => XS.iload X0.here hx rfl (hb hby at_56) rfl  kont) ?_
    show G (s₁.setTop (mkF m 58 #[.val (.long p1), .second, .val (.long p2), .second, .val (.long p3), .second, .val (.int p4), .val (.int u7), .val (.int u8), .val (.int u9), .val (.int (Int32.ofNat q)), .unset, .unset, .unset, .unset, .unset] [(.int (Int32.ofNat q))]))
    refine go (fun _ kont => XS.i2dS X0.here hx rfl (hb hby at_58) rfl rfl kont) ?_
    show G (s₁.setTop (mkF m 59 #[.val (.long p1), .second, .val (.long p2), .second, .val (.long p3), .second, .val (.int p4), .val (.int u7), .val (.int u8), .val (.int u9), .val (.int (Int32.ofNat q)), .unset, .unset, .unset, .unset, .unset] [(.double (FP.i2d (Int32.ofNat q)))]))
    refine go (fun _ kont => XS.dstore X0.here hx rfl (hb hby at_59) rfl (l' := #[.val (.long p1), .second, .val (.long p2), .second, .val (.long p3), .second, .val (.int p4), .val (.int u7), .val (.int u8), .val (.int u9), .val (.int (Int32.ofNat q)), .val (.double (FP.i2d (Int32.ofNat q))), .second, .unset, .unset, .unset]) rfl kont) ?_
    show G (s₁.setTop (mkF m 61 #[.val (.long p1), .second, .val (.long p2), .second, .val (.long p3), .second, .val (.int p4), .val (.int u7), .val (.int u8), .val (.int u9), .val (.int (Int32.ofNat q)), .val (.double (FP.i2d (Int32.ofNat q))), .second, .unset, .unset, .unset] []))
    obtain ⟨T1, h1, X1, e1, E1, A1, D1, -, st1⟩ := newO X0 hx hZ hown (hw _ (List.mem_of_getElem? (i := 0) rfl)) (hw _ (List.mem_of_getElem? (i := 1) rfl)) (hw _ (List.mem_of_getElem? (i := 2) rfl)) e0 (g := (mkF m 61 #[.val (.long p1), .second, .val (.long p2), .second, .val (.long p3), .second, .val (.int p4), .val (.int u7), .val (.int u8), .val (.int u9), .val (.int (Int32.ofNat q)), .val (.double (FP.i2d (Int32.ofNat q))), .second, .unset, .unset, .unset] [])) rfl (hb hby at_61) (by decide) (by decide)
    obtain ⟨b1, g1⟩ : ∃ z, z = h0.size := ⟨_, rfl⟩
    rw [← g1] at A1 D1 st1
    refine go st1 ?_
    show G (T1.setTop (mkF m 64 #[.val (.long p1), .second, .val (.long p2), .second, .val (.long p3), .second, .val (.int p4), .val (.int u7), .val (.int u8), .val (.int u9), .val (.int (Int32.ofNat q)), .val (.double (FP.i2d (Int32.ofNat q))), .second, .unset, .unset, .unset] [(.ref b1)]))
    have KS_1 := (Keep.refl h0 []).ext E1
    have ga_b1 : n0 ≤ b1 := Nat.le_trans Z0 (Nat.le_of_eq g1.symm)
    have gz_b1 : h0.size ≤ b1 := by rw [← hn0]; exact ga_b1
    have Z1 : n0 ≤ h1.size := Nat.le_trans Z0 E1.1
    refine go (fun _ kont => XS.dup X1.here hx rfl (hb hby at_64) rfl rfl kont) ?_
    show G (T1.setTop (mkF m 65 #[.val (.long p1), .second, .val (.long p2), .second, .val (.long p3), .second, .val (.int p4), .val (.int u7), .val (.int u8), .val (.int u9), .val (.int (Int32.ofNat q)), .val (.double (FP.i2d (Int32.ofNat q))), .second, .unset, .unset, .unset] [(.ref b1), (.ref b1)]))
    obtain ⟨_, _, ⟨T2, L2, k2, n2⟩, -, X2, ⟨Lc2, hQ2, l2, y2, z2⟩, st2⟩ := X1.specialBack hx (y := (⟨"com/example/keyspace/keyspace/bench/Latencies", "<init>", "()V"⟩ : MethodName)) rfl hown (mvT hZ (hw _ (List.mem_of_getElem? (i := 3) rfl))) (mvT hZ (hw _ (List.mem_of_getElem? (i := 4) rfl))) (mvT hZ (hw _ (List.mem_of_getElem? (i := 5) rfl))) (by decide) (backOf (W := 1) (own_rm_ctor l Z a0 hw [] b1 h1 n0 Z1 (D1 (Or.inr (hw _ (List.mem_of_getElem? (i := 12) rfl))) (ty := (.array .long)) (by decide)) (D1 (Or.inl (hw _ (List.mem_of_getElem? (i := 27) rfl))) (ty := .long) (by decide)) A1 ga_b1) hZ (hw _ (List.mem_of_getElem? (i := 5) rfl)) (hw _ (List.mem_of_getElem? (i := 2) rfl)) (by decide) (by decide)) (g := (mkF m 65 #[.val (.long p1), .second, .val (.long p2), .second, .val (.long p3), .second, .val (.int p4), .val (.int u7), .val (.int u8), .val (.int u9), .val (.int (Int32.ofNat q)), .val (.double (FP.i2d (Int32.ofNat q))), .second, .unset, .unset, .unset] [(.ref b1), (.ref b1)])) rfl (by rw [hml]; rfl) (Steps.refl _) (a := b1) (argsL := []) (rest := [(.ref b1)]) (lenOf own_pd5 rfl) rfl (by show 2 * 0 + _ ≤ _; exact Nat.le_of_eq rfl) (hb hby at_65) (fun _ _ => ⟨rfl, e1, (by decide : 1 + 1 ≤ _), (by decide : 2 + 55296 ≤ _)⟩)
    dsimp only [Pt.U, Pt.locs, Pt.cells, Pt.slots] at X2 l2 y2 z2 st2 hQ2
    obtain ⟨rfl, N2q, K2, cx, hs2, O2, V2⟩ := hQ2
    have N2 : Fr n0 L2 := by rw [l2]; exact Fr.app N0 N2q
    have e2 : T2.heap = T2.heap := rfl
    rw [show k2 = 2 from y2, show n2 = 55298 from z2] at X2
    refine go (fun _ kont => st2.trans kont) ?_
    show G (T2.setTop (mkF m 68 #[.val (.long p1), .second, .val (.long p2), .second, .val (.long p3), .second, .val (.int p4), .val (.int u7), .val (.int u8), .val (.int u9), .val (.int (Int32.ofNat q)), .val (.double (FP.i2d (Int32.ofNat q))), .second, .unset, .unset, .unset] [(.ref b1)]))
    have o_cx : b1 < cx := Nat.lt_of_lt_of_le A1.lt hs2
    have ga_cx : n0 ≤ cx := Nat.le_trans ga_b1 (Nat.le_of_lt o_cx)
    have gz_cx : h0.size ≤ cx := by rw [← hn0]; exact ga_cx
    have KS_2 := KS_1.trans K2 (own_sub_1 (Or.inr gz_b1))
    have Z2 : n0 ≤ T2.heap.size := Nat.le_trans Z1 K2.1
    refine go (fun _ kont => XS.astore X2.here hx rfl (hb hby at_68) rfl rfl (l' := #[.val (.long p1), .second, .val (.long p2), .second, .val (.long p3), .second, .val (.int p4), .val (.int u7), .val (.int u8), .val (.int u9), .val (.int (Int32.ofNat q)), .val (.double (FP.i2d (Int32.ofNat q))), .second, .val (.ref b1), .unset, .unset]) rfl kont) ?_
    show G (T2.setTop (mkF m 70 #[.val (.long p1), .second, .val (.long p2), .second, .val (.long p3), .second, .val (.int p4), .val (.int u7), .val (.int u8), .val (.int u9), .val (.int (Int32.ofNat q)), .val (.double (FP.i2d (Int32.ofNat q))), .second, .val (.ref b1), .unset, .unset] []))
    obtain ⟨T3, h3, X3, e3, E3, A3, D3, -, st3⟩ := newO X2 hx hZ hown (hw _ (List.mem_of_getElem? (i := 0) rfl)) (hw _ (List.mem_of_getElem? (i := 1) rfl)) (hw _ (List.mem_of_getElem? (i := 2) rfl)) e2 (g := (mkF m 70 #[.val (.long p1), .second, .val (.long p2), .second, .val (.long p3), .second, .val (.int p4), .val (.int u7), .val (.int u8), .val (.int u9), .val (.int (Int32.ofNat q)), .val (.double (FP.i2d (Int32.ofNat q))), .second, .val (.ref b1), .unset, .unset] [])) rfl (hb hby at_70) (by decide) (by decide)
    obtain ⟨b3, g3⟩ : ∃ z, z = T2.heap.size := ⟨_, rfl⟩
    rw [← g3] at A3 D3 st3
    refine go st3 ?_
    show G (T3.setTop (mkF m 73 #[.val (.long p1), .second, .val (.long p2), .second, .val (.long p3), .second, .val (.int p4), .val (.int u7), .val (.int u8), .val (.int u9), .val (.int (Int32.ofNat q)), .val (.double (FP.i2d (Int32.ofNat q))), .second, .val (.ref b1), .unset, .unset] [(.ref b3)]))
    have o_b3 : cx < b3 := by rw [g3]; exact own_V_lt V2
    have KS_3 := KS_2.ext E3
    have O2_3 := own_O_ext O2 E3
    have V2_3 := own_V_ext V2 E3
    have ga_b3 : n0 ≤ b3 := Nat.le_trans Z2 (Nat.le_of_eq g3.symm)
    have gz_b3 : h0.size ≤ b3 := by rw [← hn0]; exact ga_b3
    have Z3 : n0 ≤ h3.size := Nat.le_trans Z2 E3.1
    refine go (fun _ kont => XS.dup X3.here hx rfl (hb hby at_73) rfl rfl kont) ?_
    show G (T3.setTop (mkF m 74 #[.val (.long p1), .second, .val (.long p2), .second, .val (.long p3), .second, .val (.int p4), .val (.int u7), .val (.int u8), .val (.int u9), .val (.int (Int32.ofNat q)), .val (.double (FP.i2d (Int32.ofNat q))), .second, .val (.ref b1), .unset, .unset] [(.ref b3), (.ref b3)]))
    obtain ⟨_, _, ⟨T4, L4, k4, n4⟩, -, X4, ⟨Lc4, hQ4, l4, y4, z4⟩, st4⟩ := X3.specialBack hx (y := (⟨"com/example/keyspace/keyspace/bench/Latencies", "<init>", "()V"⟩ : MethodName)) rfl hown (mvT hZ (hw _ (List.mem_of_getElem? (i := 3) rfl))) (mvT hZ (hw _ (List.mem_of_getElem? (i := 4) rfl))) (mvT hZ (hw _ (List.mem_of_getElem? (i := 5) rfl))) (by decide) (backOf (W := 1) (own_rm_ctor l Z a0 hw [] b3 h3 n0 Z3 (D3 (Or.inr (hw _ (List.mem_of_getElem? (i := 12) rfl))) (ty := (.array .long)) (by decide)) (D3 (Or.inl (hw _ (List.mem_of_getElem? (i := 27) rfl))) (ty := .long) (by decide)) A3 ga_b3) hZ (hw _ (List.mem_of_getElem? (i := 5) rfl)) (hw _ (List.mem_of_getElem? (i := 2) rfl)) (by decide) (by decide)) (g := (mkF m 74 #[.val (.long p1), .second, .val (.long p2), .second, .val (.long p3), .second, .val (.int p4), .val (.int u7), .val (.int u8), .val (.int u9), .val (.int (Int32.ofNat q)), .val (.double (FP.i2d (Int32.ofNat q))), .second, .val (.ref b1), .unset, .unset] [(.ref b3), (.ref b3)])) rfl (by rw [hml]; rfl) (Steps.refl _) (a := b3) (argsL := []) (rest := [(.ref b3)]) (lenOf own_pd5 rfl) rfl (by show 2 * 0 + _ ≤ _; exact Nat.le_of_eq rfl) (hb hby at_74) (fun _ _ => ⟨rfl, e3, (by decide : 3 + 1 ≤ _), (by decide : 55300 + 55296 ≤ _)⟩)
    dsimp only [Pt.U, Pt.locs, Pt.cells, Pt.slots] at X4 l4 y4 z4 st4 hQ4
    obtain ⟨rfl, N4q, K4, cy, hs4, O4, V4⟩ := hQ4
    have N4 : Fr n0 L4 := by rw [l4]; exact Fr.app N2 N4q
    have e4 : T4.heap = T4.heap := rfl
    rw [show k4 = 4 from y4, show n4 = 110596 from z4] at X4
    refine go (fun _ kont => st4.trans kont) ?_
    show G (T4.setTop (mkF m 77 #[.val (.long p1), .second, .val (.long p2), .second, .val (.long p3), .second, .val (.int p4), .val (.int u7), .val (.int u8), .val (.int u9), .val (.int (Int32.ofNat q)), .val (.double (FP.i2d (Int32.ofNat q))), .second, .val (.ref b1), .unset, .unset] [(.ref b3)]))
    have o_cy : b3 < cy := Nat.lt_of_lt_of_le A3.lt hs4
    have ga_cy : n0 ≤ cy := Nat.le_trans ga_b3 (Nat.le_of_lt o_cy)
    have gz_cy : h0.size ≤ cy := by rw [← hn0]; exact ga_cy
    have KS_4 := KS_3.trans K4 (own_sub_1 (Or.inr gz_b3))
    have O2_4 := own_O_keep O2_3 K4 (own_ni_1 (Nat.ne_of_lt (Nat.lt_trans o_cx o_b3)))
    have V2_4 := own_V_keep V2_3 K4 (own_ni_1 (Nat.ne_of_lt o_b3))
    have Z4 : n0 ≤ T4.heap.size := Nat.le_trans Z3 K4.1
    refine go (fun _ kont => XS.astore X4.here hx rfl (hb hby at_77) rfl rfl (l' := #[.val (.long p1), .second, .val (.long p2), .second, .val (.long p3), .second, .val (.int p4), .val (.int u7), .val (.int u8), .val (.int u9), .val (.int (Int32.ofNat q)), .val (.double (FP.i2d (Int32.ofNat q))), .second, .val (.ref b1), .val (.ref b3), .unset]) rfl kont) ?_
    show G (T4.setTop (mkF m 79 #[.val (.long p1), .second, .val (.long p2), .second, .val (.long p3), .second, .val (.int p4), .val (.int u7), .val (.int u8), .val (.int u9), .val (.int (Int32.ofNat q)), .val (.double (FP.i2d (Int32.ofNat q))), .second, .val (.ref b1), .val (.ref b3), .unset] []))
    obtain ⟨T5, h5, X5, e5, E5, A5, D5, -, st5⟩ := newO X4 hx hZ hown (hw _ (List.mem_of_getElem? (i := 0) rfl)) (hw _ (List.mem_of_getElem? (i := 1) rfl)) (hw _ (List.mem_of_getElem? (i := 2) rfl)) e4 (g := (mkF m 79 #[.val (.long p1), .second, .val (.long p2), .second, .val (.long p3), .second, .val (.int p4), .val (.int u7), .val (.int u8), .val (.int u9), .val (.int (Int32.ofNat q)), .val (.double (FP.i2d (Int32.ofNat q))), .second, .val (.ref b1), .val (.ref b3), .unset] [])) rfl (hb hby at_79) (by decide) (by decide)
    obtain ⟨b5, g5⟩ : ∃ z, z = T4.heap.size := ⟨_, rfl⟩
    rw [← g5] at A5 D5 st5
    refine go st5 ?_
    show G (T5.setTop (mkF m 82 #[.val (.long p1), .second, .val (.long p2), .second, .val (.long p3), .second, .val (.int p4), .val (.int u7), .val (.int u8), .val (.int u9), .val (.int (Int32.ofNat q)), .val (.double (FP.i2d (Int32.ofNat q))), .second, .val (.ref b1), .val (.ref b3), .unset] [(.ref b5)]))
    have o_b5 : cy < b5 := by rw [g5]; exact own_V_lt V4
    have KS_5 := KS_4.ext E5
    have O2_5 := own_O_ext O2_4 E5
    have V2_5 := own_V_ext V2_4 E5
    have O4_5 := own_O_ext O4 E5
    have V4_5 := own_V_ext V4 E5
    have ga_b5 : n0 ≤ b5 := Nat.le_trans Z4 (Nat.le_of_eq g5.symm)
    have gz_b5 : h0.size ≤ b5 := by rw [← hn0]; exact ga_b5
    have Z5 : n0 ≤ h5.size := Nat.le_trans Z4 E5.1
    refine go (fun _ kont => XS.dup X5.here hx rfl (hb hby at_82) rfl rfl kont) ?_
    show G (T5.setTop (mkF m 83 #[.val (.long p1), .second, .val (.long p2), .second, .val (.long p3), .second, .val (.int p4), .val (.int u7), .val (.int u8), .val (.int u9), .val (.int (Int32.ofNat q)), .val (.double (FP.i2d (Int32.ofNat q))), .second, .val (.ref b1), .val (.ref b3), .unset] [(.ref b5), (.ref b5)]))
    obtain ⟨_, _, ⟨T6, L6, k6, n6⟩, -, X6, ⟨Lc6, hQ6, l6, y6, z6⟩, st6⟩ := X5.specialBack hx (y := (⟨"com/example/keyspace/keyspace/bench/Latencies", "<init>", "()V"⟩ : MethodName)) rfl hown (mvT hZ (hw _ (List.mem_of_getElem? (i := 3) rfl))) (mvT hZ (hw _ (List.mem_of_getElem? (i := 4) rfl))) (mvT hZ (hw _ (List.mem_of_getElem? (i := 5) rfl))) (by decide) (backOf (W := 1) (own_rm_ctor l Z a0 hw [] b5 h5 n0 Z5 (D5 (Or.inr (hw _ (List.mem_of_getElem? (i := 12) rfl))) (ty := (.array .long)) (by decide)) (D5 (Or.inl (hw _ (List.mem_of_getElem? (i := 27) rfl))) (ty := .long) (by decide)) A5 ga_b5) hZ (hw _ (List.mem_of_getElem? (i := 5) rfl)) (hw _ (List.mem_of_getElem? (i := 2) rfl)) (by decide) (by decide)) (g := (mkF m 83 #[.val (.long p1), .second, .val (.long p2), .second, .val (.long p3), .second, .val (.int p4), .val (.int u7), .val (.int u8), .val (.int u9), .val (.int (Int32.ofNat q)), .val (.double (FP.i2d (Int32.ofNat q))), .second, .val (.ref b1), .val (.ref b3), .unset] [(.ref b5), (.ref b5)])) rfl (by rw [hml]; rfl) (Steps.refl _) (a := b5) (argsL := []) (rest := [(.ref b5)]) (lenOf own_pd5 rfl) rfl (by show 2 * 0 + _ ≤ _; exact Nat.le_of_eq rfl) (hb hby at_83) (fun _ _ => ⟨rfl, e5, (by decide : 5 + 1 ≤ _), (by decide : 110598 + 55296 ≤ _)⟩)
    dsimp only [Pt.U, Pt.locs, Pt.cells, Pt.slots] at X6 l6 y6 z6 st6 hQ6
    obtain ⟨rfl, N6q, K6, cz, hs6, O6, V6⟩ := hQ6
    have N6 : Fr n0 L6 := by rw [l6]; exact Fr.app N4 N6q
    have e6 : T6.heap = T6.heap := rfl
    rw [show k6 = 6 from y6, show n6 = 165894 from z6] at X6
    refine go (fun _ kont => st6.trans kont) ?_
    show G (T6.setTop (mkF m 86 #[.val (.long p1), .second, .val (.long p2), .second, .val (.long p3), .second, .val (.int p4), .val (.int u7), .val (.int u8), .val (.int u9), .val (.int (Int32.ofNat q)), .val (.double (FP.i2d (Int32.ofNat q))), .second, .val (.ref b1), .val (.ref b3), .unset] [(.ref b5)]))
    have o_cz : b5 < cz := Nat.lt_of_lt_of_le A5.lt hs6
    have ga_cz : n0 ≤ cz := Nat.le_trans ga_b5 (Nat.le_of_lt o_cz)
    have gz_cz : h0.size ≤ cz := by rw [← hn0]; exact ga_cz
    have KS_6 := KS_5.trans K6 (own_sub_1 (Or.inr gz_b5))
    have O2_6 := own_O_keep O2_5 K6 (own_ni_1 (Nat.ne_of_lt (Nat.lt_trans (Nat.lt_trans (Nat.lt_trans o_cx o_b3) o_cy) o_b5)))
    have V2_6 := own_V_keep V2_5 K6 (own_ni_1 (Nat.ne_of_lt (Nat.lt_trans (Nat.lt_trans o_b3 o_cy) o_b5)))
    have O4_6 := own_O_keep O4_5 K6 (own_ni_1 (Nat.ne_of_lt (Nat.lt_trans o_cy o_b5)))
    have V4_6 := own_V_keep V4_5 K6 (own_ni_1 (Nat.ne_of_lt o_b5))
    have Z6 : n0 ≤ T6.heap.size := Nat.le_trans Z5 K6.1
    refine go (fun _ kont => XS.astore X6.here hx rfl (hb hby at_86) rfl rfl (l' := #[.val (.long p1), .second, .val (.long p2), .second, .val (.long p3), .second, .val (.int p4), .val (.int u7), .val (.int u8), .val (.int u9), .val (.int (Int32.ofNat q)), .val (.double (FP.i2d (Int32.ofNat q))), .second, .val (.ref b1), .val (.ref b3), .val (.ref b5)]) rfl kont) ?_
    show G (T6.setTop (mkF m 88 #[.val (.long p1), .second, .val (.long p2), .second, .val (.long p3), .second, .val (.int p4), .val (.int u7), .val (.int u8), .val (.int u9), .val (.int (Int32.ofNat q)), .val (.double (FP.i2d (Int32.ofNat q))), .second, .val (.ref b1), .val (.ref b3), .val (.ref b5)] []))
    obtain ⟨Vv1, hVb1, hVv1⟩ := own_mxN p1
    obtain ⟨Vv2, hVb2, hVv2⟩ := own_mxN p2
    obtain ⟨Vv3, hVb3, hVv3⟩ := own_mxN p3
    have at141 : ∀ (xs ys zs : List Nat) (T' : State) (h' : Heap) (ls : List Loc), own_P xs ys zs 3 → own_W3 Z h0 n0 b1 cx b3 cy b5 cz h' xs ys zs → Stand p l e room_1 s m #[(.long p1), (.long p2), (.long p3), (.int p4)] below meth c T' ls 6 165894 → T'.heap = h' → Fr n0 ls → G (T'.setTop (mkF m 141 #[.val (.long p1), .second, .val (.long p2), .second, .val (.long p3), .second, .val (.int p4), .val (.int u7), .val (.int u8), .val (.int u9), .val (.int (Int32.ofNat q)), .val (.double (FP.i2d (Int32.ofNat q))), .second, .val (.ref b1), .val (.ref b3), .val (.ref b5)] [])) := by
      intro xs ys zs T' h' ls P3 W3 X' e' N'
      obtain ⟨Ox, Vx, Oy, Vy, Oz, Vz, KS, ZS⟩ := W3
      show G (T'.setTop (mkF m 141 #[.val (.long p1), .second, .val (.long p2), .second, .val (.long p3), .second, .val (.int p4), .val (.int u7), .val (.int u8), .val (.int u9), .val (.int (Int32.ofNat q)), .val (.double (FP.i2d (Int32.ofNat q))), .second, .val (.ref b1), .val (.ref b3), .val (.ref b5)] []))
      obtain ⟨hcount, hlen, hk3, hall⟩ := P3
      refine go (fun _ kont => XS.aload X'.here hx rfl (hb hby at_141) rfl rfl kont) ?_
      show G (T'.setTop (mkF m 143 #[.val (.long p1), .second, .val (.long p2), .second, .val (.long p3), .second, .val (.int p4), .val (.int u7), .val (.int u8), .val (.int u9), .val (.int (Int32.ofNat q)), .val (.double (FP.i2d (Int32.ofNat q))), .second, .val (.ref b1), .val (.ref b3), .val (.ref b5)] [(.ref b1)]))
      refine go (fun _ kont => XS.aload X'.here hx rfl (hb hby at_143) rfl rfl kont) ?_
      show G (T'.setTop (mkF m 145 #[.val (.long p1), .second, .val (.long p2), .second, .val (.long p3), .second, .val (.int p4), .val (.int u7), .val (.int u8), .val (.int u9), .val (.int (Int32.ofNat q)), .val (.double (FP.i2d (Int32.ofNat q))), .second, .val (.ref b1), .val (.ref b3), .val (.ref b5)] [(.ref b3), (.ref b1)]))
      obtain ⟨cq7, kq7, qa7, qb7, qc7⟩ := isOf hZ e' Ox.1
      obtain ⟨_, _, ⟨T7, L7, k7, n7⟩, -, X7, ⟨Lc7, hQ7, l7, y7, z7⟩, st7⟩ := X'.virtualBack hx (y := (⟨"com/example/keyspace/keyspace/bench/Latencies", "add", "(Lcom/example/keyspace/keyspace/bench/Latencies;)V"⟩ : MethodName)) (z := (⟨"com/example/keyspace/keyspace/bench/Latencies", "add", "(Lcom/example/keyspace/keyspace/bench/Latencies;)V"⟩ : MethodName)) hown (mvT hZ (hw _ (List.mem_of_getElem? (i := 28) rfl))) (mvT hZ (hw _ (List.mem_of_getElem? (i := 29) rfl))) (notFace_of_selects (args := #[]) (mvT hZ (hw _ (List.mem_of_getElem? (i := 31) rfl)))) (mvT hZ (hw _ (List.mem_of_getElem? (i := 31) rfl))) (mvT hZ (hw _ (List.mem_of_getElem? (i := 30) rfl))) (by decide) (backOf (W := 0) (own_rm_add l Z a0 hw [] b1 b3 h' n0 ZS cx cy xs ys Ox Oy Vx Vy (Nat.ne_of_lt o_cx) (Nat.ne_of_gt o_b3) (Nat.ne_of_gt (Nat.lt_trans o_b3 o_cy)) ga_b1 ga_cx) hZ (hw _ (List.mem_of_getElem? (i := 32) rfl)) (hw _ (List.mem_of_getElem? (i := 2) rfl)) (by decide) (by decide)) qa7 qc7 (g := (mkF m 145 #[.val (.long p1), .second, .val (.long p2), .second, .val (.long p3), .second, .val (.int p4), .val (.int u7), .val (.int u8), .val (.int u9), .val (.int (Int32.ofNat q)), .val (.double (FP.i2d (Int32.ofNat q))), .second, .val (.ref b1), .val (.ref b3), .val (.ref b5)] [(.ref b3), (.ref b1)])) rfl (by rw [hml]; rfl) (Steps.refl _) (argsL := [(.ref b3)]) (rest := []) (lenOf own_pd6 rfl) rfl (by show 2 * 0 + _ ≤ _; exact Nat.le_of_eq rfl) (hb hby at_145) (fun _ _ => ⟨rfl, e', (by decide : 6 + 0 ≤ _), (by decide : 165894 + 0 ≤ _)⟩)
      dsimp only [Pt.U, Pt.locs, Pt.cells, Pt.slots] at X7 l7 y7 z7 st7 hQ7
      obtain ⟨rfl, N7q, K7, O7, V7⟩ := hQ7
      have N7 : Fr n0 L7 := by rw [l7]; exact Fr.app N' N7q
      have e7 : T7.heap = T7.heap := rfl
      rw [show k7 = 6 from y7, show n7 = 165894 from z7] at X7
      refine go (fun _ kont => st7.trans kont) ?_
      show G (T7.setTop (mkF m 148 #[.val (.long p1), .second, .val (.long p2), .second, .val (.long p3), .second, .val (.int p4), .val (.int u7), .val (.int u8), .val (.int u9), .val (.int (Int32.ofNat q)), .val (.double (FP.i2d (Int32.ofNat q))), .second, .val (.ref b1), .val (.ref b3), .val (.ref b5)] []))
      have Oy_7 := own_O_keep Oy K7 (own_ni_2 (Nat.ne_of_gt (Nat.lt_trans o_cx o_b3)) (Nat.ne_of_gt o_b3))
      have Vy_7 := own_V_keep Vy K7 (own_ni_2 (Nat.ne_of_gt (Nat.lt_trans (Nat.lt_trans o_cx o_b3) o_cy)) (Nat.ne_of_gt (Nat.lt_trans o_b3 o_cy)))
      have Oz_7 := own_O_keep Oz K7 (own_ni_2 (Nat.ne_of_gt (Nat.lt_trans (Nat.lt_trans (Nat.lt_trans o_cx o_b3) o_cy) o_b5)) (Nat.ne_of_gt (Nat.lt_trans (Nat.lt_trans o_b3 o_cy) o_b5)))
      have Vz_7 := own_V_keep Vz K7 (own_ni_2 (Nat.ne_of_gt (Nat.lt_trans (Nat.lt_trans (Nat.lt_trans (Nat.lt_trans o_cx o_b3) o_cy) o_b5) o_cz)) (Nat.ne_of_gt (Nat.lt_trans (Nat.lt_trans (Nat.lt_trans o_b3 o_cy) o_b5) o_cz)))
      have KS_7 := KS.trans K7 (own_sub_2 (Or.inr gz_b1) (Or.inr gz_cx))
      have Z7 : n0 ≤ T7.heap.size := Nat.le_trans ZS K7.1
      rw [hlen] at O7
      rw [own_K_congr (fs := zs) (fun j => by rw [List.count_append]; exact hcount j)] at V7
      have S' := own_Sta_old S KS_7
      obtain ⟨r1, hr1⟩ := own_ok_of (own_ok100 zs.length (by omega))
      obtain ⟨r2, hr2⟩ := own_ok_of (own_okq q (by omega) zs.length (by omega))
      have htot := own_S_tot (n := 55296) hall
      obtain ⟨i1, hl1, hi1⟩ := own_isp_ex (zs := zs) (rk := r1) 55296 (Nat.le_trans hr1.2.2.2.2.2 (Nat.le_of_eq htot.symm))
      obtain ⟨i2, hl2, hi2⟩ := own_isp_ex (zs := zs) (rk := r2) 55296 (Nat.le_trans hr2.2.2.2.2.2 (Nat.le_of_eq htot.symm))
      refine go (fun _ kont => XS.aload X7.here hx rfl (hb hby at_148) rfl rfl kont) ?_
      show G (T7.setTop (mkF m 150 #[.val (.long p1), .second, .val (.long p2), .second, .val (.long p3), .second, .val (.int p4), .val (.int u7), .val (.int u8), .val (.int u9), .val (.int (Int32.ofNat q)), .val (.double (FP.i2d (Int32.ofNat q))), .second, .val (.ref b1), .val (.ref b3), .val (.ref b5)] [(.ref b1)]))
      refine go (fun _ kont => X7.ldc2DoubleC hx hown (mvT hZ (hw _ (List.mem_of_getElem? (i := 33) rfl))) (g := (mkF m 150 #[.val (.long p1), .second, .val (.long p2), .second, .val (.long p3), .second, .val (.int p4), .val (.int u7), .val (.int u8), .val (.int u9), .val (.int (Int32.ofNat q)), .val (.double (FP.i2d (Int32.ofNat q))), .second, .val (.ref b1), .val (.ref b3), .val (.ref b5)] [(.ref b1)])) rfl (hb hby at_150) _ kont) ?_
      show G (T7.setTop (mkF m 153 #[.val (.long p1), .second, .val (.long p2), .second, .val (.long p3), .second, .val (.int p4), .val (.int u7), .val (.int u8), .val (.int u9), .val (.int (Int32.ofNat q)), .val (.double (FP.i2d (Int32.ofNat q))), .second, .val (.ref b1), .val (.ref b3), .val (.ref b5)] [(.double (4636737291354636288 : UInt64)), (.ref b1)]))
      obtain ⟨cq8, kq8, qa8, qb8, qc8⟩ := isOf hZ e7 O7.1
      obtain ⟨_, _, ⟨T8, L8, k8, n8⟩, -, X8, ⟨Lc8, hQ8, l8, y8, z8⟩, st8⟩ := X7.virtualBack hx (y := (⟨"com/example/keyspace/keyspace/bench/Latencies", "percentile", "(D)J"⟩ : MethodName)) (z := (⟨"com/example/keyspace/keyspace/bench/Latencies", "percentile", "(D)J"⟩ : MethodName)) hown (mvT hZ (hw _ (List.mem_of_getElem? (i := 34) rfl))) (mvT hZ (hw _ (List.mem_of_getElem? (i := 35) rfl))) (notFace_of_selects (args := #[]) (mvT hZ (hw _ (List.mem_of_getElem? (i := 37) rfl)))) (mvT hZ (hw _ (List.mem_of_getElem? (i := 37) rfl))) (mvT hZ (hw _ (List.mem_of_getElem? (i := 36) rfl))) (by decide) (backOf (W := 0) (own_rm_pct l Z a0 hw [] b1 (4636737291354636288 : UInt64) T7.heap n0 Z7 cx zs r1 i1 hk3 O7 V7 hall hr1 hi1 hl1 S') hZ (hw _ (List.mem_of_getElem? (i := 38) rfl)) (hw _ (List.mem_of_getElem? (i := 2) rfl)) (by decide) (by decide)) qa8 qc8 (g := (mkF m 153 #[.val (.long p1), .second, .val (.long p2), .second, .val (.long p3), .second, .val (.int p4), .val (.int u7), .val (.int u8), .val (.int u9), .val (.int (Int32.ofNat q)), .val (.double (FP.i2d (Int32.ofNat q))), .second, .val (.ref b1), .val (.ref b3), .val (.ref b5)] [(.double (4636737291354636288 : UInt64)), (.ref b1)])) rfl (by rw [hml]; rfl) (Steps.refl _) (argsL := [(.double (4636737291354636288 : UInt64))]) (rest := []) (lenOf own_pd7 rfl) rfl (by show 2 * 0 + _ ≤ _; exact Nat.le_of_eq rfl) (hb hby at_153) (fun _ _ => ⟨rfl, e7, (by decide : 6 + 0 ≤ _), (by decide : 165894 + 0 ≤ _)⟩)
      dsimp only [Pt.U, Pt.locs, Pt.cells, Pt.slots] at X8 l8 y8 z8 st8 hQ8
      obtain ⟨rfl, N8q, e8⟩ := hQ8
      have N8 : Fr n0 L8 := by rw [l8]; exact Fr.app N7 N8q
      rw [show k8 = 6 from y8, show n8 = 165894 from z8] at X8
      refine go (fun _ kont => st8.trans kont) ?_
      show G (T8.setTop (mkF m 156 #[.val (.long p1), .second, .val (.long p2), .second, .val (.long p3), .second, .val (.int p4), .val (.int u7), .val (.int u8), .val (.int u9), .val (.int (Int32.ofNat q)), .val (.double (FP.i2d (Int32.ofNat q))), .second, .val (.ref b1), .val (.ref b3), .val (.ref b5)] [(.long (own_pv i1))]))
      refine go (fun _ kont => XS.aload X8.here hx rfl (hb hby at_156) rfl rfl kont) ?_
      show G (T8.setTop (mkF m 158 #[.val (.long p1), .second, .val (.long p2), .second, .val (.long p3), .second, .val (.int p4), .val (.int u7), .val (.int u8), .val (.int u9), .val (.int (Int32.ofNat q)), .val (.double (FP.i2d (Int32.ofNat q))), .second, .val (.ref b1), .val (.ref b3), .val (.ref b5)] [(.ref b5), (.long (own_pv i1))]))
      refine go (fun _ kont => X8.ldc2DoubleC hx hown (mvT hZ (hw _ (List.mem_of_getElem? (i := 33) rfl))) (g := (mkF m 158 #[.val (.long p1), .second, .val (.long p2), .second, .val (.long p3), .second, .val (.int p4), .val (.int u7), .val (.int u8), .val (.int u9), .val (.int (Int32.ofNat q)), .val (.double (FP.i2d (Int32.ofNat q))), .second, .val (.ref b1), .val (.ref b3), .val (.ref b5)] [(.ref b5), (.long (own_pv i1))])) rfl (hb hby at_158) _ kont) ?_
      show G (T8.setTop (mkF m 161 #[.val (.long p1), .second, .val (.long p2), .second, .val (.long p3), .second, .val (.int p4), .val (.int u7), .val (.int u8), .val (.int u9), .val (.int (Int32.ofNat q)), .val (.double (FP.i2d (Int32.ofNat q))), .second, .val (.ref b1), .val (.ref b3), .val (.ref b5)] [(.double (4636737291354636288 : UInt64)), (.ref b5), (.long (own_pv i1))]))
      obtain ⟨cq9, kq9, qa9, qb9, qc9⟩ := isOf hZ e8 Oz_7.1
      obtain ⟨_, _, ⟨T9, L9, k9, n9⟩, -, X9, ⟨Lc9, hQ9, l9, y9, z9⟩, st9⟩ := X8.virtualBack hx (y := (⟨"com/example/keyspace/keyspace/bench/Latencies", "percentile", "(D)J"⟩ : MethodName)) (z := (⟨"com/example/keyspace/keyspace/bench/Latencies", "percentile", "(D)J"⟩ : MethodName)) hown (mvT hZ (hw _ (List.mem_of_getElem? (i := 34) rfl))) (mvT hZ (hw _ (List.mem_of_getElem? (i := 35) rfl))) (notFace_of_selects (args := #[]) (mvT hZ (hw _ (List.mem_of_getElem? (i := 37) rfl)))) (mvT hZ (hw _ (List.mem_of_getElem? (i := 37) rfl))) (mvT hZ (hw _ (List.mem_of_getElem? (i := 36) rfl))) (by decide) (backOf (W := 2) (own_rm_pct l Z a0 hw [] b5 (4636737291354636288 : UInt64) T7.heap n0 Z7 cz zs r1 i1 hk3 Oz_7 Vz_7 hall hr1 hi1 hl1 S') hZ (hw _ (List.mem_of_getElem? (i := 38) rfl)) (hw _ (List.mem_of_getElem? (i := 2) rfl)) (by decide) (by decide)) qa9 qc9 (g := (mkF m 161 #[.val (.long p1), .second, .val (.long p2), .second, .val (.long p3), .second, .val (.int p4), .val (.int u7), .val (.int u8), .val (.int u9), .val (.int (Int32.ofNat q)), .val (.double (FP.i2d (Int32.ofNat q))), .second, .val (.ref b1), .val (.ref b3), .val (.ref b5)] [(.double (4636737291354636288 : UInt64)), (.ref b5), (.long (own_pv i1))])) rfl (by rw [hml]; rfl) (Steps.refl _) (argsL := [(.double (4636737291354636288 : UInt64))]) (rest := [(.long (own_pv i1))]) (lenOf own_pd7 rfl) rfl (by show 2 * 0 + _ ≤ _; exact Nat.le_of_eq rfl) (hb hby at_161) (fun _ _ => ⟨rfl, e8, (by decide : 6 + 0 ≤ _), (by decide : 165894 + 0 ≤ _)⟩)
      dsimp only [Pt.U, Pt.locs, Pt.cells, Pt.slots] at X9 l9 y9 z9 st9 hQ9
      obtain ⟨rfl, N9q, e9⟩ := hQ9
      have N9 : Fr n0 L9 := by rw [l9]; exact Fr.app N8 N9q
      rw [show k9 = 6 from y9, show n9 = 165894 from z9] at X9
      refine go (fun _ kont => st9.trans kont) ?_
      show G (T9.setTop (mkF m 164 #[.val (.long p1), .second, .val (.long p2), .second, .val (.long p3), .second, .val (.int p4), .val (.int u7), .val (.int u8), .val (.int u9), .val (.int (Int32.ofNat q)), .val (.double (FP.i2d (Int32.ofNat q))), .second, .val (.ref b1), .val (.ref b3), .val (.ref b5)] [(.long (own_pv i1)), (.long (own_pv i1))]))
      refine go (fun _ kont => XS.lcmp X9.here hx rfl (hb hby at_164) rfl kont) ?_
      show G (T9.setTop (mkF m 165 #[.val (.long p1), .second, .val (.long p2), .second, .val (.long p3), .second, .val (.int p4), .val (.int u7), .val (.int u8), .val (.int u9), .val (.int (Int32.ofNat q)), .val (.double (FP.i2d (Int32.ofNat q))), .second, .val (.ref b1), .val (.ref b3), .val (.ref b5)] [(.int (lcmpW (own_pv i1) (own_pv i1)))]))
      refine go (fun _ kont => XS.ifNo X9.here hx rfl (hb hby at_165) rfl ((if0 _ _).trans (teq ((lw_eq _ _).mpr rfl)).2) kont) ?_
      show G (T9.setTop (mkF m 168 #[.val (.long p1), .second, .val (.long p2), .second, .val (.long p3), .second, .val (.int p4), .val (.int u7), .val (.int u8), .val (.int u9), .val (.int (Int32.ofNat q)), .val (.double (FP.i2d (Int32.ofNat q))), .second, .val (.ref b1), .val (.ref b3), .val (.ref b5)] []))
      refine go (fun _ kont => XS.aload X9.here hx rfl (hb hby at_168) rfl rfl kont) ?_
      show G (T9.setTop (mkF m 170 #[.val (.long p1), .second, .val (.long p2), .second, .val (.long p3), .second, .val (.int p4), .val (.int u7), .val (.int u8), .val (.int u9), .val (.int (Int32.ofNat q)), .val (.double (FP.i2d (Int32.ofNat q))), .second, .val (.ref b1), .val (.ref b3), .val (.ref b5)] [(.ref b1)]))
      refine go (fun _ kont => XS.dload X9.here hx rfl (hb hby at_170) rfl  kont) ?_
      show G (T9.setTop (mkF m 172 #[.val (.long p1), .second, .val (.long p2), .second, .val (.long p3), .second, .val (.int p4), .val (.int u7), .val (.int u8), .val (.int u9), .val (.int (Int32.ofNat q)), .val (.double (FP.i2d (Int32.ofNat q))), .second, .val (.ref b1), .val (.ref b3), .val (.ref b5)] [(.double (FP.i2d (Int32.ofNat q))), (.ref b1)]))
      obtain ⟨cq10, kq10, qa10, qb10, qc10⟩ := isOf hZ e9 O7.1
      obtain ⟨_, _, ⟨T10, L10, k10, n10⟩, -, X10, ⟨Lc10, hQ10, l10, y10, z10⟩, st10⟩ := X9.virtualBack hx (y := (⟨"com/example/keyspace/keyspace/bench/Latencies", "percentile", "(D)J"⟩ : MethodName)) (z := (⟨"com/example/keyspace/keyspace/bench/Latencies", "percentile", "(D)J"⟩ : MethodName)) hown (mvT hZ (hw _ (List.mem_of_getElem? (i := 34) rfl))) (mvT hZ (hw _ (List.mem_of_getElem? (i := 35) rfl))) (notFace_of_selects (args := #[]) (mvT hZ (hw _ (List.mem_of_getElem? (i := 37) rfl)))) (mvT hZ (hw _ (List.mem_of_getElem? (i := 37) rfl))) (mvT hZ (hw _ (List.mem_of_getElem? (i := 36) rfl))) (by decide) (backOf (W := 0) (own_rm_pct l Z a0 hw [] b1 (FP.i2d (Int32.ofNat q)) T7.heap n0 Z7 cx zs r2 i2 hk3 O7 V7 hall hr2 hi2 hl2 S') hZ (hw _ (List.mem_of_getElem? (i := 38) rfl)) (hw _ (List.mem_of_getElem? (i := 2) rfl)) (by decide) (by decide)) qa10 qc10 (g := (mkF m 172 #[.val (.long p1), .second, .val (.long p2), .second, .val (.long p3), .second, .val (.int p4), .val (.int u7), .val (.int u8), .val (.int u9), .val (.int (Int32.ofNat q)), .val (.double (FP.i2d (Int32.ofNat q))), .second, .val (.ref b1), .val (.ref b3), .val (.ref b5)] [(.double (FP.i2d (Int32.ofNat q))), (.ref b1)])) rfl (by rw [hml]; rfl) (Steps.refl _) (argsL := [(.double (FP.i2d (Int32.ofNat q)))]) (rest := []) (lenOf own_pd7 rfl) rfl (by show 2 * 0 + _ ≤ _; exact Nat.le_of_eq rfl) (hb hby at_172) (fun _ _ => ⟨rfl, e9, (by decide : 6 + 0 ≤ _), (by decide : 165894 + 0 ≤ _)⟩)
      dsimp only [Pt.U, Pt.locs, Pt.cells, Pt.slots] at X10 l10 y10 z10 st10 hQ10
      obtain ⟨rfl, N10q, e10⟩ := hQ10
      have N10 : Fr n0 L10 := by rw [l10]; exact Fr.app N9 N10q
      rw [show k10 = 6 from y10, show n10 = 165894 from z10] at X10
      refine go (fun _ kont => st10.trans kont) ?_
      show G (T10.setTop (mkF m 175 #[.val (.long p1), .second, .val (.long p2), .second, .val (.long p3), .second, .val (.int p4), .val (.int u7), .val (.int u8), .val (.int u9), .val (.int (Int32.ofNat q)), .val (.double (FP.i2d (Int32.ofNat q))), .second, .val (.ref b1), .val (.ref b3), .val (.ref b5)] [(.long (own_pv i2))]))
      refine go (fun _ kont => XS.aload X10.here hx rfl (hb hby at_175) rfl rfl kont) ?_
      show G (T10.setTop (mkF m 177 #[.val (.long p1), .second, .val (.long p2), .second, .val (.long p3), .second, .val (.int p4), .val (.int u7), .val (.int u8), .val (.int u9), .val (.int (Int32.ofNat q)), .val (.double (FP.i2d (Int32.ofNat q))), .second, .val (.ref b1), .val (.ref b3), .val (.ref b5)] [(.ref b5), (.long (own_pv i2))]))
      refine go (fun _ kont => XS.dload X10.here hx rfl (hb hby at_177) rfl  kont) ?_
      show G (T10.setTop (mkF m 179 #[.val (.long p1), .second, .val (.long p2), .second, .val (.long p3), .second, .val (.int p4), .val (.int u7), .val (.int u8), .val (.int u9), .val (.int (Int32.ofNat q)), .val (.double (FP.i2d (Int32.ofNat q))), .second, .val (.ref b1), .val (.ref b3), .val (.ref b5)] [(.double (FP.i2d (Int32.ofNat q))), (.ref b5), (.long (own_pv i2))]))
      obtain ⟨cq11, kq11, qa11, qb11, qc11⟩ := isOf hZ e10 Oz_7.1
      obtain ⟨_, _, ⟨T11, L11, k11, n11⟩, -, X11, ⟨Lc11, hQ11, l11, y11, z11⟩, st11⟩ := X10.virtualBack hx (y := (⟨"com/example/keyspace/keyspace/bench/Latencies", "percentile", "(D)J"⟩ : MethodName)) (z := (⟨"com/example/keyspace/keyspace/bench/Latencies", "percentile", "(D)J"⟩ : MethodName)) hown (mvT hZ (hw _ (List.mem_of_getElem? (i := 34) rfl))) (mvT hZ (hw _ (List.mem_of_getElem? (i := 35) rfl))) (notFace_of_selects (args := #[]) (mvT hZ (hw _ (List.mem_of_getElem? (i := 37) rfl)))) (mvT hZ (hw _ (List.mem_of_getElem? (i := 37) rfl))) (mvT hZ (hw _ (List.mem_of_getElem? (i := 36) rfl))) (by decide) (backOf (W := 2) (own_rm_pct l Z a0 hw [] b5 (FP.i2d (Int32.ofNat q)) T7.heap n0 Z7 cz zs r2 i2 hk3 Oz_7 Vz_7 hall hr2 hi2 hl2 S') hZ (hw _ (List.mem_of_getElem? (i := 38) rfl)) (hw _ (List.mem_of_getElem? (i := 2) rfl)) (by decide) (by decide)) qa11 qc11 (g := (mkF m 179 #[.val (.long p1), .second, .val (.long p2), .second, .val (.long p3), .second, .val (.int p4), .val (.int u7), .val (.int u8), .val (.int u9), .val (.int (Int32.ofNat q)), .val (.double (FP.i2d (Int32.ofNat q))), .second, .val (.ref b1), .val (.ref b3), .val (.ref b5)] [(.double (FP.i2d (Int32.ofNat q))), (.ref b5), (.long (own_pv i2))])) rfl (by rw [hml]; rfl) (Steps.refl _) (argsL := [(.double (FP.i2d (Int32.ofNat q)))]) (rest := [(.long (own_pv i2))]) (lenOf own_pd7 rfl) rfl (by show 2 * 0 + _ ≤ _; exact Nat.le_of_eq rfl) (hb hby at_179) (fun _ _ => ⟨rfl, e10, (by decide : 6 + 0 ≤ _), (by decide : 165894 + 0 ≤ _)⟩)
      dsimp only [Pt.U, Pt.locs, Pt.cells, Pt.slots] at X11 l11 y11 z11 st11 hQ11
      obtain ⟨rfl, N11q, e11⟩ := hQ11
      have N11 : Fr n0 L11 := by rw [l11]; exact Fr.app N10 N11q
      rw [show k11 = 6 from y11, show n11 = 165894 from z11] at X11
      refine go (fun _ kont => st11.trans kont) ?_
      show G (T11.setTop (mkF m 182 #[.val (.long p1), .second, .val (.long p2), .second, .val (.long p3), .second, .val (.int p4), .val (.int u7), .val (.int u8), .val (.int u9), .val (.int (Int32.ofNat q)), .val (.double (FP.i2d (Int32.ofNat q))), .second, .val (.ref b1), .val (.ref b3), .val (.ref b5)] [(.long (own_pv i2)), (.long (own_pv i2))]))
      refine go (fun _ kont => XS.lcmp X11.here hx rfl (hb hby at_182) rfl kont) ?_
      show G (T11.setTop (mkF m 183 #[.val (.long p1), .second, .val (.long p2), .second, .val (.long p3), .second, .val (.int p4), .val (.int u7), .val (.int u8), .val (.int u9), .val (.int (Int32.ofNat q)), .val (.double (FP.i2d (Int32.ofNat q))), .second, .val (.ref b1), .val (.ref b3), .val (.ref b5)] [(.int (lcmpW (own_pv i2) (own_pv i2)))]))
      refine go (fun _ kont => XS.ifNo X11.here hx rfl (hb hby at_183) rfl ((if0 _ _).trans (teq ((lw_eq _ _).mpr rfl)).2) kont) ?_
      show G (T11.setTop (mkF m 186 #[.val (.long p1), .second, .val (.long p2), .second, .val (.long p3), .second, .val (.int p4), .val (.int u7), .val (.int u8), .val (.int u9), .val (.int (Int32.ofNat q)), .val (.double (FP.i2d (Int32.ofNat q))), .second, .val (.ref b1), .val (.ref b3), .val (.ref b5)] []))
      refine go (fun _ kont => XS.iconst X11.here hx rfl (hb hby at_186) kont) ?_
      show G (T11.setTop (mkF m 187 #[.val (.long p1), .second, .val (.long p2), .second, .val (.long p3), .second, .val (.int p4), .val (.int u7), .val (.int u8), .val (.int u9), .val (.int (Int32.ofNat q)), .val (.double (FP.i2d (Int32.ofNat q))), .second, .val (.ref b1), .val (.ref b3), .val (.ref b5)] [(.int (1 : Int32))]))
      refine go (fun _ kont => XS.goto X11.here hx rfl (pc0 := 187) (pc' := 191) rfl (hb hby at_187) (by decide) (by decide) kont) ?_
      show G (T11.setTop (mkF m 191 #[.val (.long p1), .second, .val (.long p2), .second, .val (.long p3), .second, .val (.int p4), .val (.int u7), .val (.int u8), .val (.int u9), .val (.int (Int32.ofNat q)), .val (.double (FP.i2d (Int32.ofNat q))), .second, .val (.ref b1), .val (.ref b3), .val (.ref b5)] [(.int (1 : Int32))]))
      rw [hG]
      exact own_retN X11 hx (t := .boolean) Bd.returns (by simp) (hb hby at_191) hlk (by decide) (by decide) ⟨rfl, N11⟩
    have at122 : ∀ (xs ys zs : List Nat) (T' : State) (h' : Heap) (ls : List Loc), own_P xs ys zs 2 → own_W3 Z h0 n0 b1 cx b3 cy b5 cz h' xs ys zs → Stand p l e room_1 s m #[(.long p1), (.long p2), (.long p3), (.int p4)] below meth c T' ls 6 165894 → T'.heap = h' → Fr n0 ls → G (T'.setTop (mkF m 122 #[.val (.long p1), .second, .val (.long p2), .second, .val (.long p3), .second, .val (.int p4), .val (.int u7), .val (.int u8), .val (.int u9), .val (.int (Int32.ofNat q)), .val (.double (FP.i2d (Int32.ofNat q))), .second, .val (.ref b1), .val (.ref b3), .val (.ref b5)] [])) := by
      intro xs ys zs T' h' ls P3 W3 X' e' N'
      obtain ⟨Ox, Vx, Oy, Vy, Oz, Vz, KS, ZS⟩ := W3
      show G (T'.setTop (mkF m 122 #[.val (.long p1), .second, .val (.long p2), .second, .val (.long p3), .second, .val (.int p4), .val (.int u7), .val (.int u8), .val (.int u9), .val (.int (Int32.ofNat q)), .val (.double (FP.i2d (Int32.ofNat q))), .second, .val (.ref b1), .val (.ref b3), .val (.ref b5)] []))
      refine go (fun _ kont => XS.iload X'.here hx rfl (hb hby at_122) rfl  kont) ?_
      show G (T'.setTop (mkF m 124 #[.val (.long p1), .second, .val (.long p2), .second, .val (.long p3), .second, .val (.int p4), .val (.int u7), .val (.int u8), .val (.int u9), .val (.int (Int32.ofNat q)), .val (.double (FP.i2d (Int32.ofNat q))), .second, .val (.ref b1), .val (.ref b3), .val (.ref b5)] [(.int u9)]))
      by_cases hc124 : u9 = (0 : Int32)
      · refine go (fun _ kont => XS.ifYes X'.here hx rfl (pc0 := 124) (pc' := 141) rfl (hb hby at_124) rfl ((if0 _ _).trans (teq hc124).1) (by decide) (by decide) kont) ?_
        show G (T'.setTop (mkF m 141 #[.val (.long p1), .second, .val (.long p2), .second, .val (.long p3), .second, .val (.int p4), .val (.int u7), .val (.int u8), .val (.int u9), .val (.int (Int32.ofNat q)), .val (.double (FP.i2d (Int32.ofNat q))), .second, .val (.ref b1), .val (.ref b3), .val (.ref b5)] []))
        exact at141 xs ys zs _ _ _ (own_P_up P3) ⟨Ox, Vx, Oy, Vy, Oz, Vz, KS, ZS⟩ X' e' N'
      · refine go (fun _ kont => XS.ifNo X'.here hx rfl (hb hby at_124) rfl ((if0 _ _).trans (feq hc124).1) kont) ?_
        show G (T'.setTop (mkF m 127 #[.val (.long p1), .second, .val (.long p2), .second, .val (.long p3), .second, .val (.int p4), .val (.int u7), .val (.int u8), .val (.int u9), .val (.int (Int32.ofNat q)), .val (.double (FP.i2d (Int32.ofNat q))), .second, .val (.ref b1), .val (.ref b3), .val (.ref b5)] []))
        refine go (fun _ kont => XS.aload X'.here hx rfl (hb hby at_127) rfl rfl kont) ?_
        show G (T'.setTop (mkF m 129 #[.val (.long p1), .second, .val (.long p2), .second, .val (.long p3), .second, .val (.int p4), .val (.int u7), .val (.int u8), .val (.int u9), .val (.int (Int32.ofNat q)), .val (.double (FP.i2d (Int32.ofNat q))), .second, .val (.ref b1), .val (.ref b3), .val (.ref b5)] [(.ref b3)]))
        refine go (fun _ kont => XS.lload X'.here hx rfl (hb hby at_129) rfl  kont) ?_
        show G (T'.setTop (mkF m 131 #[.val (.long p1), .second, .val (.long p2), .second, .val (.long p3), .second, .val (.int p4), .val (.int u7), .val (.int u8), .val (.int u9), .val (.int (Int32.ofNat q)), .val (.double (FP.i2d (Int32.ofNat q))), .second, .val (.ref b1), .val (.ref b3), .val (.ref b5)] [(.long p3), (.ref b3)]))
        obtain ⟨cq12, kq12, qa12, qb12, qc12⟩ := isOf hZ e' Oy.1
        obtain ⟨_, _, ⟨T12, L12, k12, n12⟩, -, X12, ⟨Lc12, hQ12, l12, y12, z12⟩, st12⟩ := X'.virtualBack hx (y := (⟨"com/example/keyspace/keyspace/bench/Latencies", "record", "(J)V"⟩ : MethodName)) (z := (⟨"com/example/keyspace/keyspace/bench/Latencies", "record", "(J)V"⟩ : MethodName)) hown (mvT hZ (hw _ (List.mem_of_getElem? (i := 13) rfl))) (mvT hZ (hw _ (List.mem_of_getElem? (i := 14) rfl))) (notFace_of_selects (args := #[]) (mvT hZ (hw _ (List.mem_of_getElem? (i := 16) rfl)))) (mvT hZ (hw _ (List.mem_of_getElem? (i := 16) rfl))) (mvT hZ (hw _ (List.mem_of_getElem? (i := 15) rfl))) (by decide) (backOf (W := 0) (own_rm_rec l Z a0 hw [] b3 p3 h' n0 ZS cy ys Vv3 hVv3 hVb3 Oy Vy (Nat.ne_of_lt o_cy) ga_b3 ga_cy) hZ (hw _ (List.mem_of_getElem? (i := 17) rfl)) (hw _ (List.mem_of_getElem? (i := 2) rfl)) (by decide) (by decide)) qa12 qc12 (g := (mkF m 131 #[.val (.long p1), .second, .val (.long p2), .second, .val (.long p3), .second, .val (.int p4), .val (.int u7), .val (.int u8), .val (.int u9), .val (.int (Int32.ofNat q)), .val (.double (FP.i2d (Int32.ofNat q))), .second, .val (.ref b1), .val (.ref b3), .val (.ref b5)] [(.long p3), (.ref b3)])) rfl (by rw [hml]; rfl) (Steps.refl _) (argsL := [(.long p3)]) (rest := []) (lenOf own_pd8 rfl) rfl (by show 2 * 0 + _ ≤ _; exact Nat.le_of_eq rfl) (hb hby at_131) (fun _ _ => ⟨rfl, e', (by decide : 6 + 0 ≤ _), (by decide : 165894 + 0 ≤ _)⟩)
        dsimp only [Pt.U, Pt.locs, Pt.cells, Pt.slots] at X12 l12 y12 z12 st12 hQ12
        obtain ⟨rfl, N12q, K12, i12, hi12, O12, V12⟩ := hQ12
        have N12 : Fr n0 L12 := by rw [l12]; exact Fr.app N' N12q
        have e12 : T12.heap = T12.heap := rfl
        rw [show k12 = 6 from y12, show n12 = 165894 from z12] at X12
        refine go (fun _ kont => st12.trans kont) ?_
        show G (T12.setTop (mkF m 134 #[.val (.long p1), .second, .val (.long p2), .second, .val (.long p3), .second, .val (.int p4), .val (.int u7), .val (.int u8), .val (.int u9), .val (.int (Int32.ofNat q)), .val (.double (FP.i2d (Int32.ofNat q))), .second, .val (.ref b1), .val (.ref b3), .val (.ref b5)] []))
        have Ox_12 := own_O_keep Ox K12 (own_ni_2 (Nat.ne_of_lt (Nat.lt_trans o_cx o_b3)) (Nat.ne_of_lt (Nat.lt_trans (Nat.lt_trans o_cx o_b3) o_cy)))
        have Vx_12 := own_V_keep Vx K12 (own_ni_2 (Nat.ne_of_lt o_b3) (Nat.ne_of_lt (Nat.lt_trans o_b3 o_cy)))
        have Oz_12 := own_O_keep Oz K12 (own_ni_2 (Nat.ne_of_gt (Nat.lt_trans o_cy o_b5)) (Nat.ne_of_gt o_b5))
        have Vz_12 := own_V_keep Vz K12 (own_ni_2 (Nat.ne_of_gt (Nat.lt_trans (Nat.lt_trans o_cy o_b5) o_cz)) (Nat.ne_of_gt (Nat.lt_trans o_b5 o_cz)))
        have KS_12 := KS.trans K12 (own_sub_2 (Or.inr gz_b3) (Or.inr gz_cy))
        have Z12 : n0 ≤ T12.heap.size := Nat.le_trans ZS K12.1
        refine go (fun _ kont => XS.aload X12.here hx rfl (hb hby at_134) rfl rfl kont) ?_
        show G (T12.setTop (mkF m 136 #[.val (.long p1), .second, .val (.long p2), .second, .val (.long p3), .second, .val (.int p4), .val (.int u7), .val (.int u8), .val (.int u9), .val (.int (Int32.ofNat q)), .val (.double (FP.i2d (Int32.ofNat q))), .second, .val (.ref b1), .val (.ref b3), .val (.ref b5)] [(.ref b5)]))
        refine go (fun _ kont => XS.lload X12.here hx rfl (hb hby at_136) rfl  kont) ?_
        show G (T12.setTop (mkF m 138 #[.val (.long p1), .second, .val (.long p2), .second, .val (.long p3), .second, .val (.int p4), .val (.int u7), .val (.int u8), .val (.int u9), .val (.int (Int32.ofNat q)), .val (.double (FP.i2d (Int32.ofNat q))), .second, .val (.ref b1), .val (.ref b3), .val (.ref b5)] [(.long p3), (.ref b5)]))
        obtain ⟨cq13, kq13, qa13, qb13, qc13⟩ := isOf hZ e12 Oz_12.1
        obtain ⟨_, _, ⟨T13, L13, k13, n13⟩, -, X13, ⟨Lc13, hQ13, l13, y13, z13⟩, st13⟩ := X12.virtualBack hx (y := (⟨"com/example/keyspace/keyspace/bench/Latencies", "record", "(J)V"⟩ : MethodName)) (z := (⟨"com/example/keyspace/keyspace/bench/Latencies", "record", "(J)V"⟩ : MethodName)) hown (mvT hZ (hw _ (List.mem_of_getElem? (i := 13) rfl))) (mvT hZ (hw _ (List.mem_of_getElem? (i := 14) rfl))) (notFace_of_selects (args := #[]) (mvT hZ (hw _ (List.mem_of_getElem? (i := 16) rfl)))) (mvT hZ (hw _ (List.mem_of_getElem? (i := 16) rfl))) (mvT hZ (hw _ (List.mem_of_getElem? (i := 15) rfl))) (by decide) (backOf (W := 0) (own_rm_rec l Z a0 hw [] b5 p3 T12.heap n0 Z12 cz zs Vv3 hVv3 hVb3 Oz_12 Vz_12 (Nat.ne_of_lt o_cz) ga_b5 ga_cz) hZ (hw _ (List.mem_of_getElem? (i := 17) rfl)) (hw _ (List.mem_of_getElem? (i := 2) rfl)) (by decide) (by decide)) qa13 qc13 (g := (mkF m 138 #[.val (.long p1), .second, .val (.long p2), .second, .val (.long p3), .second, .val (.int p4), .val (.int u7), .val (.int u8), .val (.int u9), .val (.int (Int32.ofNat q)), .val (.double (FP.i2d (Int32.ofNat q))), .second, .val (.ref b1), .val (.ref b3), .val (.ref b5)] [(.long p3), (.ref b5)])) rfl (by rw [hml]; rfl) (Steps.refl _) (argsL := [(.long p3)]) (rest := []) (lenOf own_pd8 rfl) rfl (by show 2 * 0 + _ ≤ _; exact Nat.le_of_eq rfl) (hb hby at_138) (fun _ _ => ⟨rfl, e12, (by decide : 6 + 0 ≤ _), (by decide : 165894 + 0 ≤ _)⟩)
        dsimp only [Pt.U, Pt.locs, Pt.cells, Pt.slots] at X13 l13 y13 z13 st13 hQ13
        obtain ⟨rfl, N13q, K13, i13, hi13, O13, V13⟩ := hQ13
        have N13 : Fr n0 L13 := by rw [l13]; exact Fr.app N12 N13q
        have e13 : T13.heap = T13.heap := rfl
        rw [show k13 = 6 from y13, show n13 = 165894 from z13] at X13
        refine go (fun _ kont => st13.trans kont) ?_
        show G (T13.setTop (mkF m 141 #[.val (.long p1), .second, .val (.long p2), .second, .val (.long p3), .second, .val (.int p4), .val (.int u7), .val (.int u8), .val (.int u9), .val (.int (Int32.ofNat q)), .val (.double (FP.i2d (Int32.ofNat q))), .second, .val (.ref b1), .val (.ref b3), .val (.ref b5)] []))
        have Ox_13 := own_O_keep Ox_12 K13 (own_ni_2 (Nat.ne_of_lt (Nat.lt_trans (Nat.lt_trans (Nat.lt_trans o_cx o_b3) o_cy) o_b5)) (Nat.ne_of_lt (Nat.lt_trans (Nat.lt_trans (Nat.lt_trans (Nat.lt_trans o_cx o_b3) o_cy) o_b5) o_cz)))
        have Vx_13 := own_V_keep Vx_12 K13 (own_ni_2 (Nat.ne_of_lt (Nat.lt_trans (Nat.lt_trans o_b3 o_cy) o_b5)) (Nat.ne_of_lt (Nat.lt_trans (Nat.lt_trans (Nat.lt_trans o_b3 o_cy) o_b5) o_cz)))
        have KS_13 := KS_12.trans K13 (own_sub_2 (Or.inr gz_b5) (Or.inr gz_cz))
        have O12_13 := own_O_keep O12 K13 (own_ni_2 (Nat.ne_of_lt (Nat.lt_trans o_cy o_b5)) (Nat.ne_of_lt (Nat.lt_trans (Nat.lt_trans o_cy o_b5) o_cz)))
        have V12_13 := own_V_keep V12 K13 (own_ni_2 (Nat.ne_of_lt o_b5) (Nat.ne_of_lt (Nat.lt_trans o_b5 o_cz)))
        have Z13 : n0 ≤ T13.heap.size := Nat.le_trans Z12 K13.1
        rw [own_isb_uniq hi13 hi12] at V13
        exact at141 xs (i12 :: ys) (i12 :: zs) _ _ _ (own_P_y P3 (own_isb_lt hi12)) ⟨Ox_13, Vx_13, O12_13, V12_13, O13, V13, KS_13, Z13⟩ X13 e13 N13
    have at105 : ∀ (xs ys zs : List Nat) (T' : State) (h' : Heap) (ls : List Loc), own_P xs ys zs 1 → own_W3 Z h0 n0 b1 cx b3 cy b5 cz h' xs ys zs → Stand p l e room_1 s m #[(.long p1), (.long p2), (.long p3), (.int p4)] below meth c T' ls 6 165894 → T'.heap = h' → Fr n0 ls → G (T'.setTop (mkF m 105 #[.val (.long p1), .second, .val (.long p2), .second, .val (.long p3), .second, .val (.int p4), .val (.int u7), .val (.int u8), .val (.int u9), .val (.int (Int32.ofNat q)), .val (.double (FP.i2d (Int32.ofNat q))), .second, .val (.ref b1), .val (.ref b3), .val (.ref b5)] [])) := by
      intro xs ys zs T' h' ls P3 W3 X' e' N'
      obtain ⟨Ox, Vx, Oy, Vy, Oz, Vz, KS, ZS⟩ := W3
      show G (T'.setTop (mkF m 105 #[.val (.long p1), .second, .val (.long p2), .second, .val (.long p3), .second, .val (.int p4), .val (.int u7), .val (.int u8), .val (.int u9), .val (.int (Int32.ofNat q)), .val (.double (FP.i2d (Int32.ofNat q))), .second, .val (.ref b1), .val (.ref b3), .val (.ref b5)] []))
      refine go (fun _ kont => XS.iload X'.here hx rfl (hb hby at_105) rfl  kont) ?_
      show G (T'.setTop (mkF m 107 #[.val (.long p1), .second, .val (.long p2), .second, .val (.long p3), .second, .val (.int p4), .val (.int u7), .val (.int u8), .val (.int u9), .val (.int (Int32.ofNat q)), .val (.double (FP.i2d (Int32.ofNat q))), .second, .val (.ref b1), .val (.ref b3), .val (.ref b5)] [(.int u8)]))
      by_cases hc107 : u8 = (0 : Int32)
      · refine go (fun _ kont => XS.ifYes X'.here hx rfl (pc0 := 107) (pc' := 122) rfl (hb hby at_107) rfl ((if0 _ _).trans (teq hc107).1) (by decide) (by decide) kont) ?_
        show G (T'.setTop (mkF m 122 #[.val (.long p1), .second, .val (.long p2), .second, .val (.long p3), .second, .val (.int p4), .val (.int u7), .val (.int u8), .val (.int u9), .val (.int (Int32.ofNat q)), .val (.double (FP.i2d (Int32.ofNat q))), .second, .val (.ref b1), .val (.ref b3), .val (.ref b5)] []))
        exact at122 xs ys zs _ _ _ (own_P_up P3) ⟨Ox, Vx, Oy, Vy, Oz, Vz, KS, ZS⟩ X' e' N'
      · refine go (fun _ kont => XS.ifNo X'.here hx rfl (hb hby at_107) rfl ((if0 _ _).trans (feq hc107).1) kont) ?_
        show G (T'.setTop (mkF m 110 #[.val (.long p1), .second, .val (.long p2), .second, .val (.long p3), .second, .val (.int p4), .val (.int u7), .val (.int u8), .val (.int u9), .val (.int (Int32.ofNat q)), .val (.double (FP.i2d (Int32.ofNat q))), .second, .val (.ref b1), .val (.ref b3), .val (.ref b5)] []))
        refine go (fun _ kont => XS.aload X'.here hx rfl (hb hby at_110) rfl rfl kont) ?_
        show G (T'.setTop (mkF m 112 #[.val (.long p1), .second, .val (.long p2), .second, .val (.long p3), .second, .val (.int p4), .val (.int u7), .val (.int u8), .val (.int u9), .val (.int (Int32.ofNat q)), .val (.double (FP.i2d (Int32.ofNat q))), .second, .val (.ref b1), .val (.ref b3), .val (.ref b5)] [(.ref b3)]))
        refine go (fun _ kont => XS.lloadN X'.here hx rfl (hb hby at_112) rfl  kont) ?_
        show G (T'.setTop (mkF m 113 #[.val (.long p1), .second, .val (.long p2), .second, .val (.long p3), .second, .val (.int p4), .val (.int u7), .val (.int u8), .val (.int u9), .val (.int (Int32.ofNat q)), .val (.double (FP.i2d (Int32.ofNat q))), .second, .val (.ref b1), .val (.ref b3), .val (.ref b5)] [(.long p2), (.ref b3)]))
        obtain ⟨cq14, kq14, qa14, qb14, qc14⟩ := isOf hZ e' Oy.1
        obtain ⟨_, _, ⟨T14, L14, k14, n14⟩, -, X14, ⟨Lc14, hQ14, l14, y14, z14⟩, st14⟩ := X'.virtualBack hx (y := (⟨"com/example/keyspace/keyspace/bench/Latencies", "record", "(J)V"⟩ : MethodName)) (z := (⟨"com/example/keyspace/keyspace/bench/Latencies", "record", "(J)V"⟩ : MethodName)) hown (mvT hZ (hw _ (List.mem_of_getElem? (i := 13) rfl))) (mvT hZ (hw _ (List.mem_of_getElem? (i := 14) rfl))) (notFace_of_selects (args := #[]) (mvT hZ (hw _ (List.mem_of_getElem? (i := 16) rfl)))) (mvT hZ (hw _ (List.mem_of_getElem? (i := 16) rfl))) (mvT hZ (hw _ (List.mem_of_getElem? (i := 15) rfl))) (by decide) (backOf (W := 0) (own_rm_rec l Z a0 hw [] b3 p2 h' n0 ZS cy ys Vv2 hVv2 hVb2 Oy Vy (Nat.ne_of_lt o_cy) ga_b3 ga_cy) hZ (hw _ (List.mem_of_getElem? (i := 17) rfl)) (hw _ (List.mem_of_getElem? (i := 2) rfl)) (by decide) (by decide)) qa14 qc14 (g := (mkF m 113 #[.val (.long p1), .second, .val (.long p2), .second, .val (.long p3), .second, .val (.int p4), .val (.int u7), .val (.int u8), .val (.int u9), .val (.int (Int32.ofNat q)), .val (.double (FP.i2d (Int32.ofNat q))), .second, .val (.ref b1), .val (.ref b3), .val (.ref b5)] [(.long p2), (.ref b3)])) rfl (by rw [hml]; rfl) (Steps.refl _) (argsL := [(.long p2)]) (rest := []) (lenOf own_pd8 rfl) rfl (by show 2 * 0 + _ ≤ _; exact Nat.le_of_eq rfl) (hb hby at_113) (fun _ _ => ⟨rfl, e', (by decide : 6 + 0 ≤ _), (by decide : 165894 + 0 ≤ _)⟩)
        dsimp only [Pt.U, Pt.locs, Pt.cells, Pt.slots] at X14 l14 y14 z14 st14 hQ14
        obtain ⟨rfl, N14q, K14, i14, hi14, O14, V14⟩ := hQ14
        have N14 : Fr n0 L14 := by rw [l14]; exact Fr.app N' N14q
        have e14 : T14.heap = T14.heap := rfl
        rw [show k14 = 6 from y14, show n14 = 165894 from z14] at X14
        refine go (fun _ kont => st14.trans kont) ?_
        show G (T14.setTop (mkF m 116 #[.val (.long p1), .second, .val (.long p2), .second, .val (.long p3), .second, .val (.int p4), .val (.int u7), .val (.int u8), .val (.int u9), .val (.int (Int32.ofNat q)), .val (.double (FP.i2d (Int32.ofNat q))), .second, .val (.ref b1), .val (.ref b3), .val (.ref b5)] []))
        have Ox_14 := own_O_keep Ox K14 (own_ni_2 (Nat.ne_of_lt (Nat.lt_trans o_cx o_b3)) (Nat.ne_of_lt (Nat.lt_trans (Nat.lt_trans o_cx o_b3) o_cy)))
        have Vx_14 := own_V_keep Vx K14 (own_ni_2 (Nat.ne_of_lt o_b3) (Nat.ne_of_lt (Nat.lt_trans o_b3 o_cy)))
        have Oz_14 := own_O_keep Oz K14 (own_ni_2 (Nat.ne_of_gt (Nat.lt_trans o_cy o_b5)) (Nat.ne_of_gt o_b5))
        have Vz_14 := own_V_keep Vz K14 (own_ni_2 (Nat.ne_of_gt (Nat.lt_trans (Nat.lt_trans o_cy o_b5) o_cz)) (Nat.ne_of_gt (Nat.lt_trans o_b5 o_cz)))
        have KS_14 := KS.trans K14 (own_sub_2 (Or.inr gz_b3) (Or.inr gz_cy))
        have Z14 : n0 ≤ T14.heap.size := Nat.le_trans ZS K14.1
        refine go (fun _ kont => XS.aload X14.here hx rfl (hb hby at_116) rfl rfl kont) ?_
        show G (T14.setTop (mkF m 118 #[.val (.long p1), .second, .val (.long p2), .second, .val (.long p3), .second, .val (.int p4), .val (.int u7), .val (.int u8), .val (.int u9), .val (.int (Int32.ofNat q)), .val (.double (FP.i2d (Int32.ofNat q))), .second, .val (.ref b1), .val (.ref b3), .val (.ref b5)] [(.ref b5)]))
        refine go (fun _ kont => XS.lloadN X14.here hx rfl (hb hby at_118) rfl  kont) ?_
        show G (T14.setTop (mkF m 119 #[.val (.long p1), .second, .val (.long p2), .second, .val (.long p3), .second, .val (.int p4), .val (.int u7), .val (.int u8), .val (.int u9), .val (.int (Int32.ofNat q)), .val (.double (FP.i2d (Int32.ofNat q))), .second, .val (.ref b1), .val (.ref b3), .val (.ref b5)] [(.long p2), (.ref b5)]))
        obtain ⟨cq15, kq15, qa15, qb15, qc15⟩ := isOf hZ e14 Oz_14.1
        obtain ⟨_, _, ⟨T15, L15, k15, n15⟩, -, X15, ⟨Lc15, hQ15, l15, y15, z15⟩, st15⟩ := X14.virtualBack hx (y := (⟨"com/example/keyspace/keyspace/bench/Latencies", "record", "(J)V"⟩ : MethodName)) (z := (⟨"com/example/keyspace/keyspace/bench/Latencies", "record", "(J)V"⟩ : MethodName)) hown (mvT hZ (hw _ (List.mem_of_getElem? (i := 13) rfl))) (mvT hZ (hw _ (List.mem_of_getElem? (i := 14) rfl))) (notFace_of_selects (args := #[]) (mvT hZ (hw _ (List.mem_of_getElem? (i := 16) rfl)))) (mvT hZ (hw _ (List.mem_of_getElem? (i := 16) rfl))) (mvT hZ (hw _ (List.mem_of_getElem? (i := 15) rfl))) (by decide) (backOf (W := 0) (own_rm_rec l Z a0 hw [] b5 p2 T14.heap n0 Z14 cz zs Vv2 hVv2 hVb2 Oz_14 Vz_14 (Nat.ne_of_lt o_cz) ga_b5 ga_cz) hZ (hw _ (List.mem_of_getElem? (i := 17) rfl)) (hw _ (List.mem_of_getElem? (i := 2) rfl)) (by decide) (by decide)) qa15 qc15 (g := (mkF m 119 #[.val (.long p1), .second, .val (.long p2), .second, .val (.long p3), .second, .val (.int p4), .val (.int u7), .val (.int u8), .val (.int u9), .val (.int (Int32.ofNat q)), .val (.double (FP.i2d (Int32.ofNat q))), .second, .val (.ref b1), .val (.ref b3), .val (.ref b5)] [(.long p2), (.ref b5)])) rfl (by rw [hml]; rfl) (Steps.refl _) (argsL := [(.long p2)]) (rest := []) (lenOf own_pd8 rfl) rfl (by show 2 * 0 + _ ≤ _; exact Nat.le_of_eq rfl) (hb hby at_119) (fun _ _ => ⟨rfl, e14, (by decide : 6 + 0 ≤ _), (by decide : 165894 + 0 ≤ _)⟩)
        dsimp only [Pt.U, Pt.locs, Pt.cells, Pt.slots] at X15 l15 y15 z15 st15 hQ15
        obtain ⟨rfl, N15q, K15, i15, hi15, O15, V15⟩ := hQ15
        have N15 : Fr n0 L15 := by rw [l15]; exact Fr.app N14 N15q
        have e15 : T15.heap = T15.heap := rfl
        rw [show k15 = 6 from y15, show n15 = 165894 from z15] at X15
        refine go (fun _ kont => st15.trans kont) ?_
        show G (T15.setTop (mkF m 122 #[.val (.long p1), .second, .val (.long p2), .second, .val (.long p3), .second, .val (.int p4), .val (.int u7), .val (.int u8), .val (.int u9), .val (.int (Int32.ofNat q)), .val (.double (FP.i2d (Int32.ofNat q))), .second, .val (.ref b1), .val (.ref b3), .val (.ref b5)] []))
        have Ox_15 := own_O_keep Ox_14 K15 (own_ni_2 (Nat.ne_of_lt (Nat.lt_trans (Nat.lt_trans (Nat.lt_trans o_cx o_b3) o_cy) o_b5)) (Nat.ne_of_lt (Nat.lt_trans (Nat.lt_trans (Nat.lt_trans (Nat.lt_trans o_cx o_b3) o_cy) o_b5) o_cz)))
        have Vx_15 := own_V_keep Vx_14 K15 (own_ni_2 (Nat.ne_of_lt (Nat.lt_trans (Nat.lt_trans o_b3 o_cy) o_b5)) (Nat.ne_of_lt (Nat.lt_trans (Nat.lt_trans (Nat.lt_trans o_b3 o_cy) o_b5) o_cz)))
        have KS_15 := KS_14.trans K15 (own_sub_2 (Or.inr gz_b5) (Or.inr gz_cz))
        have O14_15 := own_O_keep O14 K15 (own_ni_2 (Nat.ne_of_lt (Nat.lt_trans o_cy o_b5)) (Nat.ne_of_lt (Nat.lt_trans (Nat.lt_trans o_cy o_b5) o_cz)))
        have V14_15 := own_V_keep V14 K15 (own_ni_2 (Nat.ne_of_lt o_b5) (Nat.ne_of_lt (Nat.lt_trans o_b5 o_cz)))
        have Z15 : n0 ≤ T15.heap.size := Nat.le_trans Z14 K15.1
        rw [own_isb_uniq hi15 hi14] at V15
        exact at122 xs (i14 :: ys) (i14 :: zs) _ _ _ (own_P_y P3 (own_isb_lt hi14)) ⟨Ox_15, Vx_15, O14_15, V14_15, O15, V15, KS_15, Z15⟩ X15 e15 N15
    refine go (fun _ kont => XS.iload X6.here hx rfl (hb hby at_88) rfl  kont) ?_
    show G (T6.setTop (mkF m 90 #[.val (.long p1), .second, .val (.long p2), .second, .val (.long p3), .second, .val (.int p4), .val (.int u7), .val (.int u8), .val (.int u9), .val (.int (Int32.ofNat q)), .val (.double (FP.i2d (Int32.ofNat q))), .second, .val (.ref b1), .val (.ref b3), .val (.ref b5)] [(.int u7)]))
    by_cases hc90 : u7 = (0 : Int32)
    · refine go (fun _ kont => XS.ifYes X6.here hx rfl (pc0 := 90) (pc' := 105) rfl (hb hby at_90) rfl ((if0 _ _).trans (teq hc90).1) (by decide) (by decide) kont) ?_
      show G (T6.setTop (mkF m 105 #[.val (.long p1), .second, .val (.long p2), .second, .val (.long p3), .second, .val (.int p4), .val (.int u7), .val (.int u8), .val (.int u9), .val (.int (Int32.ofNat q)), .val (.double (FP.i2d (Int32.ofNat q))), .second, .val (.ref b1), .val (.ref b3), .val (.ref b5)] []))
      exact at105 ([] : List Nat) ([] : List Nat) ([] : List Nat) _ _ _ (own_P_up own_P_0) ⟨O2_6, V2_6, O4_6, V4_6, O6, V6, KS_6, Z6⟩ X6 e6 N6
    · refine go (fun _ kont => XS.ifNo X6.here hx rfl (hb hby at_90) rfl ((if0 _ _).trans (feq hc90).1) kont) ?_
      show G (T6.setTop (mkF m 93 #[.val (.long p1), .second, .val (.long p2), .second, .val (.long p3), .second, .val (.int p4), .val (.int u7), .val (.int u8), .val (.int u9), .val (.int (Int32.ofNat q)), .val (.double (FP.i2d (Int32.ofNat q))), .second, .val (.ref b1), .val (.ref b3), .val (.ref b5)] []))
      refine go (fun _ kont => XS.aload X6.here hx rfl (hb hby at_93) rfl rfl kont) ?_
      show G (T6.setTop (mkF m 95 #[.val (.long p1), .second, .val (.long p2), .second, .val (.long p3), .second, .val (.int p4), .val (.int u7), .val (.int u8), .val (.int u9), .val (.int (Int32.ofNat q)), .val (.double (FP.i2d (Int32.ofNat q))), .second, .val (.ref b1), .val (.ref b3), .val (.ref b5)] [(.ref b1)]))
      refine go (fun _ kont => XS.lloadN X6.here hx rfl (hb hby at_95) rfl  kont) ?_
      show G (T6.setTop (mkF m 96 #[.val (.long p1), .second, .val (.long p2), .second, .val (.long p3), .second, .val (.int p4), .val (.int u7), .val (.int u8), .val (.int u9), .val (.int (Int32.ofNat q)), .val (.double (FP.i2d (Int32.ofNat q))), .second, .val (.ref b1), .val (.ref b3), .val (.ref b5)] [(.long p1), (.ref b1)]))
      obtain ⟨cq16, kq16, qa16, qb16, qc16⟩ := isOf hZ e6 O2_6.1
      obtain ⟨_, _, ⟨T16, L16, k16, n16⟩, -, X16, ⟨Lc16, hQ16, l16, y16, z16⟩, st16⟩ := X6.virtualBack hx (y := (⟨"com/example/keyspace/keyspace/bench/Latencies", "record", "(J)V"⟩ : MethodName)) (z := (⟨"com/example/keyspace/keyspace/bench/Latencies", "record", "(J)V"⟩ : MethodName)) hown (mvT hZ (hw _ (List.mem_of_getElem? (i := 13) rfl))) (mvT hZ (hw _ (List.mem_of_getElem? (i := 14) rfl))) (notFace_of_selects (args := #[]) (mvT hZ (hw _ (List.mem_of_getElem? (i := 16) rfl)))) (mvT hZ (hw _ (List.mem_of_getElem? (i := 16) rfl))) (mvT hZ (hw _ (List.mem_of_getElem? (i := 15) rfl))) (by decide) (backOf (W := 0) (own_rm_rec l Z a0 hw [] b1 p1 T6.heap n0 Z6 cx ([] : List Nat) Vv1 hVv1 hVb1 O2_6 V2_6 (Nat.ne_of_lt o_cx) ga_b1 ga_cx) hZ (hw _ (List.mem_of_getElem? (i := 17) rfl)) (hw _ (List.mem_of_getElem? (i := 2) rfl)) (by decide) (by decide)) qa16 qc16 (g := (mkF m 96 #[.val (.long p1), .second, .val (.long p2), .second, .val (.long p3), .second, .val (.int p4), .val (.int u7), .val (.int u8), .val (.int u9), .val (.int (Int32.ofNat q)), .val (.double (FP.i2d (Int32.ofNat q))), .second, .val (.ref b1), .val (.ref b3), .val (.ref b5)] [(.long p1), (.ref b1)])) rfl (by rw [hml]; rfl) (Steps.refl _) (argsL := [(.long p1)]) (rest := []) (lenOf own_pd8 rfl) rfl (by show 2 * 0 + _ ≤ _; exact Nat.le_of_eq rfl) (hb hby at_96) (fun _ _ => ⟨rfl, e6, (by decide : 6 + 0 ≤ _), (by decide : 165894 + 0 ≤ _)⟩)
      dsimp only [Pt.U, Pt.locs, Pt.cells, Pt.slots] at X16 l16 y16 z16 st16 hQ16
      obtain ⟨rfl, N16q, K16, i16, hi16, O16, V16⟩ := hQ16
      have N16 : Fr n0 L16 := by rw [l16]; exact Fr.app N6 N16q
      have e16 : T16.heap = T16.heap := rfl
      rw [show k16 = 6 from y16, show n16 = 165894 from z16] at X16
      refine go (fun _ kont => st16.trans kont) ?_
      show G (T16.setTop (mkF m 99 #[.val (.long p1), .second, .val (.long p2), .second, .val (.long p3), .second, .val (.int p4), .val (.int u7), .val (.int u8), .val (.int u9), .val (.int (Int32.ofNat q)), .val (.double (FP.i2d (Int32.ofNat q))), .second, .val (.ref b1), .val (.ref b3), .val (.ref b5)] []))
      have KS_16 := KS_6.trans K16 (own_sub_2 (Or.inr gz_b1) (Or.inr gz_cx))
      have O4_16 := own_O_keep O4_6 K16 (own_ni_2 (Nat.ne_of_gt (Nat.lt_trans o_cx o_b3)) (Nat.ne_of_gt o_b3))
      have V4_16 := own_V_keep V4_6 K16 (own_ni_2 (Nat.ne_of_gt (Nat.lt_trans (Nat.lt_trans o_cx o_b3) o_cy)) (Nat.ne_of_gt (Nat.lt_trans o_b3 o_cy)))
      have O6_16 := own_O_keep O6 K16 (own_ni_2 (Nat.ne_of_gt (Nat.lt_trans (Nat.lt_trans (Nat.lt_trans o_cx o_b3) o_cy) o_b5)) (Nat.ne_of_gt (Nat.lt_trans (Nat.lt_trans o_b3 o_cy) o_b5)))
      have V6_16 := own_V_keep V6 K16 (own_ni_2 (Nat.ne_of_gt (Nat.lt_trans (Nat.lt_trans (Nat.lt_trans (Nat.lt_trans o_cx o_b3) o_cy) o_b5) o_cz)) (Nat.ne_of_gt (Nat.lt_trans (Nat.lt_trans (Nat.lt_trans o_b3 o_cy) o_b5) o_cz)))
      have Z16 : n0 ≤ T16.heap.size := Nat.le_trans Z6 K16.1
      refine go (fun _ kont => XS.aload X16.here hx rfl (hb hby at_99) rfl rfl kont) ?_
      show G (T16.setTop (mkF m 101 #[.val (.long p1), .second, .val (.long p2), .second, .val (.long p3), .second, .val (.int p4), .val (.int u7), .val (.int u8), .val (.int u9), .val (.int (Int32.ofNat q)), .val (.double (FP.i2d (Int32.ofNat q))), .second, .val (.ref b1), .val (.ref b3), .val (.ref b5)] [(.ref b5)]))
      refine go (fun _ kont => XS.lloadN X16.here hx rfl (hb hby at_101) rfl  kont) ?_
      show G (T16.setTop (mkF m 102 #[.val (.long p1), .second, .val (.long p2), .second, .val (.long p3), .second, .val (.int p4), .val (.int u7), .val (.int u8), .val (.int u9), .val (.int (Int32.ofNat q)), .val (.double (FP.i2d (Int32.ofNat q))), .second, .val (.ref b1), .val (.ref b3), .val (.ref b5)] [(.long p1), (.ref b5)]))
      obtain ⟨cq17, kq17, qa17, qb17, qc17⟩ := isOf hZ e16 O6_16.1
      obtain ⟨_, _, ⟨T17, L17, k17, n17⟩, -, X17, ⟨Lc17, hQ17, l17, y17, z17⟩, st17⟩ := X16.virtualBack hx (y := (⟨"com/example/keyspace/keyspace/bench/Latencies", "record", "(J)V"⟩ : MethodName)) (z := (⟨"com/example/keyspace/keyspace/bench/Latencies", "record", "(J)V"⟩ : MethodName)) hown (mvT hZ (hw _ (List.mem_of_getElem? (i := 13) rfl))) (mvT hZ (hw _ (List.mem_of_getElem? (i := 14) rfl))) (notFace_of_selects (args := #[]) (mvT hZ (hw _ (List.mem_of_getElem? (i := 16) rfl)))) (mvT hZ (hw _ (List.mem_of_getElem? (i := 16) rfl))) (mvT hZ (hw _ (List.mem_of_getElem? (i := 15) rfl))) (by decide) (backOf (W := 0) (own_rm_rec l Z a0 hw [] b5 p1 T16.heap n0 Z16 cz ([] : List Nat) Vv1 hVv1 hVb1 O6_16 V6_16 (Nat.ne_of_lt o_cz) ga_b5 ga_cz) hZ (hw _ (List.mem_of_getElem? (i := 17) rfl)) (hw _ (List.mem_of_getElem? (i := 2) rfl)) (by decide) (by decide)) qa17 qc17 (g := (mkF m 102 #[.val (.long p1), .second, .val (.long p2), .second, .val (.long p3), .second, .val (.int p4), .val (.int u7), .val (.int u8), .val (.int u9), .val (.int (Int32.ofNat q)), .val (.double (FP.i2d (Int32.ofNat q))), .second, .val (.ref b1), .val (.ref b3), .val (.ref b5)] [(.long p1), (.ref b5)])) rfl (by rw [hml]; rfl) (Steps.refl _) (argsL := [(.long p1)]) (rest := []) (lenOf own_pd8 rfl) rfl (by show 2 * 0 + _ ≤ _; exact Nat.le_of_eq rfl) (hb hby at_102) (fun _ _ => ⟨rfl, e16, (by decide : 6 + 0 ≤ _), (by decide : 165894 + 0 ≤ _)⟩)
      dsimp only [Pt.U, Pt.locs, Pt.cells, Pt.slots] at X17 l17 y17 z17 st17 hQ17
      obtain ⟨rfl, N17q, K17, i17, hi17, O17, V17⟩ := hQ17
      have N17 : Fr n0 L17 := by rw [l17]; exact Fr.app N16 N17q
      have e17 : T17.heap = T17.heap := rfl
      rw [show k17 = 6 from y17, show n17 = 165894 from z17] at X17
      refine go (fun _ kont => st17.trans kont) ?_
      show G (T17.setTop (mkF m 105 #[.val (.long p1), .second, .val (.long p2), .second, .val (.long p3), .second, .val (.int p4), .val (.int u7), .val (.int u8), .val (.int u9), .val (.int (Int32.ofNat q)), .val (.double (FP.i2d (Int32.ofNat q))), .second, .val (.ref b1), .val (.ref b3), .val (.ref b5)] []))
      have KS_17 := KS_16.trans K17 (own_sub_2 (Or.inr gz_b5) (Or.inr gz_cz))
      have O4_17 := own_O_keep O4_16 K17 (own_ni_2 (Nat.ne_of_lt (Nat.lt_trans o_cy o_b5)) (Nat.ne_of_lt (Nat.lt_trans (Nat.lt_trans o_cy o_b5) o_cz)))
      have V4_17 := own_V_keep V4_16 K17 (own_ni_2 (Nat.ne_of_lt o_b5) (Nat.ne_of_lt (Nat.lt_trans o_b5 o_cz)))
      have O16_17 := own_O_keep O16 K17 (own_ni_2 (Nat.ne_of_lt (Nat.lt_trans (Nat.lt_trans (Nat.lt_trans o_cx o_b3) o_cy) o_b5)) (Nat.ne_of_lt (Nat.lt_trans (Nat.lt_trans (Nat.lt_trans (Nat.lt_trans o_cx o_b3) o_cy) o_b5) o_cz)))
      have V16_17 := own_V_keep V16 K17 (own_ni_2 (Nat.ne_of_lt (Nat.lt_trans (Nat.lt_trans o_b3 o_cy) o_b5)) (Nat.ne_of_lt (Nat.lt_trans (Nat.lt_trans (Nat.lt_trans o_b3 o_cy) o_b5) o_cz)))
      have Z17 : n0 ≤ T17.heap.size := Nat.le_trans Z16 K17.1
      rw [own_isb_uniq hi17 hi16] at V17
      exact at105 (i16 :: ([] : List Nat)) ([] : List Nat) (i16 :: ([] : List Nat)) _ _ _ (own_P_x own_P_0 (own_isb_lt hi16)) ⟨O16_17, V16_17, O4_17, V4_17, O17, V17, KS_17, Z17⟩ X17 e17 N17
  refine go (fun _ kont => XS.iload X0.here hx rfl (hb hby at_0) rfl  kont) ?_
  show G (s₁.setTop (mkF m 2 #[.val (.long p1), .second, .val (.long p2), .second, .val (.long p3), .second, .val (.int p4), .unset, .unset, .unset, .unset, .unset, .unset, .unset, .unset, .unset] [(.int p4)]))
  refine go (fun _ kont => XS.iconst X0.here hx rfl (hb hby at_2) kont) ?_
  show G (s₁.setTop (mkF m 3 #[.val (.long p1), .second, .val (.long p2), .second, .val (.long p3), .second, .val (.int p4), .unset, .unset, .unset, .unset, .unset, .unset, .unset, .unset, .unset] [(.int (1 : Int32)), (.int p4)]))
  refine go (fun _ kont => XS.iand X0.here hx rfl (hb hby at_3) rfl kont) ?_
  show G (s₁.setTop (mkF m 4 #[.val (.long p1), .second, .val (.long p2), .second, .val (.long p3), .second, .val (.int p4), .unset, .unset, .unset, .unset, .unset, .unset, .unset, .unset, .unset] [(.int (p4 &&& (1 : Int32)))]))
  by_cases hc4 : (p4 &&& (1 : Int32)) = (0 : Int32)
  · refine go (fun _ kont => XS.ifYes X0.here hx rfl (pc0 := 4) (pc' := 11) rfl (hb hby at_4) rfl ((if0 _ _).trans (teq hc4).1) (by decide) (by decide) kont) ?_
    show G (s₁.setTop (mkF m 11 #[.val (.long p1), .second, .val (.long p2), .second, .val (.long p3), .second, .val (.int p4), .unset, .unset, .unset, .unset, .unset, .unset, .unset, .unset, .unset] []))
    refine go (fun _ kont => XS.iconst X0.here hx rfl (hb hby at_11) kont) ?_
    show G (s₁.setTop (mkF m 12 #[.val (.long p1), .second, .val (.long p2), .second, .val (.long p3), .second, .val (.int p4), .unset, .unset, .unset, .unset, .unset, .unset, .unset, .unset, .unset] [(.int (0 : Int32))]))
    refine go (fun _ kont => XS.istore X0.here hx rfl (hb hby at_12) rfl (l' := #[.val (.long p1), .second, .val (.long p2), .second, .val (.long p3), .second, .val (.int p4), .val (.int (0 : Int32)), .unset, .unset, .unset, .unset, .unset, .unset, .unset, .unset]) rfl kont) ?_
    show G (s₁.setTop (mkF m 14 #[.val (.long p1), .second, .val (.long p2), .second, .val (.long p3), .second, .val (.int p4), .val (.int (0 : Int32)), .unset, .unset, .unset, .unset, .unset, .unset, .unset, .unset] []))
    refine go (fun _ kont => XS.iload X0.here hx rfl (hb hby at_14) rfl  kont) ?_
    show G (s₁.setTop (mkF m 16 #[.val (.long p1), .second, .val (.long p2), .second, .val (.long p3), .second, .val (.int p4), .val (.int (0 : Int32)), .unset, .unset, .unset, .unset, .unset, .unset, .unset, .unset] [(.int p4)]))
    refine go (fun _ kont => XS.iconst X0.here hx rfl (hb hby at_16) kont) ?_
    show G (s₁.setTop (mkF m 17 #[.val (.long p1), .second, .val (.long p2), .second, .val (.long p3), .second, .val (.int p4), .val (.int (0 : Int32)), .unset, .unset, .unset, .unset, .unset, .unset, .unset, .unset] [(.int (2 : Int32)), (.int p4)]))
    refine go (fun _ kont => XS.iand X0.here hx rfl (hb hby at_17) rfl kont) ?_
    show G (s₁.setTop (mkF m 18 #[.val (.long p1), .second, .val (.long p2), .second, .val (.long p3), .second, .val (.int p4), .val (.int (0 : Int32)), .unset, .unset, .unset, .unset, .unset, .unset, .unset, .unset] [(.int (p4 &&& (2 : Int32)))]))
    by_cases hc18 : (p4 &&& (2 : Int32)) = (0 : Int32)
    · refine go (fun _ kont => XS.ifYes X0.here hx rfl (pc0 := 18) (pc' := 25) rfl (hb hby at_18) rfl ((if0 _ _).trans (teq hc18).1) (by decide) (by decide) kont) ?_
      show G (s₁.setTop (mkF m 25 #[.val (.long p1), .second, .val (.long p2), .second, .val (.long p3), .second, .val (.int p4), .val (.int (0 : Int32)), .unset, .unset, .unset, .unset, .unset, .unset, .unset, .unset] []))
      refine go (fun _ kont => XS.iconst X0.here hx rfl (hb hby at_25) kont) ?_
      show G (s₁.setTop (mkF m 26 #[.val (.long p1), .second, .val (.long p2), .second, .val (.long p3), .second, .val (.int p4), .val (.int (0 : Int32)), .unset, .unset, .unset, .unset, .unset, .unset, .unset, .unset] [(.int (0 : Int32))]))
      refine go (fun _ kont => XS.istore X0.here hx rfl (hb hby at_26) rfl (l' := #[.val (.long p1), .second, .val (.long p2), .second, .val (.long p3), .second, .val (.int p4), .val (.int (0 : Int32)), .val (.int (0 : Int32)), .unset, .unset, .unset, .unset, .unset, .unset, .unset]) rfl kont) ?_
      show G (s₁.setTop (mkF m 28 #[.val (.long p1), .second, .val (.long p2), .second, .val (.long p3), .second, .val (.int p4), .val (.int (0 : Int32)), .val (.int (0 : Int32)), .unset, .unset, .unset, .unset, .unset, .unset, .unset] []))
      refine go (fun _ kont => XS.iload X0.here hx rfl (hb hby at_28) rfl  kont) ?_
      show G (s₁.setTop (mkF m 30 #[.val (.long p1), .second, .val (.long p2), .second, .val (.long p3), .second, .val (.int p4), .val (.int (0 : Int32)), .val (.int (0 : Int32)), .unset, .unset, .unset, .unset, .unset, .unset, .unset] [(.int p4)]))
      refine go (fun _ kont => XS.iconst X0.here hx rfl (hb hby at_30) kont) ?_
      show G (s₁.setTop (mkF m 31 #[.val (.long p1), .second, .val (.long p2), .second, .val (.long p3), .second, .val (.int p4), .val (.int (0 : Int32)), .val (.int (0 : Int32)), .unset, .unset, .unset, .unset, .unset, .unset, .unset] [(.int (4 : Int32)), (.int p4)]))
      refine go (fun _ kont => XS.iand X0.here hx rfl (hb hby at_31) rfl kont) ?_
      show G (s₁.setTop (mkF m 32 #[.val (.long p1), .second, .val (.long p2), .second, .val (.long p3), .second, .val (.int p4), .val (.int (0 : Int32)), .val (.int (0 : Int32)), .unset, .unset, .unset, .unset, .unset, .unset, .unset] [(.int (p4 &&& (4 : Int32)))]))
      by_cases hc32 : (p4 &&& (4 : Int32)) = (0 : Int32)
      · refine go (fun _ kont => XS.ifYes X0.here hx rfl (pc0 := 32) (pc' := 39) rfl (hb hby at_32) rfl ((if0 _ _).trans (teq hc32).1) (by decide) (by decide) kont) ?_
        show G (s₁.setTop (mkF m 39 #[.val (.long p1), .second, .val (.long p2), .second, .val (.long p3), .second, .val (.int p4), .val (.int (0 : Int32)), .val (.int (0 : Int32)), .unset, .unset, .unset, .unset, .unset, .unset, .unset] []))
        refine go (fun _ kont => XS.iconst X0.here hx rfl (hb hby at_39) kont) ?_
        show G (s₁.setTop (mkF m 40 #[.val (.long p1), .second, .val (.long p2), .second, .val (.long p3), .second, .val (.int p4), .val (.int (0 : Int32)), .val (.int (0 : Int32)), .unset, .unset, .unset, .unset, .unset, .unset, .unset] [(.int (0 : Int32))]))
        refine go (fun _ kont => XS.istore X0.here hx rfl (hb hby at_40) rfl (l' := #[.val (.long p1), .second, .val (.long p2), .second, .val (.long p3), .second, .val (.int p4), .val (.int (0 : Int32)), .val (.int (0 : Int32)), .val (.int (0 : Int32)), .unset, .unset, .unset, .unset, .unset, .unset]) rfl kont) ?_
        show G (s₁.setTop (mkF m 42 #[.val (.long p1), .second, .val (.long p2), .second, .val (.long p3), .second, .val (.int p4), .val (.int (0 : Int32)), .val (.int (0 : Int32)), .val (.int (0 : Int32)), .unset, .unset, .unset, .unset, .unset, .unset] []))
        exact at42 _ _ _
      · refine go (fun _ kont => XS.ifNo X0.here hx rfl (hb hby at_32) rfl ((if0 _ _).trans (feq hc32).1) kont) ?_
        show G (s₁.setTop (mkF m 35 #[.val (.long p1), .second, .val (.long p2), .second, .val (.long p3), .second, .val (.int p4), .val (.int (0 : Int32)), .val (.int (0 : Int32)), .unset, .unset, .unset, .unset, .unset, .unset, .unset] []))
        refine go (fun _ kont => XS.iconst X0.here hx rfl (hb hby at_35) kont) ?_
        show G (s₁.setTop (mkF m 36 #[.val (.long p1), .second, .val (.long p2), .second, .val (.long p3), .second, .val (.int p4), .val (.int (0 : Int32)), .val (.int (0 : Int32)), .unset, .unset, .unset, .unset, .unset, .unset, .unset] [(.int (1 : Int32))]))
        refine go (fun _ kont => XS.goto X0.here hx rfl (pc0 := 36) (pc' := 40) rfl (hb hby at_36) (by decide) (by decide) kont) ?_
        show G (s₁.setTop (mkF m 40 #[.val (.long p1), .second, .val (.long p2), .second, .val (.long p3), .second, .val (.int p4), .val (.int (0 : Int32)), .val (.int (0 : Int32)), .unset, .unset, .unset, .unset, .unset, .unset, .unset] [(.int (1 : Int32))]))
        refine go (fun _ kont => XS.istore X0.here hx rfl (hb hby at_40) rfl (l' := #[.val (.long p1), .second, .val (.long p2), .second, .val (.long p3), .second, .val (.int p4), .val (.int (0 : Int32)), .val (.int (0 : Int32)), .val (.int (1 : Int32)), .unset, .unset, .unset, .unset, .unset, .unset]) rfl kont) ?_
        show G (s₁.setTop (mkF m 42 #[.val (.long p1), .second, .val (.long p2), .second, .val (.long p3), .second, .val (.int p4), .val (.int (0 : Int32)), .val (.int (0 : Int32)), .val (.int (1 : Int32)), .unset, .unset, .unset, .unset, .unset, .unset] []))
        exact at42 _ _ _
    · refine go (fun _ kont => XS.ifNo X0.here hx rfl (hb hby at_18) rfl ((if0 _ _).trans (feq hc18).1) kont) ?_
      show G (s₁.setTop (mkF m 21 #[.val (.long p1), .second, .val (.long p2), .second, .val (.long p3), .second, .val (.int p4), .val (.int (0 : Int32)), .unset, .unset, .unset, .unset, .unset, .unset, .unset, .unset] []))
      refine go (fun _ kont => XS.iconst X0.here hx rfl (hb hby at_21) kont) ?_
      show G (s₁.setTop (mkF m 22 #[.val (.long p1), .second, .val (.long p2), .second, .val (.long p3), .second, .val (.int p4), .val (.int (0 : Int32)), .unset, .unset, .unset, .unset, .unset, .unset, .unset, .unset] [(.int (1 : Int32))]))
      refine go (fun _ kont => XS.goto X0.here hx rfl (pc0 := 22) (pc' := 26) rfl (hb hby at_22) (by decide) (by decide) kont) ?_
      show G (s₁.setTop (mkF m 26 #[.val (.long p1), .second, .val (.long p2), .second, .val (.long p3), .second, .val (.int p4), .val (.int (0 : Int32)), .unset, .unset, .unset, .unset, .unset, .unset, .unset, .unset] [(.int (1 : Int32))]))
      refine go (fun _ kont => XS.istore X0.here hx rfl (hb hby at_26) rfl (l' := #[.val (.long p1), .second, .val (.long p2), .second, .val (.long p3), .second, .val (.int p4), .val (.int (0 : Int32)), .val (.int (1 : Int32)), .unset, .unset, .unset, .unset, .unset, .unset, .unset]) rfl kont) ?_
      show G (s₁.setTop (mkF m 28 #[.val (.long p1), .second, .val (.long p2), .second, .val (.long p3), .second, .val (.int p4), .val (.int (0 : Int32)), .val (.int (1 : Int32)), .unset, .unset, .unset, .unset, .unset, .unset, .unset] []))
      refine go (fun _ kont => XS.iload X0.here hx rfl (hb hby at_28) rfl  kont) ?_
      show G (s₁.setTop (mkF m 30 #[.val (.long p1), .second, .val (.long p2), .second, .val (.long p3), .second, .val (.int p4), .val (.int (0 : Int32)), .val (.int (1 : Int32)), .unset, .unset, .unset, .unset, .unset, .unset, .unset] [(.int p4)]))
      refine go (fun _ kont => XS.iconst X0.here hx rfl (hb hby at_30) kont) ?_
      show G (s₁.setTop (mkF m 31 #[.val (.long p1), .second, .val (.long p2), .second, .val (.long p3), .second, .val (.int p4), .val (.int (0 : Int32)), .val (.int (1 : Int32)), .unset, .unset, .unset, .unset, .unset, .unset, .unset] [(.int (4 : Int32)), (.int p4)]))
      refine go (fun _ kont => XS.iand X0.here hx rfl (hb hby at_31) rfl kont) ?_
      show G (s₁.setTop (mkF m 32 #[.val (.long p1), .second, .val (.long p2), .second, .val (.long p3), .second, .val (.int p4), .val (.int (0 : Int32)), .val (.int (1 : Int32)), .unset, .unset, .unset, .unset, .unset, .unset, .unset] [(.int (p4 &&& (4 : Int32)))]))
      by_cases hc32 : (p4 &&& (4 : Int32)) = (0 : Int32)
      · refine go (fun _ kont => XS.ifYes X0.here hx rfl (pc0 := 32) (pc' := 39) rfl (hb hby at_32) rfl ((if0 _ _).trans (teq hc32).1) (by decide) (by decide) kont) ?_
        show G (s₁.setTop (mkF m 39 #[.val (.long p1), .second, .val (.long p2), .second, .val (.long p3), .second, .val (.int p4), .val (.int (0 : Int32)), .val (.int (1 : Int32)), .unset, .unset, .unset, .unset, .unset, .unset, .unset] []))
        refine go (fun _ kont => XS.iconst X0.here hx rfl (hb hby at_39) kont) ?_
        show G (s₁.setTop (mkF m 40 #[.val (.long p1), .second, .val (.long p2), .second, .val (.long p3), .second, .val (.int p4), .val (.int (0 : Int32)), .val (.int (1 : Int32)), .unset, .unset, .unset, .unset, .unset, .unset, .unset] [(.int (0 : Int32))]))
        refine go (fun _ kont => XS.istore X0.here hx rfl (hb hby at_40) rfl (l' := #[.val (.long p1), .second, .val (.long p2), .second, .val (.long p3), .second, .val (.int p4), .val (.int (0 : Int32)), .val (.int (1 : Int32)), .val (.int (0 : Int32)), .unset, .unset, .unset, .unset, .unset, .unset]) rfl kont) ?_
        show G (s₁.setTop (mkF m 42 #[.val (.long p1), .second, .val (.long p2), .second, .val (.long p3), .second, .val (.int p4), .val (.int (0 : Int32)), .val (.int (1 : Int32)), .val (.int (0 : Int32)), .unset, .unset, .unset, .unset, .unset, .unset] []))
        exact at42 _ _ _
      · refine go (fun _ kont => XS.ifNo X0.here hx rfl (hb hby at_32) rfl ((if0 _ _).trans (feq hc32).1) kont) ?_
        show G (s₁.setTop (mkF m 35 #[.val (.long p1), .second, .val (.long p2), .second, .val (.long p3), .second, .val (.int p4), .val (.int (0 : Int32)), .val (.int (1 : Int32)), .unset, .unset, .unset, .unset, .unset, .unset, .unset] []))
        refine go (fun _ kont => XS.iconst X0.here hx rfl (hb hby at_35) kont) ?_
        show G (s₁.setTop (mkF m 36 #[.val (.long p1), .second, .val (.long p2), .second, .val (.long p3), .second, .val (.int p4), .val (.int (0 : Int32)), .val (.int (1 : Int32)), .unset, .unset, .unset, .unset, .unset, .unset, .unset] [(.int (1 : Int32))]))
        refine go (fun _ kont => XS.goto X0.here hx rfl (pc0 := 36) (pc' := 40) rfl (hb hby at_36) (by decide) (by decide) kont) ?_
        show G (s₁.setTop (mkF m 40 #[.val (.long p1), .second, .val (.long p2), .second, .val (.long p3), .second, .val (.int p4), .val (.int (0 : Int32)), .val (.int (1 : Int32)), .unset, .unset, .unset, .unset, .unset, .unset, .unset] [(.int (1 : Int32))]))
        refine go (fun _ kont => XS.istore X0.here hx rfl (hb hby at_40) rfl (l' := #[.val (.long p1), .second, .val (.long p2), .second, .val (.long p3), .second, .val (.int p4), .val (.int (0 : Int32)), .val (.int (1 : Int32)), .val (.int (1 : Int32)), .unset, .unset, .unset, .unset, .unset, .unset]) rfl kont) ?_
        show G (s₁.setTop (mkF m 42 #[.val (.long p1), .second, .val (.long p2), .second, .val (.long p3), .second, .val (.int p4), .val (.int (0 : Int32)), .val (.int (1 : Int32)), .val (.int (1 : Int32)), .unset, .unset, .unset, .unset, .unset, .unset] []))
        exact at42 _ _ _
  · refine go (fun _ kont => XS.ifNo X0.here hx rfl (hb hby at_4) rfl ((if0 _ _).trans (feq hc4).1) kont) ?_
    show G (s₁.setTop (mkF m 7 #[.val (.long p1), .second, .val (.long p2), .second, .val (.long p3), .second, .val (.int p4), .unset, .unset, .unset, .unset, .unset, .unset, .unset, .unset, .unset] []))
    refine go (fun _ kont => XS.iconst X0.here hx rfl (hb hby at_7) kont) ?_
    show G (s₁.setTop (mkF m 8 #[.val (.long p1), .second, .val (.long p2), .second, .val (.long p3), .second, .val (.int p4), .unset, .unset, .unset, .unset, .unset, .unset, .unset, .unset, .unset] [(.int (1 : Int32))]))
    refine go (fun _ kont => XS.goto X0.here hx rfl (pc0 := 8) (pc' := 12) rfl (hb hby at_8) (by decide) (by decide) kont) ?_
    show G (s₁.setTop (mkF m 12 #[.val (.long p1), .second, .val (.long p2), .second, .val (.long p3), .second, .val (.int p4), .unset, .unset, .unset, .unset, .unset, .unset, .unset, .unset, .unset] [(.int (1 : Int32))]))
    refine go (fun _ kont => XS.istore X0.here hx rfl (hb hby at_12) rfl (l' := #[.val (.long p1), .second, .val (.long p2), .second, .val (.long p3), .second, .val (.int p4), .val (.int (1 : Int32)), .unset, .unset, .unset, .unset, .unset, .unset, .unset, .unset]) rfl kont) ?_
    show G (s₁.setTop (mkF m 14 #[.val (.long p1), .second, .val (.long p2), .second, .val (.long p3), .second, .val (.int p4), .val (.int (1 : Int32)), .unset, .unset, .unset, .unset, .unset, .unset, .unset, .unset] []))
    refine go (fun _ kont => XS.iload X0.here hx rfl (hb hby at_14) rfl  kont) ?_
    show G (s₁.setTop (mkF m 16 #[.val (.long p1), .second, .val (.long p2), .second, .val (.long p3), .second, .val (.int p4), .val (.int (1 : Int32)), .unset, .unset, .unset, .unset, .unset, .unset, .unset, .unset] [(.int p4)]))
    refine go (fun _ kont => XS.iconst X0.here hx rfl (hb hby at_16) kont) ?_
    show G (s₁.setTop (mkF m 17 #[.val (.long p1), .second, .val (.long p2), .second, .val (.long p3), .second, .val (.int p4), .val (.int (1 : Int32)), .unset, .unset, .unset, .unset, .unset, .unset, .unset, .unset] [(.int (2 : Int32)), (.int p4)]))
    refine go (fun _ kont => XS.iand X0.here hx rfl (hb hby at_17) rfl kont) ?_
    show G (s₁.setTop (mkF m 18 #[.val (.long p1), .second, .val (.long p2), .second, .val (.long p3), .second, .val (.int p4), .val (.int (1 : Int32)), .unset, .unset, .unset, .unset, .unset, .unset, .unset, .unset] [(.int (p4 &&& (2 : Int32)))]))
    by_cases hc18 : (p4 &&& (2 : Int32)) = (0 : Int32)
    · refine go (fun _ kont => XS.ifYes X0.here hx rfl (pc0 := 18) (pc' := 25) rfl (hb hby at_18) rfl ((if0 _ _).trans (teq hc18).1) (by decide) (by decide) kont) ?_
      show G (s₁.setTop (mkF m 25 #[.val (.long p1), .second, .val (.long p2), .second, .val (.long p3), .second, .val (.int p4), .val (.int (1 : Int32)), .unset, .unset, .unset, .unset, .unset, .unset, .unset, .unset] []))
      refine go (fun _ kont => XS.iconst X0.here hx rfl (hb hby at_25) kont) ?_
      show G (s₁.setTop (mkF m 26 #[.val (.long p1), .second, .val (.long p2), .second, .val (.long p3), .second, .val (.int p4), .val (.int (1 : Int32)), .unset, .unset, .unset, .unset, .unset, .unset, .unset, .unset] [(.int (0 : Int32))]))
      refine go (fun _ kont => XS.istore X0.here hx rfl (hb hby at_26) rfl (l' := #[.val (.long p1), .second, .val (.long p2), .second, .val (.long p3), .second, .val (.int p4), .val (.int (1 : Int32)), .val (.int (0 : Int32)), .unset, .unset, .unset, .unset, .unset, .unset, .unset]) rfl kont) ?_
      show G (s₁.setTop (mkF m 28 #[.val (.long p1), .second, .val (.long p2), .second, .val (.long p3), .second, .val (.int p4), .val (.int (1 : Int32)), .val (.int (0 : Int32)), .unset, .unset, .unset, .unset, .unset, .unset, .unset] []))
      refine go (fun _ kont => XS.iload X0.here hx rfl (hb hby at_28) rfl  kont) ?_
      show G (s₁.setTop (mkF m 30 #[.val (.long p1), .second, .val (.long p2), .second, .val (.long p3), .second, .val (.int p4), .val (.int (1 : Int32)), .val (.int (0 : Int32)), .unset, .unset, .unset, .unset, .unset, .unset, .unset] [(.int p4)]))
      refine go (fun _ kont => XS.iconst X0.here hx rfl (hb hby at_30) kont) ?_
      show G (s₁.setTop (mkF m 31 #[.val (.long p1), .second, .val (.long p2), .second, .val (.long p3), .second, .val (.int p4), .val (.int (1 : Int32)), .val (.int (0 : Int32)), .unset, .unset, .unset, .unset, .unset, .unset, .unset] [(.int (4 : Int32)), (.int p4)]))
      refine go (fun _ kont => XS.iand X0.here hx rfl (hb hby at_31) rfl kont) ?_
      show G (s₁.setTop (mkF m 32 #[.val (.long p1), .second, .val (.long p2), .second, .val (.long p3), .second, .val (.int p4), .val (.int (1 : Int32)), .val (.int (0 : Int32)), .unset, .unset, .unset, .unset, .unset, .unset, .unset] [(.int (p4 &&& (4 : Int32)))]))
      by_cases hc32 : (p4 &&& (4 : Int32)) = (0 : Int32)
      · refine go (fun _ kont => XS.ifYes X0.here hx rfl (pc0 := 32) (pc' := 39) rfl (hb hby at_32) rfl ((if0 _ _).trans (teq hc32).1) (by decide) (by decide) kont) ?_
        show G (s₁.setTop (mkF m 39 #[.val (.long p1), .second, .val (.long p2), .second, .val (.long p3), .second, .val (.int p4), .val (.int (1 : Int32)), .val (.int (0 : Int32)), .unset, .unset, .unset, .unset, .unset, .unset, .unset] []))
        refine go (fun _ kont => XS.iconst X0.here hx rfl (hb hby at_39) kont) ?_
        show G (s₁.setTop (mkF m 40 #[.val (.long p1), .second, .val (.long p2), .second, .val (.long p3), .second, .val (.int p4), .val (.int (1 : Int32)), .val (.int (0 : Int32)), .unset, .unset, .unset, .unset, .unset, .unset, .unset] [(.int (0 : Int32))]))
        refine go (fun _ kont => XS.istore X0.here hx rfl (hb hby at_40) rfl (l' := #[.val (.long p1), .second, .val (.long p2), .second, .val (.long p3), .second, .val (.int p4), .val (.int (1 : Int32)), .val (.int (0 : Int32)), .val (.int (0 : Int32)), .unset, .unset, .unset, .unset, .unset, .unset]) rfl kont) ?_
        show G (s₁.setTop (mkF m 42 #[.val (.long p1), .second, .val (.long p2), .second, .val (.long p3), .second, .val (.int p4), .val (.int (1 : Int32)), .val (.int (0 : Int32)), .val (.int (0 : Int32)), .unset, .unset, .unset, .unset, .unset, .unset] []))
        exact at42 _ _ _
      · refine go (fun _ kont => XS.ifNo X0.here hx rfl (hb hby at_32) rfl ((if0 _ _).trans (feq hc32).1) kont) ?_
        show G (s₁.setTop (mkF m 35 #[.val (.long p1), .second, .val (.long p2), .second, .val (.long p3), .second, .val (.int p4), .val (.int (1 : Int32)), .val (.int (0 : Int32)), .unset, .unset, .unset, .unset, .unset, .unset, .unset] []))
        refine go (fun _ kont => XS.iconst X0.here hx rfl (hb hby at_35) kont) ?_
        show G (s₁.setTop (mkF m 36 #[.val (.long p1), .second, .val (.long p2), .second, .val (.long p3), .second, .val (.int p4), .val (.int (1 : Int32)), .val (.int (0 : Int32)), .unset, .unset, .unset, .unset, .unset, .unset, .unset] [(.int (1 : Int32))]))
        refine go (fun _ kont => XS.goto X0.here hx rfl (pc0 := 36) (pc' := 40) rfl (hb hby at_36) (by decide) (by decide) kont) ?_
        show G (s₁.setTop (mkF m 40 #[.val (.long p1), .second, .val (.long p2), .second, .val (.long p3), .second, .val (.int p4), .val (.int (1 : Int32)), .val (.int (0 : Int32)), .unset, .unset, .unset, .unset, .unset, .unset, .unset] [(.int (1 : Int32))]))
        refine go (fun _ kont => XS.istore X0.here hx rfl (hb hby at_40) rfl (l' := #[.val (.long p1), .second, .val (.long p2), .second, .val (.long p3), .second, .val (.int p4), .val (.int (1 : Int32)), .val (.int (0 : Int32)), .val (.int (1 : Int32)), .unset, .unset, .unset, .unset, .unset, .unset]) rfl kont) ?_
        show G (s₁.setTop (mkF m 42 #[.val (.long p1), .second, .val (.long p2), .second, .val (.long p3), .second, .val (.int p4), .val (.int (1 : Int32)), .val (.int (0 : Int32)), .val (.int (1 : Int32)), .unset, .unset, .unset, .unset, .unset, .unset] []))
        exact at42 _ _ _
    · refine go (fun _ kont => XS.ifNo X0.here hx rfl (hb hby at_18) rfl ((if0 _ _).trans (feq hc18).1) kont) ?_
      show G (s₁.setTop (mkF m 21 #[.val (.long p1), .second, .val (.long p2), .second, .val (.long p3), .second, .val (.int p4), .val (.int (1 : Int32)), .unset, .unset, .unset, .unset, .unset, .unset, .unset, .unset] []))
      refine go (fun _ kont => XS.iconst X0.here hx rfl (hb hby at_21) kont) ?_
      show G (s₁.setTop (mkF m 22 #[.val (.long p1), .second, .val (.long p2), .second, .val (.long p3), .second, .val (.int p4), .val (.int (1 : Int32)), .unset, .unset, .unset, .unset, .unset, .unset, .unset, .unset] [(.int (1 : Int32))]))
      refine go (fun _ kont => XS.goto X0.here hx rfl (pc0 := 22) (pc' := 26) rfl (hb hby at_22) (by decide) (by decide) kont) ?_
      show G (s₁.setTop (mkF m 26 #[.val (.long p1), .second, .val (.long p2), .second, .val (.long p3), .second, .val (.int p4), .val (.int (1 : Int32)), .unset, .unset, .unset, .unset, .unset, .unset, .unset, .unset] [(.int (1 : Int32))]))
      refine go (fun _ kont => XS.istore X0.here hx rfl (hb hby at_26) rfl (l' := #[.val (.long p1), .second, .val (.long p2), .second, .val (.long p3), .second, .val (.int p4), .val (.int (1 : Int32)), .val (.int (1 : Int32)), .unset, .unset, .unset, .unset, .unset, .unset, .unset]) rfl kont) ?_
      show G (s₁.setTop (mkF m 28 #[.val (.long p1), .second, .val (.long p2), .second, .val (.long p3), .second, .val (.int p4), .val (.int (1 : Int32)), .val (.int (1 : Int32)), .unset, .unset, .unset, .unset, .unset, .unset, .unset] []))
      refine go (fun _ kont => XS.iload X0.here hx rfl (hb hby at_28) rfl  kont) ?_
      show G (s₁.setTop (mkF m 30 #[.val (.long p1), .second, .val (.long p2), .second, .val (.long p3), .second, .val (.int p4), .val (.int (1 : Int32)), .val (.int (1 : Int32)), .unset, .unset, .unset, .unset, .unset, .unset, .unset] [(.int p4)]))
      refine go (fun _ kont => XS.iconst X0.here hx rfl (hb hby at_30) kont) ?_
      show G (s₁.setTop (mkF m 31 #[.val (.long p1), .second, .val (.long p2), .second, .val (.long p3), .second, .val (.int p4), .val (.int (1 : Int32)), .val (.int (1 : Int32)), .unset, .unset, .unset, .unset, .unset, .unset, .unset] [(.int (4 : Int32)), (.int p4)]))
      refine go (fun _ kont => XS.iand X0.here hx rfl (hb hby at_31) rfl kont) ?_
      show G (s₁.setTop (mkF m 32 #[.val (.long p1), .second, .val (.long p2), .second, .val (.long p3), .second, .val (.int p4), .val (.int (1 : Int32)), .val (.int (1 : Int32)), .unset, .unset, .unset, .unset, .unset, .unset, .unset] [(.int (p4 &&& (4 : Int32)))]))
      by_cases hc32 : (p4 &&& (4 : Int32)) = (0 : Int32)
      · refine go (fun _ kont => XS.ifYes X0.here hx rfl (pc0 := 32) (pc' := 39) rfl (hb hby at_32) rfl ((if0 _ _).trans (teq hc32).1) (by decide) (by decide) kont) ?_
        show G (s₁.setTop (mkF m 39 #[.val (.long p1), .second, .val (.long p2), .second, .val (.long p3), .second, .val (.int p4), .val (.int (1 : Int32)), .val (.int (1 : Int32)), .unset, .unset, .unset, .unset, .unset, .unset, .unset] []))
        refine go (fun _ kont => XS.iconst X0.here hx rfl (hb hby at_39) kont) ?_
        show G (s₁.setTop (mkF m 40 #[.val (.long p1), .second, .val (.long p2), .second, .val (.long p3), .second, .val (.int p4), .val (.int (1 : Int32)), .val (.int (1 : Int32)), .unset, .unset, .unset, .unset, .unset, .unset, .unset] [(.int (0 : Int32))]))
        refine go (fun _ kont => XS.istore X0.here hx rfl (hb hby at_40) rfl (l' := #[.val (.long p1), .second, .val (.long p2), .second, .val (.long p3), .second, .val (.int p4), .val (.int (1 : Int32)), .val (.int (1 : Int32)), .val (.int (0 : Int32)), .unset, .unset, .unset, .unset, .unset, .unset]) rfl kont) ?_
        show G (s₁.setTop (mkF m 42 #[.val (.long p1), .second, .val (.long p2), .second, .val (.long p3), .second, .val (.int p4), .val (.int (1 : Int32)), .val (.int (1 : Int32)), .val (.int (0 : Int32)), .unset, .unset, .unset, .unset, .unset, .unset] []))
        exact at42 _ _ _
      · refine go (fun _ kont => XS.ifNo X0.here hx rfl (hb hby at_32) rfl ((if0 _ _).trans (feq hc32).1) kont) ?_
        show G (s₁.setTop (mkF m 35 #[.val (.long p1), .second, .val (.long p2), .second, .val (.long p3), .second, .val (.int p4), .val (.int (1 : Int32)), .val (.int (1 : Int32)), .unset, .unset, .unset, .unset, .unset, .unset, .unset] []))
        refine go (fun _ kont => XS.iconst X0.here hx rfl (hb hby at_35) kont) ?_
        show G (s₁.setTop (mkF m 36 #[.val (.long p1), .second, .val (.long p2), .second, .val (.long p3), .second, .val (.int p4), .val (.int (1 : Int32)), .val (.int (1 : Int32)), .unset, .unset, .unset, .unset, .unset, .unset, .unset] [(.int (1 : Int32))]))
        refine go (fun _ kont => XS.goto X0.here hx rfl (pc0 := 36) (pc' := 40) rfl (hb hby at_36) (by decide) (by decide) kont) ?_
        show G (s₁.setTop (mkF m 40 #[.val (.long p1), .second, .val (.long p2), .second, .val (.long p3), .second, .val (.int p4), .val (.int (1 : Int32)), .val (.int (1 : Int32)), .unset, .unset, .unset, .unset, .unset, .unset, .unset] [(.int (1 : Int32))]))
        refine go (fun _ kont => XS.istore X0.here hx rfl (hb hby at_40) rfl (l' := #[.val (.long p1), .second, .val (.long p2), .second, .val (.long p3), .second, .val (.int p4), .val (.int (1 : Int32)), .val (.int (1 : Int32)), .val (.int (1 : Int32)), .unset, .unset, .unset, .unset, .unset, .unset]) rfl kont) ?_
        show G (s₁.setTop (mkF m 42 #[.val (.long p1), .second, .val (.long p2), .second, .val (.long p3), .second, .val (.int p4), .val (.int (1 : Int32)), .val (.int (1 : Int32)), .val (.int (1 : Int32)), .unset, .unset, .unset, .unset, .unset, .unset] []))
        exact at42 _ _ _
set_option maxRecDepth 65536 in
set_option maxHeartbeats 40000000 in
theorem comes_1 {Post : Tables → Env → Array Value → State → Outcome → State → Prop} (hpost : ∀ tb e args s v u, (limb_1_1.after args s (.returned v) u = true ∧ limb_1_2.after args s (.returned v) u = true ∧ True) → FrameEnd s (.returned v) u (Jvm.fieldLocs frame_1_writes args s ++ Jvm.arrayLocs frame_1_arrays args s ++ Jvm.staticLocs frame_1_statics s) 24 199104 → Post tb e args s (.returned v) u) :
    ArmFor flags0 classFile x code maxLocals ret World_1 tables_1 room_1 Calls_1 rest_1 Pre_1 Post := by
  intro l hfl _ _ p e ha hc hk s m args below hf hA hF happ hP
  obtain ⟨hcalls, hrest, hpre⟩ := hP
  obtain ⟨-, -, -, hnamed, -, -, -, hat⟩ := (Spec.applies_iff hf).mp happ
  obtain ⟨hg, hn⟩ := and_e (Cond.before_iff.mp (show (Jvm.Cond.and given_1 narrow_1).before args s = true from hpre))
  obtain ⟨hcnt, ha0⟩ := and_e hg
  obtain ⟨hk0, ha1⟩ := and_e ha0
  obtain ⟨hk1, ha2⟩ := and_e ha1
  obtain ⟨hk2, ha3⟩ := and_e ha2
  have hk3 := ha3
  obtain ⟨w0, w1, w2, w3, rfl⟩ : ∃ w0 w1 w2 w3 : Value, args = #[w0, w1, w2, w3] := by
    have hs : args.size = 4 := by simpa [Cond.value, given_1] using hcnt
    obtain ⟨L⟩ := args
    match L, hs with
    | [w0, w1, w2, w3], _ => exact ⟨w0, w1, w2, w3, rfl⟩
  have hw := fun d (hd : d ∈ tables_1) => atoms_spec (ws := Jvm.Cond.code x code maxLocals ret :: tables_1) hat d (List.mem_cons_of_mem _ hd)
  have hfit : Fit s := fun {y c} hc i hi => by
    obtain ⟨ha, rfl⟩ := Array.getElem?_eq_some_iff.mp hc
    have q := List.all_eq_true.mp ((Array.all_eq_true_iff_forall_mem.mp hF) _ (Array.getElem_mem ha)) i (List.mem_range.mpr hi)
    simpa [Array.getElem?_eq_getElem hi] using q
  obtain ⟨i0, ei0⟩ := isL_v hk0
  obtain rfl : w0 = (.long i0) := Option.some.inj ei0
  obtain ⟨i1, ei1⟩ := isL_v hk1
  obtain rfl : w1 = (.long i1) := Option.some.inj ei1
  obtain ⟨i2, ei2⟩ := isL_v hk2
  obtain rfl : w2 = (.long i2) := Option.some.inj ei2
  obtain ⟨i3, ei3⟩ := is_v hk3
  obtain rfl : w3 = (.int i3) := Option.some.inj ei3
  obtain ⟨y1, yr1⟩ := and_e (Cond.before_iff.mp (show rest_1_c.before _ s = true from hrest))
  obtain ⟨y2, yr2⟩ := and_e yr1
  obtain ⟨y3, yr3⟩ := and_e yr2
  have S : Sta s s.heap "java/lang/StrictMath" "$assertionsDisabled" "Z" (.int 1) := Sta.start (own_static1 y3) (Or.inl (Cond.before_iff.mpr y2))
  obtain ⟨n, o, h1, h2, h3, _, L, rfl, ⟨rfl, N⟩, hq⟩ := own_rm_law l s _ hw tables_1 i0 i1 i2 i3 s.heap s.heap.size (Nat.le_refl _) rfl S p e ha hc hk s m _ below hf ((Spec.applies_iff_loose hf).mp happ).1 ⟨rfl, State.Warmed39.refl s, rfl⟩ trivial
  refine ⟨n, _, h1, h2, h3, hpost _ _ _ _ _ _ ⟨Cond.after_iff.mpr rfl, Cond.after_iff.mpr (eq_i res_at (Term.int_eval (1)) rfl), trivial⟩ ⟨hq.1, hq.2.1, (hq.2.2.sift fun y hy => Or.inr (N y hy)).mono (by decide) (by decide)⟩⟩
theorem main_1_1 : Claimed_1_1 := comes_1 fun _ _ _ _ _ _ h hF => ⟨h.1, hF⟩
theorem main_1_2 : Claimed_1_2 := comes_1 fun _ _ _ _ _ _ h hF => ⟨h.2.1, hF⟩
end Jvm.Pilot.@@N@@
namespace Jvm.Pilot.@@N@@
open Jvm Jvm.ClassFile Sem Op Lib Jvm.Free Jvm.Stand Jvm.Pilot.@@N@@.Jvm.D
/-! MADE BY PROGRAM (witnessworld.py) out of the Statement's table words and the real class files: 20 classes; the members and pool entries that the words name. The judged class is class 1, her method 1. -/
namespace start1
open Jvm.ClassFile
def u (s : String) : CpInfo := .utf8 (stringToUtf16 s)
/-- a pool by its gaps: so many unusable entries, then the entry; so many at the end -/
def gap : Nat → List CpInfo → List CpInfo
  | 0, r => r
  | n + 1, r => .unusable :: gap n r
def poolList (es : List (Nat × CpInfo)) (last : Nat) : List CpInfo := es.foldr (fun e r => gap e.1 (e.2 :: r)) (gap last [])
def pool (es : List (Nat × CpInfo)) (last : Nat) : Array CpInfo := ⟨poolList es last⟩
def fileOf (pool : Array CpInfo) (this : Nat) (attrs : Array Attribute := #[]) (ms : Array MethodInfo := #[]) (fl : Nat := 33) (sup : Nat := 0) (ifs : Array Nat := #[]) (fds : Array FieldInfo := #[]) : ClassFile where
  minorVersion := 0
  majorVersion := 65
  constantPool := pool
  accessFlags := fl
  thisClass := this
  superClass := sup
  interfaces := ifs
  fields := fds
  methods := ms
  attributes := attrs
def plain (name : String) (sup : Option ClassId) : Class where
  name := name
  kind := .ordinary
  loader := none
  accessFlags := 33
  super := sup
  interfaces := #[]
  cf := none
  fields := #[]
  methods := #[]
  instanceTypes := #[]
  staticTypes := #[]
  resolved := #[]
  callSites := []
  init := .initialized
  statics := none
  mirror := none

def pool0 : Array CpInfo := pool [(5, u "<init>"), (0, u "()V"), (1, .class_ 10), (1, u "java/lang/Object")] 113

def k0c0 : Code := { maxStack := 0, maxLocals := 1, code := object_method_1_code, exceptionTable := #[], attributes := #[] }
def k0m0 : Method := { name := "<init>", desc := "()V", sig := { parameters := [], returnType := none }, accessFlags := 1, code := some k0c0 }
/-- java/lang/Object -/
def k0 : Class := { plain "java/lang/Object" none with
  accessFlags := 33
  interfaces := #[]
  cf := some (fileOf pool0 8 #[] #[{ accessFlags := 1, nameIndex := 5, descriptorIndex := 6, attributes := #[] }] 33 0 #[] #[])
  fields := #[]
  methods := #[k0m0]
  instanceTypes := #[]
  staticTypes := #[]
  resolved := Array.replicate 124 none
  statics := none }

def pool1 : Array CpInfo := pool [(2, .class_ 4), (0, .nameAndType 5 6), (0, u "java/lang/Object"), (0, u "<init>"), (0, u "()V"), (0, .class_ 8), (0, u "com/example/keyspace/keyspace/bench/Latencies"), (0, .methodref 7 3), (0, .methodref 7 11), (0, .nameAndType 12 13), (0, u "record"), (0, u "(J)V"), (0, .methodref 7 15), (0, .nameAndType 16 17), (0, u "add"), (0, u "(Lcom/example/keyspace/keyspace/bench/Latencies;)V"), (0, .double 4636737291354636288), (1, .methodref 7 21), (0, .nameAndType 22 23), (0, u "percentile"), (0, u "(D)J"), (0, .class_ 25), (0, u "com/example/keyspace/keyspace/bench/LatenciesAddPinLaw"), (2, u "law"), (0, u "(JJJI)Z")] 3

def k1m0 : Method := { name := "<init>", desc := "()V", sig := { parameters := [], returnType := none }, accessFlags := 1, code := none }
def k1c1 : Code := { maxStack := 5, maxLocals := 16, code := code, exceptionTable := #[], attributes := #[] }
def k1m1 : Method := { name := "law", desc := "(JJJI)Z", sig := { parameters := [.long, .long, .long, .int], returnType := some .boolean }, accessFlags := 9, code := some k1c1 }
/-- com/example/keyspace/keyspace/bench/LatenciesAddPinLaw -/
def k1 : Class := { plain "com/example/keyspace/keyspace/bench/LatenciesAddPinLaw" (some 0) with
  accessFlags := 49
  interfaces := #[]
  cf := some (fileOf pool1 24 #[] #[{ accessFlags := 1, nameIndex := 5, descriptorIndex := 6, attributes := #[] }, { accessFlags := 9, nameIndex := 28, descriptorIndex := 29, attributes := #[] }] 49 2 #[] #[])
  fields := #[]
  methods := #[k1m0, k1m1]
  instanceTypes := #[]
  staticTypes := #[]
  resolved := Array.replicate 33 none
  statics := none }

def pool2 : Array CpInfo := pool [(1, .class_ 2), (0, u "com/example/keyspace/keyspace/bench/Latencies"), (0, .class_ 4), (0, u "java/lang/Long"), (0, .methodref 6 7), (0, .class_ 8), (0, .nameAndType 9 10), (0, u "java/lang/Object"), (0, u "<init>"), (0, u "()V"), (0, .integer 55296), (0, .fieldref 1 13), (0, .nameAndType 14 15), (0, u "counts"), (0, u "[J"), (0, .methodref 17 18), (0, .class_ 19), (0, .nameAndType 20 21), (0, u "java/lang/Math"), (0, u "max"), (0, u "(JJ)J"), (0, .methodref 1 23), (0, .nameAndType 24 25), (0, u "bucket"), (0, u "(J)I"), (0, .fieldref 1 27), (0, .nameAndType 28 29), (0, u "total"), (0, u "J"), (0, .double 4636737291354636288), (1, .methodref 17 33), (0, .nameAndType 34 35), (0, u "ceil"), (0, u "(D)D"), (0, .methodref 1 37), (0, .nameAndType 38 39), (0, u "middle"), (0, u "(I)J"), (0, .long 2048), (1, .methodref 3 43), (0, .nameAndType 44 25), (0, u "numberOfLeadingZeros"), (0, .long 2), (1, u "SUB_BITS"), (0, u "I"), (2, u "SUB_BUCKETS"), (1, u "EXACT"), (0, u "BUCKETS"), (2, u "record"), (0, u "(J)V"), (0, u "add"), (0, u "(Lcom/example/keyspace/keyspace/bench/Latencies;)V"), (1, u "percentile"), (0, u "(D)J")] 2

def k2c0 : Code := { maxStack := 2, maxLocals := 1, code := prog_4_method_1_code, exceptionTable := #[], attributes := #[] }
def k2m0 : Method := { name := "<init>", desc := "()V", sig := { parameters := [], returnType := none }, accessFlags := 0, code := some k2c0 }
def k2c1 : Code := { maxStack := 6, maxLocals := 3, code := prog_4_method_2_code, exceptionTable := #[], attributes := #[] }
def k2m1 : Method := { name := "record", desc := "(J)V", sig := { parameters := [.long], returnType := none }, accessFlags := 0, code := some k2c1 }
def k2c2 : Code := { maxStack := 6, maxLocals := 3, code := prog_4_method_3_code, exceptionTable := #[], attributes := #[] }
def k2m2 : Method := { name := "add", desc := "(Lcom/example/keyspace/keyspace/bench/Latencies;)V", sig := { parameters := [(.object "com/example/keyspace/keyspace/bench/Latencies")], returnType := none }, accessFlags := 0, code := some k2c2 }
def k2c3 : Code := { maxStack := 4, maxLocals := 8, code := prog_4_method_4_code, exceptionTable := #[], attributes := #[] }
def k2m3 : Method := { name := "percentile", desc := "(D)J", sig := { parameters := [.double], returnType := some .long }, accessFlags := 0, code := some k2c3 }
def k2c4 : Code := { maxStack := 4, maxLocals := 4, code := prog_4_method_5_code, exceptionTable := #[], attributes := #[] }
def k2m4 : Method := { name := "bucket", desc := "(J)I", sig := { parameters := [.long], returnType := some .int }, accessFlags := 10, code := some k2c4 }
def k2c5 : Code := { maxStack := 6, maxLocals := 6, code := prog_4_method_6_code, exceptionTable := #[], attributes := #[] }
def k2m5 : Method := { name := "middle", desc := "(I)J", sig := { parameters := [.int], returnType := some .long }, accessFlags := 10, code := some k2c5 }
/-- com/example/keyspace/keyspace/bench/Latencies -/
def k2 : Class := { plain "com/example/keyspace/keyspace/bench/Latencies" (some 0) with
  accessFlags := 32
  interfaces := #[]
  cf := some (fileOf pool2 1 #[] #[{ accessFlags := 0, nameIndex := 9, descriptorIndex := 10, attributes := #[] }, { accessFlags := 0, nameIndex := 57, descriptorIndex := 58, attributes := #[] }, { accessFlags := 0, nameIndex := 59, descriptorIndex := 60, attributes := #[] }, { accessFlags := 0, nameIndex := 62, descriptorIndex := 63, attributes := #[] }, { accessFlags := 10, nameIndex := 24, descriptorIndex := 25, attributes := #[] }, { accessFlags := 10, nameIndex := 38, descriptorIndex := 39, attributes := #[] }] 32 6 #[] #[{ accessFlags := 26, nameIndex := 47, descriptorIndex := 48, attributes := #[] }, { accessFlags := 26, nameIndex := 51, descriptorIndex := 48, attributes := #[] }, { accessFlags := 24, nameIndex := 53, descriptorIndex := 29, attributes := #[] }, { accessFlags := 26, nameIndex := 54, descriptorIndex := 48, attributes := #[] }, { accessFlags := 18, nameIndex := 14, descriptorIndex := 15, attributes := #[] }, { accessFlags := 2, nameIndex := 28, descriptorIndex := 29, attributes := #[] }])
  fields := #[{ name := "SUB_BITS", type := .int, accessFlags := 26, slot := 0, constantValue := 0 }, { name := "SUB_BUCKETS", type := .int, accessFlags := 26, slot := 1, constantValue := 0 }, { name := "EXACT", type := .long, accessFlags := 24, slot := 2, constantValue := 0 }, { name := "BUCKETS", type := .int, accessFlags := 26, slot := 3, constantValue := 0 }, { name := "counts", type := (.array .long), accessFlags := 18, slot := 0, constantValue := 0 }, { name := "total", type := .long, accessFlags := 2, slot := 1, constantValue := 0 }]
  methods := #[k2m0, k2m1, k2m2, k2m3, k2m4, k2m5]
  instanceTypes := #[(.array .long), .long]
  staticTypes := #[.int, .int, .long, .int]
  resolved := Array.replicate 66 none
  statics := none }

def pool3 : Array CpInfo := pool [(1, .class_ 2), (0, u "java/lang/Math"), (1, .class_ 6), (1, u "java/lang/Object"), (0, u "<init>"), (0, u "()V"), (1, .class_ 12), (1, u "java/lang/StrictMath"), (1, u "(D)D"), (38, .methodref 10 54), (0, .nameAndType 55 14), (0, u "ceil"), (23, .methodref 80 81), (0, .class_ 82), (0, .nameAndType 83 84), (0, u "java/lang/Double"), (0, u "doubleToRawLongBits"), (0, u "(D)J"), (2, .long 9218868437227405312), (10, .class_ 100), (1, u "java/lang/Math$RandomNumberGeneratorHolder"), (20, u "(JJ)J"), (50, u "negativeZeroFloatBits"), (0, u "J"), (2, u "negativeZeroDoubleBits"), (21, u "max"), (46, u "$assertionsDisabled"), (0, u "Z"), (33, u "getExponent"), (0, u "(D)I"), (40, .long 1023), (15, u "twoToTheDoubleScaleDown"), (0, u "D"), (4, u "twoToTheDoubleScaleUp"), (9, u "E"), (3, u "PI"), (2, u "TAU"), (2, u "DEGREES_TO_RADIANS"), (0, u "RADIANS_TO_DEGREES")] 94

def k3m0 : Method := { name := "<init>", desc := "()V", sig := { parameters := [], returnType := none }, accessFlags := 2, code := none }
def k3c1 : Code := { maxStack := 2, maxLocals := 2, code := jdk_29_method_16_code, exceptionTable := #[], attributes := #[] }
def k3m1 : Method := { name := "ceil", desc := "(D)D", sig := { parameters := [.double], returnType := some .double }, accessFlags := 9, code := some k3c1 }
def k3c2 : Code := { maxStack := 4, maxLocals := 4, code := jdk_29_method_66_code, exceptionTable := #[], attributes := #[] }
def k3m2 : Method := { name := "max", desc := "(JJ)J", sig := { parameters := [.long, .long], returnType := some .long }, accessFlags := 9, code := some k3c2 }
def k3c3 : Code := { maxStack := 4, maxLocals := 2, code := jdk_29_method_92_code, exceptionTable := #[], attributes := #[] }
def k3m3 : Method := { name := "getExponent", desc := "(D)I", sig := { parameters := [.double], returnType := some .int }, accessFlags := 9, code := some k3c3 }
/-- java/lang/Math -/
def k3 : Class := { plain "java/lang/Math" (some 0) with
  accessFlags := 49
  interfaces := #[]
  cf := some (fileOf pool3 1 #[.nestMembers #[98]] #[{ accessFlags := 2, nameIndex := 7, descriptorIndex := 8, attributes := #[] }, { accessFlags := 9, nameIndex := 55, descriptorIndex := 14, attributes := #[] }, { accessFlags := 9, nameIndex := 198, descriptorIndex := 121, attributes := #[] }, { accessFlags := 9, nameIndex := 280, descriptorIndex := 281, attributes := #[] }] 49 4 #[] #[{ accessFlags := 25, nameIndex := 354, descriptorIndex := 339, attributes := #[] }, { accessFlags := 25, nameIndex := 358, descriptorIndex := 339, attributes := #[] }, { accessFlags := 25, nameIndex := 361, descriptorIndex := 339, attributes := #[] }, { accessFlags := 26, nameIndex := 364, descriptorIndex := 339, attributes := #[] }, { accessFlags := 26, nameIndex := 365, descriptorIndex := 339, attributes := #[] }, { accessFlags := 26, nameIndex := 172, descriptorIndex := 173, attributes := #[] }, { accessFlags := 26, nameIndex := 176, descriptorIndex := 173, attributes := #[] }, { accessFlags := 8, nameIndex := 344, descriptorIndex := 339, attributes := #[] }, { accessFlags := 8, nameIndex := 338, descriptorIndex := 339, attributes := #[] }, { accessFlags := 4120, nameIndex := 245, descriptorIndex := 246, attributes := #[] }])
  fields := #[{ name := "E", type := .double, accessFlags := 25, slot := 0, constantValue := 0 }, { name := "PI", type := .double, accessFlags := 25, slot := 1, constantValue := 0 }, { name := "TAU", type := .double, accessFlags := 25, slot := 2, constantValue := 0 }, { name := "DEGREES_TO_RADIANS", type := .double, accessFlags := 26, slot := 3, constantValue := 0 }, { name := "RADIANS_TO_DEGREES", type := .double, accessFlags := 26, slot := 4, constantValue := 0 }, { name := "negativeZeroFloatBits", type := .long, accessFlags := 26, slot := 5, constantValue := 0 }, { name := "negativeZeroDoubleBits", type := .long, accessFlags := 26, slot := 6, constantValue := 0 }, { name := "twoToTheDoubleScaleUp", type := .double, accessFlags := 8, slot := 7, constantValue := 0 }, { name := "twoToTheDoubleScaleDown", type := .double, accessFlags := 8, slot := 8, constantValue := 0 }, { name := "$assertionsDisabled", type := .boolean, accessFlags := 4120, slot := 9, constantValue := 0 }]
  methods := #[k3m0, k3m1, k3m2, k3m3]
  instanceTypes := #[]
  staticTypes := #[.double, .double, .double, .double, .double, .long, .long, .double, .double, .boolean]
  resolved := Array.replicate 460 none
  statics := none }

def pool4 : Array CpInfo := pool [(1, .class_ 2), (0, u "java/lang/StrictMath"), (1, .class_ 6), (1, u "java/lang/Object"), (0, u "<init>"), (0, u "()V"), (5, u "(D)D"), (16, .class_ 33), (1, u "java/lang/Math"), (24, .double 9223372036854775808), (1, .methodref 1 61), (0, .nameAndType 62 63), (0, u "floorOrCeil"), (0, u "(DDDD)D"), (2, .methodref 31 67), (0, .nameAndType 68 69), (0, u "getExponent"), (0, u "(D)I"), (0, .fieldref 1 71), (0, .nameAndType 72 73), (0, u "$assertionsDisabled"), (0, u "Z"), (3, .methodref 78 79), (0, .class_ 80), (0, .nameAndType 81 82), (0, u "java/lang/Double"), (0, u "doubleToRawLongBits"), (0, u "(D)J"), (2, .long 4503599627370495), (1, .long 18446744073709551615), (1, .methodref 78 90), (0, .nameAndType 91 92), (0, u "longBitsToDouble"), (0, u "(J)D"), (21, .class_ 116), (1, u "java/lang/StrictMath$RandomNumberGeneratorHolder"), (222, u "E"), (0, u "D"), (3, u "PI"), (2, u "TAU"), (26, u "ceil")] 61

def k4m0 : Method := { name := "<init>", desc := "()V", sig := { parameters := [], returnType := none }, accessFlags := 2, code := none }
def k4c1 : Code := { maxStack := 8, maxLocals := 2, code := jdk_128_method_16_code, exceptionTable := #[], attributes := #[] }
def k4m1 : Method := { name := "ceil", desc := "(D)D", sig := { parameters := [.double], returnType := some .double }, accessFlags := 9, code := some k4c1 }
def k4c2 : Code := { maxStack := 6, maxLocals := 15, code := jdk_128_method_18_code, exceptionTable := #[], attributes := #[] }
def k4m2 : Method := { name := "floorOrCeil", desc := "(DDDD)D", sig := { parameters := [.double, .double, .double, .double], returnType := some .double }, accessFlags := 10, code := some k4c2 }
/-- java/lang/StrictMath -/
def k4 : Class := { plain "java/lang/StrictMath" (some 0) with
  accessFlags := 49
  interfaces := #[]
  cf := some (fileOf pool4 1 #[.nestMembers #[114]] #[{ accessFlags := 2, nameIndex := 7, descriptorIndex := 8, attributes := #[] }, { accessFlags := 9, nameIndex := 374, descriptorIndex := 14, attributes := #[] }, { accessFlags := 10, nameIndex := 62, descriptorIndex := 63, attributes := #[] }] 49 4 #[] #[{ accessFlags := 25, nameIndex := 339, descriptorIndex := 340, attributes := #[] }, { accessFlags := 25, nameIndex := 344, descriptorIndex := 340, attributes := #[] }, { accessFlags := 25, nameIndex := 347, descriptorIndex := 340, attributes := #[] }, { accessFlags := 4120, nameIndex := 72, descriptorIndex := 73, attributes := #[] }])
  fields := #[{ name := "E", type := .double, accessFlags := 25, slot := 0, constantValue := 0 }, { name := "PI", type := .double, accessFlags := 25, slot := 1, constantValue := 0 }, { name := "TAU", type := .double, accessFlags := 25, slot := 2, constantValue := 0 }, { name := "$assertionsDisabled", type := .boolean, accessFlags := 4120, slot := 3, constantValue := 0 }]
  methods := #[k4m0, k4m1, k4m2]
  instanceTypes := #[]
  staticTypes := #[.double, .double, .double, .boolean]
  resolved := Array.replicate 436 none
  statics := some 0 }

def pool5 : Array CpInfo := pool [(1, .class_ 2), (0, u "java/io/Serializable"), (0, .class_ 4), (0, u "java/lang/Object")] 2

/-- java/io/Serializable -/
def k5 : Class := { plain "java/io/Serializable" (some 0) with
  accessFlags := 1537
  interfaces := #[]
  cf := some (fileOf pool5 1 #[] #[] 1537 3 #[] #[])
  fields := #[]
  methods := #[]
  instanceTypes := #[]
  staticTypes := #[]
  resolved := Array.replicate 7 none
  statics := none }

def pool6 : Array CpInfo := pool [(2, .class_ 4), (1, u "java/lang/Object"), (0, u "<init>"), (0, u "()V"), (1, .class_ 10), (1, u "java/lang/Number"), (2, .class_ 14), (0, u "java/io/Serializable"), (0, u "serialVersionUID"), (0, u "J")] 20

def k6m0 : Method := { name := "<init>", desc := "()V", sig := { parameters := [], returnType := none }, accessFlags := 1, code := none }
/-- java/lang/Number -/
def k6 : Class := { plain "java/lang/Number" (some 0) with
  accessFlags := 1057
  interfaces := #[5]
  cf := some (fileOf pool6 8 #[] #[{ accessFlags := 1, nameIndex := 5, descriptorIndex := 6, attributes := #[] }] 1057 2 #[13] #[{ accessFlags := 26, nameIndex := 15, descriptorIndex := 16, attributes := #[] }])
  fields := #[{ name := "serialVersionUID", type := .long, accessFlags := 26, slot := 0, constantValue := 0 }]
  methods := #[k6m0]
  instanceTypes := #[]
  staticTypes := #[.long]
  resolved := Array.replicate 37 none
  statics := none }

def pool7 : Array CpInfo := pool [(1, .class_ 2), (0, u "java/lang/Comparable"), (0, .class_ 4), (0, u "java/lang/Object")] 7

/-- java/lang/Comparable -/
def k7 : Class := { plain "java/lang/Comparable" (some 0) with
  accessFlags := 1537
  interfaces := #[]
  cf := some (fileOf pool7 1 #[] #[] 1537 3 #[] #[])
  fields := #[]
  methods := #[]
  instanceTypes := #[]
  staticTypes := #[]
  resolved := Array.replicate 12 none
  statics := none }

def pool8 : Array CpInfo := pool [(1, .class_ 2), (0, u "java/lang/constant/Constable"), (0, .class_ 4), (0, u "java/lang/Object")] 6

/-- java/lang/constant/Constable -/
def k8 : Class := { plain "java/lang/constant/Constable" (some 0) with
  accessFlags := 1537
  interfaces := #[]
  cf := some (fileOf pool8 1 #[] #[] 1537 3 #[] #[])
  fields := #[]
  methods := #[]
  instanceTypes := #[]
  staticTypes := #[]
  resolved := Array.replicate 11 none
  statics := none }

def pool9 : Array CpInfo := pool [(1, .class_ 2), (0, u "java/lang/constant/ConstantDesc"), (0, .class_ 4), (0, u "java/lang/Object")] 32

/-- java/lang/constant/ConstantDesc -/
def k9 : Class := { plain "java/lang/constant/ConstantDesc" (some 0) with
  accessFlags := 1537
  interfaces := #[]
  cf := some (fileOf pool9 1 #[] #[] 1537 3 #[] #[])
  fields := #[]
  methods := #[]
  instanceTypes := #[]
  staticTypes := #[]
  resolved := Array.replicate 37 none
  statics := none }

def pool10 : Array CpInfo := pool [(1, .class_ 2), (0, u "java/lang/Double"), (46, u "(D)J"), (64, .class_ 116), (1, u "java/lang/Number"), (3, u "value"), (0, u "D"), (14, u "doubleToRawLongBits"), (36, u "TYPE"), (0, u "Ljava/lang/Class;"), (0, .class_ 176), (0, u "java/lang/Comparable"), (0, .class_ 178), (0, u "java/lang/constant/Constable"), (0, .class_ 180), (0, u "java/lang/constant/ConstantDesc"), (0, u "POSITIVE_INFINITY"), (3, u "NEGATIVE_INFINITY"), (2, u "NaN"), (2, u "MAX_VALUE"), (0, u "MIN_NORMAL"), (0, u "MIN_VALUE"), (2, u "SIZE"), (0, u "I"), (1, u "PRECISION"), (1, u "MAX_EXPONENT"), (1, u "MIN_EXPONENT"), (1, u "BYTES"), (3, u "serialVersionUID"), (0, u "J"), (48, u "longBitsToDouble"), (0, u "(J)D")] 29

def k10m0 : Method := { name := "doubleToRawLongBits", desc := "(D)J", sig := { parameters := [.double], returnType := some .long }, accessFlags := 265, code := none }
def k10m1 : Method := { name := "longBitsToDouble", desc := "(J)D", sig := { parameters := [.long], returnType := some .double }, accessFlags := 265, code := none }
/-- java/lang/Double -/
def k10 : Class := { plain "java/lang/Double" (some 6) with
  accessFlags := 49
  interfaces := #[7, 8, 9]
  cf := some (fileOf pool10 1 #[] #[{ accessFlags := 265, nameIndex := 136, descriptorIndex := 49, attributes := #[] }, { accessFlags := 265, nameIndex := 259, descriptorIndex := 260, attributes := #[] }] 49 114 #[175, 177, 179] #[{ accessFlags := 25, nameIndex := 181, descriptorIndex := 121, attributes := #[] }, { accessFlags := 25, nameIndex := 185, descriptorIndex := 121, attributes := #[] }, { accessFlags := 25, nameIndex := 188, descriptorIndex := 121, attributes := #[] }, { accessFlags := 25, nameIndex := 191, descriptorIndex := 121, attributes := #[] }, { accessFlags := 25, nameIndex := 192, descriptorIndex := 121, attributes := #[] }, { accessFlags := 25, nameIndex := 193, descriptorIndex := 121, attributes := #[] }, { accessFlags := 25, nameIndex := 196, descriptorIndex := 197, attributes := #[] }, { accessFlags := 25, nameIndex := 199, descriptorIndex := 197, attributes := #[] }, { accessFlags := 25, nameIndex := 201, descriptorIndex := 197, attributes := #[] }, { accessFlags := 25, nameIndex := 203, descriptorIndex := 197, attributes := #[] }, { accessFlags := 25, nameIndex := 205, descriptorIndex := 197, attributes := #[] }, { accessFlags := 25, nameIndex := 173, descriptorIndex := 174, attributes := #[] }, { accessFlags := 18, nameIndex := 120, descriptorIndex := 121, attributes := #[] }, { accessFlags := 26, nameIndex := 209, descriptorIndex := 210, attributes := #[] }])
  fields := #[{ name := "POSITIVE_INFINITY", type := .double, accessFlags := 25, slot := 0, constantValue := 0 }, { name := "NEGATIVE_INFINITY", type := .double, accessFlags := 25, slot := 1, constantValue := 0 }, { name := "NaN", type := .double, accessFlags := 25, slot := 2, constantValue := 0 }, { name := "MAX_VALUE", type := .double, accessFlags := 25, slot := 3, constantValue := 0 }, { name := "MIN_NORMAL", type := .double, accessFlags := 25, slot := 4, constantValue := 0 }, { name := "MIN_VALUE", type := .double, accessFlags := 25, slot := 5, constantValue := 0 }, { name := "SIZE", type := .int, accessFlags := 25, slot := 6, constantValue := 0 }, { name := "PRECISION", type := .int, accessFlags := 25, slot := 7, constantValue := 0 }, { name := "MAX_EXPONENT", type := .int, accessFlags := 25, slot := 8, constantValue := 0 }, { name := "MIN_EXPONENT", type := .int, accessFlags := 25, slot := 9, constantValue := 0 }, { name := "BYTES", type := .int, accessFlags := 25, slot := 10, constantValue := 0 }, { name := "TYPE", type := (.object "java/lang/Class"), accessFlags := 25, slot := 11, constantValue := 0 }, { name := "value", type := .double, accessFlags := 18, slot := 0, constantValue := 0 }, { name := "serialVersionUID", type := .long, accessFlags := 26, slot := 12, constantValue := 0 }]
  methods := #[k10m0, k10m1]
  instanceTypes := #[.double]
  staticTypes := #[.double, .double, .double, .double, .double, .double, .int, .int, .int, .int, .int, (.object "java/lang/Class"), .long]
  resolved := Array.replicate 290 none
  statics := none }

def pool11 : Array CpInfo := pool [(1, .class_ 2), (0, u "java/lang/Long"), (15, .class_ 20), (1, u "java/lang/Integer"), (79, u "numberOfLeadingZeros"), (0, u "(J)I"), (133, .class_ 237), (1, u "java/lang/Long$LongCache"), (33, .class_ 272), (0, u "java/lang/Number"), (2, u "value"), (0, u "J"), (31, .methodref 18 309), (0, .nameAndType 100 310), (0, u "(I)I"), (50, u "TYPE"), (0, u "Ljava/lang/Class;"), (0, .class_ 364), (0, u "java/lang/Comparable"), (0, .class_ 366), (0, u "java/lang/constant/Constable"), (0, .class_ 368), (0, u "java/lang/constant/ConstantDesc"), (0, u "MIN_VALUE"), (1, u "MAX_VALUE"), (4, u "SIZE"), (0, u "I"), (1, u "BYTES"), (1, u "serialVersionUID")] 142

def k11c0 : Code := { maxStack := 3, maxLocals := 3, code := jdk_35_method_48_code, exceptionTable := #[], attributes := #[] }
def k11m0 : Method := { name := "numberOfLeadingZeros", desc := "(J)I", sig := { parameters := [.long], returnType := some .int }, accessFlags := 9, code := some k11c0 }
/-- java/lang/Long -/
def k11 : Class := { plain "java/lang/Long" (some 6) with
  accessFlags := 49
  interfaces := #[7, 8, 9]
  cf := some (fileOf pool11 1 #[.nestMembers #[235]] #[{ accessFlags := 9, nameIndex := 100, descriptorIndex := 101, attributes := #[] }] 49 271 #[363, 365, 367] #[{ accessFlags := 25, nameIndex := 369, descriptorIndex := 276, attributes := #[] }, { accessFlags := 25, nameIndex := 371, descriptorIndex := 276, attributes := #[] }, { accessFlags := 25, nameIndex := 361, descriptorIndex := 362, attributes := #[] }, { accessFlags := 18, nameIndex := 275, descriptorIndex := 276, attributes := #[] }, { accessFlags := 25, nameIndex := 376, descriptorIndex := 377, attributes := #[] }, { accessFlags := 25, nameIndex := 379, descriptorIndex := 377, attributes := #[] }, { accessFlags := 26, nameIndex := 381, descriptorIndex := 276, attributes := #[] }])
  fields := #[{ name := "MIN_VALUE", type := .long, accessFlags := 25, slot := 0, constantValue := 0 }, { name := "MAX_VALUE", type := .long, accessFlags := 25, slot := 1, constantValue := 0 }, { name := "TYPE", type := (.object "java/lang/Class"), accessFlags := 25, slot := 2, constantValue := 0 }, { name := "value", type := .long, accessFlags := 18, slot := 0, constantValue := 0 }, { name := "SIZE", type := .int, accessFlags := 25, slot := 3, constantValue := 0 }, { name := "BYTES", type := .int, accessFlags := 25, slot := 4, constantValue := 0 }, { name := "serialVersionUID", type := .long, accessFlags := 26, slot := 5, constantValue := 0 }]
  methods := #[k11m0]
  instanceTypes := #[.long]
  staticTypes := #[.long, .long, (.object "java/lang/Class"), .int, .int, .long]
  resolved := Array.replicate 524 none
  statics := none }

def pool12 : Array CpInfo := pool [(1, .class_ 2), (0, u "java/lang/Integer"), (16, u "digits"), (0, u "[C"), (32, u "numberOfLeadingZeros"), (0, u "(I)I"), (30, u "DigitOnes"), (0, u "[B"), (2, u "DigitTens"), (99, .class_ 190), (0, u "java/lang/Integer$IntegerCache"), (3, u "I"), (8, .class_ 204), (0, u "java/lang/Number"), (2, u "value"), (56, .integer 65536), (37, u "TYPE"), (0, u "Ljava/lang/Class;"), (0, .class_ 305), (0, u "java/lang/Comparable"), (0, .class_ 307), (0, u "java/lang/constant/Constable"), (0, .class_ 309), (0, u "java/lang/constant/ConstantDesc"), (0, u "MIN_VALUE"), (1, u "MAX_VALUE"), (3, u "SIZE"), (1, u "BYTES"), (1, u "serialVersionUID"), (0, u "J")] 131

def k12c0 : Code := { maxStack := 3, maxLocals := 2, code := jdk_33_method_47_code, exceptionTable := #[], attributes := #[] }
def k12m0 : Method := { name := "numberOfLeadingZeros", desc := "(I)I", sig := { parameters := [.int], returnType := some .int }, accessFlags := 9, code := some k12c0 }
/-- java/lang/Integer -/
def k12 : Class := { plain "java/lang/Integer" (some 6) with
  accessFlags := 49
  interfaces := #[7, 8, 9]
  cf := some (fileOf pool12 1 #[.nestMembers #[189]] #[{ accessFlags := 9, nameIndex := 53, descriptorIndex := 54, attributes := #[] }] 49 203 #[304, 306, 308] #[{ accessFlags := 25, nameIndex := 310, descriptorIndex := 194, attributes := #[] }, { accessFlags := 25, nameIndex := 312, descriptorIndex := 194, attributes := #[] }, { accessFlags := 25, nameIndex := 302, descriptorIndex := 303, attributes := #[] }, { accessFlags := 24, nameIndex := 19, descriptorIndex := 20, attributes := #[] }, { accessFlags := 24, nameIndex := 89, descriptorIndex := 86, attributes := #[] }, { accessFlags := 24, nameIndex := 85, descriptorIndex := 86, attributes := #[] }, { accessFlags := 18, nameIndex := 207, descriptorIndex := 194, attributes := #[] }, { accessFlags := 25, nameIndex := 316, descriptorIndex := 194, attributes := #[] }, { accessFlags := 25, nameIndex := 318, descriptorIndex := 194, attributes := #[] }, { accessFlags := 26, nameIndex := 320, descriptorIndex := 321, attributes := #[] }])
  fields := #[{ name := "MIN_VALUE", type := .int, accessFlags := 25, slot := 0, constantValue := 0 }, { name := "MAX_VALUE", type := .int, accessFlags := 25, slot := 1, constantValue := 0 }, { name := "TYPE", type := (.object "java/lang/Class"), accessFlags := 25, slot := 2, constantValue := 0 }, { name := "digits", type := (.array .char), accessFlags := 24, slot := 3, constantValue := 0 }, { name := "DigitTens", type := (.array .byte), accessFlags := 24, slot := 4, constantValue := 0 }, { name := "DigitOnes", type := (.array .byte), accessFlags := 24, slot := 5, constantValue := 0 }, { name := "value", type := .int, accessFlags := 18, slot := 0, constantValue := 0 }, { name := "SIZE", type := .int, accessFlags := 25, slot := 6, constantValue := 0 }, { name := "BYTES", type := .int, accessFlags := 25, slot := 7, constantValue := 0 }, { name := "serialVersionUID", type := .long, accessFlags := 26, slot := 8, constantValue := 0 }]
  methods := #[k12m0]
  instanceTypes := #[.int]
  staticTypes := #[.int, .int, (.object "java/lang/Class"), (.array .char), (.array .byte), (.array .byte), .int, .int, .long]
  resolved := Array.replicate 453 none
  statics := none }

def pool13 : Array CpInfo := pool [(1, u "java/lang/Cloneable"), (0, .class_ 1), (0, u "java/lang/Object"), (0, .class_ 3)] 3

/-- java/lang/Cloneable -/
def k13 : Class := { plain "java/lang/Cloneable" (some 0) with
  accessFlags := 1537
  interfaces := #[]
  cf := some (fileOf pool13 2 #[] #[] 1537 4 #[] #[])
  fields := #[]
  methods := #[]
  instanceTypes := #[]
  staticTypes := #[]
  resolved := Array.replicate 8 none
  statics := none }

/-- the primitive byte -/
def k14 : Class := { plain "byte" none with kind := .primitive 'B', accessFlags := 0x411 }
/-- [B -/
def k15 : Class := { plain "[B" (some 0) with kind := .array 14 .byte, interfaces := #[13, 5], accessFlags := 1041 }

/-- the primitive int -/
def k16 : Class := { plain "int" none with kind := .primitive 'I', accessFlags := 0x411 }
/-- [I -/
def k17 : Class := { plain "[I" (some 0) with kind := .array 16 .int, interfaces := #[13, 5], accessFlags := 1041 }

/-- the primitive long -/
def k18 : Class := { plain "long" none with kind := .primitive 'J', accessFlags := 0x411 }
/-- [J -/
def k19 : Class := { plain "[J" (some 0) with kind := .array 18 .long, interfaces := #[13, 5], accessFlags := 1041 }

def heap : Heap := #[{ cls := 4, slots := #[.double 0, .double 0, .double 0, .int 1], vm := .statics 4 }]
def classes : Array Class := #[k0, k1, k2, k3, k4, k5, k6, k7, k8, k9, k10, k11, k12, k13, k14, k15, k16, k17, k18, k19]
def interned : List (Array UInt16 × Addr) := []
def slotsUsed : Nat := 4
def theMethod : MethodId := ⟨1, 1⟩
def args0 : Array Value := #[.long 5, .long 6, .long 7, .int 7]
def aboutOver (below : List Frame) : State where
  vm := { classes := classes, interned := interned.toArray }
  heap := heap
  slotsUsed := slotsUsed
  threads := #[{ frames := .invoking theMethod args0 :: below }]
def below0 : List Frame := [.native { method := ⟨0, 0⟩, args := #[] }]
def about1 : State := aboutOver below0
def p0 : Program := .bare "" "" ""
def e0 : Env := launch0.env 0 0 0
theorem w_frames : about1.frames = Frame.invoking theMethod args0 :: below0 := rfl
set_option maxRecDepth 65536 in
theorem w_args : argsFit about1.vm theMethod args0 = true := by decide +kernel
set_option maxRecDepth 65536 in
theorem w_heap : heapFits about1 = true := by decide +kernel
set_option maxRecDepth 65536 in
theorem w_runnable : about1.curStatus? = some .runnable := by decide +kernel
set_option maxRecDepth 65536 in
theorem w_alone : about1.alone = true := by decide +kernel
set_option maxRecDepth 65536 in
theorem w_named : about1.methodNamed? x = some theMethod := by decide +kernel
set_option maxRecDepth 65536 in
theorem w_hears : about1.hears theMethod below0 = true := by decide +kernel
set_option maxRecDepth 65536 in
theorem w_ripe : about1.ripe theMethod args0 below0 = true := by decide +kernel
theorem w_running : about1.status = .running := rfl
set_option maxRecDepth 65536 in
theorem w_room : about1.hasRoom e0.platform room_1 = true :=
  launch0.hasRoom_least _ room_1 (by decide +kernel) (by decide +kernel) (by decide +kernel) (by decide +kernel) (by decide +kernel) (by decide +kernel)
theorem allAtoms_all (ts : List Jvm.Cond) (a : Array Jvm.Value) (st : Jvm.State) : (allAtoms ts).before a st = ts.all (fun c => c.before a st) := by
  induction ts with
  | nil => rfl
  | cons c t ih =>
    show (Jvm.Cond.and c (allAtoms t)).before a st = _
    rw [Jvm.Cond.before_and, ih, List.all_cons]
def words1 : List Jvm.Cond := Jvm.Cond.code x code maxLocals ret :: tables_1
/-- a 'code' word, met by the world's own term for the bytes: nothing is compared byte by byte -/
theorem code_word {y : MethodName} {bytes : ByteArray} {mx : Nat} {rt : Option FieldType} {a : Array Value} {s : State} {m : MethodId} {meth : Method} {c : Code} (h1 : s.methodNamed? y = some m) (h2 : s.vm.method? m = some meth) (h3 : meth.code = some c) (h4 : c.code = bytes)
    (h5 : (c.maxLocals == mx && c.exceptionTable.isEmpty && decide (c.maxStack ≤ mostOperands) && decide (meth.sig.returnType = rt) && !meth.locks && decide (parseMethodDescriptor y.desc = some meth.sig)) = true) : (Jvm.Cond.code y bytes mx rt).before a s = true := by
  simp only [Bool.and_eq_true, beq_iff_eq, Bool.not_eq_true', decide_eq_true_eq] at h5
  obtain ⟨⟨⟨⟨⟨g1, g2⟩, g3⟩, g4⟩, g5⟩, g6⟩ := h5
  simp [Cond.before, Cond.holds, Cond.value, h1, h2, h3, h4, g1, g2, g3, g4, g5, g6]
def isCode : Jvm.Cond → Bool
  | .code _ _ _ _ => true
  | _ => false
theorem all_split {L : List Jvm.Cond} {P : Jvm.Cond → Bool} (h1 : L.all (fun c => isCode c || P c) = true) (h2 : ∀ c ∈ L.filter isCode, P c = true) : L.all P = true := by
  refine List.all_eq_true.mpr fun c hc => ?_
  have h := List.all_eq_true.mp h1 c hc
  rcases Bool.eq_false_or_eq_true (isCode c) with hi | hi
  · exact h2 c (List.mem_filter.mpr ⟨hc, hi⟩)
  · simpa [hi] using h
set_option maxRecDepth 65536 in
theorem w_c0 : (Jvm.Cond.code x code maxLocals ret).before args0 about1 = true := code_word (m := ⟨1, 1⟩) (meth := k1m1) (c := k1c1) (by decide +kernel) rfl rfl rfl (by decide +kernel)
set_option maxRecDepth 65536 in
theorem w_c1 : (Jvm.Cond.code ({ cls := "com/example/keyspace/keyspace/bench/Latencies", name := "<init>", desc := "()V" } : Jvm.MethodName) prog_4_method_1_code (1 : Nat) (Option.none : Option Jvm.ClassFile.FieldType)).before args0 about1 = true := code_word (m := ⟨2, 0⟩) (meth := k2m0) (c := k2c0) (by decide +kernel) rfl rfl rfl (by decide +kernel)
set_option maxRecDepth 65536 in
theorem w_c2 : (Jvm.Cond.code ({ cls := "java/lang/Object", name := "<init>", desc := "()V" } : Jvm.MethodName) object_method_1_code (1 : Nat) (Option.none : Option Jvm.ClassFile.FieldType)).before args0 about1 = true := code_word (m := ⟨0, 0⟩) (meth := k0m0) (c := k0c0) (by decide +kernel) rfl rfl rfl (by decide +kernel)
set_option maxRecDepth 65536 in
theorem w_c3 : (Jvm.Cond.code ({ cls := "com/example/keyspace/keyspace/bench/Latencies", name := "record", desc := "(J)V" } : Jvm.MethodName) prog_4_method_2_code (3 : Nat) (Option.none : Option Jvm.ClassFile.FieldType)).before args0 about1 = true := code_word (m := ⟨2, 1⟩) (meth := k2m1) (c := k2c1) (by decide +kernel) rfl rfl rfl (by decide +kernel)
set_option maxRecDepth 65536 in
theorem w_c4 : (Jvm.Cond.code ({ cls := "java/lang/Math", name := "max", desc := "(JJ)J" } : Jvm.MethodName) jdk_29_method_66_code (4 : Nat) (Option.some Jvm.ClassFile.FieldType.long)).before args0 about1 = true := code_word (m := ⟨3, 2⟩) (meth := k3m2) (c := k3c2) (by decide +kernel) rfl rfl rfl (by decide +kernel)
set_option maxRecDepth 65536 in
theorem w_c5 : (Jvm.Cond.code ({ cls := "com/example/keyspace/keyspace/bench/Latencies", name := "bucket", desc := "(J)I" } : Jvm.MethodName) prog_4_method_5_code (4 : Nat) (Option.some Jvm.ClassFile.FieldType.int)).before args0 about1 = true := code_word (m := ⟨2, 4⟩) (meth := k2m4) (c := k2c4) (by decide +kernel) rfl rfl rfl (by decide +kernel)
set_option maxRecDepth 65536 in
theorem w_c6 : (Jvm.Cond.code ({ cls := "com/example/keyspace/keyspace/bench/Latencies", name := "add", desc := "(Lcom/example/keyspace/keyspace/bench/Latencies;)V" } : Jvm.MethodName) prog_4_method_3_code (3 : Nat) (Option.none : Option Jvm.ClassFile.FieldType)).before args0 about1 = true := code_word (m := ⟨2, 2⟩) (meth := k2m2) (c := k2c2) (by decide +kernel) rfl rfl rfl (by decide +kernel)
set_option maxRecDepth 65536 in
theorem w_c7 : (Jvm.Cond.code ({ cls := "com/example/keyspace/keyspace/bench/Latencies", name := "percentile", desc := "(D)J" } : Jvm.MethodName) prog_4_method_4_code (8 : Nat) (Option.some Jvm.ClassFile.FieldType.long)).before args0 about1 = true := code_word (m := ⟨2, 3⟩) (meth := k2m3) (c := k2c3) (by decide +kernel) rfl rfl rfl (by decide +kernel)
set_option maxRecDepth 65536 in
theorem w_c8 : (Jvm.Cond.code ({ cls := "java/lang/Math", name := "ceil", desc := "(D)D" } : Jvm.MethodName) jdk_29_method_16_code (2 : Nat) (Option.some Jvm.ClassFile.FieldType.double)).before args0 about1 = true := code_word (m := ⟨3, 1⟩) (meth := k3m1) (c := k3c1) (by decide +kernel) rfl rfl rfl (by decide +kernel)
set_option maxRecDepth 65536 in
theorem w_c9 : (Jvm.Cond.code ({ cls := "java/lang/StrictMath", name := "ceil", desc := "(D)D" } : Jvm.MethodName) jdk_128_method_16_code (2 : Nat) (Option.some Jvm.ClassFile.FieldType.double)).before args0 about1 = true := code_word (m := ⟨4, 1⟩) (meth := k4m1) (c := k4c1) (by decide +kernel) rfl rfl rfl (by decide +kernel)
set_option maxRecDepth 65536 in
theorem w_c10 : (Jvm.Cond.code ({ cls := "java/lang/StrictMath", name := "floorOrCeil", desc := "(DDDD)D" } : Jvm.MethodName) jdk_128_method_18_code (15 : Nat) (Option.some Jvm.ClassFile.FieldType.double)).before args0 about1 = true := code_word (m := ⟨4, 2⟩) (meth := k4m2) (c := k4c2) (by decide +kernel) rfl rfl rfl (by decide +kernel)
set_option maxRecDepth 65536 in
theorem w_c11 : (Jvm.Cond.code ({ cls := "java/lang/Math", name := "getExponent", desc := "(D)I" } : Jvm.MethodName) jdk_29_method_92_code (2 : Nat) (Option.some Jvm.ClassFile.FieldType.int)).before args0 about1 = true := code_word (m := ⟨3, 3⟩) (meth := k3m3) (c := k3c3) (by decide +kernel) rfl rfl rfl (by decide +kernel)
set_option maxRecDepth 65536 in
theorem w_c12 : (Jvm.Cond.code ({ cls := "com/example/keyspace/keyspace/bench/Latencies", name := "middle", desc := "(I)J" } : Jvm.MethodName) prog_4_method_6_code (6 : Nat) (Option.some Jvm.ClassFile.FieldType.long)).before args0 about1 = true := code_word (m := ⟨2, 5⟩) (meth := k2m5) (c := k2c5) (by decide +kernel) rfl rfl rfl (by decide +kernel)
set_option maxRecDepth 65536 in
theorem w_c13 : (Jvm.Cond.code ({ cls := "java/lang/Long", name := "numberOfLeadingZeros", desc := "(J)I" } : Jvm.MethodName) jdk_35_method_48_code (3 : Nat) (Option.some Jvm.ClassFile.FieldType.int)).before args0 about1 = true := code_word (m := ⟨11, 0⟩) (meth := k11m0) (c := k11c0) (by decide +kernel) rfl rfl rfl (by decide +kernel)
set_option maxRecDepth 65536 in
theorem w_c14 : (Jvm.Cond.code ({ cls := "java/lang/Integer", name := "numberOfLeadingZeros", desc := "(I)I" } : Jvm.MethodName) jdk_33_method_47_code (2 : Nat) (Option.some Jvm.ClassFile.FieldType.int)).before args0 about1 = true := code_word (m := ⟨12, 0⟩) (meth := k12m0) (c := k12c0) (by decide +kernel) rfl rfl rfl (by decide +kernel)
def codes1 : List Jvm.Cond := [Jvm.Cond.code x code maxLocals ret, Jvm.Cond.code ({ cls := "com/example/keyspace/keyspace/bench/Latencies", name := "<init>", desc := "()V" } : Jvm.MethodName) prog_4_method_1_code (1 : Nat) (Option.none : Option Jvm.ClassFile.FieldType), Jvm.Cond.code ({ cls := "java/lang/Object", name := "<init>", desc := "()V" } : Jvm.MethodName) object_method_1_code (1 : Nat) (Option.none : Option Jvm.ClassFile.FieldType), Jvm.Cond.code ({ cls := "com/example/keyspace/keyspace/bench/Latencies", name := "record", desc := "(J)V" } : Jvm.MethodName) prog_4_method_2_code (3 : Nat) (Option.none : Option Jvm.ClassFile.FieldType), Jvm.Cond.code ({ cls := "java/lang/Math", name := "max", desc := "(JJ)J" } : Jvm.MethodName) jdk_29_method_66_code (4 : Nat) (Option.some Jvm.ClassFile.FieldType.long), Jvm.Cond.code ({ cls := "com/example/keyspace/keyspace/bench/Latencies", name := "bucket", desc := "(J)I" } : Jvm.MethodName) prog_4_method_5_code (4 : Nat) (Option.some Jvm.ClassFile.FieldType.int), Jvm.Cond.code ({ cls := "com/example/keyspace/keyspace/bench/Latencies", name := "add", desc := "(Lcom/example/keyspace/keyspace/bench/Latencies;)V" } : Jvm.MethodName) prog_4_method_3_code (3 : Nat) (Option.none : Option Jvm.ClassFile.FieldType), Jvm.Cond.code ({ cls := "com/example/keyspace/keyspace/bench/Latencies", name := "percentile", desc := "(D)J" } : Jvm.MethodName) prog_4_method_4_code (8 : Nat) (Option.some Jvm.ClassFile.FieldType.long), Jvm.Cond.code ({ cls := "java/lang/Math", name := "ceil", desc := "(D)D" } : Jvm.MethodName) jdk_29_method_16_code (2 : Nat) (Option.some Jvm.ClassFile.FieldType.double), Jvm.Cond.code ({ cls := "java/lang/StrictMath", name := "ceil", desc := "(D)D" } : Jvm.MethodName) jdk_128_method_16_code (2 : Nat) (Option.some Jvm.ClassFile.FieldType.double), Jvm.Cond.code ({ cls := "java/lang/StrictMath", name := "floorOrCeil", desc := "(DDDD)D" } : Jvm.MethodName) jdk_128_method_18_code (15 : Nat) (Option.some Jvm.ClassFile.FieldType.double), Jvm.Cond.code ({ cls := "java/lang/Math", name := "getExponent", desc := "(D)I" } : Jvm.MethodName) jdk_29_method_92_code (2 : Nat) (Option.some Jvm.ClassFile.FieldType.int), Jvm.Cond.code ({ cls := "com/example/keyspace/keyspace/bench/Latencies", name := "middle", desc := "(I)J" } : Jvm.MethodName) prog_4_method_6_code (6 : Nat) (Option.some Jvm.ClassFile.FieldType.long), Jvm.Cond.code ({ cls := "java/lang/Long", name := "numberOfLeadingZeros", desc := "(J)I" } : Jvm.MethodName) jdk_35_method_48_code (3 : Nat) (Option.some Jvm.ClassFile.FieldType.int), Jvm.Cond.code ({ cls := "java/lang/Integer", name := "numberOfLeadingZeros", desc := "(I)I" } : Jvm.MethodName) jdk_33_method_47_code (2 : Nat) (Option.some Jvm.ClassFile.FieldType.int)]
set_option maxRecDepth 65536 in
theorem codes_eq : words1.filter isCode = codes1 := rfl
theorem w_codes : ∀ c ∈ words1.filter isCode, c.before args0 about1 = true := by
  rw [codes_eq]
  intro c hc
  simp only [codes1, List.mem_cons, List.not_mem_nil, or_false] at hc
  rcases hc with rfl | rfl | rfl | rfl | rfl | rfl | rfl | rfl | rfl | rfl | rfl | rfl | rfl | rfl | rfl
  · exact w_c0
  · exact w_c1
  · exact w_c2
  · exact w_c3
  · exact w_c4
  · exact w_c5
  · exact w_c6
  · exact w_c7
  · exact w_c8
  · exact w_c9
  · exact w_c10
  · exact w_c11
  · exact w_c12
  · exact w_c13
  · exact w_c14
set_option maxRecDepth 65536 in
theorem w_t1 : (words1.take 24).all (fun c => isCode c || c.before args0 about1) = true := by decide +kernel
set_option maxRecDepth 65536 in
theorem w_t2 : ((words1.drop 24).take 24).all (fun c => isCode c || c.before args0 about1) = true := by decide +kernel
set_option maxRecDepth 65536 in
theorem w_t3 : (((words1.drop 24).drop 24).take 24).all (fun c => isCode c || c.before args0 about1) = true := by decide +kernel
set_option maxRecDepth 65536 in
theorem w_t4 : (((words1.drop 24).drop 24).drop 24).all (fun c => isCode c || c.before args0 about1) = true := by decide +kernel
theorem w_tables : (allAtoms (Jvm.Cond.code x code maxLocals ret :: tables_1)).before args0 about1 = true := by
  rw [allAtoms_all]
  show words1.all (fun c => c.before args0 about1) = true
  refine all_split ?_ w_codes
  rw [← List.take_append_drop 24 words1, List.all_append, w_t1, ← List.take_append_drop 24 (words1.drop 24), List.all_append, w_t2, ← List.take_append_drop 24 ((words1.drop 24).drop 24), List.all_append, w_t3, w_t4]
  rfl
set_option maxRecDepth 65536 in
theorem w_rest : rest_1_c.before args0 about1 = true := by decide +kernel
set_option maxRecDepth 65536 in
theorem w_case : (Jvm.Cond.and given_1 narrow_1).before args0 about1 = true := by decide +kernel
theorem w_applies : (headSpec (Jvm.Cond.code x code maxLocals ret :: tables_1) room_1).applies x e0.platform about1 = true :=
  (Spec.applies_iff w_frames).mpr ⟨w_running, w_runnable, w_alone, w_named, w_hears, w_ripe, w_room, w_tables⟩
theorem atStart : AtStart classFile x code maxLocals ret World_1 tables_1 room_1 Calls_1 rest_1 Pre_1 launch0 p0 e0 about1 theMethod args0 below0 :=
  ⟨lists_1, trivial, launch0.admits_env _ _ _, launch0.least_env, fairChoices_fair.cas, fairChoices_fair.clock, w_frames, w_args, w_heap, w_applies, trivial, w_rest, w_case⟩
end start1
theorem witness_1 : WitnessClaimed_1 := ⟨start1.p0, start1.e0, start1.about1, start1.theMethod, start1.args0, start1.below0, start1.atStart⟩
end Jvm.Pilot.@@N@@
