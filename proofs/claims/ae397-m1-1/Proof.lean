import JvmDerived
import JvmDerived.Pilot.@@N@@Statement
import JvmDerived.Pilot.@@N@@Code
set_option linter.unusedVariables false
set_option linter.unusedSimpArgs false
namespace Jvm.Pilot.@@N@@
open Jvm Jvm.ClassFile Sem Op Lib Jvm.Free Jvm.Stand Jvm.LawKit Jvm.RoadKit Bundle Jvm.Pilot.@@N@@.Jvm.D
/-! own_: A WALK AS A CHAIN OF 'Go': from T, with the frame g on top, the run comes to a state of which P holds. A fork (by_cases, rcases) may stand anywhere in the chain. -/
def Go (p : Program) (e : Env) (below : List Frame) (P : State → Prop) (T : State) (g : JFrame) : Prop := ∃ t, Steps p.tables e below (T.setTop g) t ∧ P t
/-- what a body owes at its end -/
def EndP (below : List Frame) (s : State) (Q : Option Value → Heap → List Loc → Prop) (ce sl : Nat) (t : State) : Prop := ∃ o, t.status = .running ∧ Ended t below o ∧ ∃ v L, o = .returned v ∧ Q v t.heap L ∧ FrameEnd s o t L ce sl
/-- a method's contract: called with as' on the heap h0 it returns, and Q holds of what it returns, the heap that it leaves and the places that it wrote -/
abbrev Does (l : Launch) (y : MethodName) (bytes : ByteArray) (maxL : Nat) (rt : Option FieldType) (ws : List Jvm.Cond) (rm : Room) (as' : Array Value) (Z : State) (h0 : Heap) (Q : Option Value → Heap → List Loc → Prop) : Prop :=
  MetFree l y (head1 (Jvm.Cond.code y bytes maxL rt :: ws) rm) (fun a U => a = as' ∧ Z.Warmed39 U.vm ∧ U.heap = h0) (fun _ _ _ _ _ => True) (fun _ U o U' => ∃ v L, o = .returned v ∧ Q v U'.heap L ∧ FrameEnd U o U' L rm.cells rm.slots)
section Own
variable {p : Program} {l : Launch} {e : Env} {R : Room} {s : State} {m : MethodId} {args : Array Value} {below : List Frame} {meth : Method} {c : Code} {T T' : State} {locs : List Loc} {cells slots : Nat} {P : State → Prop} {g g' : JFrame} {Z : State} {h h0 : Heap} {a0 as' : Array Value} {own : String} {index : Nat} {y z : MethodName} {bytes : ByteArray} {maxL : Nat} {rt : Option FieldType} {rm : Room} {ws : List Jvm.Cond} {Q : Option Value → Heap → List Loc → Prop} {ce sl W : Nat} {argsL rest : List Value}
theorem Go.st (hh : Go p e below P T' g') (st : ∀ t, Steps p.tables e below (T'.setTop g') t → Steps p.tables e below (T.setTop g) t) : Go p e below P T g := by
  obtain ⟨t, h1, h2⟩ := hh
  exact ⟨t, st t h1, h2⟩
theorem Go.cast (q : g = g') (hh : Go p e below P T g') : Go p e below P T g := q ▸ hh
theorem Go.ret {v : Option Value} (X : Stand p l e R s m args below meth c T locs cells slots) (hv : meth.sig.returnType = none → v = none) (hlocks : meth.locks = false) (hc : cells ≤ ce) (hs : slots ≤ sl) (hq : Q v T.heap locs)
    (st : ∀ fs, (∀ (f : JFrame) (acts : List Action), f.method = m → f.locked = none → f.entered = [] → (doReturn e (T.setTop f) acts v).1 = T.setFrames fs) → Steps p.tables e below (T.setTop g) (T.setFrames fs)) : Go p e below (EndP below s Q ce sl) T g := by
  obtain ⟨fs, hr, hrun, hended, hW, hsame⟩ := X.leave (v := v) hv hlocks
  exact ⟨_, st fs hr, _, hrun, hended, _, _, rfl, hq, ⟨_, rfl⟩, hW, hsame.mono hc hs⟩
/-- a value is returned -/
theorem Go.retV {w : Value} {t : FieldType} {i : Instr} {pc : Nat} {Ls : Array Slot} (X : Stand p l e R s m args below meth c T locs cells slots) (hx : p.tables.exec = Jvm.exec) (hret : meth.sig.returnType = some t) (hlocks : meth.locks = false) (hc : cells ≤ ce) (hs : slots ≤ sl) (hn : narrow t w = w)
    (hi : (i = .ireturn ∧ (t = .int ∨ t = .boolean ∨ t = .byte ∨ t = .char ∨ t = .short) ∧ ∃ z, w = .int z) ∨ (i = .lreturn ∧ t = .long ∧ ∃ z, w = .long z) ∨ (i = .dreturn ∧ t = .double ∧ ∃ z, w = .double z) ∨ (i = .freturn ∧ t = .float ∧ ∃ z, w = .float z) ∨ (i = .areturn ∧ t.isReference = true ∧ w.isRef = true))
    (hd : decode c.code pc = .ok (i, 1)) (hq : Q (some w) T.heap locs) : Go p e below (EndP below s Q ce sl) T (mkF m pc Ls (w :: rest)) :=
  Go.ret X (fun q => by rw [hret] at q; cases q) hlocks hc hs hq fun _ hr => retOut X hx hret hn hi hd hr
/-- nothing is returned -/
theorem Go.retU {pc : Nat} {Ls : Array Slot} (X : Stand p l e R s m args below meth c T locs cells slots) (hx : p.tables.exec = Jvm.exec) (hret : meth.sig.returnType = none) (hlocks : meth.locks = false) (hc : cells ≤ ce) (hs : slots ≤ sl)
    (hd : decode c.code pc = .ok (.return_, 1)) (hq : Q none T.heap locs) : Go p e below (EndP below s Q ce sl) T (mkF m pc Ls []) :=
  Go.ret X (fun _ => rfl) hlocks hc hs hq fun _ hr => X.returnOut hx hret hd hr
/-- a body that goes well has its contract -/
theorem Does.of (hp : plainFor y = true) (body : ∀ (p : Program) (e : Env) (s : State) (m : MethodId) (below : List Frame) (meth : Method) (c : Code) (s₁ : State), p.tables.exec = Jvm.exec → c.code = bytes → c.maxLocals = maxL → meth.sig.returnType = rt → meth.locks = false → s.vm.findClass y.cls = some m.cls → meth.name = y.name → Z.Warmed39 s.vm →
      Stand p l e rm s m as' below meth c s₁ [] 0 0 → s₁.heap = h0 → Go p e below (EndP below s Q rm.cells rm.slots) s₁ (entryFrame m as' maxL)) : Does l y bytes maxL rt ws rm as' Z h0 Q := by
  refine MetFree.of_bodySF hp hisR ?_
  intro p e s m args below meth c s₁ Bd hml0 hP hK
  obtain ⟨rfl, hZ, hh⟩ := hP
  obtain ⟨t, h1, o, h2, h3, h4⟩ := body p e s m below meth c s₁ Bd.exec Bd.bytes hml0 Bd.returns Bd.notSynchronized (findClass_of_methodNamed Bd.named) (name_of_methodNamed Bd.named Bd.method).1 hZ (Stand.of_body Bd) (by rw [← hh, Bd.state]; rfl)
  exact ⟨t, o, h1, h2, h3, h4⟩
/-- a static call by the callee's contract -/
theorem Go.callS (X : Stand p l e R s m args below meth c T locs cells slots) (hx : p.tables.exec = Jvm.exec) (hZ : Z.Warmed39 s.vm) (hown : s.vm.findClass own = some m.cls) (w1 : (Jvm.Cond.methodLink own index y).before a0 Z = true) (w2 : (Jvm.Cond.static y).before a0 Z = true) (w3 : (Jvm.Cond.initialized y.cls).before a0 Z = true) (w4 : (Jvm.Cond.code y bytes maxL rt).before a0 Z = true)
    (hy : y.cls ≠ "java/lang/invoke/MethodHandle" ∧ y.cls ≠ "java/lang/invoke/VarHandle") (D : Does l y bytes maxL rt [] rm argsL.toArray Z h Q) (eT : T.heap = h) (hf : rm.frames + 1 ≤ R.frames) (hl : W + (maxL + 11) + rm.locals ≤ R.locals) (hc : cells + rm.cells ≤ R.cells) (hs : slots + rm.slots ≤ R.slots)
    (hg : g.method = m) (hsize : g.locals.size = c.maxLocals) (hlen : ∀ sig, parseMethodDescriptor y.desc = some sig → argsL.length = sig.parameters.length) (hstack : g.stack = argsL.reverse ++ rest) (hW : 2 * g.monitorRoom + (rest.map fun v => v.category).sum ≤ W) (hdg : decode c.code g.pc = .ok (.invokestatic index, 3))
    (k : ∀ (v : Option Value) (T' : State) (L : List Loc), Stand p l e R s m args below meth c T' (locs ++ L) (cells + rm.cells) (slots + rm.slots) → Q v T'.heap L → Go p e below P T' { g with pc := g.pc + 3, stack := v.toList ++ rest }) : Go p e below P T g := by
  obtain ⟨v, _, ⟨T1, L1, k1, n1⟩, -, X1, ⟨Lc, hQ, l1, y1, z1⟩, st⟩ := Jvm.LawKit.callS X hx (y := y) hown (mvT hZ w1) (mvT hZ w2) (mvT hZ w3) (mvT hZ w4) hy (backOf (W := W) D hZ w4 w3 hf hl) (g := g) hg hsize (argsL := argsL) (rest := rest) hlen hstack hW hdg (fun _ _ => ⟨rfl, eT, hc, hs⟩)
  dsimp only [Pt.U, Pt.locs, Pt.cells, Pt.slots] at X1 l1 y1 z1 st hQ
  subst l1 y1 z1
  exact Go.st (k v T1 Lc X1 hQ) st
/-- a virtual call by the contract of the method that it selects -/
theorem Go.callV {C : String} {a : Addr} (X : Stand p l e R s m args below meth c T locs cells slots) (hx : p.tables.exec = Jvm.exec) (hZ : Z.Warmed39 s.vm) (hown : s.vm.findClass own = some m.cls) (w1 : (Jvm.Cond.methodLink own index y).before a0 Z = true) (w2 : (Jvm.Cond.declares y).before a0 Z = true) (w5 : (Jvm.Cond.selects C y y).before a0 Z = true) (w6 : (Jvm.Cond.instanceMethod y).before a0 Z = true) (w3 : (Jvm.Cond.initialized y.cls).before a0 Z = true) (w4 : (Jvm.Cond.code y bytes maxL rt).before a0 Z = true)
    (hy : y.cls ≠ "java/lang/invoke/MethodHandle" ∧ y.cls ≠ "java/lang/invoke/VarHandle") (A : Exa Z h a C) (D : Does l y bytes maxL rt [] rm (.ref a :: argsL).toArray Z h Q) (eT : T.heap = h) (hf : rm.frames + 1 ≤ R.frames) (hl : W + (maxL + 11) + rm.locals ≤ R.locals) (hc : cells + rm.cells ≤ R.cells) (hs : slots + rm.slots ≤ R.slots)
    (hg : g.method = m) (hsize : g.locals.size = c.maxLocals) (hlen : ∀ sig, parseMethodDescriptor y.desc = some sig → argsL.length = sig.parameters.length) (hstack : g.stack = argsL.reverse ++ .ref a :: rest) (hW : 2 * g.monitorRoom + (rest.map fun v => v.category).sum ≤ W) (hdg : decode c.code g.pc = .ok (.invokevirtual index, 3))
    (k : ∀ (v : Option Value) (T' : State) (L : List Loc), Stand p l e R s m args below meth c T' (locs ++ L) (cells + rm.cells) (slots + rm.slots) → Q v T'.heap L → Go p e below P T' { g with pc := g.pc + 3, stack := v.toList ++ rest }) : Go p e below P T g := by
  obtain ⟨cq, kq, qa, qb, qc⟩ := isOf hZ eT A
  obtain ⟨v, _, ⟨T1, L1, k1, n1⟩, -, X1, ⟨Lc, hQ, l1, y1, z1⟩, st⟩ := X.virtualBack hx (y := y) (z := y) hown (mvT hZ w1) (mvT hZ w2) (notFace_of_selects (args := #[]) (mvT hZ w5)) (mvT hZ w5) (mvT hZ w6) hy (backOf (W := W) D hZ w4 w3 hf hl) qa qc (g := g) hg hsize (Steps.refl _) (argsL := argsL) (rest := rest) hlen hstack hW hdg (fun _ _ => ⟨rfl, eT, hc, hs⟩)
  dsimp only [Pt.U, Pt.locs, Pt.cells, Pt.slots] at X1 l1 y1 z1 st hQ
  subst l1 y1 z1
  exact Go.st (k v T1 Lc X1 hQ) fun _ q => st.trans q
/-- a constructor by its contract -/
theorem Go.callI {a : Addr} (X : Stand p l e R s m args below meth c T locs cells slots) (hx : p.tables.exec = Jvm.exec) (hZ : Z.Warmed39 s.vm) (hown : s.vm.findClass own = some m.cls) (hin : y.name = "<init>") (w1 : (Jvm.Cond.methodLink own index y).before a0 Z = true) (w6 : (Jvm.Cond.instanceMethod y).before a0 Z = true) (w3 : (Jvm.Cond.initialized y.cls).before a0 Z = true) (w4 : (Jvm.Cond.code y bytes maxL none).before a0 Z = true)
    (hy : y.cls ≠ "java/lang/invoke/MethodHandle" ∧ y.cls ≠ "java/lang/invoke/VarHandle") (D : Does l y bytes maxL none [] rm (.ref a :: argsL).toArray Z h Q) (eT : T.heap = h) (hf : rm.frames + 1 ≤ R.frames) (hl : W + (maxL + 11) + rm.locals ≤ R.locals) (hc : cells + rm.cells ≤ R.cells) (hs : slots + rm.slots ≤ R.slots)
    (hg : g.method = m) (hsize : g.locals.size = c.maxLocals) (hlen : ∀ sig, parseMethodDescriptor y.desc = some sig → argsL.length = sig.parameters.length) (hstack : g.stack = argsL.reverse ++ .ref a :: rest) (hW : 2 * g.monitorRoom + (rest.map fun v => v.category).sum ≤ W) (hdg : decode c.code g.pc = .ok (.invokespecial index, 3))
    (k : ∀ (v : Option Value) (T' : State) (L : List Loc), Stand p l e R s m args below meth c T' (locs ++ L) (cells + rm.cells) (slots + rm.slots) → Q v T'.heap L → Go p e below P T' { g with pc := g.pc + 3, stack := v.toList ++ rest }) : Go p e below P T g := by
  obtain ⟨v, _, ⟨T1, L1, k1, n1⟩, -, X1, ⟨Lc, hQ, l1, y1, z1⟩, st⟩ := X.specialBack hx (y := y) hin hown (mvT hZ w1) (mvT hZ w6) (mvT hZ w4) hy (backOf (W := W) D hZ w4 w3 hf hl) (g := g) hg hsize (Steps.refl _) (a := a) (argsL := argsL) (rest := rest) hlen hstack hW hdg (fun _ _ => ⟨rfl, eT, hc, hs⟩)
  dsimp only [Pt.U, Pt.locs, Pt.cells, Pt.slots] at X1 l1 y1 z1 st hQ
  subst l1 y1 z1
  exact Go.st (k v T1 Lc X1 hQ) fun _ q => st.trans q
end Own
theorem own_i_eq {x y : Int32} {a b : Int} (hx : x.toInt = a) (hy : y.toInt = b) (q : a = b) : x = y := Int32.toInt_inj.mp (by rw [hx, hy, q])
theorem own_i_neq {x y : Int32} {a b : Int} (hx : x.toInt = a) (hy : y.toInt = b) (q : ¬ a = b) : ¬ x = y := fun r => q (by rw [← hx, ← hy, r])
theorem own_i_lt {x y : Int32} {a b : Int} (hx : x.toInt = a) (hy : y.toInt = b) (q : a < b) : x < y := by rw [Int32.lt_iff_toInt_lt, hx, hy]; exact q
theorem own_i_nlt {x y : Int32} {a b : Int} (hx : x.toInt = a) (hy : y.toInt = b) (q : ¬ a < b) : ¬ x < y := by rw [Int32.lt_iff_toInt_lt, hx, hy]; exact q
theorem own_l_eq {x y : Int64} {a b : Int} (hx : x.toInt = a) (hy : y.toInt = b) (q : a = b) : x = y := Int64.toInt_inj.mp (by rw [hx, hy, q])
theorem own_l_neq {x y : Int64} {a b : Int} (hx : x.toInt = a) (hy : y.toInt = b) (q : ¬ a = b) : ¬ x = y := fun r => q (by rw [← hx, ← hy, r])
theorem own_l_lt {x y : Int64} {a b : Int} (hx : x.toInt = a) (hy : y.toInt = b) (q : a < b) : x < y := by rw [Int64.lt_iff_toInt_lt, hx, hy]; exact q
theorem own_l_nlt {x y : Int64} {a b : Int} (hx : x.toInt = a) (hy : y.toInt = b) (q : ¬ a < b) : ¬ x < y := by rw [Int64.lt_iff_toInt_lt, hx, hy]; exact q
/-- a number in a field, out of the case's words -/
theorem own_fldInt {args : Array Value} {s : State} {t : Term} {a : Addr} {C n d : String} {k : Int32} (ht : t.eval args s none [] s = some (.ref a)) (hh : (Jvm.Cond.eq (.field t C n d) (.int k)).value args s none s [] = some true) : Fld s s.heap a C n d (.int k) := by
  refine Fld.start ?_
  simp only [Jvm.Cond.value, fld_at ht, Term.int_eval] at hh
  cases hf : s.fieldOf? a C n d with
  | none => simp [hf] at hh
  | some v => cases v <;> simp_all
/-- what the case says of the constants -/
def own_F (Z : State) (h : Heap) (w_NEW w_RELEASE w_AMEND w_CANCEL : Addr) : Prop := Sta Z h "com/example/tallywire/tallywire/tradereport/ReportAction" "NEW" "Lcom/example/tallywire/tallywire/tradereport/ReportAction;" (.ref w_NEW) ∧ Sta Z h "com/example/tallywire/tallywire/tradereport/ReportAction" "RELEASE" "Lcom/example/tallywire/tallywire/tradereport/ReportAction;" (.ref w_RELEASE) ∧ Sta Z h "com/example/tallywire/tallywire/tradereport/ReportAction" "AMEND" "Lcom/example/tallywire/tallywire/tradereport/ReportAction;" (.ref w_AMEND) ∧ Sta Z h "com/example/tallywire/tallywire/tradereport/ReportAction" "CANCEL" "Lcom/example/tallywire/tallywire/tradereport/ReportAction;" (.ref w_CANCEL) ∧ Exa Z h w_NEW "com/example/tallywire/tallywire/tradereport/ReportAction" ∧ Exa Z h w_RELEASE "com/example/tallywire/tallywire/tradereport/ReportAction" ∧ Exa Z h w_AMEND "com/example/tallywire/tallywire/tradereport/ReportAction" ∧ Exa Z h w_CANCEL "com/example/tallywire/tallywire/tradereport/ReportAction" ∧ ¬ w_NEW = w_RELEASE ∧ ¬ w_NEW = w_AMEND ∧ ¬ w_NEW = w_CANCEL ∧ ¬ w_RELEASE = w_AMEND ∧ ¬ w_RELEASE = w_CANCEL ∧ ¬ w_AMEND = w_CANCEL
def own_pick (p1 : Int32) (w_NEW w_RELEASE w_AMEND w_CANCEL : Addr) : Addr := if p1 = (0 : Int32) then w_NEW else (if p1 = (1 : Int32) then w_CANCEL else (if p1 = (2 : Int32) then w_AMEND else w_RELEASE))
theorem d_method_3_code_0 : decode method_3_code 0 = .ok (.iload_n 0, 1) := by decide +kernel
theorem d_method_3_code_1 : decode method_3_code 1 = .ok (.ifCond .ne 7, 3) := by decide +kernel
theorem d_method_3_code_4 : decode method_3_code 4 = .ok (.getstatic 19, 3) := by decide +kernel
theorem d_method_3_code_7 : decode method_3_code 7 = .ok (.areturn, 1) := by decide +kernel
theorem d_method_3_code_8 : decode method_3_code 8 = .ok (.iload_n 0, 1) := by decide +kernel
theorem d_method_3_code_9 : decode method_3_code 9 = .ok (.iconst 1, 1) := by decide +kernel
theorem d_method_3_code_10 : decode method_3_code 10 = .ok (.if_icmp .ne 7, 3) := by decide +kernel
theorem d_method_3_code_13 : decode method_3_code 13 = .ok (.getstatic 23, 3) := by decide +kernel
theorem d_method_3_code_16 : decode method_3_code 16 = .ok (.areturn, 1) := by decide +kernel
theorem d_method_3_code_17 : decode method_3_code 17 = .ok (.iload_n 0, 1) := by decide +kernel
theorem d_method_3_code_18 : decode method_3_code 18 = .ok (.iconst 2, 1) := by decide +kernel
theorem d_method_3_code_19 : decode method_3_code 19 = .ok (.if_icmp .ne 7, 3) := by decide +kernel
theorem d_method_3_code_22 : decode method_3_code 22 = .ok (.getstatic 26, 3) := by decide +kernel
theorem d_method_3_code_25 : decode method_3_code 25 = .ok (.areturn, 1) := by decide +kernel
theorem d_method_3_code_26 : decode method_3_code 26 = .ok (.getstatic 29, 3) := by decide +kernel
theorem d_method_3_code_29 : decode method_3_code 29 = .ok (.areturn, 1) := by decide +kernel
theorem pn_com_example_tallywire_tallywire_tradereport_ReportActionGivesTradePinLaw : plainName "com/example/tallywire/tallywire/tradereport/ReportActionGivesTradePinLaw" = true := by first | (simp [plainName, overriddenIn]; done) | decide +kernel
set_option maxRecDepth 65536 in
set_option maxHeartbeats 40000000 in
theorem rm1 (l : Launch) (Z : State) (a0 : Array Value) (hw : ∀ d ∈ tables_1, d.before a0 Z = true) (ws : List Jvm.Cond) (p1 : Int32) (w_NEW w_RELEASE w_AMEND w_CANCEL : Addr) (h0 : Heap) (n0 : Nat) (Z0 : n0 ≤ h0.size) (FF : own_F Z h0 w_NEW w_RELEASE w_AMEND w_CANCEL)  :
    Does l (⟨"com/example/tallywire/tallywire/tradereport/ReportActionGivesTradePinLaw", "pick", "(I)Lcom/example/tallywire/tallywire/tradereport/ReportAction;"⟩ : MethodName) method_3_code 1 (some (.object "com/example/tallywire/tallywire/tradereport/ReportAction")) ws ({ frames := 0, cells := 0, slots := 0, locals := 0 } : Room) #[(.int p1)] Z h0 (fun v h L => v = some (.ref (own_pick p1 w_NEW w_RELEASE w_AMEND w_CANCEL)) ∧ Fr n0 L ∧ h = h0) := by
  refine Does.of (plainFor_of_name pn_com_example_tallywire_tallywire_tradereport_ReportActionGivesTradePinLaw) ?_
  intro p e s m below meth c s₁ hx hby hml hret hlk hown0 hnm hZ X0 e0
  have hown : s.vm.findClass "com/example/tallywire/tallywire/tradereport/ReportActionGivesTradePinLaw" = some m.cls := hown0
  have N0 := Fr.nil n0
  have FF0 := FF
  obtain ⟨S_NEW, S_RELEASE, S_AMEND, S_CANCEL, A_NEW, A_RELEASE, A_AMEND, A_CANCEL, D_NEW_RELEASE, D_NEW_AMEND, D_NEW_CANCEL, D_RELEASE_AMEND, D_RELEASE_CANCEL, D_AMEND_CANCEL⟩ := FF
  refine Go.cast (g' := (mkF m 0 #[.val (.int p1)] [])) (by first | rfl | (simp [entryFrame, mkF, argsToLocals, Value.category, maxLocals]; done)) ?_
  refine Go.st (T' := s₁) (g' := (mkF m 1 #[.val (.int p1)] [(.int p1)])) ?_ (fun _ k => XS.iloadN X0.here hx rfl (hb hby d_method_3_code_0) rfl k)
  by_cases hc1 : p1 = (0 : Int32)
  · refine Go.st (T' := s₁) (g' := (mkF m 4 #[.val (.int p1)] [])) ?_ (fun _ k => XS.ifNo X0.here hx rfl (hb hby d_method_3_code_1) rfl ((if0 _ _).trans (teq hc1).2) k)
    obtain ⟨T2, X2, e2, st2⟩ := getS2 X0 hx hZ hown (host := "") (Or.inl (hw _ (List.mem_of_getElem? (i := 4) rfl))) Via.refl e0 S_NEW (g := (mkF m 4 #[.val (.int p1)] [])) rfl (hb hby d_method_3_code_4)
    refine Go.st (T' := T2) (g' := (mkF m 7 #[.val (.int p1)] [(.ref w_NEW)])) ?_ st2
    exact Go.retV (t := (.object "com/example/tallywire/tallywire/tradereport/ReportAction")) X2 hx hret hlk (by decide) (by decide) rfl (Or.inr (Or.inr (Or.inr (Or.inr ⟨rfl, rfl, rfl⟩)))) (hb hby d_method_3_code_7) ⟨by rw [own_pick, if_pos hc1], N0, e2⟩
  · refine Go.st (T' := s₁) (g' := (mkF m 8 #[.val (.int p1)] [])) ?_ (fun _ k => XS.ifYes X0.here hx rfl (pc0 := 1) (pc' := 8) rfl (hb hby d_method_3_code_1) rfl ((if0 _ _).trans (feq hc1).2) (by decide) (by decide) k)
    refine Go.st (T' := s₁) (g' := (mkF m 9 #[.val (.int p1)] [(.int p1)])) ?_ (fun _ k => XS.iloadN X0.here hx rfl (hb hby d_method_3_code_8) rfl k)
    refine Go.st (T' := s₁) (g' := (mkF m 10 #[.val (.int p1)] [(.int (1 : Int32)), (.int p1)])) ?_ (fun _ k => XT.iconstV X0.here hx rfl (1 : Int32) (hb hby d_method_3_code_9) (by decide) k)
    by_cases hc3 : p1 = (1 : Int32)
    · refine Go.st (T' := s₁) (g' := (mkF m 13 #[.val (.int p1)] [])) ?_ (fun _ k => XS.icmpNo X0.here hx rfl (hb hby d_method_3_code_10) rfl (teq hc3).2 k)
      obtain ⟨T4, X4, e4, st4⟩ := getS2 X0 hx hZ hown (host := "") (Or.inl (hw _ (List.mem_of_getElem? (i := 18) rfl))) Via.refl e0 S_CANCEL (g := (mkF m 13 #[.val (.int p1)] [])) rfl (hb hby d_method_3_code_13)
      refine Go.st (T' := T4) (g' := (mkF m 16 #[.val (.int p1)] [(.ref w_CANCEL)])) ?_ st4
      exact Go.retV (t := (.object "com/example/tallywire/tallywire/tradereport/ReportAction")) X4 hx hret hlk (by decide) (by decide) rfl (Or.inr (Or.inr (Or.inr (Or.inr ⟨rfl, rfl, rfl⟩)))) (hb hby d_method_3_code_16) ⟨by rw [own_pick, if_neg hc1, if_pos hc3], N0, e4⟩
    · refine Go.st (T' := s₁) (g' := (mkF m 17 #[.val (.int p1)] [])) ?_ (fun _ k => XS.icmpYes X0.here hx rfl (pc0 := 10) (pc' := 17) rfl (hb hby d_method_3_code_10) rfl (feq hc3).2 (by decide) (by decide) k)
      refine Go.st (T' := s₁) (g' := (mkF m 18 #[.val (.int p1)] [(.int p1)])) ?_ (fun _ k => XS.iloadN X0.here hx rfl (hb hby d_method_3_code_17) rfl k)
      refine Go.st (T' := s₁) (g' := (mkF m 19 #[.val (.int p1)] [(.int (2 : Int32)), (.int p1)])) ?_ (fun _ k => XT.iconstV X0.here hx rfl (2 : Int32) (hb hby d_method_3_code_18) (by decide) k)
      by_cases hc5 : p1 = (2 : Int32)
      · refine Go.st (T' := s₁) (g' := (mkF m 22 #[.val (.int p1)] [])) ?_ (fun _ k => XS.icmpNo X0.here hx rfl (hb hby d_method_3_code_19) rfl (teq hc5).2 k)
        obtain ⟨T6, X6, e6, st6⟩ := getS2 X0 hx hZ hown (host := "") (Or.inl (hw _ (List.mem_of_getElem? (i := 17) rfl))) Via.refl e0 S_AMEND (g := (mkF m 22 #[.val (.int p1)] [])) rfl (hb hby d_method_3_code_22)
        refine Go.st (T' := T6) (g' := (mkF m 25 #[.val (.int p1)] [(.ref w_AMEND)])) ?_ st6
        exact Go.retV (t := (.object "com/example/tallywire/tallywire/tradereport/ReportAction")) X6 hx hret hlk (by decide) (by decide) rfl (Or.inr (Or.inr (Or.inr (Or.inr ⟨rfl, rfl, rfl⟩)))) (hb hby d_method_3_code_25) ⟨by rw [own_pick, if_neg hc1, if_neg hc3, if_pos hc5], N0, e6⟩
      · refine Go.st (T' := s₁) (g' := (mkF m 26 #[.val (.int p1)] [])) ?_ (fun _ k => XS.icmpYes X0.here hx rfl (pc0 := 19) (pc' := 26) rfl (hb hby d_method_3_code_19) rfl (feq hc5).2 (by decide) (by decide) k)
        obtain ⟨T7, X7, e7, st7⟩ := getS2 X0 hx hZ hown (host := "") (Or.inl (hw _ (List.mem_of_getElem? (i := 13) rfl))) Via.refl e0 S_RELEASE (g := (mkF m 26 #[.val (.int p1)] [])) rfl (hb hby d_method_3_code_26)
        refine Go.st (T' := T7) (g' := (mkF m 29 #[.val (.int p1)] [(.ref w_RELEASE)])) ?_ st7
        exact Go.retV (t := (.object "com/example/tallywire/tallywire/tradereport/ReportAction")) X7 hx hret hlk (by decide) (by decide) rfl (Or.inr (Or.inr (Or.inr (Or.inr ⟨rfl, rfl, rfl⟩)))) (hb hby d_method_3_code_29) ⟨by rw [own_pick, if_neg hc1, if_neg hc3, if_neg hc5], N0, e7⟩
def own_gives (a1 : Addr) (w_NEW w_RELEASE w_AMEND w_CANCEL : Addr) : Int32 := if a1 = w_NEW then (1 : Int32) else (if a1 = w_AMEND then (1 : Int32) else (0 : Int32))
theorem d_prog_71_method_7_code_0 : decode prog_71_method_7_code 0 = .ok (.aload_n 0, 1) := by decide +kernel
theorem d_prog_71_method_7_code_1 : decode prog_71_method_7_code 1 = .ok (.getstatic 3, 3) := by decide +kernel
theorem d_prog_71_method_7_code_4 : decode prog_71_method_7_code 4 = .ok (.if_acmp .eq 10, 3) := by decide +kernel
theorem d_prog_71_method_7_code_14 : decode prog_71_method_7_code 14 = .ok (.iconst 1, 1) := by decide +kernel
theorem d_prog_71_method_7_code_15 : decode prog_71_method_7_code 15 = .ok (.goto 4, 3) := by decide +kernel
theorem d_prog_71_method_7_code_19 : decode prog_71_method_7_code 19 = .ok (.ireturn, 1) := by decide +kernel
theorem d_prog_71_method_7_code_7 : decode prog_71_method_7_code 7 = .ok (.aload_n 0, 1) := by decide +kernel
theorem d_prog_71_method_7_code_8 : decode prog_71_method_7_code 8 = .ok (.getstatic 10, 3) := by decide +kernel
theorem d_prog_71_method_7_code_11 : decode prog_71_method_7_code 11 = .ok (.if_acmp .ne 7, 3) := by decide +kernel
theorem d_prog_71_method_7_code_18 : decode prog_71_method_7_code 18 = .ok (.iconst 0, 1) := by decide +kernel
theorem pn_com_example_tallywire_tallywire_tradereport_ReportAction : plainName "com/example/tallywire/tallywire/tradereport/ReportAction" = true := by first | (simp [plainName, overriddenIn]; done) | decide +kernel
set_option maxRecDepth 65536 in
set_option maxHeartbeats 40000000 in
theorem rm2 (l : Launch) (Z : State) (a0 : Array Value) (hw : ∀ d ∈ tables_1, d.before a0 Z = true) (ws : List Jvm.Cond) (a1 : Addr) (w_NEW w_RELEASE w_AMEND w_CANCEL : Addr) (h0 : Heap) (n0 : Nat) (Z0 : n0 ≤ h0.size) (FF : own_F Z h0 w_NEW w_RELEASE w_AMEND w_CANCEL)  :
    Does l (⟨"com/example/tallywire/tallywire/tradereport/ReportAction", "givesTrade", "()Z"⟩ : MethodName) prog_71_method_7_code 1 (some .boolean) ws ({ frames := 0, cells := 0, slots := 0, locals := 0 } : Room) #[(.ref a1)] Z h0 (fun v h L => v = some (.int (own_gives a1 w_NEW w_RELEASE w_AMEND w_CANCEL)) ∧ Fr n0 L ∧ h = h0) := by
  refine Does.of (plainFor_of_name pn_com_example_tallywire_tallywire_tradereport_ReportAction) ?_
  intro p e s m below meth c s₁ hx hby hml hret hlk hown0 hnm hZ X0 e0
  have hown : s.vm.findClass "com/example/tallywire/tallywire/tradereport/ReportAction" = some m.cls := hown0
  have N0 := Fr.nil n0
  have FF0 := FF
  obtain ⟨S_NEW, S_RELEASE, S_AMEND, S_CANCEL, A_NEW, A_RELEASE, A_AMEND, A_CANCEL, D_NEW_RELEASE, D_NEW_AMEND, D_NEW_CANCEL, D_RELEASE_AMEND, D_RELEASE_CANCEL, D_AMEND_CANCEL⟩ := FF
  refine Go.cast (g' := (mkF m 0 #[.val (.ref a1)] [])) (by first | rfl | (simp [entryFrame, mkF, argsToLocals, Value.category, maxLocals]; done)) ?_
  refine Go.st (T' := s₁) (g' := (mkF m 1 #[.val (.ref a1)] [(.ref a1)])) ?_ (fun _ k => XS.aloadN X0.here hx rfl (hb hby d_prog_71_method_7_code_0) rfl rfl k)
  obtain ⟨T1, X1, e1, st1⟩ := getS2 X0 hx hZ hown (host := "") (Or.inl (hw _ (List.mem_of_getElem? (i := 12) rfl))) Via.refl e0 S_NEW (g := (mkF m 1 #[.val (.ref a1)] [(.ref a1)])) rfl (hb hby d_prog_71_method_7_code_1)
  refine Go.st (T' := T1) (g' := (mkF m 4 #[.val (.ref a1)] [(.ref w_NEW), (.ref a1)])) ?_ st1
  by_cases hc2 : a1 = w_NEW
  · refine Go.st (T' := T1) (g' := (mkF m 14 #[.val (.ref a1)] [])) ?_ (fun _ k => Jvm.RoadKit.acmp (g := (mkF m 4 #[.val (.ref a1)] [(.ref w_NEW), (.ref a1)])) X1 hx rfl rfl rfl (pc0 := 4) (pc' := 14) (same := true) rfl (hb hby d_prog_71_method_7_code_4) rfl (decide_eq_true (congrArg Value.ref hc2)) (by decide) (by decide) k)
    refine Go.st (T' := T1) (g' := (mkF m 15 #[.val (.ref a1)] [(.int (1 : Int32))])) ?_ (fun _ k => XT.iconstV X1.here hx rfl (1 : Int32) (hb hby d_prog_71_method_7_code_14) (by decide) k)
    refine Go.st (T' := T1) (g' := (mkF m 19 #[.val (.ref a1)] [(.int (1 : Int32))])) ?_ (fun _ k => XS.goto X1.here hx rfl (pc0 := 15) (pc' := 19) rfl (hb hby d_prog_71_method_7_code_15) (by decide) (by decide) k)
    exact Go.retV (t := .boolean) X1 hx hret hlk (by decide) (by decide) rfl (Or.inl ⟨rfl, Or.inr (Or.inl rfl), _, rfl⟩) (hb hby d_prog_71_method_7_code_19) ⟨by rw [own_gives, if_pos hc2], N0, e1⟩
  · refine Go.st (T' := T1) (g' := (mkF m 7 #[.val (.ref a1)] [])) ?_ (fun _ k => Jvm.RoadKit.acmp (g := (mkF m 4 #[.val (.ref a1)] [(.ref w_NEW), (.ref a1)])) X1 hx rfl rfl rfl (pc0 := 4) (pc' := 7) (same := false) rfl (hb hby d_prog_71_method_7_code_4) rfl (decide_eq_false (fun q => hc2 (Value.ref.inj q))) (by decide) (by decide) k)
    refine Go.st (T' := T1) (g' := (mkF m 8 #[.val (.ref a1)] [(.ref a1)])) ?_ (fun _ k => XS.aloadN X1.here hx rfl (hb hby d_prog_71_method_7_code_7) rfl rfl k)
    obtain ⟨T3, X3, e3, st3⟩ := getS2 X1 hx hZ hown (host := "") (Or.inl (hw _ (List.mem_of_getElem? (i := 15) rfl))) Via.refl e1 S_AMEND (g := (mkF m 8 #[.val (.ref a1)] [(.ref a1)])) rfl (hb hby d_prog_71_method_7_code_8)
    refine Go.st (T' := T3) (g' := (mkF m 11 #[.val (.ref a1)] [(.ref w_AMEND), (.ref a1)])) ?_ st3
    by_cases hc4 : a1 = w_AMEND
    · refine Go.st (T' := T3) (g' := (mkF m 14 #[.val (.ref a1)] [])) ?_ (fun _ k => Jvm.RoadKit.acmp (g := (mkF m 11 #[.val (.ref a1)] [(.ref w_AMEND), (.ref a1)])) X3 hx rfl rfl rfl (pc0 := 11) (pc' := 14) (same := true) rfl (hb hby d_prog_71_method_7_code_11) rfl (decide_eq_true (congrArg Value.ref hc4)) (by decide) (by decide) k)
      refine Go.st (T' := T3) (g' := (mkF m 15 #[.val (.ref a1)] [(.int (1 : Int32))])) ?_ (fun _ k => XT.iconstV X3.here hx rfl (1 : Int32) (hb hby d_prog_71_method_7_code_14) (by decide) k)
      refine Go.st (T' := T3) (g' := (mkF m 19 #[.val (.ref a1)] [(.int (1 : Int32))])) ?_ (fun _ k => XS.goto X3.here hx rfl (pc0 := 15) (pc' := 19) rfl (hb hby d_prog_71_method_7_code_15) (by decide) (by decide) k)
      exact Go.retV (t := .boolean) X3 hx hret hlk (by decide) (by decide) rfl (Or.inl ⟨rfl, Or.inr (Or.inl rfl), _, rfl⟩) (hb hby d_prog_71_method_7_code_19) ⟨by rw [own_gives, if_neg hc2, if_pos hc4], N0, e3⟩
    · refine Go.st (T' := T3) (g' := (mkF m 18 #[.val (.ref a1)] [])) ?_ (fun _ k => Jvm.RoadKit.acmp (g := (mkF m 11 #[.val (.ref a1)] [(.ref w_AMEND), (.ref a1)])) X3 hx rfl rfl rfl (pc0 := 11) (pc' := 18) (same := false) rfl (hb hby d_prog_71_method_7_code_11) rfl (decide_eq_false (fun q => hc4 (Value.ref.inj q))) (by decide) (by decide) k)
      refine Go.st (T' := T3) (g' := (mkF m 19 #[.val (.ref a1)] [(.int (0 : Int32))])) ?_ (fun _ k => XT.iconstV X3.here hx rfl (0 : Int32) (hb hby d_prog_71_method_7_code_18) (by decide) k)
      exact Go.retV (t := .boolean) X3 hx hret hlk (by decide) (by decide) rfl (Or.inl ⟨rfl, Or.inr (Or.inl rfl), _, rfl⟩) (hb hby d_prog_71_method_7_code_19) ⟨by rw [own_gives, if_neg hc2, if_neg hc4], N0, e3⟩
theorem own_k (p : Int32) : p &&& 3 = 0 ∨ p &&& 3 = 1 ∨ p &&& 3 = 2 ∨ p &&& 3 = 3 := by
  have h1 := c_mask p 3 2 (by decide) (by decide)
  simp only [← Int32.toInt_inj, h1]
  have e0 : (0 : Int32).toInt = 0 := by decide
  have e1 : (1 : Int32).toInt = 1 := by decide
  have e2 : (2 : Int32).toInt = 2 := by decide
  have e3 : (3 : Int32).toInt = 3 := by decide
  simp only [e0, e1, e2, e3]
  omega
theorem pd__I_Lcom_example_tallywire_tallywire_tradereport_ReportAction_ : parseMethodDescriptor "(I)Lcom/example/tallywire/tallywire/tradereport/ReportAction;" = some ⟨[.int], some (.object "com/example/tallywire/tallywire/tradereport/ReportAction")⟩ := by decide +kernel
theorem pd___Z : parseMethodDescriptor "()Z" = some ⟨[], some .boolean⟩ := by decide +kernel
set_option maxRecDepth 65536 in
set_option maxHeartbeats 40000000 in
theorem rm0 (l : Launch) (Z : State) (a0 : Array Value) (hw : ∀ d ∈ tables_1, d.before a0 Z = true) (ws : List Jvm.Cond) (p1 : Int32) (w_NEW w_RELEASE w_AMEND w_CANCEL : Addr) (h0 : Heap) (n0 : Nat) (Z0 : n0 ≤ h0.size) (FF : own_F Z h0 w_NEW w_RELEASE w_AMEND w_CANCEL) :
    Does l x code maxLocals ret ws room_1 #[(.int p1)] Z h0 (fun v h L => v = some (.int 1) ∧ Fr n0 L) := by
  refine Does.of (plainFor_of_name pn_com_example_tallywire_tallywire_tradereport_ReportActionGivesTradePinLaw) ?_
  intro p e s m below meth c s₁ hx hby hml hret hlk hown0 hnm hZ X0 e0
  have hown : s.vm.findClass "com/example/tallywire/tallywire/tradereport/ReportActionGivesTradePinLaw" = some m.cls := hown0
  have N0 := Fr.nil n0
  have FF0 := FF
  obtain ⟨S_NEW, S_RELEASE, S_AMEND, S_CANCEL, A_NEW, A_RELEASE, A_AMEND, A_CANCEL, D_NEW_RELEASE, D_NEW_AMEND, D_NEW_CANCEL, D_RELEASE_AMEND, D_RELEASE_CANCEL, D_AMEND_CANCEL⟩ := FF
  refine Go.cast (g' := (mkF m 0 #[.val (.int p1), .unset, .unset, .unset] [])) (by first | rfl | (simp [entryFrame, mkF, argsToLocals, Value.category, maxLocals]; done)) ?_
  refine Go.st (T' := s₁) (g' := (mkF m 1 #[.val (.int p1), .unset, .unset, .unset] [(.int p1)])) ?_ (fun _ k => XS.iloadN X0.here hx rfl (hb hby at_0) rfl k)
  refine Go.st (T' := s₁) (g' := (mkF m 2 #[.val (.int p1), .unset, .unset, .unset] [(.int (3 : Int32)), (.int p1)])) ?_ (fun _ k => XT.iconstV X0.here hx rfl (3 : Int32) (hb hby at_1) (by decide) k)
  refine Go.st (T' := s₁) (g' := (mkF m 3 #[.val (.int p1), .unset, .unset, .unset] [(.int (p1 &&& (3 : Int32)))])) ?_ (fun _ k => XS.iand X0.here hx rfl (hb hby at_2) rfl k)
  rcases own_k p1 with hk | hk | hk | hk
  · rw [hk]
    refine Go.st (T' := s₁) (g' := (mkF m 4 #[.val (.int p1), .val (.int (0 : Int32)), .unset, .unset] [])) ?_ (fun _ k => XS.istoreN X0.here hx rfl (hb hby at_3) rfl (l' := #[.val (.int p1), .val (.int (0 : Int32)), .unset, .unset]) rfl k)
    refine Go.st (T' := s₁) (g' := (mkF m 5 #[.val (.int p1), .val (.int (0 : Int32)), .unset, .unset] [(.int (0 : Int32))])) ?_ (fun _ k => XS.iloadN X0.here hx rfl (hb hby at_4) rfl k)
    refine Go.callS X0 hx hZ hown (hw _ (List.mem_of_getElem? (i := 0) rfl)) (hw _ (List.mem_of_getElem? (i := 1) rfl)) (hw _ (List.mem_of_getElem? (i := 2) rfl)) (hw _ (List.mem_of_getElem? (i := 3) rfl)) (by decide) (rm1 l Z a0 hw [] (0 : Int32) w_NEW w_RELEASE w_AMEND w_CANCEL h0 n0 Z0 FF0 ) e0 (by decide) (W := 0) (by decide) (by decide) (by decide) (g := (mkF m 5 #[.val (.int p1), .val (.int (0 : Int32)), .unset, .unset] [(.int (0 : Int32))])) (rest := []) rfl (by rw [hml]; rfl) (lenOf pd__I_Lcom_example_tallywire_tallywire_tradereport_ReportAction_ rfl) rfl (by show 2 * 0 + _ ≤ _; exact Nat.le_of_eq rfl) (hb hby at_5) ?_
    rintro v1 T1 L1 X1 ⟨rfl, N1, e1⟩
    have M1 := Fr.app N0 N1
    rw [show own_pick (0 : Int32) w_NEW w_RELEASE w_AMEND w_CANCEL = w_NEW from by rw [own_pick, if_pos (rfl : (0 : Int32) = (0 : Int32))]]
    show Go p e below _ T1 (mkF m 8 #[.val (.int p1), .val (.int (0 : Int32)), .unset, .unset] [(.ref w_NEW)])
    refine Go.st (T' := T1) (g' := (mkF m 9 #[.val (.int p1), .val (.int (0 : Int32)), .val (.ref w_NEW), .unset] [])) ?_ (fun _ k => XS.astoreN X1.here hx rfl (hb hby at_8) rfl rfl (l' := #[.val (.int p1), .val (.int (0 : Int32)), .val (.ref w_NEW), .unset]) rfl k)
    refine Go.st (T' := T1) (g' := (mkF m 10 #[.val (.int p1), .val (.int (0 : Int32)), .val (.ref w_NEW), .unset] [(.int (0 : Int32))])) ?_ (fun _ k => XS.iloadN X1.here hx rfl (hb hby at_9) rfl k)
    refine Go.st (T' := T1) (g' := (mkF m 13 #[.val (.int p1), .val (.int (0 : Int32)), .val (.ref w_NEW), .unset] [])) ?_ (fun _ k => XS.ifNo X1.here hx rfl (hb hby at_10) rfl (by decide) k)
    refine Go.st (T' := T1) (g' := (mkF m 14 #[.val (.int p1), .val (.int (0 : Int32)), .val (.ref w_NEW), .unset] [(.int (1 : Int32))])) ?_ (fun _ k => XT.iconstV X1.here hx rfl (1 : Int32) (hb hby at_13) (by decide) k)
    refine Go.st (T' := T1) (g' := (mkF m 15 #[.val (.int p1), .val (.int (0 : Int32)), .val (.ref w_NEW), .val (.int (1 : Int32))] [])) ?_ (fun _ k => XS.istoreN X1.here hx rfl (hb hby at_14) rfl (l' := #[.val (.int p1), .val (.int (0 : Int32)), .val (.ref w_NEW), .val (.int (1 : Int32))]) rfl k)
    refine Go.st (T' := T1) (g' := (mkF m 40 #[.val (.int p1), .val (.int (0 : Int32)), .val (.ref w_NEW), .val (.int (1 : Int32))] [])) ?_ (fun _ k => XS.goto X1.here hx rfl (pc0 := 15) (pc' := 40) rfl (hb hby at_15) (by decide) (by decide) k)
    refine Go.st (T' := T1) (g' := (mkF m 41 #[.val (.int p1), .val (.int (0 : Int32)), .val (.ref w_NEW), .val (.int (1 : Int32))] [(.ref w_NEW)])) ?_ (fun _ k => XS.aloadN X1.here hx rfl (hb hby at_40) rfl rfl k)
    refine Go.callV X1 hx hZ hown (hw _ (List.mem_of_getElem? (i := 7) rfl)) (hw _ (List.mem_of_getElem? (i := 8) rfl)) (hw _ (List.mem_of_getElem? (i := 10) rfl)) (hw _ (List.mem_of_getElem? (i := 9) rfl)) (hw _ (List.mem_of_getElem? (i := 5) rfl)) (hw _ (List.mem_of_getElem? (i := 11) rfl)) (by decide) A_NEW (rm2 l Z a0 hw [] w_NEW w_NEW w_RELEASE w_AMEND w_CANCEL h0 n0 Z0 FF0 ) e1 (by decide) (W := 0) (by decide) (by decide) (by decide) (g := (mkF m 41 #[.val (.int p1), .val (.int (0 : Int32)), .val (.ref w_NEW), .val (.int (1 : Int32))] [(.ref w_NEW)])) (rest := []) rfl (by rw [hml]; rfl) (lenOf pd___Z rfl) rfl (by show 2 * 0 + _ ≤ _; exact Nat.le_of_eq rfl) (hb hby at_41) ?_
    rintro v2 T2 L2 X2 ⟨rfl, N2, e2⟩
    have M2 := Fr.app M1 N2
    rw [show own_gives w_NEW w_NEW w_RELEASE w_AMEND w_CANCEL = (1 : Int32) from by rw [own_gives, if_pos (rfl : w_NEW = w_NEW)]]
    show Go p e below _ T2 (mkF m 44 #[.val (.int p1), .val (.int (0 : Int32)), .val (.ref w_NEW), .val (.int (1 : Int32))] [(.int (1 : Int32))])
    refine Go.st (T' := T2) (g' := (mkF m 45 #[.val (.int p1), .val (.int (0 : Int32)), .val (.ref w_NEW), .val (.int (1 : Int32))] [(.int (1 : Int32)), (.int (1 : Int32))])) ?_ (fun _ k => XS.iloadN X2.here hx rfl (hb hby at_44) rfl k)
    refine Go.st (T' := T2) (g' := (mkF m 48 #[.val (.int p1), .val (.int (0 : Int32)), .val (.ref w_NEW), .val (.int (1 : Int32))] [])) ?_ (fun _ k => XS.icmpNo X2.here hx rfl (hb hby at_45) rfl (by decide) k)
    refine Go.st (T' := T2) (g' := (mkF m 49 #[.val (.int p1), .val (.int (0 : Int32)), .val (.ref w_NEW), .val (.int (1 : Int32))] [(.int (1 : Int32))])) ?_ (fun _ k => XT.iconstV X2.here hx rfl (1 : Int32) (hb hby at_48) (by decide) k)
    refine Go.st (T' := T2) (g' := (mkF m 53 #[.val (.int p1), .val (.int (0 : Int32)), .val (.ref w_NEW), .val (.int (1 : Int32))] [(.int (1 : Int32))])) ?_ (fun _ k => XS.goto X2.here hx rfl (pc0 := 49) (pc' := 53) rfl (hb hby at_49) (by decide) (by decide) k)
    exact Go.retV (t := .boolean) X2 hx hret hlk (by decide) (by decide) rfl (Or.inl ⟨rfl, Or.inr (Or.inl rfl), _, rfl⟩) (hb hby at_53) ⟨rfl, M2⟩
  · rw [hk]
    refine Go.st (T' := s₁) (g' := (mkF m 4 #[.val (.int p1), .val (.int (1 : Int32)), .unset, .unset] [])) ?_ (fun _ k => XS.istoreN X0.here hx rfl (hb hby at_3) rfl (l' := #[.val (.int p1), .val (.int (1 : Int32)), .unset, .unset]) rfl k)
    refine Go.st (T' := s₁) (g' := (mkF m 5 #[.val (.int p1), .val (.int (1 : Int32)), .unset, .unset] [(.int (1 : Int32))])) ?_ (fun _ k => XS.iloadN X0.here hx rfl (hb hby at_4) rfl k)
    refine Go.callS X0 hx hZ hown (hw _ (List.mem_of_getElem? (i := 0) rfl)) (hw _ (List.mem_of_getElem? (i := 1) rfl)) (hw _ (List.mem_of_getElem? (i := 2) rfl)) (hw _ (List.mem_of_getElem? (i := 3) rfl)) (by decide) (rm1 l Z a0 hw [] (1 : Int32) w_NEW w_RELEASE w_AMEND w_CANCEL h0 n0 Z0 FF0 ) e0 (by decide) (W := 0) (by decide) (by decide) (by decide) (g := (mkF m 5 #[.val (.int p1), .val (.int (1 : Int32)), .unset, .unset] [(.int (1 : Int32))])) (rest := []) rfl (by rw [hml]; rfl) (lenOf pd__I_Lcom_example_tallywire_tallywire_tradereport_ReportAction_ rfl) rfl (by show 2 * 0 + _ ≤ _; exact Nat.le_of_eq rfl) (hb hby at_5) ?_
    rintro v3 T3 L3 X3 ⟨rfl, N3, e3⟩
    have M3 := Fr.app N0 N3
    rw [show own_pick (1 : Int32) w_NEW w_RELEASE w_AMEND w_CANCEL = w_CANCEL from by rw [own_pick, if_neg (by decide : ¬ (1 : Int32) = (0 : Int32)), if_pos (rfl : (1 : Int32) = (1 : Int32))]]
    show Go p e below _ T3 (mkF m 8 #[.val (.int p1), .val (.int (1 : Int32)), .unset, .unset] [(.ref w_CANCEL)])
    refine Go.st (T' := T3) (g' := (mkF m 9 #[.val (.int p1), .val (.int (1 : Int32)), .val (.ref w_CANCEL), .unset] [])) ?_ (fun _ k => XS.astoreN X3.here hx rfl (hb hby at_8) rfl rfl (l' := #[.val (.int p1), .val (.int (1 : Int32)), .val (.ref w_CANCEL), .unset]) rfl k)
    refine Go.st (T' := T3) (g' := (mkF m 10 #[.val (.int p1), .val (.int (1 : Int32)), .val (.ref w_CANCEL), .unset] [(.int (1 : Int32))])) ?_ (fun _ k => XS.iloadN X3.here hx rfl (hb hby at_9) rfl k)
    refine Go.st (T' := T3) (g' := (mkF m 18 #[.val (.int p1), .val (.int (1 : Int32)), .val (.ref w_CANCEL), .unset] [])) ?_ (fun _ k => XS.ifYes X3.here hx rfl (pc0 := 10) (pc' := 18) rfl (hb hby at_10) rfl (by decide) (by decide) (by decide) k)
    refine Go.st (T' := T3) (g' := (mkF m 19 #[.val (.int p1), .val (.int (1 : Int32)), .val (.ref w_CANCEL), .unset] [(.int (1 : Int32))])) ?_ (fun _ k => XS.iloadN X3.here hx rfl (hb hby at_18) rfl k)
    refine Go.st (T' := T3) (g' := (mkF m 20 #[.val (.int p1), .val (.int (1 : Int32)), .val (.ref w_CANCEL), .unset] [(.int (1 : Int32)), (.int (1 : Int32))])) ?_ (fun _ k => XT.iconstV X3.here hx rfl (1 : Int32) (hb hby at_19) (by decide) k)
    refine Go.st (T' := T3) (g' := (mkF m 23 #[.val (.int p1), .val (.int (1 : Int32)), .val (.ref w_CANCEL), .unset] [])) ?_ (fun _ k => XS.icmpNo X3.here hx rfl (hb hby at_20) rfl (by decide) k)
    refine Go.st (T' := T3) (g' := (mkF m 24 #[.val (.int p1), .val (.int (1 : Int32)), .val (.ref w_CANCEL), .unset] [(.int (0 : Int32))])) ?_ (fun _ k => XT.iconstV X3.here hx rfl (0 : Int32) (hb hby at_23) (by decide) k)
    refine Go.st (T' := T3) (g' := (mkF m 25 #[.val (.int p1), .val (.int (1 : Int32)), .val (.ref w_CANCEL), .val (.int (0 : Int32))] [])) ?_ (fun _ k => XS.istoreN X3.here hx rfl (hb hby at_24) rfl (l' := #[.val (.int p1), .val (.int (1 : Int32)), .val (.ref w_CANCEL), .val (.int (0 : Int32))]) rfl k)
    refine Go.st (T' := T3) (g' := (mkF m 40 #[.val (.int p1), .val (.int (1 : Int32)), .val (.ref w_CANCEL), .val (.int (0 : Int32))] [])) ?_ (fun _ k => XS.goto X3.here hx rfl (pc0 := 25) (pc' := 40) rfl (hb hby at_25) (by decide) (by decide) k)
    refine Go.st (T' := T3) (g' := (mkF m 41 #[.val (.int p1), .val (.int (1 : Int32)), .val (.ref w_CANCEL), .val (.int (0 : Int32))] [(.ref w_CANCEL)])) ?_ (fun _ k => XS.aloadN X3.here hx rfl (hb hby at_40) rfl rfl k)
    refine Go.callV X3 hx hZ hown (hw _ (List.mem_of_getElem? (i := 7) rfl)) (hw _ (List.mem_of_getElem? (i := 8) rfl)) (hw _ (List.mem_of_getElem? (i := 10) rfl)) (hw _ (List.mem_of_getElem? (i := 9) rfl)) (hw _ (List.mem_of_getElem? (i := 5) rfl)) (hw _ (List.mem_of_getElem? (i := 11) rfl)) (by decide) A_CANCEL (rm2 l Z a0 hw [] w_CANCEL w_NEW w_RELEASE w_AMEND w_CANCEL h0 n0 Z0 FF0 ) e3 (by decide) (W := 0) (by decide) (by decide) (by decide) (g := (mkF m 41 #[.val (.int p1), .val (.int (1 : Int32)), .val (.ref w_CANCEL), .val (.int (0 : Int32))] [(.ref w_CANCEL)])) (rest := []) rfl (by rw [hml]; rfl) (lenOf pd___Z rfl) rfl (by show 2 * 0 + _ ≤ _; exact Nat.le_of_eq rfl) (hb hby at_41) ?_
    rintro v4 T4 L4 X4 ⟨rfl, N4, e4⟩
    have M4 := Fr.app M3 N4
    rw [show own_gives w_CANCEL w_NEW w_RELEASE w_AMEND w_CANCEL = (0 : Int32) from by rw [own_gives, if_neg ((fun q => D_NEW_CANCEL q.symm) : ¬ w_CANCEL = w_NEW), if_neg ((fun q => D_AMEND_CANCEL q.symm) : ¬ w_CANCEL = w_AMEND)]]
    show Go p e below _ T4 (mkF m 44 #[.val (.int p1), .val (.int (1 : Int32)), .val (.ref w_CANCEL), .val (.int (0 : Int32))] [(.int (0 : Int32))])
    refine Go.st (T' := T4) (g' := (mkF m 45 #[.val (.int p1), .val (.int (1 : Int32)), .val (.ref w_CANCEL), .val (.int (0 : Int32))] [(.int (0 : Int32)), (.int (0 : Int32))])) ?_ (fun _ k => XS.iloadN X4.here hx rfl (hb hby at_44) rfl k)
    refine Go.st (T' := T4) (g' := (mkF m 48 #[.val (.int p1), .val (.int (1 : Int32)), .val (.ref w_CANCEL), .val (.int (0 : Int32))] [])) ?_ (fun _ k => XS.icmpNo X4.here hx rfl (hb hby at_45) rfl (by decide) k)
    refine Go.st (T' := T4) (g' := (mkF m 49 #[.val (.int p1), .val (.int (1 : Int32)), .val (.ref w_CANCEL), .val (.int (0 : Int32))] [(.int (1 : Int32))])) ?_ (fun _ k => XT.iconstV X4.here hx rfl (1 : Int32) (hb hby at_48) (by decide) k)
    refine Go.st (T' := T4) (g' := (mkF m 53 #[.val (.int p1), .val (.int (1 : Int32)), .val (.ref w_CANCEL), .val (.int (0 : Int32))] [(.int (1 : Int32))])) ?_ (fun _ k => XS.goto X4.here hx rfl (pc0 := 49) (pc' := 53) rfl (hb hby at_49) (by decide) (by decide) k)
    exact Go.retV (t := .boolean) X4 hx hret hlk (by decide) (by decide) rfl (Or.inl ⟨rfl, Or.inr (Or.inl rfl), _, rfl⟩) (hb hby at_53) ⟨rfl, M4⟩
  · rw [hk]
    refine Go.st (T' := s₁) (g' := (mkF m 4 #[.val (.int p1), .val (.int (2 : Int32)), .unset, .unset] [])) ?_ (fun _ k => XS.istoreN X0.here hx rfl (hb hby at_3) rfl (l' := #[.val (.int p1), .val (.int (2 : Int32)), .unset, .unset]) rfl k)
    refine Go.st (T' := s₁) (g' := (mkF m 5 #[.val (.int p1), .val (.int (2 : Int32)), .unset, .unset] [(.int (2 : Int32))])) ?_ (fun _ k => XS.iloadN X0.here hx rfl (hb hby at_4) rfl k)
    refine Go.callS X0 hx hZ hown (hw _ (List.mem_of_getElem? (i := 0) rfl)) (hw _ (List.mem_of_getElem? (i := 1) rfl)) (hw _ (List.mem_of_getElem? (i := 2) rfl)) (hw _ (List.mem_of_getElem? (i := 3) rfl)) (by decide) (rm1 l Z a0 hw [] (2 : Int32) w_NEW w_RELEASE w_AMEND w_CANCEL h0 n0 Z0 FF0 ) e0 (by decide) (W := 0) (by decide) (by decide) (by decide) (g := (mkF m 5 #[.val (.int p1), .val (.int (2 : Int32)), .unset, .unset] [(.int (2 : Int32))])) (rest := []) rfl (by rw [hml]; rfl) (lenOf pd__I_Lcom_example_tallywire_tallywire_tradereport_ReportAction_ rfl) rfl (by show 2 * 0 + _ ≤ _; exact Nat.le_of_eq rfl) (hb hby at_5) ?_
    rintro v5 T5 L5 X5 ⟨rfl, N5, e5⟩
    have M5 := Fr.app N0 N5
    rw [show own_pick (2 : Int32) w_NEW w_RELEASE w_AMEND w_CANCEL = w_AMEND from by rw [own_pick, if_neg (by decide : ¬ (2 : Int32) = (0 : Int32)), if_neg (by decide : ¬ (2 : Int32) = (1 : Int32)), if_pos (rfl : (2 : Int32) = (2 : Int32))]]
    show Go p e below _ T5 (mkF m 8 #[.val (.int p1), .val (.int (2 : Int32)), .unset, .unset] [(.ref w_AMEND)])
    refine Go.st (T' := T5) (g' := (mkF m 9 #[.val (.int p1), .val (.int (2 : Int32)), .val (.ref w_AMEND), .unset] [])) ?_ (fun _ k => XS.astoreN X5.here hx rfl (hb hby at_8) rfl rfl (l' := #[.val (.int p1), .val (.int (2 : Int32)), .val (.ref w_AMEND), .unset]) rfl k)
    refine Go.st (T' := T5) (g' := (mkF m 10 #[.val (.int p1), .val (.int (2 : Int32)), .val (.ref w_AMEND), .unset] [(.int (2 : Int32))])) ?_ (fun _ k => XS.iloadN X5.here hx rfl (hb hby at_9) rfl k)
    refine Go.st (T' := T5) (g' := (mkF m 18 #[.val (.int p1), .val (.int (2 : Int32)), .val (.ref w_AMEND), .unset] [])) ?_ (fun _ k => XS.ifYes X5.here hx rfl (pc0 := 10) (pc' := 18) rfl (hb hby at_10) rfl (by decide) (by decide) (by decide) k)
    refine Go.st (T' := T5) (g' := (mkF m 19 #[.val (.int p1), .val (.int (2 : Int32)), .val (.ref w_AMEND), .unset] [(.int (2 : Int32))])) ?_ (fun _ k => XS.iloadN X5.here hx rfl (hb hby at_18) rfl k)
    refine Go.st (T' := T5) (g' := (mkF m 20 #[.val (.int p1), .val (.int (2 : Int32)), .val (.ref w_AMEND), .unset] [(.int (1 : Int32)), (.int (2 : Int32))])) ?_ (fun _ k => XT.iconstV X5.here hx rfl (1 : Int32) (hb hby at_19) (by decide) k)
    refine Go.st (T' := T5) (g' := (mkF m 28 #[.val (.int p1), .val (.int (2 : Int32)), .val (.ref w_AMEND), .unset] [])) ?_ (fun _ k => XS.icmpYes X5.here hx rfl (pc0 := 20) (pc' := 28) rfl (hb hby at_20) rfl (by decide) (by decide) (by decide) k)
    refine Go.st (T' := T5) (g' := (mkF m 29 #[.val (.int p1), .val (.int (2 : Int32)), .val (.ref w_AMEND), .unset] [(.int (2 : Int32))])) ?_ (fun _ k => XS.iloadN X5.here hx rfl (hb hby at_28) rfl k)
    refine Go.st (T' := T5) (g' := (mkF m 30 #[.val (.int p1), .val (.int (2 : Int32)), .val (.ref w_AMEND), .unset] [(.int (2 : Int32)), (.int (2 : Int32))])) ?_ (fun _ k => XT.iconstV X5.here hx rfl (2 : Int32) (hb hby at_29) (by decide) k)
    refine Go.st (T' := T5) (g' := (mkF m 33 #[.val (.int p1), .val (.int (2 : Int32)), .val (.ref w_AMEND), .unset] [])) ?_ (fun _ k => XS.icmpNo X5.here hx rfl (hb hby at_30) rfl (by decide) k)
    refine Go.st (T' := T5) (g' := (mkF m 34 #[.val (.int p1), .val (.int (2 : Int32)), .val (.ref w_AMEND), .unset] [(.int (1 : Int32))])) ?_ (fun _ k => XT.iconstV X5.here hx rfl (1 : Int32) (hb hby at_33) (by decide) k)
    refine Go.st (T' := T5) (g' := (mkF m 35 #[.val (.int p1), .val (.int (2 : Int32)), .val (.ref w_AMEND), .val (.int (1 : Int32))] [])) ?_ (fun _ k => XS.istoreN X5.here hx rfl (hb hby at_34) rfl (l' := #[.val (.int p1), .val (.int (2 : Int32)), .val (.ref w_AMEND), .val (.int (1 : Int32))]) rfl k)
    refine Go.st (T' := T5) (g' := (mkF m 40 #[.val (.int p1), .val (.int (2 : Int32)), .val (.ref w_AMEND), .val (.int (1 : Int32))] [])) ?_ (fun _ k => XS.goto X5.here hx rfl (pc0 := 35) (pc' := 40) rfl (hb hby at_35) (by decide) (by decide) k)
    refine Go.st (T' := T5) (g' := (mkF m 41 #[.val (.int p1), .val (.int (2 : Int32)), .val (.ref w_AMEND), .val (.int (1 : Int32))] [(.ref w_AMEND)])) ?_ (fun _ k => XS.aloadN X5.here hx rfl (hb hby at_40) rfl rfl k)
    refine Go.callV X5 hx hZ hown (hw _ (List.mem_of_getElem? (i := 7) rfl)) (hw _ (List.mem_of_getElem? (i := 8) rfl)) (hw _ (List.mem_of_getElem? (i := 10) rfl)) (hw _ (List.mem_of_getElem? (i := 9) rfl)) (hw _ (List.mem_of_getElem? (i := 5) rfl)) (hw _ (List.mem_of_getElem? (i := 11) rfl)) (by decide) A_AMEND (rm2 l Z a0 hw [] w_AMEND w_NEW w_RELEASE w_AMEND w_CANCEL h0 n0 Z0 FF0 ) e5 (by decide) (W := 0) (by decide) (by decide) (by decide) (g := (mkF m 41 #[.val (.int p1), .val (.int (2 : Int32)), .val (.ref w_AMEND), .val (.int (1 : Int32))] [(.ref w_AMEND)])) (rest := []) rfl (by rw [hml]; rfl) (lenOf pd___Z rfl) rfl (by show 2 * 0 + _ ≤ _; exact Nat.le_of_eq rfl) (hb hby at_41) ?_
    rintro v6 T6 L6 X6 ⟨rfl, N6, e6⟩
    have M6 := Fr.app M5 N6
    rw [show own_gives w_AMEND w_NEW w_RELEASE w_AMEND w_CANCEL = (1 : Int32) from by rw [own_gives, if_neg ((fun q => D_NEW_AMEND q.symm) : ¬ w_AMEND = w_NEW), if_pos (rfl : w_AMEND = w_AMEND)]]
    show Go p e below _ T6 (mkF m 44 #[.val (.int p1), .val (.int (2 : Int32)), .val (.ref w_AMEND), .val (.int (1 : Int32))] [(.int (1 : Int32))])
    refine Go.st (T' := T6) (g' := (mkF m 45 #[.val (.int p1), .val (.int (2 : Int32)), .val (.ref w_AMEND), .val (.int (1 : Int32))] [(.int (1 : Int32)), (.int (1 : Int32))])) ?_ (fun _ k => XS.iloadN X6.here hx rfl (hb hby at_44) rfl k)
    refine Go.st (T' := T6) (g' := (mkF m 48 #[.val (.int p1), .val (.int (2 : Int32)), .val (.ref w_AMEND), .val (.int (1 : Int32))] [])) ?_ (fun _ k => XS.icmpNo X6.here hx rfl (hb hby at_45) rfl (by decide) k)
    refine Go.st (T' := T6) (g' := (mkF m 49 #[.val (.int p1), .val (.int (2 : Int32)), .val (.ref w_AMEND), .val (.int (1 : Int32))] [(.int (1 : Int32))])) ?_ (fun _ k => XT.iconstV X6.here hx rfl (1 : Int32) (hb hby at_48) (by decide) k)
    refine Go.st (T' := T6) (g' := (mkF m 53 #[.val (.int p1), .val (.int (2 : Int32)), .val (.ref w_AMEND), .val (.int (1 : Int32))] [(.int (1 : Int32))])) ?_ (fun _ k => XS.goto X6.here hx rfl (pc0 := 49) (pc' := 53) rfl (hb hby at_49) (by decide) (by decide) k)
    exact Go.retV (t := .boolean) X6 hx hret hlk (by decide) (by decide) rfl (Or.inl ⟨rfl, Or.inr (Or.inl rfl), _, rfl⟩) (hb hby at_53) ⟨rfl, M6⟩
  · rw [hk]
    refine Go.st (T' := s₁) (g' := (mkF m 4 #[.val (.int p1), .val (.int (3 : Int32)), .unset, .unset] [])) ?_ (fun _ k => XS.istoreN X0.here hx rfl (hb hby at_3) rfl (l' := #[.val (.int p1), .val (.int (3 : Int32)), .unset, .unset]) rfl k)
    refine Go.st (T' := s₁) (g' := (mkF m 5 #[.val (.int p1), .val (.int (3 : Int32)), .unset, .unset] [(.int (3 : Int32))])) ?_ (fun _ k => XS.iloadN X0.here hx rfl (hb hby at_4) rfl k)
    refine Go.callS X0 hx hZ hown (hw _ (List.mem_of_getElem? (i := 0) rfl)) (hw _ (List.mem_of_getElem? (i := 1) rfl)) (hw _ (List.mem_of_getElem? (i := 2) rfl)) (hw _ (List.mem_of_getElem? (i := 3) rfl)) (by decide) (rm1 l Z a0 hw [] (3 : Int32) w_NEW w_RELEASE w_AMEND w_CANCEL h0 n0 Z0 FF0 ) e0 (by decide) (W := 0) (by decide) (by decide) (by decide) (g := (mkF m 5 #[.val (.int p1), .val (.int (3 : Int32)), .unset, .unset] [(.int (3 : Int32))])) (rest := []) rfl (by rw [hml]; rfl) (lenOf pd__I_Lcom_example_tallywire_tallywire_tradereport_ReportAction_ rfl) rfl (by show 2 * 0 + _ ≤ _; exact Nat.le_of_eq rfl) (hb hby at_5) ?_
    rintro v7 T7 L7 X7 ⟨rfl, N7, e7⟩
    have M7 := Fr.app N0 N7
    rw [show own_pick (3 : Int32) w_NEW w_RELEASE w_AMEND w_CANCEL = w_RELEASE from by rw [own_pick, if_neg (by decide : ¬ (3 : Int32) = (0 : Int32)), if_neg (by decide : ¬ (3 : Int32) = (1 : Int32)), if_neg (by decide : ¬ (3 : Int32) = (2 : Int32))]]
    show Go p e below _ T7 (mkF m 8 #[.val (.int p1), .val (.int (3 : Int32)), .unset, .unset] [(.ref w_RELEASE)])
    refine Go.st (T' := T7) (g' := (mkF m 9 #[.val (.int p1), .val (.int (3 : Int32)), .val (.ref w_RELEASE), .unset] [])) ?_ (fun _ k => XS.astoreN X7.here hx rfl (hb hby at_8) rfl rfl (l' := #[.val (.int p1), .val (.int (3 : Int32)), .val (.ref w_RELEASE), .unset]) rfl k)
    refine Go.st (T' := T7) (g' := (mkF m 10 #[.val (.int p1), .val (.int (3 : Int32)), .val (.ref w_RELEASE), .unset] [(.int (3 : Int32))])) ?_ (fun _ k => XS.iloadN X7.here hx rfl (hb hby at_9) rfl k)
    refine Go.st (T' := T7) (g' := (mkF m 18 #[.val (.int p1), .val (.int (3 : Int32)), .val (.ref w_RELEASE), .unset] [])) ?_ (fun _ k => XS.ifYes X7.here hx rfl (pc0 := 10) (pc' := 18) rfl (hb hby at_10) rfl (by decide) (by decide) (by decide) k)
    refine Go.st (T' := T7) (g' := (mkF m 19 #[.val (.int p1), .val (.int (3 : Int32)), .val (.ref w_RELEASE), .unset] [(.int (3 : Int32))])) ?_ (fun _ k => XS.iloadN X7.here hx rfl (hb hby at_18) rfl k)
    refine Go.st (T' := T7) (g' := (mkF m 20 #[.val (.int p1), .val (.int (3 : Int32)), .val (.ref w_RELEASE), .unset] [(.int (1 : Int32)), (.int (3 : Int32))])) ?_ (fun _ k => XT.iconstV X7.here hx rfl (1 : Int32) (hb hby at_19) (by decide) k)
    refine Go.st (T' := T7) (g' := (mkF m 28 #[.val (.int p1), .val (.int (3 : Int32)), .val (.ref w_RELEASE), .unset] [])) ?_ (fun _ k => XS.icmpYes X7.here hx rfl (pc0 := 20) (pc' := 28) rfl (hb hby at_20) rfl (by decide) (by decide) (by decide) k)
    refine Go.st (T' := T7) (g' := (mkF m 29 #[.val (.int p1), .val (.int (3 : Int32)), .val (.ref w_RELEASE), .unset] [(.int (3 : Int32))])) ?_ (fun _ k => XS.iloadN X7.here hx rfl (hb hby at_28) rfl k)
    refine Go.st (T' := T7) (g' := (mkF m 30 #[.val (.int p1), .val (.int (3 : Int32)), .val (.ref w_RELEASE), .unset] [(.int (2 : Int32)), (.int (3 : Int32))])) ?_ (fun _ k => XT.iconstV X7.here hx rfl (2 : Int32) (hb hby at_29) (by decide) k)
    refine Go.st (T' := T7) (g' := (mkF m 38 #[.val (.int p1), .val (.int (3 : Int32)), .val (.ref w_RELEASE), .unset] [])) ?_ (fun _ k => XS.icmpYes X7.here hx rfl (pc0 := 30) (pc' := 38) rfl (hb hby at_30) rfl (by decide) (by decide) (by decide) k)
    refine Go.st (T' := T7) (g' := (mkF m 39 #[.val (.int p1), .val (.int (3 : Int32)), .val (.ref w_RELEASE), .unset] [(.int (0 : Int32))])) ?_ (fun _ k => XT.iconstV X7.here hx rfl (0 : Int32) (hb hby at_38) (by decide) k)
    refine Go.st (T' := T7) (g' := (mkF m 40 #[.val (.int p1), .val (.int (3 : Int32)), .val (.ref w_RELEASE), .val (.int (0 : Int32))] [])) ?_ (fun _ k => XS.istoreN X7.here hx rfl (hb hby at_39) rfl (l' := #[.val (.int p1), .val (.int (3 : Int32)), .val (.ref w_RELEASE), .val (.int (0 : Int32))]) rfl k)
    refine Go.st (T' := T7) (g' := (mkF m 41 #[.val (.int p1), .val (.int (3 : Int32)), .val (.ref w_RELEASE), .val (.int (0 : Int32))] [(.ref w_RELEASE)])) ?_ (fun _ k => XS.aloadN X7.here hx rfl (hb hby at_40) rfl rfl k)
    refine Go.callV X7 hx hZ hown (hw _ (List.mem_of_getElem? (i := 7) rfl)) (hw _ (List.mem_of_getElem? (i := 8) rfl)) (hw _ (List.mem_of_getElem? (i := 10) rfl)) (hw _ (List.mem_of_getElem? (i := 9) rfl)) (hw _ (List.mem_of_getElem? (i := 5) rfl)) (hw _ (List.mem_of_getElem? (i := 11) rfl)) (by decide) A_RELEASE (rm2 l Z a0 hw [] w_RELEASE w_NEW w_RELEASE w_AMEND w_CANCEL h0 n0 Z0 FF0 ) e7 (by decide) (W := 0) (by decide) (by decide) (by decide) (g := (mkF m 41 #[.val (.int p1), .val (.int (3 : Int32)), .val (.ref w_RELEASE), .val (.int (0 : Int32))] [(.ref w_RELEASE)])) (rest := []) rfl (by rw [hml]; rfl) (lenOf pd___Z rfl) rfl (by show 2 * 0 + _ ≤ _; exact Nat.le_of_eq rfl) (hb hby at_41) ?_
    rintro v8 T8 L8 X8 ⟨rfl, N8, e8⟩
    have M8 := Fr.app M7 N8
    rw [show own_gives w_RELEASE w_NEW w_RELEASE w_AMEND w_CANCEL = (0 : Int32) from by rw [own_gives, if_neg ((fun q => D_NEW_RELEASE q.symm) : ¬ w_RELEASE = w_NEW), if_neg (D_RELEASE_AMEND : ¬ w_RELEASE = w_AMEND)]]
    show Go p e below _ T8 (mkF m 44 #[.val (.int p1), .val (.int (3 : Int32)), .val (.ref w_RELEASE), .val (.int (0 : Int32))] [(.int (0 : Int32))])
    refine Go.st (T' := T8) (g' := (mkF m 45 #[.val (.int p1), .val (.int (3 : Int32)), .val (.ref w_RELEASE), .val (.int (0 : Int32))] [(.int (0 : Int32)), (.int (0 : Int32))])) ?_ (fun _ k => XS.iloadN X8.here hx rfl (hb hby at_44) rfl k)
    refine Go.st (T' := T8) (g' := (mkF m 48 #[.val (.int p1), .val (.int (3 : Int32)), .val (.ref w_RELEASE), .val (.int (0 : Int32))] [])) ?_ (fun _ k => XS.icmpNo X8.here hx rfl (hb hby at_45) rfl (by decide) k)
    refine Go.st (T' := T8) (g' := (mkF m 49 #[.val (.int p1), .val (.int (3 : Int32)), .val (.ref w_RELEASE), .val (.int (0 : Int32))] [(.int (1 : Int32))])) ?_ (fun _ k => XT.iconstV X8.here hx rfl (1 : Int32) (hb hby at_48) (by decide) k)
    refine Go.st (T' := T8) (g' := (mkF m 53 #[.val (.int p1), .val (.int (3 : Int32)), .val (.ref w_RELEASE), .val (.int (0 : Int32))] [(.int (1 : Int32))])) ?_ (fun _ k => XS.goto X8.here hx rfl (pc0 := 49) (pc' := 53) rfl (hb hby at_49) (by decide) (by decide) k)
    exact Go.retV (t := .boolean) X8 hx hret hlk (by decide) (by decide) rfl (Or.inl ⟨rfl, Or.inr (Or.inl rfl), _, rfl⟩) (hb hby at_53) ⟨rfl, M8⟩
set_option maxRecDepth 65536 in
set_option maxHeartbeats 40000000 in
theorem comes_1 {Post : Tables → Env → Array Value → State → Outcome → State → Prop} (hpost : ∀ tb e args s v u, (limb_1_1.after args s (.returned v) u = true ∧ limb_1_2.after args s (.returned v) u = true ∧ True) → FrameEnd s (.returned v) u (Jvm.fieldLocs frame_1_writes args s ++ Jvm.arrayLocs frame_1_arrays args s ++ Jvm.staticLocs frame_1_statics s) 0 0 → Post tb e args s (.returned v) u) :
    ArmFor flags0 classFile x code maxLocals ret World_1 tables_1 room_1 Calls_1 rest_1 Pre_1 Post := by
  intro l hfl _ _ p e ha hc hk s m args below hf hA hF happ hP
  obtain ⟨hcalls, hrest, hpre⟩ := hP
  obtain ⟨-, -, -, hnamed, -, -, -, hat⟩ := (Spec.applies_iff hf).mp happ
  obtain ⟨hg, hn⟩ := and_e (Cond.before_iff.mp (show (Jvm.Cond.and given_1 narrow_1).before args s = true from hpre))
  obtain ⟨g0, hg⟩ := and_e hg
  obtain ⟨w0, rfl⟩ : ∃ w0 : Value, args = #[w0] := by
    have hs : args.size = 1 := by simpa [Cond.value, given_1] using g0
    obtain ⟨L⟩ := args
    match L, hs with
    | [w0], _ => exact ⟨w0, rfl⟩
  have hw := fun d (hd : d ∈ tables_1) => atoms_spec (ws := Jvm.Cond.code x code maxLocals ret :: tables_1) hat d (List.mem_cons_of_mem _ hd)
  obtain ⟨i0, ei0⟩ := is_v hg
  obtain rfl : w0 = (.int i0) := Option.some.inj ei0
  obtain ⟨f1a, f1b⟩ := and_e hn
  obtain ⟨f2a, f2b⟩ := and_e f1b
  obtain ⟨f3a, f3b⟩ := and_e f2b
  obtain ⟨f4a, f4b⟩ := and_e f3b
  obtain ⟨f5a, f5b⟩ := and_e f4b
  obtain ⟨f6a, f6b⟩ := and_e f5b
  obtain ⟨f7a, f7b⟩ := and_e f6b
  obtain ⟨w_NEW, ev_NEW⟩ := exa_v f1a
  have S_NEW := Sta.start ev_NEW (Or.inr ⟨(hw _ (List.mem_of_getElem? (i := 5) rfl)), (hw _ (List.mem_of_getElem? (i := 6) rfl))⟩)
  have A_NEW := Exa.start ev_NEW f1a
  obtain ⟨w_RELEASE, ev_RELEASE⟩ := exa_v f2a
  have S_RELEASE := Sta.start ev_RELEASE (Or.inr ⟨(hw _ (List.mem_of_getElem? (i := 5) rfl)), (hw _ (List.mem_of_getElem? (i := 14) rfl))⟩)
  have A_RELEASE := Exa.start ev_RELEASE f2a
  obtain ⟨w_AMEND, ev_AMEND⟩ := exa_v f5a
  have S_AMEND := Sta.start ev_AMEND (Or.inr ⟨(hw _ (List.mem_of_getElem? (i := 5) rfl)), (hw _ (List.mem_of_getElem? (i := 16) rfl))⟩)
  have A_AMEND := Exa.start ev_AMEND f5a
  obtain ⟨w_CANCEL, ev_CANCEL⟩ := exa_v f7a
  have S_CANCEL := Sta.start ev_CANCEL (Or.inr ⟨(hw _ (List.mem_of_getElem? (i := 5) rfl)), (hw _ (List.mem_of_getElem? (i := 19) rfl))⟩)
  have A_CANCEL := Exa.start ev_CANCEL f7a
  have F_RELEASE_ordinal := own_fldInt ev_RELEASE f3a
  have F_NEW_ordinal := own_fldInt ev_NEW f4a
  have F_AMEND_ordinal := own_fldInt ev_AMEND f6a
  have F_CANCEL_ordinal := own_fldInt ev_CANCEL f7b
  have D_NEW_RELEASE : ¬ w_NEW = w_RELEASE := Fld.ne F_NEW_ordinal F_RELEASE_ordinal (by simp)
  have D_NEW_AMEND : ¬ w_NEW = w_AMEND := Fld.ne F_NEW_ordinal F_AMEND_ordinal (by simp)
  have D_NEW_CANCEL : ¬ w_NEW = w_CANCEL := Fld.ne F_NEW_ordinal F_CANCEL_ordinal (by simp)
  have D_RELEASE_AMEND : ¬ w_RELEASE = w_AMEND := Fld.ne F_RELEASE_ordinal F_AMEND_ordinal (by simp)
  have D_RELEASE_CANCEL : ¬ w_RELEASE = w_CANCEL := Fld.ne F_RELEASE_ordinal F_CANCEL_ordinal (by simp)
  have D_AMEND_CANCEL : ¬ w_AMEND = w_CANCEL := Fld.ne F_AMEND_ordinal F_CANCEL_ordinal (by simp)
  have FF : own_F s s.heap w_NEW w_RELEASE w_AMEND w_CANCEL := ⟨S_NEW, S_RELEASE, S_AMEND, S_CANCEL, A_NEW, A_RELEASE, A_AMEND, A_CANCEL, D_NEW_RELEASE, D_NEW_AMEND, D_NEW_CANCEL, D_RELEASE_AMEND, D_RELEASE_CANCEL, D_AMEND_CANCEL⟩
  obtain ⟨n, o, h1, h2, h3, _, L, rfl, ⟨rfl, N⟩, hq⟩ := rm0 l s _ hw tables_1 i0 w_NEW w_RELEASE w_AMEND w_CANCEL s.heap s.heap.size (Nat.le_refl _) FF p e ha hc hk s m _ below hf ((Spec.applies_iff_loose hf).mp happ).1 ⟨rfl, State.Warmed39.refl s, rfl⟩ trivial
  refine ⟨n, _, h1, h2, h3, hpost _ _ _ _ _ _ ⟨Cond.after_iff.mpr rfl, Cond.after_iff.mpr (eq_i res_at (Term.int_eval (1)) rfl), trivial⟩ ⟨hq.1, hq.2.1, (hq.2.2.sift fun y hy => Or.inr (N y hy)).mono (by decide) (by decide)⟩⟩
theorem main_1_1 : Claimed_1_1 := comes_1 fun _ _ _ _ _ _ h hF => ⟨h.1, hF⟩
theorem main_1_2 : Claimed_1_2 := comes_1 fun _ _ _ _ _ _ h hF => ⟨h.2.1, hF⟩
end Jvm.Pilot.@@N@@
namespace Jvm.Pilot.@@N@@
open Jvm Jvm.ClassFile Sem Op Lib Jvm.Free Jvm.Stand Jvm.Pilot.@@N@@.Jvm.D
/-! MADE BY PROGRAM (witnessworld.py) out of the Statement's table words and the real class files: 12 classes; the members and pool entries that the words name. The judged class is class 1, her method 1. -/
namespace start1
open Jvm.ClassFile
def u (s : String) : CpInfo := .utf8 (stringToUtf16 s)
/-- a pool by its gaps: so many unusable entries, then the entry; so many at the end -/
def gap : Nat → List CpInfo → List CpInfo
  | 0, r => r
  | n + 1, r => .unusable :: gap n r
def poolList (es : List (Nat × CpInfo)) (last : Nat) : List CpInfo := es.foldr (fun e r => gap e.1 (e.2 :: r)) (gap last [])
def pool (es : List (Nat × CpInfo)) (last : Nat) : Array CpInfo := ⟨poolList es last⟩
def fileOf (pool : Array CpInfo) (this : Nat) (attrs : Array Attribute := #[]) (ms : Array MethodInfo := #[]) (fl : Nat := 33) (sup : Nat := 0) (ifs : Array Nat := #[]) (fds : Array FieldInfo := #[]) : ClassFile where
  minorVersion := 0
  majorVersion := 65
  constantPool := pool
  accessFlags := fl
  thisClass := this
  superClass := sup
  interfaces := ifs
  fields := fds
  methods := ms
  attributes := attrs
def plain (name : String) (sup : Option ClassId) : Class where
  name := name
  kind := .ordinary
  loader := none
  accessFlags := 33
  super := sup
  interfaces := #[]
  cf := none
  fields := #[]
  methods := #[]
  instanceTypes := #[]
  staticTypes := #[]
  resolved := #[]
  callSites := []
  init := .initialized
  statics := none
  mirror := none

def pool0 : Array CpInfo := pool [(5, u "<init>"), (0, u "()V"), (1, .class_ 10), (1, u "java/lang/Object")] 113

def k0m0 : Method := { name := "<init>", desc := "()V", sig := { parameters := [], returnType := none }, accessFlags := 1, code := none }
/-- java/lang/Object -/
def k0 : Class := { plain "java/lang/Object" none with
  accessFlags := 33
  interfaces := #[]
  cf := some (fileOf pool0 8 #[] #[{ accessFlags := 1, nameIndex := 5, descriptorIndex := 6, attributes := #[] }] 33 0 #[] #[])
  fields := #[]
  methods := #[k0m0]
  instanceTypes := #[]
  staticTypes := #[]
  resolved := Array.replicate 124 none
  statics := none }

def pool1 : Array CpInfo := pool [(2, .class_ 4), (1, u "java/lang/Object"), (0, u "<init>"), (0, u "()V"), (0, .methodref 8 9), (0, .class_ 10), (0, .nameAndType 11 12), (0, u "com/example/tallywire/tallywire/tradereport/ReportActionGivesTradePinLaw"), (0, u "pick"), (0, u "(I)Lcom/example/tallywire/tallywire/tradereport/ReportAction;"), (0, .methodref 14 15), (0, .class_ 16), (0, .nameAndType 17 18), (0, u "com/example/tallywire/tallywire/tradereport/ReportAction"), (0, u "givesTrade"), (0, u "()Z"), (0, .fieldref 14 20), (0, .nameAndType 21 22), (0, u "NEW"), (0, u "Lcom/example/tallywire/tallywire/tradereport/ReportAction;"), (0, .fieldref 14 24), (0, .nameAndType 25 22), (0, u "CANCEL"), (0, .fieldref 14 27), (0, .nameAndType 28 22), (0, u "AMEND"), (0, .fieldref 14 30), (0, .nameAndType 31 22), (0, u "RELEASE"), (2, u "law"), (0, u "(I)Z")] 3

def k1m0 : Method := { name := "<init>", desc := "()V", sig := { parameters := [], returnType := none }, accessFlags := 1, code := none }
def k1c1 : Code := { maxStack := 2, maxLocals := 4, code := code, exceptionTable := #[], attributes := #[] }
def k1m1 : Method := { name := "law", desc := "(I)Z", sig := { parameters := [.int], returnType := some .boolean }, accessFlags := 9, code := some k1c1 }
def k1c2 : Code := { maxStack := 2, maxLocals := 1, code := method_3_code, exceptionTable := #[], attributes := #[] }
def k1m2 : Method := { name := "pick", desc := "(I)Lcom/example/tallywire/tallywire/tradereport/ReportAction;", sig := { parameters := [.int], returnType := some (.object "com/example/tallywire/tallywire/tradereport/ReportAction") }, accessFlags := 10, code := some k1c2 }
/-- com/example/tallywire/tallywire/tradereport/ReportActionGivesTradePinLaw -/
def k1 : Class := { plain "com/example/tallywire/tallywire/tradereport/ReportActionGivesTradePinLaw" (some 0) with
  accessFlags := 49
  interfaces := #[]
  cf := some (fileOf pool1 8 #[] #[{ accessFlags := 1, nameIndex := 5, descriptorIndex := 6, attributes := #[] }, { accessFlags := 9, nameIndex := 34, descriptorIndex := 35, attributes := #[] }, { accessFlags := 10, nameIndex := 11, descriptorIndex := 12, attributes := #[] }] 49 2 #[] #[])
  fields := #[]
  methods := #[k1m0, k1m1, k1m2]
  instanceTypes := #[]
  staticTypes := #[]
  resolved := Array.replicate 39 none
  statics := none }

def pool2 : Array CpInfo := pool [(1, .class_ 2), (0, u "java/lang/constant/Constable"), (0, .class_ 4), (0, u "java/lang/Object")] 6

/-- java/lang/constant/Constable -/
def k2 : Class := { plain "java/lang/constant/Constable" (some 0) with
  accessFlags := 1537
  interfaces := #[]
  cf := some (fileOf pool2 1 #[] #[] 1537 3 #[] #[])
  fields := #[]
  methods := #[]
  instanceTypes := #[]
  staticTypes := #[]
  resolved := Array.replicate 11 none
  statics := none }

def pool3 : Array CpInfo := pool [(1, .class_ 2), (0, u "java/lang/Comparable"), (0, .class_ 4), (0, u "java/lang/Object")] 7

/-- java/lang/Comparable -/
def k3 : Class := { plain "java/lang/Comparable" (some 0) with
  accessFlags := 1537
  interfaces := #[]
  cf := some (fileOf pool3 1 #[] #[] 1537 3 #[] #[])
  fields := #[]
  methods := #[]
  instanceTypes := #[]
  staticTypes := #[]
  resolved := Array.replicate 12 none
  statics := none }

def pool4 : Array CpInfo := pool [(1, .class_ 2), (0, u "java/io/Serializable"), (0, .class_ 4), (0, u "java/lang/Object")] 2

/-- java/io/Serializable -/
def k4 : Class := { plain "java/io/Serializable" (some 0) with
  accessFlags := 1537
  interfaces := #[]
  cf := some (fileOf pool4 1 #[] #[] 1537 3 #[] #[])
  fields := #[]
  methods := #[]
  instanceTypes := #[]
  staticTypes := #[]
  resolved := Array.replicate 7 none
  statics := none }

def pool5 : Array CpInfo := pool [(2, .class_ 4), (1, u "java/lang/Enum"), (0, u "name"), (0, u "Ljava/lang/String;"), (2, u "ordinal"), (0, u "I"), (1, .class_ 14), (1, u "java/lang/Object"), (4, u "hash"), (86, .class_ 108), (1, u "java/lang/Enum$EnumDesc"), (2, .class_ 112), (0, u "java/lang/constant/Constable"), (0, .class_ 114), (0, u "java/lang/Comparable"), (0, .class_ 116), (0, u "java/io/Serializable")] 87

/-- java/lang/Enum -/
def k5 : Class := { plain "java/lang/Enum" (some 0) with
  accessFlags := 1057
  interfaces := #[2, 3, 4]
  cf := some (fileOf pool5 2 #[.nestMembers #[106]] #[] 1057 12 #[111, 113, 115] #[{ accessFlags := 18, nameIndex := 5, descriptorIndex := 6, attributes := #[] }, { accessFlags := 18, nameIndex := 9, descriptorIndex := 10, attributes := #[] }, { accessFlags := 2, nameIndex := 19, descriptorIndex := 10, attributes := #[] }])
  fields := #[{ name := "name", type := (.object "java/lang/String"), accessFlags := 18, slot := 0, constantValue := 0 }, { name := "ordinal", type := .int, accessFlags := 18, slot := 1, constantValue := 0 }, { name := "hash", type := .int, accessFlags := 2, slot := 2, constantValue := 0 }]
  methods := #[]
  instanceTypes := #[(.object "java/lang/String"), .int, .int]
  staticTypes := #[]
  resolved := Array.replicate 204 none
  statics := none }

def pool6 : Array CpInfo := pool [(1, .class_ 2), (0, u "com/example/tallywire/tallywire/tradereport/ReportAction"), (0, .fieldref 1 4), (0, .nameAndType 5 6), (0, u "NEW"), (0, u "Lcom/example/tallywire/tallywire/tradereport/ReportAction;"), (2, u "CANCEL"), (0, .fieldref 1 11), (0, .nameAndType 12 6), (0, u "AMEND"), (2, u "RELEASE"), (2, u "$VALUES"), (0, u "[Lcom/example/tallywire/tallywire/tradereport/ReportAction;"), (6, .class_ 28), (1, u "java/lang/Enum"), (8, u "label"), (0, u "Ljava/lang/String;"), (2, u "fixValue"), (55, u "()Z"), (1, u "givesTrade")] 9

def k6c0 : Code := { maxStack := 2, maxLocals := 1, code := prog_71_method_7_code, exceptionTable := #[], attributes := #[] }
def k6m0 : Method := { name := "givesTrade", desc := "()Z", sig := { parameters := [], returnType := some .boolean }, accessFlags := 1, code := some k6c0 }
/-- com/example/tallywire/tallywire/tradereport/ReportAction -/
def k6 : Class := { plain "com/example/tallywire/tallywire/tradereport/ReportAction" (some 5) with
  accessFlags := 16433
  interfaces := #[]
  cf := some (fileOf pool6 1 #[] #[{ accessFlags := 1, nameIndex := 99, descriptorIndex := 97, attributes := #[] }] 16433 26 #[] #[{ accessFlags := 16409, nameIndex := 5, descriptorIndex := 6, attributes := #[] }, { accessFlags := 16409, nameIndex := 9, descriptorIndex := 6, attributes := #[] }, { accessFlags := 16409, nameIndex := 12, descriptorIndex := 6, attributes := #[] }, { accessFlags := 16409, nameIndex := 15, descriptorIndex := 6, attributes := #[] }, { accessFlags := 18, nameIndex := 37, descriptorIndex := 38, attributes := #[] }, { accessFlags := 18, nameIndex := 41, descriptorIndex := 38, attributes := #[] }, { accessFlags := 4122, nameIndex := 18, descriptorIndex := 19, attributes := #[] }])
  fields := #[{ name := "NEW", type := (.object "com/example/tallywire/tallywire/tradereport/ReportAction"), accessFlags := 16409, slot := 0, constantValue := 0 }, { name := "CANCEL", type := (.object "com/example/tallywire/tallywire/tradereport/ReportAction"), accessFlags := 16409, slot := 1, constantValue := 0 }, { name := "AMEND", type := (.object "com/example/tallywire/tallywire/tradereport/ReportAction"), accessFlags := 16409, slot := 2, constantValue := 0 }, { name := "RELEASE", type := (.object "com/example/tallywire/tallywire/tradereport/ReportAction"), accessFlags := 16409, slot := 3, constantValue := 0 }, { name := "label", type := (.object "java/lang/String"), accessFlags := 18, slot := 3, constantValue := 0 }, { name := "fixValue", type := (.object "java/lang/String"), accessFlags := 18, slot := 4, constantValue := 0 }, { name := "$VALUES", type := (.array (.object "com/example/tallywire/tallywire/tradereport/ReportAction")), accessFlags := 4122, slot := 4, constantValue := 0 }]
  methods := #[k6m0]
  instanceTypes := #[(.object "java/lang/String"), .int, .int, (.object "java/lang/String"), (.object "java/lang/String")]
  staticTypes := #[(.object "com/example/tallywire/tallywire/tradereport/ReportAction"), (.object "com/example/tallywire/tallywire/tradereport/ReportAction"), (.object "com/example/tallywire/tallywire/tradereport/ReportAction"), (.object "com/example/tallywire/tallywire/tradereport/ReportAction"), (.array (.object "com/example/tallywire/tallywire/tradereport/ReportAction"))]
  resolved := Array.replicate 109 none
  statics := some 0 }

def pool7 : Array CpInfo := pool [(1, u "java/lang/Cloneable"), (0, .class_ 1), (0, u "java/lang/Object"), (0, .class_ 3)] 3

/-- java/lang/Cloneable -/
def k7 : Class := { plain "java/lang/Cloneable" (some 0) with
  accessFlags := 1537
  interfaces := #[]
  cf := some (fileOf pool7 2 #[] #[] 1537 4 #[] #[])
  fields := #[]
  methods := #[]
  instanceTypes := #[]
  staticTypes := #[]
  resolved := Array.replicate 8 none
  statics := none }

/-- the primitive byte -/
def k8 : Class := { plain "byte" none with kind := .primitive 'B', accessFlags := 0x411 }
/-- [B -/
def k9 : Class := { plain "[B" (some 0) with kind := .array 8 .byte, interfaces := #[7, 4], accessFlags := 1041 }

/-- the primitive int -/
def k10 : Class := { plain "int" none with kind := .primitive 'I', accessFlags := 0x411 }
/-- [I -/
def k11 : Class := { plain "[I" (some 0) with kind := .array 10 .int, interfaces := #[7, 4], accessFlags := 1041 }

def heap : Heap := #[{ cls := 6, slots := #[.ref 1, .ref 4, .ref 3, .ref 2, .null], vm := .statics 6 },
  { cls := 6, slots := #[.null, .int 0, .int 0, .null, .null], vm := .none },
  { cls := 6, slots := #[.null, .int 3, .int 0, .null, .null], vm := .none },
  { cls := 6, slots := #[.null, .int 2, .int 0, .null, .null], vm := .none },
  { cls := 6, slots := #[.null, .int 1, .int 0, .null, .null], vm := .none }]
def classes : Array Class := #[k0, k1, k2, k3, k4, k5, k6, k7, k8, k9, k10, k11]
def interned : List (Array UInt16 × Addr) := []
def slotsUsed : Nat := 25
def theMethod : MethodId := ⟨1, 1⟩
def args0 : Array Value := #[.int 4]
def aboutOver (below : List Frame) : State where
  vm := { classes := classes, interned := interned.toArray }
  heap := heap
  slotsUsed := slotsUsed
  threads := #[{ frames := .invoking theMethod args0 :: below }]
def below0 : List Frame := [.native { method := ⟨0, 0⟩, args := #[] }]
def about1 : State := aboutOver below0
def p0 : Program := .bare "" "" ""
def e0 : Env := launch0.env 0 0 0
theorem w_frames : about1.frames = Frame.invoking theMethod args0 :: below0 := rfl
set_option maxRecDepth 65536 in
theorem w_args : argsFit about1.vm theMethod args0 = true := by decide +kernel
set_option maxRecDepth 65536 in
theorem w_heap : heapFits about1 = true := by decide +kernel
set_option maxRecDepth 65536 in
theorem w_runnable : about1.curStatus? = some .runnable := by decide +kernel
set_option maxRecDepth 65536 in
theorem w_alone : about1.alone = true := by decide +kernel
set_option maxRecDepth 65536 in
theorem w_named : about1.methodNamed? x = some theMethod := by decide +kernel
set_option maxRecDepth 65536 in
theorem w_hears : about1.hears theMethod below0 = true := by decide +kernel
set_option maxRecDepth 65536 in
theorem w_ripe : about1.ripe theMethod args0 below0 = true := by decide +kernel
theorem w_running : about1.status = .running := rfl
set_option maxRecDepth 65536 in
theorem w_room : about1.hasRoom e0.platform room_1 = true :=
  launch0.hasRoom_least _ room_1 (by decide +kernel) (by decide +kernel) (by decide +kernel) (by decide +kernel) (by decide +kernel) (by decide +kernel)
theorem allAtoms_all (ts : List Jvm.Cond) (a : Array Jvm.Value) (st : Jvm.State) : (allAtoms ts).before a st = ts.all (fun c => c.before a st) := by
  induction ts with
  | nil => rfl
  | cons c t ih =>
    show (Jvm.Cond.and c (allAtoms t)).before a st = _
    rw [Jvm.Cond.before_and, ih, List.all_cons]
def words1 : List Jvm.Cond := Jvm.Cond.code x code maxLocals ret :: tables_1
/-- a 'code' word, met by the world's own term for the bytes: nothing is compared byte by byte -/
theorem code_word {y : MethodName} {bytes : ByteArray} {mx : Nat} {rt : Option FieldType} {a : Array Value} {s : State} {m : MethodId} {meth : Method} {c : Code} (h1 : s.methodNamed? y = some m) (h2 : s.vm.method? m = some meth) (h3 : meth.code = some c) (h4 : c.code = bytes)
    (h5 : (c.maxLocals == mx && c.exceptionTable.isEmpty && decide (c.maxStack ≤ mostOperands) && decide (meth.sig.returnType = rt) && !meth.locks && decide (parseMethodDescriptor y.desc = some meth.sig)) = true) : (Jvm.Cond.code y bytes mx rt).before a s = true := by
  simp only [Bool.and_eq_true, beq_iff_eq, Bool.not_eq_true', decide_eq_true_eq] at h5
  obtain ⟨⟨⟨⟨⟨g1, g2⟩, g3⟩, g4⟩, g5⟩, g6⟩ := h5
  simp [Cond.before, Cond.holds, Cond.value, h1, h2, h3, h4, g1, g2, g3, g4, g5, g6]
def isCode : Jvm.Cond → Bool
  | .code _ _ _ _ => true
  | _ => false
theorem all_split {L : List Jvm.Cond} {P : Jvm.Cond → Bool} (h1 : L.all (fun c => isCode c || P c) = true) (h2 : ∀ c ∈ L.filter isCode, P c = true) : L.all P = true := by
  refine List.all_eq_true.mpr fun c hc => ?_
  have h := List.all_eq_true.mp h1 c hc
  rcases Bool.eq_false_or_eq_true (isCode c) with hi | hi
  · exact h2 c (List.mem_filter.mpr ⟨hc, hi⟩)
  · simpa [hi] using h
set_option maxRecDepth 65536 in
theorem w_c0 : (Jvm.Cond.code x code maxLocals ret).before args0 about1 = true := code_word (m := ⟨1, 1⟩) (meth := k1m1) (c := k1c1) (by decide +kernel) rfl rfl rfl (by decide +kernel)
set_option maxRecDepth 65536 in
theorem w_c1 : (Jvm.Cond.code ({ cls := "com/example/tallywire/tallywire/tradereport/ReportActionGivesTradePinLaw", name := "pick", desc := "(I)Lcom/example/tallywire/tallywire/tradereport/ReportAction;" } : Jvm.MethodName) method_3_code (1 : Nat) (Option.some (Jvm.ClassFile.FieldType.object "com/example/tallywire/tallywire/tradereport/ReportAction"))).before args0 about1 = true := code_word (m := ⟨1, 2⟩) (meth := k1m2) (c := k1c2) (by decide +kernel) rfl rfl rfl (by decide +kernel)
set_option maxRecDepth 65536 in
theorem w_c2 : (Jvm.Cond.code ({ cls := "com/example/tallywire/tallywire/tradereport/ReportAction", name := "givesTrade", desc := "()Z" } : Jvm.MethodName) prog_71_method_7_code (1 : Nat) (Option.some Jvm.ClassFile.FieldType.boolean)).before args0 about1 = true := code_word (m := ⟨6, 0⟩) (meth := k6m0) (c := k6c0) (by decide +kernel) rfl rfl rfl (by decide +kernel)
def codes1 : List Jvm.Cond := [Jvm.Cond.code x code maxLocals ret, Jvm.Cond.code ({ cls := "com/example/tallywire/tallywire/tradereport/ReportActionGivesTradePinLaw", name := "pick", desc := "(I)Lcom/example/tallywire/tallywire/tradereport/ReportAction;" } : Jvm.MethodName) method_3_code (1 : Nat) (Option.some (Jvm.ClassFile.FieldType.object "com/example/tallywire/tallywire/tradereport/ReportAction")), Jvm.Cond.code ({ cls := "com/example/tallywire/tallywire/tradereport/ReportAction", name := "givesTrade", desc := "()Z" } : Jvm.MethodName) prog_71_method_7_code (1 : Nat) (Option.some Jvm.ClassFile.FieldType.boolean)]
set_option maxRecDepth 65536 in
theorem codes_eq : words1.filter isCode = codes1 := rfl
theorem w_codes : ∀ c ∈ words1.filter isCode, c.before args0 about1 = true := by
  rw [codes_eq]
  intro c hc
  simp only [codes1, List.mem_cons, List.not_mem_nil, or_false] at hc
  rcases hc with rfl | rfl | rfl
  · exact w_c0
  · exact w_c1
  · exact w_c2
set_option maxRecDepth 65536 in
theorem w_t1 : words1.all (fun c => isCode c || c.before args0 about1) = true := by decide +kernel
theorem w_tables : (allAtoms (Jvm.Cond.code x code maxLocals ret :: tables_1)).before args0 about1 = true := by
  rw [allAtoms_all]
  show words1.all (fun c => c.before args0 about1) = true
  refine all_split ?_ w_codes
  rw [w_t1]
set_option maxRecDepth 65536 in
theorem w_case : (Jvm.Cond.and given_1 narrow_1).before args0 about1 = true := by decide +kernel
theorem w_applies : (headSpec (Jvm.Cond.code x code maxLocals ret :: tables_1) room_1).applies x e0.platform about1 = true :=
  (Spec.applies_iff w_frames).mpr ⟨w_running, w_runnable, w_alone, w_named, w_hears, w_ripe, w_room, w_tables⟩
theorem atStart : AtStart classFile x code maxLocals ret World_1 tables_1 room_1 Calls_1 rest_1 Pre_1 launch0 p0 e0 about1 theMethod args0 below0 :=
  ⟨lists_1, trivial, launch0.admits_env _ _ _, launch0.least_env, fairChoices_fair.cas, fairChoices_fair.clock, w_frames, w_args, w_heap, w_applies, trivial, trivial, w_case⟩
end start1
theorem witness_1 : WitnessClaimed_1 := ⟨start1.p0, start1.e0, start1.about1, start1.theMethod, start1.args0, start1.below0, start1.atStart⟩
end Jvm.Pilot.@@N@@
