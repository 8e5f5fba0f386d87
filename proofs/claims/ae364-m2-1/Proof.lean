import JvmDerived
import JvmDerived.Pilot.@@N@@Statement
import JvmDerived.Pilot.@@N@@Code
set_option linter.unusedVariables false
set_option linter.unusedSimpArgs false
namespace Jvm.Pilot.@@N@@
open Jvm Jvm.ClassFile Sem Op Lib Jvm.Free Jvm.Stand Jvm.LawKit Jvm.RoadKit Bundle Jvm.Pilot.@@N@@.Jvm.D
/-! own_: A WALK AS A CHAIN OF 'Go': from T, with the frame g on top, the run comes to a state of which P holds. A fork (by_cases, rcases) may stand anywhere in the chain. -/
def Go (p : Program) (e : Env) (below : List Frame) (P : State → Prop) (T : State) (g : JFrame) : Prop := ∃ t, Steps p.tables e below (T.setTop g) t ∧ P t
/-- what a body owes at its end -/
def EndP (below : List Frame) (s : State) (Q : Option Value → Heap → List Loc → Prop) (ce sl : Nat) (t : State) : Prop := ∃ o, t.status = .running ∧ Ended t below o ∧ ∃ v L, o = .returned v ∧ Q v t.heap L ∧ FrameEnd s o t L ce sl
/-- a method's contract: called with as' on the heap h0 it returns, and Q holds of what it returns, the heap that it leaves and the places that it wrote -/
abbrev Does (l : Launch) (y : MethodName) (bytes : ByteArray) (maxL : Nat) (rt : Option FieldType) (ws : List Jvm.Cond) (rm : Room) (as' : Array Value) (Z : State) (h0 : Heap) (Q : Option Value → Heap → List Loc → Prop) : Prop :=
  MetFree l y (head1 (Jvm.Cond.code y bytes maxL rt :: ws) rm) (fun a U => a = as' ∧ Z.Warmed39 U.vm ∧ U.heap = h0) (fun _ _ _ _ _ => True) (fun _ U o U' => ∃ v L, o = .returned v ∧ Q v U'.heap L ∧ FrameEnd U o U' L rm.cells rm.slots)
section Own
variable {p : Program} {l : Launch} {e : Env} {R : Room} {s : State} {m : MethodId} {args : Array Value} {below : List Frame} {meth : Method} {c : Code} {T T' : State} {locs : List Loc} {cells slots : Nat} {P : State → Prop} {g g' : JFrame} {Z : State} {h h0 : Heap} {a0 as' : Array Value} {own : String} {index : Nat} {y z : MethodName} {bytes : ByteArray} {maxL : Nat} {rt : Option FieldType} {rm : Room} {ws : List Jvm.Cond} {Q : Option Value → Heap → List Loc → Prop} {ce sl W : Nat} {argsL rest : List Value}
theorem Go.st (hh : Go p e below P T' g') (st : ∀ t, Steps p.tables e below (T'.setTop g') t → Steps p.tables e below (T.setTop g) t) : Go p e below P T g := by
  obtain ⟨t, h1, h2⟩ := hh
  exact ⟨t, st t h1, h2⟩
theorem Go.cast (q : g = g') (hh : Go p e below P T g') : Go p e below P T g := q ▸ hh
theorem Go.ret {v : Option Value} (X : Stand p l e R s m args below meth c T locs cells slots) (hv : meth.sig.returnType = none → v = none) (hlocks : meth.locks = false) (hc : cells ≤ ce) (hs : slots ≤ sl) (hq : Q v T.heap locs)
    (st : ∀ fs, (∀ (f : JFrame) (acts : List Action), f.method = m → f.locked = none → f.entered = [] → (doReturn e (T.setTop f) acts v).1 = T.setFrames fs) → Steps p.tables e below (T.setTop g) (T.setFrames fs)) : Go p e below (EndP below s Q ce sl) T g := by
  obtain ⟨fs, hr, hrun, hended, hW, hsame⟩ := X.leave (v := v) hv hlocks
  exact ⟨_, st fs hr, _, hrun, hended, _, _, rfl, hq, ⟨_, rfl⟩, hW, hsame.mono hc hs⟩
/-- a value is returned -/
theorem Go.retV {w : Value} {t : FieldType} {i : Instr} {pc : Nat} {Ls : Array Slot} (X : Stand p l e R s m args below meth c T locs cells slots) (hx : p.tables.exec = Jvm.exec) (hret : meth.sig.returnType = some t) (hlocks : meth.locks = false) (hc : cells ≤ ce) (hs : slots ≤ sl) (hn : narrow t w = w)
    (hi : (i = .ireturn ∧ (t = .int ∨ t = .boolean ∨ t = .byte ∨ t = .char ∨ t = .short) ∧ ∃ z, w = .int z) ∨ (i = .lreturn ∧ t = .long ∧ ∃ z, w = .long z) ∨ (i = .dreturn ∧ t = .double ∧ ∃ z, w = .double z) ∨ (i = .freturn ∧ t = .float ∧ ∃ z, w = .float z) ∨ (i = .areturn ∧ t.isReference = true ∧ w.isRef = true))
    (hd : decode c.code pc = .ok (i, 1)) (hq : Q (some w) T.heap locs) : Go p e below (EndP below s Q ce sl) T (mkF m pc Ls (w :: rest)) :=
  Go.ret X (fun q => by rw [hret] at q; cases q) hlocks hc hs hq fun _ hr => retOut X hx hret hn hi hd hr
/-- nothing is returned -/
theorem Go.retU {pc : Nat} {Ls : Array Slot} (X : Stand p l e R s m args below meth c T locs cells slots) (hx : p.tables.exec = Jvm.exec) (hret : meth.sig.returnType = none) (hlocks : meth.locks = false) (hc : cells ≤ ce) (hs : slots ≤ sl)
    (hd : decode c.code pc = .ok (.return_, 1)) (hq : Q none T.heap locs) : Go p e below (EndP below s Q ce sl) T (mkF m pc Ls []) :=
  Go.ret X (fun _ => rfl) hlocks hc hs hq fun _ hr => X.returnOut hx hret hd hr
/-- a body that goes well has its contract -/
theorem Does.of (hp : plainFor y = true) (body : ∀ (p : Program) (e : Env) (s : State) (m : MethodId) (below : List Frame) (meth : Method) (c : Code) (s₁ : State), p.tables.exec = Jvm.exec → c.code = bytes → c.maxLocals = maxL → meth.sig.returnType = rt → meth.locks = false → s.vm.findClass y.cls = some m.cls → meth.name = y.name → Z.Warmed39 s.vm →
      Stand p l e rm s m as' below meth c s₁ [] 0 0 → s₁.heap = h0 → Go p e below (EndP below s Q rm.cells rm.slots) s₁ (entryFrame m as' maxL)) : Does l y bytes maxL rt ws rm as' Z h0 Q := by
  refine MetFree.of_bodySF hp hisR ?_
  intro p e s m args below meth c s₁ Bd hml0 hP hK
  obtain ⟨rfl, hZ, hh⟩ := hP
  obtain ⟨t, h1, o, h2, h3, h4⟩ := body p e s m below meth c s₁ Bd.exec Bd.bytes hml0 Bd.returns Bd.notSynchronized (findClass_of_methodNamed Bd.named) (name_of_methodNamed Bd.named Bd.method).1 hZ (Stand.of_body Bd) (by rw [← hh, Bd.state]; rfl)
  exact ⟨t, o, h1, h2, h3, h4⟩
/-- a static call by the callee's contract -/
theorem Go.callS (X : Stand p l e R s m args below meth c T locs cells slots) (hx : p.tables.exec = Jvm.exec) (hZ : Z.Warmed39 s.vm) (hown : s.vm.findClass own = some m.cls) (w1 : (Jvm.Cond.methodLink own index y).before a0 Z = true) (w2 : (Jvm.Cond.static y).before a0 Z = true) (w3 : (Jvm.Cond.initialized y.cls).before a0 Z = true) (w4 : (Jvm.Cond.code y bytes maxL rt).before a0 Z = true)
    (hy : y.cls ≠ "java/lang/invoke/MethodHandle" ∧ y.cls ≠ "java/lang/invoke/VarHandle") (D : Does l y bytes maxL rt [] rm argsL.toArray Z h Q) (eT : T.heap = h) (hf : rm.frames + 1 ≤ R.frames) (hl : W + (maxL + 11) + rm.locals ≤ R.locals) (hc : cells + rm.cells ≤ R.cells) (hs : slots + rm.slots ≤ R.slots)
    (hg : g.method = m) (hsize : g.locals.size = c.maxLocals) (hlen : ∀ sig, parseMethodDescriptor y.desc = some sig → argsL.length = sig.parameters.length) (hstack : g.stack = argsL.reverse ++ rest) (hW : 2 * g.monitorRoom + (rest.map fun v => v.category).sum ≤ W) (hdg : decode c.code g.pc = .ok (.invokestatic index, 3))
    (k : ∀ (v : Option Value) (T' : State) (L : List Loc), Stand p l e R s m args below meth c T' (locs ++ L) (cells + rm.cells) (slots + rm.slots) → Q v T'.heap L → Go p e below P T' { g with pc := g.pc + 3, stack := v.toList ++ rest }) : Go p e below P T g := by
  obtain ⟨v, _, ⟨T1, L1, k1, n1⟩, -, X1, ⟨Lc, hQ, l1, y1, z1⟩, st⟩ := Jvm.LawKit.callS X hx (y := y) hown (mvT hZ w1) (mvT hZ w2) (mvT hZ w3) (mvT hZ w4) hy (backOf (W := W) D hZ w4 w3 hf hl) (g := g) hg hsize (argsL := argsL) (rest := rest) hlen hstack hW hdg (fun _ _ => ⟨rfl, eT, hc, hs⟩)
  dsimp only [Pt.U, Pt.locs, Pt.cells, Pt.slots] at X1 l1 y1 z1 st hQ
  subst l1 y1 z1
  exact Go.st (k v T1 Lc X1 hQ) st
/-- a virtual call by the contract of the method that it selects -/
theorem Go.callV {C : String} {a : Addr} (X : Stand p l e R s m args below meth c T locs cells slots) (hx : p.tables.exec = Jvm.exec) (hZ : Z.Warmed39 s.vm) (hown : s.vm.findClass own = some m.cls) (w1 : (Jvm.Cond.methodLink own index y).before a0 Z = true) (w2 : (Jvm.Cond.declares y).before a0 Z = true) (w5 : (Jvm.Cond.selects C y y).before a0 Z = true) (w6 : (Jvm.Cond.instanceMethod y).before a0 Z = true) (w3 : (Jvm.Cond.initialized y.cls).before a0 Z = true) (w4 : (Jvm.Cond.code y bytes maxL rt).before a0 Z = true)
    (hy : y.cls ≠ "java/lang/invoke/MethodHandle" ∧ y.cls ≠ "java/lang/invoke/VarHandle") (A : Exa Z h a C) (D : Does l y bytes maxL rt [] rm (.ref a :: argsL).toArray Z h Q) (eT : T.heap = h) (hf : rm.frames + 1 ≤ R.frames) (hl : W + (maxL + 11) + rm.locals ≤ R.locals) (hc : cells + rm.cells ≤ R.cells) (hs : slots + rm.slots ≤ R.slots)
    (hg : g.method = m) (hsize : g.locals.size = c.maxLocals) (hlen : ∀ sig, parseMethodDescriptor y.desc = some sig → argsL.length = sig.parameters.length) (hstack : g.stack = argsL.reverse ++ .ref a :: rest) (hW : 2 * g.monitorRoom + (rest.map fun v => v.category).sum ≤ W) (hdg : decode c.code g.pc = .ok (.invokevirtual index, 3))
    (k : ∀ (v : Option Value) (T' : State) (L : List Loc), Stand p l e R s m args below meth c T' (locs ++ L) (cells + rm.cells) (slots + rm.slots) → Q v T'.heap L → Go p e below P T' { g with pc := g.pc + 3, stack := v.toList ++ rest }) : Go p e below P T g := by
  obtain ⟨cq, kq, qa, qb, qc⟩ := isOf hZ eT A
  obtain ⟨v, _, ⟨T1, L1, k1, n1⟩, -, X1, ⟨Lc, hQ, l1, y1, z1⟩, st⟩ := X.virtualBack hx (y := y) (z := y) hown (mvT hZ w1) (mvT hZ w2) (notFace_of_selects (args := #[]) (mvT hZ w5)) (mvT hZ w5) (mvT hZ w6) hy (backOf (W := W) D hZ w4 w3 hf hl) qa qc (g := g) hg hsize (Steps.refl _) (argsL := argsL) (rest := rest) hlen hstack hW hdg (fun _ _ => ⟨rfl, eT, hc, hs⟩)
  dsimp only [Pt.U, Pt.locs, Pt.cells, Pt.slots] at X1 l1 y1 z1 st hQ
  subst l1 y1 z1
  exact Go.st (k v T1 Lc X1 hQ) fun _ q => st.trans q
/-- a constructor by its contract -/
theorem Go.callI {a : Addr} (X : Stand p l e R s m args below meth c T locs cells slots) (hx : p.tables.exec = Jvm.exec) (hZ : Z.Warmed39 s.vm) (hown : s.vm.findClass own = some m.cls) (hin : y.name = "<init>") (w1 : (Jvm.Cond.methodLink own index y).before a0 Z = true) (w6 : (Jvm.Cond.instanceMethod y).before a0 Z = true) (w3 : (Jvm.Cond.initialized y.cls).before a0 Z = true) (w4 : (Jvm.Cond.code y bytes maxL none).before a0 Z = true)
    (hy : y.cls ≠ "java/lang/invoke/MethodHandle" ∧ y.cls ≠ "java/lang/invoke/VarHandle") (D : Does l y bytes maxL none [] rm (.ref a :: argsL).toArray Z h Q) (eT : T.heap = h) (hf : rm.frames + 1 ≤ R.frames) (hl : W + (maxL + 11) + rm.locals ≤ R.locals) (hc : cells + rm.cells ≤ R.cells) (hs : slots + rm.slots ≤ R.slots)
    (hg : g.method = m) (hsize : g.locals.size = c.maxLocals) (hlen : ∀ sig, parseMethodDescriptor y.desc = some sig → argsL.length = sig.parameters.length) (hstack : g.stack = argsL.reverse ++ .ref a :: rest) (hW : 2 * g.monitorRoom + (rest.map fun v => v.category).sum ≤ W) (hdg : decode c.code g.pc = .ok (.invokespecial index, 3))
    (k : ∀ (v : Option Value) (T' : State) (L : List Loc), Stand p l e R s m args below meth c T' (locs ++ L) (cells + rm.cells) (slots + rm.slots) → Q v T'.heap L → Go p e below P T' { g with pc := g.pc + 3, stack := v.toList ++ rest }) : Go p e below P T g := by
  obtain ⟨v, _, ⟨T1, L1, k1, n1⟩, -, X1, ⟨Lc, hQ, l1, y1, z1⟩, st⟩ := X.specialBack hx (y := y) hin hown (mvT hZ w1) (mvT hZ w6) (mvT hZ w4) hy (backOf (W := W) D hZ w4 w3 hf hl) (g := g) hg hsize (Steps.refl _) (a := a) (argsL := argsL) (rest := rest) hlen hstack hW hdg (fun _ _ => ⟨rfl, eT, hc, hs⟩)
  dsimp only [Pt.U, Pt.locs, Pt.cells, Pt.slots] at X1 l1 y1 z1 st hQ
  subst l1 y1 z1
  exact Go.st (k v T1 Lc X1 hQ) fun _ q => st.trans q
end Own
theorem own_i_eq {x y : Int32} {a b : Int} (hx : x.toInt = a) (hy : y.toInt = b) (q : a = b) : x = y := Int32.toInt_inj.mp (by rw [hx, hy, q])
theorem own_i_neq {x y : Int32} {a b : Int} (hx : x.toInt = a) (hy : y.toInt = b) (q : ¬ a = b) : ¬ x = y := fun r => q (by rw [← hx, ← hy, r])
theorem own_i_lt {x y : Int32} {a b : Int} (hx : x.toInt = a) (hy : y.toInt = b) (q : a < b) : x < y := by rw [Int32.lt_iff_toInt_lt, hx, hy]; exact q
theorem own_i_nlt {x y : Int32} {a b : Int} (hx : x.toInt = a) (hy : y.toInt = b) (q : ¬ a < b) : ¬ x < y := by rw [Int32.lt_iff_toInt_lt, hx, hy]; exact q
theorem own_l_eq {x y : Int64} {a b : Int} (hx : x.toInt = a) (hy : y.toInt = b) (q : a = b) : x = y := Int64.toInt_inj.mp (by rw [hx, hy, q])
theorem own_l_neq {x y : Int64} {a b : Int} (hx : x.toInt = a) (hy : y.toInt = b) (q : ¬ a = b) : ¬ x = y := fun r => q (by rw [← hx, ← hy, r])
theorem own_l_lt {x y : Int64} {a b : Int} (hx : x.toInt = a) (hy : y.toInt = b) (q : a < b) : x < y := by rw [Int64.lt_iff_toInt_lt, hx, hy]; exact q
theorem own_l_nlt {x y : Int64} {a b : Int} (hx : x.toInt = a) (hy : y.toInt = b) (q : ¬ a < b) : ¬ x < y := by rw [Int64.lt_iff_toInt_lt, hx, hy]; exact q
/-- a number in a field, out of the case's words -/
theorem own_fldInt {args : Array Value} {s : State} {t : Term} {a : Addr} {C n d : String} {k : Int32} (ht : t.eval args s none [] s = some (.ref a)) (hh : (Jvm.Cond.eq (.field t C n d) (.int k)).value args s none s [] = some true) : Fld s s.heap a C n d (.int k) := by
  refine Fld.start ?_
  simp only [Jvm.Cond.value, fld_at ht, Term.int_eval] at hh
  cases hf : s.fieldOf? a C n d with
  | none => simp [hf] at hh
  | some v => cases v <;> simp_all
/-- what the case says of the constants -/
def own_F (Z : State) (h : Heap) (w_EXACT w_SPARE : Addr) : Prop := Sta Z h "com/example/groupkeeper/groupkeeper/group/TopicOffsets$Widening" "EXACT" "Lcom/example/groupkeeper/groupkeeper/group/TopicOffsets$Widening;" (.ref w_EXACT) ∧ Sta Z h "com/example/groupkeeper/groupkeeper/group/TopicOffsets$Widening" "SPARE" "Lcom/example/groupkeeper/groupkeeper/group/TopicOffsets$Widening;" (.ref w_SPARE) ∧ Exa Z h w_EXACT "com/example/groupkeeper/groupkeeper/group/TopicOffsets$Widening" ∧ Exa Z h w_SPARE "com/example/groupkeeper/groupkeeper/group/TopicOffsets$Widening" ∧ ¬ w_EXACT = w_SPARE
def own_spare (a1 : Addr) (p1 : Int32) (w_EXACT w_SPARE : Addr) : Int32 := if a1 = w_SPARE then (p1 / (2 : Int32)) else (0 : Int32)
theorem d_prog_69_method_4_code_0 : decode prog_69_method_4_code 0 = .ok (.aload_n 0, 1) := by decide +kernel
theorem d_prog_69_method_4_code_1 : decode prog_69_method_4_code 1 = .ok (.getstatic 3, 3) := by decide +kernel
theorem d_prog_69_method_4_code_4 : decode prog_69_method_4_code 4 = .ok (.if_acmp .ne 9, 3) := by decide +kernel
theorem d_prog_69_method_4_code_7 : decode prog_69_method_4_code 7 = .ok (.iload_n 1, 1) := by decide +kernel
theorem d_prog_69_method_4_code_8 : decode prog_69_method_4_code 8 = .ok (.iconst 2, 1) := by decide +kernel
theorem d_prog_69_method_4_code_9 : decode prog_69_method_4_code 9 = .ok (.idiv, 1) := by decide +kernel
theorem d_prog_69_method_4_code_10 : decode prog_69_method_4_code 10 = .ok (.goto 4, 3) := by decide +kernel
theorem d_prog_69_method_4_code_14 : decode prog_69_method_4_code 14 = .ok (.ireturn, 1) := by decide +kernel
theorem d_prog_69_method_4_code_13 : decode prog_69_method_4_code 13 = .ok (.iconst 0, 1) := by decide +kernel
theorem pn_com_example_groupkeeper_groupkeeper_group_TopicOffsets_Widening : plainName "com/example/groupkeeper/groupkeeper/group/TopicOffsets$Widening" = true := by first | (simp [plainName, overriddenIn]; done) | decide +kernel
set_option maxRecDepth 65536 in
set_option maxHeartbeats 40000000 in
theorem rm1 (l : Launch) (Z : State) (a0 : Array Value) (hw : ∀ d ∈ tables_1, d.before a0 Z = true) (ws : List Jvm.Cond) (a1 : Addr) (p1 : Int32) (w_EXACT w_SPARE : Addr) (h0 : Heap) (n0 : Nat) (Z0 : n0 ≤ h0.size) (FF : own_F Z h0 w_EXACT w_SPARE)  :
    Does l (⟨"com/example/groupkeeper/groupkeeper/group/TopicOffsets$Widening", "spare", "(I)I"⟩ : MethodName) prog_69_method_4_code 2 (some .int) ws ({ frames := 0, cells := 0, slots := 0, locals := 0 } : Room) #[(.ref a1), (.int p1)] Z h0 (fun v h L => v = some (.int (own_spare a1 p1 w_EXACT w_SPARE)) ∧ Fr n0 L ∧ h = h0) := by
  refine Does.of (plainFor_of_name pn_com_example_groupkeeper_groupkeeper_group_TopicOffsets_Widening) ?_
  intro p e s m below meth c s₁ hx hby hml hret hlk hown0 hnm hZ X0 e0
  have hown : s.vm.findClass "com/example/groupkeeper/groupkeeper/group/TopicOffsets$Widening" = some m.cls := hown0
  have N0 := Fr.nil n0
  have FF0 := FF
  obtain ⟨S_EXACT, S_SPARE, A_EXACT, A_SPARE, D_EXACT_SPARE⟩ := FF
  refine Go.cast (g' := (mkF m 0 #[.val (.ref a1), .val (.int p1)] [])) (by first | rfl | (simp [entryFrame, mkF, argsToLocals, Value.category, maxLocals]; done)) ?_
  refine Go.st (T' := s₁) (g' := (mkF m 1 #[.val (.ref a1), .val (.int p1)] [(.ref a1)])) ?_ (fun _ k_ => XS.aloadN X0.here hx rfl (hb hby d_prog_69_method_4_code_0) rfl rfl k_)
  obtain ⟨T1, X1, e1, st1⟩ := getS2 X0 hx hZ hown (host := "") (Or.inl (hw _ (List.mem_of_getElem? (i := 9) rfl))) Via.refl e0 S_SPARE (g := (mkF m 1 #[.val (.ref a1), .val (.int p1)] [(.ref a1)])) rfl (hb hby d_prog_69_method_4_code_1)
  refine Go.st (T' := T1) (g' := (mkF m 4 #[.val (.ref a1), .val (.int p1)] [(.ref w_SPARE), (.ref a1)])) ?_ st1
  by_cases hc2 : a1 = w_SPARE
  · refine Go.st (T' := T1) (g' := (mkF m 7 #[.val (.ref a1), .val (.int p1)] [])) ?_ (fun _ k_ => Jvm.RoadKit.acmp (g := (mkF m 4 #[.val (.ref a1), .val (.int p1)] [(.ref w_SPARE), (.ref a1)])) X1 hx rfl rfl rfl (pc0 := 4) (pc' := 7) (same := true) rfl (hb hby d_prog_69_method_4_code_4) rfl (decide_eq_true (congrArg Value.ref hc2)) (by decide) (by decide) k_)
    refine Go.st (T' := T1) (g' := (mkF m 8 #[.val (.ref a1), .val (.int p1)] [(.int p1)])) ?_ (fun _ k_ => XS.iloadN X1.here hx rfl (hb hby d_prog_69_method_4_code_7) rfl k_)
    refine Go.st (T' := T1) (g' := (mkF m 9 #[.val (.ref a1), .val (.int p1)] [(.int (2 : Int32)), (.int p1)])) ?_ (fun _ k_ => XT.iconstV X1.here hx rfl (2 : Int32) (hb hby d_prog_69_method_4_code_8) (by decide) k_)
    refine Go.st (T' := T1) (g' := (mkF m 10 #[.val (.ref a1), .val (.int p1)] [(.int (p1 / (2 : Int32)))])) ?_ (fun _ k_ => XS.idiv X1.here hx rfl (hb hby d_prog_69_method_4_code_9) rfl (by decide) k_)
    refine Go.st (T' := T1) (g' := (mkF m 14 #[.val (.ref a1), .val (.int p1)] [(.int (p1 / (2 : Int32)))])) ?_ (fun _ k_ => XS.goto X1.here hx rfl (pc0 := 10) (pc' := 14) rfl (hb hby d_prog_69_method_4_code_10) (by decide) (by decide) k_)
    exact Go.retV (t := .int) X1 hx hret hlk (by decide) (by decide) rfl (Or.inl ⟨rfl, Or.inl rfl, _, rfl⟩) (hb hby d_prog_69_method_4_code_14) ⟨by rw [own_spare, if_pos hc2], N0, e1⟩
  · refine Go.st (T' := T1) (g' := (mkF m 13 #[.val (.ref a1), .val (.int p1)] [])) ?_ (fun _ k_ => Jvm.RoadKit.acmp (g := (mkF m 4 #[.val (.ref a1), .val (.int p1)] [(.ref w_SPARE), (.ref a1)])) X1 hx rfl rfl rfl (pc0 := 4) (pc' := 13) (same := false) rfl (hb hby d_prog_69_method_4_code_4) rfl (decide_eq_false (fun q_ => hc2 (Value.ref.inj q_))) (by decide) (by decide) k_)
    refine Go.st (T' := T1) (g' := (mkF m 14 #[.val (.ref a1), .val (.int p1)] [(.int (0 : Int32))])) ?_ (fun _ k_ => XT.iconstV X1.here hx rfl (0 : Int32) (hb hby d_prog_69_method_4_code_13) (by decide) k_)
    exact Go.retV (t := .int) X1 hx hret hlk (by decide) (by decide) rfl (Or.inl ⟨rfl, Or.inl rfl, _, rfl⟩) (hb hby d_prog_69_method_4_code_14) ⟨by rw [own_spare, if_neg hc2], N0, e1⟩
theorem own_k (p : Int32) : p &&& 1 = 0 ∨ p &&& 1 = 1 := by
  have h1 := c_mask p 1 1 (by decide) (by decide)
  simp only [← Int32.toInt_inj, h1]
  have e0 : (0 : Int32).toInt = 0 := by decide
  have e1 : (1 : Int32).toInt = 1 := by decide
  simp only [e0, e1]
  omega
theorem pd__I_I : parseMethodDescriptor "(I)I" = some ⟨[.int], some .int⟩ := by decide +kernel
theorem pn_com_example_groupkeeper_groupkeeper_group_WideningSparePinLaw : plainName "com/example/groupkeeper/groupkeeper/group/WideningSparePinLaw" = true := by first | (simp [plainName, overriddenIn]; done) | decide +kernel
set_option maxRecDepth 65536 in
set_option maxHeartbeats 40000000 in
theorem rm0 (l : Launch) (Z : State) (a0 : Array Value) (hw : ∀ d ∈ tables_1, d.before a0 Z = true) (ws : List Jvm.Cond) (p1 p2 : Int32) (w_EXACT w_SPARE : Addr) (h0 : Heap) (n0 : Nat) (Z0 : n0 ≤ h0.size) (FF : own_F Z h0 w_EXACT w_SPARE) :
    Does l x code maxLocals ret ws room_1 #[(.int p1), (.int p2)] Z h0 (fun v h L => v = some (.int 1) ∧ Fr n0 L) := by
  refine Does.of (plainFor_of_name pn_com_example_groupkeeper_groupkeeper_group_WideningSparePinLaw) ?_
  intro p e s m below meth c s₁ hx hby hml hret hlk hown0 hnm hZ X0 e0
  have hown : s.vm.findClass "com/example/groupkeeper/groupkeeper/group/WideningSparePinLaw" = some m.cls := hown0
  have N0 := Fr.nil n0
  have FF0 := FF
  obtain ⟨S_EXACT, S_SPARE, A_EXACT, A_SPARE, D_EXACT_SPARE⟩ := FF
  refine Go.cast (g' := (mkF m 0 #[.val (.int p1), .val (.int p2), .unset, .unset, .unset, .unset, .unset, .unset] [])) (by first | rfl | (simp [entryFrame, mkF, argsToLocals, Value.category, maxLocals]; done)) ?_
  refine Go.st (T' := s₁) (g' := (mkF m 1 #[.val (.int p1), .val (.int p2), .unset, .unset, .unset, .unset, .unset, .unset] [(.int p2)])) ?_ (fun _ k_ => XS.iloadN X0.here hx rfl (hb hby at_0) rfl k_)
  refine Go.st (T' := s₁) (g' := (mkF m 3 #[.val (.int p1), .val (.int p2), .unset, .unset, .unset, .unset, .unset, .unset] [(.int (2147483647 : Int32)), (.int p2)])) ?_ (fun _ k_ => X0.ldcI hx hown (mvT hZ (hw _ (List.mem_of_getElem? (i := 0) rfl))) rfl (hb hby at_1) k_)
  refine Go.st (T' := s₁) (g' := (mkF m 4 #[.val (.int p1), .val (.int p2), .unset, .unset, .unset, .unset, .unset, .unset] [(.int (p2 &&& (2147483647 : Int32)))])) ?_ (fun _ k_ => XS.iand X0.here hx rfl (hb hby at_3) rfl k_)
  have hm := c_mask p2 2147483647 31 (by decide) (by decide)
  generalize (p2 &&& (2147483647 : Int32)) = q at *
  have hd := c_idiv q 2 2 (by decide) (by decide)
  refine Go.st (T' := s₁) (g' := (mkF m 5 #[.val (.int p1), .val (.int p2), .val (.int q), .unset, .unset, .unset, .unset, .unset] [])) ?_ (fun _ k_ => XS.istoreN X0.here hx rfl (hb hby at_4) rfl (l' := #[.val (.int p1), .val (.int p2), .val (.int q), .unset, .unset, .unset, .unset, .unset]) rfl k_)
  refine Go.st (T' := s₁) (g' := (mkF m 6 #[.val (.int p1), .val (.int p2), .val (.int q), .unset, .unset, .unset, .unset, .unset] [(.int p1)])) ?_ (fun _ k_ => XS.iloadN X0.here hx rfl (hb hby at_5) rfl k_)
  refine Go.st (T' := s₁) (g' := (mkF m 7 #[.val (.int p1), .val (.int p2), .val (.int q), .unset, .unset, .unset, .unset, .unset] [(.int (1 : Int32)), (.int p1)])) ?_ (fun _ k_ => XT.iconstV X0.here hx rfl (1 : Int32) (hb hby at_6) (by decide) k_)
  refine Go.st (T' := s₁) (g' := (mkF m 8 #[.val (.int p1), .val (.int p2), .val (.int q), .unset, .unset, .unset, .unset, .unset] [(.int (p1 &&& (1 : Int32)))])) ?_ (fun _ k_ => XS.iand X0.here hx rfl (hb hby at_7) rfl k_)
  rcases own_k p1 with hk | hk
  · rw [hk]
    refine Go.st (T' := s₁) (g' := (mkF m 15 #[.val (.int p1), .val (.int p2), .val (.int q), .unset, .unset, .unset, .unset, .unset] [])) ?_ (fun _ k_ => XS.ifYes X0.here hx rfl (pc0 := 8) (pc' := 15) rfl (hb hby at_8) rfl (by decide) (by decide) (by decide) k_)
    refine Go.st (T' := s₁) (g' := (mkF m 16 #[.val (.int p1), .val (.int p2), .val (.int q), .unset, .unset, .unset, .unset, .unset] [(.int (0 : Int32))])) ?_ (fun _ k_ => XT.iconstV X0.here hx rfl (0 : Int32) (hb hby at_15) (by decide) k_)
    refine Go.st (T' := s₁) (g' := (mkF m 17 #[.val (.int p1), .val (.int p2), .val (.int q), .val (.int (0 : Int32)), .unset, .unset, .unset, .unset] [])) ?_ (fun _ k_ => XS.istoreN X0.here hx rfl (hb hby at_16) rfl (l' := #[.val (.int p1), .val (.int p2), .val (.int q), .val (.int (0 : Int32)), .unset, .unset, .unset, .unset]) rfl k_)
    refine Go.st (T' := s₁) (g' := (mkF m 18 #[.val (.int p1), .val (.int p2), .val (.int q), .val (.int (0 : Int32)), .unset, .unset, .unset, .unset] [(.int (0 : Int32))])) ?_ (fun _ k_ => XS.iloadN X0.here hx rfl (hb hby at_17) rfl k_)
    refine Go.st (T' := s₁) (g' := (mkF m 27 #[.val (.int p1), .val (.int p2), .val (.int q), .val (.int (0 : Int32)), .unset, .unset, .unset, .unset] [])) ?_ (fun _ k_ => XS.ifYes X0.here hx rfl (pc0 := 18) (pc' := 27) rfl (hb hby at_18) rfl (by decide) (by decide) (by decide) k_)
    obtain ⟨T1, X1, e1, st1⟩ := getS2 X0 hx hZ hown (host := "") (Or.inl (hw _ (List.mem_of_getElem? (i := 1) rfl))) Via.refl e0 S_EXACT (g := (mkF m 27 #[.val (.int p1), .val (.int p2), .val (.int q), .val (.int (0 : Int32)), .unset, .unset, .unset, .unset] [])) rfl (hb hby at_27)
    refine Go.st (T' := T1) (g' := (mkF m 30 #[.val (.int p1), .val (.int p2), .val (.int q), .val (.int (0 : Int32)), .unset, .unset, .unset, .unset] [(.ref w_EXACT)])) ?_ st1
    refine Go.st (T' := T1) (g' := (mkF m 32 #[.val (.int p1), .val (.int p2), .val (.int q), .val (.int (0 : Int32)), .val (.ref w_EXACT), .unset, .unset, .unset] [])) ?_ (fun _ k_ => XS.astore X1.here hx rfl (hb hby at_30) rfl rfl (l' := #[.val (.int p1), .val (.int p2), .val (.int q), .val (.int (0 : Int32)), .val (.ref w_EXACT), .unset, .unset, .unset]) rfl k_)
    refine Go.st (T' := T1) (g' := (mkF m 34 #[.val (.int p1), .val (.int p2), .val (.int q), .val (.int (0 : Int32)), .val (.ref w_EXACT), .unset, .unset, .unset] [(.ref w_EXACT)])) ?_ (fun _ k_ => XS.aload X1.here hx rfl (hb hby at_32) rfl rfl k_)
    refine Go.st (T' := T1) (g' := (mkF m 35 #[.val (.int p1), .val (.int p2), .val (.int q), .val (.int (0 : Int32)), .val (.ref w_EXACT), .unset, .unset, .unset] [(.int q), (.ref w_EXACT)])) ?_ (fun _ k_ => XS.iloadN X1.here hx rfl (hb hby at_34) rfl k_)
    refine Go.callV X1 hx hZ hown (hw _ (List.mem_of_getElem? (i := 4) rfl)) (hw _ (List.mem_of_getElem? (i := 5) rfl)) (hw _ (List.mem_of_getElem? (i := 7) rfl)) (hw _ (List.mem_of_getElem? (i := 6) rfl)) (hw _ (List.mem_of_getElem? (i := 2) rfl)) (hw _ (List.mem_of_getElem? (i := 8) rfl)) (by decide) A_EXACT (rm1 l Z a0 hw [] w_EXACT q w_EXACT w_SPARE h0 n0 Z0 FF0 ) e1 (by decide) (W := 0) (by decide) (by decide) (by decide) (g := (mkF m 35 #[.val (.int p1), .val (.int p2), .val (.int q), .val (.int (0 : Int32)), .val (.ref w_EXACT), .unset, .unset, .unset] [(.int q), (.ref w_EXACT)])) (rest := []) rfl (by rw [hml]; rfl) (lenOf pd__I_I rfl) rfl (by show 2 * 0 + _ ≤ _; exact Nat.le_of_eq rfl) (hb hby at_35) ?_
    rintro v2 T2 L2 X2 ⟨rfl, N2, e2⟩
    have M2 := Fr.app N0 N2
    rw [show own_spare w_EXACT q w_EXACT w_SPARE = (0 : Int32) from by rw [own_spare, if_neg (D_EXACT_SPARE : ¬ w_EXACT = w_SPARE)]]
    show Go p e below _ T2 (mkF m 38 #[.val (.int p1), .val (.int p2), .val (.int q), .val (.int (0 : Int32)), .val (.ref w_EXACT), .unset, .unset, .unset] [(.int (0 : Int32))])
    refine Go.st (T' := T2) (g' := (mkF m 40 #[.val (.int p1), .val (.int p2), .val (.int q), .val (.int (0 : Int32)), .val (.ref w_EXACT), .val (.int (0 : Int32)), .unset, .unset] [])) ?_ (fun _ k_ => XS.istore X2.here hx rfl (hb hby at_38) rfl (l' := #[.val (.int p1), .val (.int p2), .val (.int q), .val (.int (0 : Int32)), .val (.ref w_EXACT), .val (.int (0 : Int32)), .unset, .unset]) rfl k_)
    refine Go.st (T' := T2) (g' := (mkF m 41 #[.val (.int p1), .val (.int p2), .val (.int q), .val (.int (0 : Int32)), .val (.ref w_EXACT), .val (.int (0 : Int32)), .unset, .unset] [(.int (0 : Int32))])) ?_ (fun _ k_ => XS.iloadN X2.here hx rfl (hb hby at_40) rfl k_)
    refine Go.st (T' := T2) (g' := (mkF m 44 #[.val (.int p1), .val (.int p2), .val (.int q), .val (.int (0 : Int32)), .val (.ref w_EXACT), .val (.int (0 : Int32)), .unset, .unset] [])) ?_ (fun _ k_ => XS.ifNo X2.here hx rfl (hb hby at_41) rfl (by decide) k_)
    refine Go.st (T' := T2) (g' := (mkF m 46 #[.val (.int p1), .val (.int p2), .val (.int q), .val (.int (0 : Int32)), .val (.ref w_EXACT), .val (.int (0 : Int32)), .unset, .unset] [(.int (0 : Int32))])) ?_ (fun _ k_ => XS.iload X2.here hx rfl (hb hby at_44) rfl k_)
    refine Go.st (T' := T2) (g' := (mkF m 49 #[.val (.int p1), .val (.int p2), .val (.int q), .val (.int (0 : Int32)), .val (.ref w_EXACT), .val (.int (0 : Int32)), .unset, .unset] [])) ?_ (fun _ k_ => XS.ifNo X2.here hx rfl (hb hby at_46) rfl (by decide) k_)
    refine Go.st (T' := T2) (g' := (mkF m 50 #[.val (.int p1), .val (.int p2), .val (.int q), .val (.int (0 : Int32)), .val (.ref w_EXACT), .val (.int (0 : Int32)), .unset, .unset] [(.int (1 : Int32))])) ?_ (fun _ k_ => XT.iconstV X2.here hx rfl (1 : Int32) (hb hby at_49) (by decide) k_)
    refine Go.st (T' := T2) (g' := (mkF m 54 #[.val (.int p1), .val (.int p2), .val (.int q), .val (.int (0 : Int32)), .val (.ref w_EXACT), .val (.int (0 : Int32)), .unset, .unset] [(.int (1 : Int32))])) ?_ (fun _ k_ => XS.goto X2.here hx rfl (pc0 := 50) (pc' := 54) rfl (hb hby at_50) (by decide) (by decide) k_)
    exact Go.retV (t := .boolean) X2 hx hret hlk (by decide) (by decide) rfl (Or.inl ⟨rfl, Or.inr (Or.inl rfl), _, rfl⟩) (hb hby at_54) ⟨rfl, M2⟩
  · rw [hk]
    refine Go.st (T' := s₁) (g' := (mkF m 11 #[.val (.int p1), .val (.int p2), .val (.int q), .unset, .unset, .unset, .unset, .unset] [])) ?_ (fun _ k_ => XS.ifNo X0.here hx rfl (hb hby at_8) rfl (by decide) k_)
    refine Go.st (T' := s₁) (g' := (mkF m 12 #[.val (.int p1), .val (.int p2), .val (.int q), .unset, .unset, .unset, .unset, .unset] [(.int (1 : Int32))])) ?_ (fun _ k_ => XT.iconstV X0.here hx rfl (1 : Int32) (hb hby at_11) (by decide) k_)
    refine Go.st (T' := s₁) (g' := (mkF m 16 #[.val (.int p1), .val (.int p2), .val (.int q), .unset, .unset, .unset, .unset, .unset] [(.int (1 : Int32))])) ?_ (fun _ k_ => XS.goto X0.here hx rfl (pc0 := 12) (pc' := 16) rfl (hb hby at_12) (by decide) (by decide) k_)
    refine Go.st (T' := s₁) (g' := (mkF m 17 #[.val (.int p1), .val (.int p2), .val (.int q), .val (.int (1 : Int32)), .unset, .unset, .unset, .unset] [])) ?_ (fun _ k_ => XS.istoreN X0.here hx rfl (hb hby at_16) rfl (l' := #[.val (.int p1), .val (.int p2), .val (.int q), .val (.int (1 : Int32)), .unset, .unset, .unset, .unset]) rfl k_)
    refine Go.st (T' := s₁) (g' := (mkF m 18 #[.val (.int p1), .val (.int p2), .val (.int q), .val (.int (1 : Int32)), .unset, .unset, .unset, .unset] [(.int (1 : Int32))])) ?_ (fun _ k_ => XS.iloadN X0.here hx rfl (hb hby at_17) rfl k_)
    refine Go.st (T' := s₁) (g' := (mkF m 21 #[.val (.int p1), .val (.int p2), .val (.int q), .val (.int (1 : Int32)), .unset, .unset, .unset, .unset] [])) ?_ (fun _ k_ => XS.ifNo X0.here hx rfl (hb hby at_18) rfl (by decide) k_)
    obtain ⟨T3, X3, e3, st3⟩ := getS2 X0 hx hZ hown (host := "") (Or.inl (hw _ (List.mem_of_getElem? (i := 11) rfl))) Via.refl e0 S_SPARE (g := (mkF m 21 #[.val (.int p1), .val (.int p2), .val (.int q), .val (.int (1 : Int32)), .unset, .unset, .unset, .unset] [])) rfl (hb hby at_21)
    refine Go.st (T' := T3) (g' := (mkF m 24 #[.val (.int p1), .val (.int p2), .val (.int q), .val (.int (1 : Int32)), .unset, .unset, .unset, .unset] [(.ref w_SPARE)])) ?_ st3
    refine Go.st (T' := T3) (g' := (mkF m 30 #[.val (.int p1), .val (.int p2), .val (.int q), .val (.int (1 : Int32)), .unset, .unset, .unset, .unset] [(.ref w_SPARE)])) ?_ (fun _ k_ => XS.goto X3.here hx rfl (pc0 := 24) (pc' := 30) rfl (hb hby at_24) (by decide) (by decide) k_)
    refine Go.st (T' := T3) (g' := (mkF m 32 #[.val (.int p1), .val (.int p2), .val (.int q), .val (.int (1 : Int32)), .val (.ref w_SPARE), .unset, .unset, .unset] [])) ?_ (fun _ k_ => XS.astore X3.here hx rfl (hb hby at_30) rfl rfl (l' := #[.val (.int p1), .val (.int p2), .val (.int q), .val (.int (1 : Int32)), .val (.ref w_SPARE), .unset, .unset, .unset]) rfl k_)
    refine Go.st (T' := T3) (g' := (mkF m 34 #[.val (.int p1), .val (.int p2), .val (.int q), .val (.int (1 : Int32)), .val (.ref w_SPARE), .unset, .unset, .unset] [(.ref w_SPARE)])) ?_ (fun _ k_ => XS.aload X3.here hx rfl (hb hby at_32) rfl rfl k_)
    refine Go.st (T' := T3) (g' := (mkF m 35 #[.val (.int p1), .val (.int p2), .val (.int q), .val (.int (1 : Int32)), .val (.ref w_SPARE), .unset, .unset, .unset] [(.int q), (.ref w_SPARE)])) ?_ (fun _ k_ => XS.iloadN X3.here hx rfl (hb hby at_34) rfl k_)
    refine Go.callV X3 hx hZ hown (hw _ (List.mem_of_getElem? (i := 4) rfl)) (hw _ (List.mem_of_getElem? (i := 5) rfl)) (hw _ (List.mem_of_getElem? (i := 7) rfl)) (hw _ (List.mem_of_getElem? (i := 6) rfl)) (hw _ (List.mem_of_getElem? (i := 2) rfl)) (hw _ (List.mem_of_getElem? (i := 8) rfl)) (by decide) A_SPARE (rm1 l Z a0 hw [] w_SPARE q w_EXACT w_SPARE h0 n0 Z0 FF0 ) e3 (by decide) (W := 0) (by decide) (by decide) (by decide) (g := (mkF m 35 #[.val (.int p1), .val (.int p2), .val (.int q), .val (.int (1 : Int32)), .val (.ref w_SPARE), .unset, .unset, .unset] [(.int q), (.ref w_SPARE)])) (rest := []) rfl (by rw [hml]; rfl) (lenOf pd__I_I rfl) rfl (by show 2 * 0 + _ ≤ _; exact Nat.le_of_eq rfl) (hb hby at_35) ?_
    rintro v4 T4 L4 X4 ⟨rfl, N4, e4⟩
    have M4 := Fr.app N0 N4
    rw [show own_spare w_SPARE q w_EXACT w_SPARE = (q / (2 : Int32)) from by rw [own_spare, if_pos (rfl : w_SPARE = w_SPARE)]]
    show Go p e below _ T4 (mkF m 38 #[.val (.int p1), .val (.int p2), .val (.int q), .val (.int (1 : Int32)), .val (.ref w_SPARE), .unset, .unset, .unset] [(.int (q / (2 : Int32)))])
    refine Go.st (T' := T4) (g' := (mkF m 40 #[.val (.int p1), .val (.int p2), .val (.int q), .val (.int (1 : Int32)), .val (.ref w_SPARE), .val (.int (q / (2 : Int32))), .unset, .unset] [])) ?_ (fun _ k_ => XS.istore X4.here hx rfl (hb hby at_38) rfl (l' := #[.val (.int p1), .val (.int p2), .val (.int q), .val (.int (1 : Int32)), .val (.ref w_SPARE), .val (.int (q / (2 : Int32))), .unset, .unset]) rfl k_)
    refine Go.st (T' := T4) (g' := (mkF m 41 #[.val (.int p1), .val (.int p2), .val (.int q), .val (.int (1 : Int32)), .val (.ref w_SPARE), .val (.int (q / (2 : Int32))), .unset, .unset] [(.int (1 : Int32))])) ?_ (fun _ k_ => XS.iloadN X4.here hx rfl (hb hby at_40) rfl k_)
    refine Go.st (T' := T4) (g' := (mkF m 55 #[.val (.int p1), .val (.int p2), .val (.int q), .val (.int (1 : Int32)), .val (.ref w_SPARE), .val (.int (q / (2 : Int32))), .unset, .unset] [])) ?_ (fun _ k_ => XS.ifYes X4.here hx rfl (pc0 := 41) (pc' := 55) rfl (hb hby at_41) rfl (by decide) (by decide) (by decide) k_)
    have hr := (c_idiv q 2 2 (by decide) (by decide)).1 (by omega)
    generalize (q / (2 : Int32)) = z at *
    have hz := c_i2l z
    have hq := c_i2l q
    refine Go.st (T' := T4) (g' := (mkF m 58 #[.val (.int p1), .val (.int p2), .val (.int q), .val (.int (1 : Int32)), .val (.ref w_SPARE), .val (.int z), .unset, .unset] [(.long (2 : Int64))])) ?_ (fun _ k_ => X4.ldc2J hx hown (mvT hZ (hw _ (List.mem_of_getElem? (i := 12) rfl))) rfl (hb hby at_55) k_)
    refine Go.st (T' := T4) (g' := (mkF m 60 #[.val (.int p1), .val (.int p2), .val (.int q), .val (.int (1 : Int32)), .val (.ref w_SPARE), .val (.int z), .unset, .unset] [(.int z), (.long (2 : Int64))])) ?_ (fun _ k_ => XS.iload X4.here hx rfl (hb hby at_58) rfl k_)
    refine Go.st (T' := T4) (g' := (mkF m 61 #[.val (.int p1), .val (.int p2), .val (.int q), .val (.int (1 : Int32)), .val (.ref w_SPARE), .val (.int z), .unset, .unset] [(.long z.toInt64), (.long (2 : Int64))])) ?_ (fun _ k_ => XT.i2l X4.here hx rfl (hb hby at_60) rfl k_)
    refine Go.st (T' := T4) (g' := (mkF m 62 #[.val (.int p1), .val (.int p2), .val (.int q), .val (.int (1 : Int32)), .val (.ref w_SPARE), .val (.int z), .unset, .unset] [(.long ((2 : Int64) * z.toInt64))])) ?_ (fun _ k_ => XT.lmul X4.here hx rfl (hb hby at_61) rfl k_)
    have ht := c_lmul (2 : Int64) z.toInt64
    have e2 : (2 : Int64).toInt = 2 := by decide
    rw [e2] at ht
    have rz := rng32 z
    have ht0 := rng64 ((2 : Int64) * z.toInt64)
    generalize ((2 : Int64) * z.toInt64) = t at *
    refine Go.st (T' := T4) (g' := (mkF m 64 #[.val (.int p1), .val (.int p2), .val (.int q), .val (.int (1 : Int32)), .val (.ref w_SPARE), .val (.int z), .val (.long t), .second] [])) ?_ (fun _ k_ => XT.lstore X4.here hx rfl (hb hby at_62) rfl (l' := #[.val (.int p1), .val (.int p2), .val (.int q), .val (.int (1 : Int32)), .val (.ref w_SPARE), .val (.int z), .val (.long t), .second]) rfl k_)
    refine Go.st (T' := T4) (g' := (mkF m 66 #[.val (.int p1), .val (.int p2), .val (.int q), .val (.int (1 : Int32)), .val (.ref w_SPARE), .val (.int z), .val (.long t), .second] [(.int z)])) ?_ (fun _ k_ => XS.iload X4.here hx rfl (hb hby at_64) rfl k_)
    refine Go.st (T' := T4) (g' := (mkF m 69 #[.val (.int p1), .val (.int p2), .val (.int q), .val (.int (1 : Int32)), .val (.ref w_SPARE), .val (.int z), .val (.long t), .second] [])) ?_ (fun _ k_ => XS.ifNo X4.here hx rfl (hb hby at_66) rfl ((if0 _ _).trans (flt (own_i_nlt rfl (by decide : (0 : Int32).toInt = 0) (by omega) : ¬ z < (0 : Int32))).1) k_)
    refine Go.st (T' := T4) (g' := (mkF m 71 #[.val (.int p1), .val (.int p2), .val (.int q), .val (.int (1 : Int32)), .val (.ref w_SPARE), .val (.int z), .val (.long t), .second] [(.long t)])) ?_ (fun _ k_ => XT.lload X4.here hx rfl (hb hby at_69) rfl k_)
    refine Go.st (T' := T4) (g' := (mkF m 72 #[.val (.int p1), .val (.int p2), .val (.int q), .val (.int (1 : Int32)), .val (.ref w_SPARE), .val (.int z), .val (.long t), .second] [(.int q), (.long t)])) ?_ (fun _ k_ => XS.iloadN X4.here hx rfl (hb hby at_71) rfl k_)
    refine Go.st (T' := T4) (g' := (mkF m 73 #[.val (.int p1), .val (.int p2), .val (.int q), .val (.int (1 : Int32)), .val (.ref w_SPARE), .val (.int z), .val (.long t), .second] [(.long q.toInt64), (.long t)])) ?_ (fun _ k_ => XT.i2l X4.here hx rfl (hb hby at_72) rfl k_)
    refine Go.st (T' := T4) (g' := (mkF m 74 #[.val (.int p1), .val (.int p2), .val (.int q), .val (.int (1 : Int32)), .val (.ref w_SPARE), .val (.int z), .val (.long t), .second] [(.int (lcmpW t q.toInt64))])) ?_ (fun _ k_ => XT.lcmp X4.here hx rfl (hb hby at_73) rfl k_)
    refine Go.st (T' := T4) (g' := (mkF m 77 #[.val (.int p1), .val (.int p2), .val (.int q), .val (.int (1 : Int32)), .val (.ref w_SPARE), .val (.int z), .val (.long t), .second] [])) ?_ (fun _ k_ => XS.ifNo X4.here hx rfl (hb hby at_74) rfl ((if0 _ _).trans (flt (fun q_ => (own_l_nlt rfl rfl (by omega) : ¬ q.toInt64 < t) ((lw_gt _ _).mp q_))).2.2.1) k_)
    refine Go.st (T' := T4) (g' := (mkF m 78 #[.val (.int p1), .val (.int p2), .val (.int q), .val (.int (1 : Int32)), .val (.ref w_SPARE), .val (.int z), .val (.long t), .second] [(.int q)])) ?_ (fun _ k_ => XS.iloadN X4.here hx rfl (hb hby at_77) rfl k_)
    refine Go.st (T' := T4) (g' := (mkF m 79 #[.val (.int p1), .val (.int p2), .val (.int q), .val (.int (1 : Int32)), .val (.ref w_SPARE), .val (.int z), .val (.long t), .second] [(.long q.toInt64)])) ?_ (fun _ k_ => XT.i2l X4.here hx rfl (hb hby at_78) rfl k_)
    refine Go.st (T' := T4) (g' := (mkF m 81 #[.val (.int p1), .val (.int p2), .val (.int q), .val (.int (1 : Int32)), .val (.ref w_SPARE), .val (.int z), .val (.long t), .second] [(.long t), (.long q.toInt64)])) ?_ (fun _ k_ => XT.lload X4.here hx rfl (hb hby at_79) rfl k_)
    refine Go.st (T' := T4) (g' := (mkF m 84 #[.val (.int p1), .val (.int p2), .val (.int q), .val (.int (1 : Int32)), .val (.ref w_SPARE), .val (.int z), .val (.long t), .second] [(.long (2 : Int64)), (.long t), (.long q.toInt64)])) ?_ (fun _ k_ => X4.ldc2J hx hown (mvT hZ (hw _ (List.mem_of_getElem? (i := 12) rfl))) rfl (hb hby at_81) k_)
    refine Go.st (T' := T4) (g' := (mkF m 85 #[.val (.int p1), .val (.int p2), .val (.int q), .val (.int (1 : Int32)), .val (.ref w_SPARE), .val (.int z), .val (.long t), .second] [(.long (t + (2 : Int64))), (.long q.toInt64)])) ?_ (fun _ k_ => XT.ladd X4.here hx rfl (hb hby at_84) rfl k_)
    have hu := c_ladd t (2 : Int64)
    have hu0 := rng64 (t + (2 : Int64))
    generalize (t + (2 : Int64)) = u at *
    refine Go.st (T' := T4) (g' := (mkF m 86 #[.val (.int p1), .val (.int p2), .val (.int q), .val (.int (1 : Int32)), .val (.ref w_SPARE), .val (.int z), .val (.long t), .second] [(.int (lcmpW q.toInt64 u))])) ?_ (fun _ k_ => XT.lcmp X4.here hx rfl (hb hby at_85) rfl k_)
    refine Go.st (T' := T4) (g' := (mkF m 89 #[.val (.int p1), .val (.int p2), .val (.int q), .val (.int (1 : Int32)), .val (.ref w_SPARE), .val (.int z), .val (.long t), .second] [])) ?_ (fun _ k_ => XS.ifNo X4.here hx rfl (hb hby at_86) rfl ((if0 _ _).trans (tlt ((lw_lt _ _).mpr (own_l_lt rfl rfl (by omega) : q.toInt64 < u))).2.1) k_)
    refine Go.st (T' := T4) (g' := (mkF m 90 #[.val (.int p1), .val (.int p2), .val (.int q), .val (.int (1 : Int32)), .val (.ref w_SPARE), .val (.int z), .val (.long t), .second] [(.int (1 : Int32))])) ?_ (fun _ k_ => XT.iconstV X4.here hx rfl (1 : Int32) (hb hby at_89) (by decide) k_)
    refine Go.st (T' := T4) (g' := (mkF m 94 #[.val (.int p1), .val (.int p2), .val (.int q), .val (.int (1 : Int32)), .val (.ref w_SPARE), .val (.int z), .val (.long t), .second] [(.int (1 : Int32))])) ?_ (fun _ k_ => XS.goto X4.here hx rfl (pc0 := 90) (pc' := 94) rfl (hb hby at_90) (by decide) (by decide) k_)
    exact Go.retV (t := .boolean) X4 hx hret hlk (by decide) (by decide) rfl (Or.inl ⟨rfl, Or.inr (Or.inl rfl), _, rfl⟩) (hb hby at_94) ⟨rfl, M4⟩
set_option maxRecDepth 65536 in
set_option maxHeartbeats 40000000 in
theorem comes_1 {Post : Tables → Env → Array Value → State → Outcome → State → Prop} (hpost : ∀ tb e args s v u, (limb_1_1.after args s (.returned v) u = true ∧ limb_1_2.after args s (.returned v) u = true ∧ True) → FrameEnd s (.returned v) u (Jvm.fieldLocs frame_1_writes args s ++ Jvm.arrayLocs frame_1_arrays args s ++ Jvm.staticLocs frame_1_statics s) 0 0 → Post tb e args s (.returned v) u) :
    ArmFor flags0 classFile x code maxLocals ret World_1 tables_1 room_1 Calls_1 rest_1 Pre_1 Post := by
  intro l hfl _ _ p e ha hc hk s m args below hf hA hF happ hP
  obtain ⟨hcalls, hrest, hpre⟩ := hP
  obtain ⟨-, -, -, hnamed, -, -, -, hat⟩ := (Spec.applies_iff hf).mp happ
  obtain ⟨hg, hn⟩ := and_e (Cond.before_iff.mp (show (Jvm.Cond.and given_1 narrow_1).before args s = true from hpre))
  obtain ⟨g0, hg⟩ := and_e hg
  obtain ⟨g1, hg⟩ := and_e hg
  obtain ⟨w0, w1, rfl⟩ : ∃ w0 w1 : Value, args = #[w0, w1] := by
    have hs : args.size = 2 := by simpa [Cond.value, given_1] using g0
    obtain ⟨L⟩ := args
    match L, hs with
    | [w0, w1], _ => exact ⟨w0, w1, rfl⟩
  have hw := fun d (hd : d ∈ tables_1) => atoms_spec (ws := Jvm.Cond.code x code maxLocals ret :: tables_1) hat d (List.mem_cons_of_mem _ hd)
  obtain ⟨i0, ei0⟩ := is_v g1
  obtain rfl : w0 = (.int i0) := Option.some.inj ei0
  obtain ⟨i1, ei1⟩ := is_v hg
  obtain rfl : w1 = (.int i1) := Option.some.inj ei1
  obtain ⟨f1a, f1b⟩ := and_e hn
  obtain ⟨f2a, f2b⟩ := and_e f1b
  obtain ⟨f3a, f3b⟩ := and_e f2b
  obtain ⟨w_EXACT, ev_EXACT⟩ := exa_v f1a
  have S_EXACT := Sta.start ev_EXACT (Or.inr ⟨(hw _ (List.mem_of_getElem? (i := 2) rfl)), (hw _ (List.mem_of_getElem? (i := 3) rfl))⟩)
  have A_EXACT := Exa.start ev_EXACT f1a
  obtain ⟨w_SPARE, ev_SPARE⟩ := exa_v f2a
  have S_SPARE := Sta.start ev_SPARE (Or.inr ⟨(hw _ (List.mem_of_getElem? (i := 2) rfl)), (hw _ (List.mem_of_getElem? (i := 10) rfl))⟩)
  have A_SPARE := Exa.start ev_SPARE f2a
  have F_EXACT_ordinal := own_fldInt ev_EXACT f3a
  have F_SPARE_ordinal := own_fldInt ev_SPARE f3b
  have D_EXACT_SPARE : ¬ w_EXACT = w_SPARE := Fld.ne F_EXACT_ordinal F_SPARE_ordinal (by simp)
  have FF : own_F s s.heap w_EXACT w_SPARE := ⟨S_EXACT, S_SPARE, A_EXACT, A_SPARE, D_EXACT_SPARE⟩
  obtain ⟨n, o, h1, h2, h3, _, L, rfl, ⟨rfl, N⟩, hq⟩ := rm0 l s _ hw tables_1 i0 i1 w_EXACT w_SPARE s.heap s.heap.size (Nat.le_refl _) FF p e ha hc hk s m _ below hf ((Spec.applies_iff_loose hf).mp happ).1 ⟨rfl, State.Warmed39.refl s, rfl⟩ trivial
  refine ⟨n, _, h1, h2, h3, hpost _ _ _ _ _ _ ⟨Cond.after_iff.mpr rfl, Cond.after_iff.mpr (eq_i res_at (Term.int_eval (1)) rfl), trivial⟩ ⟨hq.1, hq.2.1, (hq.2.2.sift fun y hy => Or.inr (N y hy)).mono (by decide) (by decide)⟩⟩
theorem main_1_1 : Claimed_1_1 := comes_1 fun _ _ _ _ _ _ h hF => ⟨h.1, hF⟩
theorem main_1_2 : Claimed_1_2 := comes_1 fun _ _ _ _ _ _ h hF => ⟨h.2.1, hF⟩
end Jvm.Pilot.@@N@@
namespace Jvm.Pilot.@@N@@
open Jvm Jvm.ClassFile Sem Op Lib Jvm.Free Jvm.Stand Jvm.Pilot.@@N@@.Jvm.D
/-! MADE BY PROGRAM (witnessworld.py) out of the Statement's table words and the real class files: 12 classes; the members and pool entries that the words name. The judged class is class 1, her method 1. -/
namespace start1
open Jvm.ClassFile
def u (s : String) : CpInfo := .utf8 (stringToUtf16 s)
/-- a pool by its gaps: so many unusable entries, then the entry; so many at the end -/
def gap : Nat → List CpInfo → List CpInfo
  | 0, r => r
  | n + 1, r => .unusable :: gap n r
def poolList (es : List (Nat × CpInfo)) (last : Nat) : List CpInfo := es.foldr (fun e r => gap e.1 (e.2 :: r)) (gap last [])
def pool (es : List (Nat × CpInfo)) (last : Nat) : Array CpInfo := ⟨poolList es last⟩
def fileOf (pool : Array CpInfo) (this : Nat) (attrs : Array Attribute := #[]) (ms : Array MethodInfo := #[]) (fl : Nat := 33) (sup : Nat := 0) (ifs : Array Nat := #[]) (fds : Array FieldInfo := #[]) : ClassFile where
  minorVersion := 0
  majorVersion := 65
  constantPool := pool
  accessFlags := fl
  thisClass := this
  superClass := sup
  interfaces := ifs
  fields := fds
  methods := ms
  attributes := attrs
def plain (name : String) (sup : Option ClassId) : Class where
  name := name
  kind := .ordinary
  loader := none
  accessFlags := 33
  super := sup
  interfaces := #[]
  cf := none
  fields := #[]
  methods := #[]
  instanceTypes := #[]
  staticTypes := #[]
  resolved := #[]
  callSites := []
  init := .initialized
  statics := none
  mirror := none

def pool0 : Array CpInfo := pool [(5, u "<init>"), (0, u "()V"), (1, .class_ 10), (1, u "java/lang/Object")] 113

def k0m0 : Method := { name := "<init>", desc := "()V", sig := { parameters := [], returnType := none }, accessFlags := 1, code := none }
/-- java/lang/Object -/
def k0 : Class := { plain "java/lang/Object" none with
  accessFlags := 33
  interfaces := #[]
  cf := some (fileOf pool0 8 #[] #[{ accessFlags := 1, nameIndex := 5, descriptorIndex := 6, attributes := #[] }] 33 0 #[] #[])
  fields := #[]
  methods := #[k0m0]
  instanceTypes := #[]
  staticTypes := #[]
  resolved := Array.replicate 124 none
  statics := none }

def pool1 : Array CpInfo := pool [(2, .class_ 4), (1, u "java/lang/Object"), (0, u "<init>"), (0, u "()V"), (0, .integer 2147483647), (0, .fieldref 9 10), (0, .class_ 11), (0, .nameAndType 12 13), (0, u "com/example/groupkeeper/groupkeeper/group/TopicOffsets$Widening"), (0, u "SPARE"), (0, u "Lcom/example/groupkeeper/groupkeeper/group/TopicOffsets$Widening;"), (0, .fieldref 9 15), (0, .nameAndType 16 13), (0, u "EXACT"), (0, .methodref 9 18), (0, .nameAndType 19 20), (0, u "spare"), (0, u "(I)I"), (0, .long 2), (1, .class_ 24), (0, u "com/example/groupkeeper/groupkeeper/group/WideningSparePinLaw"), (2, u "law"), (0, u "(II)Z")] 7

def k1m0 : Method := { name := "<init>", desc := "()V", sig := { parameters := [], returnType := none }, accessFlags := 2, code := none }
def k1c1 : Code := { maxStack := 6, maxLocals := 8, code := code, exceptionTable := #[], attributes := #[] }
def k1m1 : Method := { name := "law", desc := "(II)Z", sig := { parameters := [.int, .int], returnType := some .boolean }, accessFlags := 9, code := some k1c1 }
/-- com/example/groupkeeper/groupkeeper/group/WideningSparePinLaw -/
def k1 : Class := { plain "com/example/groupkeeper/groupkeeper/group/WideningSparePinLaw" (some 0) with
  accessFlags := 49
  interfaces := #[]
  cf := some (fileOf pool1 23 #[] #[{ accessFlags := 2, nameIndex := 5, descriptorIndex := 6, attributes := #[] }, { accessFlags := 9, nameIndex := 27, descriptorIndex := 28, attributes := #[] }] 49 2 #[] #[])
  fields := #[]
  methods := #[k1m0, k1m1]
  instanceTypes := #[]
  staticTypes := #[]
  resolved := Array.replicate 36 none
  statics := none }

def pool2 : Array CpInfo := pool [(1, .class_ 2), (0, u "java/lang/constant/Constable"), (0, .class_ 4), (0, u "java/lang/Object")] 6

/-- java/lang/constant/Constable -/
def k2 : Class := { plain "java/lang/constant/Constable" (some 0) with
  accessFlags := 1537
  interfaces := #[]
  cf := some (fileOf pool2 1 #[] #[] 1537 3 #[] #[])
  fields := #[]
  methods := #[]
  instanceTypes := #[]
  staticTypes := #[]
  resolved := Array.replicate 11 none
  statics := none }

def pool3 : Array CpInfo := pool [(1, .class_ 2), (0, u "java/lang/Comparable"), (0, .class_ 4), (0, u "java/lang/Object")] 7

/-- java/lang/Comparable -/
def k3 : Class := { plain "java/lang/Comparable" (some 0) with
  accessFlags := 1537
  interfaces := #[]
  cf := some (fileOf pool3 1 #[] #[] 1537 3 #[] #[])
  fields := #[]
  methods := #[]
  instanceTypes := #[]
  staticTypes := #[]
  resolved := Array.replicate 12 none
  statics := none }

def pool4 : Array CpInfo := pool [(1, .class_ 2), (0, u "java/io/Serializable"), (0, .class_ 4), (0, u "java/lang/Object")] 2

/-- java/io/Serializable -/
def k4 : Class := { plain "java/io/Serializable" (some 0) with
  accessFlags := 1537
  interfaces := #[]
  cf := some (fileOf pool4 1 #[] #[] 1537 3 #[] #[])
  fields := #[]
  methods := #[]
  instanceTypes := #[]
  staticTypes := #[]
  resolved := Array.replicate 7 none
  statics := none }

def pool5 : Array CpInfo := pool [(2, .class_ 4), (1, u "java/lang/Enum"), (0, u "name"), (0, u "Ljava/lang/String;"), (2, u "ordinal"), (0, u "I"), (1, .class_ 14), (1, u "java/lang/Object"), (4, u "hash"), (86, .class_ 108), (1, u "java/lang/Enum$EnumDesc"), (2, .class_ 112), (0, u "java/lang/constant/Constable"), (0, .class_ 114), (0, u "java/lang/Comparable"), (0, .class_ 116), (0, u "java/io/Serializable")] 87

/-- java/lang/Enum -/
def k5 : Class := { plain "java/lang/Enum" (some 0) with
  accessFlags := 1057
  interfaces := #[2, 3, 4]
  cf := some (fileOf pool5 2 #[.nestMembers #[106]] #[] 1057 12 #[111, 113, 115] #[{ accessFlags := 18, nameIndex := 5, descriptorIndex := 6, attributes := #[] }, { accessFlags := 18, nameIndex := 9, descriptorIndex := 10, attributes := #[] }, { accessFlags := 2, nameIndex := 19, descriptorIndex := 10, attributes := #[] }])
  fields := #[{ name := "name", type := (.object "java/lang/String"), accessFlags := 18, slot := 0, constantValue := 0 }, { name := "ordinal", type := .int, accessFlags := 18, slot := 1, constantValue := 0 }, { name := "hash", type := .int, accessFlags := 2, slot := 2, constantValue := 0 }]
  methods := #[]
  instanceTypes := #[(.object "java/lang/String"), .int, .int]
  staticTypes := #[]
  resolved := Array.replicate 204 none
  statics := none }

def pool6 : Array CpInfo := pool [(1, .class_ 2), (0, u "com/example/groupkeeper/groupkeeper/group/TopicOffsets$Widening"), (0, .fieldref 1 4), (0, .nameAndType 5 6), (0, u "SPARE"), (0, u "Lcom/example/groupkeeper/groupkeeper/group/TopicOffsets$Widening;"), (2, u "EXACT"), (2, u "$VALUES"), (0, u "[Lcom/example/groupkeeper/groupkeeper/group/TopicOffsets$Widening;"), (6, .class_ 22), (1, u "java/lang/Enum"), (20, u "spare"), (0, u "(I)I"), (6, .class_ 52), (0, u "com/example/groupkeeper/groupkeeper/group/TopicOffsets")] 2

def k6c0 : Code := { maxStack := 2, maxLocals := 2, code := prog_69_method_4_code, exceptionTable := #[], attributes := #[] }
def k6m0 : Method := { name := "spare", desc := "(I)I", sig := { parameters := [.int], returnType := some .int }, accessFlags := 0, code := some k6c0 }
/-- com/example/groupkeeper/groupkeeper/group/TopicOffsets$Widening -/
def k6 : Class := { plain "com/example/groupkeeper/groupkeeper/group/TopicOffsets$Widening" (some 5) with
  accessFlags := 16432
  interfaces := #[]
  cf := some (fileOf pool6 1 #[.nestHost 51] #[{ accessFlags := 0, nameIndex := 43, descriptorIndex := 44, attributes := #[] }] 16432 20 #[] #[{ accessFlags := 16409, nameIndex := 5, descriptorIndex := 6, attributes := #[] }, { accessFlags := 16409, nameIndex := 9, descriptorIndex := 6, attributes := #[] }, { accessFlags := 4122, nameIndex := 12, descriptorIndex := 13, attributes := #[] }])
  fields := #[{ name := "SPARE", type := (.object "com/example/groupkeeper/groupkeeper/group/TopicOffsets$Widening"), accessFlags := 16409, slot := 0, constantValue := 0 }, { name := "EXACT", type := (.object "com/example/groupkeeper/groupkeeper/group/TopicOffsets$Widening"), accessFlags := 16409, slot := 1, constantValue := 0 }, { name := "$VALUES", type := (.array (.object "com/example/groupkeeper/groupkeeper/group/TopicOffsets$Widening")), accessFlags := 4122, slot := 2, constantValue := 0 }]
  methods := #[k6m0]
  instanceTypes := #[(.object "java/lang/String"), .int, .int]
  staticTypes := #[(.object "com/example/groupkeeper/groupkeeper/group/TopicOffsets$Widening"), (.object "com/example/groupkeeper/groupkeeper/group/TopicOffsets$Widening"), (.array (.object "com/example/groupkeeper/groupkeeper/group/TopicOffsets$Widening"))]
  resolved := Array.replicate 55 none
  statics := some 0 }

def pool7 : Array CpInfo := pool [(1, u "java/lang/Cloneable"), (0, .class_ 1), (0, u "java/lang/Object"), (0, .class_ 3)] 3

/-- java/lang/Cloneable -/
def k7 : Class := { plain "java/lang/Cloneable" (some 0) with
  accessFlags := 1537
  interfaces := #[]
  cf := some (fileOf pool7 2 #[] #[] 1537 4 #[] #[])
  fields := #[]
  methods := #[]
  instanceTypes := #[]
  staticTypes := #[]
  resolved := Array.replicate 8 none
  statics := none }

/-- the primitive byte -/
def k8 : Class := { plain "byte" none with kind := .primitive 'B', accessFlags := 0x411 }
/-- [B -/
def k9 : Class := { plain "[B" (some 0) with kind := .array 8 .byte, interfaces := #[7, 4], accessFlags := 1041 }

/-- the primitive int -/
def k10 : Class := { plain "int" none with kind := .primitive 'I', accessFlags := 0x411 }
/-- [I -/
def k11 : Class := { plain "[I" (some 0) with kind := .array 10 .int, interfaces := #[7, 4], accessFlags := 1041 }

def heap : Heap := #[{ cls := 6, slots := #[.ref 2, .ref 1, .null], vm := .statics 6 },
  { cls := 6, slots := #[.null, .int 1, .int 0], vm := .none },
  { cls := 6, slots := #[.null, .int 0, .int 0], vm := .none }]
def classes : Array Class := #[k0, k1, k2, k3, k4, k5, k6, k7, k8, k9, k10, k11]
def interned : List (Array UInt16 × Addr) := []
def slotsUsed : Nat := 9
def theMethod : MethodId := ⟨1, 1⟩
def args0 : Array Value := #[.int 4, .int 3]
def aboutOver (below : List Frame) : State where
  vm := { classes := classes, interned := interned.toArray }
  heap := heap
  slotsUsed := slotsUsed
  threads := #[{ frames := .invoking theMethod args0 :: below }]
def below0 : List Frame := [.native { method := ⟨0, 0⟩, args := #[] }]
def about1 : State := aboutOver below0
def p0 : Program := .bare "" "" ""
def e0 : Env := launch0.env 0 0 0
theorem w_frames : about1.frames = Frame.invoking theMethod args0 :: below0 := rfl
set_option maxRecDepth 65536 in
theorem w_args : argsFit about1.vm theMethod args0 = true := by decide +kernel
set_option maxRecDepth 65536 in
theorem w_heap : heapFits about1 = true := by decide +kernel
set_option maxRecDepth 65536 in
theorem w_runnable : about1.curStatus? = some .runnable := by decide +kernel
set_option maxRecDepth 65536 in
theorem w_alone : about1.alone = true := by decide +kernel
set_option maxRecDepth 65536 in
theorem w_named : about1.methodNamed? x = some theMethod := by decide +kernel
set_option maxRecDepth 65536 in
theorem w_hears : about1.hears theMethod below0 = true := by decide +kernel
set_option maxRecDepth 65536 in
theorem w_ripe : about1.ripe theMethod args0 below0 = true := by decide +kernel
theorem w_running : about1.status = .running := rfl
set_option maxRecDepth 65536 in
theorem w_room : about1.hasRoom e0.platform room_1 = true :=
  launch0.hasRoom_least _ room_1 (by decide +kernel) (by decide +kernel) (by decide +kernel) (by decide +kernel) (by decide +kernel) (by decide +kernel)
theorem allAtoms_all (ts : List Jvm.Cond) (a : Array Jvm.Value) (st : Jvm.State) : (allAtoms ts).before a st = ts.all (fun c => c.before a st) := by
  induction ts with
  | nil => rfl
  | cons c t ih =>
    show (Jvm.Cond.and c (allAtoms t)).before a st = _
    rw [Jvm.Cond.before_and, ih, List.all_cons]
def words1 : List Jvm.Cond := Jvm.Cond.code x code maxLocals ret :: tables_1
/-- a 'code' word, met by the world's own term for the bytes: nothing is compared byte by byte -/
theorem code_word {y : MethodName} {bytes : ByteArray} {mx : Nat} {rt : Option FieldType} {a : Array Value} {s : State} {m : MethodId} {meth : Method} {c : Code} (h1 : s.methodNamed? y = some m) (h2 : s.vm.method? m = some meth) (h3 : meth.code = some c) (h4 : c.code = bytes)
    (h5 : (c.maxLocals == mx && c.exceptionTable.isEmpty && decide (c.maxStack ≤ mostOperands) && decide (meth.sig.returnType = rt) && !meth.locks && decide (parseMethodDescriptor y.desc = some meth.sig)) = true) : (Jvm.Cond.code y bytes mx rt).before a s = true := by
  simp only [Bool.and_eq_true, beq_iff_eq, Bool.not_eq_true', decide_eq_true_eq] at h5
  obtain ⟨⟨⟨⟨⟨g1, g2⟩, g3⟩, g4⟩, g5⟩, g6⟩ := h5
  simp [Cond.before, Cond.holds, Cond.value, h1, h2, h3, h4, g1, g2, g3, g4, g5, g6]
def isCode : Jvm.Cond → Bool
  | .code _ _ _ _ => true
  | _ => false
theorem all_split {L : List Jvm.Cond} {P : Jvm.Cond → Bool} (h1 : L.all (fun c => isCode c || P c) = true) (h2 : ∀ c ∈ L.filter isCode, P c = true) : L.all P = true := by
  refine List.all_eq_true.mpr fun c hc => ?_
  have h := List.all_eq_true.mp h1 c hc
  rcases Bool.eq_false_or_eq_true (isCode c) with hi | hi
  · exact h2 c (List.mem_filter.mpr ⟨hc, hi⟩)
  · simpa [hi] using h
set_option maxRecDepth 65536 in
theorem w_c0 : (Jvm.Cond.code x code maxLocals ret).before args0 about1 = true := code_word (m := ⟨1, 1⟩) (meth := k1m1) (c := k1c1) (by decide +kernel) rfl rfl rfl (by decide +kernel)
set_option maxRecDepth 65536 in
theorem w_c1 : (Jvm.Cond.code ({ cls := "com/example/groupkeeper/groupkeeper/group/TopicOffsets$Widening", name := "spare", desc := "(I)I" } : Jvm.MethodName) prog_69_method_4_code (2 : Nat) (Option.some Jvm.ClassFile.FieldType.int)).before args0 about1 = true := code_word (m := ⟨6, 0⟩) (meth := k6m0) (c := k6c0) (by decide +kernel) rfl rfl rfl (by decide +kernel)
def codes1 : List Jvm.Cond := [Jvm.Cond.code x code maxLocals ret, Jvm.Cond.code ({ cls := "com/example/groupkeeper/groupkeeper/group/TopicOffsets$Widening", name := "spare", desc := "(I)I" } : Jvm.MethodName) prog_69_method_4_code (2 : Nat) (Option.some Jvm.ClassFile.FieldType.int)]
set_option maxRecDepth 65536 in
theorem codes_eq : words1.filter isCode = codes1 := rfl
theorem w_codes : ∀ c ∈ words1.filter isCode, c.before args0 about1 = true := by
  rw [codes_eq]
  intro c hc
  simp only [codes1, List.mem_cons, List.not_mem_nil, or_false] at hc
  rcases hc with rfl | rfl
  · exact w_c0
  · exact w_c1
set_option maxRecDepth 65536 in
theorem w_t1 : words1.all (fun c => isCode c || c.before args0 about1) = true := by decide +kernel
theorem w_tables : (allAtoms (Jvm.Cond.code x code maxLocals ret :: tables_1)).before args0 about1 = true := by
  rw [allAtoms_all]
  show words1.all (fun c => c.before args0 about1) = true
  refine all_split ?_ w_codes
  rw [w_t1]
set_option maxRecDepth 65536 in
theorem w_case : (Jvm.Cond.and given_1 narrow_1).before args0 about1 = true := by decide +kernel
theorem w_applies : (headSpec (Jvm.Cond.code x code maxLocals ret :: tables_1) room_1).applies x e0.platform about1 = true :=
  (Spec.applies_iff w_frames).mpr ⟨w_running, w_runnable, w_alone, w_named, w_hears, w_ripe, w_room, w_tables⟩
theorem atStart : AtStart classFile x code maxLocals ret World_1 tables_1 room_1 Calls_1 rest_1 Pre_1 launch0 p0 e0 about1 theMethod args0 below0 :=
  ⟨lists_1, trivial, launch0.admits_env _ _ _, launch0.least_env, fairChoices_fair.cas, fairChoices_fair.clock, w_frames, w_args, w_heap, w_applies, trivial, trivial, w_case⟩
end start1
theorem witness_1 : WitnessClaimed_1 := ⟨start1.p0, start1.e0, start1.about1, start1.theMethod, start1.args0, start1.below0, start1.atStart⟩
end Jvm.Pilot.@@N@@
