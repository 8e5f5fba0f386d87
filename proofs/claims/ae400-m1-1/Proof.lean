import JvmDerived
import JvmDerived.Pilot.@@N@@Statement
import JvmDerived.Pilot.@@N@@Code
set_option linter.unusedVariables false
set_option linter.unusedSimpArgs false
namespace Jvm.Pilot.@@N@@
open Jvm Jvm.ClassFile Sem Op Lib Jvm.Free Jvm.Stand Jvm.LawKit Jvm.RoadKit Bundle Jvm.Pilot.@@N@@.Jvm.D
/-! own_: A WALK AS A CHAIN OF 'Go': from T, with the frame g on top, the run comes to a state of which P holds. A fork (by_cases, rcases) may stand anywhere in the chain. -/
def Go (p : Program) (e : Env) (below : List Frame) (P : State → Prop) (T : State) (g : JFrame) : Prop := ∃ t, Steps p.tables e below (T.setTop g) t ∧ P t
/-- what a body owes at its end -/
def EndP (below : List Frame) (s : State) (Q : Option Value → Heap → List Loc → Prop) (ce sl : Nat) (t : State) : Prop := ∃ o, t.status = .running ∧ Ended t below o ∧ ∃ v L, o = .returned v ∧ Q v t.heap L ∧ FrameEnd s o t L ce sl
/-- a method's contract: called with as' on the heap h0 it returns, and Q holds of what it returns, the heap that it leaves and the places that it wrote -/
abbrev Does (l : Launch) (y : MethodName) (bytes : ByteArray) (maxL : Nat) (rt : Option FieldType) (ws : List Jvm.Cond) (rm : Room) (as' : Array Value) (Z : State) (h0 : Heap) (Q : Option Value → Heap → List Loc → Prop) : Prop :=
  MetFree l y (head1 (Jvm.Cond.code y bytes maxL rt :: ws) rm) (fun a U => a = as' ∧ Z.Warmed39 U.vm ∧ U.heap = h0) (fun _ _ _ _ _ => True) (fun _ U o U' => ∃ v L, o = .returned v ∧ Q v U'.heap L ∧ FrameEnd U o U' L rm.cells rm.slots)
section Own
variable {p : Program} {l : Launch} {e : Env} {R : Room} {s : State} {m : MethodId} {args : Array Value} {below : List Frame} {meth : Method} {c : Code} {T T' : State} {locs : List Loc} {cells slots : Nat} {P : State → Prop} {g g' : JFrame} {Z : State} {h h0 : Heap} {a0 as' : Array Value} {own : String} {index : Nat} {y z : MethodName} {bytes : ByteArray} {maxL : Nat} {rt : Option FieldType} {rm : Room} {ws : List Jvm.Cond} {Q : Option Value → Heap → List Loc → Prop} {ce sl W : Nat} {argsL rest : List Value}
theorem Go.st (hh : Go p e below P T' g') (st : ∀ t, Steps p.tables e below (T'.setTop g') t → Steps p.tables e below (T.setTop g) t) : Go p e below P T g := by
  obtain ⟨t, h1, h2⟩ := hh
  exact ⟨t, st t h1, h2⟩
theorem Go.cast (q : g = g') (hh : Go p e below P T g') : Go p e below P T g := q ▸ hh
theorem Go.ret {v : Option Value} (X : Stand p l e R s m args below meth c T locs cells slots) (hv : meth.sig.returnType = none → v = none) (hlocks : meth.locks = false) (hc : cells ≤ ce) (hs : slots ≤ sl) (hq : Q v T.heap locs)
    (st : ∀ fs, (∀ (f : JFrame) (acts : List Action), f.method = m → f.locked = none → f.entered = [] → (doReturn e (T.setTop f) acts v).1 = T.setFrames fs) → Steps p.tables e below (T.setTop g) (T.setFrames fs)) : Go p e below (EndP below s Q ce sl) T g := by
  obtain ⟨fs, hr, hrun, hended, hW, hsame⟩ := X.leave (v := v) hv hlocks
  exact ⟨_, st fs hr, _, hrun, hended, _, _, rfl, hq, ⟨_, rfl⟩, hW, hsame.mono hc hs⟩
/-- a value is returned -/
theorem Go.retV {w : Value} {t : FieldType} {i : Instr} {pc : Nat} {Ls : Array Slot} (X : Stand p l e R s m args below meth c T locs cells slots) (hx : p.tables.exec = Jvm.exec) (hret : meth.sig.returnType = some t) (hlocks : meth.locks = false) (hc : cells ≤ ce) (hs : slots ≤ sl) (hn : narrow t w = w)
    (hi : (i = .ireturn ∧ (t = .int ∨ t = .boolean ∨ t = .byte ∨ t = .char ∨ t = .short) ∧ ∃ z, w = .int z) ∨ (i = .lreturn ∧ t = .long ∧ ∃ z, w = .long z) ∨ (i = .dreturn ∧ t = .double ∧ ∃ z, w = .double z) ∨ (i = .freturn ∧ t = .float ∧ ∃ z, w = .float z) ∨ (i = .areturn ∧ t.isReference = true ∧ w.isRef = true))
    (hd : decode c.code pc = .ok (i, 1)) (hq : Q (some w) T.heap locs) : Go p e below (EndP below s Q ce sl) T (mkF m pc Ls (w :: rest)) :=
  Go.ret X (fun q => by rw [hret] at q; cases q) hlocks hc hs hq fun _ hr => retOut X hx hret hn hi hd hr
/-- nothing is returned -/
theorem Go.retU {pc : Nat} {Ls : Array Slot} (X : Stand p l e R s m args below meth c T locs cells slots) (hx : p.tables.exec = Jvm.exec) (hret : meth.sig.returnType = none) (hlocks : meth.locks = false) (hc : cells ≤ ce) (hs : slots ≤ sl)
    (hd : decode c.code pc = .ok (.return_, 1)) (hq : Q none T.heap locs) : Go p e below (EndP below s Q ce sl) T (mkF m pc Ls []) :=
  Go.ret X (fun _ => rfl) hlocks hc hs hq fun _ hr => X.returnOut hx hret hd hr
/-- a body that goes well has its contract -/
theorem Does.of (hp : plainFor y = true) (body : ∀ (p : Program) (e : Env) (s : State) (m : MethodId) (below : List Frame) (meth : Method) (c : Code) (s₁ : State), p.tables.exec = Jvm.exec → c.code = bytes → c.maxLocals = maxL → meth.sig.returnType = rt → meth.locks = false → s.vm.findClass y.cls = some m.cls → meth.name = y.name → Z.Warmed39 s.vm →
      Stand p l e rm s m as' below meth c s₁ [] 0 0 → s₁.heap = h0 → Go p e below (EndP below s Q rm.cells rm.slots) s₁ (entryFrame m as' maxL)) : Does l y bytes maxL rt ws rm as' Z h0 Q := by
  refine MetFree.of_bodySF hp hisR ?_
  intro p e s m args below meth c s₁ Bd hml0 hP hK
  obtain ⟨rfl, hZ, hh⟩ := hP
  obtain ⟨t, h1, o, h2, h3, h4⟩ := body p e s m below meth c s₁ Bd.exec Bd.bytes hml0 Bd.returns Bd.notSynchronized (findClass_of_methodNamed Bd.named) (name_of_methodNamed Bd.named Bd.method).1 hZ (Stand.of_body Bd) (by rw [← hh, Bd.state]; rfl)
  exact ⟨t, o, h1, h2, h3, h4⟩
/-- a static call by the callee's contract -/
theorem Go.callS (X : Stand p l e R s m args below meth c T locs cells slots) (hx : p.tables.exec = Jvm.exec) (hZ : Z.Warmed39 s.vm) (hown : s.vm.findClass own = some m.cls) (w1 : (Jvm.Cond.methodLink own index y).before a0 Z = true) (w2 : (Jvm.Cond.static y).before a0 Z = true) (w3 : (Jvm.Cond.initialized y.cls).before a0 Z = true) (w4 : (Jvm.Cond.code y bytes maxL rt).before a0 Z = true)
    (hy : y.cls ≠ "java/lang/invoke/MethodHandle" ∧ y.cls ≠ "java/lang/invoke/VarHandle") (D : Does l y bytes maxL rt [] rm argsL.toArray Z h Q) (eT : T.heap = h) (hf : rm.frames + 1 ≤ R.frames) (hl : W + (maxL + 11) + rm.locals ≤ R.locals) (hc : cells + rm.cells ≤ R.cells) (hs : slots + rm.slots ≤ R.slots)
    (hg : g.method = m) (hsize : g.locals.size = c.maxLocals) (hlen : ∀ sig, parseMethodDescriptor y.desc = some sig → argsL.length = sig.parameters.length) (hstack : g.stack = argsL.reverse ++ rest) (hW : 2 * g.monitorRoom + (rest.map fun v => v.category).sum ≤ W) (hdg : decode c.code g.pc = .ok (.invokestatic index, 3))
    (k : ∀ (v : Option Value) (T' : State) (L : List Loc), Stand p l e R s m args below meth c T' (locs ++ L) (cells + rm.cells) (slots + rm.slots) → Q v T'.heap L → Go p e below P T' { g with pc := g.pc + 3, stack := v.toList ++ rest }) : Go p e below P T g := by
  obtain ⟨v, _, ⟨T1, L1, k1, n1⟩, -, X1, ⟨Lc, hQ, l1, y1, z1⟩, st⟩ := Jvm.LawKit.callS X hx (y := y) hown (mvT hZ w1) (mvT hZ w2) (mvT hZ w3) (mvT hZ w4) hy (backOf (W := W) D hZ w4 w3 hf hl) (g := g) hg hsize (argsL := argsL) (rest := rest) hlen hstack hW hdg (fun _ _ => ⟨rfl, eT, hc, hs⟩)
  dsimp only [Pt.U, Pt.locs, Pt.cells, Pt.slots] at X1 l1 y1 z1 st hQ
  subst l1 y1 z1
  exact Go.st (k v T1 Lc X1 hQ) st
/-- a virtual call by the contract of the method that it selects -/
theorem Go.callV {C : String} {a : Addr} (X : Stand p l e R s m args below meth c T locs cells slots) (hx : p.tables.exec = Jvm.exec) (hZ : Z.Warmed39 s.vm) (hown : s.vm.findClass own = some m.cls) (w1 : (Jvm.Cond.methodLink own index y).before a0 Z = true) (w2 : (Jvm.Cond.declares y).before a0 Z = true) (w5 : (Jvm.Cond.selects C y y).before a0 Z = true) (w6 : (Jvm.Cond.instanceMethod y).before a0 Z = true) (w3 : (Jvm.Cond.initialized y.cls).before a0 Z = true) (w4 : (Jvm.Cond.code y bytes maxL rt).before a0 Z = true)
    (hy : y.cls ≠ "java/lang/invoke/MethodHandle" ∧ y.cls ≠ "java/lang/invoke/VarHandle") (A : Exa Z h a C) (D : Does l y bytes maxL rt [] rm (.ref a :: argsL).toArray Z h Q) (eT : T.heap = h) (hf : rm.frames + 1 ≤ R.frames) (hl : W + (maxL + 11) + rm.locals ≤ R.locals) (hc : cells + rm.cells ≤ R.cells) (hs : slots + rm.slots ≤ R.slots)
    (hg : g.method = m) (hsize : g.locals.size = c.maxLocals) (hlen : ∀ sig, parseMethodDescriptor y.desc = some sig → argsL.length = sig.parameters.length) (hstack : g.stack = argsL.reverse ++ .ref a :: rest) (hW : 2 * g.monitorRoom + (rest.map fun v => v.category).sum ≤ W) (hdg : decode c.code g.pc = .ok (.invokevirtual index, 3))
    (k : ∀ (v : Option Value) (T' : State) (L : List Loc), Stand p l e R s m args below meth c T' (locs ++ L) (cells + rm.cells) (slots + rm.slots) → Q v T'.heap L → Go p e below P T' { g with pc := g.pc + 3, stack := v.toList ++ rest }) : Go p e below P T g := by
  obtain ⟨cq, kq, qa, qb, qc⟩ := isOf hZ eT A
  obtain ⟨v, _, ⟨T1, L1, k1, n1⟩, -, X1, ⟨Lc, hQ, l1, y1, z1⟩, st⟩ := X.virtualBack hx (y := y) (z := y) hown (mvT hZ w1) (mvT hZ w2) (notFace_of_selects (args := #[]) (mvT hZ w5)) (mvT hZ w5) (mvT hZ w6) hy (backOf (W := W) D hZ w4 w3 hf hl) qa qc (g := g) hg hsize (Steps.refl _) (argsL := argsL) (rest := rest) hlen hstack hW hdg (fun _ _ => ⟨rfl, eT, hc, hs⟩)
  dsimp only [Pt.U, Pt.locs, Pt.cells, Pt.slots] at X1 l1 y1 z1 st hQ
  subst l1 y1 z1
  exact Go.st (k v T1 Lc X1 hQ) fun _ q => st.trans q
/-- a constructor by its contract -/
theorem Go.callI {a : Addr} (X : Stand p l e R s m args below meth c T locs cells slots) (hx : p.tables.exec = Jvm.exec) (hZ : Z.Warmed39 s.vm) (hown : s.vm.findClass own = some m.cls) (hin : y.name = "<init>") (w1 : (Jvm.Cond.methodLink own index y).before a0 Z = true) (w6 : (Jvm.Cond.instanceMethod y).before a0 Z = true) (w3 : (Jvm.Cond.initialized y.cls).before a0 Z = true) (w4 : (Jvm.Cond.code y bytes maxL none).before a0 Z = true)
    (hy : y.cls ≠ "java/lang/invoke/MethodHandle" ∧ y.cls ≠ "java/lang/invoke/VarHandle") (D : Does l y bytes maxL none [] rm (.ref a :: argsL).toArray Z h Q) (eT : T.heap = h) (hf : rm.frames + 1 ≤ R.frames) (hl : W + (maxL + 11) + rm.locals ≤ R.locals) (hc : cells + rm.cells ≤ R.cells) (hs : slots + rm.slots ≤ R.slots)
    (hg : g.method = m) (hsize : g.locals.size = c.maxLocals) (hlen : ∀ sig, parseMethodDescriptor y.desc = some sig → argsL.length = sig.parameters.length) (hstack : g.stack = argsL.reverse ++ .ref a :: rest) (hW : 2 * g.monitorRoom + (rest.map fun v => v.category).sum ≤ W) (hdg : decode c.code g.pc = .ok (.invokespecial index, 3))
    (k : ∀ (v : Option Value) (T' : State) (L : List Loc), Stand p l e R s m args below meth c T' (locs ++ L) (cells + rm.cells) (slots + rm.slots) → Q v T'.heap L → Go p e below P T' { g with pc := g.pc + 3, stack := v.toList ++ rest }) : Go p e below P T g := by
  obtain ⟨v, _, ⟨T1, L1, k1, n1⟩, -, X1, ⟨Lc, hQ, l1, y1, z1⟩, st⟩ := X.specialBack hx (y := y) hin hown (mvT hZ w1) (mvT hZ w6) (mvT hZ w4) hy (backOf (W := W) D hZ w4 w3 hf hl) (g := g) hg hsize (Steps.refl _) (a := a) (argsL := argsL) (rest := rest) hlen hstack hW hdg (fun _ _ => ⟨rfl, eT, hc, hs⟩)
  dsimp only [Pt.U, Pt.locs, Pt.cells, Pt.slots] at X1 l1 y1 z1 st hQ
  subst l1 y1 z1
  exact Go.st (k v T1 Lc X1 hQ) fun _ q => st.trans q
end Own
theorem own_i_eq {x y : Int32} {a b : Int} (hx : x.toInt = a) (hy : y.toInt = b) (q : a = b) : x = y := Int32.toInt_inj.mp (by rw [hx, hy, q])
theorem own_i_neq {x y : Int32} {a b : Int} (hx : x.toInt = a) (hy : y.toInt = b) (q : ¬ a = b) : ¬ x = y := fun r => q (by rw [← hx, ← hy, r])
theorem own_i_lt {x y : Int32} {a b : Int} (hx : x.toInt = a) (hy : y.toInt = b) (q : a < b) : x < y := by rw [Int32.lt_iff_toInt_lt, hx, hy]; exact q
theorem own_i_nlt {x y : Int32} {a b : Int} (hx : x.toInt = a) (hy : y.toInt = b) (q : ¬ a < b) : ¬ x < y := by rw [Int32.lt_iff_toInt_lt, hx, hy]; exact q
theorem own_l_eq {x y : Int64} {a b : Int} (hx : x.toInt = a) (hy : y.toInt = b) (q : a = b) : x = y := Int64.toInt_inj.mp (by rw [hx, hy, q])
theorem own_l_neq {x y : Int64} {a b : Int} (hx : x.toInt = a) (hy : y.toInt = b) (q : ¬ a = b) : ¬ x = y := fun r => q (by rw [← hx, ← hy, r])
theorem own_l_lt {x y : Int64} {a b : Int} (hx : x.toInt = a) (hy : y.toInt = b) (q : a < b) : x < y := by rw [Int64.lt_iff_toInt_lt, hx, hy]; exact q
theorem own_l_nlt {x y : Int64} {a b : Int} (hx : x.toInt = a) (hy : y.toInt = b) (q : ¬ a < b) : ¬ x < y := by rw [Int64.lt_iff_toInt_lt, hx, hy]; exact q
/-- a number in a field, out of the case's words -/
theorem own_fldInt {args : Array Value} {s : State} {t : Term} {a : Addr} {C n d : String} {k : Int32} (ht : t.eval args s none [] s = some (.ref a)) (hh : (Jvm.Cond.eq (.field t C n d) (.int k)).value args s none s [] = some true) : Fld s s.heap a C n d (.int k) := by
  refine Fld.start ?_
  simp only [Jvm.Cond.value, fld_at ht, Term.int_eval] at hh
  cases hf : s.fieldOf? a C n d with
  | none => simp [hf] at hh
  | some v => cases v <;> simp_all
def own_ctl (p1 : Int32)  : Int32 := if p1 < (32 : Int32) then (1 : Int32) else (if p1 < (127 : Int32) then (0 : Int32) else (if (159 : Int32) < p1 then (0 : Int32) else (1 : Int32)))
theorem d_prog_22_method_2_code_0 : decode prog_22_method_2_code 0 = .ok (.iload_n 0, 1) := by decide +kernel
theorem d_prog_22_method_2_code_1 : decode prog_22_method_2_code 1 = .ok (.bipush 32, 2) := by decide +kernel
theorem d_prog_22_method_2_code_3 : decode prog_22_method_2_code 3 = .ok (.if_icmp .lt 16, 3) := by decide +kernel
theorem d_prog_22_method_2_code_19 : decode prog_22_method_2_code 19 = .ok (.iconst 1, 1) := by decide +kernel
theorem d_prog_22_method_2_code_20 : decode prog_22_method_2_code 20 = .ok (.goto 4, 3) := by decide +kernel
theorem d_prog_22_method_2_code_24 : decode prog_22_method_2_code 24 = .ok (.ireturn, 1) := by decide +kernel
theorem d_prog_22_method_2_code_6 : decode prog_22_method_2_code 6 = .ok (.iload_n 0, 1) := by decide +kernel
theorem d_prog_22_method_2_code_7 : decode prog_22_method_2_code 7 = .ok (.bipush 127, 2) := by decide +kernel
theorem d_prog_22_method_2_code_9 : decode prog_22_method_2_code 9 = .ok (.if_icmp .lt 14, 3) := by decide +kernel
theorem d_prog_22_method_2_code_23 : decode prog_22_method_2_code 23 = .ok (.iconst 0, 1) := by decide +kernel
theorem d_prog_22_method_2_code_12 : decode prog_22_method_2_code 12 = .ok (.iload_n 0, 1) := by decide +kernel
theorem d_prog_22_method_2_code_13 : decode prog_22_method_2_code 13 = .ok (.sipush 159, 3) := by decide +kernel
theorem d_prog_22_method_2_code_16 : decode prog_22_method_2_code 16 = .ok (.if_icmp .gt 7, 3) := by decide +kernel
theorem pn_com_example_lean_grant_leangrant_jsonlines_ControlCharacters : plainName "com/example/lean_grant/leangrant/jsonlines/ControlCharacters" = true := by first | (simp [plainName, overriddenIn]; done) | decide +kernel
set_option maxRecDepth 65536 in
set_option maxHeartbeats 40000000 in
theorem rm1 (l : Launch) (Z : State) (a0 : Array Value) (hw : ∀ d ∈ tables_1, d.before a0 Z = true) (ws : List Jvm.Cond) (p1 : Int32)  (h0 : Heap) (n0 : Nat) (Z0 : n0 ≤ h0.size)  :
    Does l (⟨"com/example/lean_grant/leangrant/jsonlines/ControlCharacters", "isControl", "(C)Z"⟩ : MethodName) prog_22_method_2_code 1 (some .boolean) ws ({ frames := 0, cells := 0, slots := 0, locals := 0 } : Room) #[(.int p1)] Z h0 (fun v h L => v = some (.int (own_ctl p1 )) ∧ Fr n0 L ∧ h = h0) := by
  refine Does.of (plainFor_of_name pn_com_example_lean_grant_leangrant_jsonlines_ControlCharacters) ?_
  intro p e s m below meth c s₁ hx hby hml hret hlk hown0 hnm hZ X0 e0
  have hown : s.vm.findClass "com/example/lean_grant/leangrant/jsonlines/ControlCharacters" = some m.cls := hown0
  have N0 := Fr.nil n0
  refine Go.cast (g' := (mkF m 0 #[.val (.int p1)] [])) (by first | rfl | (simp [entryFrame, mkF, argsToLocals, Value.category, maxLocals]; done)) ?_
  refine Go.st (T' := s₁) (g' := (mkF m 1 #[.val (.int p1)] [(.int p1)])) ?_ (fun _ k_ => XS.iloadN X0.here hx rfl (hb hby d_prog_22_method_2_code_0) rfl k_)
  refine Go.st (T' := s₁) (g' := (mkF m 3 #[.val (.int p1)] [(.int (32 : Int32)), (.int p1)])) ?_ (fun _ k_ => XT.bipushV X0.here hx rfl (32 : Int32) (hb hby d_prog_22_method_2_code_1) (by decide) k_)
  by_cases hc1 : p1 < (32 : Int32)
  · refine Go.st (T' := s₁) (g' := (mkF m 19 #[.val (.int p1)] [])) ?_ (fun _ k_ => XS.icmpYes X0.here hx rfl (pc0 := 3) (pc' := 19) rfl (hb hby d_prog_22_method_2_code_3) rfl (tlt hc1).1 (by decide) (by decide) k_)
    refine Go.st (T' := s₁) (g' := (mkF m 20 #[.val (.int p1)] [(.int (1 : Int32))])) ?_ (fun _ k_ => XT.iconstV X0.here hx rfl (1 : Int32) (hb hby d_prog_22_method_2_code_19) (by decide) k_)
    refine Go.st (T' := s₁) (g' := (mkF m 24 #[.val (.int p1)] [(.int (1 : Int32))])) ?_ (fun _ k_ => XS.goto X0.here hx rfl (pc0 := 20) (pc' := 24) rfl (hb hby d_prog_22_method_2_code_20) (by decide) (by decide) k_)
    exact Go.retV (t := .boolean) X0 hx hret hlk (by decide) (by decide) rfl (Or.inl ⟨rfl, Or.inr (Or.inl rfl), _, rfl⟩) (hb hby d_prog_22_method_2_code_24) ⟨by rw [own_ctl, if_pos hc1], N0, e0⟩
  · refine Go.st (T' := s₁) (g' := (mkF m 6 #[.val (.int p1)] [])) ?_ (fun _ k_ => XS.icmpNo X0.here hx rfl (hb hby d_prog_22_method_2_code_3) rfl (flt hc1).1 k_)
    refine Go.st (T' := s₁) (g' := (mkF m 7 #[.val (.int p1)] [(.int p1)])) ?_ (fun _ k_ => XS.iloadN X0.here hx rfl (hb hby d_prog_22_method_2_code_6) rfl k_)
    refine Go.st (T' := s₁) (g' := (mkF m 9 #[.val (.int p1)] [(.int (127 : Int32)), (.int p1)])) ?_ (fun _ k_ => XT.bipushV X0.here hx rfl (127 : Int32) (hb hby d_prog_22_method_2_code_7) (by decide) k_)
    by_cases hc2 : p1 < (127 : Int32)
    · refine Go.st (T' := s₁) (g' := (mkF m 23 #[.val (.int p1)] [])) ?_ (fun _ k_ => XS.icmpYes X0.here hx rfl (pc0 := 9) (pc' := 23) rfl (hb hby d_prog_22_method_2_code_9) rfl (tlt hc2).1 (by decide) (by decide) k_)
      refine Go.st (T' := s₁) (g' := (mkF m 24 #[.val (.int p1)] [(.int (0 : Int32))])) ?_ (fun _ k_ => XT.iconstV X0.here hx rfl (0 : Int32) (hb hby d_prog_22_method_2_code_23) (by decide) k_)
      exact Go.retV (t := .boolean) X0 hx hret hlk (by decide) (by decide) rfl (Or.inl ⟨rfl, Or.inr (Or.inl rfl), _, rfl⟩) (hb hby d_prog_22_method_2_code_24) ⟨by rw [own_ctl, if_neg hc1, if_pos hc2], N0, e0⟩
    · refine Go.st (T' := s₁) (g' := (mkF m 12 #[.val (.int p1)] [])) ?_ (fun _ k_ => XS.icmpNo X0.here hx rfl (hb hby d_prog_22_method_2_code_9) rfl (flt hc2).1 k_)
      refine Go.st (T' := s₁) (g' := (mkF m 13 #[.val (.int p1)] [(.int p1)])) ?_ (fun _ k_ => XS.iloadN X0.here hx rfl (hb hby d_prog_22_method_2_code_12) rfl k_)
      refine Go.st (T' := s₁) (g' := (mkF m 16 #[.val (.int p1)] [(.int (159 : Int32)), (.int p1)])) ?_ (fun _ k_ => XT.sipushV X0.here hx rfl (159 : Int32) (hb hby d_prog_22_method_2_code_13) (by decide) k_)
      by_cases hc3 : (159 : Int32) < p1
      · refine Go.st (T' := s₁) (g' := (mkF m 23 #[.val (.int p1)] [])) ?_ (fun _ k_ => XS.icmpYes X0.here hx rfl (pc0 := 16) (pc' := 23) rfl (hb hby d_prog_22_method_2_code_16) rfl (tlt hc3).2.2.1 (by decide) (by decide) k_)
        refine Go.st (T' := s₁) (g' := (mkF m 24 #[.val (.int p1)] [(.int (0 : Int32))])) ?_ (fun _ k_ => XT.iconstV X0.here hx rfl (0 : Int32) (hb hby d_prog_22_method_2_code_23) (by decide) k_)
        exact Go.retV (t := .boolean) X0 hx hret hlk (by decide) (by decide) rfl (Or.inl ⟨rfl, Or.inr (Or.inl rfl), _, rfl⟩) (hb hby d_prog_22_method_2_code_24) ⟨by rw [own_ctl, if_neg hc1, if_neg hc2, if_pos hc3], N0, e0⟩
      · refine Go.st (T' := s₁) (g' := (mkF m 19 #[.val (.int p1)] [])) ?_ (fun _ k_ => XS.icmpNo X0.here hx rfl (hb hby d_prog_22_method_2_code_16) rfl (flt hc3).2.2.1 k_)
        refine Go.st (T' := s₁) (g' := (mkF m 20 #[.val (.int p1)] [(.int (1 : Int32))])) ?_ (fun _ k_ => XT.iconstV X0.here hx rfl (1 : Int32) (hb hby d_prog_22_method_2_code_19) (by decide) k_)
        refine Go.st (T' := s₁) (g' := (mkF m 24 #[.val (.int p1)] [(.int (1 : Int32))])) ?_ (fun _ k_ => XS.goto X0.here hx rfl (pc0 := 20) (pc' := 24) rfl (hb hby d_prog_22_method_2_code_20) (by decide) (by decide) k_)
        exact Go.retV (t := .boolean) X0 hx hret hlk (by decide) (by decide) rfl (Or.inl ⟨rfl, Or.inr (Or.inl rfl), _, rfl⟩) (hb hby d_prog_22_method_2_code_24) ⟨by rw [own_ctl, if_neg hc1, if_neg hc2, if_neg hc3], N0, e0⟩
theorem pd__C_Z : parseMethodDescriptor "(C)Z" = some ⟨[.char], some .boolean⟩ := by decide +kernel
theorem pn_com_example_lean_grant_leangrant_jsonlines_ControlCharactersIsControlPinLaw : plainName "com/example/lean_grant/leangrant/jsonlines/ControlCharactersIsControlPinLaw" = true := by first | (simp [plainName, overriddenIn]; done) | decide +kernel
set_option maxRecDepth 65536 in
set_option maxHeartbeats 40000000 in
theorem rm0 (l : Launch) (Z : State) (a0 : Array Value) (hw : ∀ d ∈ tables_1, d.before a0 Z = true) (ws : List Jvm.Cond) (p1 : Int32) (h0 : Heap) (n0 : Nat) (Z0 : n0 ≤ h0.size)  :
    Does l x code maxLocals ret ws room_1 #[(.int p1)] Z h0 (fun v h L => v = some (.int 1) ∧ Fr n0 L) := by
  refine Does.of (plainFor_of_name pn_com_example_lean_grant_leangrant_jsonlines_ControlCharactersIsControlPinLaw) ?_
  intro p e s m below meth c s₁ hx hby hml hret hlk hown0 hnm hZ X0 e0
  have hown : s.vm.findClass "com/example/lean_grant/leangrant/jsonlines/ControlCharactersIsControlPinLaw" = some m.cls := hown0
  have N0 := Fr.nil n0
  refine Go.cast (g' := (mkF m 0 #[.val (.int p1), .unset, .unset, .unset, .unset, .unset, .unset, .unset] [])) (by first | rfl | (simp [entryFrame, mkF, argsToLocals, Value.category, maxLocals]; done)) ?_
  refine Go.st (T' := s₁) (g' := (mkF m 1 #[.val (.int p1), .unset, .unset, .unset, .unset, .unset, .unset, .unset] [(.int p1)])) ?_ (fun _ k_ => XS.iloadN X0.here hx rfl (hb hby at_0) rfl k_)
  refine Go.st (T' := s₁) (g' := (mkF m 2 #[.val (.int p1), .unset, .unset, .unset, .unset, .unset, .unset, .unset] [(.int p1.toUInt32.toUInt16.toUInt32.toInt32)])) ?_ (fun _ k_ => XT.i2c X0.here hx rfl (hb hby at_1) rfl k_)
  obtain ⟨-, r1, r2⟩ := c_i2c p1
  generalize p1.toUInt32.toUInt16.toUInt32.toInt32 = v at *
  have hbv := c_ishr v 5 5 (by decide)
  refine Go.st (T' := s₁) (g' := (mkF m 3 #[.val (.int p1), .val (.int v), .unset, .unset, .unset, .unset, .unset, .unset] [])) ?_ (fun _ k_ => XS.istoreN X0.here hx rfl (hb hby at_2) rfl (l' := #[.val (.int p1), .val (.int v), .unset, .unset, .unset, .unset, .unset, .unset]) rfl k_)
  refine Go.st (T' := s₁) (g' := (mkF m 4 #[.val (.int p1), .val (.int v), .unset, .unset, .unset, .unset, .unset, .unset] [(.int v)])) ?_ (fun _ k_ => XS.iloadN X0.here hx rfl (hb hby at_3) rfl k_)
  refine Go.st (T' := s₁) (g' := (mkF m 5 #[.val (.int p1), .val (.int v), .val (.int v), .unset, .unset, .unset, .unset, .unset] [])) ?_ (fun _ k_ => XS.istoreN X0.here hx rfl (hb hby at_4) rfl (l' := #[.val (.int p1), .val (.int v), .val (.int v), .unset, .unset, .unset, .unset, .unset]) rfl k_)
  refine Go.st (T' := s₁) (g' := (mkF m 6 #[.val (.int p1), .val (.int v), .val (.int v), .unset, .unset, .unset, .unset, .unset] [(.int v)])) ?_ (fun _ k_ => XS.iloadN X0.here hx rfl (hb hby at_5) rfl k_)
  refine Go.st (T' := s₁) (g' := (mkF m 7 #[.val (.int p1), .val (.int v), .val (.int v), .unset, .unset, .unset, .unset, .unset] [(.int (5 : Int32)), (.int v)])) ?_ (fun _ k_ => XT.iconstV X0.here hx rfl (5 : Int32) (hb hby at_6) (by decide) k_)
  refine Go.st (T' := s₁) (g' := (mkF m 8 #[.val (.int p1), .val (.int v), .val (.int v), .unset, .unset, .unset, .unset, .unset] [(.int (v >>> ((5 : Int32) &&& 31)))])) ?_ (fun _ k_ => XT.ishr X0.here hx rfl (hb hby at_7) rfl k_)
  generalize hbe : (v >>> ((5 : Int32) &&& 31)) = b at *
  rcases (by omega : v.toInt < 32 ∨ 32 ≤ v.toInt ∧ v.toInt < 127 ∨ v.toInt = 127 ∨ 128 ≤ v.toInt ∧ v.toInt < 160 ∨ 160 ≤ v.toInt) with hr | hr | hr | hr | hr
  · have hr0 := hr
    refine Go.st (T' := s₁) (g' := (mkF m 9 #[.val (.int p1), .val (.int v), .val (.int v), .val (.int b), .unset, .unset, .unset, .unset] [])) ?_ (fun _ k_ => XS.istoreN X0.here hx rfl (hb hby at_8) rfl (l' := #[.val (.int p1), .val (.int v), .val (.int v), .val (.int b), .unset, .unset, .unset, .unset]) rfl k_)
    refine Go.st (T' := s₁) (g' := (mkF m 10 #[.val (.int p1), .val (.int v), .val (.int v), .val (.int b), .unset, .unset, .unset, .unset] [(.int b)])) ?_ (fun _ k_ => XS.iloadN X0.here hx rfl (hb hby at_9) rfl k_)
    refine Go.st (T' := s₁) (g' := (mkF m 13 #[.val (.int p1), .val (.int v), .val (.int v), .val (.int b), .unset, .unset, .unset, .unset] [])) ?_ (fun _ k_ => XS.ifNo X0.here hx rfl (hb hby at_10) rfl ((if0 _ _).trans (teq (own_i_eq rfl (by decide : (0 : Int32).toInt = 0) (by omega) : b = (0 : Int32))).2) k_)
    refine Go.st (T' := s₁) (g' := (mkF m 14 #[.val (.int p1), .val (.int v), .val (.int v), .val (.int b), .unset, .unset, .unset, .unset] [(.int (1 : Int32))])) ?_ (fun _ k_ => XT.iconstV X0.here hx rfl (1 : Int32) (hb hby at_13) (by decide) k_)
    refine Go.st (T' := s₁) (g' := (mkF m 18 #[.val (.int p1), .val (.int v), .val (.int v), .val (.int b), .unset, .unset, .unset, .unset] [(.int (1 : Int32))])) ?_ (fun _ k_ => XS.goto X0.here hx rfl (pc0 := 14) (pc' := 18) rfl (hb hby at_14) (by decide) (by decide) k_)
    refine Go.st (T' := s₁) (g' := (mkF m 20 #[.val (.int p1), .val (.int v), .val (.int v), .val (.int b), .val (.int (1 : Int32)), .unset, .unset, .unset] [])) ?_ (fun _ k_ => XS.istore X0.here hx rfl (hb hby at_18) rfl (l' := #[.val (.int p1), .val (.int v), .val (.int v), .val (.int b), .val (.int (1 : Int32)), .unset, .unset, .unset]) rfl k_)
    refine Go.st (T' := s₁) (g' := (mkF m 21 #[.val (.int p1), .val (.int v), .val (.int v), .val (.int b), .val (.int (1 : Int32)), .unset, .unset, .unset] [(.int v)])) ?_ (fun _ k_ => XS.iloadN X0.here hx rfl (hb hby at_20) rfl k_)
    refine Go.st (T' := s₁) (g' := (mkF m 23 #[.val (.int p1), .val (.int v), .val (.int v), .val (.int b), .val (.int (1 : Int32)), .unset, .unset, .unset] [(.int (127 : Int32)), (.int v)])) ?_ (fun _ k_ => XT.bipushV X0.here hx rfl (127 : Int32) (hb hby at_21) (by decide) k_)
    refine Go.st (T' := s₁) (g' := (mkF m 30 #[.val (.int p1), .val (.int v), .val (.int v), .val (.int b), .val (.int (1 : Int32)), .unset, .unset, .unset] [])) ?_ (fun _ k_ => XS.icmpYes X0.here hx rfl (pc0 := 23) (pc' := 30) rfl (hb hby at_23) rfl (feq (own_i_neq rfl (by decide : (127 : Int32).toInt = 127) (by omega) : ¬ v = (127 : Int32))).2 (by decide) (by decide) k_)
    refine Go.st (T' := s₁) (g' := (mkF m 31 #[.val (.int p1), .val (.int v), .val (.int v), .val (.int b), .val (.int (1 : Int32)), .unset, .unset, .unset] [(.int (0 : Int32))])) ?_ (fun _ k_ => XT.iconstV X0.here hx rfl (0 : Int32) (hb hby at_30) (by decide) k_)
    refine Go.st (T' := s₁) (g' := (mkF m 33 #[.val (.int p1), .val (.int v), .val (.int v), .val (.int b), .val (.int (1 : Int32)), .val (.int (0 : Int32)), .unset, .unset] [])) ?_ (fun _ k_ => XS.istore X0.here hx rfl (hb hby at_31) rfl (l' := #[.val (.int p1), .val (.int v), .val (.int v), .val (.int b), .val (.int (1 : Int32)), .val (.int (0 : Int32)), .unset, .unset]) rfl k_)
    refine Go.st (T' := s₁) (g' := (mkF m 34 #[.val (.int p1), .val (.int v), .val (.int v), .val (.int b), .val (.int (1 : Int32)), .val (.int (0 : Int32)), .unset, .unset] [(.int b)])) ?_ (fun _ k_ => XS.iloadN X0.here hx rfl (hb hby at_33) rfl k_)
    refine Go.st (T' := s₁) (g' := (mkF m 35 #[.val (.int p1), .val (.int v), .val (.int v), .val (.int b), .val (.int (1 : Int32)), .val (.int (0 : Int32)), .unset, .unset] [(.int (4 : Int32)), (.int b)])) ?_ (fun _ k_ => XT.iconstV X0.here hx rfl (4 : Int32) (hb hby at_34) (by decide) k_)
    refine Go.st (T' := s₁) (g' := (mkF m 42 #[.val (.int p1), .val (.int v), .val (.int v), .val (.int b), .val (.int (1 : Int32)), .val (.int (0 : Int32)), .unset, .unset] [])) ?_ (fun _ k_ => XS.icmpYes X0.here hx rfl (pc0 := 35) (pc' := 42) rfl (hb hby at_35) rfl (feq (own_i_neq rfl (by decide : (4 : Int32).toInt = 4) (by omega) : ¬ b = (4 : Int32))).2 (by decide) (by decide) k_)
    refine Go.st (T' := s₁) (g' := (mkF m 43 #[.val (.int p1), .val (.int v), .val (.int v), .val (.int b), .val (.int (1 : Int32)), .val (.int (0 : Int32)), .unset, .unset] [(.int (0 : Int32))])) ?_ (fun _ k_ => XT.iconstV X0.here hx rfl (0 : Int32) (hb hby at_42) (by decide) k_)
    refine Go.st (T' := s₁) (g' := (mkF m 45 #[.val (.int p1), .val (.int v), .val (.int v), .val (.int b), .val (.int (1 : Int32)), .val (.int (0 : Int32)), .val (.int (0 : Int32)), .unset] [])) ?_ (fun _ k_ => XS.istore X0.here hx rfl (hb hby at_43) rfl (l' := #[.val (.int p1), .val (.int v), .val (.int v), .val (.int b), .val (.int (1 : Int32)), .val (.int (0 : Int32)), .val (.int (0 : Int32)), .unset]) rfl k_)
    refine Go.st (T' := s₁) (g' := (mkF m 47 #[.val (.int p1), .val (.int v), .val (.int v), .val (.int b), .val (.int (1 : Int32)), .val (.int (0 : Int32)), .val (.int (0 : Int32)), .unset] [(.int (1 : Int32))])) ?_ (fun _ k_ => XS.iload X0.here hx rfl (hb hby at_45) rfl k_)
    refine Go.st (T' := s₁) (g' := (mkF m 60 #[.val (.int p1), .val (.int v), .val (.int v), .val (.int b), .val (.int (1 : Int32)), .val (.int (0 : Int32)), .val (.int (0 : Int32)), .unset] [])) ?_ (fun _ k_ => XS.ifYes X0.here hx rfl (pc0 := 47) (pc' := 60) rfl (hb hby at_47) rfl (by decide) (by decide) (by decide) k_)
    refine Go.st (T' := s₁) (g' := (mkF m 61 #[.val (.int p1), .val (.int v), .val (.int v), .val (.int b), .val (.int (1 : Int32)), .val (.int (0 : Int32)), .val (.int (0 : Int32)), .unset] [(.int (1 : Int32))])) ?_ (fun _ k_ => XT.iconstV X0.here hx rfl (1 : Int32) (hb hby at_60) (by decide) k_)
    refine Go.st (T' := s₁) (g' := (mkF m 65 #[.val (.int p1), .val (.int v), .val (.int v), .val (.int b), .val (.int (1 : Int32)), .val (.int (0 : Int32)), .val (.int (0 : Int32)), .unset] [(.int (1 : Int32))])) ?_ (fun _ k_ => XS.goto X0.here hx rfl (pc0 := 61) (pc' := 65) rfl (hb hby at_61) (by decide) (by decide) k_)
    refine Go.st (T' := s₁) (g' := (mkF m 67 #[.val (.int p1), .val (.int v), .val (.int v), .val (.int b), .val (.int (1 : Int32)), .val (.int (0 : Int32)), .val (.int (0 : Int32)), .val (.int (1 : Int32))] [])) ?_ (fun _ k_ => XS.istore X0.here hx rfl (hb hby at_65) rfl (l' := #[.val (.int p1), .val (.int v), .val (.int v), .val (.int b), .val (.int (1 : Int32)), .val (.int (0 : Int32)), .val (.int (0 : Int32)), .val (.int (1 : Int32))]) rfl k_)
    refine Go.st (T' := s₁) (g' := (mkF m 68 #[.val (.int p1), .val (.int v), .val (.int v), .val (.int b), .val (.int (1 : Int32)), .val (.int (0 : Int32)), .val (.int (0 : Int32)), .val (.int (1 : Int32))] [(.int v)])) ?_ (fun _ k_ => XS.iloadN X0.here hx rfl (hb hby at_67) rfl k_)
    refine Go.callS X0 hx hZ hown (hw _ (List.mem_of_getElem? (i := 0) rfl)) (hw _ (List.mem_of_getElem? (i := 1) rfl)) (hw _ (List.mem_of_getElem? (i := 2) rfl)) (hw _ (List.mem_of_getElem? (i := 3) rfl)) (by decide) (rm1 l Z a0 hw [] v  h0 n0 Z0 ) e0 (by decide) (W := 0) (by decide) (by decide) (by decide) (g := (mkF m 68 #[.val (.int p1), .val (.int v), .val (.int v), .val (.int b), .val (.int (1 : Int32)), .val (.int (0 : Int32)), .val (.int (0 : Int32)), .val (.int (1 : Int32))] [(.int v)])) (rest := []) rfl (by rw [hml]; rfl) (lenOf pd__C_Z rfl) rfl (by show 2 * 0 + _ ≤ _; exact Nat.le_of_eq rfl) (hb hby at_68) ?_
    rintro v1 T1 L1 X1 ⟨rfl, N1, e1⟩
    have M1 := Fr.app N0 N1
    rw [show own_ctl v  = (1 : Int32) from by rw [own_ctl, if_pos (own_i_lt rfl (by decide : (32 : Int32).toInt = 32) (by omega) : v < (32 : Int32))]]
    show Go p e below _ T1 (mkF m 71 #[.val (.int p1), .val (.int v), .val (.int v), .val (.int b), .val (.int (1 : Int32)), .val (.int (0 : Int32)), .val (.int (0 : Int32)), .val (.int (1 : Int32))] [(.int (1 : Int32))])
    refine Go.st (T' := T1) (g' := (mkF m 73 #[.val (.int p1), .val (.int v), .val (.int v), .val (.int b), .val (.int (1 : Int32)), .val (.int (0 : Int32)), .val (.int (0 : Int32)), .val (.int (1 : Int32))] [(.int (1 : Int32)), (.int (1 : Int32))])) ?_ (fun _ k_ => XS.iload X1.here hx rfl (hb hby at_71) rfl k_)
    refine Go.st (T' := T1) (g' := (mkF m 76 #[.val (.int p1), .val (.int v), .val (.int v), .val (.int b), .val (.int (1 : Int32)), .val (.int (0 : Int32)), .val (.int (0 : Int32)), .val (.int (1 : Int32))] [])) ?_ (fun _ k_ => XS.icmpNo X1.here hx rfl (hb hby at_73) rfl (by decide) k_)
    refine Go.st (T' := T1) (g' := (mkF m 77 #[.val (.int p1), .val (.int v), .val (.int v), .val (.int b), .val (.int (1 : Int32)), .val (.int (0 : Int32)), .val (.int (0 : Int32)), .val (.int (1 : Int32))] [(.int (1 : Int32))])) ?_ (fun _ k_ => XT.iconstV X1.here hx rfl (1 : Int32) (hb hby at_76) (by decide) k_)
    refine Go.st (T' := T1) (g' := (mkF m 81 #[.val (.int p1), .val (.int v), .val (.int v), .val (.int b), .val (.int (1 : Int32)), .val (.int (0 : Int32)), .val (.int (0 : Int32)), .val (.int (1 : Int32))] [(.int (1 : Int32))])) ?_ (fun _ k_ => XS.goto X1.here hx rfl (pc0 := 77) (pc' := 81) rfl (hb hby at_77) (by decide) (by decide) k_)
    exact Go.retV (t := .boolean) X1 hx hret hlk (by decide) (by decide) rfl (Or.inl ⟨rfl, Or.inr (Or.inl rfl), _, rfl⟩) (hb hby at_81) ⟨rfl, M1⟩
  · have hr0 := hr
    refine Go.st (T' := s₁) (g' := (mkF m 9 #[.val (.int p1), .val (.int v), .val (.int v), .val (.int b), .unset, .unset, .unset, .unset] [])) ?_ (fun _ k_ => XS.istoreN X0.here hx rfl (hb hby at_8) rfl (l' := #[.val (.int p1), .val (.int v), .val (.int v), .val (.int b), .unset, .unset, .unset, .unset]) rfl k_)
    refine Go.st (T' := s₁) (g' := (mkF m 10 #[.val (.int p1), .val (.int v), .val (.int v), .val (.int b), .unset, .unset, .unset, .unset] [(.int b)])) ?_ (fun _ k_ => XS.iloadN X0.here hx rfl (hb hby at_9) rfl k_)
    refine Go.st (T' := s₁) (g' := (mkF m 17 #[.val (.int p1), .val (.int v), .val (.int v), .val (.int b), .unset, .unset, .unset, .unset] [])) ?_ (fun _ k_ => XS.ifYes X0.here hx rfl (pc0 := 10) (pc' := 17) rfl (hb hby at_10) rfl ((if0 _ _).trans (feq (own_i_neq rfl (by decide : (0 : Int32).toInt = 0) (by omega) : ¬ b = (0 : Int32))).2) (by decide) (by decide) k_)
    refine Go.st (T' := s₁) (g' := (mkF m 18 #[.val (.int p1), .val (.int v), .val (.int v), .val (.int b), .unset, .unset, .unset, .unset] [(.int (0 : Int32))])) ?_ (fun _ k_ => XT.iconstV X0.here hx rfl (0 : Int32) (hb hby at_17) (by decide) k_)
    refine Go.st (T' := s₁) (g' := (mkF m 20 #[.val (.int p1), .val (.int v), .val (.int v), .val (.int b), .val (.int (0 : Int32)), .unset, .unset, .unset] [])) ?_ (fun _ k_ => XS.istore X0.here hx rfl (hb hby at_18) rfl (l' := #[.val (.int p1), .val (.int v), .val (.int v), .val (.int b), .val (.int (0 : Int32)), .unset, .unset, .unset]) rfl k_)
    refine Go.st (T' := s₁) (g' := (mkF m 21 #[.val (.int p1), .val (.int v), .val (.int v), .val (.int b), .val (.int (0 : Int32)), .unset, .unset, .unset] [(.int v)])) ?_ (fun _ k_ => XS.iloadN X0.here hx rfl (hb hby at_20) rfl k_)
    refine Go.st (T' := s₁) (g' := (mkF m 23 #[.val (.int p1), .val (.int v), .val (.int v), .val (.int b), .val (.int (0 : Int32)), .unset, .unset, .unset] [(.int (127 : Int32)), (.int v)])) ?_ (fun _ k_ => XT.bipushV X0.here hx rfl (127 : Int32) (hb hby at_21) (by decide) k_)
    refine Go.st (T' := s₁) (g' := (mkF m 30 #[.val (.int p1), .val (.int v), .val (.int v), .val (.int b), .val (.int (0 : Int32)), .unset, .unset, .unset] [])) ?_ (fun _ k_ => XS.icmpYes X0.here hx rfl (pc0 := 23) (pc' := 30) rfl (hb hby at_23) rfl (feq (own_i_neq rfl (by decide : (127 : Int32).toInt = 127) (by omega) : ¬ v = (127 : Int32))).2 (by decide) (by decide) k_)
    refine Go.st (T' := s₁) (g' := (mkF m 31 #[.val (.int p1), .val (.int v), .val (.int v), .val (.int b), .val (.int (0 : Int32)), .unset, .unset, .unset] [(.int (0 : Int32))])) ?_ (fun _ k_ => XT.iconstV X0.here hx rfl (0 : Int32) (hb hby at_30) (by decide) k_)
    refine Go.st (T' := s₁) (g' := (mkF m 33 #[.val (.int p1), .val (.int v), .val (.int v), .val (.int b), .val (.int (0 : Int32)), .val (.int (0 : Int32)), .unset, .unset] [])) ?_ (fun _ k_ => XS.istore X0.here hx rfl (hb hby at_31) rfl (l' := #[.val (.int p1), .val (.int v), .val (.int v), .val (.int b), .val (.int (0 : Int32)), .val (.int (0 : Int32)), .unset, .unset]) rfl k_)
    refine Go.st (T' := s₁) (g' := (mkF m 34 #[.val (.int p1), .val (.int v), .val (.int v), .val (.int b), .val (.int (0 : Int32)), .val (.int (0 : Int32)), .unset, .unset] [(.int b)])) ?_ (fun _ k_ => XS.iloadN X0.here hx rfl (hb hby at_33) rfl k_)
    refine Go.st (T' := s₁) (g' := (mkF m 35 #[.val (.int p1), .val (.int v), .val (.int v), .val (.int b), .val (.int (0 : Int32)), .val (.int (0 : Int32)), .unset, .unset] [(.int (4 : Int32)), (.int b)])) ?_ (fun _ k_ => XT.iconstV X0.here hx rfl (4 : Int32) (hb hby at_34) (by decide) k_)
    refine Go.st (T' := s₁) (g' := (mkF m 42 #[.val (.int p1), .val (.int v), .val (.int v), .val (.int b), .val (.int (0 : Int32)), .val (.int (0 : Int32)), .unset, .unset] [])) ?_ (fun _ k_ => XS.icmpYes X0.here hx rfl (pc0 := 35) (pc' := 42) rfl (hb hby at_35) rfl (feq (own_i_neq rfl (by decide : (4 : Int32).toInt = 4) (by omega) : ¬ b = (4 : Int32))).2 (by decide) (by decide) k_)
    refine Go.st (T' := s₁) (g' := (mkF m 43 #[.val (.int p1), .val (.int v), .val (.int v), .val (.int b), .val (.int (0 : Int32)), .val (.int (0 : Int32)), .unset, .unset] [(.int (0 : Int32))])) ?_ (fun _ k_ => XT.iconstV X0.here hx rfl (0 : Int32) (hb hby at_42) (by decide) k_)
    refine Go.st (T' := s₁) (g' := (mkF m 45 #[.val (.int p1), .val (.int v), .val (.int v), .val (.int b), .val (.int (0 : Int32)), .val (.int (0 : Int32)), .val (.int (0 : Int32)), .unset] [])) ?_ (fun _ k_ => XS.istore X0.here hx rfl (hb hby at_43) rfl (l' := #[.val (.int p1), .val (.int v), .val (.int v), .val (.int b), .val (.int (0 : Int32)), .val (.int (0 : Int32)), .val (.int (0 : Int32)), .unset]) rfl k_)
    refine Go.st (T' := s₁) (g' := (mkF m 47 #[.val (.int p1), .val (.int v), .val (.int v), .val (.int b), .val (.int (0 : Int32)), .val (.int (0 : Int32)), .val (.int (0 : Int32)), .unset] [(.int (0 : Int32))])) ?_ (fun _ k_ => XS.iload X0.here hx rfl (hb hby at_45) rfl k_)
    refine Go.st (T' := s₁) (g' := (mkF m 50 #[.val (.int p1), .val (.int v), .val (.int v), .val (.int b), .val (.int (0 : Int32)), .val (.int (0 : Int32)), .val (.int (0 : Int32)), .unset] [])) ?_ (fun _ k_ => XS.ifNo X0.here hx rfl (hb hby at_47) rfl (by decide) k_)
    refine Go.st (T' := s₁) (g' := (mkF m 52 #[.val (.int p1), .val (.int v), .val (.int v), .val (.int b), .val (.int (0 : Int32)), .val (.int (0 : Int32)), .val (.int (0 : Int32)), .unset] [(.int (0 : Int32))])) ?_ (fun _ k_ => XS.iload X0.here hx rfl (hb hby at_50) rfl k_)
    refine Go.st (T' := s₁) (g' := (mkF m 55 #[.val (.int p1), .val (.int v), .val (.int v), .val (.int b), .val (.int (0 : Int32)), .val (.int (0 : Int32)), .val (.int (0 : Int32)), .unset] [])) ?_ (fun _ k_ => XS.ifNo X0.here hx rfl (hb hby at_52) rfl (by decide) k_)
    refine Go.st (T' := s₁) (g' := (mkF m 57 #[.val (.int p1), .val (.int v), .val (.int v), .val (.int b), .val (.int (0 : Int32)), .val (.int (0 : Int32)), .val (.int (0 : Int32)), .unset] [(.int (0 : Int32))])) ?_ (fun _ k_ => XS.iload X0.here hx rfl (hb hby at_55) rfl k_)
    refine Go.st (T' := s₁) (g' := (mkF m 64 #[.val (.int p1), .val (.int v), .val (.int v), .val (.int b), .val (.int (0 : Int32)), .val (.int (0 : Int32)), .val (.int (0 : Int32)), .unset] [])) ?_ (fun _ k_ => XS.ifYes X0.here hx rfl (pc0 := 57) (pc' := 64) rfl (hb hby at_57) rfl (by decide) (by decide) (by decide) k_)
    refine Go.st (T' := s₁) (g' := (mkF m 65 #[.val (.int p1), .val (.int v), .val (.int v), .val (.int b), .val (.int (0 : Int32)), .val (.int (0 : Int32)), .val (.int (0 : Int32)), .unset] [(.int (0 : Int32))])) ?_ (fun _ k_ => XT.iconstV X0.here hx rfl (0 : Int32) (hb hby at_64) (by decide) k_)
    refine Go.st (T' := s₁) (g' := (mkF m 67 #[.val (.int p1), .val (.int v), .val (.int v), .val (.int b), .val (.int (0 : Int32)), .val (.int (0 : Int32)), .val (.int (0 : Int32)), .val (.int (0 : Int32))] [])) ?_ (fun _ k_ => XS.istore X0.here hx rfl (hb hby at_65) rfl (l' := #[.val (.int p1), .val (.int v), .val (.int v), .val (.int b), .val (.int (0 : Int32)), .val (.int (0 : Int32)), .val (.int (0 : Int32)), .val (.int (0 : Int32))]) rfl k_)
    refine Go.st (T' := s₁) (g' := (mkF m 68 #[.val (.int p1), .val (.int v), .val (.int v), .val (.int b), .val (.int (0 : Int32)), .val (.int (0 : Int32)), .val (.int (0 : Int32)), .val (.int (0 : Int32))] [(.int v)])) ?_ (fun _ k_ => XS.iloadN X0.here hx rfl (hb hby at_67) rfl k_)
    refine Go.callS X0 hx hZ hown (hw _ (List.mem_of_getElem? (i := 0) rfl)) (hw _ (List.mem_of_getElem? (i := 1) rfl)) (hw _ (List.mem_of_getElem? (i := 2) rfl)) (hw _ (List.mem_of_getElem? (i := 3) rfl)) (by decide) (rm1 l Z a0 hw [] v  h0 n0 Z0 ) e0 (by decide) (W := 0) (by decide) (by decide) (by decide) (g := (mkF m 68 #[.val (.int p1), .val (.int v), .val (.int v), .val (.int b), .val (.int (0 : Int32)), .val (.int (0 : Int32)), .val (.int (0 : Int32)), .val (.int (0 : Int32))] [(.int v)])) (rest := []) rfl (by rw [hml]; rfl) (lenOf pd__C_Z rfl) rfl (by show 2 * 0 + _ ≤ _; exact Nat.le_of_eq rfl) (hb hby at_68) ?_
    rintro v2 T2 L2 X2 ⟨rfl, N2, e2⟩
    have M2 := Fr.app N0 N2
    rw [show own_ctl v  = (0 : Int32) from by rw [own_ctl, if_neg (own_i_nlt rfl (by decide : (32 : Int32).toInt = 32) (by omega) : ¬ v < (32 : Int32)), if_pos (own_i_lt rfl (by decide : (127 : Int32).toInt = 127) (by omega) : v < (127 : Int32))]]
    show Go p e below _ T2 (mkF m 71 #[.val (.int p1), .val (.int v), .val (.int v), .val (.int b), .val (.int (0 : Int32)), .val (.int (0 : Int32)), .val (.int (0 : Int32)), .val (.int (0 : Int32))] [(.int (0 : Int32))])
    refine Go.st (T' := T2) (g' := (mkF m 73 #[.val (.int p1), .val (.int v), .val (.int v), .val (.int b), .val (.int (0 : Int32)), .val (.int (0 : Int32)), .val (.int (0 : Int32)), .val (.int (0 : Int32))] [(.int (0 : Int32)), (.int (0 : Int32))])) ?_ (fun _ k_ => XS.iload X2.here hx rfl (hb hby at_71) rfl k_)
    refine Go.st (T' := T2) (g' := (mkF m 76 #[.val (.int p1), .val (.int v), .val (.int v), .val (.int b), .val (.int (0 : Int32)), .val (.int (0 : Int32)), .val (.int (0 : Int32)), .val (.int (0 : Int32))] [])) ?_ (fun _ k_ => XS.icmpNo X2.here hx rfl (hb hby at_73) rfl (by decide) k_)
    refine Go.st (T' := T2) (g' := (mkF m 77 #[.val (.int p1), .val (.int v), .val (.int v), .val (.int b), .val (.int (0 : Int32)), .val (.int (0 : Int32)), .val (.int (0 : Int32)), .val (.int (0 : Int32))] [(.int (1 : Int32))])) ?_ (fun _ k_ => XT.iconstV X2.here hx rfl (1 : Int32) (hb hby at_76) (by decide) k_)
    refine Go.st (T' := T2) (g' := (mkF m 81 #[.val (.int p1), .val (.int v), .val (.int v), .val (.int b), .val (.int (0 : Int32)), .val (.int (0 : Int32)), .val (.int (0 : Int32)), .val (.int (0 : Int32))] [(.int (1 : Int32))])) ?_ (fun _ k_ => XS.goto X2.here hx rfl (pc0 := 77) (pc' := 81) rfl (hb hby at_77) (by decide) (by decide) k_)
    exact Go.retV (t := .boolean) X2 hx hret hlk (by decide) (by decide) rfl (Or.inl ⟨rfl, Or.inr (Or.inl rfl), _, rfl⟩) (hb hby at_81) ⟨rfl, M2⟩
  · have hr0 := hr
    refine Go.st (T' := s₁) (g' := (mkF m 9 #[.val (.int p1), .val (.int v), .val (.int v), .val (.int b), .unset, .unset, .unset, .unset] [])) ?_ (fun _ k_ => XS.istoreN X0.here hx rfl (hb hby at_8) rfl (l' := #[.val (.int p1), .val (.int v), .val (.int v), .val (.int b), .unset, .unset, .unset, .unset]) rfl k_)
    refine Go.st (T' := s₁) (g' := (mkF m 10 #[.val (.int p1), .val (.int v), .val (.int v), .val (.int b), .unset, .unset, .unset, .unset] [(.int b)])) ?_ (fun _ k_ => XS.iloadN X0.here hx rfl (hb hby at_9) rfl k_)
    refine Go.st (T' := s₁) (g' := (mkF m 17 #[.val (.int p1), .val (.int v), .val (.int v), .val (.int b), .unset, .unset, .unset, .unset] [])) ?_ (fun _ k_ => XS.ifYes X0.here hx rfl (pc0 := 10) (pc' := 17) rfl (hb hby at_10) rfl ((if0 _ _).trans (feq (own_i_neq rfl (by decide : (0 : Int32).toInt = 0) (by omega) : ¬ b = (0 : Int32))).2) (by decide) (by decide) k_)
    refine Go.st (T' := s₁) (g' := (mkF m 18 #[.val (.int p1), .val (.int v), .val (.int v), .val (.int b), .unset, .unset, .unset, .unset] [(.int (0 : Int32))])) ?_ (fun _ k_ => XT.iconstV X0.here hx rfl (0 : Int32) (hb hby at_17) (by decide) k_)
    refine Go.st (T' := s₁) (g' := (mkF m 20 #[.val (.int p1), .val (.int v), .val (.int v), .val (.int b), .val (.int (0 : Int32)), .unset, .unset, .unset] [])) ?_ (fun _ k_ => XS.istore X0.here hx rfl (hb hby at_18) rfl (l' := #[.val (.int p1), .val (.int v), .val (.int v), .val (.int b), .val (.int (0 : Int32)), .unset, .unset, .unset]) rfl k_)
    refine Go.st (T' := s₁) (g' := (mkF m 21 #[.val (.int p1), .val (.int v), .val (.int v), .val (.int b), .val (.int (0 : Int32)), .unset, .unset, .unset] [(.int v)])) ?_ (fun _ k_ => XS.iloadN X0.here hx rfl (hb hby at_20) rfl k_)
    refine Go.st (T' := s₁) (g' := (mkF m 23 #[.val (.int p1), .val (.int v), .val (.int v), .val (.int b), .val (.int (0 : Int32)), .unset, .unset, .unset] [(.int (127 : Int32)), (.int v)])) ?_ (fun _ k_ => XT.bipushV X0.here hx rfl (127 : Int32) (hb hby at_21) (by decide) k_)
    refine Go.st (T' := s₁) (g' := (mkF m 26 #[.val (.int p1), .val (.int v), .val (.int v), .val (.int b), .val (.int (0 : Int32)), .unset, .unset, .unset] [])) ?_ (fun _ k_ => XS.icmpNo X0.here hx rfl (hb hby at_23) rfl (teq (own_i_eq rfl (by decide : (127 : Int32).toInt = 127) (by omega) : v = (127 : Int32))).2 k_)
    refine Go.st (T' := s₁) (g' := (mkF m 27 #[.val (.int p1), .val (.int v), .val (.int v), .val (.int b), .val (.int (0 : Int32)), .unset, .unset, .unset] [(.int (1 : Int32))])) ?_ (fun _ k_ => XT.iconstV X0.here hx rfl (1 : Int32) (hb hby at_26) (by decide) k_)
    refine Go.st (T' := s₁) (g' := (mkF m 31 #[.val (.int p1), .val (.int v), .val (.int v), .val (.int b), .val (.int (0 : Int32)), .unset, .unset, .unset] [(.int (1 : Int32))])) ?_ (fun _ k_ => XS.goto X0.here hx rfl (pc0 := 27) (pc' := 31) rfl (hb hby at_27) (by decide) (by decide) k_)
    refine Go.st (T' := s₁) (g' := (mkF m 33 #[.val (.int p1), .val (.int v), .val (.int v), .val (.int b), .val (.int (0 : Int32)), .val (.int (1 : Int32)), .unset, .unset] [])) ?_ (fun _ k_ => XS.istore X0.here hx rfl (hb hby at_31) rfl (l' := #[.val (.int p1), .val (.int v), .val (.int v), .val (.int b), .val (.int (0 : Int32)), .val (.int (1 : Int32)), .unset, .unset]) rfl k_)
    refine Go.st (T' := s₁) (g' := (mkF m 34 #[.val (.int p1), .val (.int v), .val (.int v), .val (.int b), .val (.int (0 : Int32)), .val (.int (1 : Int32)), .unset, .unset] [(.int b)])) ?_ (fun _ k_ => XS.iloadN X0.here hx rfl (hb hby at_33) rfl k_)
    refine Go.st (T' := s₁) (g' := (mkF m 35 #[.val (.int p1), .val (.int v), .val (.int v), .val (.int b), .val (.int (0 : Int32)), .val (.int (1 : Int32)), .unset, .unset] [(.int (4 : Int32)), (.int b)])) ?_ (fun _ k_ => XT.iconstV X0.here hx rfl (4 : Int32) (hb hby at_34) (by decide) k_)
    refine Go.st (T' := s₁) (g' := (mkF m 42 #[.val (.int p1), .val (.int v), .val (.int v), .val (.int b), .val (.int (0 : Int32)), .val (.int (1 : Int32)), .unset, .unset] [])) ?_ (fun _ k_ => XS.icmpYes X0.here hx rfl (pc0 := 35) (pc' := 42) rfl (hb hby at_35) rfl (feq (own_i_neq rfl (by decide : (4 : Int32).toInt = 4) (by omega) : ¬ b = (4 : Int32))).2 (by decide) (by decide) k_)
    refine Go.st (T' := s₁) (g' := (mkF m 43 #[.val (.int p1), .val (.int v), .val (.int v), .val (.int b), .val (.int (0 : Int32)), .val (.int (1 : Int32)), .unset, .unset] [(.int (0 : Int32))])) ?_ (fun _ k_ => XT.iconstV X0.here hx rfl (0 : Int32) (hb hby at_42) (by decide) k_)
    refine Go.st (T' := s₁) (g' := (mkF m 45 #[.val (.int p1), .val (.int v), .val (.int v), .val (.int b), .val (.int (0 : Int32)), .val (.int (1 : Int32)), .val (.int (0 : Int32)), .unset] [])) ?_ (fun _ k_ => XS.istore X0.here hx rfl (hb hby at_43) rfl (l' := #[.val (.int p1), .val (.int v), .val (.int v), .val (.int b), .val (.int (0 : Int32)), .val (.int (1 : Int32)), .val (.int (0 : Int32)), .unset]) rfl k_)
    refine Go.st (T' := s₁) (g' := (mkF m 47 #[.val (.int p1), .val (.int v), .val (.int v), .val (.int b), .val (.int (0 : Int32)), .val (.int (1 : Int32)), .val (.int (0 : Int32)), .unset] [(.int (0 : Int32))])) ?_ (fun _ k_ => XS.iload X0.here hx rfl (hb hby at_45) rfl k_)
    refine Go.st (T' := s₁) (g' := (mkF m 50 #[.val (.int p1), .val (.int v), .val (.int v), .val (.int b), .val (.int (0 : Int32)), .val (.int (1 : Int32)), .val (.int (0 : Int32)), .unset] [])) ?_ (fun _ k_ => XS.ifNo X0.here hx rfl (hb hby at_47) rfl (by decide) k_)
    refine Go.st (T' := s₁) (g' := (mkF m 52 #[.val (.int p1), .val (.int v), .val (.int v), .val (.int b), .val (.int (0 : Int32)), .val (.int (1 : Int32)), .val (.int (0 : Int32)), .unset] [(.int (1 : Int32))])) ?_ (fun _ k_ => XS.iload X0.here hx rfl (hb hby at_50) rfl k_)
    refine Go.st (T' := s₁) (g' := (mkF m 60 #[.val (.int p1), .val (.int v), .val (.int v), .val (.int b), .val (.int (0 : Int32)), .val (.int (1 : Int32)), .val (.int (0 : Int32)), .unset] [])) ?_ (fun _ k_ => XS.ifYes X0.here hx rfl (pc0 := 52) (pc' := 60) rfl (hb hby at_52) rfl (by decide) (by decide) (by decide) k_)
    refine Go.st (T' := s₁) (g' := (mkF m 61 #[.val (.int p1), .val (.int v), .val (.int v), .val (.int b), .val (.int (0 : Int32)), .val (.int (1 : Int32)), .val (.int (0 : Int32)), .unset] [(.int (1 : Int32))])) ?_ (fun _ k_ => XT.iconstV X0.here hx rfl (1 : Int32) (hb hby at_60) (by decide) k_)
    refine Go.st (T' := s₁) (g' := (mkF m 65 #[.val (.int p1), .val (.int v), .val (.int v), .val (.int b), .val (.int (0 : Int32)), .val (.int (1 : Int32)), .val (.int (0 : Int32)), .unset] [(.int (1 : Int32))])) ?_ (fun _ k_ => XS.goto X0.here hx rfl (pc0 := 61) (pc' := 65) rfl (hb hby at_61) (by decide) (by decide) k_)
    refine Go.st (T' := s₁) (g' := (mkF m 67 #[.val (.int p1), .val (.int v), .val (.int v), .val (.int b), .val (.int (0 : Int32)), .val (.int (1 : Int32)), .val (.int (0 : Int32)), .val (.int (1 : Int32))] [])) ?_ (fun _ k_ => XS.istore X0.here hx rfl (hb hby at_65) rfl (l' := #[.val (.int p1), .val (.int v), .val (.int v), .val (.int b), .val (.int (0 : Int32)), .val (.int (1 : Int32)), .val (.int (0 : Int32)), .val (.int (1 : Int32))]) rfl k_)
    refine Go.st (T' := s₁) (g' := (mkF m 68 #[.val (.int p1), .val (.int v), .val (.int v), .val (.int b), .val (.int (0 : Int32)), .val (.int (1 : Int32)), .val (.int (0 : Int32)), .val (.int (1 : Int32))] [(.int v)])) ?_ (fun _ k_ => XS.iloadN X0.here hx rfl (hb hby at_67) rfl k_)
    refine Go.callS X0 hx hZ hown (hw _ (List.mem_of_getElem? (i := 0) rfl)) (hw _ (List.mem_of_getElem? (i := 1) rfl)) (hw _ (List.mem_of_getElem? (i := 2) rfl)) (hw _ (List.mem_of_getElem? (i := 3) rfl)) (by decide) (rm1 l Z a0 hw [] v  h0 n0 Z0 ) e0 (by decide) (W := 0) (by decide) (by decide) (by decide) (g := (mkF m 68 #[.val (.int p1), .val (.int v), .val (.int v), .val (.int b), .val (.int (0 : Int32)), .val (.int (1 : Int32)), .val (.int (0 : Int32)), .val (.int (1 : Int32))] [(.int v)])) (rest := []) rfl (by rw [hml]; rfl) (lenOf pd__C_Z rfl) rfl (by show 2 * 0 + _ ≤ _; exact Nat.le_of_eq rfl) (hb hby at_68) ?_
    rintro v3 T3 L3 X3 ⟨rfl, N3, e3⟩
    have M3 := Fr.app N0 N3
    rw [show own_ctl v  = (1 : Int32) from by rw [own_ctl, if_neg (own_i_nlt rfl (by decide : (32 : Int32).toInt = 32) (by omega) : ¬ v < (32 : Int32)), if_neg (own_i_nlt rfl (by decide : (127 : Int32).toInt = 127) (by omega) : ¬ v < (127 : Int32)), if_neg (own_i_nlt (by decide : (159 : Int32).toInt = 159) rfl (by omega) : ¬ (159 : Int32) < v)]]
    show Go p e below _ T3 (mkF m 71 #[.val (.int p1), .val (.int v), .val (.int v), .val (.int b), .val (.int (0 : Int32)), .val (.int (1 : Int32)), .val (.int (0 : Int32)), .val (.int (1 : Int32))] [(.int (1 : Int32))])
    refine Go.st (T' := T3) (g' := (mkF m 73 #[.val (.int p1), .val (.int v), .val (.int v), .val (.int b), .val (.int (0 : Int32)), .val (.int (1 : Int32)), .val (.int (0 : Int32)), .val (.int (1 : Int32))] [(.int (1 : Int32)), (.int (1 : Int32))])) ?_ (fun _ k_ => XS.iload X3.here hx rfl (hb hby at_71) rfl k_)
    refine Go.st (T' := T3) (g' := (mkF m 76 #[.val (.int p1), .val (.int v), .val (.int v), .val (.int b), .val (.int (0 : Int32)), .val (.int (1 : Int32)), .val (.int (0 : Int32)), .val (.int (1 : Int32))] [])) ?_ (fun _ k_ => XS.icmpNo X3.here hx rfl (hb hby at_73) rfl (by decide) k_)
    refine Go.st (T' := T3) (g' := (mkF m 77 #[.val (.int p1), .val (.int v), .val (.int v), .val (.int b), .val (.int (0 : Int32)), .val (.int (1 : Int32)), .val (.int (0 : Int32)), .val (.int (1 : Int32))] [(.int (1 : Int32))])) ?_ (fun _ k_ => XT.iconstV X3.here hx rfl (1 : Int32) (hb hby at_76) (by decide) k_)
    refine Go.st (T' := T3) (g' := (mkF m 81 #[.val (.int p1), .val (.int v), .val (.int v), .val (.int b), .val (.int (0 : Int32)), .val (.int (1 : Int32)), .val (.int (0 : Int32)), .val (.int (1 : Int32))] [(.int (1 : Int32))])) ?_ (fun _ k_ => XS.goto X3.here hx rfl (pc0 := 77) (pc' := 81) rfl (hb hby at_77) (by decide) (by decide) k_)
    exact Go.retV (t := .boolean) X3 hx hret hlk (by decide) (by decide) rfl (Or.inl ⟨rfl, Or.inr (Or.inl rfl), _, rfl⟩) (hb hby at_81) ⟨rfl, M3⟩
  · have hr0 := hr
    refine Go.st (T' := s₁) (g' := (mkF m 9 #[.val (.int p1), .val (.int v), .val (.int v), .val (.int b), .unset, .unset, .unset, .unset] [])) ?_ (fun _ k_ => XS.istoreN X0.here hx rfl (hb hby at_8) rfl (l' := #[.val (.int p1), .val (.int v), .val (.int v), .val (.int b), .unset, .unset, .unset, .unset]) rfl k_)
    refine Go.st (T' := s₁) (g' := (mkF m 10 #[.val (.int p1), .val (.int v), .val (.int v), .val (.int b), .unset, .unset, .unset, .unset] [(.int b)])) ?_ (fun _ k_ => XS.iloadN X0.here hx rfl (hb hby at_9) rfl k_)
    refine Go.st (T' := s₁) (g' := (mkF m 17 #[.val (.int p1), .val (.int v), .val (.int v), .val (.int b), .unset, .unset, .unset, .unset] [])) ?_ (fun _ k_ => XS.ifYes X0.here hx rfl (pc0 := 10) (pc' := 17) rfl (hb hby at_10) rfl ((if0 _ _).trans (feq (own_i_neq rfl (by decide : (0 : Int32).toInt = 0) (by omega) : ¬ b = (0 : Int32))).2) (by decide) (by decide) k_)
    refine Go.st (T' := s₁) (g' := (mkF m 18 #[.val (.int p1), .val (.int v), .val (.int v), .val (.int b), .unset, .unset, .unset, .unset] [(.int (0 : Int32))])) ?_ (fun _ k_ => XT.iconstV X0.here hx rfl (0 : Int32) (hb hby at_17) (by decide) k_)
    refine Go.st (T' := s₁) (g' := (mkF m 20 #[.val (.int p1), .val (.int v), .val (.int v), .val (.int b), .val (.int (0 : Int32)), .unset, .unset, .unset] [])) ?_ (fun _ k_ => XS.istore X0.here hx rfl (hb hby at_18) rfl (l' := #[.val (.int p1), .val (.int v), .val (.int v), .val (.int b), .val (.int (0 : Int32)), .unset, .unset, .unset]) rfl k_)
    refine Go.st (T' := s₁) (g' := (mkF m 21 #[.val (.int p1), .val (.int v), .val (.int v), .val (.int b), .val (.int (0 : Int32)), .unset, .unset, .unset] [(.int v)])) ?_ (fun _ k_ => XS.iloadN X0.here hx rfl (hb hby at_20) rfl k_)
    refine Go.st (T' := s₁) (g' := (mkF m 23 #[.val (.int p1), .val (.int v), .val (.int v), .val (.int b), .val (.int (0 : Int32)), .unset, .unset, .unset] [(.int (127 : Int32)), (.int v)])) ?_ (fun _ k_ => XT.bipushV X0.here hx rfl (127 : Int32) (hb hby at_21) (by decide) k_)
    refine Go.st (T' := s₁) (g' := (mkF m 30 #[.val (.int p1), .val (.int v), .val (.int v), .val (.int b), .val (.int (0 : Int32)), .unset, .unset, .unset] [])) ?_ (fun _ k_ => XS.icmpYes X0.here hx rfl (pc0 := 23) (pc' := 30) rfl (hb hby at_23) rfl (feq (own_i_neq rfl (by decide : (127 : Int32).toInt = 127) (by omega) : ¬ v = (127 : Int32))).2 (by decide) (by decide) k_)
    refine Go.st (T' := s₁) (g' := (mkF m 31 #[.val (.int p1), .val (.int v), .val (.int v), .val (.int b), .val (.int (0 : Int32)), .unset, .unset, .unset] [(.int (0 : Int32))])) ?_ (fun _ k_ => XT.iconstV X0.here hx rfl (0 : Int32) (hb hby at_30) (by decide) k_)
    refine Go.st (T' := s₁) (g' := (mkF m 33 #[.val (.int p1), .val (.int v), .val (.int v), .val (.int b), .val (.int (0 : Int32)), .val (.int (0 : Int32)), .unset, .unset] [])) ?_ (fun _ k_ => XS.istore X0.here hx rfl (hb hby at_31) rfl (l' := #[.val (.int p1), .val (.int v), .val (.int v), .val (.int b), .val (.int (0 : Int32)), .val (.int (0 : Int32)), .unset, .unset]) rfl k_)
    refine Go.st (T' := s₁) (g' := (mkF m 34 #[.val (.int p1), .val (.int v), .val (.int v), .val (.int b), .val (.int (0 : Int32)), .val (.int (0 : Int32)), .unset, .unset] [(.int b)])) ?_ (fun _ k_ => XS.iloadN X0.here hx rfl (hb hby at_33) rfl k_)
    refine Go.st (T' := s₁) (g' := (mkF m 35 #[.val (.int p1), .val (.int v), .val (.int v), .val (.int b), .val (.int (0 : Int32)), .val (.int (0 : Int32)), .unset, .unset] [(.int (4 : Int32)), (.int b)])) ?_ (fun _ k_ => XT.iconstV X0.here hx rfl (4 : Int32) (hb hby at_34) (by decide) k_)
    refine Go.st (T' := s₁) (g' := (mkF m 38 #[.val (.int p1), .val (.int v), .val (.int v), .val (.int b), .val (.int (0 : Int32)), .val (.int (0 : Int32)), .unset, .unset] [])) ?_ (fun _ k_ => XS.icmpNo X0.here hx rfl (hb hby at_35) rfl (teq (own_i_eq rfl (by decide : (4 : Int32).toInt = 4) (by omega) : b = (4 : Int32))).2 k_)
    refine Go.st (T' := s₁) (g' := (mkF m 39 #[.val (.int p1), .val (.int v), .val (.int v), .val (.int b), .val (.int (0 : Int32)), .val (.int (0 : Int32)), .unset, .unset] [(.int (1 : Int32))])) ?_ (fun _ k_ => XT.iconstV X0.here hx rfl (1 : Int32) (hb hby at_38) (by decide) k_)
    refine Go.st (T' := s₁) (g' := (mkF m 43 #[.val (.int p1), .val (.int v), .val (.int v), .val (.int b), .val (.int (0 : Int32)), .val (.int (0 : Int32)), .unset, .unset] [(.int (1 : Int32))])) ?_ (fun _ k_ => XS.goto X0.here hx rfl (pc0 := 39) (pc' := 43) rfl (hb hby at_39) (by decide) (by decide) k_)
    refine Go.st (T' := s₁) (g' := (mkF m 45 #[.val (.int p1), .val (.int v), .val (.int v), .val (.int b), .val (.int (0 : Int32)), .val (.int (0 : Int32)), .val (.int (1 : Int32)), .unset] [])) ?_ (fun _ k_ => XS.istore X0.here hx rfl (hb hby at_43) rfl (l' := #[.val (.int p1), .val (.int v), .val (.int v), .val (.int b), .val (.int (0 : Int32)), .val (.int (0 : Int32)), .val (.int (1 : Int32)), .unset]) rfl k_)
    refine Go.st (T' := s₁) (g' := (mkF m 47 #[.val (.int p1), .val (.int v), .val (.int v), .val (.int b), .val (.int (0 : Int32)), .val (.int (0 : Int32)), .val (.int (1 : Int32)), .unset] [(.int (0 : Int32))])) ?_ (fun _ k_ => XS.iload X0.here hx rfl (hb hby at_45) rfl k_)
    refine Go.st (T' := s₁) (g' := (mkF m 50 #[.val (.int p1), .val (.int v), .val (.int v), .val (.int b), .val (.int (0 : Int32)), .val (.int (0 : Int32)), .val (.int (1 : Int32)), .unset] [])) ?_ (fun _ k_ => XS.ifNo X0.here hx rfl (hb hby at_47) rfl (by decide) k_)
    refine Go.st (T' := s₁) (g' := (mkF m 52 #[.val (.int p1), .val (.int v), .val (.int v), .val (.int b), .val (.int (0 : Int32)), .val (.int (0 : Int32)), .val (.int (1 : Int32)), .unset] [(.int (0 : Int32))])) ?_ (fun _ k_ => XS.iload X0.here hx rfl (hb hby at_50) rfl k_)
    refine Go.st (T' := s₁) (g' := (mkF m 55 #[.val (.int p1), .val (.int v), .val (.int v), .val (.int b), .val (.int (0 : Int32)), .val (.int (0 : Int32)), .val (.int (1 : Int32)), .unset] [])) ?_ (fun _ k_ => XS.ifNo X0.here hx rfl (hb hby at_52) rfl (by decide) k_)
    refine Go.st (T' := s₁) (g' := (mkF m 57 #[.val (.int p1), .val (.int v), .val (.int v), .val (.int b), .val (.int (0 : Int32)), .val (.int (0 : Int32)), .val (.int (1 : Int32)), .unset] [(.int (1 : Int32))])) ?_ (fun _ k_ => XS.iload X0.here hx rfl (hb hby at_55) rfl k_)
    refine Go.st (T' := s₁) (g' := (mkF m 60 #[.val (.int p1), .val (.int v), .val (.int v), .val (.int b), .val (.int (0 : Int32)), .val (.int (0 : Int32)), .val (.int (1 : Int32)), .unset] [])) ?_ (fun _ k_ => XS.ifNo X0.here hx rfl (hb hby at_57) rfl (by decide) k_)
    refine Go.st (T' := s₁) (g' := (mkF m 61 #[.val (.int p1), .val (.int v), .val (.int v), .val (.int b), .val (.int (0 : Int32)), .val (.int (0 : Int32)), .val (.int (1 : Int32)), .unset] [(.int (1 : Int32))])) ?_ (fun _ k_ => XT.iconstV X0.here hx rfl (1 : Int32) (hb hby at_60) (by decide) k_)
    refine Go.st (T' := s₁) (g' := (mkF m 65 #[.val (.int p1), .val (.int v), .val (.int v), .val (.int b), .val (.int (0 : Int32)), .val (.int (0 : Int32)), .val (.int (1 : Int32)), .unset] [(.int (1 : Int32))])) ?_ (fun _ k_ => XS.goto X0.here hx rfl (pc0 := 61) (pc' := 65) rfl (hb hby at_61) (by decide) (by decide) k_)
    refine Go.st (T' := s₁) (g' := (mkF m 67 #[.val (.int p1), .val (.int v), .val (.int v), .val (.int b), .val (.int (0 : Int32)), .val (.int (0 : Int32)), .val (.int (1 : Int32)), .val (.int (1 : Int32))] [])) ?_ (fun _ k_ => XS.istore X0.here hx rfl (hb hby at_65) rfl (l' := #[.val (.int p1), .val (.int v), .val (.int v), .val (.int b), .val (.int (0 : Int32)), .val (.int (0 : Int32)), .val (.int (1 : Int32)), .val (.int (1 : Int32))]) rfl k_)
    refine Go.st (T' := s₁) (g' := (mkF m 68 #[.val (.int p1), .val (.int v), .val (.int v), .val (.int b), .val (.int (0 : Int32)), .val (.int (0 : Int32)), .val (.int (1 : Int32)), .val (.int (1 : Int32))] [(.int v)])) ?_ (fun _ k_ => XS.iloadN X0.here hx rfl (hb hby at_67) rfl k_)
    refine Go.callS X0 hx hZ hown (hw _ (List.mem_of_getElem? (i := 0) rfl)) (hw _ (List.mem_of_getElem? (i := 1) rfl)) (hw _ (List.mem_of_getElem? (i := 2) rfl)) (hw _ (List.mem_of_getElem? (i := 3) rfl)) (by decide) (rm1 l Z a0 hw [] v  h0 n0 Z0 ) e0 (by decide) (W := 0) (by decide) (by decide) (by decide) (g := (mkF m 68 #[.val (.int p1), .val (.int v), .val (.int v), .val (.int b), .val (.int (0 : Int32)), .val (.int (0 : Int32)), .val (.int (1 : Int32)), .val (.int (1 : Int32))] [(.int v)])) (rest := []) rfl (by rw [hml]; rfl) (lenOf pd__C_Z rfl) rfl (by show 2 * 0 + _ ≤ _; exact Nat.le_of_eq rfl) (hb hby at_68) ?_
    rintro v4 T4 L4 X4 ⟨rfl, N4, e4⟩
    have M4 := Fr.app N0 N4
    rw [show own_ctl v  = (1 : Int32) from by rw [own_ctl, if_neg (own_i_nlt rfl (by decide : (32 : Int32).toInt = 32) (by omega) : ¬ v < (32 : Int32)), if_neg (own_i_nlt rfl (by decide : (127 : Int32).toInt = 127) (by omega) : ¬ v < (127 : Int32)), if_neg (own_i_nlt (by decide : (159 : Int32).toInt = 159) rfl (by omega) : ¬ (159 : Int32) < v)]]
    show Go p e below _ T4 (mkF m 71 #[.val (.int p1), .val (.int v), .val (.int v), .val (.int b), .val (.int (0 : Int32)), .val (.int (0 : Int32)), .val (.int (1 : Int32)), .val (.int (1 : Int32))] [(.int (1 : Int32))])
    refine Go.st (T' := T4) (g' := (mkF m 73 #[.val (.int p1), .val (.int v), .val (.int v), .val (.int b), .val (.int (0 : Int32)), .val (.int (0 : Int32)), .val (.int (1 : Int32)), .val (.int (1 : Int32))] [(.int (1 : Int32)), (.int (1 : Int32))])) ?_ (fun _ k_ => XS.iload X4.here hx rfl (hb hby at_71) rfl k_)
    refine Go.st (T' := T4) (g' := (mkF m 76 #[.val (.int p1), .val (.int v), .val (.int v), .val (.int b), .val (.int (0 : Int32)), .val (.int (0 : Int32)), .val (.int (1 : Int32)), .val (.int (1 : Int32))] [])) ?_ (fun _ k_ => XS.icmpNo X4.here hx rfl (hb hby at_73) rfl (by decide) k_)
    refine Go.st (T' := T4) (g' := (mkF m 77 #[.val (.int p1), .val (.int v), .val (.int v), .val (.int b), .val (.int (0 : Int32)), .val (.int (0 : Int32)), .val (.int (1 : Int32)), .val (.int (1 : Int32))] [(.int (1 : Int32))])) ?_ (fun _ k_ => XT.iconstV X4.here hx rfl (1 : Int32) (hb hby at_76) (by decide) k_)
    refine Go.st (T' := T4) (g' := (mkF m 81 #[.val (.int p1), .val (.int v), .val (.int v), .val (.int b), .val (.int (0 : Int32)), .val (.int (0 : Int32)), .val (.int (1 : Int32)), .val (.int (1 : Int32))] [(.int (1 : Int32))])) ?_ (fun _ k_ => XS.goto X4.here hx rfl (pc0 := 77) (pc' := 81) rfl (hb hby at_77) (by decide) (by decide) k_)
    exact Go.retV (t := .boolean) X4 hx hret hlk (by decide) (by decide) rfl (Or.inl ⟨rfl, Or.inr (Or.inl rfl), _, rfl⟩) (hb hby at_81) ⟨rfl, M4⟩
  · have hr0 := hr
    refine Go.st (T' := s₁) (g' := (mkF m 9 #[.val (.int p1), .val (.int v), .val (.int v), .val (.int b), .unset, .unset, .unset, .unset] [])) ?_ (fun _ k_ => XS.istoreN X0.here hx rfl (hb hby at_8) rfl (l' := #[.val (.int p1), .val (.int v), .val (.int v), .val (.int b), .unset, .unset, .unset, .unset]) rfl k_)
    refine Go.st (T' := s₁) (g' := (mkF m 10 #[.val (.int p1), .val (.int v), .val (.int v), .val (.int b), .unset, .unset, .unset, .unset] [(.int b)])) ?_ (fun _ k_ => XS.iloadN X0.here hx rfl (hb hby at_9) rfl k_)
    refine Go.st (T' := s₁) (g' := (mkF m 17 #[.val (.int p1), .val (.int v), .val (.int v), .val (.int b), .unset, .unset, .unset, .unset] [])) ?_ (fun _ k_ => XS.ifYes X0.here hx rfl (pc0 := 10) (pc' := 17) rfl (hb hby at_10) rfl ((if0 _ _).trans (feq (own_i_neq rfl (by decide : (0 : Int32).toInt = 0) (by omega) : ¬ b = (0 : Int32))).2) (by decide) (by decide) k_)
    refine Go.st (T' := s₁) (g' := (mkF m 18 #[.val (.int p1), .val (.int v), .val (.int v), .val (.int b), .unset, .unset, .unset, .unset] [(.int (0 : Int32))])) ?_ (fun _ k_ => XT.iconstV X0.here hx rfl (0 : Int32) (hb hby at_17) (by decide) k_)
    refine Go.st (T' := s₁) (g' := (mkF m 20 #[.val (.int p1), .val (.int v), .val (.int v), .val (.int b), .val (.int (0 : Int32)), .unset, .unset, .unset] [])) ?_ (fun _ k_ => XS.istore X0.here hx rfl (hb hby at_18) rfl (l' := #[.val (.int p1), .val (.int v), .val (.int v), .val (.int b), .val (.int (0 : Int32)), .unset, .unset, .unset]) rfl k_)
    refine Go.st (T' := s₁) (g' := (mkF m 21 #[.val (.int p1), .val (.int v), .val (.int v), .val (.int b), .val (.int (0 : Int32)), .unset, .unset, .unset] [(.int v)])) ?_ (fun _ k_ => XS.iloadN X0.here hx rfl (hb hby at_20) rfl k_)
    refine Go.st (T' := s₁) (g' := (mkF m 23 #[.val (.int p1), .val (.int v), .val (.int v), .val (.int b), .val (.int (0 : Int32)), .unset, .unset, .unset] [(.int (127 : Int32)), (.int v)])) ?_ (fun _ k_ => XT.bipushV X0.here hx rfl (127 : Int32) (hb hby at_21) (by decide) k_)
    refine Go.st (T' := s₁) (g' := (mkF m 30 #[.val (.int p1), .val (.int v), .val (.int v), .val (.int b), .val (.int (0 : Int32)), .unset, .unset, .unset] [])) ?_ (fun _ k_ => XS.icmpYes X0.here hx rfl (pc0 := 23) (pc' := 30) rfl (hb hby at_23) rfl (feq (own_i_neq rfl (by decide : (127 : Int32).toInt = 127) (by omega) : ¬ v = (127 : Int32))).2 (by decide) (by decide) k_)
    refine Go.st (T' := s₁) (g' := (mkF m 31 #[.val (.int p1), .val (.int v), .val (.int v), .val (.int b), .val (.int (0 : Int32)), .unset, .unset, .unset] [(.int (0 : Int32))])) ?_ (fun _ k_ => XT.iconstV X0.here hx rfl (0 : Int32) (hb hby at_30) (by decide) k_)
    refine Go.st (T' := s₁) (g' := (mkF m 33 #[.val (.int p1), .val (.int v), .val (.int v), .val (.int b), .val (.int (0 : Int32)), .val (.int (0 : Int32)), .unset, .unset] [])) ?_ (fun _ k_ => XS.istore X0.here hx rfl (hb hby at_31) rfl (l' := #[.val (.int p1), .val (.int v), .val (.int v), .val (.int b), .val (.int (0 : Int32)), .val (.int (0 : Int32)), .unset, .unset]) rfl k_)
    refine Go.st (T' := s₁) (g' := (mkF m 34 #[.val (.int p1), .val (.int v), .val (.int v), .val (.int b), .val (.int (0 : Int32)), .val (.int (0 : Int32)), .unset, .unset] [(.int b)])) ?_ (fun _ k_ => XS.iloadN X0.here hx rfl (hb hby at_33) rfl k_)
    refine Go.st (T' := s₁) (g' := (mkF m 35 #[.val (.int p1), .val (.int v), .val (.int v), .val (.int b), .val (.int (0 : Int32)), .val (.int (0 : Int32)), .unset, .unset] [(.int (4 : Int32)), (.int b)])) ?_ (fun _ k_ => XT.iconstV X0.here hx rfl (4 : Int32) (hb hby at_34) (by decide) k_)
    refine Go.st (T' := s₁) (g' := (mkF m 42 #[.val (.int p1), .val (.int v), .val (.int v), .val (.int b), .val (.int (0 : Int32)), .val (.int (0 : Int32)), .unset, .unset] [])) ?_ (fun _ k_ => XS.icmpYes X0.here hx rfl (pc0 := 35) (pc' := 42) rfl (hb hby at_35) rfl (feq (own_i_neq rfl (by decide : (4 : Int32).toInt = 4) (by omega) : ¬ b = (4 : Int32))).2 (by decide) (by decide) k_)
    refine Go.st (T' := s₁) (g' := (mkF m 43 #[.val (.int p1), .val (.int v), .val (.int v), .val (.int b), .val (.int (0 : Int32)), .val (.int (0 : Int32)), .unset, .unset] [(.int (0 : Int32))])) ?_ (fun _ k_ => XT.iconstV X0.here hx rfl (0 : Int32) (hb hby at_42) (by decide) k_)
    refine Go.st (T' := s₁) (g' := (mkF m 45 #[.val (.int p1), .val (.int v), .val (.int v), .val (.int b), .val (.int (0 : Int32)), .val (.int (0 : Int32)), .val (.int (0 : Int32)), .unset] [])) ?_ (fun _ k_ => XS.istore X0.here hx rfl (hb hby at_43) rfl (l' := #[.val (.int p1), .val (.int v), .val (.int v), .val (.int b), .val (.int (0 : Int32)), .val (.int (0 : Int32)), .val (.int (0 : Int32)), .unset]) rfl k_)
    refine Go.st (T' := s₁) (g' := (mkF m 47 #[.val (.int p1), .val (.int v), .val (.int v), .val (.int b), .val (.int (0 : Int32)), .val (.int (0 : Int32)), .val (.int (0 : Int32)), .unset] [(.int (0 : Int32))])) ?_ (fun _ k_ => XS.iload X0.here hx rfl (hb hby at_45) rfl k_)
    refine Go.st (T' := s₁) (g' := (mkF m 50 #[.val (.int p1), .val (.int v), .val (.int v), .val (.int b), .val (.int (0 : Int32)), .val (.int (0 : Int32)), .val (.int (0 : Int32)), .unset] [])) ?_ (fun _ k_ => XS.ifNo X0.here hx rfl (hb hby at_47) rfl (by decide) k_)
    refine Go.st (T' := s₁) (g' := (mkF m 52 #[.val (.int p1), .val (.int v), .val (.int v), .val (.int b), .val (.int (0 : Int32)), .val (.int (0 : Int32)), .val (.int (0 : Int32)), .unset] [(.int (0 : Int32))])) ?_ (fun _ k_ => XS.iload X0.here hx rfl (hb hby at_50) rfl k_)
    refine Go.st (T' := s₁) (g' := (mkF m 55 #[.val (.int p1), .val (.int v), .val (.int v), .val (.int b), .val (.int (0 : Int32)), .val (.int (0 : Int32)), .val (.int (0 : Int32)), .unset] [])) ?_ (fun _ k_ => XS.ifNo X0.here hx rfl (hb hby at_52) rfl (by decide) k_)
    refine Go.st (T' := s₁) (g' := (mkF m 57 #[.val (.int p1), .val (.int v), .val (.int v), .val (.int b), .val (.int (0 : Int32)), .val (.int (0 : Int32)), .val (.int (0 : Int32)), .unset] [(.int (0 : Int32))])) ?_ (fun _ k_ => XS.iload X0.here hx rfl (hb hby at_55) rfl k_)
    refine Go.st (T' := s₁) (g' := (mkF m 64 #[.val (.int p1), .val (.int v), .val (.int v), .val (.int b), .val (.int (0 : Int32)), .val (.int (0 : Int32)), .val (.int (0 : Int32)), .unset] [])) ?_ (fun _ k_ => XS.ifYes X0.here hx rfl (pc0 := 57) (pc' := 64) rfl (hb hby at_57) rfl (by decide) (by decide) (by decide) k_)
    refine Go.st (T' := s₁) (g' := (mkF m 65 #[.val (.int p1), .val (.int v), .val (.int v), .val (.int b), .val (.int (0 : Int32)), .val (.int (0 : Int32)), .val (.int (0 : Int32)), .unset] [(.int (0 : Int32))])) ?_ (fun _ k_ => XT.iconstV X0.here hx rfl (0 : Int32) (hb hby at_64) (by decide) k_)
    refine Go.st (T' := s₁) (g' := (mkF m 67 #[.val (.int p1), .val (.int v), .val (.int v), .val (.int b), .val (.int (0 : Int32)), .val (.int (0 : Int32)), .val (.int (0 : Int32)), .val (.int (0 : Int32))] [])) ?_ (fun _ k_ => XS.istore X0.here hx rfl (hb hby at_65) rfl (l' := #[.val (.int p1), .val (.int v), .val (.int v), .val (.int b), .val (.int (0 : Int32)), .val (.int (0 : Int32)), .val (.int (0 : Int32)), .val (.int (0 : Int32))]) rfl k_)
    refine Go.st (T' := s₁) (g' := (mkF m 68 #[.val (.int p1), .val (.int v), .val (.int v), .val (.int b), .val (.int (0 : Int32)), .val (.int (0 : Int32)), .val (.int (0 : Int32)), .val (.int (0 : Int32))] [(.int v)])) ?_ (fun _ k_ => XS.iloadN X0.here hx rfl (hb hby at_67) rfl k_)
    refine Go.callS X0 hx hZ hown (hw _ (List.mem_of_getElem? (i := 0) rfl)) (hw _ (List.mem_of_getElem? (i := 1) rfl)) (hw _ (List.mem_of_getElem? (i := 2) rfl)) (hw _ (List.mem_of_getElem? (i := 3) rfl)) (by decide) (rm1 l Z a0 hw [] v  h0 n0 Z0 ) e0 (by decide) (W := 0) (by decide) (by decide) (by decide) (g := (mkF m 68 #[.val (.int p1), .val (.int v), .val (.int v), .val (.int b), .val (.int (0 : Int32)), .val (.int (0 : Int32)), .val (.int (0 : Int32)), .val (.int (0 : Int32))] [(.int v)])) (rest := []) rfl (by rw [hml]; rfl) (lenOf pd__C_Z rfl) rfl (by show 2 * 0 + _ ≤ _; exact Nat.le_of_eq rfl) (hb hby at_68) ?_
    rintro v5 T5 L5 X5 ⟨rfl, N5, e5⟩
    have M5 := Fr.app N0 N5
    rw [show own_ctl v  = (0 : Int32) from by rw [own_ctl, if_neg (own_i_nlt rfl (by decide : (32 : Int32).toInt = 32) (by omega) : ¬ v < (32 : Int32)), if_neg (own_i_nlt rfl (by decide : (127 : Int32).toInt = 127) (by omega) : ¬ v < (127 : Int32)), if_pos (own_i_lt (by decide : (159 : Int32).toInt = 159) rfl (by omega) : (159 : Int32) < v)]]
    show Go p e below _ T5 (mkF m 71 #[.val (.int p1), .val (.int v), .val (.int v), .val (.int b), .val (.int (0 : Int32)), .val (.int (0 : Int32)), .val (.int (0 : Int32)), .val (.int (0 : Int32))] [(.int (0 : Int32))])
    refine Go.st (T' := T5) (g' := (mkF m 73 #[.val (.int p1), .val (.int v), .val (.int v), .val (.int b), .val (.int (0 : Int32)), .val (.int (0 : Int32)), .val (.int (0 : Int32)), .val (.int (0 : Int32))] [(.int (0 : Int32)), (.int (0 : Int32))])) ?_ (fun _ k_ => XS.iload X5.here hx rfl (hb hby at_71) rfl k_)
    refine Go.st (T' := T5) (g' := (mkF m 76 #[.val (.int p1), .val (.int v), .val (.int v), .val (.int b), .val (.int (0 : Int32)), .val (.int (0 : Int32)), .val (.int (0 : Int32)), .val (.int (0 : Int32))] [])) ?_ (fun _ k_ => XS.icmpNo X5.here hx rfl (hb hby at_73) rfl (by decide) k_)
    refine Go.st (T' := T5) (g' := (mkF m 77 #[.val (.int p1), .val (.int v), .val (.int v), .val (.int b), .val (.int (0 : Int32)), .val (.int (0 : Int32)), .val (.int (0 : Int32)), .val (.int (0 : Int32))] [(.int (1 : Int32))])) ?_ (fun _ k_ => XT.iconstV X5.here hx rfl (1 : Int32) (hb hby at_76) (by decide) k_)
    refine Go.st (T' := T5) (g' := (mkF m 81 #[.val (.int p1), .val (.int v), .val (.int v), .val (.int b), .val (.int (0 : Int32)), .val (.int (0 : Int32)), .val (.int (0 : Int32)), .val (.int (0 : Int32))] [(.int (1 : Int32))])) ?_ (fun _ k_ => XS.goto X5.here hx rfl (pc0 := 77) (pc' := 81) rfl (hb hby at_77) (by decide) (by decide) k_)
    exact Go.retV (t := .boolean) X5 hx hret hlk (by decide) (by decide) rfl (Or.inl ⟨rfl, Or.inr (Or.inl rfl), _, rfl⟩) (hb hby at_81) ⟨rfl, M5⟩
set_option maxRecDepth 65536 in
set_option maxHeartbeats 40000000 in
theorem comes_1 {Post : Tables → Env → Array Value → State → Outcome → State → Prop} (hpost : ∀ tb e args s v u, (limb_1_1.after args s (.returned v) u = true ∧ limb_1_2.after args s (.returned v) u = true ∧ True) → FrameEnd s (.returned v) u (Jvm.fieldLocs frame_1_writes args s ++ Jvm.arrayLocs frame_1_arrays args s ++ Jvm.staticLocs frame_1_statics s) 0 0 → Post tb e args s (.returned v) u) :
    ArmFor flags0 classFile x code maxLocals ret World_1 tables_1 room_1 Calls_1 rest_1 Pre_1 Post := by
  intro l hfl _ _ p e ha hc hk s m args below hf hA hF happ hP
  obtain ⟨hcalls, hrest, hpre⟩ := hP
  obtain ⟨-, -, -, hnamed, -, -, -, hat⟩ := (Spec.applies_iff hf).mp happ
  obtain ⟨hg, hn⟩ := and_e (Cond.before_iff.mp (show (Jvm.Cond.and given_1 narrow_1).before args s = true from hpre))
  obtain ⟨g0, hg⟩ := and_e hg
  obtain ⟨w0, rfl⟩ : ∃ w0 : Value, args = #[w0] := by
    have hs : args.size = 1 := by simpa [Cond.value, given_1] using g0
    obtain ⟨L⟩ := args
    match L, hs with
    | [w0], _ => exact ⟨w0, rfl⟩
  have hw := fun d (hd : d ∈ tables_1) => atoms_spec (ws := Jvm.Cond.code x code maxLocals ret :: tables_1) hat d (List.mem_cons_of_mem _ hd)
  obtain ⟨i0, ei0⟩ := is_v hg
  obtain rfl : w0 = (.int i0) := Option.some.inj ei0
  obtain ⟨n, o, h1, h2, h3, _, L, rfl, ⟨rfl, N⟩, hq⟩ := rm0 l s _ hw tables_1 i0 s.heap s.heap.size (Nat.le_refl _)  p e ha hc hk s m _ below hf ((Spec.applies_iff_loose hf).mp happ).1 ⟨rfl, State.Warmed39.refl s, rfl⟩ trivial
  refine ⟨n, _, h1, h2, h3, hpost _ _ _ _ _ _ ⟨Cond.after_iff.mpr rfl, Cond.after_iff.mpr (eq_i res_at (Term.int_eval (1)) rfl), trivial⟩ ⟨hq.1, hq.2.1, (hq.2.2.sift fun y hy => Or.inr (N y hy)).mono (by decide) (by decide)⟩⟩
theorem main_1_1 : Claimed_1_1 := comes_1 fun _ _ _ _ _ _ h hF => ⟨h.1, hF⟩
theorem main_1_2 : Claimed_1_2 := comes_1 fun _ _ _ _ _ _ h hF => ⟨h.2.1, hF⟩
end Jvm.Pilot.@@N@@
namespace Jvm.Pilot.@@N@@
open Jvm Jvm.ClassFile Sem Op Lib Jvm.Free Jvm.Stand Jvm.Pilot.@@N@@.Jvm.D
/-! MADE BY PROGRAM (witnessworld.py) out of the Statement's table words and the real class files: 9 classes; the members and pool entries that the words name. The judged class is class 1, her method 1. -/
namespace start1
open Jvm.ClassFile
def u (s : String) : CpInfo := .utf8 (stringToUtf16 s)
/-- a pool by its gaps: so many unusable entries, then the entry; so many at the end -/
def gap : Nat → List CpInfo → List CpInfo
  | 0, r => r
  | n + 1, r => .unusable :: gap n r
def poolList (es : List (Nat × CpInfo)) (last : Nat) : List CpInfo := es.foldr (fun e r => gap e.1 (e.2 :: r)) (gap last [])
def pool (es : List (Nat × CpInfo)) (last : Nat) : Array CpInfo := ⟨poolList es last⟩
def fileOf (pool : Array CpInfo) (this : Nat) (attrs : Array Attribute := #[]) (ms : Array MethodInfo := #[]) (fl : Nat := 33) (sup : Nat := 0) (ifs : Array Nat := #[]) (fds : Array FieldInfo := #[]) : ClassFile where
  minorVersion := 0
  majorVersion := 65
  constantPool := pool
  accessFlags := fl
  thisClass := this
  superClass := sup
  interfaces := ifs
  fields := fds
  methods := ms
  attributes := attrs
def plain (name : String) (sup : Option ClassId) : Class where
  name := name
  kind := .ordinary
  loader := none
  accessFlags := 33
  super := sup
  interfaces := #[]
  cf := none
  fields := #[]
  methods := #[]
  instanceTypes := #[]
  staticTypes := #[]
  resolved := #[]
  callSites := []
  init := .initialized
  statics := none
  mirror := none

def pool0 : Array CpInfo := pool [(5, u "<init>"), (0, u "()V"), (1, .class_ 10), (1, u "java/lang/Object")] 113

def k0m0 : Method := { name := "<init>", desc := "()V", sig := { parameters := [], returnType := none }, accessFlags := 1, code := none }
/-- java/lang/Object -/
def k0 : Class := { plain "java/lang/Object" none with
  accessFlags := 33
  interfaces := #[]
  cf := some (fileOf pool0 8 #[] #[{ accessFlags := 1, nameIndex := 5, descriptorIndex := 6, attributes := #[] }] 33 0 #[] #[])
  fields := #[]
  methods := #[k0m0]
  instanceTypes := #[]
  staticTypes := #[]
  resolved := Array.replicate 124 none
  statics := none }

def pool1 : Array CpInfo := pool [(2, .class_ 4), (1, u "java/lang/Object"), (0, u "<init>"), (0, u "()V"), (0, .methodref 8 9), (0, .class_ 10), (0, .nameAndType 11 12), (0, u "com/example/lean_grant/leangrant/jsonlines/ControlCharacters"), (0, u "isControl"), (0, u "(C)Z"), (0, .class_ 14), (0, u "com/example/lean_grant/leangrant/jsonlines/ControlCharactersIsControlPinLaw"), (2, u "law"), (0, u "(I)Z")] 3

def k1m0 : Method := { name := "<init>", desc := "()V", sig := { parameters := [], returnType := none }, accessFlags := 2, code := none }
def k1c1 : Code := { maxStack := 2, maxLocals := 8, code := code, exceptionTable := #[], attributes := #[] }
def k1m1 : Method := { name := "law", desc := "(I)Z", sig := { parameters := [.int], returnType := some .boolean }, accessFlags := 9, code := some k1c1 }
/-- com/example/lean_grant/leangrant/jsonlines/ControlCharactersIsControlPinLaw -/
def k1 : Class := { plain "com/example/lean_grant/leangrant/jsonlines/ControlCharactersIsControlPinLaw" (some 0) with
  accessFlags := 49
  interfaces := #[]
  cf := some (fileOf pool1 13 #[] #[{ accessFlags := 2, nameIndex := 5, descriptorIndex := 6, attributes := #[] }, { accessFlags := 9, nameIndex := 17, descriptorIndex := 18, attributes := #[] }] 49 2 #[] #[])
  fields := #[]
  methods := #[k1m0, k1m1]
  instanceTypes := #[]
  staticTypes := #[]
  resolved := Array.replicate 22 none
  statics := none }

def pool2 : Array CpInfo := pool [(2, .class_ 4), (1, u "java/lang/Object"), (0, u "<init>"), (0, u "()V"), (16, .class_ 25), (1, u "com/example/lean_grant/leangrant/jsonlines/ControlCharacters"), (0, u "isControl"), (0, u "(C)Z")] 30

def k2m0 : Method := { name := "<init>", desc := "()V", sig := { parameters := [], returnType := none }, accessFlags := 2, code := none }
def k2c1 : Code := { maxStack := 2, maxLocals := 1, code := prog_22_method_2_code, exceptionTable := #[], attributes := #[] }
def k2m1 : Method := { name := "isControl", desc := "(C)Z", sig := { parameters := [.char], returnType := some .boolean }, accessFlags := 9, code := some k2c1 }
/-- com/example/lean_grant/leangrant/jsonlines/ControlCharacters -/
def k2 : Class := { plain "com/example/lean_grant/leangrant/jsonlines/ControlCharacters" (some 0) with
  accessFlags := 49
  interfaces := #[]
  cf := some (fileOf pool2 23 #[] #[{ accessFlags := 2, nameIndex := 5, descriptorIndex := 6, attributes := #[] }, { accessFlags := 9, nameIndex := 26, descriptorIndex := 27, attributes := #[] }] 49 2 #[] #[])
  fields := #[]
  methods := #[k2m0, k2m1]
  instanceTypes := #[]
  staticTypes := #[]
  resolved := Array.replicate 58 none
  statics := none }

def pool3 : Array CpInfo := pool [(1, u "java/lang/Cloneable"), (0, .class_ 1), (0, u "java/lang/Object"), (0, .class_ 3)] 3

/-- java/lang/Cloneable -/
def k3 : Class := { plain "java/lang/Cloneable" (some 0) with
  accessFlags := 1537
  interfaces := #[]
  cf := some (fileOf pool3 2 #[] #[] 1537 4 #[] #[])
  fields := #[]
  methods := #[]
  instanceTypes := #[]
  staticTypes := #[]
  resolved := Array.replicate 8 none
  statics := none }

def pool4 : Array CpInfo := pool [(1, u "java/io/Serializable"), (0, .class_ 1), (0, u "java/lang/Object"), (0, .class_ 3)] 3

/-- java/io/Serializable -/
def k4 : Class := { plain "java/io/Serializable" (some 0) with
  accessFlags := 1537
  interfaces := #[]
  cf := some (fileOf pool4 2 #[] #[] 1537 4 #[] #[])
  fields := #[]
  methods := #[]
  instanceTypes := #[]
  staticTypes := #[]
  resolved := Array.replicate 8 none
  statics := none }

/-- the primitive byte -/
def k5 : Class := { plain "byte" none with kind := .primitive 'B', accessFlags := 0x411 }
/-- [B -/
def k6 : Class := { plain "[B" (some 0) with kind := .array 5 .byte, interfaces := #[3, 4], accessFlags := 1041 }

/-- the primitive int -/
def k7 : Class := { plain "int" none with kind := .primitive 'I', accessFlags := 0x411 }
/-- [I -/
def k8 : Class := { plain "[I" (some 0) with kind := .array 7 .int, interfaces := #[3, 4], accessFlags := 1041 }

def heap : Heap := #[]
def classes : Array Class := #[k0, k1, k2, k3, k4, k5, k6, k7, k8]
def interned : List (Array UInt16 × Addr) := []
def slotsUsed : Nat := 0
def theMethod : MethodId := ⟨1, 1⟩
def args0 : Array Value := #[.int 5]
def aboutOver (below : List Frame) : State where
  vm := { classes := classes, interned := interned.toArray }
  heap := heap
  slotsUsed := slotsUsed
  threads := #[{ frames := .invoking theMethod args0 :: below }]
def below0 : List Frame := [.native { method := ⟨0, 0⟩, args := #[] }]
def about1 : State := aboutOver below0
def p0 : Program := .bare "" "" ""
def e0 : Env := launch0.env 0 0 0
theorem w_frames : about1.frames = Frame.invoking theMethod args0 :: below0 := rfl
set_option maxRecDepth 65536 in
theorem w_args : argsFit about1.vm theMethod args0 = true := by decide +kernel
set_option maxRecDepth 65536 in
theorem w_heap : heapFits about1 = true := by decide +kernel
set_option maxRecDepth 65536 in
theorem w_runnable : about1.curStatus? = some .runnable := by decide +kernel
set_option maxRecDepth 65536 in
theorem w_alone : about1.alone = true := by decide +kernel
set_option maxRecDepth 65536 in
theorem w_named : about1.methodNamed? x = some theMethod := by decide +kernel
set_option maxRecDepth 65536 in
theorem w_hears : about1.hears theMethod below0 = true := by decide +kernel
set_option maxRecDepth 65536 in
theorem w_ripe : about1.ripe theMethod args0 below0 = true := by decide +kernel
theorem w_running : about1.status = .running := rfl
set_option maxRecDepth 65536 in
theorem w_room : about1.hasRoom e0.platform room_1 = true :=
  launch0.hasRoom_least _ room_1 (by decide +kernel) (by decide +kernel) (by decide +kernel) (by decide +kernel) (by decide +kernel) (by decide +kernel)
theorem allAtoms_all (ts : List Jvm.Cond) (a : Array Jvm.Value) (st : Jvm.State) : (allAtoms ts).before a st = ts.all (fun c => c.before a st) := by
  induction ts with
  | nil => rfl
  | cons c t ih =>
    show (Jvm.Cond.and c (allAtoms t)).before a st = _
    rw [Jvm.Cond.before_and, ih, List.all_cons]
def words1 : List Jvm.Cond := Jvm.Cond.code x code maxLocals ret :: tables_1
/-- a 'code' word, met by the world's own term for the bytes: nothing is compared byte by byte -/
theorem code_word {y : MethodName} {bytes : ByteArray} {mx : Nat} {rt : Option FieldType} {a : Array Value} {s : State} {m : MethodId} {meth : Method} {c : Code} (h1 : s.methodNamed? y = some m) (h2 : s.vm.method? m = some meth) (h3 : meth.code = some c) (h4 : c.code = bytes)
    (h5 : (c.maxLocals == mx && c.exceptionTable.isEmpty && decide (c.maxStack ≤ mostOperands) && decide (meth.sig.returnType = rt) && !meth.locks && decide (parseMethodDescriptor y.desc = some meth.sig)) = true) : (Jvm.Cond.code y bytes mx rt).before a s = true := by
  simp only [Bool.and_eq_true, beq_iff_eq, Bool.not_eq_true', decide_eq_true_eq] at h5
  obtain ⟨⟨⟨⟨⟨g1, g2⟩, g3⟩, g4⟩, g5⟩, g6⟩ := h5
  simp [Cond.before, Cond.holds, Cond.value, h1, h2, h3, h4, g1, g2, g3, g4, g5, g6]
def isCode : Jvm.Cond → Bool
  | .code _ _ _ _ => true
  | _ => false
theorem all_split {L : List Jvm.Cond} {P : Jvm.Cond → Bool} (h1 : L.all (fun c => isCode c || P c) = true) (h2 : ∀ c ∈ L.filter isCode, P c = true) : L.all P = true := by
  refine List.all_eq_true.mpr fun c hc => ?_
  have h := List.all_eq_true.mp h1 c hc
  rcases Bool.eq_false_or_eq_true (isCode c) with hi | hi
  · exact h2 c (List.mem_filter.mpr ⟨hc, hi⟩)
  · simpa [hi] using h
set_option maxRecDepth 65536 in
theorem w_c0 : (Jvm.Cond.code x code maxLocals ret).before args0 about1 = true := code_word (m := ⟨1, 1⟩) (meth := k1m1) (c := k1c1) (by decide +kernel) rfl rfl rfl (by decide +kernel)
set_option maxRecDepth 65536 in
theorem w_c1 : (Jvm.Cond.code ({ cls := "com/example/lean_grant/leangrant/jsonlines/ControlCharacters", name := "isControl", desc := "(C)Z" } : Jvm.MethodName) prog_22_method_2_code (1 : Nat) (Option.some Jvm.ClassFile.FieldType.boolean)).before args0 about1 = true := code_word (m := ⟨2, 1⟩) (meth := k2m1) (c := k2c1) (by decide +kernel) rfl rfl rfl (by decide +kernel)
def codes1 : List Jvm.Cond := [Jvm.Cond.code x code maxLocals ret, Jvm.Cond.code ({ cls := "com/example/lean_grant/leangrant/jsonlines/ControlCharacters", name := "isControl", desc := "(C)Z" } : Jvm.MethodName) prog_22_method_2_code (1 : Nat) (Option.some Jvm.ClassFile.FieldType.boolean)]
set_option maxRecDepth 65536 in
theorem codes_eq : words1.filter isCode = codes1 := rfl
theorem w_codes : ∀ c ∈ words1.filter isCode, c.before args0 about1 = true := by
  rw [codes_eq]
  intro c hc
  simp only [codes1, List.mem_cons, List.not_mem_nil, or_false] at hc
  rcases hc with rfl | rfl
  · exact w_c0
  · exact w_c1
set_option maxRecDepth 65536 in
theorem w_t1 : words1.all (fun c => isCode c || c.before args0 about1) = true := by decide +kernel
theorem w_tables : (allAtoms (Jvm.Cond.code x code maxLocals ret :: tables_1)).before args0 about1 = true := by
  rw [allAtoms_all]
  show words1.all (fun c => c.before args0 about1) = true
  refine all_split ?_ w_codes
  rw [w_t1]
set_option maxRecDepth 65536 in
theorem w_case : (Jvm.Cond.and given_1 narrow_1).before args0 about1 = true := by decide +kernel
theorem w_applies : (headSpec (Jvm.Cond.code x code maxLocals ret :: tables_1) room_1).applies x e0.platform about1 = true :=
  (Spec.applies_iff w_frames).mpr ⟨w_running, w_runnable, w_alone, w_named, w_hears, w_ripe, w_room, w_tables⟩
theorem atStart : AtStart classFile x code maxLocals ret World_1 tables_1 room_1 Calls_1 rest_1 Pre_1 launch0 p0 e0 about1 theMethod args0 below0 :=
  ⟨lists_1, trivial, launch0.admits_env _ _ _, launch0.least_env, fairChoices_fair.cas, fairChoices_fair.clock, w_frames, w_args, w_heap, w_applies, trivial, trivial, w_case⟩
end start1
theorem witness_1 : WitnessClaimed_1 := ⟨start1.p0, start1.e0, start1.about1, start1.theMethod, start1.args0, start1.below0, start1.atStart⟩
end Jvm.Pilot.@@N@@
