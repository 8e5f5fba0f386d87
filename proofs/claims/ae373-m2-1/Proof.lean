import JvmDerived
import JvmDerived.Pilot.@@N@@Statement
import JvmDerived.Pilot.@@N@@Code
set_option linter.unusedVariables false
set_option linter.unusedSimpArgs false
namespace Jvm.Pilot.@@N@@
open Jvm Jvm.ClassFile Sem Op Lib Jvm.Free Jvm.Stand Jvm.LawKit Jvm.RoadKit Bundle Jvm.Pilot.@@N@@.Jvm.D
/-! own_: A WALK AS A CHAIN OF 'Go': from T, with the frame g on top, the run comes to a state of which P holds. A fork (by_cases, rcases) may stand anywhere in the chain. -/
def Go (p : Program) (e : Env) (below : List Frame) (P : State → Prop) (T : State) (g : JFrame) : Prop := ∃ t, Steps p.tables e below (T.setTop g) t ∧ P t
/-- what a body owes at its end -/
def EndP (below : List Frame) (s : State) (Q : Option Value → Heap → List Loc → Prop) (ce sl : Nat) (t : State) : Prop := ∃ o, t.status = .running ∧ Ended t below o ∧ ∃ v L, o = .returned v ∧ Q v t.heap L ∧ FrameEnd s o t L ce sl
/-- a method's contract: called with as' on the heap h0 it returns, and Q holds of what it returns, the heap that it leaves and the places that it wrote -/
abbrev Does (l : Launch) (y : MethodName) (bytes : ByteArray) (maxL : Nat) (rt : Option FieldType) (ws : List Jvm.Cond) (rm : Room) (as' : Array Value) (Z : State) (h0 : Heap) (Q : Option Value → Heap → List Loc → Prop) : Prop :=
  MetFree l y (head1 (Jvm.Cond.code y bytes maxL rt :: ws) rm) (fun a U => a = as' ∧ Z.Warmed39 U.vm ∧ U.heap = h0) (fun _ _ _ _ _ => True) (fun _ U o U' => ∃ v L, o = .returned v ∧ Q v U'.heap L ∧ FrameEnd U o U' L rm.cells rm.slots)
section Own
variable {p : Program} {l : Launch} {e : Env} {R : Room} {s : State} {m : MethodId} {args : Array Value} {below : List Frame} {meth : Method} {c : Code} {T T' : State} {locs : List Loc} {cells slots : Nat} {P : State → Prop} {g g' : JFrame} {Z : State} {h h0 : Heap} {a0 as' : Array Value} {own : String} {index : Nat} {y z : MethodName} {bytes : ByteArray} {maxL : Nat} {rt : Option FieldType} {rm : Room} {ws : List Jvm.Cond} {Q : Option Value → Heap → List Loc → Prop} {ce sl W : Nat} {argsL rest : List Value}
theorem Go.st (hh : Go p e below P T' g') (st : ∀ t, Steps p.tables e below (T'.setTop g') t → Steps p.tables e below (T.setTop g) t) : Go p e below P T g := by
  obtain ⟨t, h1, h2⟩ := hh
  exact ⟨t, st t h1, h2⟩
theorem Go.cast (q : g = g') (hh : Go p e below P T g') : Go p e below P T g := q ▸ hh
theorem Go.ret {v : Option Value} (X : Stand p l e R s m args below meth c T locs cells slots) (hv : meth.sig.returnType = none → v = none) (hlocks : meth.locks = false) (hc : cells ≤ ce) (hs : slots ≤ sl) (hq : Q v T.heap locs)
    (st : ∀ fs, (∀ (f : JFrame) (acts : List Action), f.method = m → f.locked = none → f.entered = [] → (doReturn e (T.setTop f) acts v).1 = T.setFrames fs) → Steps p.tables e below (T.setTop g) (T.setFrames fs)) : Go p e below (EndP below s Q ce sl) T g := by
  obtain ⟨fs, hr, hrun, hended, hW, hsame⟩ := X.leave (v := v) hv hlocks
  exact ⟨_, st fs hr, _, hrun, hended, _, _, rfl, hq, ⟨_, rfl⟩, hW, hsame.mono hc hs⟩
/-- a value is returned -/
theorem Go.retV {w : Value} {t : FieldType} {i : Instr} {pc : Nat} {Ls : Array Slot} (X : Stand p l e R s m args below meth c T locs cells slots) (hx : p.tables.exec = Jvm.exec) (hret : meth.sig.returnType = some t) (hlocks : meth.locks = false) (hc : cells ≤ ce) (hs : slots ≤ sl) (hn : narrow t w = w)
    (hi : (i = .ireturn ∧ (t = .int ∨ t = .boolean ∨ t = .byte ∨ t = .char ∨ t = .short) ∧ ∃ z, w = .int z) ∨ (i = .lreturn ∧ t = .long ∧ ∃ z, w = .long z) ∨ (i = .dreturn ∧ t = .double ∧ ∃ z, w = .double z) ∨ (i = .freturn ∧ t = .float ∧ ∃ z, w = .float z) ∨ (i = .areturn ∧ t.isReference = true ∧ w.isRef = true))
    (hd : decode c.code pc = .ok (i, 1)) (hq : Q (some w) T.heap locs) : Go p e below (EndP below s Q ce sl) T (mkF m pc Ls (w :: rest)) :=
  Go.ret X (fun q => by rw [hret] at q; cases q) hlocks hc hs hq fun _ hr => retOut X hx hret hn hi hd hr
/-- nothing is returned -/
theorem Go.retU {pc : Nat} {Ls : Array Slot} (X : Stand p l e R s m args below meth c T locs cells slots) (hx : p.tables.exec = Jvm.exec) (hret : meth.sig.returnType = none) (hlocks : meth.locks = false) (hc : cells ≤ ce) (hs : slots ≤ sl)
    (hd : decode c.code pc = .ok (.return_, 1)) (hq : Q none T.heap locs) : Go p e below (EndP below s Q ce sl) T (mkF m pc Ls []) :=
  Go.ret X (fun _ => rfl) hlocks hc hs hq fun _ hr => X.returnOut hx hret hd hr
/-- a body that goes well has its contract -/
theorem Does.of (hp : plainFor y = true) (body : ∀ (p : Program) (e : Env) (s : State) (m : MethodId) (below : List Frame) (meth : Method) (c : Code) (s₁ : State), p.tables.exec = Jvm.exec → c.code = bytes → c.maxLocals = maxL → meth.sig.returnType = rt → meth.locks = false → s.vm.findClass y.cls = some m.cls → meth.name = y.name → Z.Warmed39 s.vm →
      Stand p l e rm s m as' below meth c s₁ [] 0 0 → s₁.heap = h0 → Go p e below (EndP below s Q rm.cells rm.slots) s₁ (entryFrame m as' maxL)) : Does l y bytes maxL rt ws rm as' Z h0 Q := by
  refine MetFree.of_bodySF hp hisR ?_
  intro p e s m args below meth c s₁ Bd hml0 hP hK
  obtain ⟨rfl, hZ, hh⟩ := hP
  obtain ⟨t, h1, o, h2, h3, h4⟩ := body p e s m below meth c s₁ Bd.exec Bd.bytes hml0 Bd.returns Bd.notSynchronized (findClass_of_methodNamed Bd.named) (name_of_methodNamed Bd.named Bd.method).1 hZ (Stand.of_body Bd) (by rw [← hh, Bd.state]; rfl)
  exact ⟨t, o, h1, h2, h3, h4⟩
/-- a static call by the callee's contract -/
theorem Go.callS (X : Stand p l e R s m args below meth c T locs cells slots) (hx : p.tables.exec = Jvm.exec) (hZ : Z.Warmed39 s.vm) (hown : s.vm.findClass own = some m.cls) (w1 : (Jvm.Cond.methodLink own index y).before a0 Z = true) (w2 : (Jvm.Cond.static y).before a0 Z = true) (w3 : (Jvm.Cond.initialized y.cls).before a0 Z = true) (w4 : (Jvm.Cond.code y bytes maxL rt).before a0 Z = true)
    (hy : y.cls ≠ "java/lang/invoke/MethodHandle" ∧ y.cls ≠ "java/lang/invoke/VarHandle") (D : Does l y bytes maxL rt [] rm argsL.toArray Z h Q) (eT : T.heap = h) (hf : rm.frames + 1 ≤ R.frames) (hl : W + (maxL + 11) + rm.locals ≤ R.locals) (hc : cells + rm.cells ≤ R.cells) (hs : slots + rm.slots ≤ R.slots)
    (hg : g.method = m) (hsize : g.locals.size = c.maxLocals) (hlen : ∀ sig, parseMethodDescriptor y.desc = some sig → argsL.length = sig.parameters.length) (hstack : g.stack = argsL.reverse ++ rest) (hW : 2 * g.monitorRoom + (rest.map fun v => v.category).sum ≤ W) (hdg : decode c.code g.pc = .ok (.invokestatic index, 3))
    (k : ∀ (v : Option Value) (T' : State) (L : List Loc), Stand p l e R s m args below meth c T' (locs ++ L) (cells + rm.cells) (slots + rm.slots) → Q v T'.heap L → Go p e below P T' { g with pc := g.pc + 3, stack := v.toList ++ rest }) : Go p e below P T g := by
  obtain ⟨v, _, ⟨T1, L1, k1, n1⟩, -, X1, ⟨Lc, hQ, l1, y1, z1⟩, st⟩ := Jvm.LawKit.callS X hx (y := y) hown (mvT hZ w1) (mvT hZ w2) (mvT hZ w3) (mvT hZ w4) hy (backOf (W := W) D hZ w4 w3 hf hl) (g := g) hg hsize (argsL := argsL) (rest := rest) hlen hstack hW hdg (fun _ _ => ⟨rfl, eT, hc, hs⟩)
  dsimp only [Pt.U, Pt.locs, Pt.cells, Pt.slots] at X1 l1 y1 z1 st hQ
  subst l1 y1 z1
  exact Go.st (k v T1 Lc X1 hQ) st
/-- a virtual call by the contract of the method that it selects -/
theorem Go.callV {C : String} {a : Addr} (X : Stand p l e R s m args below meth c T locs cells slots) (hx : p.tables.exec = Jvm.exec) (hZ : Z.Warmed39 s.vm) (hown : s.vm.findClass own = some m.cls) (w1 : (Jvm.Cond.methodLink own index y).before a0 Z = true) (w2 : (Jvm.Cond.declares y).before a0 Z = true) (w5 : (Jvm.Cond.selects C y y).before a0 Z = true) (w6 : (Jvm.Cond.instanceMethod y).before a0 Z = true) (w3 : (Jvm.Cond.initialized y.cls).before a0 Z = true) (w4 : (Jvm.Cond.code y bytes maxL rt).before a0 Z = true)
    (hy : y.cls ≠ "java/lang/invoke/MethodHandle" ∧ y.cls ≠ "java/lang/invoke/VarHandle") (A : Exa Z h a C) (D : Does l y bytes maxL rt [] rm (.ref a :: argsL).toArray Z h Q) (eT : T.heap = h) (hf : rm.frames + 1 ≤ R.frames) (hl : W + (maxL + 11) + rm.locals ≤ R.locals) (hc : cells + rm.cells ≤ R.cells) (hs : slots + rm.slots ≤ R.slots)
    (hg : g.method = m) (hsize : g.locals.size = c.maxLocals) (hlen : ∀ sig, parseMethodDescriptor y.desc = some sig → argsL.length = sig.parameters.length) (hstack : g.stack = argsL.reverse ++ .ref a :: rest) (hW : 2 * g.monitorRoom + (rest.map fun v => v.category).sum ≤ W) (hdg : decode c.code g.pc = .ok (.invokevirtual index, 3))
    (k : ∀ (v : Option Value) (T' : State) (L : List Loc), Stand p l e R s m args below meth c T' (locs ++ L) (cells + rm.cells) (slots + rm.slots) → Q v T'.heap L → Go p e below P T' { g with pc := g.pc + 3, stack := v.toList ++ rest }) : Go p e below P T g := by
  obtain ⟨cq, kq, qa, qb, qc⟩ := isOf hZ eT A
  obtain ⟨v, _, ⟨T1, L1, k1, n1⟩, -, X1, ⟨Lc, hQ, l1, y1, z1⟩, st⟩ := X.virtualBack hx (y := y) (z := y) hown (mvT hZ w1) (mvT hZ w2) (notFace_of_selects (args := #[]) (mvT hZ w5)) (mvT hZ w5) (mvT hZ w6) hy (backOf (W := W) D hZ w4 w3 hf hl) qa qc (g := g) hg hsize (Steps.refl _) (argsL := argsL) (rest := rest) hlen hstack hW hdg (fun _ _ => ⟨rfl, eT, hc, hs⟩)
  dsimp only [Pt.U, Pt.locs, Pt.cells, Pt.slots] at X1 l1 y1 z1 st hQ
  subst l1 y1 z1
  exact Go.st (k v T1 Lc X1 hQ) fun _ q => st.trans q
/-- a constructor by its contract -/
theorem Go.callI {a : Addr} (X : Stand p l e R s m args below meth c T locs cells slots) (hx : p.tables.exec = Jvm.exec) (hZ : Z.Warmed39 s.vm) (hown : s.vm.findClass own = some m.cls) (hin : y.name = "<init>") (w1 : (Jvm.Cond.methodLink own index y).before a0 Z = true) (w6 : (Jvm.Cond.instanceMethod y).before a0 Z = true) (w3 : (Jvm.Cond.initialized y.cls).before a0 Z = true) (w4 : (Jvm.Cond.code y bytes maxL none).before a0 Z = true)
    (hy : y.cls ≠ "java/lang/invoke/MethodHandle" ∧ y.cls ≠ "java/lang/invoke/VarHandle") (D : Does l y bytes maxL none [] rm (.ref a :: argsL).toArray Z h Q) (eT : T.heap = h) (hf : rm.frames + 1 ≤ R.frames) (hl : W + (maxL + 11) + rm.locals ≤ R.locals) (hc : cells + rm.cells ≤ R.cells) (hs : slots + rm.slots ≤ R.slots)
    (hg : g.method = m) (hsize : g.locals.size = c.maxLocals) (hlen : ∀ sig, parseMethodDescriptor y.desc = some sig → argsL.length = sig.parameters.length) (hstack : g.stack = argsL.reverse ++ .ref a :: rest) (hW : 2 * g.monitorRoom + (rest.map fun v => v.category).sum ≤ W) (hdg : decode c.code g.pc = .ok (.invokespecial index, 3))
    (k : ∀ (v : Option Value) (T' : State) (L : List Loc), Stand p l e R s m args below meth c T' (locs ++ L) (cells + rm.cells) (slots + rm.slots) → Q v T'.heap L → Go p e below P T' { g with pc := g.pc + 3, stack := v.toList ++ rest }) : Go p e below P T g := by
  obtain ⟨v, _, ⟨T1, L1, k1, n1⟩, -, X1, ⟨Lc, hQ, l1, y1, z1⟩, st⟩ := X.specialBack hx (y := y) hin hown (mvT hZ w1) (mvT hZ w6) (mvT hZ w4) hy (backOf (W := W) D hZ w4 w3 hf hl) (g := g) hg hsize (Steps.refl _) (a := a) (argsL := argsL) (rest := rest) hlen hstack hW hdg (fun _ _ => ⟨rfl, eT, hc, hs⟩)
  dsimp only [Pt.U, Pt.locs, Pt.cells, Pt.slots] at X1 l1 y1 z1 st hQ
  subst l1 y1 z1
  exact Go.st (k v T1 Lc X1 hQ) fun _ q => st.trans q
end Own
theorem own_i_eq {x y : Int32} {a b : Int} (hx : x.toInt = a) (hy : y.toInt = b) (q : a = b) : x = y := Int32.toInt_inj.mp (by rw [hx, hy, q])
theorem own_i_neq {x y : Int32} {a b : Int} (hx : x.toInt = a) (hy : y.toInt = b) (q : ¬ a = b) : ¬ x = y := fun r => q (by rw [← hx, ← hy, r])
theorem own_i_lt {x y : Int32} {a b : Int} (hx : x.toInt = a) (hy : y.toInt = b) (q : a < b) : x < y := by rw [Int32.lt_iff_toInt_lt, hx, hy]; exact q
theorem own_i_nlt {x y : Int32} {a b : Int} (hx : x.toInt = a) (hy : y.toInt = b) (q : ¬ a < b) : ¬ x < y := by rw [Int32.lt_iff_toInt_lt, hx, hy]; exact q
theorem own_l_eq {x y : Int64} {a b : Int} (hx : x.toInt = a) (hy : y.toInt = b) (q : a = b) : x = y := Int64.toInt_inj.mp (by rw [hx, hy, q])
theorem own_l_neq {x y : Int64} {a b : Int} (hx : x.toInt = a) (hy : y.toInt = b) (q : ¬ a = b) : ¬ x = y := fun r => q (by rw [← hx, ← hy, r])
theorem own_l_lt {x y : Int64} {a b : Int} (hx : x.toInt = a) (hy : y.toInt = b) (q : a < b) : x < y := by rw [Int64.lt_iff_toInt_lt, hx, hy]; exact q
theorem own_l_nlt {x y : Int64} {a b : Int} (hx : x.toInt = a) (hy : y.toInt = b) (q : ¬ a < b) : ¬ x < y := by rw [Int64.lt_iff_toInt_lt, hx, hy]; exact q
/-- a number in a field, out of the case's words -/
theorem own_fldInt {args : Array Value} {s : State} {t : Term} {a : Addr} {C n d : String} {k : Int32} (ht : t.eval args s none [] s = some (.ref a)) (hh : (Jvm.Cond.eq (.field t C n d) (.int k)).value args s none s [] = some true) : Fld s s.heap a C n d (.int k) := by
  refine Fld.start ?_
  simp only [Jvm.Cond.value, fld_at ht, Term.int_eval] at hh
  cases hf : s.fieldOf? a C n d with
  | none => simp [hf] at hh
  | some v => cases v <;> simp_all
def own_bytes (p1 p2 p3 : Int32)  : Int64 := ((4 : Int64) * (((8 : Int64) * p1.toInt64) + (((4 : Int64) * p3.toInt64) * ((p3 + p2) - (1 : Int32)).toInt64)))
theorem d_prog_48_method_2_code_0 : decode prog_48_method_2_code 0 = .ok (.ldc2_w 30, 3) := by decide +kernel
theorem d_prog_48_method_2_code_3 : decode prog_48_method_2_code 3 = .ok (.ldc2_w 32, 3) := by decide +kernel
theorem d_prog_48_method_2_code_6 : decode prog_48_method_2_code 6 = .ok (.iload_n 0, 1) := by decide +kernel
theorem d_prog_48_method_2_code_7 : decode prog_48_method_2_code 7 = .ok (.i2l, 1) := by decide +kernel
theorem d_prog_48_method_2_code_8 : decode prog_48_method_2_code 8 = .ok (.lmul, 1) := by decide +kernel
theorem d_prog_48_method_2_code_9 : decode prog_48_method_2_code 9 = .ok (.ldc2_w 30, 3) := by decide +kernel
theorem d_prog_48_method_2_code_12 : decode prog_48_method_2_code 12 = .ok (.iload_n 2, 1) := by decide +kernel
theorem d_prog_48_method_2_code_13 : decode prog_48_method_2_code 13 = .ok (.i2l, 1) := by decide +kernel
theorem d_prog_48_method_2_code_14 : decode prog_48_method_2_code 14 = .ok (.lmul, 1) := by decide +kernel
theorem d_prog_48_method_2_code_15 : decode prog_48_method_2_code 15 = .ok (.iload_n 2, 1) := by decide +kernel
theorem d_prog_48_method_2_code_16 : decode prog_48_method_2_code 16 = .ok (.iload_n 1, 1) := by decide +kernel
theorem d_prog_48_method_2_code_17 : decode prog_48_method_2_code 17 = .ok (.iadd, 1) := by decide +kernel
theorem d_prog_48_method_2_code_18 : decode prog_48_method_2_code 18 = .ok (.iconst 1, 1) := by decide +kernel
theorem d_prog_48_method_2_code_19 : decode prog_48_method_2_code 19 = .ok (.isub, 1) := by decide +kernel
theorem d_prog_48_method_2_code_20 : decode prog_48_method_2_code 20 = .ok (.i2l, 1) := by decide +kernel
theorem d_prog_48_method_2_code_21 : decode prog_48_method_2_code 21 = .ok (.lmul, 1) := by decide +kernel
theorem d_prog_48_method_2_code_22 : decode prog_48_method_2_code 22 = .ok (.ladd, 1) := by decide +kernel
theorem d_prog_48_method_2_code_23 : decode prog_48_method_2_code 23 = .ok (.lmul, 1) := by decide +kernel
theorem d_prog_48_method_2_code_24 : decode prog_48_method_2_code 24 = .ok (.lreturn, 1) := by decide +kernel
theorem pn_com_example_slantwise_slantwise_engine_RecentCells : plainName "com/example/slantwise/slantwise/engine/RecentCells" = true := by first | (simp [plainName, overriddenIn]; done) | decide +kernel
set_option maxRecDepth 65536 in
set_option maxHeartbeats 40000000 in
theorem rm1 (l : Launch) (Z : State) (a0 : Array Value) (hw : ∀ d ∈ tables_1, d.before a0 Z = true) (ws : List Jvm.Cond) (p1 p2 p3 : Int32)  (h0 : Heap) (n0 : Nat) (Z0 : n0 ≤ h0.size)  :
    Does l (⟨"com/example/slantwise/slantwise/engine/RecentCells", "bytes", "(III)J"⟩ : MethodName) prog_48_method_2_code 3 (some .long) ws ({ frames := 0, cells := 0, slots := 0, locals := 0 } : Room) #[(.int p1), (.int p2), (.int p3)] Z h0 (fun v h L => v = some (.long (own_bytes p1 p2 p3 )) ∧ Fr n0 L ∧ h = h0) := by
  refine Does.of (plainFor_of_name pn_com_example_slantwise_slantwise_engine_RecentCells) ?_
  intro p e s m below meth c s₁ hx hby hml hret hlk hown0 hnm hZ X0 e0
  have hown : s.vm.findClass "com/example/slantwise/slantwise/engine/RecentCells" = some m.cls := hown0
  have N0 := Fr.nil n0
  refine Go.cast (g' := (mkF m 0 #[.val (.int p1), .val (.int p2), .val (.int p3)] [])) (by first | (simp [entryFrame, mkF, argsToLocals, Value.category, maxLocals]; done) | rfl) ?_
  refine Go.st (T' := s₁) (g' := (mkF m 3 #[.val (.int p1), .val (.int p2), .val (.int p3)] [(.long (4 : Int64))])) ?_ (fun _ k_ => X0.ldc2J hx hown (mvT hZ (hw _ (List.mem_of_getElem? (i := 6) rfl))) rfl (hb hby d_prog_48_method_2_code_0) k_)
  refine Go.st (T' := s₁) (g' := (mkF m 6 #[.val (.int p1), .val (.int p2), .val (.int p3)] [(.long (8 : Int64)), (.long (4 : Int64))])) ?_ (fun _ k_ => X0.ldc2J hx hown (mvT hZ (hw _ (List.mem_of_getElem? (i := 7) rfl))) rfl (hb hby d_prog_48_method_2_code_3) k_)
  refine Go.st (T' := s₁) (g' := (mkF m 7 #[.val (.int p1), .val (.int p2), .val (.int p3)] [(.int p1), (.long (8 : Int64)), (.long (4 : Int64))])) ?_ (fun _ k_ => XS.iloadN X0.here hx rfl (hb hby d_prog_48_method_2_code_6) rfl k_)
  refine Go.st (T' := s₁) (g' := (mkF m 8 #[.val (.int p1), .val (.int p2), .val (.int p3)] [(.long p1.toInt64), (.long (8 : Int64)), (.long (4 : Int64))])) ?_ (fun _ k_ => XT.i2l X0.here hx rfl (hb hby d_prog_48_method_2_code_7) rfl k_)
  refine Go.st (T' := s₁) (g' := (mkF m 9 #[.val (.int p1), .val (.int p2), .val (.int p3)] [(.long ((8 : Int64) * p1.toInt64)), (.long (4 : Int64))])) ?_ (fun _ k_ => XT.lmul X0.here hx rfl (hb hby d_prog_48_method_2_code_8) rfl k_)
  refine Go.st (T' := s₁) (g' := (mkF m 12 #[.val (.int p1), .val (.int p2), .val (.int p3)] [(.long (4 : Int64)), (.long ((8 : Int64) * p1.toInt64)), (.long (4 : Int64))])) ?_ (fun _ k_ => X0.ldc2J hx hown (mvT hZ (hw _ (List.mem_of_getElem? (i := 6) rfl))) rfl (hb hby d_prog_48_method_2_code_9) k_)
  refine Go.st (T' := s₁) (g' := (mkF m 13 #[.val (.int p1), .val (.int p2), .val (.int p3)] [(.int p3), (.long (4 : Int64)), (.long ((8 : Int64) * p1.toInt64)), (.long (4 : Int64))])) ?_ (fun _ k_ => XS.iloadN X0.here hx rfl (hb hby d_prog_48_method_2_code_12) rfl k_)
  refine Go.st (T' := s₁) (g' := (mkF m 14 #[.val (.int p1), .val (.int p2), .val (.int p3)] [(.long p3.toInt64), (.long (4 : Int64)), (.long ((8 : Int64) * p1.toInt64)), (.long (4 : Int64))])) ?_ (fun _ k_ => XT.i2l X0.here hx rfl (hb hby d_prog_48_method_2_code_13) rfl k_)
  refine Go.st (T' := s₁) (g' := (mkF m 15 #[.val (.int p1), .val (.int p2), .val (.int p3)] [(.long ((4 : Int64) * p3.toInt64)), (.long ((8 : Int64) * p1.toInt64)), (.long (4 : Int64))])) ?_ (fun _ k_ => XT.lmul X0.here hx rfl (hb hby d_prog_48_method_2_code_14) rfl k_)
  refine Go.st (T' := s₁) (g' := (mkF m 16 #[.val (.int p1), .val (.int p2), .val (.int p3)] [(.int p3), (.long ((4 : Int64) * p3.toInt64)), (.long ((8 : Int64) * p1.toInt64)), (.long (4 : Int64))])) ?_ (fun _ k_ => XS.iloadN X0.here hx rfl (hb hby d_prog_48_method_2_code_15) rfl k_)
  refine Go.st (T' := s₁) (g' := (mkF m 17 #[.val (.int p1), .val (.int p2), .val (.int p3)] [(.int p2), (.int p3), (.long ((4 : Int64) * p3.toInt64)), (.long ((8 : Int64) * p1.toInt64)), (.long (4 : Int64))])) ?_ (fun _ k_ => XS.iloadN X0.here hx rfl (hb hby d_prog_48_method_2_code_16) rfl k_)
  refine Go.st (T' := s₁) (g' := (mkF m 18 #[.val (.int p1), .val (.int p2), .val (.int p3)] [(.int (p3 + p2)), (.long ((4 : Int64) * p3.toInt64)), (.long ((8 : Int64) * p1.toInt64)), (.long (4 : Int64))])) ?_ (fun _ k_ => XS.iadd X0.here hx rfl (hb hby d_prog_48_method_2_code_17) rfl k_)
  refine Go.st (T' := s₁) (g' := (mkF m 19 #[.val (.int p1), .val (.int p2), .val (.int p3)] [(.int (1 : Int32)), (.int (p3 + p2)), (.long ((4 : Int64) * p3.toInt64)), (.long ((8 : Int64) * p1.toInt64)), (.long (4 : Int64))])) ?_ (fun _ k_ => XT.iconstV X0.here hx rfl (1 : Int32) (hb hby d_prog_48_method_2_code_18) (by decide) k_)
  refine Go.st (T' := s₁) (g' := (mkF m 20 #[.val (.int p1), .val (.int p2), .val (.int p3)] [(.int ((p3 + p2) - (1 : Int32))), (.long ((4 : Int64) * p3.toInt64)), (.long ((8 : Int64) * p1.toInt64)), (.long (4 : Int64))])) ?_ (fun _ k_ => XS.isub X0.here hx rfl (hb hby d_prog_48_method_2_code_19) rfl k_)
  refine Go.st (T' := s₁) (g' := (mkF m 21 #[.val (.int p1), .val (.int p2), .val (.int p3)] [(.long ((p3 + p2) - (1 : Int32)).toInt64), (.long ((4 : Int64) * p3.toInt64)), (.long ((8 : Int64) * p1.toInt64)), (.long (4 : Int64))])) ?_ (fun _ k_ => XT.i2l X0.here hx rfl (hb hby d_prog_48_method_2_code_20) rfl k_)
  refine Go.st (T' := s₁) (g' := (mkF m 22 #[.val (.int p1), .val (.int p2), .val (.int p3)] [(.long (((4 : Int64) * p3.toInt64) * ((p3 + p2) - (1 : Int32)).toInt64)), (.long ((8 : Int64) * p1.toInt64)), (.long (4 : Int64))])) ?_ (fun _ k_ => XT.lmul X0.here hx rfl (hb hby d_prog_48_method_2_code_21) rfl k_)
  refine Go.st (T' := s₁) (g' := (mkF m 23 #[.val (.int p1), .val (.int p2), .val (.int p3)] [(.long (((8 : Int64) * p1.toInt64) + (((4 : Int64) * p3.toInt64) * ((p3 + p2) - (1 : Int32)).toInt64))), (.long (4 : Int64))])) ?_ (fun _ k_ => XT.ladd X0.here hx rfl (hb hby d_prog_48_method_2_code_22) rfl k_)
  refine Go.st (T' := s₁) (g' := (mkF m 24 #[.val (.int p1), .val (.int p2), .val (.int p3)] [(.long ((4 : Int64) * (((8 : Int64) * p1.toInt64) + (((4 : Int64) * p3.toInt64) * ((p3 + p2) - (1 : Int32)).toInt64))))])) ?_ (fun _ k_ => XT.lmul X0.here hx rfl (hb hby d_prog_48_method_2_code_23) rfl k_)
  exact Go.retV (t := .long) X0 hx hret hlk (by decide) (by decide) rfl (Or.inr (Or.inl ⟨rfl, rfl, _, rfl⟩)) (hb hby d_prog_48_method_2_code_24) ⟨by rw [own_bytes], N0, e0⟩
theorem own_split (a r b : Int32) : own_bytes a r b = own_bytes a 1 0 + own_bytes 0 r b := by
  have e0 : (0 : Int32).toInt64 = 0 := by decide
  have e1 : ((0 : Int32) + 1 - 1).toInt64 = 0 := by decide
  simp only [own_bytes, e0, e1]
  generalize a.toInt64 = A; generalize b.toInt64 = B; generalize (b + r - 1).toInt64 = D
  grind
theorem own_per (a : Int32) : own_bytes a 1 0 = 32 * a.toInt64 := by
  have e0 : (0 : Int32).toInt64 = 0 := by decide
  have e1 : ((0 : Int32) + 1 - 1).toInt64 = 0 := by decide
  simp only [own_bytes, e0, e1]
  generalize a.toInt64 = A
  grind
theorem own_depth (b r : Int32) (h1 : 0 ≤ b.toInt) (h2 : b.toInt < 67108864) (h3 : 0 ≤ r.toInt) (h4 : r.toInt ≤ 67108864) : (b + r - 1).toInt64 = b.toInt64 + r.toInt64 - 1 := by
  apply Int64.toInt_inj.mp
  have a1 := c_iadd b r; have a2 := c_isub (b + r) 1; have a3 := rng32 (b + r); have a4 := rng32 (b + r - 1)
  have b1 := c_ladd b.toInt64 r.toInt64; have b2 := c_lsub (b.toInt64 + r.toInt64) 1; have b3 := rng64 (b.toInt64 + r.toInt64); have b4 := rng64 (b.toInt64 + r.toInt64 - 1)
  have e1 : (1 : Int32).toInt = 1 := by decide
  have e2 : (1 : Int64).toInt = 1 := by decide
  rw [e1] at a2; rw [e2] at b2
  have d1 := c_i2l (b + r - 1); have d2 := c_i2l b; have d3 := c_i2l r
  omega
theorem own_cell (b r : Int32) (h1 : 0 ≤ b.toInt) (h2 : b.toInt < 67108864) (h3 : 0 ≤ r.toInt) (h4 : r.toInt ≤ 67108864) : own_bytes 0 r b = 16 * (b.toInt64 * (b.toInt64 + r.toInt64 - 1)) := by
  have e0 : (0 : Int32).toInt64 = 0 := by decide
  simp only [own_bytes, e0, own_depth b r h1 h2 h3 h4]
  generalize b.toInt64 = B; generalize r.toInt64 = D
  grind
theorem pd__III_J : parseMethodDescriptor "(III)J" = some ⟨[.int, .int, .int], some .long⟩ := by decide +kernel
theorem pn_com_example_slantwise_slantwise_engine_RecentCellsBytesPinLaw : plainName "com/example/slantwise/slantwise/engine/RecentCellsBytesPinLaw" = true := by first | (simp [plainName, overriddenIn]; done) | decide +kernel
set_option maxRecDepth 65536 in
set_option maxHeartbeats 40000000 in
theorem rm0 (l : Launch) (Z : State) (a0 : Array Value) (hw : ∀ d ∈ tables_1, d.before a0 Z = true) (ws : List Jvm.Cond) (p1 p2 p3 : Int32) (h0 : Heap) (n0 : Nat) (Z0 : n0 ≤ h0.size)  :
    Does l x code maxLocals ret ws room_1 #[(.int p1), (.int p2), (.int p3)] Z h0 (fun v h L => v = some (.int 1) ∧ Fr n0 L) := by
  refine Does.of (plainFor_of_name pn_com_example_slantwise_slantwise_engine_RecentCellsBytesPinLaw) ?_
  intro p e s m below meth c s₁ hx hby hml hret hlk hown0 hnm hZ X0 e0
  have hown : s.vm.findClass "com/example/slantwise/slantwise/engine/RecentCellsBytesPinLaw" = some m.cls := hown0
  have N0 := Fr.nil n0
  refine Go.cast (g' := (mkF m 0 #[.val (.int p1), .val (.int p2), .val (.int p3), .unset, .unset, .unset, .unset, .unset, .unset, .unset, .unset, .unset, .unset, .unset, .unset, .unset, .unset, .unset, .unset] [])) (by first | (simp [entryFrame, mkF, argsToLocals, Value.category, maxLocals]; done) | rfl) ?_
  refine Go.st (T' := s₁) (g' := (mkF m 1 #[.val (.int p1), .val (.int p2), .val (.int p3), .unset, .unset, .unset, .unset, .unset, .unset, .unset, .unset, .unset, .unset, .unset, .unset, .unset, .unset, .unset, .unset] [(.int p1)])) ?_ (fun _ k_ => XS.iloadN X0.here hx rfl (hb hby at_0) rfl k_)
  refine Go.st (T' := s₁) (g' := (mkF m 3 #[.val (.int p1), .val (.int p2), .val (.int p3), .unset, .unset, .unset, .unset, .unset, .unset, .unset, .unset, .unset, .unset, .unset, .unset, .unset, .unset, .unset, .unset] [(.int (2147483647 : Int32)), (.int p1)])) ?_ (fun _ k_ => X0.ldcI hx hown (mvT hZ (hw _ (List.mem_of_getElem? (i := 0) rfl))) rfl (hb hby at_1) k_)
  refine Go.st (T' := s₁) (g' := (mkF m 4 #[.val (.int p1), .val (.int p2), .val (.int p3), .unset, .unset, .unset, .unset, .unset, .unset, .unset, .unset, .unset, .unset, .unset, .unset, .unset, .unset, .unset, .unset] [(.int (p1 &&& (2147483647 : Int32)))])) ?_ (fun _ k_ => XS.iand X0.here hx rfl (hb hby at_3) rfl k_)
  generalize (p1 &&& (2147483647 : Int32)) = a at *
  refine Go.st (T' := s₁) (g' := (mkF m 5 #[.val (.int p1), .val (.int p2), .val (.int p3), .val (.int a), .unset, .unset, .unset, .unset, .unset, .unset, .unset, .unset, .unset, .unset, .unset, .unset, .unset, .unset, .unset] [])) ?_ (fun _ k_ => XS.istoreN X0.here hx rfl (hb hby at_4) rfl (l' := #[.val (.int p1), .val (.int p2), .val (.int p3), .val (.int a), .unset, .unset, .unset, .unset, .unset, .unset, .unset, .unset, .unset, .unset, .unset, .unset, .unset, .unset, .unset]) rfl k_)
  refine Go.st (T' := s₁) (g' := (mkF m 6 #[.val (.int p1), .val (.int p2), .val (.int p3), .val (.int a), .unset, .unset, .unset, .unset, .unset, .unset, .unset, .unset, .unset, .unset, .unset, .unset, .unset, .unset, .unset] [(.int p2)])) ?_ (fun _ k_ => XS.iloadN X0.here hx rfl (hb hby at_5) rfl k_)
  refine Go.st (T' := s₁) (g' := (mkF m 8 #[.val (.int p1), .val (.int p2), .val (.int p3), .val (.int a), .unset, .unset, .unset, .unset, .unset, .unset, .unset, .unset, .unset, .unset, .unset, .unset, .unset, .unset, .unset] [(.int (67108863 : Int32)), (.int p2)])) ?_ (fun _ k_ => X0.ldcI hx hown (mvT hZ (hw _ (List.mem_of_getElem? (i := 1) rfl))) rfl (hb hby at_6) k_)
  refine Go.st (T' := s₁) (g' := (mkF m 9 #[.val (.int p1), .val (.int p2), .val (.int p3), .val (.int a), .unset, .unset, .unset, .unset, .unset, .unset, .unset, .unset, .unset, .unset, .unset, .unset, .unset, .unset, .unset] [(.int (p2 &&& (67108863 : Int32)))])) ?_ (fun _ k_ => XS.iand X0.here hx rfl (hb hby at_8) rfl k_)
  refine Go.st (T' := s₁) (g' := (mkF m 10 #[.val (.int p1), .val (.int p2), .val (.int p3), .val (.int a), .unset, .unset, .unset, .unset, .unset, .unset, .unset, .unset, .unset, .unset, .unset, .unset, .unset, .unset, .unset] [(.int (1 : Int32)), (.int (p2 &&& (67108863 : Int32)))])) ?_ (fun _ k_ => XT.iconstV X0.here hx rfl (1 : Int32) (hb hby at_9) (by decide) k_)
  refine Go.st (T' := s₁) (g' := (mkF m 11 #[.val (.int p1), .val (.int p2), .val (.int p3), .val (.int a), .unset, .unset, .unset, .unset, .unset, .unset, .unset, .unset, .unset, .unset, .unset, .unset, .unset, .unset, .unset] [(.int ((p2 &&& (67108863 : Int32)) + (1 : Int32)))])) ?_ (fun _ k_ => XS.iadd X0.here hx rfl (hb hby at_10) rfl k_)
  have m1 := c_mask p2 67108863 26 (by decide) (by decide)
  have m2 := c_iadd (p2 &&& (67108863 : Int32)) 1
  have m3 := rng32 ((p2 &&& (67108863 : Int32)) + 1)
  have m4 : (1 : Int32).toInt = 1 := by decide
  have m5 : 0 ≤ ((p2 &&& (67108863 : Int32)) + 1).toInt ∧ ((p2 &&& (67108863 : Int32)) + 1).toInt ≤ 67108864 := by omega
  generalize ((p2 &&& (67108863 : Int32)) + (1 : Int32)) = r at *
  refine Go.st (T' := s₁) (g' := (mkF m 13 #[.val (.int p1), .val (.int p2), .val (.int p3), .val (.int a), .val (.int r), .unset, .unset, .unset, .unset, .unset, .unset, .unset, .unset, .unset, .unset, .unset, .unset, .unset, .unset] [])) ?_ (fun _ k_ => XS.istore X0.here hx rfl (hb hby at_11) rfl (l' := #[.val (.int p1), .val (.int p2), .val (.int p3), .val (.int a), .val (.int r), .unset, .unset, .unset, .unset, .unset, .unset, .unset, .unset, .unset, .unset, .unset, .unset, .unset, .unset]) rfl k_)
  refine Go.st (T' := s₁) (g' := (mkF m 14 #[.val (.int p1), .val (.int p2), .val (.int p3), .val (.int a), .val (.int r), .unset, .unset, .unset, .unset, .unset, .unset, .unset, .unset, .unset, .unset, .unset, .unset, .unset, .unset] [(.int p3)])) ?_ (fun _ k_ => XS.iloadN X0.here hx rfl (hb hby at_13) rfl k_)
  refine Go.st (T' := s₁) (g' := (mkF m 16 #[.val (.int p1), .val (.int p2), .val (.int p3), .val (.int a), .val (.int r), .unset, .unset, .unset, .unset, .unset, .unset, .unset, .unset, .unset, .unset, .unset, .unset, .unset, .unset] [(.int (67108863 : Int32)), (.int p3)])) ?_ (fun _ k_ => X0.ldcI hx hown (mvT hZ (hw _ (List.mem_of_getElem? (i := 1) rfl))) rfl (hb hby at_14) k_)
  refine Go.st (T' := s₁) (g' := (mkF m 17 #[.val (.int p1), .val (.int p2), .val (.int p3), .val (.int a), .val (.int r), .unset, .unset, .unset, .unset, .unset, .unset, .unset, .unset, .unset, .unset, .unset, .unset, .unset, .unset] [(.int (p3 &&& (67108863 : Int32)))])) ?_ (fun _ k_ => XS.iand X0.here hx rfl (hb hby at_16) rfl k_)
  have k1 := c_mask p3 67108863 26 (by decide) (by decide)
  have k5 : 0 ≤ (p3 &&& (67108863 : Int32)).toInt ∧ (p3 &&& (67108863 : Int32)).toInt < 67108864 := by omega
  generalize (p3 &&& (67108863 : Int32)) = b at *
  refine Go.st (T' := s₁) (g' := (mkF m 19 #[.val (.int p1), .val (.int p2), .val (.int p3), .val (.int a), .val (.int r), .val (.int b), .unset, .unset, .unset, .unset, .unset, .unset, .unset, .unset, .unset, .unset, .unset, .unset, .unset] [])) ?_ (fun _ k_ => XS.istore X0.here hx rfl (hb hby at_17) rfl (l' := #[.val (.int p1), .val (.int p2), .val (.int p3), .val (.int a), .val (.int r), .val (.int b), .unset, .unset, .unset, .unset, .unset, .unset, .unset, .unset, .unset, .unset, .unset, .unset, .unset]) rfl k_)
  refine Go.st (T' := s₁) (g' := (mkF m 20 #[.val (.int p1), .val (.int p2), .val (.int p3), .val (.int a), .val (.int r), .val (.int b), .unset, .unset, .unset, .unset, .unset, .unset, .unset, .unset, .unset, .unset, .unset, .unset, .unset] [(.int a)])) ?_ (fun _ k_ => XS.iloadN X0.here hx rfl (hb hby at_19) rfl k_)
  refine Go.st (T' := s₁) (g' := (mkF m 22 #[.val (.int p1), .val (.int p2), .val (.int p3), .val (.int a), .val (.int r), .val (.int b), .unset, .unset, .unset, .unset, .unset, .unset, .unset, .unset, .unset, .unset, .unset, .unset, .unset] [(.int r), (.int a)])) ?_ (fun _ k_ => XS.iload X0.here hx rfl (hb hby at_20) rfl k_)
  refine Go.st (T' := s₁) (g' := (mkF m 24 #[.val (.int p1), .val (.int p2), .val (.int p3), .val (.int a), .val (.int r), .val (.int b), .unset, .unset, .unset, .unset, .unset, .unset, .unset, .unset, .unset, .unset, .unset, .unset, .unset] [(.int b), (.int r), (.int a)])) ?_ (fun _ k_ => XS.iload X0.here hx rfl (hb hby at_22) rfl k_)
  refine Go.callS X0 hx hZ hown (hw _ (List.mem_of_getElem? (i := 2) rfl)) (hw _ (List.mem_of_getElem? (i := 3) rfl)) (hw _ (List.mem_of_getElem? (i := 4) rfl)) (hw _ (List.mem_of_getElem? (i := 5) rfl)) (by decide) (rm1 l Z a0 hw [] a r b  h0 n0 Z0 ) e0 (by decide) (W := 0) (by decide) (by decide) (by decide) (g := (mkF m 24 #[.val (.int p1), .val (.int p2), .val (.int p3), .val (.int a), .val (.int r), .val (.int b), .unset, .unset, .unset, .unset, .unset, .unset, .unset, .unset, .unset, .unset, .unset, .unset, .unset] [(.int b), (.int r), (.int a)])) (rest := []) rfl (by rw [hml]; rfl) (lenOf pd__III_J rfl) rfl (by show 2 * 0 + _ ≤ _; exact Nat.le_of_eq rfl) (hb hby at_24) ?_
  rintro v1 T1 L1 X1 ⟨rfl, N1, e1⟩
  have M1 := Fr.app N0 N1
  show Go p e below _ T1 (mkF m 27 #[.val (.int p1), .val (.int p2), .val (.int p3), .val (.int a), .val (.int r), .val (.int b), .unset, .unset, .unset, .unset, .unset, .unset, .unset, .unset, .unset, .unset, .unset, .unset, .unset] [(.long (own_bytes a r b))])
  refine Go.st (T' := T1) (g' := (mkF m 29 #[.val (.int p1), .val (.int p2), .val (.int p3), .val (.int a), .val (.int r), .val (.int b), .val (.long (own_bytes a r b)), .second, .unset, .unset, .unset, .unset, .unset, .unset, .unset, .unset, .unset, .unset, .unset] [])) ?_ (fun _ k_ => XT.lstore X1.here hx rfl (hb hby at_27) rfl (l' := #[.val (.int p1), .val (.int p2), .val (.int p3), .val (.int a), .val (.int r), .val (.int b), .val (.long (own_bytes a r b)), .second, .unset, .unset, .unset, .unset, .unset, .unset, .unset, .unset, .unset, .unset, .unset]) rfl k_)
  refine Go.st (T' := T1) (g' := (mkF m 30 #[.val (.int p1), .val (.int p2), .val (.int p3), .val (.int a), .val (.int r), .val (.int b), .val (.long (own_bytes a r b)), .second, .unset, .unset, .unset, .unset, .unset, .unset, .unset, .unset, .unset, .unset, .unset] [(.int a)])) ?_ (fun _ k_ => XS.iloadN X1.here hx rfl (hb hby at_29) rfl k_)
  refine Go.st (T' := T1) (g' := (mkF m 31 #[.val (.int p1), .val (.int p2), .val (.int p3), .val (.int a), .val (.int r), .val (.int b), .val (.long (own_bytes a r b)), .second, .unset, .unset, .unset, .unset, .unset, .unset, .unset, .unset, .unset, .unset, .unset] [(.int (1 : Int32)), (.int a)])) ?_ (fun _ k_ => XT.iconstV X1.here hx rfl (1 : Int32) (hb hby at_30) (by decide) k_)
  refine Go.st (T' := T1) (g' := (mkF m 32 #[.val (.int p1), .val (.int p2), .val (.int p3), .val (.int a), .val (.int r), .val (.int b), .val (.long (own_bytes a r b)), .second, .unset, .unset, .unset, .unset, .unset, .unset, .unset, .unset, .unset, .unset, .unset] [(.int (0 : Int32)), (.int (1 : Int32)), (.int a)])) ?_ (fun _ k_ => XT.iconstV X1.here hx rfl (0 : Int32) (hb hby at_31) (by decide) k_)
  refine Go.callS X1 hx hZ hown (hw _ (List.mem_of_getElem? (i := 2) rfl)) (hw _ (List.mem_of_getElem? (i := 3) rfl)) (hw _ (List.mem_of_getElem? (i := 4) rfl)) (hw _ (List.mem_of_getElem? (i := 5) rfl)) (by decide) (rm1 l Z a0 hw [] a (1 : Int32) (0 : Int32)  h0 n0 Z0 ) e1 (by decide) (W := 0) (by decide) (by decide) (by decide) (g := (mkF m 32 #[.val (.int p1), .val (.int p2), .val (.int p3), .val (.int a), .val (.int r), .val (.int b), .val (.long (own_bytes a r b)), .second, .unset, .unset, .unset, .unset, .unset, .unset, .unset, .unset, .unset, .unset, .unset] [(.int (0 : Int32)), (.int (1 : Int32)), (.int a)])) (rest := []) rfl (by rw [hml]; rfl) (lenOf pd__III_J rfl) rfl (by show 2 * 0 + _ ≤ _; exact Nat.le_of_eq rfl) (hb hby at_32) ?_
  rintro v2 T2 L2 X2 ⟨rfl, N2, e2⟩
  have M2 := Fr.app M1 N2
  show Go p e below _ T2 (mkF m 35 #[.val (.int p1), .val (.int p2), .val (.int p3), .val (.int a), .val (.int r), .val (.int b), .val (.long (own_bytes a r b)), .second, .unset, .unset, .unset, .unset, .unset, .unset, .unset, .unset, .unset, .unset, .unset] [(.long (own_bytes a (1 : Int32) (0 : Int32)))])
  refine Go.st (T' := T2) (g' := (mkF m 37 #[.val (.int p1), .val (.int p2), .val (.int p3), .val (.int a), .val (.int r), .val (.int b), .val (.long (own_bytes a r b)), .second, .val (.long (own_bytes a (1 : Int32) (0 : Int32))), .second, .unset, .unset, .unset, .unset, .unset, .unset, .unset, .unset, .unset] [])) ?_ (fun _ k_ => XT.lstore X2.here hx rfl (hb hby at_35) rfl (l' := #[.val (.int p1), .val (.int p2), .val (.int p3), .val (.int a), .val (.int r), .val (.int b), .val (.long (own_bytes a r b)), .second, .val (.long (own_bytes a (1 : Int32) (0 : Int32))), .second, .unset, .unset, .unset, .unset, .unset, .unset, .unset, .unset, .unset]) rfl k_)
  refine Go.st (T' := T2) (g' := (mkF m 38 #[.val (.int p1), .val (.int p2), .val (.int p3), .val (.int a), .val (.int r), .val (.int b), .val (.long (own_bytes a r b)), .second, .val (.long (own_bytes a (1 : Int32) (0 : Int32))), .second, .unset, .unset, .unset, .unset, .unset, .unset, .unset, .unset, .unset] [(.int (0 : Int32))])) ?_ (fun _ k_ => XT.iconstV X2.here hx rfl (0 : Int32) (hb hby at_37) (by decide) k_)
  refine Go.st (T' := T2) (g' := (mkF m 40 #[.val (.int p1), .val (.int p2), .val (.int p3), .val (.int a), .val (.int r), .val (.int b), .val (.long (own_bytes a r b)), .second, .val (.long (own_bytes a (1 : Int32) (0 : Int32))), .second, .unset, .unset, .unset, .unset, .unset, .unset, .unset, .unset, .unset] [(.int r), (.int (0 : Int32))])) ?_ (fun _ k_ => XS.iload X2.here hx rfl (hb hby at_38) rfl k_)
  refine Go.st (T' := T2) (g' := (mkF m 42 #[.val (.int p1), .val (.int p2), .val (.int p3), .val (.int a), .val (.int r), .val (.int b), .val (.long (own_bytes a r b)), .second, .val (.long (own_bytes a (1 : Int32) (0 : Int32))), .second, .unset, .unset, .unset, .unset, .unset, .unset, .unset, .unset, .unset] [(.int b), (.int r), (.int (0 : Int32))])) ?_ (fun _ k_ => XS.iload X2.here hx rfl (hb hby at_40) rfl k_)
  refine Go.callS X2 hx hZ hown (hw _ (List.mem_of_getElem? (i := 2) rfl)) (hw _ (List.mem_of_getElem? (i := 3) rfl)) (hw _ (List.mem_of_getElem? (i := 4) rfl)) (hw _ (List.mem_of_getElem? (i := 5) rfl)) (by decide) (rm1 l Z a0 hw [] (0 : Int32) r b  h0 n0 Z0 ) e2 (by decide) (W := 0) (by decide) (by decide) (by decide) (g := (mkF m 42 #[.val (.int p1), .val (.int p2), .val (.int p3), .val (.int a), .val (.int r), .val (.int b), .val (.long (own_bytes a r b)), .second, .val (.long (own_bytes a (1 : Int32) (0 : Int32))), .second, .unset, .unset, .unset, .unset, .unset, .unset, .unset, .unset, .unset] [(.int b), (.int r), (.int (0 : Int32))])) (rest := []) rfl (by rw [hml]; rfl) (lenOf pd__III_J rfl) rfl (by show 2 * 0 + _ ≤ _; exact Nat.le_of_eq rfl) (hb hby at_42) ?_
  rintro v3 T3 L3 X3 ⟨rfl, N3, e3⟩
  have M3 := Fr.app M2 N3
  show Go p e below _ T3 (mkF m 45 #[.val (.int p1), .val (.int p2), .val (.int p3), .val (.int a), .val (.int r), .val (.int b), .val (.long (own_bytes a r b)), .second, .val (.long (own_bytes a (1 : Int32) (0 : Int32))), .second, .unset, .unset, .unset, .unset, .unset, .unset, .unset, .unset, .unset] [(.long (own_bytes (0 : Int32) r b))])
  refine Go.st (T' := T3) (g' := (mkF m 47 #[.val (.int p1), .val (.int p2), .val (.int p3), .val (.int a), .val (.int r), .val (.int b), .val (.long (own_bytes a r b)), .second, .val (.long (own_bytes a (1 : Int32) (0 : Int32))), .second, .val (.long (own_bytes (0 : Int32) r b)), .second, .unset, .unset, .unset, .unset, .unset, .unset, .unset] [])) ?_ (fun _ k_ => XT.lstore X3.here hx rfl (hb hby at_45) rfl (l' := #[.val (.int p1), .val (.int p2), .val (.int p3), .val (.int a), .val (.int r), .val (.int b), .val (.long (own_bytes a r b)), .second, .val (.long (own_bytes a (1 : Int32) (0 : Int32))), .second, .val (.long (own_bytes (0 : Int32) r b)), .second, .unset, .unset, .unset, .unset, .unset, .unset, .unset]) rfl k_)
  refine Go.st (T' := T3) (g' := (mkF m 49 #[.val (.int p1), .val (.int p2), .val (.int p3), .val (.int a), .val (.int r), .val (.int b), .val (.long (own_bytes a r b)), .second, .val (.long (own_bytes a (1 : Int32) (0 : Int32))), .second, .val (.long (own_bytes (0 : Int32) r b)), .second, .unset, .unset, .unset, .unset, .unset, .unset, .unset] [(.long (own_bytes a r b))])) ?_ (fun _ k_ => XT.lload X3.here hx rfl (hb hby at_47) rfl k_)
  refine Go.st (T' := T3) (g' := (mkF m 51 #[.val (.int p1), .val (.int p2), .val (.int p3), .val (.int a), .val (.int r), .val (.int b), .val (.long (own_bytes a r b)), .second, .val (.long (own_bytes a (1 : Int32) (0 : Int32))), .second, .val (.long (own_bytes (0 : Int32) r b)), .second, .unset, .unset, .unset, .unset, .unset, .unset, .unset] [(.long (own_bytes a (1 : Int32) (0 : Int32))), (.long (own_bytes a r b))])) ?_ (fun _ k_ => XT.lload X3.here hx rfl (hb hby at_49) rfl k_)
  refine Go.st (T' := T3) (g' := (mkF m 53 #[.val (.int p1), .val (.int p2), .val (.int p3), .val (.int a), .val (.int r), .val (.int b), .val (.long (own_bytes a r b)), .second, .val (.long (own_bytes a (1 : Int32) (0 : Int32))), .second, .val (.long (own_bytes (0 : Int32) r b)), .second, .unset, .unset, .unset, .unset, .unset, .unset, .unset] [(.long (own_bytes (0 : Int32) r b)), (.long (own_bytes a (1 : Int32) (0 : Int32))), (.long (own_bytes a r b))])) ?_ (fun _ k_ => XT.lload X3.here hx rfl (hb hby at_51) rfl k_)
  refine Go.st (T' := T3) (g' := (mkF m 54 #[.val (.int p1), .val (.int p2), .val (.int p3), .val (.int a), .val (.int r), .val (.int b), .val (.long (own_bytes a r b)), .second, .val (.long (own_bytes a (1 : Int32) (0 : Int32))), .second, .val (.long (own_bytes (0 : Int32) r b)), .second, .unset, .unset, .unset, .unset, .unset, .unset, .unset] [(.long ((own_bytes a (1 : Int32) (0 : Int32)) + (own_bytes (0 : Int32) r b))), (.long (own_bytes a r b))])) ?_ (fun _ k_ => XT.ladd X3.here hx rfl (hb hby at_53) rfl k_)
  refine Go.st (T' := T3) (g' := (mkF m 55 #[.val (.int p1), .val (.int p2), .val (.int p3), .val (.int a), .val (.int r), .val (.int b), .val (.long (own_bytes a r b)), .second, .val (.long (own_bytes a (1 : Int32) (0 : Int32))), .second, .val (.long (own_bytes (0 : Int32) r b)), .second, .unset, .unset, .unset, .unset, .unset, .unset, .unset] [(.int (lcmpW (own_bytes a r b) ((own_bytes a (1 : Int32) (0 : Int32)) + (own_bytes (0 : Int32) r b))))])) ?_ (fun _ k_ => XT.lcmp X3.here hx rfl (hb hby at_54) rfl k_)
  refine Go.st (T' := T3) (g' := (mkF m 58 #[.val (.int p1), .val (.int p2), .val (.int p3), .val (.int a), .val (.int r), .val (.int b), .val (.long (own_bytes a r b)), .second, .val (.long (own_bytes a (1 : Int32) (0 : Int32))), .second, .val (.long (own_bytes (0 : Int32) r b)), .second, .unset, .unset, .unset, .unset, .unset, .unset, .unset] [])) ?_ (fun _ k_ => XS.ifNo X3.here hx rfl (hb hby at_55) rfl ((if0 _ _).trans (teq ((lw_eq _ _).mpr (own_split a r b : (own_bytes a r b) = ((own_bytes a (1 : Int32) (0 : Int32)) + (own_bytes (0 : Int32) r b))))).2) k_)
  refine Go.st (T' := T3) (g' := (mkF m 59 #[.val (.int p1), .val (.int p2), .val (.int p3), .val (.int a), .val (.int r), .val (.int b), .val (.long (own_bytes a r b)), .second, .val (.long (own_bytes a (1 : Int32) (0 : Int32))), .second, .val (.long (own_bytes (0 : Int32) r b)), .second, .unset, .unset, .unset, .unset, .unset, .unset, .unset] [(.int (1 : Int32))])) ?_ (fun _ k_ => XT.iconstV X3.here hx rfl (1 : Int32) (hb hby at_58) (by decide) k_)
  refine Go.st (T' := T3) (g' := (mkF m 63 #[.val (.int p1), .val (.int p2), .val (.int p3), .val (.int a), .val (.int r), .val (.int b), .val (.long (own_bytes a r b)), .second, .val (.long (own_bytes a (1 : Int32) (0 : Int32))), .second, .val (.long (own_bytes (0 : Int32) r b)), .second, .unset, .unset, .unset, .unset, .unset, .unset, .unset] [(.int (1 : Int32))])) ?_ (fun _ k_ => XS.goto X3.here hx rfl (pc0 := 59) (pc' := 63) rfl (hb hby at_59) (by decide) (by decide) k_)
  refine Go.st (T' := T3) (g' := (mkF m 65 #[.val (.int p1), .val (.int p2), .val (.int p3), .val (.int a), .val (.int r), .val (.int b), .val (.long (own_bytes a r b)), .second, .val (.long (own_bytes a (1 : Int32) (0 : Int32))), .second, .val (.long (own_bytes (0 : Int32) r b)), .second, .val (.int (1 : Int32)), .unset, .unset, .unset, .unset, .unset, .unset] [])) ?_ (fun _ k_ => XS.istore X3.here hx rfl (hb hby at_63) rfl (l' := #[.val (.int p1), .val (.int p2), .val (.int p3), .val (.int a), .val (.int r), .val (.int b), .val (.long (own_bytes a r b)), .second, .val (.long (own_bytes a (1 : Int32) (0 : Int32))), .second, .val (.long (own_bytes (0 : Int32) r b)), .second, .val (.int (1 : Int32)), .unset, .unset, .unset, .unset, .unset, .unset]) rfl k_)
  refine Go.st (T' := T3) (g' := (mkF m 67 #[.val (.int p1), .val (.int p2), .val (.int p3), .val (.int a), .val (.int r), .val (.int b), .val (.long (own_bytes a r b)), .second, .val (.long (own_bytes a (1 : Int32) (0 : Int32))), .second, .val (.long (own_bytes (0 : Int32) r b)), .second, .val (.int (1 : Int32)), .unset, .unset, .unset, .unset, .unset, .unset] [(.long (own_bytes a (1 : Int32) (0 : Int32)))])) ?_ (fun _ k_ => XT.lload X3.here hx rfl (hb hby at_65) rfl k_)
  refine Go.st (T' := T3) (g' := (mkF m 70 #[.val (.int p1), .val (.int p2), .val (.int p3), .val (.int a), .val (.int r), .val (.int b), .val (.long (own_bytes a r b)), .second, .val (.long (own_bytes a (1 : Int32) (0 : Int32))), .second, .val (.long (own_bytes (0 : Int32) r b)), .second, .val (.int (1 : Int32)), .unset, .unset, .unset, .unset, .unset, .unset] [(.long (32 : Int64)), (.long (own_bytes a (1 : Int32) (0 : Int32)))])) ?_ (fun _ k_ => X3.ldc2J hx hown (mvT hZ (hw _ (List.mem_of_getElem? (i := 8) rfl))) rfl (hb hby at_67) k_)
  refine Go.st (T' := T3) (g' := (mkF m 71 #[.val (.int p1), .val (.int p2), .val (.int p3), .val (.int a), .val (.int r), .val (.int b), .val (.long (own_bytes a r b)), .second, .val (.long (own_bytes a (1 : Int32) (0 : Int32))), .second, .val (.long (own_bytes (0 : Int32) r b)), .second, .val (.int (1 : Int32)), .unset, .unset, .unset, .unset, .unset, .unset] [(.int a), (.long (32 : Int64)), (.long (own_bytes a (1 : Int32) (0 : Int32)))])) ?_ (fun _ k_ => XS.iloadN X3.here hx rfl (hb hby at_70) rfl k_)
  refine Go.st (T' := T3) (g' := (mkF m 72 #[.val (.int p1), .val (.int p2), .val (.int p3), .val (.int a), .val (.int r), .val (.int b), .val (.long (own_bytes a r b)), .second, .val (.long (own_bytes a (1 : Int32) (0 : Int32))), .second, .val (.long (own_bytes (0 : Int32) r b)), .second, .val (.int (1 : Int32)), .unset, .unset, .unset, .unset, .unset, .unset] [(.long a.toInt64), (.long (32 : Int64)), (.long (own_bytes a (1 : Int32) (0 : Int32)))])) ?_ (fun _ k_ => XT.i2l X3.here hx rfl (hb hby at_71) rfl k_)
  refine Go.st (T' := T3) (g' := (mkF m 73 #[.val (.int p1), .val (.int p2), .val (.int p3), .val (.int a), .val (.int r), .val (.int b), .val (.long (own_bytes a r b)), .second, .val (.long (own_bytes a (1 : Int32) (0 : Int32))), .second, .val (.long (own_bytes (0 : Int32) r b)), .second, .val (.int (1 : Int32)), .unset, .unset, .unset, .unset, .unset, .unset] [(.long ((32 : Int64) * a.toInt64)), (.long (own_bytes a (1 : Int32) (0 : Int32)))])) ?_ (fun _ k_ => XT.lmul X3.here hx rfl (hb hby at_72) rfl k_)
  refine Go.st (T' := T3) (g' := (mkF m 74 #[.val (.int p1), .val (.int p2), .val (.int p3), .val (.int a), .val (.int r), .val (.int b), .val (.long (own_bytes a r b)), .second, .val (.long (own_bytes a (1 : Int32) (0 : Int32))), .second, .val (.long (own_bytes (0 : Int32) r b)), .second, .val (.int (1 : Int32)), .unset, .unset, .unset, .unset, .unset, .unset] [(.int (lcmpW (own_bytes a (1 : Int32) (0 : Int32)) ((32 : Int64) * a.toInt64)))])) ?_ (fun _ k_ => XT.lcmp X3.here hx rfl (hb hby at_73) rfl k_)
  refine Go.st (T' := T3) (g' := (mkF m 77 #[.val (.int p1), .val (.int p2), .val (.int p3), .val (.int a), .val (.int r), .val (.int b), .val (.long (own_bytes a r b)), .second, .val (.long (own_bytes a (1 : Int32) (0 : Int32))), .second, .val (.long (own_bytes (0 : Int32) r b)), .second, .val (.int (1 : Int32)), .unset, .unset, .unset, .unset, .unset, .unset] [])) ?_ (fun _ k_ => XS.ifNo X3.here hx rfl (hb hby at_74) rfl ((if0 _ _).trans (teq ((lw_eq _ _).mpr (own_per a : (own_bytes a (1 : Int32) (0 : Int32)) = ((32 : Int64) * a.toInt64)))).2) k_)
  refine Go.st (T' := T3) (g' := (mkF m 78 #[.val (.int p1), .val (.int p2), .val (.int p3), .val (.int a), .val (.int r), .val (.int b), .val (.long (own_bytes a r b)), .second, .val (.long (own_bytes a (1 : Int32) (0 : Int32))), .second, .val (.long (own_bytes (0 : Int32) r b)), .second, .val (.int (1 : Int32)), .unset, .unset, .unset, .unset, .unset, .unset] [(.int (1 : Int32))])) ?_ (fun _ k_ => XT.iconstV X3.here hx rfl (1 : Int32) (hb hby at_77) (by decide) k_)
  refine Go.st (T' := T3) (g' := (mkF m 82 #[.val (.int p1), .val (.int p2), .val (.int p3), .val (.int a), .val (.int r), .val (.int b), .val (.long (own_bytes a r b)), .second, .val (.long (own_bytes a (1 : Int32) (0 : Int32))), .second, .val (.long (own_bytes (0 : Int32) r b)), .second, .val (.int (1 : Int32)), .unset, .unset, .unset, .unset, .unset, .unset] [(.int (1 : Int32))])) ?_ (fun _ k_ => XS.goto X3.here hx rfl (pc0 := 78) (pc' := 82) rfl (hb hby at_78) (by decide) (by decide) k_)
  refine Go.st (T' := T3) (g' := (mkF m 84 #[.val (.int p1), .val (.int p2), .val (.int p3), .val (.int a), .val (.int r), .val (.int b), .val (.long (own_bytes a r b)), .second, .val (.long (own_bytes a (1 : Int32) (0 : Int32))), .second, .val (.long (own_bytes (0 : Int32) r b)), .second, .val (.int (1 : Int32)), .val (.int (1 : Int32)), .unset, .unset, .unset, .unset, .unset] [])) ?_ (fun _ k_ => XS.istore X3.here hx rfl (hb hby at_82) rfl (l' := #[.val (.int p1), .val (.int p2), .val (.int p3), .val (.int a), .val (.int r), .val (.int b), .val (.long (own_bytes a r b)), .second, .val (.long (own_bytes a (1 : Int32) (0 : Int32))), .second, .val (.long (own_bytes (0 : Int32) r b)), .second, .val (.int (1 : Int32)), .val (.int (1 : Int32)), .unset, .unset, .unset, .unset, .unset]) rfl k_)
  refine Go.st (T' := T3) (g' := (mkF m 86 #[.val (.int p1), .val (.int p2), .val (.int p3), .val (.int a), .val (.int r), .val (.int b), .val (.long (own_bytes a r b)), .second, .val (.long (own_bytes a (1 : Int32) (0 : Int32))), .second, .val (.long (own_bytes (0 : Int32) r b)), .second, .val (.int (1 : Int32)), .val (.int (1 : Int32)), .unset, .unset, .unset, .unset, .unset] [(.int b)])) ?_ (fun _ k_ => XS.iload X3.here hx rfl (hb hby at_84) rfl k_)
  refine Go.st (T' := T3) (g' := (mkF m 87 #[.val (.int p1), .val (.int p2), .val (.int p3), .val (.int a), .val (.int r), .val (.int b), .val (.long (own_bytes a r b)), .second, .val (.long (own_bytes a (1 : Int32) (0 : Int32))), .second, .val (.long (own_bytes (0 : Int32) r b)), .second, .val (.int (1 : Int32)), .val (.int (1 : Int32)), .unset, .unset, .unset, .unset, .unset] [(.long b.toInt64)])) ?_ (fun _ k_ => XT.i2l X3.here hx rfl (hb hby at_86) rfl k_)
  refine Go.st (T' := T3) (g' := (mkF m 89 #[.val (.int p1), .val (.int p2), .val (.int p3), .val (.int a), .val (.int r), .val (.int b), .val (.long (own_bytes a r b)), .second, .val (.long (own_bytes a (1 : Int32) (0 : Int32))), .second, .val (.long (own_bytes (0 : Int32) r b)), .second, .val (.int (1 : Int32)), .val (.int (1 : Int32)), .unset, .unset, .unset, .unset, .unset] [(.int r), (.long b.toInt64)])) ?_ (fun _ k_ => XS.iload X3.here hx rfl (hb hby at_87) rfl k_)
  refine Go.st (T' := T3) (g' := (mkF m 90 #[.val (.int p1), .val (.int p2), .val (.int p3), .val (.int a), .val (.int r), .val (.int b), .val (.long (own_bytes a r b)), .second, .val (.long (own_bytes a (1 : Int32) (0 : Int32))), .second, .val (.long (own_bytes (0 : Int32) r b)), .second, .val (.int (1 : Int32)), .val (.int (1 : Int32)), .unset, .unset, .unset, .unset, .unset] [(.long r.toInt64), (.long b.toInt64)])) ?_ (fun _ k_ => XT.i2l X3.here hx rfl (hb hby at_89) rfl k_)
  refine Go.st (T' := T3) (g' := (mkF m 91 #[.val (.int p1), .val (.int p2), .val (.int p3), .val (.int a), .val (.int r), .val (.int b), .val (.long (own_bytes a r b)), .second, .val (.long (own_bytes a (1 : Int32) (0 : Int32))), .second, .val (.long (own_bytes (0 : Int32) r b)), .second, .val (.int (1 : Int32)), .val (.int (1 : Int32)), .unset, .unset, .unset, .unset, .unset] [(.long (b.toInt64 + r.toInt64))])) ?_ (fun _ k_ => XT.ladd X3.here hx rfl (hb hby at_90) rfl k_)
  refine Go.st (T' := T3) (g' := (mkF m 92 #[.val (.int p1), .val (.int p2), .val (.int p3), .val (.int a), .val (.int r), .val (.int b), .val (.long (own_bytes a r b)), .second, .val (.long (own_bytes a (1 : Int32) (0 : Int32))), .second, .val (.long (own_bytes (0 : Int32) r b)), .second, .val (.int (1 : Int32)), .val (.int (1 : Int32)), .unset, .unset, .unset, .unset, .unset] [(.long (1 : Int64)), (.long (b.toInt64 + r.toInt64))])) ?_ (fun _ k_ => XT.lconstV X3.here hx rfl (1 : Int64) (hb hby at_91) (by decide) k_)
  refine Go.st (T' := T3) (g' := (mkF m 93 #[.val (.int p1), .val (.int p2), .val (.int p3), .val (.int a), .val (.int r), .val (.int b), .val (.long (own_bytes a r b)), .second, .val (.long (own_bytes a (1 : Int32) (0 : Int32))), .second, .val (.long (own_bytes (0 : Int32) r b)), .second, .val (.int (1 : Int32)), .val (.int (1 : Int32)), .unset, .unset, .unset, .unset, .unset] [(.long ((b.toInt64 + r.toInt64) - (1 : Int64)))])) ?_ (fun _ k_ => XT.lsub X3.here hx rfl (hb hby at_92) rfl k_)
  refine Go.st (T' := T3) (g' := (mkF m 95 #[.val (.int p1), .val (.int p2), .val (.int p3), .val (.int a), .val (.int r), .val (.int b), .val (.long (own_bytes a r b)), .second, .val (.long (own_bytes a (1 : Int32) (0 : Int32))), .second, .val (.long (own_bytes (0 : Int32) r b)), .second, .val (.int (1 : Int32)), .val (.int (1 : Int32)), .val (.long ((b.toInt64 + r.toInt64) - (1 : Int64))), .second, .unset, .unset, .unset] [])) ?_ (fun _ k_ => XT.lstore X3.here hx rfl (hb hby at_93) rfl (l' := #[.val (.int p1), .val (.int p2), .val (.int p3), .val (.int a), .val (.int r), .val (.int b), .val (.long (own_bytes a r b)), .second, .val (.long (own_bytes a (1 : Int32) (0 : Int32))), .second, .val (.long (own_bytes (0 : Int32) r b)), .second, .val (.int (1 : Int32)), .val (.int (1 : Int32)), .val (.long ((b.toInt64 + r.toInt64) - (1 : Int64))), .second, .unset, .unset, .unset]) rfl k_)
  refine Go.st (T' := T3) (g' := (mkF m 97 #[.val (.int p1), .val (.int p2), .val (.int p3), .val (.int a), .val (.int r), .val (.int b), .val (.long (own_bytes a r b)), .second, .val (.long (own_bytes a (1 : Int32) (0 : Int32))), .second, .val (.long (own_bytes (0 : Int32) r b)), .second, .val (.int (1 : Int32)), .val (.int (1 : Int32)), .val (.long ((b.toInt64 + r.toInt64) - (1 : Int64))), .second, .unset, .unset, .unset] [(.int b)])) ?_ (fun _ k_ => XS.iload X3.here hx rfl (hb hby at_95) rfl k_)
  refine Go.st (T' := T3) (g' := (mkF m 98 #[.val (.int p1), .val (.int p2), .val (.int p3), .val (.int a), .val (.int r), .val (.int b), .val (.long (own_bytes a r b)), .second, .val (.long (own_bytes a (1 : Int32) (0 : Int32))), .second, .val (.long (own_bytes (0 : Int32) r b)), .second, .val (.int (1 : Int32)), .val (.int (1 : Int32)), .val (.long ((b.toInt64 + r.toInt64) - (1 : Int64))), .second, .unset, .unset, .unset] [(.long b.toInt64)])) ?_ (fun _ k_ => XT.i2l X3.here hx rfl (hb hby at_97) rfl k_)
  refine Go.st (T' := T3) (g' := (mkF m 100 #[.val (.int p1), .val (.int p2), .val (.int p3), .val (.int a), .val (.int r), .val (.int b), .val (.long (own_bytes a r b)), .second, .val (.long (own_bytes a (1 : Int32) (0 : Int32))), .second, .val (.long (own_bytes (0 : Int32) r b)), .second, .val (.int (1 : Int32)), .val (.int (1 : Int32)), .val (.long ((b.toInt64 + r.toInt64) - (1 : Int64))), .second, .unset, .unset, .unset] [(.long ((b.toInt64 + r.toInt64) - (1 : Int64))), (.long b.toInt64)])) ?_ (fun _ k_ => XT.lload X3.here hx rfl (hb hby at_98) rfl k_)
  refine Go.st (T' := T3) (g' := (mkF m 101 #[.val (.int p1), .val (.int p2), .val (.int p3), .val (.int a), .val (.int r), .val (.int b), .val (.long (own_bytes a r b)), .second, .val (.long (own_bytes a (1 : Int32) (0 : Int32))), .second, .val (.long (own_bytes (0 : Int32) r b)), .second, .val (.int (1 : Int32)), .val (.int (1 : Int32)), .val (.long ((b.toInt64 + r.toInt64) - (1 : Int64))), .second, .unset, .unset, .unset] [(.long (b.toInt64 * ((b.toInt64 + r.toInt64) - (1 : Int64))))])) ?_ (fun _ k_ => XT.lmul X3.here hx rfl (hb hby at_100) rfl k_)
  refine Go.st (T' := T3) (g' := (mkF m 103 #[.val (.int p1), .val (.int p2), .val (.int p3), .val (.int a), .val (.int r), .val (.int b), .val (.long (own_bytes a r b)), .second, .val (.long (own_bytes a (1 : Int32) (0 : Int32))), .second, .val (.long (own_bytes (0 : Int32) r b)), .second, .val (.int (1 : Int32)), .val (.int (1 : Int32)), .val (.long ((b.toInt64 + r.toInt64) - (1 : Int64))), .second, .val (.long (b.toInt64 * ((b.toInt64 + r.toInt64) - (1 : Int64)))), .second, .unset] [])) ?_ (fun _ k_ => XT.lstore X3.here hx rfl (hb hby at_101) rfl (l' := #[.val (.int p1), .val (.int p2), .val (.int p3), .val (.int a), .val (.int r), .val (.int b), .val (.long (own_bytes a r b)), .second, .val (.long (own_bytes a (1 : Int32) (0 : Int32))), .second, .val (.long (own_bytes (0 : Int32) r b)), .second, .val (.int (1 : Int32)), .val (.int (1 : Int32)), .val (.long ((b.toInt64 + r.toInt64) - (1 : Int64))), .second, .val (.long (b.toInt64 * ((b.toInt64 + r.toInt64) - (1 : Int64)))), .second, .unset]) rfl k_)
  refine Go.st (T' := T3) (g' := (mkF m 105 #[.val (.int p1), .val (.int p2), .val (.int p3), .val (.int a), .val (.int r), .val (.int b), .val (.long (own_bytes a r b)), .second, .val (.long (own_bytes a (1 : Int32) (0 : Int32))), .second, .val (.long (own_bytes (0 : Int32) r b)), .second, .val (.int (1 : Int32)), .val (.int (1 : Int32)), .val (.long ((b.toInt64 + r.toInt64) - (1 : Int64))), .second, .val (.long (b.toInt64 * ((b.toInt64 + r.toInt64) - (1 : Int64)))), .second, .unset] [(.long (own_bytes (0 : Int32) r b))])) ?_ (fun _ k_ => XT.lload X3.here hx rfl (hb hby at_103) rfl k_)
  refine Go.st (T' := T3) (g' := (mkF m 108 #[.val (.int p1), .val (.int p2), .val (.int p3), .val (.int a), .val (.int r), .val (.int b), .val (.long (own_bytes a r b)), .second, .val (.long (own_bytes a (1 : Int32) (0 : Int32))), .second, .val (.long (own_bytes (0 : Int32) r b)), .second, .val (.int (1 : Int32)), .val (.int (1 : Int32)), .val (.long ((b.toInt64 + r.toInt64) - (1 : Int64))), .second, .val (.long (b.toInt64 * ((b.toInt64 + r.toInt64) - (1 : Int64)))), .second, .unset] [(.long (16 : Int64)), (.long (own_bytes (0 : Int32) r b))])) ?_ (fun _ k_ => X3.ldc2J hx hown (mvT hZ (hw _ (List.mem_of_getElem? (i := 9) rfl))) rfl (hb hby at_105) k_)
  refine Go.st (T' := T3) (g' := (mkF m 110 #[.val (.int p1), .val (.int p2), .val (.int p3), .val (.int a), .val (.int r), .val (.int b), .val (.long (own_bytes a r b)), .second, .val (.long (own_bytes a (1 : Int32) (0 : Int32))), .second, .val (.long (own_bytes (0 : Int32) r b)), .second, .val (.int (1 : Int32)), .val (.int (1 : Int32)), .val (.long ((b.toInt64 + r.toInt64) - (1 : Int64))), .second, .val (.long (b.toInt64 * ((b.toInt64 + r.toInt64) - (1 : Int64)))), .second, .unset] [(.long (b.toInt64 * ((b.toInt64 + r.toInt64) - (1 : Int64)))), (.long (16 : Int64)), (.long (own_bytes (0 : Int32) r b))])) ?_ (fun _ k_ => XT.lload X3.here hx rfl (hb hby at_108) rfl k_)
  refine Go.st (T' := T3) (g' := (mkF m 111 #[.val (.int p1), .val (.int p2), .val (.int p3), .val (.int a), .val (.int r), .val (.int b), .val (.long (own_bytes a r b)), .second, .val (.long (own_bytes a (1 : Int32) (0 : Int32))), .second, .val (.long (own_bytes (0 : Int32) r b)), .second, .val (.int (1 : Int32)), .val (.int (1 : Int32)), .val (.long ((b.toInt64 + r.toInt64) - (1 : Int64))), .second, .val (.long (b.toInt64 * ((b.toInt64 + r.toInt64) - (1 : Int64)))), .second, .unset] [(.long ((16 : Int64) * (b.toInt64 * ((b.toInt64 + r.toInt64) - (1 : Int64))))), (.long (own_bytes (0 : Int32) r b))])) ?_ (fun _ k_ => XT.lmul X3.here hx rfl (hb hby at_110) rfl k_)
  refine Go.st (T' := T3) (g' := (mkF m 112 #[.val (.int p1), .val (.int p2), .val (.int p3), .val (.int a), .val (.int r), .val (.int b), .val (.long (own_bytes a r b)), .second, .val (.long (own_bytes a (1 : Int32) (0 : Int32))), .second, .val (.long (own_bytes (0 : Int32) r b)), .second, .val (.int (1 : Int32)), .val (.int (1 : Int32)), .val (.long ((b.toInt64 + r.toInt64) - (1 : Int64))), .second, .val (.long (b.toInt64 * ((b.toInt64 + r.toInt64) - (1 : Int64)))), .second, .unset] [(.int (lcmpW (own_bytes (0 : Int32) r b) ((16 : Int64) * (b.toInt64 * ((b.toInt64 + r.toInt64) - (1 : Int64))))))])) ?_ (fun _ k_ => XT.lcmp X3.here hx rfl (hb hby at_111) rfl k_)
  refine Go.st (T' := T3) (g' := (mkF m 115 #[.val (.int p1), .val (.int p2), .val (.int p3), .val (.int a), .val (.int r), .val (.int b), .val (.long (own_bytes a r b)), .second, .val (.long (own_bytes a (1 : Int32) (0 : Int32))), .second, .val (.long (own_bytes (0 : Int32) r b)), .second, .val (.int (1 : Int32)), .val (.int (1 : Int32)), .val (.long ((b.toInt64 + r.toInt64) - (1 : Int64))), .second, .val (.long (b.toInt64 * ((b.toInt64 + r.toInt64) - (1 : Int64)))), .second, .unset] [])) ?_ (fun _ k_ => XS.ifNo X3.here hx rfl (hb hby at_112) rfl ((if0 _ _).trans (teq ((lw_eq _ _).mpr (own_cell b r k5.1 k5.2 m5.1 m5.2 : (own_bytes (0 : Int32) r b) = ((16 : Int64) * (b.toInt64 * ((b.toInt64 + r.toInt64) - (1 : Int64))))))).2) k_)
  refine Go.st (T' := T3) (g' := (mkF m 116 #[.val (.int p1), .val (.int p2), .val (.int p3), .val (.int a), .val (.int r), .val (.int b), .val (.long (own_bytes a r b)), .second, .val (.long (own_bytes a (1 : Int32) (0 : Int32))), .second, .val (.long (own_bytes (0 : Int32) r b)), .second, .val (.int (1 : Int32)), .val (.int (1 : Int32)), .val (.long ((b.toInt64 + r.toInt64) - (1 : Int64))), .second, .val (.long (b.toInt64 * ((b.toInt64 + r.toInt64) - (1 : Int64)))), .second, .unset] [(.int (1 : Int32))])) ?_ (fun _ k_ => XT.iconstV X3.here hx rfl (1 : Int32) (hb hby at_115) (by decide) k_)
  refine Go.st (T' := T3) (g' := (mkF m 120 #[.val (.int p1), .val (.int p2), .val (.int p3), .val (.int a), .val (.int r), .val (.int b), .val (.long (own_bytes a r b)), .second, .val (.long (own_bytes a (1 : Int32) (0 : Int32))), .second, .val (.long (own_bytes (0 : Int32) r b)), .second, .val (.int (1 : Int32)), .val (.int (1 : Int32)), .val (.long ((b.toInt64 + r.toInt64) - (1 : Int64))), .second, .val (.long (b.toInt64 * ((b.toInt64 + r.toInt64) - (1 : Int64)))), .second, .unset] [(.int (1 : Int32))])) ?_ (fun _ k_ => XS.goto X3.here hx rfl (pc0 := 116) (pc' := 120) rfl (hb hby at_116) (by decide) (by decide) k_)
  refine Go.st (T' := T3) (g' := (mkF m 122 #[.val (.int p1), .val (.int p2), .val (.int p3), .val (.int a), .val (.int r), .val (.int b), .val (.long (own_bytes a r b)), .second, .val (.long (own_bytes a (1 : Int32) (0 : Int32))), .second, .val (.long (own_bytes (0 : Int32) r b)), .second, .val (.int (1 : Int32)), .val (.int (1 : Int32)), .val (.long ((b.toInt64 + r.toInt64) - (1 : Int64))), .second, .val (.long (b.toInt64 * ((b.toInt64 + r.toInt64) - (1 : Int64)))), .second, .val (.int (1 : Int32))] [])) ?_ (fun _ k_ => XS.istore X3.here hx rfl (hb hby at_120) rfl (l' := #[.val (.int p1), .val (.int p2), .val (.int p3), .val (.int a), .val (.int r), .val (.int b), .val (.long (own_bytes a r b)), .second, .val (.long (own_bytes a (1 : Int32) (0 : Int32))), .second, .val (.long (own_bytes (0 : Int32) r b)), .second, .val (.int (1 : Int32)), .val (.int (1 : Int32)), .val (.long ((b.toInt64 + r.toInt64) - (1 : Int64))), .second, .val (.long (b.toInt64 * ((b.toInt64 + r.toInt64) - (1 : Int64)))), .second, .val (.int (1 : Int32))]) rfl k_)
  refine Go.st (T' := T3) (g' := (mkF m 124 #[.val (.int p1), .val (.int p2), .val (.int p3), .val (.int a), .val (.int r), .val (.int b), .val (.long (own_bytes a r b)), .second, .val (.long (own_bytes a (1 : Int32) (0 : Int32))), .second, .val (.long (own_bytes (0 : Int32) r b)), .second, .val (.int (1 : Int32)), .val (.int (1 : Int32)), .val (.long ((b.toInt64 + r.toInt64) - (1 : Int64))), .second, .val (.long (b.toInt64 * ((b.toInt64 + r.toInt64) - (1 : Int64)))), .second, .val (.int (1 : Int32))] [(.int (1 : Int32))])) ?_ (fun _ k_ => XS.iload X3.here hx rfl (hb hby at_122) rfl k_)
  refine Go.st (T' := T3) (g' := (mkF m 127 #[.val (.int p1), .val (.int p2), .val (.int p3), .val (.int a), .val (.int r), .val (.int b), .val (.long (own_bytes a r b)), .second, .val (.long (own_bytes a (1 : Int32) (0 : Int32))), .second, .val (.long (own_bytes (0 : Int32) r b)), .second, .val (.int (1 : Int32)), .val (.int (1 : Int32)), .val (.long ((b.toInt64 + r.toInt64) - (1 : Int64))), .second, .val (.long (b.toInt64 * ((b.toInt64 + r.toInt64) - (1 : Int64)))), .second, .val (.int (1 : Int32))] [])) ?_ (fun _ k_ => XS.ifNo X3.here hx rfl (hb hby at_124) rfl (by decide) k_)
  refine Go.st (T' := T3) (g' := (mkF m 129 #[.val (.int p1), .val (.int p2), .val (.int p3), .val (.int a), .val (.int r), .val (.int b), .val (.long (own_bytes a r b)), .second, .val (.long (own_bytes a (1 : Int32) (0 : Int32))), .second, .val (.long (own_bytes (0 : Int32) r b)), .second, .val (.int (1 : Int32)), .val (.int (1 : Int32)), .val (.long ((b.toInt64 + r.toInt64) - (1 : Int64))), .second, .val (.long (b.toInt64 * ((b.toInt64 + r.toInt64) - (1 : Int64)))), .second, .val (.int (1 : Int32))] [(.int (1 : Int32))])) ?_ (fun _ k_ => XS.iload X3.here hx rfl (hb hby at_127) rfl k_)
  refine Go.st (T' := T3) (g' := (mkF m 132 #[.val (.int p1), .val (.int p2), .val (.int p3), .val (.int a), .val (.int r), .val (.int b), .val (.long (own_bytes a r b)), .second, .val (.long (own_bytes a (1 : Int32) (0 : Int32))), .second, .val (.long (own_bytes (0 : Int32) r b)), .second, .val (.int (1 : Int32)), .val (.int (1 : Int32)), .val (.long ((b.toInt64 + r.toInt64) - (1 : Int64))), .second, .val (.long (b.toInt64 * ((b.toInt64 + r.toInt64) - (1 : Int64)))), .second, .val (.int (1 : Int32))] [])) ?_ (fun _ k_ => XS.ifNo X3.here hx rfl (hb hby at_129) rfl (by decide) k_)
  refine Go.st (T' := T3) (g' := (mkF m 134 #[.val (.int p1), .val (.int p2), .val (.int p3), .val (.int a), .val (.int r), .val (.int b), .val (.long (own_bytes a r b)), .second, .val (.long (own_bytes a (1 : Int32) (0 : Int32))), .second, .val (.long (own_bytes (0 : Int32) r b)), .second, .val (.int (1 : Int32)), .val (.int (1 : Int32)), .val (.long ((b.toInt64 + r.toInt64) - (1 : Int64))), .second, .val (.long (b.toInt64 * ((b.toInt64 + r.toInt64) - (1 : Int64)))), .second, .val (.int (1 : Int32))] [(.int (1 : Int32))])) ?_ (fun _ k_ => XS.iload X3.here hx rfl (hb hby at_132) rfl k_)
  refine Go.st (T' := T3) (g' := (mkF m 137 #[.val (.int p1), .val (.int p2), .val (.int p3), .val (.int a), .val (.int r), .val (.int b), .val (.long (own_bytes a r b)), .second, .val (.long (own_bytes a (1 : Int32) (0 : Int32))), .second, .val (.long (own_bytes (0 : Int32) r b)), .second, .val (.int (1 : Int32)), .val (.int (1 : Int32)), .val (.long ((b.toInt64 + r.toInt64) - (1 : Int64))), .second, .val (.long (b.toInt64 * ((b.toInt64 + r.toInt64) - (1 : Int64)))), .second, .val (.int (1 : Int32))] [])) ?_ (fun _ k_ => XS.ifNo X3.here hx rfl (hb hby at_134) rfl (by decide) k_)
  refine Go.st (T' := T3) (g' := (mkF m 138 #[.val (.int p1), .val (.int p2), .val (.int p3), .val (.int a), .val (.int r), .val (.int b), .val (.long (own_bytes a r b)), .second, .val (.long (own_bytes a (1 : Int32) (0 : Int32))), .second, .val (.long (own_bytes (0 : Int32) r b)), .second, .val (.int (1 : Int32)), .val (.int (1 : Int32)), .val (.long ((b.toInt64 + r.toInt64) - (1 : Int64))), .second, .val (.long (b.toInt64 * ((b.toInt64 + r.toInt64) - (1 : Int64)))), .second, .val (.int (1 : Int32))] [(.int (1 : Int32))])) ?_ (fun _ k_ => XT.iconstV X3.here hx rfl (1 : Int32) (hb hby at_137) (by decide) k_)
  refine Go.st (T' := T3) (g' := (mkF m 142 #[.val (.int p1), .val (.int p2), .val (.int p3), .val (.int a), .val (.int r), .val (.int b), .val (.long (own_bytes a r b)), .second, .val (.long (own_bytes a (1 : Int32) (0 : Int32))), .second, .val (.long (own_bytes (0 : Int32) r b)), .second, .val (.int (1 : Int32)), .val (.int (1 : Int32)), .val (.long ((b.toInt64 + r.toInt64) - (1 : Int64))), .second, .val (.long (b.toInt64 * ((b.toInt64 + r.toInt64) - (1 : Int64)))), .second, .val (.int (1 : Int32))] [(.int (1 : Int32))])) ?_ (fun _ k_ => XS.goto X3.here hx rfl (pc0 := 138) (pc' := 142) rfl (hb hby at_138) (by decide) (by decide) k_)
  exact Go.retV (t := .boolean) X3 hx hret hlk (by decide) (by decide) rfl (Or.inl ⟨rfl, Or.inr (Or.inl rfl), _, rfl⟩) (hb hby at_142) ⟨rfl, M3⟩
set_option maxRecDepth 65536 in
set_option maxHeartbeats 40000000 in
theorem comes_1 {Post : Tables → Env → Array Value → State → Outcome → State → Prop} (hpost : ∀ tb e args s v u, (limb_1_1.after args s (.returned v) u = true ∧ limb_1_2.after args s (.returned v) u = true ∧ True) → FrameEnd s (.returned v) u (Jvm.fieldLocs frame_1_writes args s ++ Jvm.arrayLocs frame_1_arrays args s ++ Jvm.staticLocs frame_1_statics s) 0 0 → Post tb e args s (.returned v) u) :
    ArmFor flags0 classFile x code maxLocals ret World_1 tables_1 room_1 Calls_1 rest_1 Pre_1 Post := by
  intro l hfl _ _ p e ha hc hk s m args below hf hA hF happ hP
  obtain ⟨hcalls, hrest, hpre⟩ := hP
  obtain ⟨-, -, -, hnamed, -, -, -, hat⟩ := (Spec.applies_iff hf).mp happ
  obtain ⟨hg, hn⟩ := and_e (Cond.before_iff.mp (show (Jvm.Cond.and given_1 narrow_1).before args s = true from hpre))
  obtain ⟨g0, hg⟩ := and_e hg
  obtain ⟨g1, hg⟩ := and_e hg
  obtain ⟨g2, hg⟩ := and_e hg
  obtain ⟨w0, w1, w2, rfl⟩ : ∃ w0 w1 w2 : Value, args = #[w0, w1, w2] := by
    have hs : args.size = 3 := by simpa [Cond.value, given_1] using g0
    obtain ⟨L⟩ := args
    match L, hs with
    | [w0, w1, w2], _ => exact ⟨w0, w1, w2, rfl⟩
  have hw := fun d (hd : d ∈ tables_1) => atoms_spec (ws := Jvm.Cond.code x code maxLocals ret :: tables_1) hat d (List.mem_cons_of_mem _ hd)
  obtain ⟨i0, ei0⟩ := is_v g1
  obtain rfl : w0 = (.int i0) := Option.some.inj ei0
  obtain ⟨i1, ei1⟩ := is_v g2
  obtain rfl : w1 = (.int i1) := Option.some.inj ei1
  obtain ⟨i2, ei2⟩ := is_v hg
  obtain rfl : w2 = (.int i2) := Option.some.inj ei2
  obtain ⟨n, o, h1, h2, h3, _, L, rfl, ⟨rfl, N⟩, hq⟩ := rm0 l s _ hw tables_1 i0 i1 i2 s.heap s.heap.size (Nat.le_refl _)  p e ha hc hk s m _ below hf ((Spec.applies_iff_loose hf).mp happ).1 ⟨rfl, State.Warmed39.refl s, rfl⟩ trivial
  refine ⟨n, _, h1, h2, h3, hpost _ _ _ _ _ _ ⟨Cond.after_iff.mpr rfl, Cond.after_iff.mpr (eq_i res_at (Term.int_eval (1)) rfl), trivial⟩ ⟨hq.1, hq.2.1, (hq.2.2.sift fun y hy => Or.inr (N y hy)).mono (by decide) (by decide)⟩⟩
theorem main_1_1 : Claimed_1_1 := comes_1 fun _ _ _ _ _ _ h hF => ⟨h.1, hF⟩
theorem main_1_2 : Claimed_1_2 := comes_1 fun _ _ _ _ _ _ h hF => ⟨h.2.1, hF⟩
end Jvm.Pilot.@@N@@
namespace Jvm.Pilot.@@N@@
open Jvm Jvm.ClassFile Sem Op Lib Jvm.Free Jvm.Stand Jvm.Pilot.@@N@@.Jvm.D
/-! MADE BY PROGRAM (witnessworld.py) out of the Statement's table words and the real class files: 10 classes; the members and pool entries that the words name. The judged class is class 1, her method 1. -/
namespace start1
open Jvm.ClassFile
def u (s : String) : CpInfo := .utf8 (stringToUtf16 s)
/-- a pool by its gaps: so many unusable entries, then the entry; so many at the end -/
def gap : Nat → List CpInfo → List CpInfo
  | 0, r => r
  | n + 1, r => .unusable :: gap n r
def poolList (es : List (Nat × CpInfo)) (last : Nat) : List CpInfo := es.foldr (fun e r => gap e.1 (e.2 :: r)) (gap last [])
def pool (es : List (Nat × CpInfo)) (last : Nat) : Array CpInfo := ⟨poolList es last⟩
def fileOf (pool : Array CpInfo) (this : Nat) (attrs : Array Attribute := #[]) (ms : Array MethodInfo := #[]) (fl : Nat := 33) (sup : Nat := 0) (ifs : Array Nat := #[]) (fds : Array FieldInfo := #[]) : ClassFile where
  minorVersion := 0
  majorVersion := 65
  constantPool := pool
  accessFlags := fl
  thisClass := this
  superClass := sup
  interfaces := ifs
  fields := fds
  methods := ms
  attributes := attrs
def plain (name : String) (sup : Option ClassId) : Class where
  name := name
  kind := .ordinary
  loader := none
  accessFlags := 33
  super := sup
  interfaces := #[]
  cf := none
  fields := #[]
  methods := #[]
  instanceTypes := #[]
  staticTypes := #[]
  resolved := #[]
  callSites := []
  init := .initialized
  statics := none
  mirror := none

def pool0 : Array CpInfo := pool [(5, u "<init>"), (0, u "()V"), (1, .class_ 10), (1, u "java/lang/Object")] 113

def k0m0 : Method := { name := "<init>", desc := "()V", sig := { parameters := [], returnType := none }, accessFlags := 1, code := none }
/-- java/lang/Object -/
def k0 : Class := { plain "java/lang/Object" none with
  accessFlags := 33
  interfaces := #[]
  cf := some (fileOf pool0 8 #[] #[{ accessFlags := 1, nameIndex := 5, descriptorIndex := 6, attributes := #[] }] 33 0 #[] #[])
  fields := #[]
  methods := #[k0m0]
  instanceTypes := #[]
  staticTypes := #[]
  resolved := Array.replicate 124 none
  statics := none }

def pool1 : Array CpInfo := pool [(2, .class_ 4), (1, u "java/lang/Object"), (0, u "<init>"), (0, u "()V"), (0, .integer 2147483647), (0, .integer 67108863), (0, .methodref 10 11), (0, .class_ 12), (0, .nameAndType 13 14), (0, u "com/example/slantwise/slantwise/engine/RecentCells"), (0, u "bytes"), (0, u "(III)J"), (0, .long 32), (1, .long 16), (1, .class_ 20), (0, u "com/example/slantwise/slantwise/engine/RecentCellsBytesPinLaw"), (2, u "law"), (0, u "(III)Z")] 3

def k1m0 : Method := { name := "<init>", desc := "()V", sig := { parameters := [], returnType := none }, accessFlags := 1, code := none }
def k1c1 : Code := { maxStack := 6, maxLocals := 19, code := code, exceptionTable := #[], attributes := #[] }
def k1m1 : Method := { name := "law", desc := "(III)Z", sig := { parameters := [.int, .int, .int], returnType := some .boolean }, accessFlags := 9, code := some k1c1 }
/-- com/example/slantwise/slantwise/engine/RecentCellsBytesPinLaw -/
def k1 : Class := { plain "com/example/slantwise/slantwise/engine/RecentCellsBytesPinLaw" (some 0) with
  accessFlags := 49
  interfaces := #[]
  cf := some (fileOf pool1 19 #[] #[{ accessFlags := 1, nameIndex := 5, descriptorIndex := 6, attributes := #[] }, { accessFlags := 9, nameIndex := 23, descriptorIndex := 24, attributes := #[] }] 49 2 #[] #[])
  fields := #[]
  methods := #[k1m0, k1m1]
  instanceTypes := #[]
  staticTypes := #[]
  resolved := Array.replicate 28 none
  statics := none }

def pool2 : Array CpInfo := pool [(1, .class_ 2), (0, u "com/example/slantwise/slantwise/engine/ReachedCells"), (0, .class_ 4), (0, u "java/lang/Object")] 8

/-- com/example/slantwise/slantwise/engine/ReachedCells -/
def k2 : Class := { plain "com/example/slantwise/slantwise/engine/ReachedCells" (some 0) with
  accessFlags := 1536
  interfaces := #[]
  cf := some (fileOf pool2 1 #[] #[] 1536 3 #[] #[])
  fields := #[]
  methods := #[]
  instanceTypes := #[]
  staticTypes := #[]
  resolved := Array.replicate 13 none
  statics := none }

def pool3 : Array CpInfo := pool [(2, .class_ 4), (1, u "java/lang/Object"), (3, .class_ 10), (1, u "com/example/slantwise/slantwise/engine/RecentCells"), (0, u "reach"), (0, u "I"), (2, u "columns"), (2, u "depth"), (2, u "values"), (0, u "[I"), (6, u "cells"), (0, .long 4), (1, .long 8), (17, u "(III)J"), (6, .class_ 58), (0, u "com/example/slantwise/slantwise/engine/ReachedCells"), (0, u "NONE"), (2, u "CELL"), (1, u "DIAGONAL"), (1, u "COLUMN"), (1, u "NEXT"), (1, u "NEXT_DIAGONAL"), (1, u "VALUE"), (1, u "TOP"), (0, u "TOP_DIAGONAL"), (0, u "STRETCH_END"), (0, u "STRETCH_COLUMN"), (0, u "PERIOD"), (0, u "PERIOD_COLUMN"), (1, u "EARLIER_PERIOD_COLUMN"), (5, u "bytes")] 7

def k3c0 : Code := { maxStack := 8, maxLocals := 3, code := prog_48_method_2_code, exceptionTable := #[], attributes := #[] }
def k3m0 : Method := { name := "bytes", desc := "(III)J", sig := { parameters := [.int, .int, .int], returnType := some .long }, accessFlags := 8, code := some k3c0 }
/-- com/example/slantwise/slantwise/engine/RecentCells -/
def k3 : Class := { plain "com/example/slantwise/slantwise/engine/RecentCells" (some 0) with
  accessFlags := 48
  interfaces := #[2]
  cf := some (fileOf pool3 8 #[] #[{ accessFlags := 8, nameIndex := 87, descriptorIndex := 50, attributes := #[] }] 48 2 #[57] #[{ accessFlags := 26, nameIndex := 59, descriptorIndex := 12, attributes := #[] }, { accessFlags := 26, nameIndex := 62, descriptorIndex := 12, attributes := #[] }, { accessFlags := 26, nameIndex := 64, descriptorIndex := 12, attributes := #[] }, { accessFlags := 26, nameIndex := 66, descriptorIndex := 12, attributes := #[] }, { accessFlags := 26, nameIndex := 68, descriptorIndex := 12, attributes := #[] }, { accessFlags := 26, nameIndex := 70, descriptorIndex := 12, attributes := #[] }, { accessFlags := 26, nameIndex := 72, descriptorIndex := 12, attributes := #[] }, { accessFlags := 26, nameIndex := 74, descriptorIndex := 12, attributes := #[] }, { accessFlags := 26, nameIndex := 75, descriptorIndex := 12, attributes := #[] }, { accessFlags := 26, nameIndex := 76, descriptorIndex := 12, attributes := #[] }, { accessFlags := 26, nameIndex := 77, descriptorIndex := 12, attributes := #[] }, { accessFlags := 26, nameIndex := 78, descriptorIndex := 12, attributes := #[] }, { accessFlags := 26, nameIndex := 79, descriptorIndex := 12, attributes := #[] }, { accessFlags := 26, nameIndex := 81, descriptorIndex := 12, attributes := #[] }, { accessFlags := 18, nameIndex := 11, descriptorIndex := 12, attributes := #[] }, { accessFlags := 18, nameIndex := 15, descriptorIndex := 12, attributes := #[] }, { accessFlags := 18, nameIndex := 18, descriptorIndex := 12, attributes := #[] }, { accessFlags := 18, nameIndex := 21, descriptorIndex := 22, attributes := #[] }, { accessFlags := 18, nameIndex := 29, descriptorIndex := 22, attributes := #[] }])
  fields := #[{ name := "NONE", type := .int, accessFlags := 26, slot := 0, constantValue := 0 }, { name := "CELL", type := .int, accessFlags := 26, slot := 1, constantValue := 0 }, { name := "DIAGONAL", type := .int, accessFlags := 26, slot := 2, constantValue := 0 }, { name := "COLUMN", type := .int, accessFlags := 26, slot := 3, constantValue := 0 }, { name := "NEXT", type := .int, accessFlags := 26, slot := 4, constantValue := 0 }, { name := "NEXT_DIAGONAL", type := .int, accessFlags := 26, slot := 5, constantValue := 0 }, { name := "VALUE", type := .int, accessFlags := 26, slot := 6, constantValue := 0 }, { name := "TOP", type := .int, accessFlags := 26, slot := 7, constantValue := 0 }, { name := "TOP_DIAGONAL", type := .int, accessFlags := 26, slot := 8, constantValue := 0 }, { name := "STRETCH_END", type := .int, accessFlags := 26, slot := 9, constantValue := 0 }, { name := "STRETCH_COLUMN", type := .int, accessFlags := 26, slot := 10, constantValue := 0 }, { name := "PERIOD", type := .int, accessFlags := 26, slot := 11, constantValue := 0 }, { name := "PERIOD_COLUMN", type := .int, accessFlags := 26, slot := 12, constantValue := 0 }, { name := "EARLIER_PERIOD_COLUMN", type := .int, accessFlags := 26, slot := 13, constantValue := 0 }, { name := "reach", type := .int, accessFlags := 18, slot := 0, constantValue := 0 }, { name := "columns", type := .int, accessFlags := 18, slot := 1, constantValue := 0 }, { name := "depth", type := .int, accessFlags := 18, slot := 2, constantValue := 0 }, { name := "values", type := (.array .int), accessFlags := 18, slot := 3, constantValue := 0 }, { name := "cells", type := (.array .int), accessFlags := 18, slot := 4, constantValue := 0 }]
  methods := #[k3m0]
  instanceTypes := #[.int, .int, .int, (.array .int), (.array .int)]
  staticTypes := #[.int, .int, .int, .int, .int, .int, .int, .int, .int, .int, .int, .int, .int, .int]
  resolved := Array.replicate 95 none
  statics := none }

def pool4 : Array CpInfo := pool [(1, u "java/lang/Cloneable"), (0, .class_ 1), (0, u "java/lang/Object"), (0, .class_ 3)] 3

/-- java/lang/Cloneable -/
def k4 : Class := { plain "java/lang/Cloneable" (some 0) with
  accessFlags := 1537
  interfaces := #[]
  cf := some (fileOf pool4 2 #[] #[] 1537 4 #[] #[])
  fields := #[]
  methods := #[]
  instanceTypes := #[]
  staticTypes := #[]
  resolved := Array.replicate 8 none
  statics := none }

def pool5 : Array CpInfo := pool [(1, u "java/io/Serializable"), (0, .class_ 1), (0, u "java/lang/Object"), (0, .class_ 3)] 3

/-- java/io/Serializable -/
def k5 : Class := { plain "java/io/Serializable" (some 0) with
  accessFlags := 1537
  interfaces := #[]
  cf := some (fileOf pool5 2 #[] #[] 1537 4 #[] #[])
  fields := #[]
  methods := #[]
  instanceTypes := #[]
  staticTypes := #[]
  resolved := Array.replicate 8 none
  statics := none }

/-- the primitive byte -/
def k6 : Class := { plain "byte" none with kind := .primitive 'B', accessFlags := 0x411 }
/-- [B -/
def k7 : Class := { plain "[B" (some 0) with kind := .array 6 .byte, interfaces := #[4, 5], accessFlags := 1041 }

/-- the primitive int -/
def k8 : Class := { plain "int" none with kind := .primitive 'I', accessFlags := 0x411 }
/-- [I -/
def k9 : Class := { plain "[I" (some 0) with kind := .array 8 .int, interfaces := #[4, 5], accessFlags := 1041 }

def heap : Heap := #[]
def classes : Array Class := #[k0, k1, k2, k3, k4, k5, k6, k7, k8, k9]
def interned : List (Array UInt16 × Addr) := []
def slotsUsed : Nat := 0
def theMethod : MethodId := ⟨1, 1⟩
def args0 : Array Value := #[.int 5, .int 6, .int 7]
def aboutOver (below : List Frame) : State where
  vm := { classes := classes, interned := interned.toArray }
  heap := heap
  slotsUsed := slotsUsed
  threads := #[{ frames := .invoking theMethod args0 :: below }]
def below0 : List Frame := [.native { method := ⟨0, 0⟩, args := #[] }]
def about1 : State := aboutOver below0
def p0 : Program := .bare "" "" ""
def e0 : Env := launch0.env 0 0 0
theorem w_frames : about1.frames = Frame.invoking theMethod args0 :: below0 := rfl
set_option maxRecDepth 65536 in
theorem w_args : argsFit about1.vm theMethod args0 = true := by decide +kernel
set_option maxRecDepth 65536 in
theorem w_heap : heapFits about1 = true := by decide +kernel
set_option maxRecDepth 65536 in
theorem w_runnable : about1.curStatus? = some .runnable := by decide +kernel
set_option maxRecDepth 65536 in
theorem w_alone : about1.alone = true := by decide +kernel
set_option maxRecDepth 65536 in
theorem w_named : about1.methodNamed? x = some theMethod := by decide +kernel
set_option maxRecDepth 65536 in
theorem w_hears : about1.hears theMethod below0 = true := by decide +kernel
set_option maxRecDepth 65536 in
theorem w_ripe : about1.ripe theMethod args0 below0 = true := by decide +kernel
theorem w_running : about1.status = .running := rfl
set_option maxRecDepth 65536 in
theorem w_room : about1.hasRoom e0.platform room_1 = true :=
  launch0.hasRoom_least _ room_1 (by decide +kernel) (by decide +kernel) (by decide +kernel) (by decide +kernel) (by decide +kernel) (by decide +kernel)
theorem allAtoms_all (ts : List Jvm.Cond) (a : Array Jvm.Value) (st : Jvm.State) : (allAtoms ts).before a st = ts.all (fun c => c.before a st) := by
  induction ts with
  | nil => rfl
  | cons c t ih =>
    show (Jvm.Cond.and c (allAtoms t)).before a st = _
    rw [Jvm.Cond.before_and, ih, List.all_cons]
def words1 : List Jvm.Cond := Jvm.Cond.code x code maxLocals ret :: tables_1
/-- a 'code' word, met by the world's own term for the bytes: nothing is compared byte by byte -/
theorem code_word {y : MethodName} {bytes : ByteArray} {mx : Nat} {rt : Option FieldType} {a : Array Value} {s : State} {m : MethodId} {meth : Method} {c : Code} (h1 : s.methodNamed? y = some m) (h2 : s.vm.method? m = some meth) (h3 : meth.code = some c) (h4 : c.code = bytes)
    (h5 : (c.maxLocals == mx && c.exceptionTable.isEmpty && decide (c.maxStack ≤ mostOperands) && decide (meth.sig.returnType = rt) && !meth.locks && decide (parseMethodDescriptor y.desc = some meth.sig)) = true) : (Jvm.Cond.code y bytes mx rt).before a s = true := by
  simp only [Bool.and_eq_true, beq_iff_eq, Bool.not_eq_true', decide_eq_true_eq] at h5
  obtain ⟨⟨⟨⟨⟨g1, g2⟩, g3⟩, g4⟩, g5⟩, g6⟩ := h5
  simp [Cond.before, Cond.holds, Cond.value, h1, h2, h3, h4, g1, g2, g3, g4, g5, g6]
def isCode : Jvm.Cond → Bool
  | .code _ _ _ _ => true
  | _ => false
theorem all_split {L : List Jvm.Cond} {P : Jvm.Cond → Bool} (h1 : L.all (fun c => isCode c || P c) = true) (h2 : ∀ c ∈ L.filter isCode, P c = true) : L.all P = true := by
  refine List.all_eq_true.mpr fun c hc => ?_
  have h := List.all_eq_true.mp h1 c hc
  rcases Bool.eq_false_or_eq_true (isCode c) with hi | hi
  · exact h2 c (List.mem_filter.mpr ⟨hc, hi⟩)
  · simpa [hi] using h
set_option maxRecDepth 65536 in
theorem w_c0 : (Jvm.Cond.code x code maxLocals ret).before args0 about1 = true := code_word (m := ⟨1, 1⟩) (meth := k1m1) (c := k1c1) (by decide +kernel) rfl rfl rfl (by decide +kernel)
set_option maxRecDepth 65536 in
theorem w_c1 : (Jvm.Cond.code ({ cls := "com/example/slantwise/slantwise/engine/RecentCells", name := "bytes", desc := "(III)J" } : Jvm.MethodName) prog_48_method_2_code (3 : Nat) (Option.some Jvm.ClassFile.FieldType.long)).before args0 about1 = true := code_word (m := ⟨3, 0⟩) (meth := k3m0) (c := k3c0) (by decide +kernel) rfl rfl rfl (by decide +kernel)
def codes1 : List Jvm.Cond := [Jvm.Cond.code x code maxLocals ret, Jvm.Cond.code ({ cls := "com/example/slantwise/slantwise/engine/RecentCells", name := "bytes", desc := "(III)J" } : Jvm.MethodName) prog_48_method_2_code (3 : Nat) (Option.some Jvm.ClassFile.FieldType.long)]
set_option maxRecDepth 65536 in
theorem codes_eq : words1.filter isCode = codes1 := rfl
theorem w_codes : ∀ c ∈ words1.filter isCode, c.before args0 about1 = true := by
  rw [codes_eq]
  intro c hc
  simp only [codes1, List.mem_cons, List.not_mem_nil, or_false] at hc
  rcases hc with rfl | rfl
  · exact w_c0
  · exact w_c1
set_option maxRecDepth 65536 in
theorem w_t1 : words1.all (fun c => isCode c || c.before args0 about1) = true := by decide +kernel
theorem w_tables : (allAtoms (Jvm.Cond.code x code maxLocals ret :: tables_1)).before args0 about1 = true := by
  rw [allAtoms_all]
  show words1.all (fun c => c.before args0 about1) = true
  refine all_split ?_ w_codes
  rw [w_t1]
set_option maxRecDepth 65536 in
theorem w_case : (Jvm.Cond.and given_1 narrow_1).before args0 about1 = true := by decide +kernel
theorem w_applies : (headSpec (Jvm.Cond.code x code maxLocals ret :: tables_1) room_1).applies x e0.platform about1 = true :=
  (Spec.applies_iff w_frames).mpr ⟨w_running, w_runnable, w_alone, w_named, w_hears, w_ripe, w_room, w_tables⟩
theorem atStart : AtStart classFile x code maxLocals ret World_1 tables_1 room_1 Calls_1 rest_1 Pre_1 launch0 p0 e0 about1 theMethod args0 below0 :=
  ⟨lists_1, trivial, launch0.admits_env _ _ _, launch0.least_env, fairChoices_fair.cas, fairChoices_fair.clock, w_frames, w_args, w_heap, w_applies, trivial, trivial, w_case⟩
end start1
theorem witness_1 : WitnessClaimed_1 := ⟨start1.p0, start1.e0, start1.about1, start1.theMethod, start1.args0, start1.below0, start1.atStart⟩
end Jvm.Pilot.@@N@@
