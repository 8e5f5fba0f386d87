import JvmDerived
import JvmDerived.Pilot.@@N@@Statement
import JvmDerived.Pilot.@@N@@Code
set_option linter.unusedVariables false
set_option linter.unusedSimpArgs false
namespace Jvm.Pilot.@@N@@
open Jvm Jvm.ClassFile Sem Op Lib Jvm.Free Jvm.Stand Jvm.LawKit Jvm.RoadKit Bundle Jvm.Pilot.@@N@@.Jvm.D
/-! own_: A WALK AS A CHAIN OF 'Go': from T, with the frame g on top, the run comes to a state of which P holds. A fork (by_cases, rcases) may stand anywhere in the chain. -/
def Go (p : Program) (e : Env) (below : List Frame) (P : State → Prop) (T : State) (g : JFrame) : Prop := ∃ t, Steps p.tables e below (T.setTop g) t ∧ P t
/-- what a body owes at its end -/
def EndP (below : List Frame) (s : State) (Q : Option Value → Heap → List Loc → Prop) (ce sl : Nat) (t : State) : Prop := ∃ o, t.status = .running ∧ Ended t below o ∧ ∃ v L, o = .returned v ∧ Q v t.heap L ∧ FrameEnd s o t L ce sl
/-- a method's contract: called with as' on the heap h0 it returns, and Q holds of what it returns, the heap that it leaves and the places that it wrote -/
abbrev Does (l : Launch) (y : MethodName) (bytes : ByteArray) (maxL : Nat) (rt : Option FieldType) (ws : List Jvm.Cond) (rm : Room) (as' : Array Value) (Z : State) (h0 : Heap) (Q : Option Value → Heap → List Loc → Prop) : Prop :=
  MetFree l y (head1 (Jvm.Cond.code y bytes maxL rt :: ws) rm) (fun a U => a = as' ∧ Z.Warmed39 U.vm ∧ U.heap = h0) (fun _ _ _ _ _ => True) (fun _ U o U' => ∃ v L, o = .returned v ∧ Q v U'.heap L ∧ FrameEnd U o U' L rm.cells rm.slots)
section Own
variable {p : Program} {l : Launch} {e : Env} {R : Room} {s : State} {m : MethodId} {args : Array Value} {below : List Frame} {meth : Method} {c : Code} {T T' : State} {locs : List Loc} {cells slots : Nat} {P : State → Prop} {g g' : JFrame} {Z : State} {h h0 : Heap} {a0 as' : Array Value} {own : String} {index : Nat} {y z : MethodName} {bytes : ByteArray} {maxL : Nat} {rt : Option FieldType} {rm : Room} {ws : List Jvm.Cond} {Q : Option Value → Heap → List Loc → Prop} {ce sl W : Nat} {argsL rest : List Value}
theorem Go.st (hh : Go p e below P T' g') (st : ∀ t, Steps p.tables e below (T'.setTop g') t → Steps p.tables e below (T.setTop g) t) : Go p e below P T g := by
  obtain ⟨t, h1, h2⟩ := hh
  exact ⟨t, st t h1, h2⟩
theorem Go.cast (q : g = g') (hh : Go p e below P T g') : Go p e below P T g := q ▸ hh
theorem Go.ret {v : Option Value} (X : Stand p l e R s m args below meth c T locs cells slots) (hv : meth.sig.returnType = none → v = none) (hlocks : meth.locks = false) (hc : cells ≤ ce) (hs : slots ≤ sl) (hq : Q v T.heap locs)
    (st : ∀ fs, (∀ (f : JFrame) (acts : List Action), f.method = m → f.locked = none → f.entered = [] → (doReturn e (T.setTop f) acts v).1 = T.setFrames fs) → Steps p.tables e below (T.setTop g) (T.setFrames fs)) : Go p e below (EndP below s Q ce sl) T g := by
  obtain ⟨fs, hr, hrun, hended, hW, hsame⟩ := X.leave (v := v) hv hlocks
  exact ⟨_, st fs hr, _, hrun, hended, _, _, rfl, hq, ⟨_, rfl⟩, hW, hsame.mono hc hs⟩
/-- a value is returned -/
theorem Go.retV {w : Value} {t : FieldType} {i : Instr} {pc : Nat} {Ls : Array Slot} (X : Stand p l e R s m args below meth c T locs cells slots) (hx : p.tables.exec = Jvm.exec) (hret : meth.sig.returnType = some t) (hlocks : meth.locks = false) (hc : cells ≤ ce) (hs : slots ≤ sl) (hn : narrow t w = w)
    (hi : (i = .ireturn ∧ (t = .int ∨ t = .boolean ∨ t = .byte ∨ t = .char ∨ t = .short) ∧ ∃ z, w = .int z) ∨ (i = .lreturn ∧ t = .long ∧ ∃ z, w = .long z) ∨ (i = .dreturn ∧ t = .double ∧ ∃ z, w = .double z) ∨ (i = .freturn ∧ t = .float ∧ ∃ z, w = .float z) ∨ (i = .areturn ∧ t.isReference = true ∧ w.isRef = true))
    (hd : decode c.code pc = .ok (i, 1)) (hq : Q (some w) T.heap locs) : Go p e below (EndP below s Q ce sl) T (mkF m pc Ls (w :: rest)) :=
  Go.ret X (fun q => by rw [hret] at q; cases q) hlocks hc hs hq fun _ hr => retOut X hx hret hn hi hd hr
/-- nothing is returned -/
theorem Go.retU {pc : Nat} {Ls : Array Slot} (X : Stand p l e R s m args below meth c T locs cells slots) (hx : p.tables.exec = Jvm.exec) (hret : meth.sig.returnType = none) (hlocks : meth.locks = false) (hc : cells ≤ ce) (hs : slots ≤ sl)
    (hd : decode c.code pc = .ok (.return_, 1)) (hq : Q none T.heap locs) : Go p e below (EndP below s Q ce sl) T (mkF m pc Ls []) :=
  Go.ret X (fun _ => rfl) hlocks hc hs hq fun _ hr => X.returnOut hx hret hd hr
/-- a body that goes well has its contract -/
theorem Does.of (hp : plainFor y = true) (body : ∀ (p : Program) (e : Env) (s : State) (m : MethodId) (below : List Frame) (meth : Method) (c : Code) (s₁ : State), p.tables.exec = Jvm.exec → c.code = bytes → c.maxLocals = maxL → meth.sig.returnType = rt → meth.locks = false → s.vm.findClass y.cls = some m.cls → meth.name = y.name → Z.Warmed39 s.vm →
      Stand p l e rm s m as' below meth c s₁ [] 0 0 → s₁.heap = h0 → Go p e below (EndP below s Q rm.cells rm.slots) s₁ (entryFrame m as' maxL)) : Does l y bytes maxL rt ws rm as' Z h0 Q := by
  refine MetFree.of_bodySF hp hisR ?_
  intro p e s m args below meth c s₁ Bd hml0 hP hK
  obtain ⟨rfl, hZ, hh⟩ := hP
  obtain ⟨t, h1, o, h2, h3, h4⟩ := body p e s m below meth c s₁ Bd.exec Bd.bytes hml0 Bd.returns Bd.notSynchronized (findClass_of_methodNamed Bd.named) (name_of_methodNamed Bd.named Bd.method).1 hZ (Stand.of_body Bd) (by rw [← hh, Bd.state]; rfl)
  exact ⟨t, o, h1, h2, h3, h4⟩
/-- a static call by the callee's contract -/
theorem Go.callS (X : Stand p l e R s m args below meth c T locs cells slots) (hx : p.tables.exec = Jvm.exec) (hZ : Z.Warmed39 s.vm) (hown : s.vm.findClass own = some m.cls) (w1 : (Jvm.Cond.methodLink own index y).before a0 Z = true) (w2 : (Jvm.Cond.static y).before a0 Z = true) (w3 : (Jvm.Cond.initialized y.cls).before a0 Z = true) (w4 : (Jvm.Cond.code y bytes maxL rt).before a0 Z = true)
    (hy : y.cls ≠ "java/lang/invoke/MethodHandle" ∧ y.cls ≠ "java/lang/invoke/VarHandle") (D : Does l y bytes maxL rt [] rm argsL.toArray Z h Q) (eT : T.heap = h) (hf : rm.frames + 1 ≤ R.frames) (hl : W + (maxL + 11) + rm.locals ≤ R.locals) (hc : cells + rm.cells ≤ R.cells) (hs : slots + rm.slots ≤ R.slots)
    (hg : g.method = m) (hsize : g.locals.size = c.maxLocals) (hlen : ∀ sig, parseMethodDescriptor y.desc = some sig → argsL.length = sig.parameters.length) (hstack : g.stack = argsL.reverse ++ rest) (hW : 2 * g.monitorRoom + (rest.map fun v => v.category).sum ≤ W) (hdg : decode c.code g.pc = .ok (.invokestatic index, 3))
    (k : ∀ (v : Option Value) (T' : State) (L : List Loc), Stand p l e R s m args below meth c T' (locs ++ L) (cells + rm.cells) (slots + rm.slots) → Q v T'.heap L → Go p e below P T' { g with pc := g.pc + 3, stack := v.toList ++ rest }) : Go p e below P T g := by
  obtain ⟨v, _, ⟨T1, L1, k1, n1⟩, -, X1, ⟨Lc, hQ, l1, y1, z1⟩, st⟩ := Jvm.LawKit.callS X hx (y := y) hown (mvT hZ w1) (mvT hZ w2) (mvT hZ w3) (mvT hZ w4) hy (backOf (W := W) D hZ w4 w3 hf hl) (g := g) hg hsize (argsL := argsL) (rest := rest) hlen hstack hW hdg (fun _ _ => ⟨rfl, eT, hc, hs⟩)
  dsimp only [Pt.U, Pt.locs, Pt.cells, Pt.slots] at X1 l1 y1 z1 st hQ
  subst l1 y1 z1
  exact Go.st (k v T1 Lc X1 hQ) st
/-- a virtual call by the contract of the method that it selects -/
theorem Go.callV {C : String} {a : Addr} (X : Stand p l e R s m args below meth c T locs cells slots) (hx : p.tables.exec = Jvm.exec) (hZ : Z.Warmed39 s.vm) (hown : s.vm.findClass own = some m.cls) (w1 : (Jvm.Cond.methodLink own index y).before a0 Z = true) (w2 : (Jvm.Cond.declares y).before a0 Z = true) (w5 : (Jvm.Cond.selects C y y).before a0 Z = true) (w6 : (Jvm.Cond.instanceMethod y).before a0 Z = true) (w3 : (Jvm.Cond.initialized y.cls).before a0 Z = true) (w4 : (Jvm.Cond.code y bytes maxL rt).before a0 Z = true)
    (hy : y.cls ≠ "java/lang/invoke/MethodHandle" ∧ y.cls ≠ "java/lang/invoke/VarHandle") (A : Exa Z h a C) (D : Does l y bytes maxL rt [] rm (.ref a :: argsL).toArray Z h Q) (eT : T.heap = h) (hf : rm.frames + 1 ≤ R.frames) (hl : W + (maxL + 11) + rm.locals ≤ R.locals) (hc : cells + rm.cells ≤ R.cells) (hs : slots + rm.slots ≤ R.slots)
    (hg : g.method = m) (hsize : g.locals.size = c.maxLocals) (hlen : ∀ sig, parseMethodDescriptor y.desc = some sig → argsL.length = sig.parameters.length) (hstack : g.stack = argsL.reverse ++ .ref a :: rest) (hW : 2 * g.monitorRoom + (rest.map fun v => v.category).sum ≤ W) (hdg : decode c.code g.pc = .ok (.invokevirtual index, 3))
    (k : ∀ (v : Option Value) (T' : State) (L : List Loc), Stand p l e R s m args below meth c T' (locs ++ L) (cells + rm.cells) (slots + rm.slots) → Q v T'.heap L → Go p e below P T' { g with pc := g.pc + 3, stack := v.toList ++ rest }) : Go p e below P T g := by
  obtain ⟨cq, kq, qa, qb, qc⟩ := isOf hZ eT A
  obtain ⟨v, _, ⟨T1, L1, k1, n1⟩, -, X1, ⟨Lc, hQ, l1, y1, z1⟩, st⟩ := X.virtualBack hx (y := y) (z := y) hown (mvT hZ w1) (mvT hZ w2) (notFace_of_selects (args := #[]) (mvT hZ w5)) (mvT hZ w5) (mvT hZ w6) hy (backOf (W := W) D hZ w4 w3 hf hl) qa qc (g := g) hg hsize (Steps.refl _) (argsL := argsL) (rest := rest) hlen hstack hW hdg (fun _ _ => ⟨rfl, eT, hc, hs⟩)
  dsimp only [Pt.U, Pt.locs, Pt.cells, Pt.slots] at X1 l1 y1 z1 st hQ
  subst l1 y1 z1
  exact Go.st (k v T1 Lc X1 hQ) fun _ q => st.trans q
/-- a constructor by its contract -/
theorem Go.callI {a : Addr} (X : Stand p l e R s m args below meth c T locs cells slots) (hx : p.tables.exec = Jvm.exec) (hZ : Z.Warmed39 s.vm) (hown : s.vm.findClass own = some m.cls) (hin : y.name = "<init>") (w1 : (Jvm.Cond.methodLink own index y).before a0 Z = true) (w6 : (Jvm.Cond.instanceMethod y).before a0 Z = true) (w3 : (Jvm.Cond.initialized y.cls).before a0 Z = true) (w4 : (Jvm.Cond.code y bytes maxL none).before a0 Z = true)
    (hy : y.cls ≠ "java/lang/invoke/MethodHandle" ∧ y.cls ≠ "java/lang/invoke/VarHandle") (D : Does l y bytes maxL none [] rm (.ref a :: argsL).toArray Z h Q) (eT : T.heap = h) (hf : rm.frames + 1 ≤ R.frames) (hl : W + (maxL + 11) + rm.locals ≤ R.locals) (hc : cells + rm.cells ≤ R.cells) (hs : slots + rm.slots ≤ R.slots)
    (hg : g.method = m) (hsize : g.locals.size = c.maxLocals) (hlen : ∀ sig, parseMethodDescriptor y.desc = some sig → argsL.length = sig.parameters.length) (hstack : g.stack = argsL.reverse ++ .ref a :: rest) (hW : 2 * g.monitorRoom + (rest.map fun v => v.category).sum ≤ W) (hdg : decode c.code g.pc = .ok (.invokespecial index, 3))
    (k : ∀ (v : Option Value) (T' : State) (L : List Loc), Stand p l e R s m args below meth c T' (locs ++ L) (cells + rm.cells) (slots + rm.slots) → Q v T'.heap L → Go p e below P T' { g with pc := g.pc + 3, stack := v.toList ++ rest }) : Go p e below P T g := by
  obtain ⟨v, _, ⟨T1, L1, k1, n1⟩, -, X1, ⟨Lc, hQ, l1, y1, z1⟩, st⟩ := X.specialBack hx (y := y) hin hown (mvT hZ w1) (mvT hZ w6) (mvT hZ w4) hy (backOf (W := W) D hZ w4 w3 hf hl) (g := g) hg hsize (Steps.refl _) (a := a) (argsL := argsL) (rest := rest) hlen hstack hW hdg (fun _ _ => ⟨rfl, eT, hc, hs⟩)
  dsimp only [Pt.U, Pt.locs, Pt.cells, Pt.slots] at X1 l1 y1 z1 st hQ
  subst l1 y1 z1
  exact Go.st (k v T1 Lc X1 hQ) fun _ q => st.trans q
end Own
theorem own_i_eq {x y : Int32} {a b : Int} (hx : x.toInt = a) (hy : y.toInt = b) (q : a = b) : x = y := Int32.toInt_inj.mp (by rw [hx, hy, q])
theorem own_i_neq {x y : Int32} {a b : Int} (hx : x.toInt = a) (hy : y.toInt = b) (q : ¬ a = b) : ¬ x = y := fun r => q (by rw [← hx, ← hy, r])
theorem own_i_lt {x y : Int32} {a b : Int} (hx : x.toInt = a) (hy : y.toInt = b) (q : a < b) : x < y := by rw [Int32.lt_iff_toInt_lt, hx, hy]; exact q
theorem own_i_nlt {x y : Int32} {a b : Int} (hx : x.toInt = a) (hy : y.toInt = b) (q : ¬ a < b) : ¬ x < y := by rw [Int32.lt_iff_toInt_lt, hx, hy]; exact q
theorem own_l_eq {x y : Int64} {a b : Int} (hx : x.toInt = a) (hy : y.toInt = b) (q : a = b) : x = y := Int64.toInt_inj.mp (by rw [hx, hy, q])
theorem own_l_neq {x y : Int64} {a b : Int} (hx : x.toInt = a) (hy : y.toInt = b) (q : ¬ a = b) : ¬ x = y := fun r => q (by rw [← hx, ← hy, r])
theorem own_l_lt {x y : Int64} {a b : Int} (hx : x.toInt = a) (hy : y.toInt = b) (q : a < b) : x < y := by rw [Int64.lt_iff_toInt_lt, hx, hy]; exact q
theorem own_l_nlt {x y : Int64} {a b : Int} (hx : x.toInt = a) (hy : y.toInt = b) (q : ¬ a < b) : ¬ x < y := by rw [Int64.lt_iff_toInt_lt, hx, hy]; exact q
/-- a number in a field, out of the case's words -/
theorem own_fldInt {args : Array Value} {s : State} {t : Term} {a : Addr} {C n d : String} {k : Int32} (ht : t.eval args s none [] s = some (.ref a)) (hh : (Jvm.Cond.eq (.field t C n d) (.int k)).value args s none s [] = some true) : Fld s s.heap a C n d (.int k) := by
  refine Fld.start ?_
  simp only [Jvm.Cond.value, fld_at ht, Term.int_eval] at hh
  cases hf : s.fieldOf? a C n d with
  | none => simp [hf] at hh
  | some v => cases v <;> simp_all
/-- what the case says of the constants -/
def own_F (Z : State) (h : Heap) (w_ZDT1 w_DTLZ1 w_ZDT6 w_ZDT2 w_DTLZ2 w_DTLZ2B w_ZDT4 w_ZDT3 w_DTLZ1B : Addr) : Prop := Sta Z h "com/example/tesserae/tesserae/problem/Benchmark" "ZDT1" "Lcom/example/tesserae/tesserae/problem/Benchmark;" (.ref w_ZDT1) ∧ Sta Z h "com/example/tesserae/tesserae/problem/Benchmark" "DTLZ1" "Lcom/example/tesserae/tesserae/problem/Benchmark;" (.ref w_DTLZ1) ∧ Sta Z h "com/example/tesserae/tesserae/problem/Benchmark" "ZDT6" "Lcom/example/tesserae/tesserae/problem/Benchmark;" (.ref w_ZDT6) ∧ Sta Z h "com/example/tesserae/tesserae/problem/Benchmark" "ZDT2" "Lcom/example/tesserae/tesserae/problem/Benchmark;" (.ref w_ZDT2) ∧ Sta Z h "com/example/tesserae/tesserae/problem/Benchmark" "DTLZ2" "Lcom/example/tesserae/tesserae/problem/Benchmark;" (.ref w_DTLZ2) ∧ Sta Z h "com/example/tesserae/tesserae/problem/Benchmark" "DTLZ2B" "Lcom/example/tesserae/tesserae/problem/Benchmark;" (.ref w_DTLZ2B) ∧ Sta Z h "com/example/tesserae/tesserae/problem/Benchmark" "ZDT4" "Lcom/example/tesserae/tesserae/problem/Benchmark;" (.ref w_ZDT4) ∧ Sta Z h "com/example/tesserae/tesserae/problem/Benchmark" "ZDT3" "Lcom/example/tesserae/tesserae/problem/Benchmark;" (.ref w_ZDT3) ∧ Sta Z h "com/example/tesserae/tesserae/problem/Benchmark" "DTLZ1B" "Lcom/example/tesserae/tesserae/problem/Benchmark;" (.ref w_DTLZ1B) ∧ Exa Z h w_ZDT1 "com/example/tesserae/tesserae/problem/Benchmark" ∧ Exa Z h w_DTLZ1 "com/example/tesserae/tesserae/problem/Benchmark" ∧ Exa Z h w_ZDT6 "com/example/tesserae/tesserae/problem/Benchmark" ∧ Exa Z h w_ZDT2 "com/example/tesserae/tesserae/problem/Benchmark" ∧ Exa Z h w_DTLZ2 "com/example/tesserae/tesserae/problem/Benchmark" ∧ Exa Z h w_DTLZ2B "com/example/tesserae/tesserae/problem/Benchmark" ∧ Exa Z h w_ZDT4 "com/example/tesserae/tesserae/problem/Benchmark" ∧ Exa Z h w_ZDT3 "com/example/tesserae/tesserae/problem/Benchmark" ∧ Exa Z h w_DTLZ1B "com/example/tesserae/tesserae/problem/Benchmark" ∧ Fld Z h w_ZDT1 "com/example/tesserae/tesserae/problem/Benchmark" "scalable" "Z" (.int (0 : Int32)) ∧ Fld Z h w_ZDT1 "com/example/tesserae/tesserae/problem/Benchmark" "variables" "I" (.int (30 : Int32)) ∧ Fld Z h w_DTLZ1 "com/example/tesserae/tesserae/problem/Benchmark" "scalable" "Z" (.int (1 : Int32)) ∧ Fld Z h w_DTLZ1 "com/example/tesserae/tesserae/problem/Benchmark" "variables" "I" (.int (4 : Int32)) ∧ Fld Z h w_ZDT6 "com/example/tesserae/tesserae/problem/Benchmark" "scalable" "Z" (.int (0 : Int32)) ∧ Fld Z h w_ZDT6 "com/example/tesserae/tesserae/problem/Benchmark" "variables" "I" (.int (10 : Int32)) ∧ Fld Z h w_ZDT2 "com/example/tesserae/tesserae/problem/Benchmark" "scalable" "Z" (.int (0 : Int32)) ∧ Fld Z h w_ZDT2 "com/example/tesserae/tesserae/problem/Benchmark" "variables" "I" (.int (30 : Int32)) ∧ Fld Z h w_DTLZ2 "com/example/tesserae/tesserae/problem/Benchmark" "scalable" "Z" (.int (1 : Int32)) ∧ Fld Z h w_DTLZ2 "com/example/tesserae/tesserae/problem/Benchmark" "variables" "I" (.int (9 : Int32)) ∧ Fld Z h w_DTLZ2B "com/example/tesserae/tesserae/problem/Benchmark" "scalable" "Z" (.int (0 : Int32)) ∧ Fld Z h w_DTLZ2B "com/example/tesserae/tesserae/problem/Benchmark" "variables" "I" (.int (10 : Int32)) ∧ Fld Z h w_ZDT4 "com/example/tesserae/tesserae/problem/Benchmark" "scalable" "Z" (.int (0 : Int32)) ∧ Fld Z h w_ZDT4 "com/example/tesserae/tesserae/problem/Benchmark" "variables" "I" (.int (10 : Int32)) ∧ Fld Z h w_ZDT3 "com/example/tesserae/tesserae/problem/Benchmark" "scalable" "Z" (.int (0 : Int32)) ∧ Fld Z h w_ZDT3 "com/example/tesserae/tesserae/problem/Benchmark" "variables" "I" (.int (30 : Int32)) ∧ Fld Z h w_DTLZ1B "com/example/tesserae/tesserae/problem/Benchmark" "scalable" "Z" (.int (0 : Int32)) ∧ Fld Z h w_DTLZ1B "com/example/tesserae/tesserae/problem/Benchmark" "variables" "I" (.int (10 : Int32))
def own_vars (a1 : Addr) (p1 f1 f2 : Int32)  : Int32 := if f1 = (0 : Int32) then f2 else (p1 + f2)
theorem d_prog_42_method_8_code_0 : decode prog_42_method_8_code 0 = .ok (.aload_n 0, 1) := by decide +kernel
theorem d_prog_42_method_8_code_1 : decode prog_42_method_8_code 1 = .ok (.getfield 58, 3) := by decide +kernel
theorem d_prog_42_method_8_code_4 : decode prog_42_method_8_code 4 = .ok (.ifCond .eq 12, 3) := by decide +kernel
theorem d_prog_42_method_8_code_16 : decode prog_42_method_8_code 16 = .ok (.aload_n 0, 1) := by decide +kernel
theorem d_prog_42_method_8_code_17 : decode prog_42_method_8_code 17 = .ok (.getfield 62, 3) := by decide +kernel
theorem d_prog_42_method_8_code_20 : decode prog_42_method_8_code 20 = .ok (.ireturn, 1) := by decide +kernel
theorem d_prog_42_method_8_code_7 : decode prog_42_method_8_code 7 = .ok (.iload_n 1, 1) := by decide +kernel
theorem d_prog_42_method_8_code_8 : decode prog_42_method_8_code 8 = .ok (.aload_n 0, 1) := by decide +kernel
theorem d_prog_42_method_8_code_9 : decode prog_42_method_8_code 9 = .ok (.getfield 62, 3) := by decide +kernel
theorem d_prog_42_method_8_code_12 : decode prog_42_method_8_code 12 = .ok (.iadd, 1) := by decide +kernel
theorem d_prog_42_method_8_code_13 : decode prog_42_method_8_code 13 = .ok (.goto 7, 3) := by decide +kernel
theorem pn_com_example_tesserae_tesserae_problem_Benchmark : plainName "com/example/tesserae/tesserae/problem/Benchmark" = true := by first | (simp [plainName, overriddenIn]; done) | decide +kernel
set_option maxRecDepth 65536 in
set_option maxHeartbeats 40000000 in
theorem rm1 (l : Launch) (Z : State) (a0 : Array Value) (hw : ∀ d ∈ tables_1, d.before a0 Z = true) (ws : List Jvm.Cond) (a1 : Addr) (p1 f1 f2 : Int32)  (h0 : Heap) (n0 : Nat) (Z0 : n0 ≤ h0.size)  (G_f1 : Fld Z h0 a1 "com/example/tesserae/tesserae/problem/Benchmark" "scalable" "Z" (.int f1)) (G_f2 : Fld Z h0 a1 "com/example/tesserae/tesserae/problem/Benchmark" "variables" "I" (.int f2)) :
    Does l (⟨"com/example/tesserae/tesserae/problem/Benchmark", "defaultVariables", "(I)I"⟩ : MethodName) prog_42_method_8_code 2 (some .int) ws ({ frames := 0, cells := 0, slots := 0, locals := 0 } : Room) #[(.ref a1), (.int p1)] Z h0 (fun v h L => v = some (.int (own_vars a1 p1 f1 f2 )) ∧ Fr n0 L ∧ h = h0) := by
  refine Does.of (plainFor_of_name pn_com_example_tesserae_tesserae_problem_Benchmark) ?_
  intro p e s m below meth c s₁ hx hby hml hret hlk hown0 hnm hZ X0 e0
  have hown : s.vm.findClass "com/example/tesserae/tesserae/problem/Benchmark" = some m.cls := hown0
  have N0 := Fr.nil n0
  refine Go.cast (g' := (mkF m 0 #[.val (.ref a1), .val (.int p1)] [])) (by first | rfl | (simp [entryFrame, mkF, argsToLocals, Value.category, maxLocals]; done)) ?_
  refine Go.st (T' := s₁) (g' := (mkF m 1 #[.val (.ref a1), .val (.int p1)] [(.ref a1)])) ?_ (fun _ k => XS.aloadN X0.here hx rfl (hb hby d_prog_42_method_8_code_0) rfl rfl k)
  obtain ⟨T1, X1, e1, st1⟩ := getF X0 hx hZ hown (host := "") (Or.inl (hw _ (List.mem_of_getElem? (i := 9) rfl))) Via.refl e0 G_f1 (g := (mkF m 1 #[.val (.ref a1), .val (.int p1)] [(.ref a1)])) rfl rfl (hb hby d_prog_42_method_8_code_1)
  refine Go.st (T' := T1) (g' := (mkF m 4 #[.val (.ref a1), .val (.int p1)] [(.int f1)])) ?_ st1
  by_cases hc2 : f1 = (0 : Int32)
  · refine Go.st (T' := T1) (g' := (mkF m 16 #[.val (.ref a1), .val (.int p1)] [])) ?_ (fun _ k => XS.ifYes X1.here hx rfl (pc0 := 4) (pc' := 16) rfl (hb hby d_prog_42_method_8_code_4) rfl ((if0 _ _).trans (teq hc2).1) (by decide) (by decide) k)
    refine Go.st (T' := T1) (g' := (mkF m 17 #[.val (.ref a1), .val (.int p1)] [(.ref a1)])) ?_ (fun _ k => XS.aloadN X1.here hx rfl (hb hby d_prog_42_method_8_code_16) rfl rfl k)
    obtain ⟨T3, X3, e3, st3⟩ := getF X1 hx hZ hown (host := "") (Or.inl (hw _ (List.mem_of_getElem? (i := 11) rfl))) Via.refl e1 G_f2 (g := (mkF m 17 #[.val (.ref a1), .val (.int p1)] [(.ref a1)])) rfl rfl (hb hby d_prog_42_method_8_code_17)
    refine Go.st (T' := T3) (g' := (mkF m 20 #[.val (.ref a1), .val (.int p1)] [(.int f2)])) ?_ st3
    exact Go.retV (t := .int) X3 hx hret hlk (by decide) (by decide) rfl (Or.inl ⟨rfl, Or.inl rfl, _, rfl⟩) (hb hby d_prog_42_method_8_code_20) ⟨by rw [own_vars, if_pos hc2], N0, e3⟩
  · refine Go.st (T' := T1) (g' := (mkF m 7 #[.val (.ref a1), .val (.int p1)] [])) ?_ (fun _ k => XS.ifNo X1.here hx rfl (hb hby d_prog_42_method_8_code_4) rfl ((if0 _ _).trans (feq hc2).1) k)
    refine Go.st (T' := T1) (g' := (mkF m 8 #[.val (.ref a1), .val (.int p1)] [(.int p1)])) ?_ (fun _ k => XS.iloadN X1.here hx rfl (hb hby d_prog_42_method_8_code_7) rfl k)
    refine Go.st (T' := T1) (g' := (mkF m 9 #[.val (.ref a1), .val (.int p1)] [(.ref a1), (.int p1)])) ?_ (fun _ k => XS.aloadN X1.here hx rfl (hb hby d_prog_42_method_8_code_8) rfl rfl k)
    obtain ⟨T4, X4, e4, st4⟩ := getF X1 hx hZ hown (host := "") (Or.inl (hw _ (List.mem_of_getElem? (i := 11) rfl))) Via.refl e1 G_f2 (g := (mkF m 9 #[.val (.ref a1), .val (.int p1)] [(.ref a1), (.int p1)])) rfl rfl (hb hby d_prog_42_method_8_code_9)
    refine Go.st (T' := T4) (g' := (mkF m 12 #[.val (.ref a1), .val (.int p1)] [(.int f2), (.int p1)])) ?_ st4
    refine Go.st (T' := T4) (g' := (mkF m 13 #[.val (.ref a1), .val (.int p1)] [(.int (p1 + f2))])) ?_ (fun _ k => XS.iadd X4.here hx rfl (hb hby d_prog_42_method_8_code_12) rfl k)
    refine Go.st (T' := T4) (g' := (mkF m 20 #[.val (.ref a1), .val (.int p1)] [(.int (p1 + f2))])) ?_ (fun _ k => XS.goto X4.here hx rfl (pc0 := 13) (pc' := 20) rfl (hb hby d_prog_42_method_8_code_13) (by decide) (by decide) k)
    exact Go.retV (t := .int) X4 hx hret hlk (by decide) (by decide) rfl (Or.inl ⟨rfl, Or.inl rfl, _, rfl⟩) (hb hby d_prog_42_method_8_code_20) ⟨by rw [own_vars, if_neg hc2], N0, e4⟩
theorem own_k (p : Int32) : (p &&& 2147483647) % 9 = 0 ∨ (p &&& 2147483647) % 9 = 1 ∨ (p &&& 2147483647) % 9 = 2 ∨ (p &&& 2147483647) % 9 = 3 ∨ (p &&& 2147483647) % 9 = 4 ∨ (p &&& 2147483647) % 9 = 5 ∨ (p &&& 2147483647) % 9 = 6 ∨ (p &&& 2147483647) % 9 = 7 ∨ (p &&& 2147483647) % 9 = 8 := by
  have h1 := c_mask p 2147483647 31 (by decide) (by decide)
  have h2 := (c_irem (p &&& 2147483647) 9 9 (by decide)).1 (by rw [h1]; omega)
  simp only [← Int32.toInt_inj, h2, h1]
  have e0 : (0 : Int32).toInt = 0 := by decide
  have e1 : (1 : Int32).toInt = 1 := by decide
  have e2 : (2 : Int32).toInt = 2 := by decide
  have e3 : (3 : Int32).toInt = 3 := by decide
  have e4 : (4 : Int32).toInt = 4 := by decide
  have e5 : (5 : Int32).toInt = 5 := by decide
  have e6 : (6 : Int32).toInt = 6 := by decide
  have e7 : (7 : Int32).toInt = 7 := by decide
  have e8 : (8 : Int32).toInt = 8 := by decide
  simp only [e0, e1, e2, e3, e4, e5, e6, e7, e8]
  omega
theorem pd__I_I : parseMethodDescriptor "(I)I" = some ⟨[.int], some .int⟩ := by decide +kernel
theorem pn_com_example_tesserae_tesserae_problem_BenchmarkDefaultVariablesPinLaw : plainName "com/example/tesserae/tesserae/problem/BenchmarkDefaultVariablesPinLaw" = true := by first | (simp [plainName, overriddenIn]; done) | decide +kernel
set_option maxRecDepth 65536 in
set_option maxHeartbeats 40000000 in
theorem rm0 (l : Launch) (Z : State) (a0 : Array Value) (hw : ∀ d ∈ tables_1, d.before a0 Z = true) (ws : List Jvm.Cond) (p1 p2 : Int32) (w_ZDT1 w_DTLZ1 w_ZDT6 w_ZDT2 w_DTLZ2 w_DTLZ2B w_ZDT4 w_ZDT3 w_DTLZ1B : Addr) (h0 : Heap) (n0 : Nat) (Z0 : n0 ≤ h0.size) (FF : own_F Z h0 w_ZDT1 w_DTLZ1 w_ZDT6 w_ZDT2 w_DTLZ2 w_DTLZ2B w_ZDT4 w_ZDT3 w_DTLZ1B) :
    Does l x code maxLocals ret ws room_1 #[(.int p1), (.int p2)] Z h0 (fun v h L => v = some (.int 1) ∧ Fr n0 L) := by
  refine Does.of (plainFor_of_name pn_com_example_tesserae_tesserae_problem_BenchmarkDefaultVariablesPinLaw) ?_
  intro p e s m below meth c s₁ hx hby hml hret hlk hown0 hnm hZ X0 e0
  have hown : s.vm.findClass "com/example/tesserae/tesserae/problem/BenchmarkDefaultVariablesPinLaw" = some m.cls := hown0
  have N0 := Fr.nil n0
  have FF0 := FF
  obtain ⟨S_ZDT1, S_DTLZ1, S_ZDT6, S_ZDT2, S_DTLZ2, S_DTLZ2B, S_ZDT4, S_ZDT3, S_DTLZ1B, A_ZDT1, A_DTLZ1, A_ZDT6, A_ZDT2, A_DTLZ2, A_DTLZ2B, A_ZDT4, A_ZDT3, A_DTLZ1B, F_ZDT1_scalable, F_ZDT1_variables, F_DTLZ1_scalable, F_DTLZ1_variables, F_ZDT6_scalable, F_ZDT6_variables, F_ZDT2_scalable, F_ZDT2_variables, F_DTLZ2_scalable, F_DTLZ2_variables, F_DTLZ2B_scalable, F_DTLZ2B_variables, F_ZDT4_scalable, F_ZDT4_variables, F_ZDT3_scalable, F_ZDT3_variables, F_DTLZ1B_scalable, F_DTLZ1B_variables⟩ := FF
  refine Go.cast (g' := (mkF m 0 #[.val (.int p1), .val (.int p2), .unset, .unset, .unset] [])) (by first | rfl | (simp [entryFrame, mkF, argsToLocals, Value.category, maxLocals]; done)) ?_
  refine Go.st (T' := s₁) (g' := (mkF m 1 #[.val (.int p1), .val (.int p2), .unset, .unset, .unset] [(.int p1)])) ?_ (fun _ k => XS.iloadN X0.here hx rfl (hb hby at_0) rfl k)
  refine Go.st (T' := s₁) (g' := (mkF m 3 #[.val (.int p1), .val (.int p2), .unset, .unset, .unset] [(.int (2147483647 : Int32)), (.int p1)])) ?_ (fun _ k => X0.ldcI hx hown (mvT hZ (hw _ (List.mem_of_getElem? (i := 0) rfl))) rfl (hb hby at_1) k)
  refine Go.st (T' := s₁) (g' := (mkF m 4 #[.val (.int p1), .val (.int p2), .unset, .unset, .unset] [(.int (p1 &&& (2147483647 : Int32)))])) ?_ (fun _ k => XS.iand X0.here hx rfl (hb hby at_3) rfl k)
  refine Go.st (T' := s₁) (g' := (mkF m 6 #[.val (.int p1), .val (.int p2), .unset, .unset, .unset] [(.int (9 : Int32)), (.int (p1 &&& (2147483647 : Int32)))])) ?_ (fun _ k => XT.bipushV X0.here hx rfl (9 : Int32) (hb hby at_4) (by decide) k)
  refine Go.st (T' := s₁) (g' := (mkF m 7 #[.val (.int p1), .val (.int p2), .unset, .unset, .unset] [(.int ((p1 &&& (2147483647 : Int32)) % (9 : Int32)))])) ?_ (fun _ k => iremM X0 hx rfl (hb hby at_6) rfl (by decide) k)
  rcases own_k p1 with hk | hk | hk | hk | hk | hk | hk | hk | hk
  · rw [hk]
    refine Go.st (T' := s₁) (g' := (mkF m 8 #[.val (.int p1), .val (.int p2), .val (.int (0 : Int32)), .unset, .unset] [])) ?_ (fun _ k => XS.istoreN X0.here hx rfl (hb hby at_7) rfl (l' := #[.val (.int p1), .val (.int p2), .val (.int (0 : Int32)), .unset, .unset]) rfl k)
    refine Go.st (T' := s₁) (g' := (mkF m 9 #[.val (.int p1), .val (.int p2), .val (.int (0 : Int32)), .unset, .unset] [(.int (0 : Int32))])) ?_ (fun _ k => XS.iloadN X0.here hx rfl (hb hby at_8) rfl k)
    refine Go.st (T' := s₁) (g' := (mkF m 12 #[.val (.int p1), .val (.int p2), .val (.int (0 : Int32)), .unset, .unset] [])) ?_ (fun _ k => XS.ifNo X0.here hx rfl (hb hby at_9) rfl (by decide) k)
    obtain ⟨T1, X1, e1, st1⟩ := getS2 X0 hx hZ hown (host := "") (Or.inl (hw _ (List.mem_of_getElem? (i := 1) rfl))) Via.refl e0 S_ZDT1 (g := (mkF m 12 #[.val (.int p1), .val (.int p2), .val (.int (0 : Int32)), .unset, .unset] [])) rfl (hb hby at_12)
    refine Go.st (T' := T1) (g' := (mkF m 15 #[.val (.int p1), .val (.int p2), .val (.int (0 : Int32)), .unset, .unset] [(.ref w_ZDT1)])) ?_ st1
    refine Go.st (T' := T1) (g' := (mkF m 16 #[.val (.int p1), .val (.int p2), .val (.int (0 : Int32)), .val (.ref w_ZDT1), .unset] [])) ?_ (fun _ k => XS.astoreN X1.here hx rfl (hb hby at_15) rfl rfl (l' := #[.val (.int p1), .val (.int p2), .val (.int (0 : Int32)), .val (.ref w_ZDT1), .unset]) rfl k)
    refine Go.st (T' := T1) (g' := (mkF m 18 #[.val (.int p1), .val (.int p2), .val (.int (0 : Int32)), .val (.ref w_ZDT1), .unset] [(.int (30 : Int32))])) ?_ (fun _ k => XT.bipushV X1.here hx rfl (30 : Int32) (hb hby at_16) (by decide) k)
    refine Go.st (T' := T1) (g' := (mkF m 20 #[.val (.int p1), .val (.int p2), .val (.int (0 : Int32)), .val (.ref w_ZDT1), .val (.int (30 : Int32))] [])) ?_ (fun _ k => XS.istore X1.here hx rfl (hb hby at_18) rfl (l' := #[.val (.int p1), .val (.int p2), .val (.int (0 : Int32)), .val (.ref w_ZDT1), .val (.int (30 : Int32))]) rfl k)
    refine Go.st (T' := T1) (g' := (mkF m 148 #[.val (.int p1), .val (.int p2), .val (.int (0 : Int32)), .val (.ref w_ZDT1), .val (.int (30 : Int32))] [])) ?_ (fun _ k => XS.goto X1.here hx rfl (pc0 := 20) (pc' := 148) rfl (hb hby at_20) (by decide) (by decide) k)
    refine Go.st (T' := T1) (g' := (mkF m 149 #[.val (.int p1), .val (.int p2), .val (.int (0 : Int32)), .val (.ref w_ZDT1), .val (.int (30 : Int32))] [(.ref w_ZDT1)])) ?_ (fun _ k => XS.aloadN X1.here hx rfl (hb hby at_148) rfl rfl k)
    refine Go.st (T' := T1) (g' := (mkF m 150 #[.val (.int p1), .val (.int p2), .val (.int (0 : Int32)), .val (.ref w_ZDT1), .val (.int (30 : Int32))] [(.int p2), (.ref w_ZDT1)])) ?_ (fun _ k => XS.iloadN X1.here hx rfl (hb hby at_149) rfl k)
    refine Go.callV X1 hx hZ hown (hw _ (List.mem_of_getElem? (i := 4) rfl)) (hw _ (List.mem_of_getElem? (i := 5) rfl)) (hw _ (List.mem_of_getElem? (i := 7) rfl)) (hw _ (List.mem_of_getElem? (i := 6) rfl)) (hw _ (List.mem_of_getElem? (i := 2) rfl)) (hw _ (List.mem_of_getElem? (i := 8) rfl)) (by decide) A_ZDT1 (rm1 l Z a0 hw [] w_ZDT1 p2 (0 : Int32) (30 : Int32)  h0 n0 Z0  F_ZDT1_scalable F_ZDT1_variables) e1 (by decide) (W := 0) (by decide) (by decide) (by decide) (g := (mkF m 150 #[.val (.int p1), .val (.int p2), .val (.int (0 : Int32)), .val (.ref w_ZDT1), .val (.int (30 : Int32))] [(.int p2), (.ref w_ZDT1)])) (rest := []) rfl (by rw [hml]; rfl) (lenOf pd__I_I rfl) rfl (by show 2 * 0 + _ ≤ _; exact Nat.le_of_eq rfl) (hb hby at_150) ?_
    rintro v2 T2 L2 X2 ⟨rfl, N2, e2⟩
    have M2 := Fr.app N0 N2
    rw [show own_vars w_ZDT1 p2 (0 : Int32) (30 : Int32)  = (30 : Int32) from by rw [own_vars, if_pos (rfl : (0 : Int32) = (0 : Int32))]]
    show Go p e below _ T2 (mkF m 153 #[.val (.int p1), .val (.int p2), .val (.int (0 : Int32)), .val (.ref w_ZDT1), .val (.int (30 : Int32))] [(.int (30 : Int32))])
    refine Go.st (T' := T2) (g' := (mkF m 155 #[.val (.int p1), .val (.int p2), .val (.int (0 : Int32)), .val (.ref w_ZDT1), .val (.int (30 : Int32))] [(.int (30 : Int32)), (.int (30 : Int32))])) ?_ (fun _ k => XS.iload X2.here hx rfl (hb hby at_153) rfl k)
    refine Go.st (T' := T2) (g' := (mkF m 158 #[.val (.int p1), .val (.int p2), .val (.int (0 : Int32)), .val (.ref w_ZDT1), .val (.int (30 : Int32))] [])) ?_ (fun _ k => XS.icmpNo X2.here hx rfl (hb hby at_155) rfl (by decide) k)
    refine Go.st (T' := T2) (g' := (mkF m 159 #[.val (.int p1), .val (.int p2), .val (.int (0 : Int32)), .val (.ref w_ZDT1), .val (.int (30 : Int32))] [(.int (1 : Int32))])) ?_ (fun _ k => XT.iconstV X2.here hx rfl (1 : Int32) (hb hby at_158) (by decide) k)
    refine Go.st (T' := T2) (g' := (mkF m 163 #[.val (.int p1), .val (.int p2), .val (.int (0 : Int32)), .val (.ref w_ZDT1), .val (.int (30 : Int32))] [(.int (1 : Int32))])) ?_ (fun _ k => XS.goto X2.here hx rfl (pc0 := 159) (pc' := 163) rfl (hb hby at_159) (by decide) (by decide) k)
    exact Go.retV (t := .boolean) X2 hx hret hlk (by decide) (by decide) rfl (Or.inl ⟨rfl, Or.inr (Or.inl rfl), _, rfl⟩) (hb hby at_163) ⟨rfl, M2⟩
  · rw [hk]
    refine Go.st (T' := s₁) (g' := (mkF m 8 #[.val (.int p1), .val (.int p2), .val (.int (1 : Int32)), .unset, .unset] [])) ?_ (fun _ k => XS.istoreN X0.here hx rfl (hb hby at_7) rfl (l' := #[.val (.int p1), .val (.int p2), .val (.int (1 : Int32)), .unset, .unset]) rfl k)
    refine Go.st (T' := s₁) (g' := (mkF m 9 #[.val (.int p1), .val (.int p2), .val (.int (1 : Int32)), .unset, .unset] [(.int (1 : Int32))])) ?_ (fun _ k => XS.iloadN X0.here hx rfl (hb hby at_8) rfl k)
    refine Go.st (T' := s₁) (g' := (mkF m 23 #[.val (.int p1), .val (.int p2), .val (.int (1 : Int32)), .unset, .unset] [])) ?_ (fun _ k => XS.ifYes X0.here hx rfl (pc0 := 9) (pc' := 23) rfl (hb hby at_9) rfl (by decide) (by decide) (by decide) k)
    refine Go.st (T' := s₁) (g' := (mkF m 24 #[.val (.int p1), .val (.int p2), .val (.int (1 : Int32)), .unset, .unset] [(.int (1 : Int32))])) ?_ (fun _ k => XS.iloadN X0.here hx rfl (hb hby at_23) rfl k)
    refine Go.st (T' := s₁) (g' := (mkF m 25 #[.val (.int p1), .val (.int p2), .val (.int (1 : Int32)), .unset, .unset] [(.int (1 : Int32)), (.int (1 : Int32))])) ?_ (fun _ k => XT.iconstV X0.here hx rfl (1 : Int32) (hb hby at_24) (by decide) k)
    refine Go.st (T' := s₁) (g' := (mkF m 28 #[.val (.int p1), .val (.int p2), .val (.int (1 : Int32)), .unset, .unset] [])) ?_ (fun _ k => XS.icmpNo X0.here hx rfl (hb hby at_25) rfl (by decide) k)
    obtain ⟨T3, X3, e3, st3⟩ := getS2 X0 hx hZ hown (host := "") (Or.inl (hw _ (List.mem_of_getElem? (i := 17) rfl))) Via.refl e0 S_ZDT2 (g := (mkF m 28 #[.val (.int p1), .val (.int p2), .val (.int (1 : Int32)), .unset, .unset] [])) rfl (hb hby at_28)
    refine Go.st (T' := T3) (g' := (mkF m 31 #[.val (.int p1), .val (.int p2), .val (.int (1 : Int32)), .unset, .unset] [(.ref w_ZDT2)])) ?_ st3
    refine Go.st (T' := T3) (g' := (mkF m 32 #[.val (.int p1), .val (.int p2), .val (.int (1 : Int32)), .val (.ref w_ZDT2), .unset] [])) ?_ (fun _ k => XS.astoreN X3.here hx rfl (hb hby at_31) rfl rfl (l' := #[.val (.int p1), .val (.int p2), .val (.int (1 : Int32)), .val (.ref w_ZDT2), .unset]) rfl k)
    refine Go.st (T' := T3) (g' := (mkF m 34 #[.val (.int p1), .val (.int p2), .val (.int (1 : Int32)), .val (.ref w_ZDT2), .unset] [(.int (30 : Int32))])) ?_ (fun _ k => XT.bipushV X3.here hx rfl (30 : Int32) (hb hby at_32) (by decide) k)
    refine Go.st (T' := T3) (g' := (mkF m 36 #[.val (.int p1), .val (.int p2), .val (.int (1 : Int32)), .val (.ref w_ZDT2), .val (.int (30 : Int32))] [])) ?_ (fun _ k => XS.istore X3.here hx rfl (hb hby at_34) rfl (l' := #[.val (.int p1), .val (.int p2), .val (.int (1 : Int32)), .val (.ref w_ZDT2), .val (.int (30 : Int32))]) rfl k)
    refine Go.st (T' := T3) (g' := (mkF m 148 #[.val (.int p1), .val (.int p2), .val (.int (1 : Int32)), .val (.ref w_ZDT2), .val (.int (30 : Int32))] [])) ?_ (fun _ k => XS.goto X3.here hx rfl (pc0 := 36) (pc' := 148) rfl (hb hby at_36) (by decide) (by decide) k)
    refine Go.st (T' := T3) (g' := (mkF m 149 #[.val (.int p1), .val (.int p2), .val (.int (1 : Int32)), .val (.ref w_ZDT2), .val (.int (30 : Int32))] [(.ref w_ZDT2)])) ?_ (fun _ k => XS.aloadN X3.here hx rfl (hb hby at_148) rfl rfl k)
    refine Go.st (T' := T3) (g' := (mkF m 150 #[.val (.int p1), .val (.int p2), .val (.int (1 : Int32)), .val (.ref w_ZDT2), .val (.int (30 : Int32))] [(.int p2), (.ref w_ZDT2)])) ?_ (fun _ k => XS.iloadN X3.here hx rfl (hb hby at_149) rfl k)
    refine Go.callV X3 hx hZ hown (hw _ (List.mem_of_getElem? (i := 4) rfl)) (hw _ (List.mem_of_getElem? (i := 5) rfl)) (hw _ (List.mem_of_getElem? (i := 7) rfl)) (hw _ (List.mem_of_getElem? (i := 6) rfl)) (hw _ (List.mem_of_getElem? (i := 2) rfl)) (hw _ (List.mem_of_getElem? (i := 8) rfl)) (by decide) A_ZDT2 (rm1 l Z a0 hw [] w_ZDT2 p2 (0 : Int32) (30 : Int32)  h0 n0 Z0  F_ZDT2_scalable F_ZDT2_variables) e3 (by decide) (W := 0) (by decide) (by decide) (by decide) (g := (mkF m 150 #[.val (.int p1), .val (.int p2), .val (.int (1 : Int32)), .val (.ref w_ZDT2), .val (.int (30 : Int32))] [(.int p2), (.ref w_ZDT2)])) (rest := []) rfl (by rw [hml]; rfl) (lenOf pd__I_I rfl) rfl (by show 2 * 0 + _ ≤ _; exact Nat.le_of_eq rfl) (hb hby at_150) ?_
    rintro v4 T4 L4 X4 ⟨rfl, N4, e4⟩
    have M4 := Fr.app N0 N4
    rw [show own_vars w_ZDT2 p2 (0 : Int32) (30 : Int32)  = (30 : Int32) from by rw [own_vars, if_pos (rfl : (0 : Int32) = (0 : Int32))]]
    show Go p e below _ T4 (mkF m 153 #[.val (.int p1), .val (.int p2), .val (.int (1 : Int32)), .val (.ref w_ZDT2), .val (.int (30 : Int32))] [(.int (30 : Int32))])
    refine Go.st (T' := T4) (g' := (mkF m 155 #[.val (.int p1), .val (.int p2), .val (.int (1 : Int32)), .val (.ref w_ZDT2), .val (.int (30 : Int32))] [(.int (30 : Int32)), (.int (30 : Int32))])) ?_ (fun _ k => XS.iload X4.here hx rfl (hb hby at_153) rfl k)
    refine Go.st (T' := T4) (g' := (mkF m 158 #[.val (.int p1), .val (.int p2), .val (.int (1 : Int32)), .val (.ref w_ZDT2), .val (.int (30 : Int32))] [])) ?_ (fun _ k => XS.icmpNo X4.here hx rfl (hb hby at_155) rfl (by decide) k)
    refine Go.st (T' := T4) (g' := (mkF m 159 #[.val (.int p1), .val (.int p2), .val (.int (1 : Int32)), .val (.ref w_ZDT2), .val (.int (30 : Int32))] [(.int (1 : Int32))])) ?_ (fun _ k => XT.iconstV X4.here hx rfl (1 : Int32) (hb hby at_158) (by decide) k)
    refine Go.st (T' := T4) (g' := (mkF m 163 #[.val (.int p1), .val (.int p2), .val (.int (1 : Int32)), .val (.ref w_ZDT2), .val (.int (30 : Int32))] [(.int (1 : Int32))])) ?_ (fun _ k => XS.goto X4.here hx rfl (pc0 := 159) (pc' := 163) rfl (hb hby at_159) (by decide) (by decide) k)
    exact Go.retV (t := .boolean) X4 hx hret hlk (by decide) (by decide) rfl (Or.inl ⟨rfl, Or.inr (Or.inl rfl), _, rfl⟩) (hb hby at_163) ⟨rfl, M4⟩
  · rw [hk]
    refine Go.st (T' := s₁) (g' := (mkF m 8 #[.val (.int p1), .val (.int p2), .val (.int (2 : Int32)), .unset, .unset] [])) ?_ (fun _ k => XS.istoreN X0.here hx rfl (hb hby at_7) rfl (l' := #[.val (.int p1), .val (.int p2), .val (.int (2 : Int32)), .unset, .unset]) rfl k)
    refine Go.st (T' := s₁) (g' := (mkF m 9 #[.val (.int p1), .val (.int p2), .val (.int (2 : Int32)), .unset, .unset] [(.int (2 : Int32))])) ?_ (fun _ k => XS.iloadN X0.here hx rfl (hb hby at_8) rfl k)
    refine Go.st (T' := s₁) (g' := (mkF m 23 #[.val (.int p1), .val (.int p2), .val (.int (2 : Int32)), .unset, .unset] [])) ?_ (fun _ k => XS.ifYes X0.here hx rfl (pc0 := 9) (pc' := 23) rfl (hb hby at_9) rfl (by decide) (by decide) (by decide) k)
    refine Go.st (T' := s₁) (g' := (mkF m 24 #[.val (.int p1), .val (.int p2), .val (.int (2 : Int32)), .unset, .unset] [(.int (2 : Int32))])) ?_ (fun _ k => XS.iloadN X0.here hx rfl (hb hby at_23) rfl k)
    refine Go.st (T' := s₁) (g' := (mkF m 25 #[.val (.int p1), .val (.int p2), .val (.int (2 : Int32)), .unset, .unset] [(.int (1 : Int32)), (.int (2 : Int32))])) ?_ (fun _ k => XT.iconstV X0.here hx rfl (1 : Int32) (hb hby at_24) (by decide) k)
    refine Go.st (T' := s₁) (g' := (mkF m 39 #[.val (.int p1), .val (.int p2), .val (.int (2 : Int32)), .unset, .unset] [])) ?_ (fun _ k => XS.icmpYes X0.here hx rfl (pc0 := 25) (pc' := 39) rfl (hb hby at_25) rfl (by decide) (by decide) (by decide) k)
    refine Go.st (T' := s₁) (g' := (mkF m 40 #[.val (.int p1), .val (.int p2), .val (.int (2 : Int32)), .unset, .unset] [(.int (2 : Int32))])) ?_ (fun _ k => XS.iloadN X0.here hx rfl (hb hby at_39) rfl k)
    refine Go.st (T' := s₁) (g' := (mkF m 41 #[.val (.int p1), .val (.int p2), .val (.int (2 : Int32)), .unset, .unset] [(.int (2 : Int32)), (.int (2 : Int32))])) ?_ (fun _ k => XT.iconstV X0.here hx rfl (2 : Int32) (hb hby at_40) (by decide) k)
    refine Go.st (T' := s₁) (g' := (mkF m 44 #[.val (.int p1), .val (.int p2), .val (.int (2 : Int32)), .unset, .unset] [])) ?_ (fun _ k => XS.icmpNo X0.here hx rfl (hb hby at_41) rfl (by decide) k)
    obtain ⟨T5, X5, e5, st5⟩ := getS2 X0 hx hZ hown (host := "") (Or.inl (hw _ (List.mem_of_getElem? (i := 25) rfl))) Via.refl e0 S_ZDT3 (g := (mkF m 44 #[.val (.int p1), .val (.int p2), .val (.int (2 : Int32)), .unset, .unset] [])) rfl (hb hby at_44)
    refine Go.st (T' := T5) (g' := (mkF m 47 #[.val (.int p1), .val (.int p2), .val (.int (2 : Int32)), .unset, .unset] [(.ref w_ZDT3)])) ?_ st5
    refine Go.st (T' := T5) (g' := (mkF m 48 #[.val (.int p1), .val (.int p2), .val (.int (2 : Int32)), .val (.ref w_ZDT3), .unset] [])) ?_ (fun _ k => XS.astoreN X5.here hx rfl (hb hby at_47) rfl rfl (l' := #[.val (.int p1), .val (.int p2), .val (.int (2 : Int32)), .val (.ref w_ZDT3), .unset]) rfl k)
    refine Go.st (T' := T5) (g' := (mkF m 50 #[.val (.int p1), .val (.int p2), .val (.int (2 : Int32)), .val (.ref w_ZDT3), .unset] [(.int (30 : Int32))])) ?_ (fun _ k => XT.bipushV X5.here hx rfl (30 : Int32) (hb hby at_48) (by decide) k)
    refine Go.st (T' := T5) (g' := (mkF m 52 #[.val (.int p1), .val (.int p2), .val (.int (2 : Int32)), .val (.ref w_ZDT3), .val (.int (30 : Int32))] [])) ?_ (fun _ k => XS.istore X5.here hx rfl (hb hby at_50) rfl (l' := #[.val (.int p1), .val (.int p2), .val (.int (2 : Int32)), .val (.ref w_ZDT3), .val (.int (30 : Int32))]) rfl k)
    refine Go.st (T' := T5) (g' := (mkF m 148 #[.val (.int p1), .val (.int p2), .val (.int (2 : Int32)), .val (.ref w_ZDT3), .val (.int (30 : Int32))] [])) ?_ (fun _ k => XS.goto X5.here hx rfl (pc0 := 52) (pc' := 148) rfl (hb hby at_52) (by decide) (by decide) k)
    refine Go.st (T' := T5) (g' := (mkF m 149 #[.val (.int p1), .val (.int p2), .val (.int (2 : Int32)), .val (.ref w_ZDT3), .val (.int (30 : Int32))] [(.ref w_ZDT3)])) ?_ (fun _ k => XS.aloadN X5.here hx rfl (hb hby at_148) rfl rfl k)
    refine Go.st (T' := T5) (g' := (mkF m 150 #[.val (.int p1), .val (.int p2), .val (.int (2 : Int32)), .val (.ref w_ZDT3), .val (.int (30 : Int32))] [(.int p2), (.ref w_ZDT3)])) ?_ (fun _ k => XS.iloadN X5.here hx rfl (hb hby at_149) rfl k)
    refine Go.callV X5 hx hZ hown (hw _ (List.mem_of_getElem? (i := 4) rfl)) (hw _ (List.mem_of_getElem? (i := 5) rfl)) (hw _ (List.mem_of_getElem? (i := 7) rfl)) (hw _ (List.mem_of_getElem? (i := 6) rfl)) (hw _ (List.mem_of_getElem? (i := 2) rfl)) (hw _ (List.mem_of_getElem? (i := 8) rfl)) (by decide) A_ZDT3 (rm1 l Z a0 hw [] w_ZDT3 p2 (0 : Int32) (30 : Int32)  h0 n0 Z0  F_ZDT3_scalable F_ZDT3_variables) e5 (by decide) (W := 0) (by decide) (by decide) (by decide) (g := (mkF m 150 #[.val (.int p1), .val (.int p2), .val (.int (2 : Int32)), .val (.ref w_ZDT3), .val (.int (30 : Int32))] [(.int p2), (.ref w_ZDT3)])) (rest := []) rfl (by rw [hml]; rfl) (lenOf pd__I_I rfl) rfl (by show 2 * 0 + _ ≤ _; exact Nat.le_of_eq rfl) (hb hby at_150) ?_
    rintro v6 T6 L6 X6 ⟨rfl, N6, e6⟩
    have M6 := Fr.app N0 N6
    rw [show own_vars w_ZDT3 p2 (0 : Int32) (30 : Int32)  = (30 : Int32) from by rw [own_vars, if_pos (rfl : (0 : Int32) = (0 : Int32))]]
    show Go p e below _ T6 (mkF m 153 #[.val (.int p1), .val (.int p2), .val (.int (2 : Int32)), .val (.ref w_ZDT3), .val (.int (30 : Int32))] [(.int (30 : Int32))])
    refine Go.st (T' := T6) (g' := (mkF m 155 #[.val (.int p1), .val (.int p2), .val (.int (2 : Int32)), .val (.ref w_ZDT3), .val (.int (30 : Int32))] [(.int (30 : Int32)), (.int (30 : Int32))])) ?_ (fun _ k => XS.iload X6.here hx rfl (hb hby at_153) rfl k)
    refine Go.st (T' := T6) (g' := (mkF m 158 #[.val (.int p1), .val (.int p2), .val (.int (2 : Int32)), .val (.ref w_ZDT3), .val (.int (30 : Int32))] [])) ?_ (fun _ k => XS.icmpNo X6.here hx rfl (hb hby at_155) rfl (by decide) k)
    refine Go.st (T' := T6) (g' := (mkF m 159 #[.val (.int p1), .val (.int p2), .val (.int (2 : Int32)), .val (.ref w_ZDT3), .val (.int (30 : Int32))] [(.int (1 : Int32))])) ?_ (fun _ k => XT.iconstV X6.here hx rfl (1 : Int32) (hb hby at_158) (by decide) k)
    refine Go.st (T' := T6) (g' := (mkF m 163 #[.val (.int p1), .val (.int p2), .val (.int (2 : Int32)), .val (.ref w_ZDT3), .val (.int (30 : Int32))] [(.int (1 : Int32))])) ?_ (fun _ k => XS.goto X6.here hx rfl (pc0 := 159) (pc' := 163) rfl (hb hby at_159) (by decide) (by decide) k)
    exact Go.retV (t := .boolean) X6 hx hret hlk (by decide) (by decide) rfl (Or.inl ⟨rfl, Or.inr (Or.inl rfl), _, rfl⟩) (hb hby at_163) ⟨rfl, M6⟩
  · rw [hk]
    refine Go.st (T' := s₁) (g' := (mkF m 8 #[.val (.int p1), .val (.int p2), .val (.int (3 : Int32)), .unset, .unset] [])) ?_ (fun _ k => XS.istoreN X0.here hx rfl (hb hby at_7) rfl (l' := #[.val (.int p1), .val (.int p2), .val (.int (3 : Int32)), .unset, .unset]) rfl k)
    refine Go.st (T' := s₁) (g' := (mkF m 9 #[.val (.int p1), .val (.int p2), .val (.int (3 : Int32)), .unset, .unset] [(.int (3 : Int32))])) ?_ (fun _ k => XS.iloadN X0.here hx rfl (hb hby at_8) rfl k)
    refine Go.st (T' := s₁) (g' := (mkF m 23 #[.val (.int p1), .val (.int p2), .val (.int (3 : Int32)), .unset, .unset] [])) ?_ (fun _ k => XS.ifYes X0.here hx rfl (pc0 := 9) (pc' := 23) rfl (hb hby at_9) rfl (by decide) (by decide) (by decide) k)
    refine Go.st (T' := s₁) (g' := (mkF m 24 #[.val (.int p1), .val (.int p2), .val (.int (3 : Int32)), .unset, .unset] [(.int (3 : Int32))])) ?_ (fun _ k => XS.iloadN X0.here hx rfl (hb hby at_23) rfl k)
    refine Go.st (T' := s₁) (g' := (mkF m 25 #[.val (.int p1), .val (.int p2), .val (.int (3 : Int32)), .unset, .unset] [(.int (1 : Int32)), (.int (3 : Int32))])) ?_ (fun _ k => XT.iconstV X0.here hx rfl (1 : Int32) (hb hby at_24) (by decide) k)
    refine Go.st (T' := s₁) (g' := (mkF m 39 #[.val (.int p1), .val (.int p2), .val (.int (3 : Int32)), .unset, .unset] [])) ?_ (fun _ k => XS.icmpYes X0.here hx rfl (pc0 := 25) (pc' := 39) rfl (hb hby at_25) rfl (by decide) (by decide) (by decide) k)
    refine Go.st (T' := s₁) (g' := (mkF m 40 #[.val (.int p1), .val (.int p2), .val (.int (3 : Int32)), .unset, .unset] [(.int (3 : Int32))])) ?_ (fun _ k => XS.iloadN X0.here hx rfl (hb hby at_39) rfl k)
    refine Go.st (T' := s₁) (g' := (mkF m 41 #[.val (.int p1), .val (.int p2), .val (.int (3 : Int32)), .unset, .unset] [(.int (2 : Int32)), (.int (3 : Int32))])) ?_ (fun _ k => XT.iconstV X0.here hx rfl (2 : Int32) (hb hby at_40) (by decide) k)
    refine Go.st (T' := s₁) (g' := (mkF m 55 #[.val (.int p1), .val (.int p2), .val (.int (3 : Int32)), .unset, .unset] [])) ?_ (fun _ k => XS.icmpYes X0.here hx rfl (pc0 := 41) (pc' := 55) rfl (hb hby at_41) rfl (by decide) (by decide) (by decide) k)
    refine Go.st (T' := s₁) (g' := (mkF m 56 #[.val (.int p1), .val (.int p2), .val (.int (3 : Int32)), .unset, .unset] [(.int (3 : Int32))])) ?_ (fun _ k => XS.iloadN X0.here hx rfl (hb hby at_55) rfl k)
    refine Go.st (T' := s₁) (g' := (mkF m 57 #[.val (.int p1), .val (.int p2), .val (.int (3 : Int32)), .unset, .unset] [(.int (3 : Int32)), (.int (3 : Int32))])) ?_ (fun _ k => XT.iconstV X0.here hx rfl (3 : Int32) (hb hby at_56) (by decide) k)
    refine Go.st (T' := s₁) (g' := (mkF m 60 #[.val (.int p1), .val (.int p2), .val (.int (3 : Int32)), .unset, .unset] [])) ?_ (fun _ k => XS.icmpNo X0.here hx rfl (hb hby at_57) rfl (by decide) k)
    obtain ⟨T7, X7, e7, st7⟩ := getS2 X0 hx hZ hown (host := "") (Or.inl (hw _ (List.mem_of_getElem? (i := 23) rfl))) Via.refl e0 S_ZDT4 (g := (mkF m 60 #[.val (.int p1), .val (.int p2), .val (.int (3 : Int32)), .unset, .unset] [])) rfl (hb hby at_60)
    refine Go.st (T' := T7) (g' := (mkF m 63 #[.val (.int p1), .val (.int p2), .val (.int (3 : Int32)), .unset, .unset] [(.ref w_ZDT4)])) ?_ st7
    refine Go.st (T' := T7) (g' := (mkF m 64 #[.val (.int p1), .val (.int p2), .val (.int (3 : Int32)), .val (.ref w_ZDT4), .unset] [])) ?_ (fun _ k => XS.astoreN X7.here hx rfl (hb hby at_63) rfl rfl (l' := #[.val (.int p1), .val (.int p2), .val (.int (3 : Int32)), .val (.ref w_ZDT4), .unset]) rfl k)
    refine Go.st (T' := T7) (g' := (mkF m 66 #[.val (.int p1), .val (.int p2), .val (.int (3 : Int32)), .val (.ref w_ZDT4), .unset] [(.int (10 : Int32))])) ?_ (fun _ k => XT.bipushV X7.here hx rfl (10 : Int32) (hb hby at_64) (by decide) k)
    refine Go.st (T' := T7) (g' := (mkF m 68 #[.val (.int p1), .val (.int p2), .val (.int (3 : Int32)), .val (.ref w_ZDT4), .val (.int (10 : Int32))] [])) ?_ (fun _ k => XS.istore X7.here hx rfl (hb hby at_66) rfl (l' := #[.val (.int p1), .val (.int p2), .val (.int (3 : Int32)), .val (.ref w_ZDT4), .val (.int (10 : Int32))]) rfl k)
    refine Go.st (T' := T7) (g' := (mkF m 148 #[.val (.int p1), .val (.int p2), .val (.int (3 : Int32)), .val (.ref w_ZDT4), .val (.int (10 : Int32))] [])) ?_ (fun _ k => XS.goto X7.here hx rfl (pc0 := 68) (pc' := 148) rfl (hb hby at_68) (by decide) (by decide) k)
    refine Go.st (T' := T7) (g' := (mkF m 149 #[.val (.int p1), .val (.int p2), .val (.int (3 : Int32)), .val (.ref w_ZDT4), .val (.int (10 : Int32))] [(.ref w_ZDT4)])) ?_ (fun _ k => XS.aloadN X7.here hx rfl (hb hby at_148) rfl rfl k)
    refine Go.st (T' := T7) (g' := (mkF m 150 #[.val (.int p1), .val (.int p2), .val (.int (3 : Int32)), .val (.ref w_ZDT4), .val (.int (10 : Int32))] [(.int p2), (.ref w_ZDT4)])) ?_ (fun _ k => XS.iloadN X7.here hx rfl (hb hby at_149) rfl k)
    refine Go.callV X7 hx hZ hown (hw _ (List.mem_of_getElem? (i := 4) rfl)) (hw _ (List.mem_of_getElem? (i := 5) rfl)) (hw _ (List.mem_of_getElem? (i := 7) rfl)) (hw _ (List.mem_of_getElem? (i := 6) rfl)) (hw _ (List.mem_of_getElem? (i := 2) rfl)) (hw _ (List.mem_of_getElem? (i := 8) rfl)) (by decide) A_ZDT4 (rm1 l Z a0 hw [] w_ZDT4 p2 (0 : Int32) (10 : Int32)  h0 n0 Z0  F_ZDT4_scalable F_ZDT4_variables) e7 (by decide) (W := 0) (by decide) (by decide) (by decide) (g := (mkF m 150 #[.val (.int p1), .val (.int p2), .val (.int (3 : Int32)), .val (.ref w_ZDT4), .val (.int (10 : Int32))] [(.int p2), (.ref w_ZDT4)])) (rest := []) rfl (by rw [hml]; rfl) (lenOf pd__I_I rfl) rfl (by show 2 * 0 + _ ≤ _; exact Nat.le_of_eq rfl) (hb hby at_150) ?_
    rintro v8 T8 L8 X8 ⟨rfl, N8, e8⟩
    have M8 := Fr.app N0 N8
    rw [show own_vars w_ZDT4 p2 (0 : Int32) (10 : Int32)  = (10 : Int32) from by rw [own_vars, if_pos (rfl : (0 : Int32) = (0 : Int32))]]
    show Go p e below _ T8 (mkF m 153 #[.val (.int p1), .val (.int p2), .val (.int (3 : Int32)), .val (.ref w_ZDT4), .val (.int (10 : Int32))] [(.int (10 : Int32))])
    refine Go.st (T' := T8) (g' := (mkF m 155 #[.val (.int p1), .val (.int p2), .val (.int (3 : Int32)), .val (.ref w_ZDT4), .val (.int (10 : Int32))] [(.int (10 : Int32)), (.int (10 : Int32))])) ?_ (fun _ k => XS.iload X8.here hx rfl (hb hby at_153) rfl k)
    refine Go.st (T' := T8) (g' := (mkF m 158 #[.val (.int p1), .val (.int p2), .val (.int (3 : Int32)), .val (.ref w_ZDT4), .val (.int (10 : Int32))] [])) ?_ (fun _ k => XS.icmpNo X8.here hx rfl (hb hby at_155) rfl (by decide) k)
    refine Go.st (T' := T8) (g' := (mkF m 159 #[.val (.int p1), .val (.int p2), .val (.int (3 : Int32)), .val (.ref w_ZDT4), .val (.int (10 : Int32))] [(.int (1 : Int32))])) ?_ (fun _ k => XT.iconstV X8.here hx rfl (1 : Int32) (hb hby at_158) (by decide) k)
    refine Go.st (T' := T8) (g' := (mkF m 163 #[.val (.int p1), .val (.int p2), .val (.int (3 : Int32)), .val (.ref w_ZDT4), .val (.int (10 : Int32))] [(.int (1 : Int32))])) ?_ (fun _ k => XS.goto X8.here hx rfl (pc0 := 159) (pc' := 163) rfl (hb hby at_159) (by decide) (by decide) k)
    exact Go.retV (t := .boolean) X8 hx hret hlk (by decide) (by decide) rfl (Or.inl ⟨rfl, Or.inr (Or.inl rfl), _, rfl⟩) (hb hby at_163) ⟨rfl, M8⟩
  · rw [hk]
    refine Go.st (T' := s₁) (g' := (mkF m 8 #[.val (.int p1), .val (.int p2), .val (.int (4 : Int32)), .unset, .unset] [])) ?_ (fun _ k => XS.istoreN X0.here hx rfl (hb hby at_7) rfl (l' := #[.val (.int p1), .val (.int p2), .val (.int (4 : Int32)), .unset, .unset]) rfl k)
    refine Go.st (T' := s₁) (g' := (mkF m 9 #[.val (.int p1), .val (.int p2), .val (.int (4 : Int32)), .unset, .unset] [(.int (4 : Int32))])) ?_ (fun _ k => XS.iloadN X0.here hx rfl (hb hby at_8) rfl k)
    refine Go.st (T' := s₁) (g' := (mkF m 23 #[.val (.int p1), .val (.int p2), .val (.int (4 : Int32)), .unset, .unset] [])) ?_ (fun _ k => XS.ifYes X0.here hx rfl (pc0 := 9) (pc' := 23) rfl (hb hby at_9) rfl (by decide) (by decide) (by decide) k)
    refine Go.st (T' := s₁) (g' := (mkF m 24 #[.val (.int p1), .val (.int p2), .val (.int (4 : Int32)), .unset, .unset] [(.int (4 : Int32))])) ?_ (fun _ k => XS.iloadN X0.here hx rfl (hb hby at_23) rfl k)
    refine Go.st (T' := s₁) (g' := (mkF m 25 #[.val (.int p1), .val (.int p2), .val (.int (4 : Int32)), .unset, .unset] [(.int (1 : Int32)), (.int (4 : Int32))])) ?_ (fun _ k => XT.iconstV X0.here hx rfl (1 : Int32) (hb hby at_24) (by decide) k)
    refine Go.st (T' := s₁) (g' := (mkF m 39 #[.val (.int p1), .val (.int p2), .val (.int (4 : Int32)), .unset, .unset] [])) ?_ (fun _ k => XS.icmpYes X0.here hx rfl (pc0 := 25) (pc' := 39) rfl (hb hby at_25) rfl (by decide) (by decide) (by decide) k)
    refine Go.st (T' := s₁) (g' := (mkF m 40 #[.val (.int p1), .val (.int p2), .val (.int (4 : Int32)), .unset, .unset] [(.int (4 : Int32))])) ?_ (fun _ k => XS.iloadN X0.here hx rfl (hb hby at_39) rfl k)
    refine Go.st (T' := s₁) (g' := (mkF m 41 #[.val (.int p1), .val (.int p2), .val (.int (4 : Int32)), .unset, .unset] [(.int (2 : Int32)), (.int (4 : Int32))])) ?_ (fun _ k => XT.iconstV X0.here hx rfl (2 : Int32) (hb hby at_40) (by decide) k)
    refine Go.st (T' := s₁) (g' := (mkF m 55 #[.val (.int p1), .val (.int p2), .val (.int (4 : Int32)), .unset, .unset] [])) ?_ (fun _ k => XS.icmpYes X0.here hx rfl (pc0 := 41) (pc' := 55) rfl (hb hby at_41) rfl (by decide) (by decide) (by decide) k)
    refine Go.st (T' := s₁) (g' := (mkF m 56 #[.val (.int p1), .val (.int p2), .val (.int (4 : Int32)), .unset, .unset] [(.int (4 : Int32))])) ?_ (fun _ k => XS.iloadN X0.here hx rfl (hb hby at_55) rfl k)
    refine Go.st (T' := s₁) (g' := (mkF m 57 #[.val (.int p1), .val (.int p2), .val (.int (4 : Int32)), .unset, .unset] [(.int (3 : Int32)), (.int (4 : Int32))])) ?_ (fun _ k => XT.iconstV X0.here hx rfl (3 : Int32) (hb hby at_56) (by decide) k)
    refine Go.st (T' := s₁) (g' := (mkF m 71 #[.val (.int p1), .val (.int p2), .val (.int (4 : Int32)), .unset, .unset] [])) ?_ (fun _ k => XS.icmpYes X0.here hx rfl (pc0 := 57) (pc' := 71) rfl (hb hby at_57) rfl (by decide) (by decide) (by decide) k)
    refine Go.st (T' := s₁) (g' := (mkF m 72 #[.val (.int p1), .val (.int p2), .val (.int (4 : Int32)), .unset, .unset] [(.int (4 : Int32))])) ?_ (fun _ k => XS.iloadN X0.here hx rfl (hb hby at_71) rfl k)
    refine Go.st (T' := s₁) (g' := (mkF m 73 #[.val (.int p1), .val (.int p2), .val (.int (4 : Int32)), .unset, .unset] [(.int (4 : Int32)), (.int (4 : Int32))])) ?_ (fun _ k => XT.iconstV X0.here hx rfl (4 : Int32) (hb hby at_72) (by decide) k)
    refine Go.st (T' := s₁) (g' := (mkF m 76 #[.val (.int p1), .val (.int p2), .val (.int (4 : Int32)), .unset, .unset] [])) ?_ (fun _ k => XS.icmpNo X0.here hx rfl (hb hby at_73) rfl (by decide) k)
    obtain ⟨T9, X9, e9, st9⟩ := getS2 X0 hx hZ hown (host := "") (Or.inl (hw _ (List.mem_of_getElem? (i := 15) rfl))) Via.refl e0 S_ZDT6 (g := (mkF m 76 #[.val (.int p1), .val (.int p2), .val (.int (4 : Int32)), .unset, .unset] [])) rfl (hb hby at_76)
    refine Go.st (T' := T9) (g' := (mkF m 79 #[.val (.int p1), .val (.int p2), .val (.int (4 : Int32)), .unset, .unset] [(.ref w_ZDT6)])) ?_ st9
    refine Go.st (T' := T9) (g' := (mkF m 80 #[.val (.int p1), .val (.int p2), .val (.int (4 : Int32)), .val (.ref w_ZDT6), .unset] [])) ?_ (fun _ k => XS.astoreN X9.here hx rfl (hb hby at_79) rfl rfl (l' := #[.val (.int p1), .val (.int p2), .val (.int (4 : Int32)), .val (.ref w_ZDT6), .unset]) rfl k)
    refine Go.st (T' := T9) (g' := (mkF m 82 #[.val (.int p1), .val (.int p2), .val (.int (4 : Int32)), .val (.ref w_ZDT6), .unset] [(.int (10 : Int32))])) ?_ (fun _ k => XT.bipushV X9.here hx rfl (10 : Int32) (hb hby at_80) (by decide) k)
    refine Go.st (T' := T9) (g' := (mkF m 84 #[.val (.int p1), .val (.int p2), .val (.int (4 : Int32)), .val (.ref w_ZDT6), .val (.int (10 : Int32))] [])) ?_ (fun _ k => XS.istore X9.here hx rfl (hb hby at_82) rfl (l' := #[.val (.int p1), .val (.int p2), .val (.int (4 : Int32)), .val (.ref w_ZDT6), .val (.int (10 : Int32))]) rfl k)
    refine Go.st (T' := T9) (g' := (mkF m 148 #[.val (.int p1), .val (.int p2), .val (.int (4 : Int32)), .val (.ref w_ZDT6), .val (.int (10 : Int32))] [])) ?_ (fun _ k => XS.goto X9.here hx rfl (pc0 := 84) (pc' := 148) rfl (hb hby at_84) (by decide) (by decide) k)
    refine Go.st (T' := T9) (g' := (mkF m 149 #[.val (.int p1), .val (.int p2), .val (.int (4 : Int32)), .val (.ref w_ZDT6), .val (.int (10 : Int32))] [(.ref w_ZDT6)])) ?_ (fun _ k => XS.aloadN X9.here hx rfl (hb hby at_148) rfl rfl k)
    refine Go.st (T' := T9) (g' := (mkF m 150 #[.val (.int p1), .val (.int p2), .val (.int (4 : Int32)), .val (.ref w_ZDT6), .val (.int (10 : Int32))] [(.int p2), (.ref w_ZDT6)])) ?_ (fun _ k => XS.iloadN X9.here hx rfl (hb hby at_149) rfl k)
    refine Go.callV X9 hx hZ hown (hw _ (List.mem_of_getElem? (i := 4) rfl)) (hw _ (List.mem_of_getElem? (i := 5) rfl)) (hw _ (List.mem_of_getElem? (i := 7) rfl)) (hw _ (List.mem_of_getElem? (i := 6) rfl)) (hw _ (List.mem_of_getElem? (i := 2) rfl)) (hw _ (List.mem_of_getElem? (i := 8) rfl)) (by decide) A_ZDT6 (rm1 l Z a0 hw [] w_ZDT6 p2 (0 : Int32) (10 : Int32)  h0 n0 Z0  F_ZDT6_scalable F_ZDT6_variables) e9 (by decide) (W := 0) (by decide) (by decide) (by decide) (g := (mkF m 150 #[.val (.int p1), .val (.int p2), .val (.int (4 : Int32)), .val (.ref w_ZDT6), .val (.int (10 : Int32))] [(.int p2), (.ref w_ZDT6)])) (rest := []) rfl (by rw [hml]; rfl) (lenOf pd__I_I rfl) rfl (by show 2 * 0 + _ ≤ _; exact Nat.le_of_eq rfl) (hb hby at_150) ?_
    rintro v10 T10 L10 X10 ⟨rfl, N10, e10⟩
    have M10 := Fr.app N0 N10
    rw [show own_vars w_ZDT6 p2 (0 : Int32) (10 : Int32)  = (10 : Int32) from by rw [own_vars, if_pos (rfl : (0 : Int32) = (0 : Int32))]]
    show Go p e below _ T10 (mkF m 153 #[.val (.int p1), .val (.int p2), .val (.int (4 : Int32)), .val (.ref w_ZDT6), .val (.int (10 : Int32))] [(.int (10 : Int32))])
    refine Go.st (T' := T10) (g' := (mkF m 155 #[.val (.int p1), .val (.int p2), .val (.int (4 : Int32)), .val (.ref w_ZDT6), .val (.int (10 : Int32))] [(.int (10 : Int32)), (.int (10 : Int32))])) ?_ (fun _ k => XS.iload X10.here hx rfl (hb hby at_153) rfl k)
    refine Go.st (T' := T10) (g' := (mkF m 158 #[.val (.int p1), .val (.int p2), .val (.int (4 : Int32)), .val (.ref w_ZDT6), .val (.int (10 : Int32))] [])) ?_ (fun _ k => XS.icmpNo X10.here hx rfl (hb hby at_155) rfl (by decide) k)
    refine Go.st (T' := T10) (g' := (mkF m 159 #[.val (.int p1), .val (.int p2), .val (.int (4 : Int32)), .val (.ref w_ZDT6), .val (.int (10 : Int32))] [(.int (1 : Int32))])) ?_ (fun _ k => XT.iconstV X10.here hx rfl (1 : Int32) (hb hby at_158) (by decide) k)
    refine Go.st (T' := T10) (g' := (mkF m 163 #[.val (.int p1), .val (.int p2), .val (.int (4 : Int32)), .val (.ref w_ZDT6), .val (.int (10 : Int32))] [(.int (1 : Int32))])) ?_ (fun _ k => XS.goto X10.here hx rfl (pc0 := 159) (pc' := 163) rfl (hb hby at_159) (by decide) (by decide) k)
    exact Go.retV (t := .boolean) X10 hx hret hlk (by decide) (by decide) rfl (Or.inl ⟨rfl, Or.inr (Or.inl rfl), _, rfl⟩) (hb hby at_163) ⟨rfl, M10⟩
  · rw [hk]
    refine Go.st (T' := s₁) (g' := (mkF m 8 #[.val (.int p1), .val (.int p2), .val (.int (5 : Int32)), .unset, .unset] [])) ?_ (fun _ k => XS.istoreN X0.here hx rfl (hb hby at_7) rfl (l' := #[.val (.int p1), .val (.int p2), .val (.int (5 : Int32)), .unset, .unset]) rfl k)
    refine Go.st (T' := s₁) (g' := (mkF m 9 #[.val (.int p1), .val (.int p2), .val (.int (5 : Int32)), .unset, .unset] [(.int (5 : Int32))])) ?_ (fun _ k => XS.iloadN X0.here hx rfl (hb hby at_8) rfl k)
    refine Go.st (T' := s₁) (g' := (mkF m 23 #[.val (.int p1), .val (.int p2), .val (.int (5 : Int32)), .unset, .unset] [])) ?_ (fun _ k => XS.ifYes X0.here hx rfl (pc0 := 9) (pc' := 23) rfl (hb hby at_9) rfl (by decide) (by decide) (by decide) k)
    refine Go.st (T' := s₁) (g' := (mkF m 24 #[.val (.int p1), .val (.int p2), .val (.int (5 : Int32)), .unset, .unset] [(.int (5 : Int32))])) ?_ (fun _ k => XS.iloadN X0.here hx rfl (hb hby at_23) rfl k)
    refine Go.st (T' := s₁) (g' := (mkF m 25 #[.val (.int p1), .val (.int p2), .val (.int (5 : Int32)), .unset, .unset] [(.int (1 : Int32)), (.int (5 : Int32))])) ?_ (fun _ k => XT.iconstV X0.here hx rfl (1 : Int32) (hb hby at_24) (by decide) k)
    refine Go.st (T' := s₁) (g' := (mkF m 39 #[.val (.int p1), .val (.int p2), .val (.int (5 : Int32)), .unset, .unset] [])) ?_ (fun _ k => XS.icmpYes X0.here hx rfl (pc0 := 25) (pc' := 39) rfl (hb hby at_25) rfl (by decide) (by decide) (by decide) k)
    refine Go.st (T' := s₁) (g' := (mkF m 40 #[.val (.int p1), .val (.int p2), .val (.int (5 : Int32)), .unset, .unset] [(.int (5 : Int32))])) ?_ (fun _ k => XS.iloadN X0.here hx rfl (hb hby at_39) rfl k)
    refine Go.st (T' := s₁) (g' := (mkF m 41 #[.val (.int p1), .val (.int p2), .val (.int (5 : Int32)), .unset, .unset] [(.int (2 : Int32)), (.int (5 : Int32))])) ?_ (fun _ k => XT.iconstV X0.here hx rfl (2 : Int32) (hb hby at_40) (by decide) k)
    refine Go.st (T' := s₁) (g' := (mkF m 55 #[.val (.int p1), .val (.int p2), .val (.int (5 : Int32)), .unset, .unset] [])) ?_ (fun _ k => XS.icmpYes X0.here hx rfl (pc0 := 41) (pc' := 55) rfl (hb hby at_41) rfl (by decide) (by decide) (by decide) k)
    refine Go.st (T' := s₁) (g' := (mkF m 56 #[.val (.int p1), .val (.int p2), .val (.int (5 : Int32)), .unset, .unset] [(.int (5 : Int32))])) ?_ (fun _ k => XS.iloadN X0.here hx rfl (hb hby at_55) rfl k)
    refine Go.st (T' := s₁) (g' := (mkF m 57 #[.val (.int p1), .val (.int p2), .val (.int (5 : Int32)), .unset, .unset] [(.int (3 : Int32)), (.int (5 : Int32))])) ?_ (fun _ k => XT.iconstV X0.here hx rfl (3 : Int32) (hb hby at_56) (by decide) k)
    refine Go.st (T' := s₁) (g' := (mkF m 71 #[.val (.int p1), .val (.int p2), .val (.int (5 : Int32)), .unset, .unset] [])) ?_ (fun _ k => XS.icmpYes X0.here hx rfl (pc0 := 57) (pc' := 71) rfl (hb hby at_57) rfl (by decide) (by decide) (by decide) k)
    refine Go.st (T' := s₁) (g' := (mkF m 72 #[.val (.int p1), .val (.int p2), .val (.int (5 : Int32)), .unset, .unset] [(.int (5 : Int32))])) ?_ (fun _ k => XS.iloadN X0.here hx rfl (hb hby at_71) rfl k)
    refine Go.st (T' := s₁) (g' := (mkF m 73 #[.val (.int p1), .val (.int p2), .val (.int (5 : Int32)), .unset, .unset] [(.int (4 : Int32)), (.int (5 : Int32))])) ?_ (fun _ k => XT.iconstV X0.here hx rfl (4 : Int32) (hb hby at_72) (by decide) k)
    refine Go.st (T' := s₁) (g' := (mkF m 87 #[.val (.int p1), .val (.int p2), .val (.int (5 : Int32)), .unset, .unset] [])) ?_ (fun _ k => XS.icmpYes X0.here hx rfl (pc0 := 73) (pc' := 87) rfl (hb hby at_73) rfl (by decide) (by decide) (by decide) k)
    refine Go.st (T' := s₁) (g' := (mkF m 88 #[.val (.int p1), .val (.int p2), .val (.int (5 : Int32)), .unset, .unset] [(.int (5 : Int32))])) ?_ (fun _ k => XS.iloadN X0.here hx rfl (hb hby at_87) rfl k)
    refine Go.st (T' := s₁) (g' := (mkF m 89 #[.val (.int p1), .val (.int p2), .val (.int (5 : Int32)), .unset, .unset] [(.int (5 : Int32)), (.int (5 : Int32))])) ?_ (fun _ k => XT.iconstV X0.here hx rfl (5 : Int32) (hb hby at_88) (by decide) k)
    refine Go.st (T' := s₁) (g' := (mkF m 92 #[.val (.int p1), .val (.int p2), .val (.int (5 : Int32)), .unset, .unset] [])) ?_ (fun _ k => XS.icmpNo X0.here hx rfl (hb hby at_89) rfl (by decide) k)
    obtain ⟨T11, X11, e11, st11⟩ := getS2 X0 hx hZ hown (host := "") (Or.inl (hw _ (List.mem_of_getElem? (i := 13) rfl))) Via.refl e0 S_DTLZ1 (g := (mkF m 92 #[.val (.int p1), .val (.int p2), .val (.int (5 : Int32)), .unset, .unset] [])) rfl (hb hby at_92)
    refine Go.st (T' := T11) (g' := (mkF m 95 #[.val (.int p1), .val (.int p2), .val (.int (5 : Int32)), .unset, .unset] [(.ref w_DTLZ1)])) ?_ st11
    refine Go.st (T' := T11) (g' := (mkF m 96 #[.val (.int p1), .val (.int p2), .val (.int (5 : Int32)), .val (.ref w_DTLZ1), .unset] [])) ?_ (fun _ k => XS.astoreN X11.here hx rfl (hb hby at_95) rfl rfl (l' := #[.val (.int p1), .val (.int p2), .val (.int (5 : Int32)), .val (.ref w_DTLZ1), .unset]) rfl k)
    refine Go.st (T' := T11) (g' := (mkF m 97 #[.val (.int p1), .val (.int p2), .val (.int (5 : Int32)), .val (.ref w_DTLZ1), .unset] [(.int p2)])) ?_ (fun _ k => XS.iloadN X11.here hx rfl (hb hby at_96) rfl k)
    refine Go.st (T' := T11) (g' := (mkF m 98 #[.val (.int p1), .val (.int p2), .val (.int (5 : Int32)), .val (.ref w_DTLZ1), .unset] [(.int (4 : Int32)), (.int p2)])) ?_ (fun _ k => XT.iconstV X11.here hx rfl (4 : Int32) (hb hby at_97) (by decide) k)
    refine Go.st (T' := T11) (g' := (mkF m 99 #[.val (.int p1), .val (.int p2), .val (.int (5 : Int32)), .val (.ref w_DTLZ1), .unset] [(.int (p2 + (4 : Int32)))])) ?_ (fun _ k => XS.iadd X11.here hx rfl (hb hby at_98) rfl k)
    refine Go.st (T' := T11) (g' := (mkF m 101 #[.val (.int p1), .val (.int p2), .val (.int (5 : Int32)), .val (.ref w_DTLZ1), .val (.int (p2 + (4 : Int32)))] [])) ?_ (fun _ k => XS.istore X11.here hx rfl (hb hby at_99) rfl (l' := #[.val (.int p1), .val (.int p2), .val (.int (5 : Int32)), .val (.ref w_DTLZ1), .val (.int (p2 + (4 : Int32)))]) rfl k)
    refine Go.st (T' := T11) (g' := (mkF m 148 #[.val (.int p1), .val (.int p2), .val (.int (5 : Int32)), .val (.ref w_DTLZ1), .val (.int (p2 + (4 : Int32)))] [])) ?_ (fun _ k => XS.goto X11.here hx rfl (pc0 := 101) (pc' := 148) rfl (hb hby at_101) (by decide) (by decide) k)
    refine Go.st (T' := T11) (g' := (mkF m 149 #[.val (.int p1), .val (.int p2), .val (.int (5 : Int32)), .val (.ref w_DTLZ1), .val (.int (p2 + (4 : Int32)))] [(.ref w_DTLZ1)])) ?_ (fun _ k => XS.aloadN X11.here hx rfl (hb hby at_148) rfl rfl k)
    refine Go.st (T' := T11) (g' := (mkF m 150 #[.val (.int p1), .val (.int p2), .val (.int (5 : Int32)), .val (.ref w_DTLZ1), .val (.int (p2 + (4 : Int32)))] [(.int p2), (.ref w_DTLZ1)])) ?_ (fun _ k => XS.iloadN X11.here hx rfl (hb hby at_149) rfl k)
    refine Go.callV X11 hx hZ hown (hw _ (List.mem_of_getElem? (i := 4) rfl)) (hw _ (List.mem_of_getElem? (i := 5) rfl)) (hw _ (List.mem_of_getElem? (i := 7) rfl)) (hw _ (List.mem_of_getElem? (i := 6) rfl)) (hw _ (List.mem_of_getElem? (i := 2) rfl)) (hw _ (List.mem_of_getElem? (i := 8) rfl)) (by decide) A_DTLZ1 (rm1 l Z a0 hw [] w_DTLZ1 p2 (1 : Int32) (4 : Int32)  h0 n0 Z0  F_DTLZ1_scalable F_DTLZ1_variables) e11 (by decide) (W := 0) (by decide) (by decide) (by decide) (g := (mkF m 150 #[.val (.int p1), .val (.int p2), .val (.int (5 : Int32)), .val (.ref w_DTLZ1), .val (.int (p2 + (4 : Int32)))] [(.int p2), (.ref w_DTLZ1)])) (rest := []) rfl (by rw [hml]; rfl) (lenOf pd__I_I rfl) rfl (by show 2 * 0 + _ ≤ _; exact Nat.le_of_eq rfl) (hb hby at_150) ?_
    rintro v12 T12 L12 X12 ⟨rfl, N12, e12⟩
    have M12 := Fr.app N0 N12
    rw [show own_vars w_DTLZ1 p2 (1 : Int32) (4 : Int32)  = (p2 + (4 : Int32)) from by rw [own_vars, if_neg (by decide : ¬ (1 : Int32) = (0 : Int32))]]
    show Go p e below _ T12 (mkF m 153 #[.val (.int p1), .val (.int p2), .val (.int (5 : Int32)), .val (.ref w_DTLZ1), .val (.int (p2 + (4 : Int32)))] [(.int (p2 + (4 : Int32)))])
    refine Go.st (T' := T12) (g' := (mkF m 155 #[.val (.int p1), .val (.int p2), .val (.int (5 : Int32)), .val (.ref w_DTLZ1), .val (.int (p2 + (4 : Int32)))] [(.int (p2 + (4 : Int32))), (.int (p2 + (4 : Int32)))])) ?_ (fun _ k => XS.iload X12.here hx rfl (hb hby at_153) rfl k)
    refine Go.st (T' := T12) (g' := (mkF m 158 #[.val (.int p1), .val (.int p2), .val (.int (5 : Int32)), .val (.ref w_DTLZ1), .val (.int (p2 + (4 : Int32)))] [])) ?_ (fun _ k => XS.icmpNo X12.here hx rfl (hb hby at_155) rfl (teq (rfl : (p2 + (4 : Int32)) = (p2 + (4 : Int32)))).2 k)
    refine Go.st (T' := T12) (g' := (mkF m 159 #[.val (.int p1), .val (.int p2), .val (.int (5 : Int32)), .val (.ref w_DTLZ1), .val (.int (p2 + (4 : Int32)))] [(.int (1 : Int32))])) ?_ (fun _ k => XT.iconstV X12.here hx rfl (1 : Int32) (hb hby at_158) (by decide) k)
    refine Go.st (T' := T12) (g' := (mkF m 163 #[.val (.int p1), .val (.int p2), .val (.int (5 : Int32)), .val (.ref w_DTLZ1), .val (.int (p2 + (4 : Int32)))] [(.int (1 : Int32))])) ?_ (fun _ k => XS.goto X12.here hx rfl (pc0 := 159) (pc' := 163) rfl (hb hby at_159) (by decide) (by decide) k)
    exact Go.retV (t := .boolean) X12 hx hret hlk (by decide) (by decide) rfl (Or.inl ⟨rfl, Or.inr (Or.inl rfl), _, rfl⟩) (hb hby at_163) ⟨rfl, M12⟩
  · rw [hk]
    refine Go.st (T' := s₁) (g' := (mkF m 8 #[.val (.int p1), .val (.int p2), .val (.int (6 : Int32)), .unset, .unset] [])) ?_ (fun _ k => XS.istoreN X0.here hx rfl (hb hby at_7) rfl (l' := #[.val (.int p1), .val (.int p2), .val (.int (6 : Int32)), .unset, .unset]) rfl k)
    refine Go.st (T' := s₁) (g' := (mkF m 9 #[.val (.int p1), .val (.int p2), .val (.int (6 : Int32)), .unset, .unset] [(.int (6 : Int32))])) ?_ (fun _ k => XS.iloadN X0.here hx rfl (hb hby at_8) rfl k)
    refine Go.st (T' := s₁) (g' := (mkF m 23 #[.val (.int p1), .val (.int p2), .val (.int (6 : Int32)), .unset, .unset] [])) ?_ (fun _ k => XS.ifYes X0.here hx rfl (pc0 := 9) (pc' := 23) rfl (hb hby at_9) rfl (by decide) (by decide) (by decide) k)
    refine Go.st (T' := s₁) (g' := (mkF m 24 #[.val (.int p1), .val (.int p2), .val (.int (6 : Int32)), .unset, .unset] [(.int (6 : Int32))])) ?_ (fun _ k => XS.iloadN X0.here hx rfl (hb hby at_23) rfl k)
    refine Go.st (T' := s₁) (g' := (mkF m 25 #[.val (.int p1), .val (.int p2), .val (.int (6 : Int32)), .unset, .unset] [(.int (1 : Int32)), (.int (6 : Int32))])) ?_ (fun _ k => XT.iconstV X0.here hx rfl (1 : Int32) (hb hby at_24) (by decide) k)
    refine Go.st (T' := s₁) (g' := (mkF m 39 #[.val (.int p1), .val (.int p2), .val (.int (6 : Int32)), .unset, .unset] [])) ?_ (fun _ k => XS.icmpYes X0.here hx rfl (pc0 := 25) (pc' := 39) rfl (hb hby at_25) rfl (by decide) (by decide) (by decide) k)
    refine Go.st (T' := s₁) (g' := (mkF m 40 #[.val (.int p1), .val (.int p2), .val (.int (6 : Int32)), .unset, .unset] [(.int (6 : Int32))])) ?_ (fun _ k => XS.iloadN X0.here hx rfl (hb hby at_39) rfl k)
    refine Go.st (T' := s₁) (g' := (mkF m 41 #[.val (.int p1), .val (.int p2), .val (.int (6 : Int32)), .unset, .unset] [(.int (2 : Int32)), (.int (6 : Int32))])) ?_ (fun _ k => XT.iconstV X0.here hx rfl (2 : Int32) (hb hby at_40) (by decide) k)
    refine Go.st (T' := s₁) (g' := (mkF m 55 #[.val (.int p1), .val (.int p2), .val (.int (6 : Int32)), .unset, .unset] [])) ?_ (fun _ k => XS.icmpYes X0.here hx rfl (pc0 := 41) (pc' := 55) rfl (hb hby at_41) rfl (by decide) (by decide) (by decide) k)
    refine Go.st (T' := s₁) (g' := (mkF m 56 #[.val (.int p1), .val (.int p2), .val (.int (6 : Int32)), .unset, .unset] [(.int (6 : Int32))])) ?_ (fun _ k => XS.iloadN X0.here hx rfl (hb hby at_55) rfl k)
    refine Go.st (T' := s₁) (g' := (mkF m 57 #[.val (.int p1), .val (.int p2), .val (.int (6 : Int32)), .unset, .unset] [(.int (3 : Int32)), (.int (6 : Int32))])) ?_ (fun _ k => XT.iconstV X0.here hx rfl (3 : Int32) (hb hby at_56) (by decide) k)
    refine Go.st (T' := s₁) (g' := (mkF m 71 #[.val (.int p1), .val (.int p2), .val (.int (6 : Int32)), .unset, .unset] [])) ?_ (fun _ k => XS.icmpYes X0.here hx rfl (pc0 := 57) (pc' := 71) rfl (hb hby at_57) rfl (by decide) (by decide) (by decide) k)
    refine Go.st (T' := s₁) (g' := (mkF m 72 #[.val (.int p1), .val (.int p2), .val (.int (6 : Int32)), .unset, .unset] [(.int (6 : Int32))])) ?_ (fun _ k => XS.iloadN X0.here hx rfl (hb hby at_71) rfl k)
    refine Go.st (T' := s₁) (g' := (mkF m 73 #[.val (.int p1), .val (.int p2), .val (.int (6 : Int32)), .unset, .unset] [(.int (4 : Int32)), (.int (6 : Int32))])) ?_ (fun _ k => XT.iconstV X0.here hx rfl (4 : Int32) (hb hby at_72) (by decide) k)
    refine Go.st (T' := s₁) (g' := (mkF m 87 #[.val (.int p1), .val (.int p2), .val (.int (6 : Int32)), .unset, .unset] [])) ?_ (fun _ k => XS.icmpYes X0.here hx rfl (pc0 := 73) (pc' := 87) rfl (hb hby at_73) rfl (by decide) (by decide) (by decide) k)
    refine Go.st (T' := s₁) (g' := (mkF m 88 #[.val (.int p1), .val (.int p2), .val (.int (6 : Int32)), .unset, .unset] [(.int (6 : Int32))])) ?_ (fun _ k => XS.iloadN X0.here hx rfl (hb hby at_87) rfl k)
    refine Go.st (T' := s₁) (g' := (mkF m 89 #[.val (.int p1), .val (.int p2), .val (.int (6 : Int32)), .unset, .unset] [(.int (5 : Int32)), (.int (6 : Int32))])) ?_ (fun _ k => XT.iconstV X0.here hx rfl (5 : Int32) (hb hby at_88) (by decide) k)
    refine Go.st (T' := s₁) (g' := (mkF m 104 #[.val (.int p1), .val (.int p2), .val (.int (6 : Int32)), .unset, .unset] [])) ?_ (fun _ k => XS.icmpYes X0.here hx rfl (pc0 := 89) (pc' := 104) rfl (hb hby at_89) rfl (by decide) (by decide) (by decide) k)
    refine Go.st (T' := s₁) (g' := (mkF m 105 #[.val (.int p1), .val (.int p2), .val (.int (6 : Int32)), .unset, .unset] [(.int (6 : Int32))])) ?_ (fun _ k => XS.iloadN X0.here hx rfl (hb hby at_104) rfl k)
    refine Go.st (T' := s₁) (g' := (mkF m 107 #[.val (.int p1), .val (.int p2), .val (.int (6 : Int32)), .unset, .unset] [(.int (6 : Int32)), (.int (6 : Int32))])) ?_ (fun _ k => XT.bipushV X0.here hx rfl (6 : Int32) (hb hby at_105) (by decide) k)
    refine Go.st (T' := s₁) (g' := (mkF m 110 #[.val (.int p1), .val (.int p2), .val (.int (6 : Int32)), .unset, .unset] [])) ?_ (fun _ k => XS.icmpNo X0.here hx rfl (hb hby at_107) rfl (by decide) k)
    obtain ⟨T13, X13, e13, st13⟩ := getS2 X0 hx hZ hown (host := "") (Or.inl (hw _ (List.mem_of_getElem? (i := 19) rfl))) Via.refl e0 S_DTLZ2 (g := (mkF m 110 #[.val (.int p1), .val (.int p2), .val (.int (6 : Int32)), .unset, .unset] [])) rfl (hb hby at_110)
    refine Go.st (T' := T13) (g' := (mkF m 113 #[.val (.int p1), .val (.int p2), .val (.int (6 : Int32)), .unset, .unset] [(.ref w_DTLZ2)])) ?_ st13
    refine Go.st (T' := T13) (g' := (mkF m 114 #[.val (.int p1), .val (.int p2), .val (.int (6 : Int32)), .val (.ref w_DTLZ2), .unset] [])) ?_ (fun _ k => XS.astoreN X13.here hx rfl (hb hby at_113) rfl rfl (l' := #[.val (.int p1), .val (.int p2), .val (.int (6 : Int32)), .val (.ref w_DTLZ2), .unset]) rfl k)
    refine Go.st (T' := T13) (g' := (mkF m 115 #[.val (.int p1), .val (.int p2), .val (.int (6 : Int32)), .val (.ref w_DTLZ2), .unset] [(.int p2)])) ?_ (fun _ k => XS.iloadN X13.here hx rfl (hb hby at_114) rfl k)
    refine Go.st (T' := T13) (g' := (mkF m 117 #[.val (.int p1), .val (.int p2), .val (.int (6 : Int32)), .val (.ref w_DTLZ2), .unset] [(.int (9 : Int32)), (.int p2)])) ?_ (fun _ k => XT.bipushV X13.here hx rfl (9 : Int32) (hb hby at_115) (by decide) k)
    refine Go.st (T' := T13) (g' := (mkF m 118 #[.val (.int p1), .val (.int p2), .val (.int (6 : Int32)), .val (.ref w_DTLZ2), .unset] [(.int (p2 + (9 : Int32)))])) ?_ (fun _ k => XS.iadd X13.here hx rfl (hb hby at_117) rfl k)
    refine Go.st (T' := T13) (g' := (mkF m 120 #[.val (.int p1), .val (.int p2), .val (.int (6 : Int32)), .val (.ref w_DTLZ2), .val (.int (p2 + (9 : Int32)))] [])) ?_ (fun _ k => XS.istore X13.here hx rfl (hb hby at_118) rfl (l' := #[.val (.int p1), .val (.int p2), .val (.int (6 : Int32)), .val (.ref w_DTLZ2), .val (.int (p2 + (9 : Int32)))]) rfl k)
    refine Go.st (T' := T13) (g' := (mkF m 148 #[.val (.int p1), .val (.int p2), .val (.int (6 : Int32)), .val (.ref w_DTLZ2), .val (.int (p2 + (9 : Int32)))] [])) ?_ (fun _ k => XS.goto X13.here hx rfl (pc0 := 120) (pc' := 148) rfl (hb hby at_120) (by decide) (by decide) k)
    refine Go.st (T' := T13) (g' := (mkF m 149 #[.val (.int p1), .val (.int p2), .val (.int (6 : Int32)), .val (.ref w_DTLZ2), .val (.int (p2 + (9 : Int32)))] [(.ref w_DTLZ2)])) ?_ (fun _ k => XS.aloadN X13.here hx rfl (hb hby at_148) rfl rfl k)
    refine Go.st (T' := T13) (g' := (mkF m 150 #[.val (.int p1), .val (.int p2), .val (.int (6 : Int32)), .val (.ref w_DTLZ2), .val (.int (p2 + (9 : Int32)))] [(.int p2), (.ref w_DTLZ2)])) ?_ (fun _ k => XS.iloadN X13.here hx rfl (hb hby at_149) rfl k)
    refine Go.callV X13 hx hZ hown (hw _ (List.mem_of_getElem? (i := 4) rfl)) (hw _ (List.mem_of_getElem? (i := 5) rfl)) (hw _ (List.mem_of_getElem? (i := 7) rfl)) (hw _ (List.mem_of_getElem? (i := 6) rfl)) (hw _ (List.mem_of_getElem? (i := 2) rfl)) (hw _ (List.mem_of_getElem? (i := 8) rfl)) (by decide) A_DTLZ2 (rm1 l Z a0 hw [] w_DTLZ2 p2 (1 : Int32) (9 : Int32)  h0 n0 Z0  F_DTLZ2_scalable F_DTLZ2_variables) e13 (by decide) (W := 0) (by decide) (by decide) (by decide) (g := (mkF m 150 #[.val (.int p1), .val (.int p2), .val (.int (6 : Int32)), .val (.ref w_DTLZ2), .val (.int (p2 + (9 : Int32)))] [(.int p2), (.ref w_DTLZ2)])) (rest := []) rfl (by rw [hml]; rfl) (lenOf pd__I_I rfl) rfl (by show 2 * 0 + _ ≤ _; exact Nat.le_of_eq rfl) (hb hby at_150) ?_
    rintro v14 T14 L14 X14 ⟨rfl, N14, e14⟩
    have M14 := Fr.app N0 N14
    rw [show own_vars w_DTLZ2 p2 (1 : Int32) (9 : Int32)  = (p2 + (9 : Int32)) from by rw [own_vars, if_neg (by decide : ¬ (1 : Int32) = (0 : Int32))]]
    show Go p e below _ T14 (mkF m 153 #[.val (.int p1), .val (.int p2), .val (.int (6 : Int32)), .val (.ref w_DTLZ2), .val (.int (p2 + (9 : Int32)))] [(.int (p2 + (9 : Int32)))])
    refine Go.st (T' := T14) (g' := (mkF m 155 #[.val (.int p1), .val (.int p2), .val (.int (6 : Int32)), .val (.ref w_DTLZ2), .val (.int (p2 + (9 : Int32)))] [(.int (p2 + (9 : Int32))), (.int (p2 + (9 : Int32)))])) ?_ (fun _ k => XS.iload X14.here hx rfl (hb hby at_153) rfl k)
    refine Go.st (T' := T14) (g' := (mkF m 158 #[.val (.int p1), .val (.int p2), .val (.int (6 : Int32)), .val (.ref w_DTLZ2), .val (.int (p2 + (9 : Int32)))] [])) ?_ (fun _ k => XS.icmpNo X14.here hx rfl (hb hby at_155) rfl (teq (rfl : (p2 + (9 : Int32)) = (p2 + (9 : Int32)))).2 k)
    refine Go.st (T' := T14) (g' := (mkF m 159 #[.val (.int p1), .val (.int p2), .val (.int (6 : Int32)), .val (.ref w_DTLZ2), .val (.int (p2 + (9 : Int32)))] [(.int (1 : Int32))])) ?_ (fun _ k => XT.iconstV X14.here hx rfl (1 : Int32) (hb hby at_158) (by decide) k)
    refine Go.st (T' := T14) (g' := (mkF m 163 #[.val (.int p1), .val (.int p2), .val (.int (6 : Int32)), .val (.ref w_DTLZ2), .val (.int (p2 + (9 : Int32)))] [(.int (1 : Int32))])) ?_ (fun _ k => XS.goto X14.here hx rfl (pc0 := 159) (pc' := 163) rfl (hb hby at_159) (by decide) (by decide) k)
    exact Go.retV (t := .boolean) X14 hx hret hlk (by decide) (by decide) rfl (Or.inl ⟨rfl, Or.inr (Or.inl rfl), _, rfl⟩) (hb hby at_163) ⟨rfl, M14⟩
  · rw [hk]
    refine Go.st (T' := s₁) (g' := (mkF m 8 #[.val (.int p1), .val (.int p2), .val (.int (7 : Int32)), .unset, .unset] [])) ?_ (fun _ k => XS.istoreN X0.here hx rfl (hb hby at_7) rfl (l' := #[.val (.int p1), .val (.int p2), .val (.int (7 : Int32)), .unset, .unset]) rfl k)
    refine Go.st (T' := s₁) (g' := (mkF m 9 #[.val (.int p1), .val (.int p2), .val (.int (7 : Int32)), .unset, .unset] [(.int (7 : Int32))])) ?_ (fun _ k => XS.iloadN X0.here hx rfl (hb hby at_8) rfl k)
    refine Go.st (T' := s₁) (g' := (mkF m 23 #[.val (.int p1), .val (.int p2), .val (.int (7 : Int32)), .unset, .unset] [])) ?_ (fun _ k => XS.ifYes X0.here hx rfl (pc0 := 9) (pc' := 23) rfl (hb hby at_9) rfl (by decide) (by decide) (by decide) k)
    refine Go.st (T' := s₁) (g' := (mkF m 24 #[.val (.int p1), .val (.int p2), .val (.int (7 : Int32)), .unset, .unset] [(.int (7 : Int32))])) ?_ (fun _ k => XS.iloadN X0.here hx rfl (hb hby at_23) rfl k)
    refine Go.st (T' := s₁) (g' := (mkF m 25 #[.val (.int p1), .val (.int p2), .val (.int (7 : Int32)), .unset, .unset] [(.int (1 : Int32)), (.int (7 : Int32))])) ?_ (fun _ k => XT.iconstV X0.here hx rfl (1 : Int32) (hb hby at_24) (by decide) k)
    refine Go.st (T' := s₁) (g' := (mkF m 39 #[.val (.int p1), .val (.int p2), .val (.int (7 : Int32)), .unset, .unset] [])) ?_ (fun _ k => XS.icmpYes X0.here hx rfl (pc0 := 25) (pc' := 39) rfl (hb hby at_25) rfl (by decide) (by decide) (by decide) k)
    refine Go.st (T' := s₁) (g' := (mkF m 40 #[.val (.int p1), .val (.int p2), .val (.int (7 : Int32)), .unset, .unset] [(.int (7 : Int32))])) ?_ (fun _ k => XS.iloadN X0.here hx rfl (hb hby at_39) rfl k)
    refine Go.st (T' := s₁) (g' := (mkF m 41 #[.val (.int p1), .val (.int p2), .val (.int (7 : Int32)), .unset, .unset] [(.int (2 : Int32)), (.int (7 : Int32))])) ?_ (fun _ k => XT.iconstV X0.here hx rfl (2 : Int32) (hb hby at_40) (by decide) k)
    refine Go.st (T' := s₁) (g' := (mkF m 55 #[.val (.int p1), .val (.int p2), .val (.int (7 : Int32)), .unset, .unset] [])) ?_ (fun _ k => XS.icmpYes X0.here hx rfl (pc0 := 41) (pc' := 55) rfl (hb hby at_41) rfl (by decide) (by decide) (by decide) k)
    refine Go.st (T' := s₁) (g' := (mkF m 56 #[.val (.int p1), .val (.int p2), .val (.int (7 : Int32)), .unset, .unset] [(.int (7 : Int32))])) ?_ (fun _ k => XS.iloadN X0.here hx rfl (hb hby at_55) rfl k)
    refine Go.st (T' := s₁) (g' := (mkF m 57 #[.val (.int p1), .val (.int p2), .val (.int (7 : Int32)), .unset, .unset] [(.int (3 : Int32)), (.int (7 : Int32))])) ?_ (fun _ k => XT.iconstV X0.here hx rfl (3 : Int32) (hb hby at_56) (by decide) k)
    refine Go.st (T' := s₁) (g' := (mkF m 71 #[.val (.int p1), .val (.int p2), .val (.int (7 : Int32)), .unset, .unset] [])) ?_ (fun _ k => XS.icmpYes X0.here hx rfl (pc0 := 57) (pc' := 71) rfl (hb hby at_57) rfl (by decide) (by decide) (by decide) k)
    refine Go.st (T' := s₁) (g' := (mkF m 72 #[.val (.int p1), .val (.int p2), .val (.int (7 : Int32)), .unset, .unset] [(.int (7 : Int32))])) ?_ (fun _ k => XS.iloadN X0.here hx rfl (hb hby at_71) rfl k)
    refine Go.st (T' := s₁) (g' := (mkF m 73 #[.val (.int p1), .val (.int p2), .val (.int (7 : Int32)), .unset, .unset] [(.int (4 : Int32)), (.int (7 : Int32))])) ?_ (fun _ k => XT.iconstV X0.here hx rfl (4 : Int32) (hb hby at_72) (by decide) k)
    refine Go.st (T' := s₁) (g' := (mkF m 87 #[.val (.int p1), .val (.int p2), .val (.int (7 : Int32)), .unset, .unset] [])) ?_ (fun _ k => XS.icmpYes X0.here hx rfl (pc0 := 73) (pc' := 87) rfl (hb hby at_73) rfl (by decide) (by decide) (by decide) k)
    refine Go.st (T' := s₁) (g' := (mkF m 88 #[.val (.int p1), .val (.int p2), .val (.int (7 : Int32)), .unset, .unset] [(.int (7 : Int32))])) ?_ (fun _ k => XS.iloadN X0.here hx rfl (hb hby at_87) rfl k)
    refine Go.st (T' := s₁) (g' := (mkF m 89 #[.val (.int p1), .val (.int p2), .val (.int (7 : Int32)), .unset, .unset] [(.int (5 : Int32)), (.int (7 : Int32))])) ?_ (fun _ k => XT.iconstV X0.here hx rfl (5 : Int32) (hb hby at_88) (by decide) k)
    refine Go.st (T' := s₁) (g' := (mkF m 104 #[.val (.int p1), .val (.int p2), .val (.int (7 : Int32)), .unset, .unset] [])) ?_ (fun _ k => XS.icmpYes X0.here hx rfl (pc0 := 89) (pc' := 104) rfl (hb hby at_89) rfl (by decide) (by decide) (by decide) k)
    refine Go.st (T' := s₁) (g' := (mkF m 105 #[.val (.int p1), .val (.int p2), .val (.int (7 : Int32)), .unset, .unset] [(.int (7 : Int32))])) ?_ (fun _ k => XS.iloadN X0.here hx rfl (hb hby at_104) rfl k)
    refine Go.st (T' := s₁) (g' := (mkF m 107 #[.val (.int p1), .val (.int p2), .val (.int (7 : Int32)), .unset, .unset] [(.int (6 : Int32)), (.int (7 : Int32))])) ?_ (fun _ k => XT.bipushV X0.here hx rfl (6 : Int32) (hb hby at_105) (by decide) k)
    refine Go.st (T' := s₁) (g' := (mkF m 123 #[.val (.int p1), .val (.int p2), .val (.int (7 : Int32)), .unset, .unset] [])) ?_ (fun _ k => XS.icmpYes X0.here hx rfl (pc0 := 107) (pc' := 123) rfl (hb hby at_107) rfl (by decide) (by decide) (by decide) k)
    refine Go.st (T' := s₁) (g' := (mkF m 124 #[.val (.int p1), .val (.int p2), .val (.int (7 : Int32)), .unset, .unset] [(.int (7 : Int32))])) ?_ (fun _ k => XS.iloadN X0.here hx rfl (hb hby at_123) rfl k)
    refine Go.st (T' := s₁) (g' := (mkF m 126 #[.val (.int p1), .val (.int p2), .val (.int (7 : Int32)), .unset, .unset] [(.int (7 : Int32)), (.int (7 : Int32))])) ?_ (fun _ k => XT.bipushV X0.here hx rfl (7 : Int32) (hb hby at_124) (by decide) k)
    refine Go.st (T' := s₁) (g' := (mkF m 129 #[.val (.int p1), .val (.int p2), .val (.int (7 : Int32)), .unset, .unset] [])) ?_ (fun _ k => XS.icmpNo X0.here hx rfl (hb hby at_126) rfl (by decide) k)
    obtain ⟨T15, X15, e15, st15⟩ := getS2 X0 hx hZ hown (host := "") (Or.inl (hw _ (List.mem_of_getElem? (i := 27) rfl))) Via.refl e0 S_DTLZ1B (g := (mkF m 129 #[.val (.int p1), .val (.int p2), .val (.int (7 : Int32)), .unset, .unset] [])) rfl (hb hby at_129)
    refine Go.st (T' := T15) (g' := (mkF m 132 #[.val (.int p1), .val (.int p2), .val (.int (7 : Int32)), .unset, .unset] [(.ref w_DTLZ1B)])) ?_ st15
    refine Go.st (T' := T15) (g' := (mkF m 133 #[.val (.int p1), .val (.int p2), .val (.int (7 : Int32)), .val (.ref w_DTLZ1B), .unset] [])) ?_ (fun _ k => XS.astoreN X15.here hx rfl (hb hby at_132) rfl rfl (l' := #[.val (.int p1), .val (.int p2), .val (.int (7 : Int32)), .val (.ref w_DTLZ1B), .unset]) rfl k)
    refine Go.st (T' := T15) (g' := (mkF m 135 #[.val (.int p1), .val (.int p2), .val (.int (7 : Int32)), .val (.ref w_DTLZ1B), .unset] [(.int (10 : Int32))])) ?_ (fun _ k => XT.bipushV X15.here hx rfl (10 : Int32) (hb hby at_133) (by decide) k)
    refine Go.st (T' := T15) (g' := (mkF m 137 #[.val (.int p1), .val (.int p2), .val (.int (7 : Int32)), .val (.ref w_DTLZ1B), .val (.int (10 : Int32))] [])) ?_ (fun _ k => XS.istore X15.here hx rfl (hb hby at_135) rfl (l' := #[.val (.int p1), .val (.int p2), .val (.int (7 : Int32)), .val (.ref w_DTLZ1B), .val (.int (10 : Int32))]) rfl k)
    refine Go.st (T' := T15) (g' := (mkF m 148 #[.val (.int p1), .val (.int p2), .val (.int (7 : Int32)), .val (.ref w_DTLZ1B), .val (.int (10 : Int32))] [])) ?_ (fun _ k => XS.goto X15.here hx rfl (pc0 := 137) (pc' := 148) rfl (hb hby at_137) (by decide) (by decide) k)
    refine Go.st (T' := T15) (g' := (mkF m 149 #[.val (.int p1), .val (.int p2), .val (.int (7 : Int32)), .val (.ref w_DTLZ1B), .val (.int (10 : Int32))] [(.ref w_DTLZ1B)])) ?_ (fun _ k => XS.aloadN X15.here hx rfl (hb hby at_148) rfl rfl k)
    refine Go.st (T' := T15) (g' := (mkF m 150 #[.val (.int p1), .val (.int p2), .val (.int (7 : Int32)), .val (.ref w_DTLZ1B), .val (.int (10 : Int32))] [(.int p2), (.ref w_DTLZ1B)])) ?_ (fun _ k => XS.iloadN X15.here hx rfl (hb hby at_149) rfl k)
    refine Go.callV X15 hx hZ hown (hw _ (List.mem_of_getElem? (i := 4) rfl)) (hw _ (List.mem_of_getElem? (i := 5) rfl)) (hw _ (List.mem_of_getElem? (i := 7) rfl)) (hw _ (List.mem_of_getElem? (i := 6) rfl)) (hw _ (List.mem_of_getElem? (i := 2) rfl)) (hw _ (List.mem_of_getElem? (i := 8) rfl)) (by decide) A_DTLZ1B (rm1 l Z a0 hw [] w_DTLZ1B p2 (0 : Int32) (10 : Int32)  h0 n0 Z0  F_DTLZ1B_scalable F_DTLZ1B_variables) e15 (by decide) (W := 0) (by decide) (by decide) (by decide) (g := (mkF m 150 #[.val (.int p1), .val (.int p2), .val (.int (7 : Int32)), .val (.ref w_DTLZ1B), .val (.int (10 : Int32))] [(.int p2), (.ref w_DTLZ1B)])) (rest := []) rfl (by rw [hml]; rfl) (lenOf pd__I_I rfl) rfl (by show 2 * 0 + _ ≤ _; exact Nat.le_of_eq rfl) (hb hby at_150) ?_
    rintro v16 T16 L16 X16 ⟨rfl, N16, e16⟩
    have M16 := Fr.app N0 N16
    rw [show own_vars w_DTLZ1B p2 (0 : Int32) (10 : Int32)  = (10 : Int32) from by rw [own_vars, if_pos (rfl : (0 : Int32) = (0 : Int32))]]
    show Go p e below _ T16 (mkF m 153 #[.val (.int p1), .val (.int p2), .val (.int (7 : Int32)), .val (.ref w_DTLZ1B), .val (.int (10 : Int32))] [(.int (10 : Int32))])
    refine Go.st (T' := T16) (g' := (mkF m 155 #[.val (.int p1), .val (.int p2), .val (.int (7 : Int32)), .val (.ref w_DTLZ1B), .val (.int (10 : Int32))] [(.int (10 : Int32)), (.int (10 : Int32))])) ?_ (fun _ k => XS.iload X16.here hx rfl (hb hby at_153) rfl k)
    refine Go.st (T' := T16) (g' := (mkF m 158 #[.val (.int p1), .val (.int p2), .val (.int (7 : Int32)), .val (.ref w_DTLZ1B), .val (.int (10 : Int32))] [])) ?_ (fun _ k => XS.icmpNo X16.here hx rfl (hb hby at_155) rfl (by decide) k)
    refine Go.st (T' := T16) (g' := (mkF m 159 #[.val (.int p1), .val (.int p2), .val (.int (7 : Int32)), .val (.ref w_DTLZ1B), .val (.int (10 : Int32))] [(.int (1 : Int32))])) ?_ (fun _ k => XT.iconstV X16.here hx rfl (1 : Int32) (hb hby at_158) (by decide) k)
    refine Go.st (T' := T16) (g' := (mkF m 163 #[.val (.int p1), .val (.int p2), .val (.int (7 : Int32)), .val (.ref w_DTLZ1B), .val (.int (10 : Int32))] [(.int (1 : Int32))])) ?_ (fun _ k => XS.goto X16.here hx rfl (pc0 := 159) (pc' := 163) rfl (hb hby at_159) (by decide) (by decide) k)
    exact Go.retV (t := .boolean) X16 hx hret hlk (by decide) (by decide) rfl (Or.inl ⟨rfl, Or.inr (Or.inl rfl), _, rfl⟩) (hb hby at_163) ⟨rfl, M16⟩
  · rw [hk]
    refine Go.st (T' := s₁) (g' := (mkF m 8 #[.val (.int p1), .val (.int p2), .val (.int (8 : Int32)), .unset, .unset] [])) ?_ (fun _ k => XS.istoreN X0.here hx rfl (hb hby at_7) rfl (l' := #[.val (.int p1), .val (.int p2), .val (.int (8 : Int32)), .unset, .unset]) rfl k)
    refine Go.st (T' := s₁) (g' := (mkF m 9 #[.val (.int p1), .val (.int p2), .val (.int (8 : Int32)), .unset, .unset] [(.int (8 : Int32))])) ?_ (fun _ k => XS.iloadN X0.here hx rfl (hb hby at_8) rfl k)
    refine Go.st (T' := s₁) (g' := (mkF m 23 #[.val (.int p1), .val (.int p2), .val (.int (8 : Int32)), .unset, .unset] [])) ?_ (fun _ k => XS.ifYes X0.here hx rfl (pc0 := 9) (pc' := 23) rfl (hb hby at_9) rfl (by decide) (by decide) (by decide) k)
    refine Go.st (T' := s₁) (g' := (mkF m 24 #[.val (.int p1), .val (.int p2), .val (.int (8 : Int32)), .unset, .unset] [(.int (8 : Int32))])) ?_ (fun _ k => XS.iloadN X0.here hx rfl (hb hby at_23) rfl k)
    refine Go.st (T' := s₁) (g' := (mkF m 25 #[.val (.int p1), .val (.int p2), .val (.int (8 : Int32)), .unset, .unset] [(.int (1 : Int32)), (.int (8 : Int32))])) ?_ (fun _ k => XT.iconstV X0.here hx rfl (1 : Int32) (hb hby at_24) (by decide) k)
    refine Go.st (T' := s₁) (g' := (mkF m 39 #[.val (.int p1), .val (.int p2), .val (.int (8 : Int32)), .unset, .unset] [])) ?_ (fun _ k => XS.icmpYes X0.here hx rfl (pc0 := 25) (pc' := 39) rfl (hb hby at_25) rfl (by decide) (by decide) (by decide) k)
    refine Go.st (T' := s₁) (g' := (mkF m 40 #[.val (.int p1), .val (.int p2), .val (.int (8 : Int32)), .unset, .unset] [(.int (8 : Int32))])) ?_ (fun _ k => XS.iloadN X0.here hx rfl (hb hby at_39) rfl k)
    refine Go.st (T' := s₁) (g' := (mkF m 41 #[.val (.int p1), .val (.int p2), .val (.int (8 : Int32)), .unset, .unset] [(.int (2 : Int32)), (.int (8 : Int32))])) ?_ (fun _ k => XT.iconstV X0.here hx rfl (2 : Int32) (hb hby at_40) (by decide) k)
    refine Go.st (T' := s₁) (g' := (mkF m 55 #[.val (.int p1), .val (.int p2), .val (.int (8 : Int32)), .unset, .unset] [])) ?_ (fun _ k => XS.icmpYes X0.here hx rfl (pc0 := 41) (pc' := 55) rfl (hb hby at_41) rfl (by decide) (by decide) (by decide) k)
    refine Go.st (T' := s₁) (g' := (mkF m 56 #[.val (.int p1), .val (.int p2), .val (.int (8 : Int32)), .unset, .unset] [(.int (8 : Int32))])) ?_ (fun _ k => XS.iloadN X0.here hx rfl (hb hby at_55) rfl k)
    refine Go.st (T' := s₁) (g' := (mkF m 57 #[.val (.int p1), .val (.int p2), .val (.int (8 : Int32)), .unset, .unset] [(.int (3 : Int32)), (.int (8 : Int32))])) ?_ (fun _ k => XT.iconstV X0.here hx rfl (3 : Int32) (hb hby at_56) (by decide) k)
    refine Go.st (T' := s₁) (g' := (mkF m 71 #[.val (.int p1), .val (.int p2), .val (.int (8 : Int32)), .unset, .unset] [])) ?_ (fun _ k => XS.icmpYes X0.here hx rfl (pc0 := 57) (pc' := 71) rfl (hb hby at_57) rfl (by decide) (by decide) (by decide) k)
    refine Go.st (T' := s₁) (g' := (mkF m 72 #[.val (.int p1), .val (.int p2), .val (.int (8 : Int32)), .unset, .unset] [(.int (8 : Int32))])) ?_ (fun _ k => XS.iloadN X0.here hx rfl (hb hby at_71) rfl k)
    refine Go.st (T' := s₁) (g' := (mkF m 73 #[.val (.int p1), .val (.int p2), .val (.int (8 : Int32)), .unset, .unset] [(.int (4 : Int32)), (.int (8 : Int32))])) ?_ (fun _ k => XT.iconstV X0.here hx rfl (4 : Int32) (hb hby at_72) (by decide) k)
    refine Go.st (T' := s₁) (g' := (mkF m 87 #[.val (.int p1), .val (.int p2), .val (.int (8 : Int32)), .unset, .unset] [])) ?_ (fun _ k => XS.icmpYes X0.here hx rfl (pc0 := 73) (pc' := 87) rfl (hb hby at_73) rfl (by decide) (by decide) (by decide) k)
    refine Go.st (T' := s₁) (g' := (mkF m 88 #[.val (.int p1), .val (.int p2), .val (.int (8 : Int32)), .unset, .unset] [(.int (8 : Int32))])) ?_ (fun _ k => XS.iloadN X0.here hx rfl (hb hby at_87) rfl k)
    refine Go.st (T' := s₁) (g' := (mkF m 89 #[.val (.int p1), .val (.int p2), .val (.int (8 : Int32)), .unset, .unset] [(.int (5 : Int32)), (.int (8 : Int32))])) ?_ (fun _ k => XT.iconstV X0.here hx rfl (5 : Int32) (hb hby at_88) (by decide) k)
    refine Go.st (T' := s₁) (g' := (mkF m 104 #[.val (.int p1), .val (.int p2), .val (.int (8 : Int32)), .unset, .unset] [])) ?_ (fun _ k => XS.icmpYes X0.here hx rfl (pc0 := 89) (pc' := 104) rfl (hb hby at_89) rfl (by decide) (by decide) (by decide) k)
    refine Go.st (T' := s₁) (g' := (mkF m 105 #[.val (.int p1), .val (.int p2), .val (.int (8 : Int32)), .unset, .unset] [(.int (8 : Int32))])) ?_ (fun _ k => XS.iloadN X0.here hx rfl (hb hby at_104) rfl k)
    refine Go.st (T' := s₁) (g' := (mkF m 107 #[.val (.int p1), .val (.int p2), .val (.int (8 : Int32)), .unset, .unset] [(.int (6 : Int32)), (.int (8 : Int32))])) ?_ (fun _ k => XT.bipushV X0.here hx rfl (6 : Int32) (hb hby at_105) (by decide) k)
    refine Go.st (T' := s₁) (g' := (mkF m 123 #[.val (.int p1), .val (.int p2), .val (.int (8 : Int32)), .unset, .unset] [])) ?_ (fun _ k => XS.icmpYes X0.here hx rfl (pc0 := 107) (pc' := 123) rfl (hb hby at_107) rfl (by decide) (by decide) (by decide) k)
    refine Go.st (T' := s₁) (g' := (mkF m 124 #[.val (.int p1), .val (.int p2), .val (.int (8 : Int32)), .unset, .unset] [(.int (8 : Int32))])) ?_ (fun _ k => XS.iloadN X0.here hx rfl (hb hby at_123) rfl k)
    refine Go.st (T' := s₁) (g' := (mkF m 126 #[.val (.int p1), .val (.int p2), .val (.int (8 : Int32)), .unset, .unset] [(.int (7 : Int32)), (.int (8 : Int32))])) ?_ (fun _ k => XT.bipushV X0.here hx rfl (7 : Int32) (hb hby at_124) (by decide) k)
    refine Go.st (T' := s₁) (g' := (mkF m 140 #[.val (.int p1), .val (.int p2), .val (.int (8 : Int32)), .unset, .unset] [])) ?_ (fun _ k => XS.icmpYes X0.here hx rfl (pc0 := 126) (pc' := 140) rfl (hb hby at_126) rfl (by decide) (by decide) (by decide) k)
    obtain ⟨T17, X17, e17, st17⟩ := getS2 X0 hx hZ hown (host := "") (Or.inl (hw _ (List.mem_of_getElem? (i := 21) rfl))) Via.refl e0 S_DTLZ2B (g := (mkF m 140 #[.val (.int p1), .val (.int p2), .val (.int (8 : Int32)), .unset, .unset] [])) rfl (hb hby at_140)
    refine Go.st (T' := T17) (g' := (mkF m 143 #[.val (.int p1), .val (.int p2), .val (.int (8 : Int32)), .unset, .unset] [(.ref w_DTLZ2B)])) ?_ st17
    refine Go.st (T' := T17) (g' := (mkF m 144 #[.val (.int p1), .val (.int p2), .val (.int (8 : Int32)), .val (.ref w_DTLZ2B), .unset] [])) ?_ (fun _ k => XS.astoreN X17.here hx rfl (hb hby at_143) rfl rfl (l' := #[.val (.int p1), .val (.int p2), .val (.int (8 : Int32)), .val (.ref w_DTLZ2B), .unset]) rfl k)
    refine Go.st (T' := T17) (g' := (mkF m 146 #[.val (.int p1), .val (.int p2), .val (.int (8 : Int32)), .val (.ref w_DTLZ2B), .unset] [(.int (10 : Int32))])) ?_ (fun _ k => XT.bipushV X17.here hx rfl (10 : Int32) (hb hby at_144) (by decide) k)
    refine Go.st (T' := T17) (g' := (mkF m 148 #[.val (.int p1), .val (.int p2), .val (.int (8 : Int32)), .val (.ref w_DTLZ2B), .val (.int (10 : Int32))] [])) ?_ (fun _ k => XS.istore X17.here hx rfl (hb hby at_146) rfl (l' := #[.val (.int p1), .val (.int p2), .val (.int (8 : Int32)), .val (.ref w_DTLZ2B), .val (.int (10 : Int32))]) rfl k)
    refine Go.st (T' := T17) (g' := (mkF m 149 #[.val (.int p1), .val (.int p2), .val (.int (8 : Int32)), .val (.ref w_DTLZ2B), .val (.int (10 : Int32))] [(.ref w_DTLZ2B)])) ?_ (fun _ k => XS.aloadN X17.here hx rfl (hb hby at_148) rfl rfl k)
    refine Go.st (T' := T17) (g' := (mkF m 150 #[.val (.int p1), .val (.int p2), .val (.int (8 : Int32)), .val (.ref w_DTLZ2B), .val (.int (10 : Int32))] [(.int p2), (.ref w_DTLZ2B)])) ?_ (fun _ k => XS.iloadN X17.here hx rfl (hb hby at_149) rfl k)
    refine Go.callV X17 hx hZ hown (hw _ (List.mem_of_getElem? (i := 4) rfl)) (hw _ (List.mem_of_getElem? (i := 5) rfl)) (hw _ (List.mem_of_getElem? (i := 7) rfl)) (hw _ (List.mem_of_getElem? (i := 6) rfl)) (hw _ (List.mem_of_getElem? (i := 2) rfl)) (hw _ (List.mem_of_getElem? (i := 8) rfl)) (by decide) A_DTLZ2B (rm1 l Z a0 hw [] w_DTLZ2B p2 (0 : Int32) (10 : Int32)  h0 n0 Z0  F_DTLZ2B_scalable F_DTLZ2B_variables) e17 (by decide) (W := 0) (by decide) (by decide) (by decide) (g := (mkF m 150 #[.val (.int p1), .val (.int p2), .val (.int (8 : Int32)), .val (.ref w_DTLZ2B), .val (.int (10 : Int32))] [(.int p2), (.ref w_DTLZ2B)])) (rest := []) rfl (by rw [hml]; rfl) (lenOf pd__I_I rfl) rfl (by show 2 * 0 + _ ≤ _; exact Nat.le_of_eq rfl) (hb hby at_150) ?_
    rintro v18 T18 L18 X18 ⟨rfl, N18, e18⟩
    have M18 := Fr.app N0 N18
    rw [show own_vars w_DTLZ2B p2 (0 : Int32) (10 : Int32)  = (10 : Int32) from by rw [own_vars, if_pos (rfl : (0 : Int32) = (0 : Int32))]]
    show Go p e below _ T18 (mkF m 153 #[.val (.int p1), .val (.int p2), .val (.int (8 : Int32)), .val (.ref w_DTLZ2B), .val (.int (10 : Int32))] [(.int (10 : Int32))])
    refine Go.st (T' := T18) (g' := (mkF m 155 #[.val (.int p1), .val (.int p2), .val (.int (8 : Int32)), .val (.ref w_DTLZ2B), .val (.int (10 : Int32))] [(.int (10 : Int32)), (.int (10 : Int32))])) ?_ (fun _ k => XS.iload X18.here hx rfl (hb hby at_153) rfl k)
    refine Go.st (T' := T18) (g' := (mkF m 158 #[.val (.int p1), .val (.int p2), .val (.int (8 : Int32)), .val (.ref w_DTLZ2B), .val (.int (10 : Int32))] [])) ?_ (fun _ k => XS.icmpNo X18.here hx rfl (hb hby at_155) rfl (by decide) k)
    refine Go.st (T' := T18) (g' := (mkF m 159 #[.val (.int p1), .val (.int p2), .val (.int (8 : Int32)), .val (.ref w_DTLZ2B), .val (.int (10 : Int32))] [(.int (1 : Int32))])) ?_ (fun _ k => XT.iconstV X18.here hx rfl (1 : Int32) (hb hby at_158) (by decide) k)
    refine Go.st (T' := T18) (g' := (mkF m 163 #[.val (.int p1), .val (.int p2), .val (.int (8 : Int32)), .val (.ref w_DTLZ2B), .val (.int (10 : Int32))] [(.int (1 : Int32))])) ?_ (fun _ k => XS.goto X18.here hx rfl (pc0 := 159) (pc' := 163) rfl (hb hby at_159) (by decide) (by decide) k)
    exact Go.retV (t := .boolean) X18 hx hret hlk (by decide) (by decide) rfl (Or.inl ⟨rfl, Or.inr (Or.inl rfl), _, rfl⟩) (hb hby at_163) ⟨rfl, M18⟩
set_option maxRecDepth 65536 in
set_option maxHeartbeats 40000000 in
theorem comes_1 {Post : Tables → Env → Array Value → State → Outcome → State → Prop} (hpost : ∀ tb e args s v u, (limb_1_1.after args s (.returned v) u = true ∧ limb_1_2.after args s (.returned v) u = true ∧ True) → FrameEnd s (.returned v) u (Jvm.fieldLocs frame_1_writes args s ++ Jvm.arrayLocs frame_1_arrays args s ++ Jvm.staticLocs frame_1_statics s) 0 0 → Post tb e args s (.returned v) u) :
    ArmFor flags0 classFile x code maxLocals ret World_1 tables_1 room_1 Calls_1 rest_1 Pre_1 Post := by
  intro l hfl _ _ p e ha hc hk s m args below hf hA hF happ hP
  obtain ⟨hcalls, hrest, hpre⟩ := hP
  obtain ⟨-, -, -, hnamed, -, -, -, hat⟩ := (Spec.applies_iff hf).mp happ
  obtain ⟨hg, hn⟩ := and_e (Cond.before_iff.mp (show (Jvm.Cond.and given_1 narrow_1).before args s = true from hpre))
  obtain ⟨g0, hg⟩ := and_e hg
  obtain ⟨g1, hg⟩ := and_e hg
  obtain ⟨w0, w1, rfl⟩ : ∃ w0 w1 : Value, args = #[w0, w1] := by
    have hs : args.size = 2 := by simpa [Cond.value, given_1] using g0
    obtain ⟨L⟩ := args
    match L, hs with
    | [w0, w1], _ => exact ⟨w0, w1, rfl⟩
  have hw := fun d (hd : d ∈ tables_1) => atoms_spec (ws := Jvm.Cond.code x code maxLocals ret :: tables_1) hat d (List.mem_cons_of_mem _ hd)
  obtain ⟨i0, ei0⟩ := is_v g1
  obtain rfl : w0 = (.int i0) := Option.some.inj ei0
  obtain ⟨i1, ei1⟩ := is_v hg
  obtain rfl : w1 = (.int i1) := Option.some.inj ei1
  obtain ⟨f1a, f1b⟩ := and_e hn
  obtain ⟨f2a, f2b⟩ := and_e f1b
  obtain ⟨f3a, f3b⟩ := and_e f2b
  obtain ⟨f4a, f4b⟩ := and_e f3b
  obtain ⟨f5a, f5b⟩ := and_e f4b
  obtain ⟨f6a, f6b⟩ := and_e f5b
  obtain ⟨f7a, f7b⟩ := and_e f6b
  obtain ⟨f8a, f8b⟩ := and_e f7b
  obtain ⟨f9a, f9b⟩ := and_e f8b
  obtain ⟨f10a, f10b⟩ := and_e f9b
  obtain ⟨f11a, f11b⟩ := and_e f10b
  obtain ⟨f12a, f12b⟩ := and_e f11b
  obtain ⟨f13a, f13b⟩ := and_e f12b
  obtain ⟨f14a, f14b⟩ := and_e f13b
  obtain ⟨f15a, f15b⟩ := and_e f14b
  obtain ⟨f16a, f16b⟩ := and_e f15b
  obtain ⟨f17a, f17b⟩ := and_e f16b
  obtain ⟨f18a, f18b⟩ := and_e f17b
  obtain ⟨f19a, f19b⟩ := and_e f18b
  obtain ⟨f20a, f20b⟩ := and_e f19b
  obtain ⟨f21a, f21b⟩ := and_e f20b
  obtain ⟨f22a, f22b⟩ := and_e f21b
  obtain ⟨f23a, f23b⟩ := and_e f22b
  obtain ⟨f24a, f24b⟩ := and_e f23b
  obtain ⟨f25a, f25b⟩ := and_e f24b
  obtain ⟨f26a, f26b⟩ := and_e f25b
  obtain ⟨w_ZDT1, ev_ZDT1⟩ := exa_v f1a
  have S_ZDT1 := Sta.start ev_ZDT1 (Or.inr ⟨(hw _ (List.mem_of_getElem? (i := 2) rfl)), (hw _ (List.mem_of_getElem? (i := 3) rfl))⟩)
  have A_ZDT1 := Exa.start ev_ZDT1 f1a
  obtain ⟨w_DTLZ1, ev_DTLZ1⟩ := exa_v f4a
  have S_DTLZ1 := Sta.start ev_DTLZ1 (Or.inr ⟨(hw _ (List.mem_of_getElem? (i := 2) rfl)), (hw _ (List.mem_of_getElem? (i := 14) rfl))⟩)
  have A_DTLZ1 := Exa.start ev_DTLZ1 f4a
  obtain ⟨w_ZDT6, ev_ZDT6⟩ := exa_v f7a
  have S_ZDT6 := Sta.start ev_ZDT6 (Or.inr ⟨(hw _ (List.mem_of_getElem? (i := 2) rfl)), (hw _ (List.mem_of_getElem? (i := 16) rfl))⟩)
  have A_ZDT6 := Exa.start ev_ZDT6 f7a
  obtain ⟨w_ZDT2, ev_ZDT2⟩ := exa_v f10a
  have S_ZDT2 := Sta.start ev_ZDT2 (Or.inr ⟨(hw _ (List.mem_of_getElem? (i := 2) rfl)), (hw _ (List.mem_of_getElem? (i := 18) rfl))⟩)
  have A_ZDT2 := Exa.start ev_ZDT2 f10a
  obtain ⟨w_DTLZ2, ev_DTLZ2⟩ := exa_v f13a
  have S_DTLZ2 := Sta.start ev_DTLZ2 (Or.inr ⟨(hw _ (List.mem_of_getElem? (i := 2) rfl)), (hw _ (List.mem_of_getElem? (i := 20) rfl))⟩)
  have A_DTLZ2 := Exa.start ev_DTLZ2 f13a
  obtain ⟨w_DTLZ2B, ev_DTLZ2B⟩ := exa_v f16a
  have S_DTLZ2B := Sta.start ev_DTLZ2B (Or.inr ⟨(hw _ (List.mem_of_getElem? (i := 2) rfl)), (hw _ (List.mem_of_getElem? (i := 22) rfl))⟩)
  have A_DTLZ2B := Exa.start ev_DTLZ2B f16a
  obtain ⟨w_ZDT4, ev_ZDT4⟩ := exa_v f19a
  have S_ZDT4 := Sta.start ev_ZDT4 (Or.inr ⟨(hw _ (List.mem_of_getElem? (i := 2) rfl)), (hw _ (List.mem_of_getElem? (i := 24) rfl))⟩)
  have A_ZDT4 := Exa.start ev_ZDT4 f19a
  obtain ⟨w_ZDT3, ev_ZDT3⟩ := exa_v f22a
  have S_ZDT3 := Sta.start ev_ZDT3 (Or.inr ⟨(hw _ (List.mem_of_getElem? (i := 2) rfl)), (hw _ (List.mem_of_getElem? (i := 26) rfl))⟩)
  have A_ZDT3 := Exa.start ev_ZDT3 f22a
  obtain ⟨w_DTLZ1B, ev_DTLZ1B⟩ := exa_v f25a
  have S_DTLZ1B := Sta.start ev_DTLZ1B (Or.inr ⟨(hw _ (List.mem_of_getElem? (i := 2) rfl)), (hw _ (List.mem_of_getElem? (i := 28) rfl))⟩)
  have A_DTLZ1B := Exa.start ev_DTLZ1B f25a
  have F_ZDT1_scalable := own_fldInt ev_ZDT1 f2a
  have F_ZDT1_variables := own_fldInt ev_ZDT1 f3a
  have F_DTLZ1_scalable := own_fldInt ev_DTLZ1 f5a
  have F_DTLZ1_variables := own_fldInt ev_DTLZ1 f6a
  have F_ZDT6_scalable := own_fldInt ev_ZDT6 f8a
  have F_ZDT6_variables := own_fldInt ev_ZDT6 f9a
  have F_ZDT2_scalable := own_fldInt ev_ZDT2 f11a
  have F_ZDT2_variables := own_fldInt ev_ZDT2 f12a
  have F_DTLZ2_scalable := own_fldInt ev_DTLZ2 f14a
  have F_DTLZ2_variables := own_fldInt ev_DTLZ2 f15a
  have F_DTLZ2B_scalable := own_fldInt ev_DTLZ2B f17a
  have F_DTLZ2B_variables := own_fldInt ev_DTLZ2B f18a
  have F_ZDT4_scalable := own_fldInt ev_ZDT4 f20a
  have F_ZDT4_variables := own_fldInt ev_ZDT4 f21a
  have F_ZDT3_scalable := own_fldInt ev_ZDT3 f23a
  have F_ZDT3_variables := own_fldInt ev_ZDT3 f24a
  have F_DTLZ1B_scalable := own_fldInt ev_DTLZ1B f26a
  have F_DTLZ1B_variables := own_fldInt ev_DTLZ1B f26b
  have FF : own_F s s.heap w_ZDT1 w_DTLZ1 w_ZDT6 w_ZDT2 w_DTLZ2 w_DTLZ2B w_ZDT4 w_ZDT3 w_DTLZ1B := ⟨S_ZDT1, S_DTLZ1, S_ZDT6, S_ZDT2, S_DTLZ2, S_DTLZ2B, S_ZDT4, S_ZDT3, S_DTLZ1B, A_ZDT1, A_DTLZ1, A_ZDT6, A_ZDT2, A_DTLZ2, A_DTLZ2B, A_ZDT4, A_ZDT3, A_DTLZ1B, F_ZDT1_scalable, F_ZDT1_variables, F_DTLZ1_scalable, F_DTLZ1_variables, F_ZDT6_scalable, F_ZDT6_variables, F_ZDT2_scalable, F_ZDT2_variables, F_DTLZ2_scalable, F_DTLZ2_variables, F_DTLZ2B_scalable, F_DTLZ2B_variables, F_ZDT4_scalable, F_ZDT4_variables, F_ZDT3_scalable, F_ZDT3_variables, F_DTLZ1B_scalable, F_DTLZ1B_variables⟩
  obtain ⟨n, o, h1, h2, h3, _, L, rfl, ⟨rfl, N⟩, hq⟩ := rm0 l s _ hw tables_1 i0 i1 w_ZDT1 w_DTLZ1 w_ZDT6 w_ZDT2 w_DTLZ2 w_DTLZ2B w_ZDT4 w_ZDT3 w_DTLZ1B s.heap s.heap.size (Nat.le_refl _) FF p e ha hc hk s m _ below hf ((Spec.applies_iff_loose hf).mp happ).1 ⟨rfl, State.Warmed39.refl s, rfl⟩ trivial
  refine ⟨n, _, h1, h2, h3, hpost _ _ _ _ _ _ ⟨Cond.after_iff.mpr rfl, Cond.after_iff.mpr (eq_i res_at (Term.int_eval (1)) rfl), trivial⟩ ⟨hq.1, hq.2.1, (hq.2.2.sift fun y hy => Or.inr (N y hy)).mono (by decide) (by decide)⟩⟩
theorem main_1_1 : Claimed_1_1 := comes_1 fun _ _ _ _ _ _ h hF => ⟨h.1, hF⟩
theorem main_1_2 : Claimed_1_2 := comes_1 fun _ _ _ _ _ _ h hF => ⟨h.2.1, hF⟩
end Jvm.Pilot.@@N@@
namespace Jvm.Pilot.@@N@@
open Jvm Jvm.ClassFile Sem Op Lib Jvm.Free Jvm.Stand Jvm.Pilot.@@N@@.Jvm.D
/-! MADE BY PROGRAM (witnessworld.py) out of the Statement's table words and the real class files: 12 classes; the members and pool entries that the words name. The judged class is class 1, her method 1. -/
namespace start1
open Jvm.ClassFile
def u (s : String) : CpInfo := .utf8 (stringToUtf16 s)
/-- a pool by its gaps: so many unusable entries, then the entry; so many at the end -/
def gap : Nat → List CpInfo → List CpInfo
  | 0, r => r
  | n + 1, r => .unusable :: gap n r
def poolList (es : List (Nat × CpInfo)) (last : Nat) : List CpInfo := es.foldr (fun e r => gap e.1 (e.2 :: r)) (gap last [])
def pool (es : List (Nat × CpInfo)) (last : Nat) : Array CpInfo := ⟨poolList es last⟩
def fileOf (pool : Array CpInfo) (this : Nat) (attrs : Array Attribute := #[]) (ms : Array MethodInfo := #[]) (fl : Nat := 33) (sup : Nat := 0) (ifs : Array Nat := #[]) (fds : Array FieldInfo := #[]) : ClassFile where
  minorVersion := 0
  majorVersion := 65
  constantPool := pool
  accessFlags := fl
  thisClass := this
  superClass := sup
  interfaces := ifs
  fields := fds
  methods := ms
  attributes := attrs
def plain (name : String) (sup : Option ClassId) : Class where
  name := name
  kind := .ordinary
  loader := none
  accessFlags := 33
  super := sup
  interfaces := #[]
  cf := none
  fields := #[]
  methods := #[]
  instanceTypes := #[]
  staticTypes := #[]
  resolved := #[]
  callSites := []
  init := .initialized
  statics := none
  mirror := none

def pool0 : Array CpInfo := pool [(5, u "<init>"), (0, u "()V"), (1, .class_ 10), (1, u "java/lang/Object")] 113

def k0m0 : Method := { name := "<init>", desc := "()V", sig := { parameters := [], returnType := none }, accessFlags := 1, code := none }
/-- java/lang/Object -/
def k0 : Class := { plain "java/lang/Object" none with
  accessFlags := 33
  interfaces := #[]
  cf := some (fileOf pool0 8 #[] #[{ accessFlags := 1, nameIndex := 5, descriptorIndex := 6, attributes := #[] }] 33 0 #[] #[])
  fields := #[]
  methods := #[k0m0]
  instanceTypes := #[]
  staticTypes := #[]
  resolved := Array.replicate 124 none
  statics := none }

def pool1 : Array CpInfo := pool [(2, .class_ 4), (1, u "java/lang/Object"), (0, u "<init>"), (0, u "()V"), (0, .integer 2147483647), (0, .fieldref 9 10), (0, .class_ 11), (0, .nameAndType 12 13), (0, u "com/example/tesserae/tesserae/problem/Benchmark"), (0, u "ZDT1"), (0, u "Lcom/example/tesserae/tesserae/problem/Benchmark;"), (0, .fieldref 9 15), (0, .nameAndType 16 13), (0, u "ZDT2"), (0, .fieldref 9 18), (0, .nameAndType 19 13), (0, u "ZDT3"), (0, .fieldref 9 21), (0, .nameAndType 22 13), (0, u "ZDT4"), (0, .fieldref 9 24), (0, .nameAndType 25 13), (0, u "ZDT6"), (0, .fieldref 9 27), (0, .nameAndType 28 13), (0, u "DTLZ1"), (0, .fieldref 9 30), (0, .nameAndType 31 13), (0, u "DTLZ2"), (0, .fieldref 9 33), (0, .nameAndType 34 13), (0, u "DTLZ1B"), (0, .fieldref 9 36), (0, .nameAndType 37 13), (0, u "DTLZ2B"), (0, .methodref 9 39), (0, .nameAndType 40 41), (0, u "defaultVariables"), (0, u "(I)I"), (0, .class_ 43), (0, u "com/example/tesserae/tesserae/problem/BenchmarkDefaultVariablesPinLaw"), (2, u "law"), (0, u "(II)Z")] 3

def k1m0 : Method := { name := "<init>", desc := "()V", sig := { parameters := [], returnType := none }, accessFlags := 2, code := none }
def k1c1 : Code := { maxStack := 2, maxLocals := 5, code := code, exceptionTable := #[], attributes := #[] }
def k1m1 : Method := { name := "law", desc := "(II)Z", sig := { parameters := [.int, .int], returnType := some .boolean }, accessFlags := 9, code := some k1c1 }
/-- com/example/tesserae/tesserae/problem/BenchmarkDefaultVariablesPinLaw -/
def k1 : Class := { plain "com/example/tesserae/tesserae/problem/BenchmarkDefaultVariablesPinLaw" (some 0) with
  accessFlags := 49
  interfaces := #[]
  cf := some (fileOf pool1 42 #[] #[{ accessFlags := 2, nameIndex := 5, descriptorIndex := 6, attributes := #[] }, { accessFlags := 9, nameIndex := 46, descriptorIndex := 47, attributes := #[] }] 49 2 #[] #[])
  fields := #[]
  methods := #[k1m0, k1m1]
  instanceTypes := #[]
  staticTypes := #[]
  resolved := Array.replicate 51 none
  statics := none }

def pool2 : Array CpInfo := pool [(1, .class_ 2), (0, u "java/lang/constant/Constable"), (0, .class_ 4), (0, u "java/lang/Object")] 6

/-- java/lang/constant/Constable -/
def k2 : Class := { plain "java/lang/constant/Constable" (some 0) with
  accessFlags := 1537
  interfaces := #[]
  cf := some (fileOf pool2 1 #[] #[] 1537 3 #[] #[])
  fields := #[]
  methods := #[]
  instanceTypes := #[]
  staticTypes := #[]
  resolved := Array.replicate 11 none
  statics := none }

def pool3 : Array CpInfo := pool [(1, .class_ 2), (0, u "java/lang/Comparable"), (0, .class_ 4), (0, u "java/lang/Object")] 7

/-- java/lang/Comparable -/
def k3 : Class := { plain "java/lang/Comparable" (some 0) with
  accessFlags := 1537
  interfaces := #[]
  cf := some (fileOf pool3 1 #[] #[] 1537 3 #[] #[])
  fields := #[]
  methods := #[]
  instanceTypes := #[]
  staticTypes := #[]
  resolved := Array.replicate 12 none
  statics := none }

def pool4 : Array CpInfo := pool [(1, .class_ 2), (0, u "java/io/Serializable"), (0, .class_ 4), (0, u "java/lang/Object")] 2

/-- java/io/Serializable -/
def k4 : Class := { plain "java/io/Serializable" (some 0) with
  accessFlags := 1537
  interfaces := #[]
  cf := some (fileOf pool4 1 #[] #[] 1537 3 #[] #[])
  fields := #[]
  methods := #[]
  instanceTypes := #[]
  staticTypes := #[]
  resolved := Array.replicate 7 none
  statics := none }

def pool5 : Array CpInfo := pool [(2, .class_ 4), (1, u "java/lang/Enum"), (0, u "name"), (0, u "Ljava/lang/String;"), (2, u "ordinal"), (0, u "I"), (1, .class_ 14), (1, u "java/lang/Object"), (4, u "hash"), (86, .class_ 108), (1, u "java/lang/Enum$EnumDesc"), (2, .class_ 112), (0, u "java/lang/constant/Constable"), (0, .class_ 114), (0, u "java/lang/Comparable"), (0, .class_ 116), (0, u "java/io/Serializable")] 87

/-- java/lang/Enum -/
def k5 : Class := { plain "java/lang/Enum" (some 0) with
  accessFlags := 1057
  interfaces := #[2, 3, 4]
  cf := some (fileOf pool5 2 #[.nestMembers #[106]] #[] 1057 12 #[111, 113, 115] #[{ accessFlags := 18, nameIndex := 5, descriptorIndex := 6, attributes := #[] }, { accessFlags := 18, nameIndex := 9, descriptorIndex := 10, attributes := #[] }, { accessFlags := 2, nameIndex := 19, descriptorIndex := 10, attributes := #[] }])
  fields := #[{ name := "name", type := (.object "java/lang/String"), accessFlags := 18, slot := 0, constantValue := 0 }, { name := "ordinal", type := .int, accessFlags := 18, slot := 1, constantValue := 0 }, { name := "hash", type := .int, accessFlags := 2, slot := 2, constantValue := 0 }]
  methods := #[]
  instanceTypes := #[(.object "java/lang/String"), .int, .int]
  staticTypes := #[]
  resolved := Array.replicate 204 none
  statics := none }

def pool6 : Array CpInfo := pool [(1, .class_ 2), (0, u "com/example/tesserae/tesserae/problem/Benchmark"), (2, u "ZDT1"), (0, u "Lcom/example/tesserae/tesserae/problem/Benchmark;"), (2, u "ZDT2"), (2, u "ZDT3"), (2, u "ZDT4"), (2, u "ZDT6"), (2, u "DTLZ1"), (2, u "DTLZ2"), (2, u "DTLZ1B"), (2, u "DTLZ2B"), (2, u "$VALUES"), (0, u "[Lcom/example/tesserae/tesserae/problem/Benchmark;"), (6, .class_ 43), (1, u "java/lang/Enum"), (8, u "title"), (0, u "Ljava/lang/String;"), (2, u "objectives"), (0, u "I"), (0, .fieldref 1 59), (0, .nameAndType 60 61), (0, u "scalable"), (0, u "Z"), (0, .fieldref 1 63), (0, .nameAndType 64 57), (0, u "variables"), (2, u "factory"), (0, u "Lcom/example/tesserae/tesserae/problem/Benchmark$Factory;"), (46, .class_ 117), (1, u "com/example/tesserae/tesserae/problem/Benchmark$Factory"), (76, u "defaultVariables"), (0, u "(I)I")] 86

def k6c0 : Code := { maxStack := 2, maxLocals := 2, code := prog_42_method_8_code, exceptionTable := #[], attributes := #[] }
def k6m0 : Method := { name := "defaultVariables", desc := "(I)I", sig := { parameters := [.int], returnType := some .int }, accessFlags := 1, code := some k6c0 }
/-- com/example/tesserae/tesserae/problem/Benchmark -/
def k6 : Class := { plain "com/example/tesserae/tesserae/problem/Benchmark" (some 5) with
  accessFlags := 16433
  interfaces := #[]
  cf := some (fileOf pool6 1 #[.nestMembers #[115]] #[{ accessFlags := 1, nameIndex := 194, descriptorIndex := 195, attributes := #[] }] 16433 41 #[] #[{ accessFlags := 16409, nameIndex := 5, descriptorIndex := 6, attributes := #[] }, { accessFlags := 16409, nameIndex := 9, descriptorIndex := 6, attributes := #[] }, { accessFlags := 16409, nameIndex := 12, descriptorIndex := 6, attributes := #[] }, { accessFlags := 16409, nameIndex := 15, descriptorIndex := 6, attributes := #[] }, { accessFlags := 16409, nameIndex := 18, descriptorIndex := 6, attributes := #[] }, { accessFlags := 16409, nameIndex := 21, descriptorIndex := 6, attributes := #[] }, { accessFlags := 16409, nameIndex := 24, descriptorIndex := 6, attributes := #[] }, { accessFlags := 16409, nameIndex := 27, descriptorIndex := 6, attributes := #[] }, { accessFlags := 16409, nameIndex := 30, descriptorIndex := 6, attributes := #[] }, { accessFlags := 18, nameIndex := 52, descriptorIndex := 53, attributes := #[] }, { accessFlags := 18, nameIndex := 56, descriptorIndex := 57, attributes := #[] }, { accessFlags := 18, nameIndex := 60, descriptorIndex := 61, attributes := #[] }, { accessFlags := 18, nameIndex := 64, descriptorIndex := 57, attributes := #[] }, { accessFlags := 18, nameIndex := 67, descriptorIndex := 68, attributes := #[] }, { accessFlags := 4122, nameIndex := 33, descriptorIndex := 34, attributes := #[] }])
  fields := #[{ name := "ZDT1", type := (.object "com/example/tesserae/tesserae/problem/Benchmark"), accessFlags := 16409, slot := 0, constantValue := 0 }, { name := "ZDT2", type := (.object "com/example/tesserae/tesserae/problem/Benchmark"), accessFlags := 16409, slot := 1, constantValue := 0 }, { name := "ZDT3", type := (.object "com/example/tesserae/tesserae/problem/Benchmark"), accessFlags := 16409, slot := 2, constantValue := 0 }, { name := "ZDT4", type := (.object "com/example/tesserae/tesserae/problem/Benchmark"), accessFlags := 16409, slot := 3, constantValue := 0 }, { name := "ZDT6", type := (.object "com/example/tesserae/tesserae/problem/Benchmark"), accessFlags := 16409, slot := 4, constantValue := 0 }, { name := "DTLZ1", type := (.object "com/example/tesserae/tesserae/problem/Benchmark"), accessFlags := 16409, slot := 5, constantValue := 0 }, { name := "DTLZ2", type := (.object "com/example/tesserae/tesserae/problem/Benchmark"), accessFlags := 16409, slot := 6, constantValue := 0 }, { name := "DTLZ1B", type := (.object "com/example/tesserae/tesserae/problem/Benchmark"), accessFlags := 16409, slot := 7, constantValue := 0 }, { name := "DTLZ2B", type := (.object "com/example/tesserae/tesserae/problem/Benchmark"), accessFlags := 16409, slot := 8, constantValue := 0 }, { name := "title", type := (.object "java/lang/String"), accessFlags := 18, slot := 3, constantValue := 0 }, { name := "objectives", type := .int, accessFlags := 18, slot := 4, constantValue := 0 }, { name := "scalable", type := .boolean, accessFlags := 18, slot := 5, constantValue := 0 }, { name := "variables", type := .int, accessFlags := 18, slot := 6, constantValue := 0 }, { name := "factory", type := (.object "com/example/tesserae/tesserae/problem/Benchmark$Factory"), accessFlags := 18, slot := 7, constantValue := 0 }, { name := "$VALUES", type := (.array (.object "com/example/tesserae/tesserae/problem/Benchmark")), accessFlags := 4122, slot := 9, constantValue := 0 }]
  methods := #[k6m0]
  instanceTypes := #[(.object "java/lang/String"), .int, .int, (.object "java/lang/String"), .int, .boolean, .int, (.object "com/example/tesserae/tesserae/problem/Benchmark$Factory")]
  staticTypes := #[(.object "com/example/tesserae/tesserae/problem/Benchmark"), (.object "com/example/tesserae/tesserae/problem/Benchmark"), (.object "com/example/tesserae/tesserae/problem/Benchmark"), (.object "com/example/tesserae/tesserae/problem/Benchmark"), (.object "com/example/tesserae/tesserae/problem/Benchmark"), (.object "com/example/tesserae/tesserae/problem/Benchmark"), (.object "com/example/tesserae/tesserae/problem/Benchmark"), (.object "com/example/tesserae/tesserae/problem/Benchmark"), (.object "com/example/tesserae/tesserae/problem/Benchmark"), (.array (.object "com/example/tesserae/tesserae/problem/Benchmark"))]
  resolved := Array.replicate 282 none
  statics := some 0 }

def pool7 : Array CpInfo := pool [(1, u "java/lang/Cloneable"), (0, .class_ 1), (0, u "java/lang/Object"), (0, .class_ 3)] 3

/-- java/lang/Cloneable -/
def k7 : Class := { plain "java/lang/Cloneable" (some 0) with
  accessFlags := 1537
  interfaces := #[]
  cf := some (fileOf pool7 2 #[] #[] 1537 4 #[] #[])
  fields := #[]
  methods := #[]
  instanceTypes := #[]
  staticTypes := #[]
  resolved := Array.replicate 8 none
  statics := none }

/-- the primitive byte -/
def k8 : Class := { plain "byte" none with kind := .primitive 'B', accessFlags := 0x411 }
/-- [B -/
def k9 : Class := { plain "[B" (some 0) with kind := .array 8 .byte, interfaces := #[7, 4], accessFlags := 1041 }

/-- the primitive int -/
def k10 : Class := { plain "int" none with kind := .primitive 'I', accessFlags := 0x411 }
/-- [I -/
def k11 : Class := { plain "[I" (some 0) with kind := .array 10 .int, interfaces := #[7, 4], accessFlags := 1041 }

def heap : Heap := #[{ cls := 6, slots := #[.ref 1, .ref 4, .ref 8, .ref 7, .ref 3, .ref 2, .ref 5, .ref 9, .ref 6, .null], vm := .statics 6 },
  { cls := 6, slots := #[.null, .int 0, .int 0, .null, .int 0, .int 0, .int 30, .null], vm := .none },
  { cls := 6, slots := #[.null, .int 0, .int 0, .null, .int 0, .int 1, .int 4, .null], vm := .none },
  { cls := 6, slots := #[.null, .int 0, .int 0, .null, .int 0, .int 0, .int 10, .null], vm := .none },
  { cls := 6, slots := #[.null, .int 0, .int 0, .null, .int 0, .int 0, .int 30, .null], vm := .none },
  { cls := 6, slots := #[.null, .int 0, .int 0, .null, .int 0, .int 1, .int 9, .null], vm := .none },
  { cls := 6, slots := #[.null, .int 0, .int 0, .null, .int 0, .int 0, .int 10, .null], vm := .none },
  { cls := 6, slots := #[.null, .int 0, .int 0, .null, .int 0, .int 0, .int 10, .null], vm := .none },
  { cls := 6, slots := #[.null, .int 0, .int 0, .null, .int 0, .int 0, .int 30, .null], vm := .none },
  { cls := 6, slots := #[.null, .int 0, .int 0, .null, .int 0, .int 0, .int 10, .null], vm := .none }]
def classes : Array Class := #[k0, k1, k2, k3, k4, k5, k6, k7, k8, k9, k10, k11]
def interned : List (Array UInt16 × Addr) := []
def slotsUsed : Nat := 82
def theMethod : MethodId := ⟨1, 1⟩
def args0 : Array Value := #[.int 4, .int 3]
def aboutOver (below : List Frame) : State where
  vm := { classes := classes, interned := interned.toArray }
  heap := heap
  slotsUsed := slotsUsed
  threads := #[{ frames := .invoking theMethod args0 :: below }]
def below0 : List Frame := [.native { method := ⟨0, 0⟩, args := #[] }]
def about1 : State := aboutOver below0
def p0 : Program := .bare "" "" ""
def e0 : Env := launch0.env 0 0 0
theorem w_frames : about1.frames = Frame.invoking theMethod args0 :: below0 := rfl
set_option maxRecDepth 65536 in
theorem w_args : argsFit about1.vm theMethod args0 = true := by decide +kernel
set_option maxRecDepth 65536 in
theorem w_heap : heapFits about1 = true := by decide +kernel
set_option maxRecDepth 65536 in
theorem w_runnable : about1.curStatus? = some .runnable := by decide +kernel
set_option maxRecDepth 65536 in
theorem w_alone : about1.alone = true := by decide +kernel
set_option maxRecDepth 65536 in
theorem w_named : about1.methodNamed? x = some theMethod := by decide +kernel
set_option maxRecDepth 65536 in
theorem w_hears : about1.hears theMethod below0 = true := by decide +kernel
set_option maxRecDepth 65536 in
theorem w_ripe : about1.ripe theMethod args0 below0 = true := by decide +kernel
theorem w_running : about1.status = .running := rfl
set_option maxRecDepth 65536 in
theorem w_room : about1.hasRoom e0.platform room_1 = true :=
  launch0.hasRoom_least _ room_1 (by decide +kernel) (by decide +kernel) (by decide +kernel) (by decide +kernel) (by decide +kernel) (by decide +kernel)
theorem allAtoms_all (ts : List Jvm.Cond) (a : Array Jvm.Value) (st : Jvm.State) : (allAtoms ts).before a st = ts.all (fun c => c.before a st) := by
  induction ts with
  | nil => rfl
  | cons c t ih =>
    show (Jvm.Cond.and c (allAtoms t)).before a st = _
    rw [Jvm.Cond.before_and, ih, List.all_cons]
def words1 : List Jvm.Cond := Jvm.Cond.code x code maxLocals ret :: tables_1
/-- a 'code' word, met by the world's own term for the bytes: nothing is compared byte by byte -/
theorem code_word {y : MethodName} {bytes : ByteArray} {mx : Nat} {rt : Option FieldType} {a : Array Value} {s : State} {m : MethodId} {meth : Method} {c : Code} (h1 : s.methodNamed? y = some m) (h2 : s.vm.method? m = some meth) (h3 : meth.code = some c) (h4 : c.code = bytes)
    (h5 : (c.maxLocals == mx && c.exceptionTable.isEmpty && decide (c.maxStack ≤ mostOperands) && decide (meth.sig.returnType = rt) && !meth.locks && decide (parseMethodDescriptor y.desc = some meth.sig)) = true) : (Jvm.Cond.code y bytes mx rt).before a s = true := by
  simp only [Bool.and_eq_true, beq_iff_eq, Bool.not_eq_true', decide_eq_true_eq] at h5
  obtain ⟨⟨⟨⟨⟨g1, g2⟩, g3⟩, g4⟩, g5⟩, g6⟩ := h5
  simp [Cond.before, Cond.holds, Cond.value, h1, h2, h3, h4, g1, g2, g3, g4, g5, g6]
def isCode : Jvm.Cond → Bool
  | .code _ _ _ _ => true
  | _ => false
theorem all_split {L : List Jvm.Cond} {P : Jvm.Cond → Bool} (h1 : L.all (fun c => isCode c || P c) = true) (h2 : ∀ c ∈ L.filter isCode, P c = true) : L.all P = true := by
  refine List.all_eq_true.mpr fun c hc => ?_
  have h := List.all_eq_true.mp h1 c hc
  rcases Bool.eq_false_or_eq_true (isCode c) with hi | hi
  · exact h2 c (List.mem_filter.mpr ⟨hc, hi⟩)
  · simpa [hi] using h
set_option maxRecDepth 65536 in
theorem w_c0 : (Jvm.Cond.code x code maxLocals ret).before args0 about1 = true := code_word (m := ⟨1, 1⟩) (meth := k1m1) (c := k1c1) (by decide +kernel) rfl rfl rfl (by decide +kernel)
set_option maxRecDepth 65536 in
theorem w_c1 : (Jvm.Cond.code ({ cls := "com/example/tesserae/tesserae/problem/Benchmark", name := "defaultVariables", desc := "(I)I" } : Jvm.MethodName) prog_42_method_8_code (2 : Nat) (Option.some Jvm.ClassFile.FieldType.int)).before args0 about1 = true := code_word (m := ⟨6, 0⟩) (meth := k6m0) (c := k6c0) (by decide +kernel) rfl rfl rfl (by decide +kernel)
def codes1 : List Jvm.Cond := [Jvm.Cond.code x code maxLocals ret, Jvm.Cond.code ({ cls := "com/example/tesserae/tesserae/problem/Benchmark", name := "defaultVariables", desc := "(I)I" } : Jvm.MethodName) prog_42_method_8_code (2 : Nat) (Option.some Jvm.ClassFile.FieldType.int)]
set_option maxRecDepth 65536 in
theorem codes_eq : words1.filter isCode = codes1 := rfl
theorem w_codes : ∀ c ∈ words1.filter isCode, c.before args0 about1 = true := by
  rw [codes_eq]
  intro c hc
  simp only [codes1, List.mem_cons, List.not_mem_nil, or_false] at hc
  rcases hc with rfl | rfl
  · exact w_c0
  · exact w_c1
set_option maxRecDepth 65536 in
theorem w_t1 : (words1.take 24).all (fun c => isCode c || c.before args0 about1) = true := by decide +kernel
set_option maxRecDepth 65536 in
theorem w_t2 : (words1.drop 24).all (fun c => isCode c || c.before args0 about1) = true := by decide +kernel
theorem w_tables : (allAtoms (Jvm.Cond.code x code maxLocals ret :: tables_1)).before args0 about1 = true := by
  rw [allAtoms_all]
  show words1.all (fun c => c.before args0 about1) = true
  refine all_split ?_ w_codes
  rw [← List.take_append_drop 24 words1, List.all_append, w_t1, w_t2]
  rfl
set_option maxRecDepth 65536 in
theorem w_case : (Jvm.Cond.and given_1 narrow_1).before args0 about1 = true := by decide +kernel
theorem w_applies : (headSpec (Jvm.Cond.code x code maxLocals ret :: tables_1) room_1).applies x e0.platform about1 = true :=
  (Spec.applies_iff w_frames).mpr ⟨w_running, w_runnable, w_alone, w_named, w_hears, w_ripe, w_room, w_tables⟩
theorem atStart : AtStart classFile x code maxLocals ret World_1 tables_1 room_1 Calls_1 rest_1 Pre_1 launch0 p0 e0 about1 theMethod args0 below0 :=
  ⟨lists_1, trivial, launch0.admits_env _ _ _, launch0.least_env, fairChoices_fair.cas, fairChoices_fair.clock, w_frames, w_args, w_heap, w_applies, trivial, trivial, w_case⟩
end start1
theorem witness_1 : WitnessClaimed_1 := ⟨start1.p0, start1.e0, start1.about1, start1.theMethod, start1.args0, start1.below0, start1.atStart⟩
end Jvm.Pilot.@@N@@
