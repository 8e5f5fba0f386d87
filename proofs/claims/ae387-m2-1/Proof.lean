import JvmDerived
import JvmDerived.Pilot.@@N@@Statement
import JvmDerived.Pilot.@@N@@Code
set_option linter.unusedVariables false
set_option linter.unusedSimpArgs false
namespace Jvm.Pilot.@@N@@
open Jvm Jvm.ClassFile Sem Op Lib Jvm.Free Jvm.Stand Jvm.LawKit Jvm.RoadKit Bundle Jvm.Pilot.@@N@@.Jvm.D
/-! own_: A WALK AS A CHAIN OF 'Go': from T, with the frame g on top, the run comes to a state of which P holds. A fork (by_cases, rcases) may stand anywhere in the chain. -/
def Go (p : Program) (e : Env) (below : List Frame) (P : State → Prop) (T : State) (g : JFrame) : Prop := ∃ t, Steps p.tables e below (T.setTop g) t ∧ P t
/-- what a body owes at its end -/
def EndP (below : List Frame) (s : State) (Q : Option Value → Heap → List Loc → Prop) (ce sl : Nat) (t : State) : Prop := ∃ o, t.status = .running ∧ Ended t below o ∧ ∃ v L, o = .returned v ∧ Q v t.heap L ∧ FrameEnd s o t L ce sl
/-- a method's contract: called with as' on the heap h0 it returns, and Q holds of what it returns, the heap that it leaves and the places that it wrote -/
abbrev Does (l : Launch) (y : MethodName) (bytes : ByteArray) (maxL : Nat) (rt : Option FieldType) (ws : List Jvm.Cond) (rm : Room) (as' : Array Value) (Z : State) (h0 : Heap) (Q : Option Value → Heap → List Loc → Prop) : Prop :=
  MetFree l y (head1 (Jvm.Cond.code y bytes maxL rt :: ws) rm) (fun a U => a = as' ∧ Z.Warmed39 U.vm ∧ U.heap = h0) (fun _ _ _ _ _ => True) (fun _ U o U' => ∃ v L, o = .returned v ∧ Q v U'.heap L ∧ FrameEnd U o U' L rm.cells rm.slots)
section Own
variable {p : Program} {l : Launch} {e : Env} {R : Room} {s : State} {m : MethodId} {args : Array Value} {below : List Frame} {meth : Method} {c : Code} {T T' : State} {locs : List Loc} {cells slots : Nat} {P : State → Prop} {g g' : JFrame} {Z : State} {h h0 : Heap} {a0 as' : Array Value} {own : String} {index : Nat} {y z : MethodName} {bytes : ByteArray} {maxL : Nat} {rt : Option FieldType} {rm : Room} {ws : List Jvm.Cond} {Q : Option Value → Heap → List Loc → Prop} {ce sl W : Nat} {argsL rest : List Value}
theorem Go.st (hh : Go p e below P T' g') (st : ∀ t, Steps p.tables e below (T'.setTop g') t → Steps p.tables e below (T.setTop g) t) : Go p e below P T g := by
  obtain ⟨t, h1, h2⟩ := hh
  exact ⟨t, st t h1, h2⟩
theorem Go.cast (q : g = g') (hh : Go p e below P T g') : Go p e below P T g := q ▸ hh
theorem Go.ret {v : Option Value} (X : Stand p l e R s m args below meth c T locs cells slots) (hv : meth.sig.returnType = none → v = none) (hlocks : meth.locks = false) (hc : cells ≤ ce) (hs : slots ≤ sl) (hq : Q v T.heap locs)
    (st : ∀ fs, (∀ (f : JFrame) (acts : List Action), f.method = m → f.locked = none → f.entered = [] → (doReturn e (T.setTop f) acts v).1 = T.setFrames fs) → Steps p.tables e below (T.setTop g) (T.setFrames fs)) : Go p e below (EndP below s Q ce sl) T g := by
  obtain ⟨fs, hr, hrun, hended, hW, hsame⟩ := X.leave (v := v) hv hlocks
  exact ⟨_, st fs hr, _, hrun, hended, _, _, rfl, hq, ⟨_, rfl⟩, hW, hsame.mono hc hs⟩
/-- a value is returned -/
theorem Go.retV {w : Value} {t : FieldType} {i : Instr} {pc : Nat} {Ls : Array Slot} (X : Stand p l e R s m args below meth c T locs cells slots) (hx : p.tables.exec = Jvm.exec) (hret : meth.sig.returnType = some t) (hlocks : meth.locks = false) (hc : cells ≤ ce) (hs : slots ≤ sl) (hn : narrow t w = w)
    (hi : (i = .ireturn ∧ (t = .int ∨ t = .boolean ∨ t = .byte ∨ t = .char ∨ t = .short) ∧ ∃ z, w = .int z) ∨ (i = .lreturn ∧ t = .long ∧ ∃ z, w = .long z) ∨ (i = .dreturn ∧ t = .double ∧ ∃ z, w = .double z) ∨ (i = .freturn ∧ t = .float ∧ ∃ z, w = .float z) ∨ (i = .areturn ∧ t.isReference = true ∧ w.isRef = true))
    (hd : decode c.code pc = .ok (i, 1)) (hq : Q (some w) T.heap locs) : Go p e below (EndP below s Q ce sl) T (mkF m pc Ls (w :: rest)) :=
  Go.ret X (fun q => by rw [hret] at q; cases q) hlocks hc hs hq fun _ hr => retOut X hx hret hn hi hd hr
/-- nothing is returned -/
theorem Go.retU {pc : Nat} {Ls : Array Slot} (X : Stand p l e R s m args below meth c T locs cells slots) (hx : p.tables.exec = Jvm.exec) (hret : meth.sig.returnType = none) (hlocks : meth.locks = false) (hc : cells ≤ ce) (hs : slots ≤ sl)
    (hd : decode c.code pc = .ok (.return_, 1)) (hq : Q none T.heap locs) : Go p e below (EndP below s Q ce sl) T (mkF m pc Ls []) :=
  Go.ret X (fun _ => rfl) hlocks hc hs hq fun _ hr => X.returnOut hx hret hd hr
/-- a body that goes well has its contract -/
theorem Does.of (hp : plainFor y = true) (body : ∀ (p : Program) (e : Env) (s : State) (m : MethodId) (below : List Frame) (meth : Method) (c : Code) (s₁ : State), p.tables.exec = Jvm.exec → c.code = bytes → c.maxLocals = maxL → meth.sig.returnType = rt → meth.locks = false → s.vm.findClass y.cls = some m.cls → meth.name = y.name → Z.Warmed39 s.vm →
      Stand p l e rm s m as' below meth c s₁ [] 0 0 → s₁.heap = h0 → Go p e below (EndP below s Q rm.cells rm.slots) s₁ (entryFrame m as' maxL)) : Does l y bytes maxL rt ws rm as' Z h0 Q := by
  refine MetFree.of_bodySF hp hisR ?_
  intro p e s m args below meth c s₁ Bd hml0 hP hK
  obtain ⟨rfl, hZ, hh⟩ := hP
  obtain ⟨t, h1, o, h2, h3, h4⟩ := body p e s m below meth c s₁ Bd.exec Bd.bytes hml0 Bd.returns Bd.notSynchronized (findClass_of_methodNamed Bd.named) (name_of_methodNamed Bd.named Bd.method).1 hZ (Stand.of_body Bd) (by rw [← hh, Bd.state]; rfl)
  exact ⟨t, o, h1, h2, h3, h4⟩
/-- a static call by the callee's contract -/
theorem Go.callS (X : Stand p l e R s m args below meth c T locs cells slots) (hx : p.tables.exec = Jvm.exec) (hZ : Z.Warmed39 s.vm) (hown : s.vm.findClass own = some m.cls) (w1 : (Jvm.Cond.methodLink own index y).before a0 Z = true) (w2 : (Jvm.Cond.static y).before a0 Z = true) (w3 : (Jvm.Cond.initialized y.cls).before a0 Z = true) (w4 : (Jvm.Cond.code y bytes maxL rt).before a0 Z = true)
    (hy : y.cls ≠ "java/lang/invoke/MethodHandle" ∧ y.cls ≠ "java/lang/invoke/VarHandle") (D : Does l y bytes maxL rt [] rm argsL.toArray Z h Q) (eT : T.heap = h) (hf : rm.frames + 1 ≤ R.frames) (hl : W + (maxL + 11) + rm.locals ≤ R.locals) (hc : cells + rm.cells ≤ R.cells) (hs : slots + rm.slots ≤ R.slots)
    (hg : g.method = m) (hsize : g.locals.size = c.maxLocals) (hlen : ∀ sig, parseMethodDescriptor y.desc = some sig → argsL.length = sig.parameters.length) (hstack : g.stack = argsL.reverse ++ rest) (hW : 2 * g.monitorRoom + (rest.map fun v => v.category).sum ≤ W) (hdg : decode c.code g.pc = .ok (.invokestatic index, 3))
    (k : ∀ (v : Option Value) (T' : State) (L : List Loc), Stand p l e R s m args below meth c T' (locs ++ L) (cells + rm.cells) (slots + rm.slots) → Q v T'.heap L → Go p e below P T' { g with pc := g.pc + 3, stack := v.toList ++ rest }) : Go p e below P T g := by
  obtain ⟨v, _, ⟨T1, L1, k1, n1⟩, -, X1, ⟨Lc, hQ, l1, y1, z1⟩, st⟩ := Jvm.LawKit.callS X hx (y := y) hown (mvT hZ w1) (mvT hZ w2) (mvT hZ w3) (mvT hZ w4) hy (backOf (W := W) D hZ w4 w3 hf hl) (g := g) hg hsize (argsL := argsL) (rest := rest) hlen hstack hW hdg (fun _ _ => ⟨rfl, eT, hc, hs⟩)
  dsimp only [Pt.U, Pt.locs, Pt.cells, Pt.slots] at X1 l1 y1 z1 st hQ
  subst l1 y1 z1
  exact Go.st (k v T1 Lc X1 hQ) st
/-- a virtual call by the contract of the method that it selects -/
theorem Go.callV {C : String} {a : Addr} (X : Stand p l e R s m args below meth c T locs cells slots) (hx : p.tables.exec = Jvm.exec) (hZ : Z.Warmed39 s.vm) (hown : s.vm.findClass own = some m.cls) (w1 : (Jvm.Cond.methodLink own index y).before a0 Z = true) (w2 : (Jvm.Cond.declares y).before a0 Z = true) (w5 : (Jvm.Cond.selects C y y).before a0 Z = true) (w6 : (Jvm.Cond.instanceMethod y).before a0 Z = true) (w3 : (Jvm.Cond.initialized y.cls).before a0 Z = true) (w4 : (Jvm.Cond.code y bytes maxL rt).before a0 Z = true)
    (hy : y.cls ≠ "java/lang/invoke/MethodHandle" ∧ y.cls ≠ "java/lang/invoke/VarHandle") (A : Exa Z h a C) (D : Does l y bytes maxL rt [] rm (.ref a :: argsL).toArray Z h Q) (eT : T.heap = h) (hf : rm.frames + 1 ≤ R.frames) (hl : W + (maxL + 11) + rm.locals ≤ R.locals) (hc : cells + rm.cells ≤ R.cells) (hs : slots + rm.slots ≤ R.slots)
    (hg : g.method = m) (hsize : g.locals.size = c.maxLocals) (hlen : ∀ sig, parseMethodDescriptor y.desc = some sig → argsL.length = sig.parameters.length) (hstack : g.stack = argsL.reverse ++ .ref a :: rest) (hW : 2 * g.monitorRoom + (rest.map fun v => v.category).sum ≤ W) (hdg : decode c.code g.pc = .ok (.invokevirtual index, 3))
    (k : ∀ (v : Option Value) (T' : State) (L : List Loc), Stand p l e R s m args below meth c T' (locs ++ L) (cells + rm.cells) (slots + rm.slots) → Q v T'.heap L → Go p e below P T' { g with pc := g.pc + 3, stack := v.toList ++ rest }) : Go p e below P T g := by
  obtain ⟨cq, kq, qa, qb, qc⟩ := isOf hZ eT A
  obtain ⟨v, _, ⟨T1, L1, k1, n1⟩, -, X1, ⟨Lc, hQ, l1, y1, z1⟩, st⟩ := X.virtualBack hx (y := y) (z := y) hown (mvT hZ w1) (mvT hZ w2) (notFace_of_selects (args := #[]) (mvT hZ w5)) (mvT hZ w5) (mvT hZ w6) hy (backOf (W := W) D hZ w4 w3 hf hl) qa qc (g := g) hg hsize (Steps.refl _) (argsL := argsL) (rest := rest) hlen hstack hW hdg (fun _ _ => ⟨rfl, eT, hc, hs⟩)
  dsimp only [Pt.U, Pt.locs, Pt.cells, Pt.slots] at X1 l1 y1 z1 st hQ
  subst l1 y1 z1
  exact Go.st (k v T1 Lc X1 hQ) fun _ q => st.trans q
/-- a constructor by its contract -/
theorem Go.callI {a : Addr} (X : Stand p l e R s m args below meth c T locs cells slots) (hx : p.tables.exec = Jvm.exec) (hZ : Z.Warmed39 s.vm) (hown : s.vm.findClass own = some m.cls) (hin : y.name = "<init>") (w1 : (Jvm.Cond.methodLink own index y).before a0 Z = true) (w6 : (Jvm.Cond.instanceMethod y).before a0 Z = true) (w3 : (Jvm.Cond.initialized y.cls).before a0 Z = true) (w4 : (Jvm.Cond.code y bytes maxL none).before a0 Z = true)
    (hy : y.cls ≠ "java/lang/invoke/MethodHandle" ∧ y.cls ≠ "java/lang/invoke/VarHandle") (D : Does l y bytes maxL none [] rm (.ref a :: argsL).toArray Z h Q) (eT : T.heap = h) (hf : rm.frames + 1 ≤ R.frames) (hl : W + (maxL + 11) + rm.locals ≤ R.locals) (hc : cells + rm.cells ≤ R.cells) (hs : slots + rm.slots ≤ R.slots)
    (hg : g.method = m) (hsize : g.locals.size = c.maxLocals) (hlen : ∀ sig, parseMethodDescriptor y.desc = some sig → argsL.length = sig.parameters.length) (hstack : g.stack = argsL.reverse ++ .ref a :: rest) (hW : 2 * g.monitorRoom + (rest.map fun v => v.category).sum ≤ W) (hdg : decode c.code g.pc = .ok (.invokespecial index, 3))
    (k : ∀ (v : Option Value) (T' : State) (L : List Loc), Stand p l e R s m args below meth c T' (locs ++ L) (cells + rm.cells) (slots + rm.slots) → Q v T'.heap L → Go p e below P T' { g with pc := g.pc + 3, stack := v.toList ++ rest }) : Go p e below P T g := by
  obtain ⟨v, _, ⟨T1, L1, k1, n1⟩, -, X1, ⟨Lc, hQ, l1, y1, z1⟩, st⟩ := X.specialBack hx (y := y) hin hown (mvT hZ w1) (mvT hZ w6) (mvT hZ w4) hy (backOf (W := W) D hZ w4 w3 hf hl) (g := g) hg hsize (Steps.refl _) (a := a) (argsL := argsL) (rest := rest) hlen hstack hW hdg (fun _ _ => ⟨rfl, eT, hc, hs⟩)
  dsimp only [Pt.U, Pt.locs, Pt.cells, Pt.slots] at X1 l1 y1 z1 st hQ
  subst l1 y1 z1
  exact Go.st (k v T1 Lc X1 hQ) fun _ q => st.trans q
end Own
theorem own_i_eq {x y : Int32} {a b : Int} (hx : x.toInt = a) (hy : y.toInt = b) (q : a = b) : x = y := Int32.toInt_inj.mp (by rw [hx, hy, q])
theorem own_i_neq {x y : Int32} {a b : Int} (hx : x.toInt = a) (hy : y.toInt = b) (q : ¬ a = b) : ¬ x = y := fun r => q (by rw [← hx, ← hy, r])
theorem own_i_lt {x y : Int32} {a b : Int} (hx : x.toInt = a) (hy : y.toInt = b) (q : a < b) : x < y := by rw [Int32.lt_iff_toInt_lt, hx, hy]; exact q
theorem own_i_nlt {x y : Int32} {a b : Int} (hx : x.toInt = a) (hy : y.toInt = b) (q : ¬ a < b) : ¬ x < y := by rw [Int32.lt_iff_toInt_lt, hx, hy]; exact q
theorem own_l_eq {x y : Int64} {a b : Int} (hx : x.toInt = a) (hy : y.toInt = b) (q : a = b) : x = y := Int64.toInt_inj.mp (by rw [hx, hy, q])
theorem own_l_neq {x y : Int64} {a b : Int} (hx : x.toInt = a) (hy : y.toInt = b) (q : ¬ a = b) : ¬ x = y := fun r => q (by rw [← hx, ← hy, r])
theorem own_l_lt {x y : Int64} {a b : Int} (hx : x.toInt = a) (hy : y.toInt = b) (q : a < b) : x < y := by rw [Int64.lt_iff_toInt_lt, hx, hy]; exact q
theorem own_l_nlt {x y : Int64} {a b : Int} (hx : x.toInt = a) (hy : y.toInt = b) (q : ¬ a < b) : ¬ x < y := by rw [Int64.lt_iff_toInt_lt, hx, hy]; exact q
/-- a number in a field, out of the case's words -/
theorem own_fldInt {args : Array Value} {s : State} {t : Term} {a : Addr} {C n d : String} {k : Int32} (ht : t.eval args s none [] s = some (.ref a)) (hh : (Jvm.Cond.eq (.field t C n d) (.int k)).value args s none s [] = some true) : Fld s s.heap a C n d (.int k) := by
  refine Fld.start ?_
  simp only [Jvm.Cond.value, fld_at ht, Term.int_eval] at hh
  cases hf : s.fieldOf? a C n d with
  | none => simp [hf] at hh
  | some v => cases v <;> simp_all
/-- what the case says of the constants -/
def own_F (Z : State) (h : Heap) (w_EAST w_SOUTH w_SOUTH_WEST w_SOUTH_EAST w_WEST w_NORTH w_NORTH_EAST w_NORTH_WEST : Addr) : Prop := Sta Z h "com/example/amblesim/amblesim/model/Move" "EAST" "Lcom/example/amblesim/amblesim/model/Move;" (.ref w_EAST) ∧ Sta Z h "com/example/amblesim/amblesim/model/Move" "SOUTH" "Lcom/example/amblesim/amblesim/model/Move;" (.ref w_SOUTH) ∧ Sta Z h "com/example/amblesim/amblesim/model/Move" "SOUTH_WEST" "Lcom/example/amblesim/amblesim/model/Move;" (.ref w_SOUTH_WEST) ∧ Sta Z h "com/example/amblesim/amblesim/model/Move" "SOUTH_EAST" "Lcom/example/amblesim/amblesim/model/Move;" (.ref w_SOUTH_EAST) ∧ Sta Z h "com/example/amblesim/amblesim/model/Move" "WEST" "Lcom/example/amblesim/amblesim/model/Move;" (.ref w_WEST) ∧ Sta Z h "com/example/amblesim/amblesim/model/Move" "NORTH" "Lcom/example/amblesim/amblesim/model/Move;" (.ref w_NORTH) ∧ Sta Z h "com/example/amblesim/amblesim/model/Move" "NORTH_EAST" "Lcom/example/amblesim/amblesim/model/Move;" (.ref w_NORTH_EAST) ∧ Sta Z h "com/example/amblesim/amblesim/model/Move" "NORTH_WEST" "Lcom/example/amblesim/amblesim/model/Move;" (.ref w_NORTH_WEST) ∧ Exa Z h w_EAST "com/example/amblesim/amblesim/model/Move" ∧ Exa Z h w_SOUTH "com/example/amblesim/amblesim/model/Move" ∧ Exa Z h w_SOUTH_WEST "com/example/amblesim/amblesim/model/Move" ∧ Exa Z h w_SOUTH_EAST "com/example/amblesim/amblesim/model/Move" ∧ Exa Z h w_WEST "com/example/amblesim/amblesim/model/Move" ∧ Exa Z h w_NORTH "com/example/amblesim/amblesim/model/Move" ∧ Exa Z h w_NORTH_EAST "com/example/amblesim/amblesim/model/Move" ∧ Exa Z h w_NORTH_WEST "com/example/amblesim/amblesim/model/Move" ∧ Fld Z h w_EAST "com/example/amblesim/amblesim/model/Move" "columns" "I" (.int (1 : Int32)) ∧ Fld Z h w_EAST "com/example/amblesim/amblesim/model/Move" "rows" "I" (.int (0 : Int32)) ∧ Fld Z h w_SOUTH "com/example/amblesim/amblesim/model/Move" "columns" "I" (.int (0 : Int32)) ∧ Fld Z h w_SOUTH "com/example/amblesim/amblesim/model/Move" "rows" "I" (.int (-1 : Int32)) ∧ Fld Z h w_SOUTH_WEST "com/example/amblesim/amblesim/model/Move" "columns" "I" (.int (-1 : Int32)) ∧ Fld Z h w_SOUTH_WEST "com/example/amblesim/amblesim/model/Move" "rows" "I" (.int (-1 : Int32)) ∧ Fld Z h w_SOUTH_EAST "com/example/amblesim/amblesim/model/Move" "columns" "I" (.int (1 : Int32)) ∧ Fld Z h w_SOUTH_EAST "com/example/amblesim/amblesim/model/Move" "rows" "I" (.int (-1 : Int32)) ∧ Fld Z h w_WEST "com/example/amblesim/amblesim/model/Move" "columns" "I" (.int (-1 : Int32)) ∧ Fld Z h w_WEST "com/example/amblesim/amblesim/model/Move" "rows" "I" (.int (0 : Int32)) ∧ Fld Z h w_NORTH "com/example/amblesim/amblesim/model/Move" "columns" "I" (.int (0 : Int32)) ∧ Fld Z h w_NORTH "com/example/amblesim/amblesim/model/Move" "rows" "I" (.int (1 : Int32)) ∧ Fld Z h w_NORTH_EAST "com/example/amblesim/amblesim/model/Move" "columns" "I" (.int (1 : Int32)) ∧ Fld Z h w_NORTH_EAST "com/example/amblesim/amblesim/model/Move" "rows" "I" (.int (1 : Int32)) ∧ Fld Z h w_NORTH_WEST "com/example/amblesim/amblesim/model/Move" "columns" "I" (.int (-1 : Int32)) ∧ Fld Z h w_NORTH_WEST "com/example/amblesim/amblesim/model/Move" "rows" "I" (.int (1 : Int32))
def own_pick (p1 : Int32) (w_EAST w_SOUTH w_SOUTH_WEST w_SOUTH_EAST w_WEST w_NORTH w_NORTH_EAST w_NORTH_WEST : Addr) : Addr := if p1 = (0 : Int32) then w_EAST else (if p1 = (1 : Int32) then w_NORTH else (if p1 = (2 : Int32) then w_WEST else (if p1 = (3 : Int32) then w_SOUTH else (if p1 = (4 : Int32) then w_NORTH_EAST else (if p1 = (5 : Int32) then w_NORTH_WEST else (if p1 = (6 : Int32) then w_SOUTH_WEST else w_SOUTH_EAST))))))
theorem d_method_2_code_0 : decode method_2_code 0 = .ok (.iload_n 0, 1) := by decide +kernel
theorem d_method_2_code_1 : decode method_2_code 1 = .ok (.ifCond .ne 7, 3) := by decide +kernel
theorem d_method_2_code_4 : decode method_2_code 4 = .ok (.getstatic 7, 3) := by decide +kernel
theorem d_method_2_code_7 : decode method_2_code 7 = .ok (.areturn, 1) := by decide +kernel
theorem d_method_2_code_8 : decode method_2_code 8 = .ok (.iload_n 0, 1) := by decide +kernel
theorem d_method_2_code_9 : decode method_2_code 9 = .ok (.iconst 1, 1) := by decide +kernel
theorem d_method_2_code_10 : decode method_2_code 10 = .ok (.if_icmp .ne 7, 3) := by decide +kernel
theorem d_method_2_code_13 : decode method_2_code 13 = .ok (.getstatic 13, 3) := by decide +kernel
theorem d_method_2_code_16 : decode method_2_code 16 = .ok (.areturn, 1) := by decide +kernel
theorem d_method_2_code_17 : decode method_2_code 17 = .ok (.iload_n 0, 1) := by decide +kernel
theorem d_method_2_code_18 : decode method_2_code 18 = .ok (.iconst 2, 1) := by decide +kernel
theorem d_method_2_code_19 : decode method_2_code 19 = .ok (.if_icmp .ne 7, 3) := by decide +kernel
theorem d_method_2_code_22 : decode method_2_code 22 = .ok (.getstatic 16, 3) := by decide +kernel
theorem d_method_2_code_25 : decode method_2_code 25 = .ok (.areturn, 1) := by decide +kernel
theorem d_method_2_code_26 : decode method_2_code 26 = .ok (.iload_n 0, 1) := by decide +kernel
theorem d_method_2_code_27 : decode method_2_code 27 = .ok (.iconst 3, 1) := by decide +kernel
theorem d_method_2_code_28 : decode method_2_code 28 = .ok (.if_icmp .ne 7, 3) := by decide +kernel
theorem d_method_2_code_31 : decode method_2_code 31 = .ok (.getstatic 19, 3) := by decide +kernel
theorem d_method_2_code_34 : decode method_2_code 34 = .ok (.areturn, 1) := by decide +kernel
theorem d_method_2_code_35 : decode method_2_code 35 = .ok (.iload_n 0, 1) := by decide +kernel
theorem d_method_2_code_36 : decode method_2_code 36 = .ok (.iconst 4, 1) := by decide +kernel
theorem d_method_2_code_37 : decode method_2_code 37 = .ok (.if_icmp .ne 7, 3) := by decide +kernel
theorem d_method_2_code_40 : decode method_2_code 40 = .ok (.getstatic 22, 3) := by decide +kernel
theorem d_method_2_code_43 : decode method_2_code 43 = .ok (.areturn, 1) := by decide +kernel
theorem d_method_2_code_44 : decode method_2_code 44 = .ok (.iload_n 0, 1) := by decide +kernel
theorem d_method_2_code_45 : decode method_2_code 45 = .ok (.iconst 5, 1) := by decide +kernel
theorem d_method_2_code_46 : decode method_2_code 46 = .ok (.if_icmp .ne 7, 3) := by decide +kernel
theorem d_method_2_code_49 : decode method_2_code 49 = .ok (.getstatic 25, 3) := by decide +kernel
theorem d_method_2_code_52 : decode method_2_code 52 = .ok (.areturn, 1) := by decide +kernel
theorem d_method_2_code_53 : decode method_2_code 53 = .ok (.iload_n 0, 1) := by decide +kernel
theorem d_method_2_code_54 : decode method_2_code 54 = .ok (.bipush 6, 2) := by decide +kernel
theorem d_method_2_code_56 : decode method_2_code 56 = .ok (.if_icmp .ne 7, 3) := by decide +kernel
theorem d_method_2_code_59 : decode method_2_code 59 = .ok (.getstatic 28, 3) := by decide +kernel
theorem d_method_2_code_62 : decode method_2_code 62 = .ok (.areturn, 1) := by decide +kernel
theorem d_method_2_code_63 : decode method_2_code 63 = .ok (.getstatic 31, 3) := by decide +kernel
theorem d_method_2_code_66 : decode method_2_code 66 = .ok (.areturn, 1) := by decide +kernel
theorem pn_com_example_amblesim_amblesim_model_MoveIsDiagonalPinLaw : plainName "com/example/amblesim/amblesim/model/MoveIsDiagonalPinLaw" = true := by first | (simp [plainName, overriddenIn]; done) | decide +kernel
set_option maxRecDepth 65536 in
set_option maxHeartbeats 40000000 in
theorem rm1 (l : Launch) (Z : State) (a0 : Array Value) (hw : ∀ d ∈ tables_1, d.before a0 Z = true) (ws : List Jvm.Cond) (p1 : Int32) (w_EAST w_SOUTH w_SOUTH_WEST w_SOUTH_EAST w_WEST w_NORTH w_NORTH_EAST w_NORTH_WEST : Addr) (h0 : Heap) (n0 : Nat) (Z0 : n0 ≤ h0.size) (FF : own_F Z h0 w_EAST w_SOUTH w_SOUTH_WEST w_SOUTH_EAST w_WEST w_NORTH w_NORTH_EAST w_NORTH_WEST)  :
    Does l (⟨"com/example/amblesim/amblesim/model/MoveIsDiagonalPinLaw", "pick", "(I)Lcom/example/amblesim/amblesim/model/Move;"⟩ : MethodName) method_2_code 1 (some (.object "com/example/amblesim/amblesim/model/Move")) ws ({ frames := 0, cells := 0, slots := 0, locals := 0 } : Room) #[(.int p1)] Z h0 (fun v h L => v = some (.ref (own_pick p1 w_EAST w_SOUTH w_SOUTH_WEST w_SOUTH_EAST w_WEST w_NORTH w_NORTH_EAST w_NORTH_WEST)) ∧ Fr n0 L ∧ h = h0) := by
  refine Does.of (plainFor_of_name pn_com_example_amblesim_amblesim_model_MoveIsDiagonalPinLaw) ?_
  intro p e s m below meth c s₁ hx hby hml hret hlk hown0 hnm hZ X0 e0
  have hown : s.vm.findClass "com/example/amblesim/amblesim/model/MoveIsDiagonalPinLaw" = some m.cls := hown0
  have N0 := Fr.nil n0
  have FF0 := FF
  obtain ⟨S_EAST, S_SOUTH, S_SOUTH_WEST, S_SOUTH_EAST, S_WEST, S_NORTH, S_NORTH_EAST, S_NORTH_WEST, A_EAST, A_SOUTH, A_SOUTH_WEST, A_SOUTH_EAST, A_WEST, A_NORTH, A_NORTH_EAST, A_NORTH_WEST, F_EAST_columns, F_EAST_rows, F_SOUTH_columns, F_SOUTH_rows, F_SOUTH_WEST_columns, F_SOUTH_WEST_rows, F_SOUTH_EAST_columns, F_SOUTH_EAST_rows, F_WEST_columns, F_WEST_rows, F_NORTH_columns, F_NORTH_rows, F_NORTH_EAST_columns, F_NORTH_EAST_rows, F_NORTH_WEST_columns, F_NORTH_WEST_rows⟩ := FF
  refine Go.cast (g' := (mkF m 0 #[.val (.int p1)] [])) (by first | rfl | (simp [entryFrame, mkF, argsToLocals, Value.category, maxLocals]; done)) ?_
  refine Go.st (T' := s₁) (g' := (mkF m 1 #[.val (.int p1)] [(.int p1)])) ?_ (fun _ k => XS.iloadN X0.here hx rfl (hb hby d_method_2_code_0) rfl k)
  by_cases hc1 : p1 = (0 : Int32)
  · refine Go.st (T' := s₁) (g' := (mkF m 4 #[.val (.int p1)] [])) ?_ (fun _ k => XS.ifNo X0.here hx rfl (hb hby d_method_2_code_1) rfl ((if0 _ _).trans (teq hc1).2) k)
    obtain ⟨T2, X2, e2, st2⟩ := getS2 X0 hx hZ hown (host := "") (Or.inl (hw _ (List.mem_of_getElem? (i := 4) rfl))) Via.refl e0 S_EAST (g := (mkF m 4 #[.val (.int p1)] [])) rfl (hb hby d_method_2_code_4)
    refine Go.st (T' := T2) (g' := (mkF m 7 #[.val (.int p1)] [(.ref w_EAST)])) ?_ st2
    exact Go.retV (t := (.object "com/example/amblesim/amblesim/model/Move")) X2 hx hret hlk (by decide) (by decide) rfl (Or.inr (Or.inr (Or.inr (Or.inr ⟨rfl, rfl, rfl⟩)))) (hb hby d_method_2_code_7) ⟨by rw [own_pick, if_pos hc1], N0, e2⟩
  · refine Go.st (T' := s₁) (g' := (mkF m 8 #[.val (.int p1)] [])) ?_ (fun _ k => XS.ifYes X0.here hx rfl (pc0 := 1) (pc' := 8) rfl (hb hby d_method_2_code_1) rfl ((if0 _ _).trans (feq hc1).2) (by decide) (by decide) k)
    refine Go.st (T' := s₁) (g' := (mkF m 9 #[.val (.int p1)] [(.int p1)])) ?_ (fun _ k => XS.iloadN X0.here hx rfl (hb hby d_method_2_code_8) rfl k)
    refine Go.st (T' := s₁) (g' := (mkF m 10 #[.val (.int p1)] [(.int (1 : Int32)), (.int p1)])) ?_ (fun _ k => XT.iconstV X0.here hx rfl (1 : Int32) (hb hby d_method_2_code_9) (by decide) k)
    by_cases hc3 : p1 = (1 : Int32)
    · refine Go.st (T' := s₁) (g' := (mkF m 13 #[.val (.int p1)] [])) ?_ (fun _ k => XS.icmpNo X0.here hx rfl (hb hby d_method_2_code_10) rfl (teq hc3).2 k)
      obtain ⟨T4, X4, e4, st4⟩ := getS2 X0 hx hZ hown (host := "") (Or.inl (hw _ (List.mem_of_getElem? (i := 38) rfl))) Via.refl e0 S_NORTH (g := (mkF m 13 #[.val (.int p1)] [])) rfl (hb hby d_method_2_code_13)
      refine Go.st (T' := T4) (g' := (mkF m 16 #[.val (.int p1)] [(.ref w_NORTH)])) ?_ st4
      exact Go.retV (t := (.object "com/example/amblesim/amblesim/model/Move")) X4 hx hret hlk (by decide) (by decide) rfl (Or.inr (Or.inr (Or.inr (Or.inr ⟨rfl, rfl, rfl⟩)))) (hb hby d_method_2_code_16) ⟨by rw [own_pick, if_neg hc1, if_pos hc3], N0, e4⟩
    · refine Go.st (T' := s₁) (g' := (mkF m 17 #[.val (.int p1)] [])) ?_ (fun _ k => XS.icmpYes X0.here hx rfl (pc0 := 10) (pc' := 17) rfl (hb hby d_method_2_code_10) rfl (feq hc3).2 (by decide) (by decide) k)
      refine Go.st (T' := s₁) (g' := (mkF m 18 #[.val (.int p1)] [(.int p1)])) ?_ (fun _ k => XS.iloadN X0.here hx rfl (hb hby d_method_2_code_17) rfl k)
      refine Go.st (T' := s₁) (g' := (mkF m 19 #[.val (.int p1)] [(.int (2 : Int32)), (.int p1)])) ?_ (fun _ k => XT.iconstV X0.here hx rfl (2 : Int32) (hb hby d_method_2_code_18) (by decide) k)
      by_cases hc5 : p1 = (2 : Int32)
      · refine Go.st (T' := s₁) (g' := (mkF m 22 #[.val (.int p1)] [])) ?_ (fun _ k => XS.icmpNo X0.here hx rfl (hb hby d_method_2_code_19) rfl (teq hc5).2 k)
        obtain ⟨T6, X6, e6, st6⟩ := getS2 X0 hx hZ hown (host := "") (Or.inl (hw _ (List.mem_of_getElem? (i := 36) rfl))) Via.refl e0 S_WEST (g := (mkF m 22 #[.val (.int p1)] [])) rfl (hb hby d_method_2_code_22)
        refine Go.st (T' := T6) (g' := (mkF m 25 #[.val (.int p1)] [(.ref w_WEST)])) ?_ st6
        exact Go.retV (t := (.object "com/example/amblesim/amblesim/model/Move")) X6 hx hret hlk (by decide) (by decide) rfl (Or.inr (Or.inr (Or.inr (Or.inr ⟨rfl, rfl, rfl⟩)))) (hb hby d_method_2_code_25) ⟨by rw [own_pick, if_neg hc1, if_neg hc3, if_pos hc5], N0, e6⟩
      · refine Go.st (T' := s₁) (g' := (mkF m 26 #[.val (.int p1)] [])) ?_ (fun _ k => XS.icmpYes X0.here hx rfl (pc0 := 19) (pc' := 26) rfl (hb hby d_method_2_code_19) rfl (feq hc5).2 (by decide) (by decide) k)
        refine Go.st (T' := s₁) (g' := (mkF m 27 #[.val (.int p1)] [(.int p1)])) ?_ (fun _ k => XS.iloadN X0.here hx rfl (hb hby d_method_2_code_26) rfl k)
        refine Go.st (T' := s₁) (g' := (mkF m 28 #[.val (.int p1)] [(.int (3 : Int32)), (.int p1)])) ?_ (fun _ k => XT.iconstV X0.here hx rfl (3 : Int32) (hb hby d_method_2_code_27) (by decide) k)
        by_cases hc7 : p1 = (3 : Int32)
        · refine Go.st (T' := s₁) (g' := (mkF m 31 #[.val (.int p1)] [])) ?_ (fun _ k => XS.icmpNo X0.here hx rfl (hb hby d_method_2_code_28) rfl (teq hc7).2 k)
          obtain ⟨T8, X8, e8, st8⟩ := getS2 X0 hx hZ hown (host := "") (Or.inl (hw _ (List.mem_of_getElem? (i := 30) rfl))) Via.refl e0 S_SOUTH (g := (mkF m 31 #[.val (.int p1)] [])) rfl (hb hby d_method_2_code_31)
          refine Go.st (T' := T8) (g' := (mkF m 34 #[.val (.int p1)] [(.ref w_SOUTH)])) ?_ st8
          exact Go.retV (t := (.object "com/example/amblesim/amblesim/model/Move")) X8 hx hret hlk (by decide) (by decide) rfl (Or.inr (Or.inr (Or.inr (Or.inr ⟨rfl, rfl, rfl⟩)))) (hb hby d_method_2_code_34) ⟨by rw [own_pick, if_neg hc1, if_neg hc3, if_neg hc5, if_pos hc7], N0, e8⟩
        · refine Go.st (T' := s₁) (g' := (mkF m 35 #[.val (.int p1)] [])) ?_ (fun _ k => XS.icmpYes X0.here hx rfl (pc0 := 28) (pc' := 35) rfl (hb hby d_method_2_code_28) rfl (feq hc7).2 (by decide) (by decide) k)
          refine Go.st (T' := s₁) (g' := (mkF m 36 #[.val (.int p1)] [(.int p1)])) ?_ (fun _ k => XS.iloadN X0.here hx rfl (hb hby d_method_2_code_35) rfl k)
          refine Go.st (T' := s₁) (g' := (mkF m 37 #[.val (.int p1)] [(.int (4 : Int32)), (.int p1)])) ?_ (fun _ k => XT.iconstV X0.here hx rfl (4 : Int32) (hb hby d_method_2_code_36) (by decide) k)
          by_cases hc9 : p1 = (4 : Int32)
          · refine Go.st (T' := s₁) (g' := (mkF m 40 #[.val (.int p1)] [])) ?_ (fun _ k => XS.icmpNo X0.here hx rfl (hb hby d_method_2_code_37) rfl (teq hc9).2 k)
            obtain ⟨T10, X10, e10, st10⟩ := getS2 X0 hx hZ hown (host := "") (Or.inl (hw _ (List.mem_of_getElem? (i := 40) rfl))) Via.refl e0 S_NORTH_EAST (g := (mkF m 40 #[.val (.int p1)] [])) rfl (hb hby d_method_2_code_40)
            refine Go.st (T' := T10) (g' := (mkF m 43 #[.val (.int p1)] [(.ref w_NORTH_EAST)])) ?_ st10
            exact Go.retV (t := (.object "com/example/amblesim/amblesim/model/Move")) X10 hx hret hlk (by decide) (by decide) rfl (Or.inr (Or.inr (Or.inr (Or.inr ⟨rfl, rfl, rfl⟩)))) (hb hby d_method_2_code_43) ⟨by rw [own_pick, if_neg hc1, if_neg hc3, if_neg hc5, if_neg hc7, if_pos hc9], N0, e10⟩
          · refine Go.st (T' := s₁) (g' := (mkF m 44 #[.val (.int p1)] [])) ?_ (fun _ k => XS.icmpYes X0.here hx rfl (pc0 := 37) (pc' := 44) rfl (hb hby d_method_2_code_37) rfl (feq hc9).2 (by decide) (by decide) k)
            refine Go.st (T' := s₁) (g' := (mkF m 45 #[.val (.int p1)] [(.int p1)])) ?_ (fun _ k => XS.iloadN X0.here hx rfl (hb hby d_method_2_code_44) rfl k)
            refine Go.st (T' := s₁) (g' := (mkF m 46 #[.val (.int p1)] [(.int (5 : Int32)), (.int p1)])) ?_ (fun _ k => XT.iconstV X0.here hx rfl (5 : Int32) (hb hby d_method_2_code_45) (by decide) k)
            by_cases hc11 : p1 = (5 : Int32)
            · refine Go.st (T' := s₁) (g' := (mkF m 49 #[.val (.int p1)] [])) ?_ (fun _ k => XS.icmpNo X0.here hx rfl (hb hby d_method_2_code_46) rfl (teq hc11).2 k)
              obtain ⟨T12, X12, e12, st12⟩ := getS2 X0 hx hZ hown (host := "") (Or.inl (hw _ (List.mem_of_getElem? (i := 42) rfl))) Via.refl e0 S_NORTH_WEST (g := (mkF m 49 #[.val (.int p1)] [])) rfl (hb hby d_method_2_code_49)
              refine Go.st (T' := T12) (g' := (mkF m 52 #[.val (.int p1)] [(.ref w_NORTH_WEST)])) ?_ st12
              exact Go.retV (t := (.object "com/example/amblesim/amblesim/model/Move")) X12 hx hret hlk (by decide) (by decide) rfl (Or.inr (Or.inr (Or.inr (Or.inr ⟨rfl, rfl, rfl⟩)))) (hb hby d_method_2_code_52) ⟨by rw [own_pick, if_neg hc1, if_neg hc3, if_neg hc5, if_neg hc7, if_neg hc9, if_pos hc11], N0, e12⟩
            · refine Go.st (T' := s₁) (g' := (mkF m 53 #[.val (.int p1)] [])) ?_ (fun _ k => XS.icmpYes X0.here hx rfl (pc0 := 46) (pc' := 53) rfl (hb hby d_method_2_code_46) rfl (feq hc11).2 (by decide) (by decide) k)
              refine Go.st (T' := s₁) (g' := (mkF m 54 #[.val (.int p1)] [(.int p1)])) ?_ (fun _ k => XS.iloadN X0.here hx rfl (hb hby d_method_2_code_53) rfl k)
              refine Go.st (T' := s₁) (g' := (mkF m 56 #[.val (.int p1)] [(.int (6 : Int32)), (.int p1)])) ?_ (fun _ k => XT.bipushV X0.here hx rfl (6 : Int32) (hb hby d_method_2_code_54) (by decide) k)
              by_cases hc13 : p1 = (6 : Int32)
              · refine Go.st (T' := s₁) (g' := (mkF m 59 #[.val (.int p1)] [])) ?_ (fun _ k => XS.icmpNo X0.here hx rfl (hb hby d_method_2_code_56) rfl (teq hc13).2 k)
                obtain ⟨T14, X14, e14, st14⟩ := getS2 X0 hx hZ hown (host := "") (Or.inl (hw _ (List.mem_of_getElem? (i := 32) rfl))) Via.refl e0 S_SOUTH_WEST (g := (mkF m 59 #[.val (.int p1)] [])) rfl (hb hby d_method_2_code_59)
                refine Go.st (T' := T14) (g' := (mkF m 62 #[.val (.int p1)] [(.ref w_SOUTH_WEST)])) ?_ st14
                exact Go.retV (t := (.object "com/example/amblesim/amblesim/model/Move")) X14 hx hret hlk (by decide) (by decide) rfl (Or.inr (Or.inr (Or.inr (Or.inr ⟨rfl, rfl, rfl⟩)))) (hb hby d_method_2_code_62) ⟨by rw [own_pick, if_neg hc1, if_neg hc3, if_neg hc5, if_neg hc7, if_neg hc9, if_neg hc11, if_pos hc13], N0, e14⟩
              · refine Go.st (T' := s₁) (g' := (mkF m 63 #[.val (.int p1)] [])) ?_ (fun _ k => XS.icmpYes X0.here hx rfl (pc0 := 56) (pc' := 63) rfl (hb hby d_method_2_code_56) rfl (feq hc13).2 (by decide) (by decide) k)
                obtain ⟨T15, X15, e15, st15⟩ := getS2 X0 hx hZ hown (host := "") (Or.inl (hw _ (List.mem_of_getElem? (i := 34) rfl))) Via.refl e0 S_SOUTH_EAST (g := (mkF m 63 #[.val (.int p1)] [])) rfl (hb hby d_method_2_code_63)
                refine Go.st (T' := T15) (g' := (mkF m 66 #[.val (.int p1)] [(.ref w_SOUTH_EAST)])) ?_ st15
                exact Go.retV (t := (.object "com/example/amblesim/amblesim/model/Move")) X15 hx hret hlk (by decide) (by decide) rfl (Or.inr (Or.inr (Or.inr (Or.inr ⟨rfl, rfl, rfl⟩)))) (hb hby d_method_2_code_66) ⟨by rw [own_pick, if_neg hc1, if_neg hc3, if_neg hc5, if_neg hc7, if_neg hc9, if_neg hc11, if_neg hc13], N0, e15⟩
def own_diag (a1 : Addr) (f1 f2 : Int32)  : Int32 := if f1 = (0 : Int32) then (0 : Int32) else (if f2 = (0 : Int32) then (0 : Int32) else (1 : Int32))
theorem d_prog_3_method_6_code_0 : decode prog_3_method_6_code 0 = .ok (.aload_n 0, 1) := by decide +kernel
theorem d_prog_3_method_6_code_1 : decode prog_3_method_6_code 1 = .ok (.getfield 47, 3) := by decide +kernel
theorem d_prog_3_method_6_code_4 : decode prog_3_method_6_code 4 = .ok (.ifCond .eq 14, 3) := by decide +kernel
theorem d_prog_3_method_6_code_18 : decode prog_3_method_6_code 18 = .ok (.iconst 0, 1) := by decide +kernel
theorem d_prog_3_method_6_code_19 : decode prog_3_method_6_code 19 = .ok (.ireturn, 1) := by decide +kernel
theorem d_prog_3_method_6_code_7 : decode prog_3_method_6_code 7 = .ok (.aload_n 0, 1) := by decide +kernel
theorem d_prog_3_method_6_code_8 : decode prog_3_method_6_code 8 = .ok (.getfield 51, 3) := by decide +kernel
theorem d_prog_3_method_6_code_11 : decode prog_3_method_6_code 11 = .ok (.ifCond .eq 7, 3) := by decide +kernel
theorem d_prog_3_method_6_code_14 : decode prog_3_method_6_code 14 = .ok (.iconst 1, 1) := by decide +kernel
theorem d_prog_3_method_6_code_15 : decode prog_3_method_6_code 15 = .ok (.goto 4, 3) := by decide +kernel
theorem pn_com_example_amblesim_amblesim_model_Move : plainName "com/example/amblesim/amblesim/model/Move" = true := by first | (simp [plainName, overriddenIn]; done) | decide +kernel
set_option maxRecDepth 65536 in
set_option maxHeartbeats 40000000 in
theorem rm2 (l : Launch) (Z : State) (a0 : Array Value) (hw : ∀ d ∈ tables_1, d.before a0 Z = true) (ws : List Jvm.Cond) (a1 : Addr) (f1 f2 : Int32)  (h0 : Heap) (n0 : Nat) (Z0 : n0 ≤ h0.size)  (G_f1 : Fld Z h0 a1 "com/example/amblesim/amblesim/model/Move" "columns" "I" (.int f1)) (G_f2 : Fld Z h0 a1 "com/example/amblesim/amblesim/model/Move" "rows" "I" (.int f2)) :
    Does l (⟨"com/example/amblesim/amblesim/model/Move", "isDiagonal", "()Z"⟩ : MethodName) prog_3_method_6_code 1 (some .boolean) ws ({ frames := 0, cells := 0, slots := 0, locals := 0 } : Room) #[(.ref a1)] Z h0 (fun v h L => v = some (.int (own_diag a1 f1 f2 )) ∧ Fr n0 L ∧ h = h0) := by
  refine Does.of (plainFor_of_name pn_com_example_amblesim_amblesim_model_Move) ?_
  intro p e s m below meth c s₁ hx hby hml hret hlk hown0 hnm hZ X0 e0
  have hown : s.vm.findClass "com/example/amblesim/amblesim/model/Move" = some m.cls := hown0
  have N0 := Fr.nil n0
  refine Go.cast (g' := (mkF m 0 #[.val (.ref a1)] [])) (by first | rfl | (simp [entryFrame, mkF, argsToLocals, Value.category, maxLocals]; done)) ?_
  refine Go.st (T' := s₁) (g' := (mkF m 1 #[.val (.ref a1)] [(.ref a1)])) ?_ (fun _ k => XS.aloadN X0.here hx rfl (hb hby d_prog_3_method_6_code_0) rfl rfl k)
  obtain ⟨T1, X1, e1, st1⟩ := getF X0 hx hZ hown (host := "") (Or.inl (hw _ (List.mem_of_getElem? (i := 12) rfl))) Via.refl e0 G_f1 (g := (mkF m 1 #[.val (.ref a1)] [(.ref a1)])) rfl rfl (hb hby d_prog_3_method_6_code_1)
  refine Go.st (T' := T1) (g' := (mkF m 4 #[.val (.ref a1)] [(.int f1)])) ?_ st1
  by_cases hc2 : f1 = (0 : Int32)
  · refine Go.st (T' := T1) (g' := (mkF m 18 #[.val (.ref a1)] [])) ?_ (fun _ k => XS.ifYes X1.here hx rfl (pc0 := 4) (pc' := 18) rfl (hb hby d_prog_3_method_6_code_4) rfl ((if0 _ _).trans (teq hc2).1) (by decide) (by decide) k)
    refine Go.st (T' := T1) (g' := (mkF m 19 #[.val (.ref a1)] [(.int (0 : Int32))])) ?_ (fun _ k => XT.iconstV X1.here hx rfl (0 : Int32) (hb hby d_prog_3_method_6_code_18) (by decide) k)
    exact Go.retV (t := .boolean) X1 hx hret hlk (by decide) (by decide) rfl (Or.inl ⟨rfl, Or.inr (Or.inl rfl), _, rfl⟩) (hb hby d_prog_3_method_6_code_19) ⟨by rw [own_diag, if_pos hc2], N0, e1⟩
  · refine Go.st (T' := T1) (g' := (mkF m 7 #[.val (.ref a1)] [])) ?_ (fun _ k => XS.ifNo X1.here hx rfl (hb hby d_prog_3_method_6_code_4) rfl ((if0 _ _).trans (feq hc2).1) k)
    refine Go.st (T' := T1) (g' := (mkF m 8 #[.val (.ref a1)] [(.ref a1)])) ?_ (fun _ k => XS.aloadN X1.here hx rfl (hb hby d_prog_3_method_6_code_7) rfl rfl k)
    obtain ⟨T3, X3, e3, st3⟩ := getF X1 hx hZ hown (host := "") (Or.inl (hw _ (List.mem_of_getElem? (i := 14) rfl))) Via.refl e1 G_f2 (g := (mkF m 8 #[.val (.ref a1)] [(.ref a1)])) rfl rfl (hb hby d_prog_3_method_6_code_8)
    refine Go.st (T' := T3) (g' := (mkF m 11 #[.val (.ref a1)] [(.int f2)])) ?_ st3
    by_cases hc4 : f2 = (0 : Int32)
    · refine Go.st (T' := T3) (g' := (mkF m 18 #[.val (.ref a1)] [])) ?_ (fun _ k => XS.ifYes X3.here hx rfl (pc0 := 11) (pc' := 18) rfl (hb hby d_prog_3_method_6_code_11) rfl ((if0 _ _).trans (teq hc4).1) (by decide) (by decide) k)
      refine Go.st (T' := T3) (g' := (mkF m 19 #[.val (.ref a1)] [(.int (0 : Int32))])) ?_ (fun _ k => XT.iconstV X3.here hx rfl (0 : Int32) (hb hby d_prog_3_method_6_code_18) (by decide) k)
      exact Go.retV (t := .boolean) X3 hx hret hlk (by decide) (by decide) rfl (Or.inl ⟨rfl, Or.inr (Or.inl rfl), _, rfl⟩) (hb hby d_prog_3_method_6_code_19) ⟨by rw [own_diag, if_neg hc2, if_pos hc4], N0, e3⟩
    · refine Go.st (T' := T3) (g' := (mkF m 14 #[.val (.ref a1)] [])) ?_ (fun _ k => XS.ifNo X3.here hx rfl (hb hby d_prog_3_method_6_code_11) rfl ((if0 _ _).trans (feq hc4).1) k)
      refine Go.st (T' := T3) (g' := (mkF m 15 #[.val (.ref a1)] [(.int (1 : Int32))])) ?_ (fun _ k => XT.iconstV X3.here hx rfl (1 : Int32) (hb hby d_prog_3_method_6_code_14) (by decide) k)
      refine Go.st (T' := T3) (g' := (mkF m 19 #[.val (.ref a1)] [(.int (1 : Int32))])) ?_ (fun _ k => XS.goto X3.here hx rfl (pc0 := 15) (pc' := 19) rfl (hb hby d_prog_3_method_6_code_15) (by decide) (by decide) k)
      exact Go.retV (t := .boolean) X3 hx hret hlk (by decide) (by decide) rfl (Or.inl ⟨rfl, Or.inr (Or.inl rfl), _, rfl⟩) (hb hby d_prog_3_method_6_code_19) ⟨by rw [own_diag, if_neg hc2, if_neg hc4], N0, e3⟩
def own_cols (a1 : Addr) (f1 : Int32)  : Int32 := f1
theorem d_prog_3_method_4_code_0 : decode prog_3_method_4_code 0 = .ok (.aload_n 0, 1) := by decide +kernel
theorem d_prog_3_method_4_code_1 : decode prog_3_method_4_code 1 = .ok (.getfield 47, 3) := by decide +kernel
theorem d_prog_3_method_4_code_4 : decode prog_3_method_4_code 4 = .ok (.ireturn, 1) := by decide +kernel
set_option maxRecDepth 65536 in
set_option maxHeartbeats 40000000 in
theorem rm3 (l : Launch) (Z : State) (a0 : Array Value) (hw : ∀ d ∈ tables_1, d.before a0 Z = true) (ws : List Jvm.Cond) (a1 : Addr) (f1 : Int32)  (h0 : Heap) (n0 : Nat) (Z0 : n0 ≤ h0.size)  (G_f1 : Fld Z h0 a1 "com/example/amblesim/amblesim/model/Move" "columns" "I" (.int f1)) :
    Does l (⟨"com/example/amblesim/amblesim/model/Move", "columns", "()I"⟩ : MethodName) prog_3_method_4_code 1 (some .int) ws ({ frames := 0, cells := 0, slots := 0, locals := 0 } : Room) #[(.ref a1)] Z h0 (fun v h L => v = some (.int (own_cols a1 f1 )) ∧ Fr n0 L ∧ h = h0) := by
  refine Does.of (plainFor_of_name pn_com_example_amblesim_amblesim_model_Move) ?_
  intro p e s m below meth c s₁ hx hby hml hret hlk hown0 hnm hZ X0 e0
  have hown : s.vm.findClass "com/example/amblesim/amblesim/model/Move" = some m.cls := hown0
  have N0 := Fr.nil n0
  refine Go.cast (g' := (mkF m 0 #[.val (.ref a1)] [])) (by first | rfl | (simp [entryFrame, mkF, argsToLocals, Value.category, maxLocals]; done)) ?_
  refine Go.st (T' := s₁) (g' := (mkF m 1 #[.val (.ref a1)] [(.ref a1)])) ?_ (fun _ k => XS.aloadN X0.here hx rfl (hb hby d_prog_3_method_4_code_0) rfl rfl k)
  obtain ⟨T1, X1, e1, st1⟩ := getF X0 hx hZ hown (host := "") (Or.inl (hw _ (List.mem_of_getElem? (i := 12) rfl))) Via.refl e0 G_f1 (g := (mkF m 1 #[.val (.ref a1)] [(.ref a1)])) rfl rfl (hb hby d_prog_3_method_4_code_1)
  refine Go.st (T' := T1) (g' := (mkF m 4 #[.val (.ref a1)] [(.int f1)])) ?_ st1
  exact Go.retV (t := .int) X1 hx hret hlk (by decide) (by decide) rfl (Or.inl ⟨rfl, Or.inl rfl, _, rfl⟩) (hb hby d_prog_3_method_4_code_4) ⟨by rw [own_cols], N0, e1⟩
def own_rows (a1 : Addr) (f1 : Int32)  : Int32 := f1
theorem d_prog_3_method_5_code_0 : decode prog_3_method_5_code 0 = .ok (.aload_n 0, 1) := by decide +kernel
theorem d_prog_3_method_5_code_1 : decode prog_3_method_5_code 1 = .ok (.getfield 51, 3) := by decide +kernel
theorem d_prog_3_method_5_code_4 : decode prog_3_method_5_code 4 = .ok (.ireturn, 1) := by decide +kernel
set_option maxRecDepth 65536 in
set_option maxHeartbeats 40000000 in
theorem rm4 (l : Launch) (Z : State) (a0 : Array Value) (hw : ∀ d ∈ tables_1, d.before a0 Z = true) (ws : List Jvm.Cond) (a1 : Addr) (f1 : Int32)  (h0 : Heap) (n0 : Nat) (Z0 : n0 ≤ h0.size)  (G_f1 : Fld Z h0 a1 "com/example/amblesim/amblesim/model/Move" "rows" "I" (.int f1)) :
    Does l (⟨"com/example/amblesim/amblesim/model/Move", "rows", "()I"⟩ : MethodName) prog_3_method_5_code 1 (some .int) ws ({ frames := 0, cells := 0, slots := 0, locals := 0 } : Room) #[(.ref a1)] Z h0 (fun v h L => v = some (.int (own_rows a1 f1 )) ∧ Fr n0 L ∧ h = h0) := by
  refine Does.of (plainFor_of_name pn_com_example_amblesim_amblesim_model_Move) ?_
  intro p e s m below meth c s₁ hx hby hml hret hlk hown0 hnm hZ X0 e0
  have hown : s.vm.findClass "com/example/amblesim/amblesim/model/Move" = some m.cls := hown0
  have N0 := Fr.nil n0
  refine Go.cast (g' := (mkF m 0 #[.val (.ref a1)] [])) (by first | rfl | (simp [entryFrame, mkF, argsToLocals, Value.category, maxLocals]; done)) ?_
  refine Go.st (T' := s₁) (g' := (mkF m 1 #[.val (.ref a1)] [(.ref a1)])) ?_ (fun _ k => XS.aloadN X0.here hx rfl (hb hby d_prog_3_method_5_code_0) rfl rfl k)
  obtain ⟨T1, X1, e1, st1⟩ := getF X0 hx hZ hown (host := "") (Or.inl (hw _ (List.mem_of_getElem? (i := 14) rfl))) Via.refl e0 G_f1 (g := (mkF m 1 #[.val (.ref a1)] [(.ref a1)])) rfl rfl (hb hby d_prog_3_method_5_code_1)
  refine Go.st (T' := T1) (g' := (mkF m 4 #[.val (.ref a1)] [(.int f1)])) ?_ st1
  exact Go.retV (t := .int) X1 hx hret hlk (by decide) (by decide) rfl (Or.inl ⟨rfl, Or.inl rfl, _, rfl⟩) (hb hby d_prog_3_method_5_code_4) ⟨by rw [own_rows], N0, e1⟩
def own_abs (p1 : Int32)  : Int32 := if p1 < (0 : Int32) then (-p1) else p1
theorem d_jdk_29_method_59_code_0 : decode jdk_29_method_59_code 0 = .ok (.iload_n 0, 1) := by decide +kernel
theorem d_jdk_29_method_59_code_1 : decode jdk_29_method_59_code 1 = .ok (.ifCond .ge 8, 3) := by decide +kernel
theorem d_jdk_29_method_59_code_4 : decode jdk_29_method_59_code 4 = .ok (.iload_n 0, 1) := by decide +kernel
theorem d_jdk_29_method_59_code_5 : decode jdk_29_method_59_code 5 = .ok (.ineg, 1) := by decide +kernel
theorem d_jdk_29_method_59_code_6 : decode jdk_29_method_59_code 6 = .ok (.goto 4, 3) := by decide +kernel
theorem d_jdk_29_method_59_code_10 : decode jdk_29_method_59_code 10 = .ok (.ireturn, 1) := by decide +kernel
theorem d_jdk_29_method_59_code_9 : decode jdk_29_method_59_code 9 = .ok (.iload_n 0, 1) := by decide +kernel
set_option maxRecDepth 65536 in
set_option maxHeartbeats 40000000 in
theorem rm5 (l : Launch) (Z : State) (a0 : Array Value) (hw : ∀ d ∈ tables_1, d.before a0 Z = true) (ws : List Jvm.Cond) (p1 : Int32)  (h0 : Heap) (n0 : Nat) (Z0 : n0 ≤ h0.size)  :
    Does l (⟨"java/lang/Math", "abs", "(I)I"⟩ : MethodName) jdk_29_method_59_code 1 (some .int) ws ({ frames := 0, cells := 0, slots := 0, locals := 0 } : Room) #[(.int p1)] Z h0 (fun v h L => v = some (.int (own_abs p1 )) ∧ Fr n0 L ∧ h = h0) := by
  refine Does.of (Jvm.Free.JP.mathPlain rfl (by decide +kernel)) ?_
  intro p e s m below meth c s₁ hx hby hml hret hlk hown0 hnm hZ X0 e0
  have hown : s.vm.findClass "java/lang/Math" = some m.cls := hown0
  have N0 := Fr.nil n0
  refine Go.cast (g' := (mkF m 0 #[.val (.int p1)] [])) (by first | rfl | (simp [entryFrame, mkF, argsToLocals, Value.category, maxLocals]; done)) ?_
  refine Go.st (T' := s₁) (g' := (mkF m 1 #[.val (.int p1)] [(.int p1)])) ?_ (fun _ k => XS.iloadN X0.here hx rfl (hb hby d_jdk_29_method_59_code_0) rfl k)
  by_cases hc1 : p1 < (0 : Int32)
  · refine Go.st (T' := s₁) (g' := (mkF m 4 #[.val (.int p1)] [])) ?_ (fun _ k => XS.ifNo X0.here hx rfl (hb hby d_jdk_29_method_59_code_1) rfl ((if0 _ _).trans (tlt hc1).2.1) k)
    refine Go.st (T' := s₁) (g' := (mkF m 5 #[.val (.int p1)] [(.int p1)])) ?_ (fun _ k => XS.iloadN X0.here hx rfl (hb hby d_jdk_29_method_59_code_4) rfl k)
    refine Go.st (T' := s₁) (g' := (mkF m 6 #[.val (.int p1)] [(.int (-p1))])) ?_ (fun _ k => XS.ineg X0.here hx rfl (hb hby d_jdk_29_method_59_code_5) rfl k)
    refine Go.st (T' := s₁) (g' := (mkF m 10 #[.val (.int p1)] [(.int (-p1))])) ?_ (fun _ k => XS.goto X0.here hx rfl (pc0 := 6) (pc' := 10) rfl (hb hby d_jdk_29_method_59_code_6) (by decide) (by decide) k)
    exact Go.retV (t := .int) X0 hx hret hlk (by decide) (by decide) rfl (Or.inl ⟨rfl, Or.inl rfl, _, rfl⟩) (hb hby d_jdk_29_method_59_code_10) ⟨by rw [own_abs, if_pos hc1], N0, e0⟩
  · refine Go.st (T' := s₁) (g' := (mkF m 9 #[.val (.int p1)] [])) ?_ (fun _ k => XS.ifYes X0.here hx rfl (pc0 := 1) (pc' := 9) rfl (hb hby d_jdk_29_method_59_code_1) rfl ((if0 _ _).trans (flt hc1).2.1) (by decide) (by decide) k)
    refine Go.st (T' := s₁) (g' := (mkF m 10 #[.val (.int p1)] [(.int p1)])) ?_ (fun _ k => XS.iloadN X0.here hx rfl (hb hby d_jdk_29_method_59_code_9) rfl k)
    exact Go.retV (t := .int) X0 hx hret hlk (by decide) (by decide) rfl (Or.inl ⟨rfl, Or.inl rfl, _, rfl⟩) (hb hby d_jdk_29_method_59_code_10) ⟨by rw [own_abs, if_neg hc1], N0, e0⟩
theorem own_k (p : Int32) : p &&& 7 = 0 ∨ p &&& 7 = 1 ∨ p &&& 7 = 2 ∨ p &&& 7 = 3 ∨ p &&& 7 = 4 ∨ p &&& 7 = 5 ∨ p &&& 7 = 6 ∨ p &&& 7 = 7 := by
  have h1 := c_mask p 7 3 (by decide) (by decide)
  simp only [← Int32.toInt_inj, h1]
  have e0 : (0 : Int32).toInt = 0 := by decide
  have e1 : (1 : Int32).toInt = 1 := by decide
  have e2 : (2 : Int32).toInt = 2 := by decide
  have e3 : (3 : Int32).toInt = 3 := by decide
  have e4 : (4 : Int32).toInt = 4 := by decide
  have e5 : (5 : Int32).toInt = 5 := by decide
  have e6 : (6 : Int32).toInt = 6 := by decide
  have e7 : (7 : Int32).toInt = 7 := by decide
  simp only [e0, e1, e2, e3, e4, e5, e6, e7]
  omega
theorem pd__I_Lcom_example_amblesim_amblesim_model_Move_ : parseMethodDescriptor "(I)Lcom/example/amblesim/amblesim/model/Move;" = some ⟨[.int], some (.object "com/example/amblesim/amblesim/model/Move")⟩ := by decide +kernel
theorem pd___Z : parseMethodDescriptor "()Z" = some ⟨[], some .boolean⟩ := by decide +kernel
theorem pd___I : parseMethodDescriptor "()I" = some ⟨[], some .int⟩ := by decide +kernel
theorem pd__I_I : parseMethodDescriptor "(I)I" = some ⟨[.int], some .int⟩ := by decide +kernel
set_option maxRecDepth 65536 in
set_option maxHeartbeats 40000000 in
theorem rm0 (l : Launch) (Z : State) (a0 : Array Value) (hw : ∀ d ∈ tables_1, d.before a0 Z = true) (ws : List Jvm.Cond) (p1 : Int32) (w_EAST w_SOUTH w_SOUTH_WEST w_SOUTH_EAST w_WEST w_NORTH w_NORTH_EAST w_NORTH_WEST : Addr) (h0 : Heap) (n0 : Nat) (Z0 : n0 ≤ h0.size) (FF : own_F Z h0 w_EAST w_SOUTH w_SOUTH_WEST w_SOUTH_EAST w_WEST w_NORTH w_NORTH_EAST w_NORTH_WEST) :
    Does l x code maxLocals ret ws room_1 #[(.int p1)] Z h0 (fun v h L => v = some (.int 1) ∧ Fr n0 L) := by
  refine Does.of (plainFor_of_name pn_com_example_amblesim_amblesim_model_MoveIsDiagonalPinLaw) ?_
  intro p e s m below meth c s₁ hx hby hml hret hlk hown0 hnm hZ X0 e0
  have hown : s.vm.findClass "com/example/amblesim/amblesim/model/MoveIsDiagonalPinLaw" = some m.cls := hown0
  have N0 := Fr.nil n0
  have FF0 := FF
  obtain ⟨S_EAST, S_SOUTH, S_SOUTH_WEST, S_SOUTH_EAST, S_WEST, S_NORTH, S_NORTH_EAST, S_NORTH_WEST, A_EAST, A_SOUTH, A_SOUTH_WEST, A_SOUTH_EAST, A_WEST, A_NORTH, A_NORTH_EAST, A_NORTH_WEST, F_EAST_columns, F_EAST_rows, F_SOUTH_columns, F_SOUTH_rows, F_SOUTH_WEST_columns, F_SOUTH_WEST_rows, F_SOUTH_EAST_columns, F_SOUTH_EAST_rows, F_WEST_columns, F_WEST_rows, F_NORTH_columns, F_NORTH_rows, F_NORTH_EAST_columns, F_NORTH_EAST_rows, F_NORTH_WEST_columns, F_NORTH_WEST_rows⟩ := FF
  refine Go.cast (g' := (mkF m 0 #[.val (.int p1), .unset, .unset, .unset, .unset, .unset] [])) (by first | rfl | (simp [entryFrame, mkF, argsToLocals, Value.category, maxLocals]; done)) ?_
  refine Go.st (T' := s₁) (g' := (mkF m 1 #[.val (.int p1), .unset, .unset, .unset, .unset, .unset] [(.int p1)])) ?_ (fun _ k => XS.iloadN X0.here hx rfl (hb hby at_0) rfl k)
  refine Go.st (T' := s₁) (g' := (mkF m 3 #[.val (.int p1), .unset, .unset, .unset, .unset, .unset] [(.int (7 : Int32)), (.int p1)])) ?_ (fun _ k => XT.bipushV X0.here hx rfl (7 : Int32) (hb hby at_1) (by decide) k)
  refine Go.st (T' := s₁) (g' := (mkF m 4 #[.val (.int p1), .unset, .unset, .unset, .unset, .unset] [(.int (p1 &&& (7 : Int32)))])) ?_ (fun _ k => XS.iand X0.here hx rfl (hb hby at_3) rfl k)
  rcases own_k p1 with hk | hk | hk | hk | hk | hk | hk | hk
  · rw [hk]
    refine Go.st (T' := s₁) (g' := (mkF m 5 #[.val (.int p1), .val (.int (0 : Int32)), .unset, .unset, .unset, .unset] [])) ?_ (fun _ k => XS.istoreN X0.here hx rfl (hb hby at_4) rfl (l' := #[.val (.int p1), .val (.int (0 : Int32)), .unset, .unset, .unset, .unset]) rfl k)
    refine Go.st (T' := s₁) (g' := (mkF m 6 #[.val (.int p1), .val (.int (0 : Int32)), .unset, .unset, .unset, .unset] [(.int (0 : Int32))])) ?_ (fun _ k => XS.iloadN X0.here hx rfl (hb hby at_5) rfl k)
    refine Go.callS X0 hx hZ hown (hw _ (List.mem_of_getElem? (i := 0) rfl)) (hw _ (List.mem_of_getElem? (i := 1) rfl)) (hw _ (List.mem_of_getElem? (i := 2) rfl)) (hw _ (List.mem_of_getElem? (i := 3) rfl)) (by decide) (rm1 l Z a0 hw [] (0 : Int32) w_EAST w_SOUTH w_SOUTH_WEST w_SOUTH_EAST w_WEST w_NORTH w_NORTH_EAST w_NORTH_WEST h0 n0 Z0 FF0 ) e0 (by decide) (W := 0) (by decide) (by decide) (by decide) (g := (mkF m 6 #[.val (.int p1), .val (.int (0 : Int32)), .unset, .unset, .unset, .unset] [(.int (0 : Int32))])) (rest := []) rfl (by rw [hml]; rfl) (lenOf pd__I_Lcom_example_amblesim_amblesim_model_Move_ rfl) rfl (by show 2 * 0 + _ ≤ _; exact Nat.le_of_eq rfl) (hb hby at_6) ?_
    rintro v1 T1 L1 X1 ⟨rfl, N1, e1⟩
    have M1 := Fr.app N0 N1
    rw [show own_pick (0 : Int32) w_EAST w_SOUTH w_SOUTH_WEST w_SOUTH_EAST w_WEST w_NORTH w_NORTH_EAST w_NORTH_WEST = w_EAST from by rw [own_pick, if_pos (rfl : (0 : Int32) = (0 : Int32))]]
    show Go p e below _ T1 (mkF m 9 #[.val (.int p1), .val (.int (0 : Int32)), .unset, .unset, .unset, .unset] [(.ref w_EAST)])
    refine Go.st (T' := T1) (g' := (mkF m 10 #[.val (.int p1), .val (.int (0 : Int32)), .val (.ref w_EAST), .unset, .unset, .unset] [])) ?_ (fun _ k => XS.astoreN X1.here hx rfl (hb hby at_9) rfl rfl (l' := #[.val (.int p1), .val (.int (0 : Int32)), .val (.ref w_EAST), .unset, .unset, .unset]) rfl k)
    refine Go.st (T' := T1) (g' := (mkF m 11 #[.val (.int p1), .val (.int (0 : Int32)), .val (.ref w_EAST), .unset, .unset, .unset] [(.int (0 : Int32))])) ?_ (fun _ k => XS.iloadN X1.here hx rfl (hb hby at_10) rfl k)
    refine Go.st (T' := T1) (g' := (mkF m 12 #[.val (.int p1), .val (.int (0 : Int32)), .val (.ref w_EAST), .unset, .unset, .unset] [(.int (4 : Int32)), (.int (0 : Int32))])) ?_ (fun _ k => XT.iconstV X1.here hx rfl (4 : Int32) (hb hby at_11) (by decide) k)
    refine Go.st (T' := T1) (g' := (mkF m 19 #[.val (.int p1), .val (.int (0 : Int32)), .val (.ref w_EAST), .unset, .unset, .unset] [])) ?_ (fun _ k => XS.icmpYes X1.here hx rfl (pc0 := 12) (pc' := 19) rfl (hb hby at_12) rfl (by decide) (by decide) (by decide) k)
    refine Go.st (T' := T1) (g' := (mkF m 20 #[.val (.int p1), .val (.int (0 : Int32)), .val (.ref w_EAST), .unset, .unset, .unset] [(.int (0 : Int32))])) ?_ (fun _ k => XT.iconstV X1.here hx rfl (0 : Int32) (hb hby at_19) (by decide) k)
    refine Go.st (T' := T1) (g' := (mkF m 21 #[.val (.int p1), .val (.int (0 : Int32)), .val (.ref w_EAST), .val (.int (0 : Int32)), .unset, .unset] [])) ?_ (fun _ k => XS.istoreN X1.here hx rfl (hb hby at_20) rfl (l' := #[.val (.int p1), .val (.int (0 : Int32)), .val (.ref w_EAST), .val (.int (0 : Int32)), .unset, .unset]) rfl k)
    refine Go.st (T' := T1) (g' := (mkF m 22 #[.val (.int p1), .val (.int (0 : Int32)), .val (.ref w_EAST), .val (.int (0 : Int32)), .unset, .unset] [(.ref w_EAST)])) ?_ (fun _ k => XS.aloadN X1.here hx rfl (hb hby at_21) rfl rfl k)
    refine Go.callV X1 hx hZ hown (hw _ (List.mem_of_getElem? (i := 7) rfl)) (hw _ (List.mem_of_getElem? (i := 8) rfl)) (hw _ (List.mem_of_getElem? (i := 10) rfl)) (hw _ (List.mem_of_getElem? (i := 9) rfl)) (hw _ (List.mem_of_getElem? (i := 5) rfl)) (hw _ (List.mem_of_getElem? (i := 11) rfl)) (by decide) A_EAST (rm2 l Z a0 hw [] w_EAST (1 : Int32) (0 : Int32)  h0 n0 Z0  F_EAST_columns F_EAST_rows) e1 (by decide) (W := 0) (by decide) (by decide) (by decide) (g := (mkF m 22 #[.val (.int p1), .val (.int (0 : Int32)), .val (.ref w_EAST), .val (.int (0 : Int32)), .unset, .unset] [(.ref w_EAST)])) (rest := []) rfl (by rw [hml]; rfl) (lenOf pd___Z rfl) rfl (by show 2 * 0 + _ ≤ _; exact Nat.le_of_eq rfl) (hb hby at_22) ?_
    rintro v2 T2 L2 X2 ⟨rfl, N2, e2⟩
    have M2 := Fr.app M1 N2
    rw [show own_diag w_EAST (1 : Int32) (0 : Int32)  = (0 : Int32) from by rw [own_diag, if_neg (by decide : ¬ (1 : Int32) = (0 : Int32)), if_pos (rfl : (0 : Int32) = (0 : Int32))]]
    show Go p e below _ T2 (mkF m 25 #[.val (.int p1), .val (.int (0 : Int32)), .val (.ref w_EAST), .val (.int (0 : Int32)), .unset, .unset] [(.int (0 : Int32))])
    refine Go.st (T' := T2) (g' := (mkF m 27 #[.val (.int p1), .val (.int (0 : Int32)), .val (.ref w_EAST), .val (.int (0 : Int32)), .val (.int (0 : Int32)), .unset] [])) ?_ (fun _ k => XS.istore X2.here hx rfl (hb hby at_25) rfl (l' := #[.val (.int p1), .val (.int (0 : Int32)), .val (.ref w_EAST), .val (.int (0 : Int32)), .val (.int (0 : Int32)), .unset]) rfl k)
    refine Go.st (T' := T2) (g' := (mkF m 28 #[.val (.int p1), .val (.int (0 : Int32)), .val (.ref w_EAST), .val (.int (0 : Int32)), .val (.int (0 : Int32)), .unset] [(.ref w_EAST)])) ?_ (fun _ k => XS.aloadN X2.here hx rfl (hb hby at_27) rfl rfl k)
    refine Go.callV X2 hx hZ hown (hw _ (List.mem_of_getElem? (i := 16) rfl)) (hw _ (List.mem_of_getElem? (i := 17) rfl)) (hw _ (List.mem_of_getElem? (i := 19) rfl)) (hw _ (List.mem_of_getElem? (i := 18) rfl)) (hw _ (List.mem_of_getElem? (i := 5) rfl)) (hw _ (List.mem_of_getElem? (i := 20) rfl)) (by decide) A_EAST (rm3 l Z a0 hw [] w_EAST (1 : Int32)  h0 n0 Z0  F_EAST_columns) e2 (by decide) (W := 0) (by decide) (by decide) (by decide) (g := (mkF m 28 #[.val (.int p1), .val (.int (0 : Int32)), .val (.ref w_EAST), .val (.int (0 : Int32)), .val (.int (0 : Int32)), .unset] [(.ref w_EAST)])) (rest := []) rfl (by rw [hml]; rfl) (lenOf pd___I rfl) rfl (by show 2 * 0 + _ ≤ _; exact Nat.le_of_eq rfl) (hb hby at_28) ?_
    rintro v3 T3 L3 X3 ⟨rfl, N3, e3⟩
    have M3 := Fr.app M2 N3
    rw [show own_cols w_EAST (1 : Int32)  = (1 : Int32) from by rw [own_cols]]
    show Go p e below _ T3 (mkF m 31 #[.val (.int p1), .val (.int (0 : Int32)), .val (.ref w_EAST), .val (.int (0 : Int32)), .val (.int (0 : Int32)), .unset] [(.int (1 : Int32))])
    refine Go.callS X3 hx hZ hown (hw _ (List.mem_of_getElem? (i := 21) rfl)) (hw _ (List.mem_of_getElem? (i := 22) rfl)) (hw _ (List.mem_of_getElem? (i := 23) rfl)) (hw _ (List.mem_of_getElem? (i := 24) rfl)) (by decide) (rm5 l Z a0 hw [] (1 : Int32)  h0 n0 Z0 ) e3 (by decide) (W := 0) (by decide) (by decide) (by decide) (g := (mkF m 31 #[.val (.int p1), .val (.int (0 : Int32)), .val (.ref w_EAST), .val (.int (0 : Int32)), .val (.int (0 : Int32)), .unset] [(.int (1 : Int32))])) (rest := []) rfl (by rw [hml]; rfl) (lenOf pd__I_I rfl) rfl (by show 2 * 0 + _ ≤ _; exact Nat.le_of_eq rfl) (hb hby at_31) ?_
    rintro v4 T4 L4 X4 ⟨rfl, N4, e4⟩
    have M4 := Fr.app M3 N4
    rw [show own_abs (1 : Int32)  = (1 : Int32) from by decide]
    show Go p e below _ T4 (mkF m 34 #[.val (.int p1), .val (.int (0 : Int32)), .val (.ref w_EAST), .val (.int (0 : Int32)), .val (.int (0 : Int32)), .unset] [(.int (1 : Int32))])
    refine Go.st (T' := T4) (g' := (mkF m 35 #[.val (.int p1), .val (.int (0 : Int32)), .val (.ref w_EAST), .val (.int (0 : Int32)), .val (.int (0 : Int32)), .unset] [(.ref w_EAST), (.int (1 : Int32))])) ?_ (fun _ k => XS.aloadN X4.here hx rfl (hb hby at_34) rfl rfl k)
    refine Go.callV X4 hx hZ hown (hw _ (List.mem_of_getElem? (i := 25) rfl)) (hw _ (List.mem_of_getElem? (i := 26) rfl)) (hw _ (List.mem_of_getElem? (i := 28) rfl)) (hw _ (List.mem_of_getElem? (i := 27) rfl)) (hw _ (List.mem_of_getElem? (i := 5) rfl)) (hw _ (List.mem_of_getElem? (i := 29) rfl)) (by decide) A_EAST (rm4 l Z a0 hw [] w_EAST (0 : Int32)  h0 n0 Z0  F_EAST_rows) e4 (by decide) (W := 1) (by decide) (by decide) (by decide) (g := (mkF m 35 #[.val (.int p1), .val (.int (0 : Int32)), .val (.ref w_EAST), .val (.int (0 : Int32)), .val (.int (0 : Int32)), .unset] [(.ref w_EAST), (.int (1 : Int32))])) (rest := [(.int (1 : Int32))]) rfl (by rw [hml]; rfl) (lenOf pd___I rfl) rfl (by show 2 * 0 + _ ≤ _; exact Nat.le_of_eq rfl) (hb hby at_35) ?_
    rintro v5 T5 L5 X5 ⟨rfl, N5, e5⟩
    have M5 := Fr.app M4 N5
    rw [show own_rows w_EAST (0 : Int32)  = (0 : Int32) from by rw [own_rows]]
    show Go p e below _ T5 (mkF m 38 #[.val (.int p1), .val (.int (0 : Int32)), .val (.ref w_EAST), .val (.int (0 : Int32)), .val (.int (0 : Int32)), .unset] [(.int (0 : Int32)), (.int (1 : Int32))])
    refine Go.callS X5 hx hZ hown (hw _ (List.mem_of_getElem? (i := 21) rfl)) (hw _ (List.mem_of_getElem? (i := 22) rfl)) (hw _ (List.mem_of_getElem? (i := 23) rfl)) (hw _ (List.mem_of_getElem? (i := 24) rfl)) (by decide) (rm5 l Z a0 hw [] (0 : Int32)  h0 n0 Z0 ) e5 (by decide) (W := 1) (by decide) (by decide) (by decide) (g := (mkF m 38 #[.val (.int p1), .val (.int (0 : Int32)), .val (.ref w_EAST), .val (.int (0 : Int32)), .val (.int (0 : Int32)), .unset] [(.int (0 : Int32)), (.int (1 : Int32))])) (rest := [(.int (1 : Int32))]) rfl (by rw [hml]; rfl) (lenOf pd__I_I rfl) rfl (by show 2 * 0 + _ ≤ _; exact Nat.le_of_eq rfl) (hb hby at_38) ?_
    rintro v6 T6 L6 X6 ⟨rfl, N6, e6⟩
    have M6 := Fr.app M5 N6
    rw [show own_abs (0 : Int32)  = (0 : Int32) from by decide]
    show Go p e below _ T6 (mkF m 41 #[.val (.int p1), .val (.int (0 : Int32)), .val (.ref w_EAST), .val (.int (0 : Int32)), .val (.int (0 : Int32)), .unset] [(.int (0 : Int32)), (.int (1 : Int32))])
    refine Go.st (T' := T6) (g' := (mkF m 42 #[.val (.int p1), .val (.int (0 : Int32)), .val (.ref w_EAST), .val (.int (0 : Int32)), .val (.int (0 : Int32)), .unset] [(.int (1 : Int32))])) ?_ (fun _ k => XS.iadd X6.here hx rfl (hb hby at_41) rfl k)
    refine Go.st (T' := T6) (g' := (mkF m 43 #[.val (.int p1), .val (.int (0 : Int32)), .val (.ref w_EAST), .val (.int (0 : Int32)), .val (.int (0 : Int32)), .unset] [(.int (2 : Int32)), (.int (1 : Int32))])) ?_ (fun _ k => XT.iconstV X6.here hx rfl (2 : Int32) (hb hby at_42) (by decide) k)
    refine Go.st (T' := T6) (g' := (mkF m 50 #[.val (.int p1), .val (.int (0 : Int32)), .val (.ref w_EAST), .val (.int (0 : Int32)), .val (.int (0 : Int32)), .unset] [])) ?_ (fun _ k => XS.icmpYes X6.here hx rfl (pc0 := 43) (pc' := 50) rfl (hb hby at_43) rfl (by decide) (by decide) (by decide) k)
    refine Go.st (T' := T6) (g' := (mkF m 51 #[.val (.int p1), .val (.int (0 : Int32)), .val (.ref w_EAST), .val (.int (0 : Int32)), .val (.int (0 : Int32)), .unset] [(.int (0 : Int32))])) ?_ (fun _ k => XT.iconstV X6.here hx rfl (0 : Int32) (hb hby at_50) (by decide) k)
    refine Go.st (T' := T6) (g' := (mkF m 53 #[.val (.int p1), .val (.int (0 : Int32)), .val (.ref w_EAST), .val (.int (0 : Int32)), .val (.int (0 : Int32)), .val (.int (0 : Int32))] [])) ?_ (fun _ k => XS.istore X6.here hx rfl (hb hby at_51) rfl (l' := #[.val (.int p1), .val (.int (0 : Int32)), .val (.ref w_EAST), .val (.int (0 : Int32)), .val (.int (0 : Int32)), .val (.int (0 : Int32))]) rfl k)
    refine Go.st (T' := T6) (g' := (mkF m 55 #[.val (.int p1), .val (.int (0 : Int32)), .val (.ref w_EAST), .val (.int (0 : Int32)), .val (.int (0 : Int32)), .val (.int (0 : Int32))] [(.int (0 : Int32))])) ?_ (fun _ k => XS.iload X6.here hx rfl (hb hby at_53) rfl k)
    refine Go.st (T' := T6) (g' := (mkF m 56 #[.val (.int p1), .val (.int (0 : Int32)), .val (.ref w_EAST), .val (.int (0 : Int32)), .val (.int (0 : Int32)), .val (.int (0 : Int32))] [(.int (0 : Int32)), (.int (0 : Int32))])) ?_ (fun _ k => XS.iloadN X6.here hx rfl (hb hby at_55) rfl k)
    refine Go.st (T' := T6) (g' := (mkF m 59 #[.val (.int p1), .val (.int (0 : Int32)), .val (.ref w_EAST), .val (.int (0 : Int32)), .val (.int (0 : Int32)), .val (.int (0 : Int32))] [])) ?_ (fun _ k => XS.icmpNo X6.here hx rfl (hb hby at_56) rfl (by decide) k)
    refine Go.st (T' := T6) (g' := (mkF m 61 #[.val (.int p1), .val (.int (0 : Int32)), .val (.ref w_EAST), .val (.int (0 : Int32)), .val (.int (0 : Int32)), .val (.int (0 : Int32))] [(.int (0 : Int32))])) ?_ (fun _ k => XS.iload X6.here hx rfl (hb hby at_59) rfl k)
    refine Go.st (T' := T6) (g' := (mkF m 63 #[.val (.int p1), .val (.int (0 : Int32)), .val (.ref w_EAST), .val (.int (0 : Int32)), .val (.int (0 : Int32)), .val (.int (0 : Int32))] [(.int (0 : Int32)), (.int (0 : Int32))])) ?_ (fun _ k => XS.iload X6.here hx rfl (hb hby at_61) rfl k)
    refine Go.st (T' := T6) (g' := (mkF m 66 #[.val (.int p1), .val (.int (0 : Int32)), .val (.ref w_EAST), .val (.int (0 : Int32)), .val (.int (0 : Int32)), .val (.int (0 : Int32))] [])) ?_ (fun _ k => XS.icmpNo X6.here hx rfl (hb hby at_63) rfl (by decide) k)
    refine Go.st (T' := T6) (g' := (mkF m 67 #[.val (.int p1), .val (.int (0 : Int32)), .val (.ref w_EAST), .val (.int (0 : Int32)), .val (.int (0 : Int32)), .val (.int (0 : Int32))] [(.int (1 : Int32))])) ?_ (fun _ k => XT.iconstV X6.here hx rfl (1 : Int32) (hb hby at_66) (by decide) k)
    refine Go.st (T' := T6) (g' := (mkF m 71 #[.val (.int p1), .val (.int (0 : Int32)), .val (.ref w_EAST), .val (.int (0 : Int32)), .val (.int (0 : Int32)), .val (.int (0 : Int32))] [(.int (1 : Int32))])) ?_ (fun _ k => XS.goto X6.here hx rfl (pc0 := 67) (pc' := 71) rfl (hb hby at_67) (by decide) (by decide) k)
    exact Go.retV (t := .boolean) X6 hx hret hlk (by decide) (by decide) rfl (Or.inl ⟨rfl, Or.inr (Or.inl rfl), _, rfl⟩) (hb hby at_71) ⟨rfl, M6⟩
  · rw [hk]
    refine Go.st (T' := s₁) (g' := (mkF m 5 #[.val (.int p1), .val (.int (1 : Int32)), .unset, .unset, .unset, .unset] [])) ?_ (fun _ k => XS.istoreN X0.here hx rfl (hb hby at_4) rfl (l' := #[.val (.int p1), .val (.int (1 : Int32)), .unset, .unset, .unset, .unset]) rfl k)
    refine Go.st (T' := s₁) (g' := (mkF m 6 #[.val (.int p1), .val (.int (1 : Int32)), .unset, .unset, .unset, .unset] [(.int (1 : Int32))])) ?_ (fun _ k => XS.iloadN X0.here hx rfl (hb hby at_5) rfl k)
    refine Go.callS X0 hx hZ hown (hw _ (List.mem_of_getElem? (i := 0) rfl)) (hw _ (List.mem_of_getElem? (i := 1) rfl)) (hw _ (List.mem_of_getElem? (i := 2) rfl)) (hw _ (List.mem_of_getElem? (i := 3) rfl)) (by decide) (rm1 l Z a0 hw [] (1 : Int32) w_EAST w_SOUTH w_SOUTH_WEST w_SOUTH_EAST w_WEST w_NORTH w_NORTH_EAST w_NORTH_WEST h0 n0 Z0 FF0 ) e0 (by decide) (W := 0) (by decide) (by decide) (by decide) (g := (mkF m 6 #[.val (.int p1), .val (.int (1 : Int32)), .unset, .unset, .unset, .unset] [(.int (1 : Int32))])) (rest := []) rfl (by rw [hml]; rfl) (lenOf pd__I_Lcom_example_amblesim_amblesim_model_Move_ rfl) rfl (by show 2 * 0 + _ ≤ _; exact Nat.le_of_eq rfl) (hb hby at_6) ?_
    rintro v7 T7 L7 X7 ⟨rfl, N7, e7⟩
    have M7 := Fr.app N0 N7
    rw [show own_pick (1 : Int32) w_EAST w_SOUTH w_SOUTH_WEST w_SOUTH_EAST w_WEST w_NORTH w_NORTH_EAST w_NORTH_WEST = w_NORTH from by rw [own_pick, if_neg (by decide : ¬ (1 : Int32) = (0 : Int32)), if_pos (rfl : (1 : Int32) = (1 : Int32))]]
    show Go p e below _ T7 (mkF m 9 #[.val (.int p1), .val (.int (1 : Int32)), .unset, .unset, .unset, .unset] [(.ref w_NORTH)])
    refine Go.st (T' := T7) (g' := (mkF m 10 #[.val (.int p1), .val (.int (1 : Int32)), .val (.ref w_NORTH), .unset, .unset, .unset] [])) ?_ (fun _ k => XS.astoreN X7.here hx rfl (hb hby at_9) rfl rfl (l' := #[.val (.int p1), .val (.int (1 : Int32)), .val (.ref w_NORTH), .unset, .unset, .unset]) rfl k)
    refine Go.st (T' := T7) (g' := (mkF m 11 #[.val (.int p1), .val (.int (1 : Int32)), .val (.ref w_NORTH), .unset, .unset, .unset] [(.int (1 : Int32))])) ?_ (fun _ k => XS.iloadN X7.here hx rfl (hb hby at_10) rfl k)
    refine Go.st (T' := T7) (g' := (mkF m 12 #[.val (.int p1), .val (.int (1 : Int32)), .val (.ref w_NORTH), .unset, .unset, .unset] [(.int (4 : Int32)), (.int (1 : Int32))])) ?_ (fun _ k => XT.iconstV X7.here hx rfl (4 : Int32) (hb hby at_11) (by decide) k)
    refine Go.st (T' := T7) (g' := (mkF m 19 #[.val (.int p1), .val (.int (1 : Int32)), .val (.ref w_NORTH), .unset, .unset, .unset] [])) ?_ (fun _ k => XS.icmpYes X7.here hx rfl (pc0 := 12) (pc' := 19) rfl (hb hby at_12) rfl (by decide) (by decide) (by decide) k)
    refine Go.st (T' := T7) (g' := (mkF m 20 #[.val (.int p1), .val (.int (1 : Int32)), .val (.ref w_NORTH), .unset, .unset, .unset] [(.int (0 : Int32))])) ?_ (fun _ k => XT.iconstV X7.here hx rfl (0 : Int32) (hb hby at_19) (by decide) k)
    refine Go.st (T' := T7) (g' := (mkF m 21 #[.val (.int p1), .val (.int (1 : Int32)), .val (.ref w_NORTH), .val (.int (0 : Int32)), .unset, .unset] [])) ?_ (fun _ k => XS.istoreN X7.here hx rfl (hb hby at_20) rfl (l' := #[.val (.int p1), .val (.int (1 : Int32)), .val (.ref w_NORTH), .val (.int (0 : Int32)), .unset, .unset]) rfl k)
    refine Go.st (T' := T7) (g' := (mkF m 22 #[.val (.int p1), .val (.int (1 : Int32)), .val (.ref w_NORTH), .val (.int (0 : Int32)), .unset, .unset] [(.ref w_NORTH)])) ?_ (fun _ k => XS.aloadN X7.here hx rfl (hb hby at_21) rfl rfl k)
    refine Go.callV X7 hx hZ hown (hw _ (List.mem_of_getElem? (i := 7) rfl)) (hw _ (List.mem_of_getElem? (i := 8) rfl)) (hw _ (List.mem_of_getElem? (i := 10) rfl)) (hw _ (List.mem_of_getElem? (i := 9) rfl)) (hw _ (List.mem_of_getElem? (i := 5) rfl)) (hw _ (List.mem_of_getElem? (i := 11) rfl)) (by decide) A_NORTH (rm2 l Z a0 hw [] w_NORTH (0 : Int32) (1 : Int32)  h0 n0 Z0  F_NORTH_columns F_NORTH_rows) e7 (by decide) (W := 0) (by decide) (by decide) (by decide) (g := (mkF m 22 #[.val (.int p1), .val (.int (1 : Int32)), .val (.ref w_NORTH), .val (.int (0 : Int32)), .unset, .unset] [(.ref w_NORTH)])) (rest := []) rfl (by rw [hml]; rfl) (lenOf pd___Z rfl) rfl (by show 2 * 0 + _ ≤ _; exact Nat.le_of_eq rfl) (hb hby at_22) ?_
    rintro v8 T8 L8 X8 ⟨rfl, N8, e8⟩
    have M8 := Fr.app M7 N8
    rw [show own_diag w_NORTH (0 : Int32) (1 : Int32)  = (0 : Int32) from by rw [own_diag, if_pos (rfl : (0 : Int32) = (0 : Int32))]]
    show Go p e below _ T8 (mkF m 25 #[.val (.int p1), .val (.int (1 : Int32)), .val (.ref w_NORTH), .val (.int (0 : Int32)), .unset, .unset] [(.int (0 : Int32))])
    refine Go.st (T' := T8) (g' := (mkF m 27 #[.val (.int p1), .val (.int (1 : Int32)), .val (.ref w_NORTH), .val (.int (0 : Int32)), .val (.int (0 : Int32)), .unset] [])) ?_ (fun _ k => XS.istore X8.here hx rfl (hb hby at_25) rfl (l' := #[.val (.int p1), .val (.int (1 : Int32)), .val (.ref w_NORTH), .val (.int (0 : Int32)), .val (.int (0 : Int32)), .unset]) rfl k)
    refine Go.st (T' := T8) (g' := (mkF m 28 #[.val (.int p1), .val (.int (1 : Int32)), .val (.ref w_NORTH), .val (.int (0 : Int32)), .val (.int (0 : Int32)), .unset] [(.ref w_NORTH)])) ?_ (fun _ k => XS.aloadN X8.here hx rfl (hb hby at_27) rfl rfl k)
    refine Go.callV X8 hx hZ hown (hw _ (List.mem_of_getElem? (i := 16) rfl)) (hw _ (List.mem_of_getElem? (i := 17) rfl)) (hw _ (List.mem_of_getElem? (i := 19) rfl)) (hw _ (List.mem_of_getElem? (i := 18) rfl)) (hw _ (List.mem_of_getElem? (i := 5) rfl)) (hw _ (List.mem_of_getElem? (i := 20) rfl)) (by decide) A_NORTH (rm3 l Z a0 hw [] w_NORTH (0 : Int32)  h0 n0 Z0  F_NORTH_columns) e8 (by decide) (W := 0) (by decide) (by decide) (by decide) (g := (mkF m 28 #[.val (.int p1), .val (.int (1 : Int32)), .val (.ref w_NORTH), .val (.int (0 : Int32)), .val (.int (0 : Int32)), .unset] [(.ref w_NORTH)])) (rest := []) rfl (by rw [hml]; rfl) (lenOf pd___I rfl) rfl (by show 2 * 0 + _ ≤ _; exact Nat.le_of_eq rfl) (hb hby at_28) ?_
    rintro v9 T9 L9 X9 ⟨rfl, N9, e9⟩
    have M9 := Fr.app M8 N9
    rw [show own_cols w_NORTH (0 : Int32)  = (0 : Int32) from by rw [own_cols]]
    show Go p e below _ T9 (mkF m 31 #[.val (.int p1), .val (.int (1 : Int32)), .val (.ref w_NORTH), .val (.int (0 : Int32)), .val (.int (0 : Int32)), .unset] [(.int (0 : Int32))])
    refine Go.callS X9 hx hZ hown (hw _ (List.mem_of_getElem? (i := 21) rfl)) (hw _ (List.mem_of_getElem? (i := 22) rfl)) (hw _ (List.mem_of_getElem? (i := 23) rfl)) (hw _ (List.mem_of_getElem? (i := 24) rfl)) (by decide) (rm5 l Z a0 hw [] (0 : Int32)  h0 n0 Z0 ) e9 (by decide) (W := 0) (by decide) (by decide) (by decide) (g := (mkF m 31 #[.val (.int p1), .val (.int (1 : Int32)), .val (.ref w_NORTH), .val (.int (0 : Int32)), .val (.int (0 : Int32)), .unset] [(.int (0 : Int32))])) (rest := []) rfl (by rw [hml]; rfl) (lenOf pd__I_I rfl) rfl (by show 2 * 0 + _ ≤ _; exact Nat.le_of_eq rfl) (hb hby at_31) ?_
    rintro v10 T10 L10 X10 ⟨rfl, N10, e10⟩
    have M10 := Fr.app M9 N10
    rw [show own_abs (0 : Int32)  = (0 : Int32) from by decide]
    show Go p e below _ T10 (mkF m 34 #[.val (.int p1), .val (.int (1 : Int32)), .val (.ref w_NORTH), .val (.int (0 : Int32)), .val (.int (0 : Int32)), .unset] [(.int (0 : Int32))])
    refine Go.st (T' := T10) (g' := (mkF m 35 #[.val (.int p1), .val (.int (1 : Int32)), .val (.ref w_NORTH), .val (.int (0 : Int32)), .val (.int (0 : Int32)), .unset] [(.ref w_NORTH), (.int (0 : Int32))])) ?_ (fun _ k => XS.aloadN X10.here hx rfl (hb hby at_34) rfl rfl k)
    refine Go.callV X10 hx hZ hown (hw _ (List.mem_of_getElem? (i := 25) rfl)) (hw _ (List.mem_of_getElem? (i := 26) rfl)) (hw _ (List.mem_of_getElem? (i := 28) rfl)) (hw _ (List.mem_of_getElem? (i := 27) rfl)) (hw _ (List.mem_of_getElem? (i := 5) rfl)) (hw _ (List.mem_of_getElem? (i := 29) rfl)) (by decide) A_NORTH (rm4 l Z a0 hw [] w_NORTH (1 : Int32)  h0 n0 Z0  F_NORTH_rows) e10 (by decide) (W := 1) (by decide) (by decide) (by decide) (g := (mkF m 35 #[.val (.int p1), .val (.int (1 : Int32)), .val (.ref w_NORTH), .val (.int (0 : Int32)), .val (.int (0 : Int32)), .unset] [(.ref w_NORTH), (.int (0 : Int32))])) (rest := [(.int (0 : Int32))]) rfl (by rw [hml]; rfl) (lenOf pd___I rfl) rfl (by show 2 * 0 + _ ≤ _; exact Nat.le_of_eq rfl) (hb hby at_35) ?_
    rintro v11 T11 L11 X11 ⟨rfl, N11, e11⟩
    have M11 := Fr.app M10 N11
    rw [show own_rows w_NORTH (1 : Int32)  = (1 : Int32) from by rw [own_rows]]
    show Go p e below _ T11 (mkF m 38 #[.val (.int p1), .val (.int (1 : Int32)), .val (.ref w_NORTH), .val (.int (0 : Int32)), .val (.int (0 : Int32)), .unset] [(.int (1 : Int32)), (.int (0 : Int32))])
    refine Go.callS X11 hx hZ hown (hw _ (List.mem_of_getElem? (i := 21) rfl)) (hw _ (List.mem_of_getElem? (i := 22) rfl)) (hw _ (List.mem_of_getElem? (i := 23) rfl)) (hw _ (List.mem_of_getElem? (i := 24) rfl)) (by decide) (rm5 l Z a0 hw [] (1 : Int32)  h0 n0 Z0 ) e11 (by decide) (W := 1) (by decide) (by decide) (by decide) (g := (mkF m 38 #[.val (.int p1), .val (.int (1 : Int32)), .val (.ref w_NORTH), .val (.int (0 : Int32)), .val (.int (0 : Int32)), .unset] [(.int (1 : Int32)), (.int (0 : Int32))])) (rest := [(.int (0 : Int32))]) rfl (by rw [hml]; rfl) (lenOf pd__I_I rfl) rfl (by show 2 * 0 + _ ≤ _; exact Nat.le_of_eq rfl) (hb hby at_38) ?_
    rintro v12 T12 L12 X12 ⟨rfl, N12, e12⟩
    have M12 := Fr.app M11 N12
    rw [show own_abs (1 : Int32)  = (1 : Int32) from by decide]
    show Go p e below _ T12 (mkF m 41 #[.val (.int p1), .val (.int (1 : Int32)), .val (.ref w_NORTH), .val (.int (0 : Int32)), .val (.int (0 : Int32)), .unset] [(.int (1 : Int32)), (.int (0 : Int32))])
    refine Go.st (T' := T12) (g' := (mkF m 42 #[.val (.int p1), .val (.int (1 : Int32)), .val (.ref w_NORTH), .val (.int (0 : Int32)), .val (.int (0 : Int32)), .unset] [(.int (1 : Int32))])) ?_ (fun _ k => XS.iadd X12.here hx rfl (hb hby at_41) rfl k)
    refine Go.st (T' := T12) (g' := (mkF m 43 #[.val (.int p1), .val (.int (1 : Int32)), .val (.ref w_NORTH), .val (.int (0 : Int32)), .val (.int (0 : Int32)), .unset] [(.int (2 : Int32)), (.int (1 : Int32))])) ?_ (fun _ k => XT.iconstV X12.here hx rfl (2 : Int32) (hb hby at_42) (by decide) k)
    refine Go.st (T' := T12) (g' := (mkF m 50 #[.val (.int p1), .val (.int (1 : Int32)), .val (.ref w_NORTH), .val (.int (0 : Int32)), .val (.int (0 : Int32)), .unset] [])) ?_ (fun _ k => XS.icmpYes X12.here hx rfl (pc0 := 43) (pc' := 50) rfl (hb hby at_43) rfl (by decide) (by decide) (by decide) k)
    refine Go.st (T' := T12) (g' := (mkF m 51 #[.val (.int p1), .val (.int (1 : Int32)), .val (.ref w_NORTH), .val (.int (0 : Int32)), .val (.int (0 : Int32)), .unset] [(.int (0 : Int32))])) ?_ (fun _ k => XT.iconstV X12.here hx rfl (0 : Int32) (hb hby at_50) (by decide) k)
    refine Go.st (T' := T12) (g' := (mkF m 53 #[.val (.int p1), .val (.int (1 : Int32)), .val (.ref w_NORTH), .val (.int (0 : Int32)), .val (.int (0 : Int32)), .val (.int (0 : Int32))] [])) ?_ (fun _ k => XS.istore X12.here hx rfl (hb hby at_51) rfl (l' := #[.val (.int p1), .val (.int (1 : Int32)), .val (.ref w_NORTH), .val (.int (0 : Int32)), .val (.int (0 : Int32)), .val (.int (0 : Int32))]) rfl k)
    refine Go.st (T' := T12) (g' := (mkF m 55 #[.val (.int p1), .val (.int (1 : Int32)), .val (.ref w_NORTH), .val (.int (0 : Int32)), .val (.int (0 : Int32)), .val (.int (0 : Int32))] [(.int (0 : Int32))])) ?_ (fun _ k => XS.iload X12.here hx rfl (hb hby at_53) rfl k)
    refine Go.st (T' := T12) (g' := (mkF m 56 #[.val (.int p1), .val (.int (1 : Int32)), .val (.ref w_NORTH), .val (.int (0 : Int32)), .val (.int (0 : Int32)), .val (.int (0 : Int32))] [(.int (0 : Int32)), (.int (0 : Int32))])) ?_ (fun _ k => XS.iloadN X12.here hx rfl (hb hby at_55) rfl k)
    refine Go.st (T' := T12) (g' := (mkF m 59 #[.val (.int p1), .val (.int (1 : Int32)), .val (.ref w_NORTH), .val (.int (0 : Int32)), .val (.int (0 : Int32)), .val (.int (0 : Int32))] [])) ?_ (fun _ k => XS.icmpNo X12.here hx rfl (hb hby at_56) rfl (by decide) k)
    refine Go.st (T' := T12) (g' := (mkF m 61 #[.val (.int p1), .val (.int (1 : Int32)), .val (.ref w_NORTH), .val (.int (0 : Int32)), .val (.int (0 : Int32)), .val (.int (0 : Int32))] [(.int (0 : Int32))])) ?_ (fun _ k => XS.iload X12.here hx rfl (hb hby at_59) rfl k)
    refine Go.st (T' := T12) (g' := (mkF m 63 #[.val (.int p1), .val (.int (1 : Int32)), .val (.ref w_NORTH), .val (.int (0 : Int32)), .val (.int (0 : Int32)), .val (.int (0 : Int32))] [(.int (0 : Int32)), (.int (0 : Int32))])) ?_ (fun _ k => XS.iload X12.here hx rfl (hb hby at_61) rfl k)
    refine Go.st (T' := T12) (g' := (mkF m 66 #[.val (.int p1), .val (.int (1 : Int32)), .val (.ref w_NORTH), .val (.int (0 : Int32)), .val (.int (0 : Int32)), .val (.int (0 : Int32))] [])) ?_ (fun _ k => XS.icmpNo X12.here hx rfl (hb hby at_63) rfl (by decide) k)
    refine Go.st (T' := T12) (g' := (mkF m 67 #[.val (.int p1), .val (.int (1 : Int32)), .val (.ref w_NORTH), .val (.int (0 : Int32)), .val (.int (0 : Int32)), .val (.int (0 : Int32))] [(.int (1 : Int32))])) ?_ (fun _ k => XT.iconstV X12.here hx rfl (1 : Int32) (hb hby at_66) (by decide) k)
    refine Go.st (T' := T12) (g' := (mkF m 71 #[.val (.int p1), .val (.int (1 : Int32)), .val (.ref w_NORTH), .val (.int (0 : Int32)), .val (.int (0 : Int32)), .val (.int (0 : Int32))] [(.int (1 : Int32))])) ?_ (fun _ k => XS.goto X12.here hx rfl (pc0 := 67) (pc' := 71) rfl (hb hby at_67) (by decide) (by decide) k)
    exact Go.retV (t := .boolean) X12 hx hret hlk (by decide) (by decide) rfl (Or.inl ⟨rfl, Or.inr (Or.inl rfl), _, rfl⟩) (hb hby at_71) ⟨rfl, M12⟩
  · rw [hk]
    refine Go.st (T' := s₁) (g' := (mkF m 5 #[.val (.int p1), .val (.int (2 : Int32)), .unset, .unset, .unset, .unset] [])) ?_ (fun _ k => XS.istoreN X0.here hx rfl (hb hby at_4) rfl (l' := #[.val (.int p1), .val (.int (2 : Int32)), .unset, .unset, .unset, .unset]) rfl k)
    refine Go.st (T' := s₁) (g' := (mkF m 6 #[.val (.int p1), .val (.int (2 : Int32)), .unset, .unset, .unset, .unset] [(.int (2 : Int32))])) ?_ (fun _ k => XS.iloadN X0.here hx rfl (hb hby at_5) rfl k)
    refine Go.callS X0 hx hZ hown (hw _ (List.mem_of_getElem? (i := 0) rfl)) (hw _ (List.mem_of_getElem? (i := 1) rfl)) (hw _ (List.mem_of_getElem? (i := 2) rfl)) (hw _ (List.mem_of_getElem? (i := 3) rfl)) (by decide) (rm1 l Z a0 hw [] (2 : Int32) w_EAST w_SOUTH w_SOUTH_WEST w_SOUTH_EAST w_WEST w_NORTH w_NORTH_EAST w_NORTH_WEST h0 n0 Z0 FF0 ) e0 (by decide) (W := 0) (by decide) (by decide) (by decide) (g := (mkF m 6 #[.val (.int p1), .val (.int (2 : Int32)), .unset, .unset, .unset, .unset] [(.int (2 : Int32))])) (rest := []) rfl (by rw [hml]; rfl) (lenOf pd__I_Lcom_example_amblesim_amblesim_model_Move_ rfl) rfl (by show 2 * 0 + _ ≤ _; exact Nat.le_of_eq rfl) (hb hby at_6) ?_
    rintro v13 T13 L13 X13 ⟨rfl, N13, e13⟩
    have M13 := Fr.app N0 N13
    rw [show own_pick (2 : Int32) w_EAST w_SOUTH w_SOUTH_WEST w_SOUTH_EAST w_WEST w_NORTH w_NORTH_EAST w_NORTH_WEST = w_WEST from by rw [own_pick, if_neg (by decide : ¬ (2 : Int32) = (0 : Int32)), if_neg (by decide : ¬ (2 : Int32) = (1 : Int32)), if_pos (rfl : (2 : Int32) = (2 : Int32))]]
    show Go p e below _ T13 (mkF m 9 #[.val (.int p1), .val (.int (2 : Int32)), .unset, .unset, .unset, .unset] [(.ref w_WEST)])
    refine Go.st (T' := T13) (g' := (mkF m 10 #[.val (.int p1), .val (.int (2 : Int32)), .val (.ref w_WEST), .unset, .unset, .unset] [])) ?_ (fun _ k => XS.astoreN X13.here hx rfl (hb hby at_9) rfl rfl (l' := #[.val (.int p1), .val (.int (2 : Int32)), .val (.ref w_WEST), .unset, .unset, .unset]) rfl k)
    refine Go.st (T' := T13) (g' := (mkF m 11 #[.val (.int p1), .val (.int (2 : Int32)), .val (.ref w_WEST), .unset, .unset, .unset] [(.int (2 : Int32))])) ?_ (fun _ k => XS.iloadN X13.here hx rfl (hb hby at_10) rfl k)
    refine Go.st (T' := T13) (g' := (mkF m 12 #[.val (.int p1), .val (.int (2 : Int32)), .val (.ref w_WEST), .unset, .unset, .unset] [(.int (4 : Int32)), (.int (2 : Int32))])) ?_ (fun _ k => XT.iconstV X13.here hx rfl (4 : Int32) (hb hby at_11) (by decide) k)
    refine Go.st (T' := T13) (g' := (mkF m 19 #[.val (.int p1), .val (.int (2 : Int32)), .val (.ref w_WEST), .unset, .unset, .unset] [])) ?_ (fun _ k => XS.icmpYes X13.here hx rfl (pc0 := 12) (pc' := 19) rfl (hb hby at_12) rfl (by decide) (by decide) (by decide) k)
    refine Go.st (T' := T13) (g' := (mkF m 20 #[.val (.int p1), .val (.int (2 : Int32)), .val (.ref w_WEST), .unset, .unset, .unset] [(.int (0 : Int32))])) ?_ (fun _ k => XT.iconstV X13.here hx rfl (0 : Int32) (hb hby at_19) (by decide) k)
    refine Go.st (T' := T13) (g' := (mkF m 21 #[.val (.int p1), .val (.int (2 : Int32)), .val (.ref w_WEST), .val (.int (0 : Int32)), .unset, .unset] [])) ?_ (fun _ k => XS.istoreN X13.here hx rfl (hb hby at_20) rfl (l' := #[.val (.int p1), .val (.int (2 : Int32)), .val (.ref w_WEST), .val (.int (0 : Int32)), .unset, .unset]) rfl k)
    refine Go.st (T' := T13) (g' := (mkF m 22 #[.val (.int p1), .val (.int (2 : Int32)), .val (.ref w_WEST), .val (.int (0 : Int32)), .unset, .unset] [(.ref w_WEST)])) ?_ (fun _ k => XS.aloadN X13.here hx rfl (hb hby at_21) rfl rfl k)
    refine Go.callV X13 hx hZ hown (hw _ (List.mem_of_getElem? (i := 7) rfl)) (hw _ (List.mem_of_getElem? (i := 8) rfl)) (hw _ (List.mem_of_getElem? (i := 10) rfl)) (hw _ (List.mem_of_getElem? (i := 9) rfl)) (hw _ (List.mem_of_getElem? (i := 5) rfl)) (hw _ (List.mem_of_getElem? (i := 11) rfl)) (by decide) A_WEST (rm2 l Z a0 hw [] w_WEST (-1 : Int32) (0 : Int32)  h0 n0 Z0  F_WEST_columns F_WEST_rows) e13 (by decide) (W := 0) (by decide) (by decide) (by decide) (g := (mkF m 22 #[.val (.int p1), .val (.int (2 : Int32)), .val (.ref w_WEST), .val (.int (0 : Int32)), .unset, .unset] [(.ref w_WEST)])) (rest := []) rfl (by rw [hml]; rfl) (lenOf pd___Z rfl) rfl (by show 2 * 0 + _ ≤ _; exact Nat.le_of_eq rfl) (hb hby at_22) ?_
    rintro v14 T14 L14 X14 ⟨rfl, N14, e14⟩
    have M14 := Fr.app M13 N14
    rw [show own_diag w_WEST (-1 : Int32) (0 : Int32)  = (0 : Int32) from by rw [own_diag, if_neg (by decide : ¬ (-1 : Int32) = (0 : Int32)), if_pos (rfl : (0 : Int32) = (0 : Int32))]]
    show Go p e below _ T14 (mkF m 25 #[.val (.int p1), .val (.int (2 : Int32)), .val (.ref w_WEST), .val (.int (0 : Int32)), .unset, .unset] [(.int (0 : Int32))])
    refine Go.st (T' := T14) (g' := (mkF m 27 #[.val (.int p1), .val (.int (2 : Int32)), .val (.ref w_WEST), .val (.int (0 : Int32)), .val (.int (0 : Int32)), .unset] [])) ?_ (fun _ k => XS.istore X14.here hx rfl (hb hby at_25) rfl (l' := #[.val (.int p1), .val (.int (2 : Int32)), .val (.ref w_WEST), .val (.int (0 : Int32)), .val (.int (0 : Int32)), .unset]) rfl k)
    refine Go.st (T' := T14) (g' := (mkF m 28 #[.val (.int p1), .val (.int (2 : Int32)), .val (.ref w_WEST), .val (.int (0 : Int32)), .val (.int (0 : Int32)), .unset] [(.ref w_WEST)])) ?_ (fun _ k => XS.aloadN X14.here hx rfl (hb hby at_27) rfl rfl k)
    refine Go.callV X14 hx hZ hown (hw _ (List.mem_of_getElem? (i := 16) rfl)) (hw _ (List.mem_of_getElem? (i := 17) rfl)) (hw _ (List.mem_of_getElem? (i := 19) rfl)) (hw _ (List.mem_of_getElem? (i := 18) rfl)) (hw _ (List.mem_of_getElem? (i := 5) rfl)) (hw _ (List.mem_of_getElem? (i := 20) rfl)) (by decide) A_WEST (rm3 l Z a0 hw [] w_WEST (-1 : Int32)  h0 n0 Z0  F_WEST_columns) e14 (by decide) (W := 0) (by decide) (by decide) (by decide) (g := (mkF m 28 #[.val (.int p1), .val (.int (2 : Int32)), .val (.ref w_WEST), .val (.int (0 : Int32)), .val (.int (0 : Int32)), .unset] [(.ref w_WEST)])) (rest := []) rfl (by rw [hml]; rfl) (lenOf pd___I rfl) rfl (by show 2 * 0 + _ ≤ _; exact Nat.le_of_eq rfl) (hb hby at_28) ?_
    rintro v15 T15 L15 X15 ⟨rfl, N15, e15⟩
    have M15 := Fr.app M14 N15
    rw [show own_cols w_WEST (-1 : Int32)  = (-1 : Int32) from by rw [own_cols]]
    show Go p e below _ T15 (mkF m 31 #[.val (.int p1), .val (.int (2 : Int32)), .val (.ref w_WEST), .val (.int (0 : Int32)), .val (.int (0 : Int32)), .unset] [(.int (-1 : Int32))])
    refine Go.callS X15 hx hZ hown (hw _ (List.mem_of_getElem? (i := 21) rfl)) (hw _ (List.mem_of_getElem? (i := 22) rfl)) (hw _ (List.mem_of_getElem? (i := 23) rfl)) (hw _ (List.mem_of_getElem? (i := 24) rfl)) (by decide) (rm5 l Z a0 hw [] (-1 : Int32)  h0 n0 Z0 ) e15 (by decide) (W := 0) (by decide) (by decide) (by decide) (g := (mkF m 31 #[.val (.int p1), .val (.int (2 : Int32)), .val (.ref w_WEST), .val (.int (0 : Int32)), .val (.int (0 : Int32)), .unset] [(.int (-1 : Int32))])) (rest := []) rfl (by rw [hml]; rfl) (lenOf pd__I_I rfl) rfl (by show 2 * 0 + _ ≤ _; exact Nat.le_of_eq rfl) (hb hby at_31) ?_
    rintro v16 T16 L16 X16 ⟨rfl, N16, e16⟩
    have M16 := Fr.app M15 N16
    rw [show own_abs (-1 : Int32)  = (1 : Int32) from by decide]
    show Go p e below _ T16 (mkF m 34 #[.val (.int p1), .val (.int (2 : Int32)), .val (.ref w_WEST), .val (.int (0 : Int32)), .val (.int (0 : Int32)), .unset] [(.int (1 : Int32))])
    refine Go.st (T' := T16) (g' := (mkF m 35 #[.val (.int p1), .val (.int (2 : Int32)), .val (.ref w_WEST), .val (.int (0 : Int32)), .val (.int (0 : Int32)), .unset] [(.ref w_WEST), (.int (1 : Int32))])) ?_ (fun _ k => XS.aloadN X16.here hx rfl (hb hby at_34) rfl rfl k)
    refine Go.callV X16 hx hZ hown (hw _ (List.mem_of_getElem? (i := 25) rfl)) (hw _ (List.mem_of_getElem? (i := 26) rfl)) (hw _ (List.mem_of_getElem? (i := 28) rfl)) (hw _ (List.mem_of_getElem? (i := 27) rfl)) (hw _ (List.mem_of_getElem? (i := 5) rfl)) (hw _ (List.mem_of_getElem? (i := 29) rfl)) (by decide) A_WEST (rm4 l Z a0 hw [] w_WEST (0 : Int32)  h0 n0 Z0  F_WEST_rows) e16 (by decide) (W := 1) (by decide) (by decide) (by decide) (g := (mkF m 35 #[.val (.int p1), .val (.int (2 : Int32)), .val (.ref w_WEST), .val (.int (0 : Int32)), .val (.int (0 : Int32)), .unset] [(.ref w_WEST), (.int (1 : Int32))])) (rest := [(.int (1 : Int32))]) rfl (by rw [hml]; rfl) (lenOf pd___I rfl) rfl (by show 2 * 0 + _ ≤ _; exact Nat.le_of_eq rfl) (hb hby at_35) ?_
    rintro v17 T17 L17 X17 ⟨rfl, N17, e17⟩
    have M17 := Fr.app M16 N17
    rw [show own_rows w_WEST (0 : Int32)  = (0 : Int32) from by rw [own_rows]]
    show Go p e below _ T17 (mkF m 38 #[.val (.int p1), .val (.int (2 : Int32)), .val (.ref w_WEST), .val (.int (0 : Int32)), .val (.int (0 : Int32)), .unset] [(.int (0 : Int32)), (.int (1 : Int32))])
    refine Go.callS X17 hx hZ hown (hw _ (List.mem_of_getElem? (i := 21) rfl)) (hw _ (List.mem_of_getElem? (i := 22) rfl)) (hw _ (List.mem_of_getElem? (i := 23) rfl)) (hw _ (List.mem_of_getElem? (i := 24) rfl)) (by decide) (rm5 l Z a0 hw [] (0 : Int32)  h0 n0 Z0 ) e17 (by decide) (W := 1) (by decide) (by decide) (by decide) (g := (mkF m 38 #[.val (.int p1), .val (.int (2 : Int32)), .val (.ref w_WEST), .val (.int (0 : Int32)), .val (.int (0 : Int32)), .unset] [(.int (0 : Int32)), (.int (1 : Int32))])) (rest := [(.int (1 : Int32))]) rfl (by rw [hml]; rfl) (lenOf pd__I_I rfl) rfl (by show 2 * 0 + _ ≤ _; exact Nat.le_of_eq rfl) (hb hby at_38) ?_
    rintro v18 T18 L18 X18 ⟨rfl, N18, e18⟩
    have M18 := Fr.app M17 N18
    rw [show own_abs (0 : Int32)  = (0 : Int32) from by decide]
    show Go p e below _ T18 (mkF m 41 #[.val (.int p1), .val (.int (2 : Int32)), .val (.ref w_WEST), .val (.int (0 : Int32)), .val (.int (0 : Int32)), .unset] [(.int (0 : Int32)), (.int (1 : Int32))])
    refine Go.st (T' := T18) (g' := (mkF m 42 #[.val (.int p1), .val (.int (2 : Int32)), .val (.ref w_WEST), .val (.int (0 : Int32)), .val (.int (0 : Int32)), .unset] [(.int (1 : Int32))])) ?_ (fun _ k => XS.iadd X18.here hx rfl (hb hby at_41) rfl k)
    refine Go.st (T' := T18) (g' := (mkF m 43 #[.val (.int p1), .val (.int (2 : Int32)), .val (.ref w_WEST), .val (.int (0 : Int32)), .val (.int (0 : Int32)), .unset] [(.int (2 : Int32)), (.int (1 : Int32))])) ?_ (fun _ k => XT.iconstV X18.here hx rfl (2 : Int32) (hb hby at_42) (by decide) k)
    refine Go.st (T' := T18) (g' := (mkF m 50 #[.val (.int p1), .val (.int (2 : Int32)), .val (.ref w_WEST), .val (.int (0 : Int32)), .val (.int (0 : Int32)), .unset] [])) ?_ (fun _ k => XS.icmpYes X18.here hx rfl (pc0 := 43) (pc' := 50) rfl (hb hby at_43) rfl (by decide) (by decide) (by decide) k)
    refine Go.st (T' := T18) (g' := (mkF m 51 #[.val (.int p1), .val (.int (2 : Int32)), .val (.ref w_WEST), .val (.int (0 : Int32)), .val (.int (0 : Int32)), .unset] [(.int (0 : Int32))])) ?_ (fun _ k => XT.iconstV X18.here hx rfl (0 : Int32) (hb hby at_50) (by decide) k)
    refine Go.st (T' := T18) (g' := (mkF m 53 #[.val (.int p1), .val (.int (2 : Int32)), .val (.ref w_WEST), .val (.int (0 : Int32)), .val (.int (0 : Int32)), .val (.int (0 : Int32))] [])) ?_ (fun _ k => XS.istore X18.here hx rfl (hb hby at_51) rfl (l' := #[.val (.int p1), .val (.int (2 : Int32)), .val (.ref w_WEST), .val (.int (0 : Int32)), .val (.int (0 : Int32)), .val (.int (0 : Int32))]) rfl k)
    refine Go.st (T' := T18) (g' := (mkF m 55 #[.val (.int p1), .val (.int (2 : Int32)), .val (.ref w_WEST), .val (.int (0 : Int32)), .val (.int (0 : Int32)), .val (.int (0 : Int32))] [(.int (0 : Int32))])) ?_ (fun _ k => XS.iload X18.here hx rfl (hb hby at_53) rfl k)
    refine Go.st (T' := T18) (g' := (mkF m 56 #[.val (.int p1), .val (.int (2 : Int32)), .val (.ref w_WEST), .val (.int (0 : Int32)), .val (.int (0 : Int32)), .val (.int (0 : Int32))] [(.int (0 : Int32)), (.int (0 : Int32))])) ?_ (fun _ k => XS.iloadN X18.here hx rfl (hb hby at_55) rfl k)
    refine Go.st (T' := T18) (g' := (mkF m 59 #[.val (.int p1), .val (.int (2 : Int32)), .val (.ref w_WEST), .val (.int (0 : Int32)), .val (.int (0 : Int32)), .val (.int (0 : Int32))] [])) ?_ (fun _ k => XS.icmpNo X18.here hx rfl (hb hby at_56) rfl (by decide) k)
    refine Go.st (T' := T18) (g' := (mkF m 61 #[.val (.int p1), .val (.int (2 : Int32)), .val (.ref w_WEST), .val (.int (0 : Int32)), .val (.int (0 : Int32)), .val (.int (0 : Int32))] [(.int (0 : Int32))])) ?_ (fun _ k => XS.iload X18.here hx rfl (hb hby at_59) rfl k)
    refine Go.st (T' := T18) (g' := (mkF m 63 #[.val (.int p1), .val (.int (2 : Int32)), .val (.ref w_WEST), .val (.int (0 : Int32)), .val (.int (0 : Int32)), .val (.int (0 : Int32))] [(.int (0 : Int32)), (.int (0 : Int32))])) ?_ (fun _ k => XS.iload X18.here hx rfl (hb hby at_61) rfl k)
    refine Go.st (T' := T18) (g' := (mkF m 66 #[.val (.int p1), .val (.int (2 : Int32)), .val (.ref w_WEST), .val (.int (0 : Int32)), .val (.int (0 : Int32)), .val (.int (0 : Int32))] [])) ?_ (fun _ k => XS.icmpNo X18.here hx rfl (hb hby at_63) rfl (by decide) k)
    refine Go.st (T' := T18) (g' := (mkF m 67 #[.val (.int p1), .val (.int (2 : Int32)), .val (.ref w_WEST), .val (.int (0 : Int32)), .val (.int (0 : Int32)), .val (.int (0 : Int32))] [(.int (1 : Int32))])) ?_ (fun _ k => XT.iconstV X18.here hx rfl (1 : Int32) (hb hby at_66) (by decide) k)
    refine Go.st (T' := T18) (g' := (mkF m 71 #[.val (.int p1), .val (.int (2 : Int32)), .val (.ref w_WEST), .val (.int (0 : Int32)), .val (.int (0 : Int32)), .val (.int (0 : Int32))] [(.int (1 : Int32))])) ?_ (fun _ k => XS.goto X18.here hx rfl (pc0 := 67) (pc' := 71) rfl (hb hby at_67) (by decide) (by decide) k)
    exact Go.retV (t := .boolean) X18 hx hret hlk (by decide) (by decide) rfl (Or.inl ⟨rfl, Or.inr (Or.inl rfl), _, rfl⟩) (hb hby at_71) ⟨rfl, M18⟩
  · rw [hk]
    refine Go.st (T' := s₁) (g' := (mkF m 5 #[.val (.int p1), .val (.int (3 : Int32)), .unset, .unset, .unset, .unset] [])) ?_ (fun _ k => XS.istoreN X0.here hx rfl (hb hby at_4) rfl (l' := #[.val (.int p1), .val (.int (3 : Int32)), .unset, .unset, .unset, .unset]) rfl k)
    refine Go.st (T' := s₁) (g' := (mkF m 6 #[.val (.int p1), .val (.int (3 : Int32)), .unset, .unset, .unset, .unset] [(.int (3 : Int32))])) ?_ (fun _ k => XS.iloadN X0.here hx rfl (hb hby at_5) rfl k)
    refine Go.callS X0 hx hZ hown (hw _ (List.mem_of_getElem? (i := 0) rfl)) (hw _ (List.mem_of_getElem? (i := 1) rfl)) (hw _ (List.mem_of_getElem? (i := 2) rfl)) (hw _ (List.mem_of_getElem? (i := 3) rfl)) (by decide) (rm1 l Z a0 hw [] (3 : Int32) w_EAST w_SOUTH w_SOUTH_WEST w_SOUTH_EAST w_WEST w_NORTH w_NORTH_EAST w_NORTH_WEST h0 n0 Z0 FF0 ) e0 (by decide) (W := 0) (by decide) (by decide) (by decide) (g := (mkF m 6 #[.val (.int p1), .val (.int (3 : Int32)), .unset, .unset, .unset, .unset] [(.int (3 : Int32))])) (rest := []) rfl (by rw [hml]; rfl) (lenOf pd__I_Lcom_example_amblesim_amblesim_model_Move_ rfl) rfl (by show 2 * 0 + _ ≤ _; exact Nat.le_of_eq rfl) (hb hby at_6) ?_
    rintro v19 T19 L19 X19 ⟨rfl, N19, e19⟩
    have M19 := Fr.app N0 N19
    rw [show own_pick (3 : Int32) w_EAST w_SOUTH w_SOUTH_WEST w_SOUTH_EAST w_WEST w_NORTH w_NORTH_EAST w_NORTH_WEST = w_SOUTH from by rw [own_pick, if_neg (by decide : ¬ (3 : Int32) = (0 : Int32)), if_neg (by decide : ¬ (3 : Int32) = (1 : Int32)), if_neg (by decide : ¬ (3 : Int32) = (2 : Int32)), if_pos (rfl : (3 : Int32) = (3 : Int32))]]
    show Go p e below _ T19 (mkF m 9 #[.val (.int p1), .val (.int (3 : Int32)), .unset, .unset, .unset, .unset] [(.ref w_SOUTH)])
    refine Go.st (T' := T19) (g' := (mkF m 10 #[.val (.int p1), .val (.int (3 : Int32)), .val (.ref w_SOUTH), .unset, .unset, .unset] [])) ?_ (fun _ k => XS.astoreN X19.here hx rfl (hb hby at_9) rfl rfl (l' := #[.val (.int p1), .val (.int (3 : Int32)), .val (.ref w_SOUTH), .unset, .unset, .unset]) rfl k)
    refine Go.st (T' := T19) (g' := (mkF m 11 #[.val (.int p1), .val (.int (3 : Int32)), .val (.ref w_SOUTH), .unset, .unset, .unset] [(.int (3 : Int32))])) ?_ (fun _ k => XS.iloadN X19.here hx rfl (hb hby at_10) rfl k)
    refine Go.st (T' := T19) (g' := (mkF m 12 #[.val (.int p1), .val (.int (3 : Int32)), .val (.ref w_SOUTH), .unset, .unset, .unset] [(.int (4 : Int32)), (.int (3 : Int32))])) ?_ (fun _ k => XT.iconstV X19.here hx rfl (4 : Int32) (hb hby at_11) (by decide) k)
    refine Go.st (T' := T19) (g' := (mkF m 19 #[.val (.int p1), .val (.int (3 : Int32)), .val (.ref w_SOUTH), .unset, .unset, .unset] [])) ?_ (fun _ k => XS.icmpYes X19.here hx rfl (pc0 := 12) (pc' := 19) rfl (hb hby at_12) rfl (by decide) (by decide) (by decide) k)
    refine Go.st (T' := T19) (g' := (mkF m 20 #[.val (.int p1), .val (.int (3 : Int32)), .val (.ref w_SOUTH), .unset, .unset, .unset] [(.int (0 : Int32))])) ?_ (fun _ k => XT.iconstV X19.here hx rfl (0 : Int32) (hb hby at_19) (by decide) k)
    refine Go.st (T' := T19) (g' := (mkF m 21 #[.val (.int p1), .val (.int (3 : Int32)), .val (.ref w_SOUTH), .val (.int (0 : Int32)), .unset, .unset] [])) ?_ (fun _ k => XS.istoreN X19.here hx rfl (hb hby at_20) rfl (l' := #[.val (.int p1), .val (.int (3 : Int32)), .val (.ref w_SOUTH), .val (.int (0 : Int32)), .unset, .unset]) rfl k)
    refine Go.st (T' := T19) (g' := (mkF m 22 #[.val (.int p1), .val (.int (3 : Int32)), .val (.ref w_SOUTH), .val (.int (0 : Int32)), .unset, .unset] [(.ref w_SOUTH)])) ?_ (fun _ k => XS.aloadN X19.here hx rfl (hb hby at_21) rfl rfl k)
    refine Go.callV X19 hx hZ hown (hw _ (List.mem_of_getElem? (i := 7) rfl)) (hw _ (List.mem_of_getElem? (i := 8) rfl)) (hw _ (List.mem_of_getElem? (i := 10) rfl)) (hw _ (List.mem_of_getElem? (i := 9) rfl)) (hw _ (List.mem_of_getElem? (i := 5) rfl)) (hw _ (List.mem_of_getElem? (i := 11) rfl)) (by decide) A_SOUTH (rm2 l Z a0 hw [] w_SOUTH (0 : Int32) (-1 : Int32)  h0 n0 Z0  F_SOUTH_columns F_SOUTH_rows) e19 (by decide) (W := 0) (by decide) (by decide) (by decide) (g := (mkF m 22 #[.val (.int p1), .val (.int (3 : Int32)), .val (.ref w_SOUTH), .val (.int (0 : Int32)), .unset, .unset] [(.ref w_SOUTH)])) (rest := []) rfl (by rw [hml]; rfl) (lenOf pd___Z rfl) rfl (by show 2 * 0 + _ ≤ _; exact Nat.le_of_eq rfl) (hb hby at_22) ?_
    rintro v20 T20 L20 X20 ⟨rfl, N20, e20⟩
    have M20 := Fr.app M19 N20
    rw [show own_diag w_SOUTH (0 : Int32) (-1 : Int32)  = (0 : Int32) from by rw [own_diag, if_pos (rfl : (0 : Int32) = (0 : Int32))]]
    show Go p e below _ T20 (mkF m 25 #[.val (.int p1), .val (.int (3 : Int32)), .val (.ref w_SOUTH), .val (.int (0 : Int32)), .unset, .unset] [(.int (0 : Int32))])
    refine Go.st (T' := T20) (g' := (mkF m 27 #[.val (.int p1), .val (.int (3 : Int32)), .val (.ref w_SOUTH), .val (.int (0 : Int32)), .val (.int (0 : Int32)), .unset] [])) ?_ (fun _ k => XS.istore X20.here hx rfl (hb hby at_25) rfl (l' := #[.val (.int p1), .val (.int (3 : Int32)), .val (.ref w_SOUTH), .val (.int (0 : Int32)), .val (.int (0 : Int32)), .unset]) rfl k)
    refine Go.st (T' := T20) (g' := (mkF m 28 #[.val (.int p1), .val (.int (3 : Int32)), .val (.ref w_SOUTH), .val (.int (0 : Int32)), .val (.int (0 : Int32)), .unset] [(.ref w_SOUTH)])) ?_ (fun _ k => XS.aloadN X20.here hx rfl (hb hby at_27) rfl rfl k)
    refine Go.callV X20 hx hZ hown (hw _ (List.mem_of_getElem? (i := 16) rfl)) (hw _ (List.mem_of_getElem? (i := 17) rfl)) (hw _ (List.mem_of_getElem? (i := 19) rfl)) (hw _ (List.mem_of_getElem? (i := 18) rfl)) (hw _ (List.mem_of_getElem? (i := 5) rfl)) (hw _ (List.mem_of_getElem? (i := 20) rfl)) (by decide) A_SOUTH (rm3 l Z a0 hw [] w_SOUTH (0 : Int32)  h0 n0 Z0  F_SOUTH_columns) e20 (by decide) (W := 0) (by decide) (by decide) (by decide) (g := (mkF m 28 #[.val (.int p1), .val (.int (3 : Int32)), .val (.ref w_SOUTH), .val (.int (0 : Int32)), .val (.int (0 : Int32)), .unset] [(.ref w_SOUTH)])) (rest := []) rfl (by rw [hml]; rfl) (lenOf pd___I rfl) rfl (by show 2 * 0 + _ ≤ _; exact Nat.le_of_eq rfl) (hb hby at_28) ?_
    rintro v21 T21 L21 X21 ⟨rfl, N21, e21⟩
    have M21 := Fr.app M20 N21
    rw [show own_cols w_SOUTH (0 : Int32)  = (0 : Int32) from by rw [own_cols]]
    show Go p e below _ T21 (mkF m 31 #[.val (.int p1), .val (.int (3 : Int32)), .val (.ref w_SOUTH), .val (.int (0 : Int32)), .val (.int (0 : Int32)), .unset] [(.int (0 : Int32))])
    refine Go.callS X21 hx hZ hown (hw _ (List.mem_of_getElem? (i := 21) rfl)) (hw _ (List.mem_of_getElem? (i := 22) rfl)) (hw _ (List.mem_of_getElem? (i := 23) rfl)) (hw _ (List.mem_of_getElem? (i := 24) rfl)) (by decide) (rm5 l Z a0 hw [] (0 : Int32)  h0 n0 Z0 ) e21 (by decide) (W := 0) (by decide) (by decide) (by decide) (g := (mkF m 31 #[.val (.int p1), .val (.int (3 : Int32)), .val (.ref w_SOUTH), .val (.int (0 : Int32)), .val (.int (0 : Int32)), .unset] [(.int (0 : Int32))])) (rest := []) rfl (by rw [hml]; rfl) (lenOf pd__I_I rfl) rfl (by show 2 * 0 + _ ≤ _; exact Nat.le_of_eq rfl) (hb hby at_31) ?_
    rintro v22 T22 L22 X22 ⟨rfl, N22, e22⟩
    have M22 := Fr.app M21 N22
    rw [show own_abs (0 : Int32)  = (0 : Int32) from by decide]
    show Go p e below _ T22 (mkF m 34 #[.val (.int p1), .val (.int (3 : Int32)), .val (.ref w_SOUTH), .val (.int (0 : Int32)), .val (.int (0 : Int32)), .unset] [(.int (0 : Int32))])
    refine Go.st (T' := T22) (g' := (mkF m 35 #[.val (.int p1), .val (.int (3 : Int32)), .val (.ref w_SOUTH), .val (.int (0 : Int32)), .val (.int (0 : Int32)), .unset] [(.ref w_SOUTH), (.int (0 : Int32))])) ?_ (fun _ k => XS.aloadN X22.here hx rfl (hb hby at_34) rfl rfl k)
    refine Go.callV X22 hx hZ hown (hw _ (List.mem_of_getElem? (i := 25) rfl)) (hw _ (List.mem_of_getElem? (i := 26) rfl)) (hw _ (List.mem_of_getElem? (i := 28) rfl)) (hw _ (List.mem_of_getElem? (i := 27) rfl)) (hw _ (List.mem_of_getElem? (i := 5) rfl)) (hw _ (List.mem_of_getElem? (i := 29) rfl)) (by decide) A_SOUTH (rm4 l Z a0 hw [] w_SOUTH (-1 : Int32)  h0 n0 Z0  F_SOUTH_rows) e22 (by decide) (W := 1) (by decide) (by decide) (by decide) (g := (mkF m 35 #[.val (.int p1), .val (.int (3 : Int32)), .val (.ref w_SOUTH), .val (.int (0 : Int32)), .val (.int (0 : Int32)), .unset] [(.ref w_SOUTH), (.int (0 : Int32))])) (rest := [(.int (0 : Int32))]) rfl (by rw [hml]; rfl) (lenOf pd___I rfl) rfl (by show 2 * 0 + _ ≤ _; exact Nat.le_of_eq rfl) (hb hby at_35) ?_
    rintro v23 T23 L23 X23 ⟨rfl, N23, e23⟩
    have M23 := Fr.app M22 N23
    rw [show own_rows w_SOUTH (-1 : Int32)  = (-1 : Int32) from by rw [own_rows]]
    show Go p e below _ T23 (mkF m 38 #[.val (.int p1), .val (.int (3 : Int32)), .val (.ref w_SOUTH), .val (.int (0 : Int32)), .val (.int (0 : Int32)), .unset] [(.int (-1 : Int32)), (.int (0 : Int32))])
    refine Go.callS X23 hx hZ hown (hw _ (List.mem_of_getElem? (i := 21) rfl)) (hw _ (List.mem_of_getElem? (i := 22) rfl)) (hw _ (List.mem_of_getElem? (i := 23) rfl)) (hw _ (List.mem_of_getElem? (i := 24) rfl)) (by decide) (rm5 l Z a0 hw [] (-1 : Int32)  h0 n0 Z0 ) e23 (by decide) (W := 1) (by decide) (by decide) (by decide) (g := (mkF m 38 #[.val (.int p1), .val (.int (3 : Int32)), .val (.ref w_SOUTH), .val (.int (0 : Int32)), .val (.int (0 : Int32)), .unset] [(.int (-1 : Int32)), (.int (0 : Int32))])) (rest := [(.int (0 : Int32))]) rfl (by rw [hml]; rfl) (lenOf pd__I_I rfl) rfl (by show 2 * 0 + _ ≤ _; exact Nat.le_of_eq rfl) (hb hby at_38) ?_
    rintro v24 T24 L24 X24 ⟨rfl, N24, e24⟩
    have M24 := Fr.app M23 N24
    rw [show own_abs (-1 : Int32)  = (1 : Int32) from by decide]
    show Go p e below _ T24 (mkF m 41 #[.val (.int p1), .val (.int (3 : Int32)), .val (.ref w_SOUTH), .val (.int (0 : Int32)), .val (.int (0 : Int32)), .unset] [(.int (1 : Int32)), (.int (0 : Int32))])
    refine Go.st (T' := T24) (g' := (mkF m 42 #[.val (.int p1), .val (.int (3 : Int32)), .val (.ref w_SOUTH), .val (.int (0 : Int32)), .val (.int (0 : Int32)), .unset] [(.int (1 : Int32))])) ?_ (fun _ k => XS.iadd X24.here hx rfl (hb hby at_41) rfl k)
    refine Go.st (T' := T24) (g' := (mkF m 43 #[.val (.int p1), .val (.int (3 : Int32)), .val (.ref w_SOUTH), .val (.int (0 : Int32)), .val (.int (0 : Int32)), .unset] [(.int (2 : Int32)), (.int (1 : Int32))])) ?_ (fun _ k => XT.iconstV X24.here hx rfl (2 : Int32) (hb hby at_42) (by decide) k)
    refine Go.st (T' := T24) (g' := (mkF m 50 #[.val (.int p1), .val (.int (3 : Int32)), .val (.ref w_SOUTH), .val (.int (0 : Int32)), .val (.int (0 : Int32)), .unset] [])) ?_ (fun _ k => XS.icmpYes X24.here hx rfl (pc0 := 43) (pc' := 50) rfl (hb hby at_43) rfl (by decide) (by decide) (by decide) k)
    refine Go.st (T' := T24) (g' := (mkF m 51 #[.val (.int p1), .val (.int (3 : Int32)), .val (.ref w_SOUTH), .val (.int (0 : Int32)), .val (.int (0 : Int32)), .unset] [(.int (0 : Int32))])) ?_ (fun _ k => XT.iconstV X24.here hx rfl (0 : Int32) (hb hby at_50) (by decide) k)
    refine Go.st (T' := T24) (g' := (mkF m 53 #[.val (.int p1), .val (.int (3 : Int32)), .val (.ref w_SOUTH), .val (.int (0 : Int32)), .val (.int (0 : Int32)), .val (.int (0 : Int32))] [])) ?_ (fun _ k => XS.istore X24.here hx rfl (hb hby at_51) rfl (l' := #[.val (.int p1), .val (.int (3 : Int32)), .val (.ref w_SOUTH), .val (.int (0 : Int32)), .val (.int (0 : Int32)), .val (.int (0 : Int32))]) rfl k)
    refine Go.st (T' := T24) (g' := (mkF m 55 #[.val (.int p1), .val (.int (3 : Int32)), .val (.ref w_SOUTH), .val (.int (0 : Int32)), .val (.int (0 : Int32)), .val (.int (0 : Int32))] [(.int (0 : Int32))])) ?_ (fun _ k => XS.iload X24.here hx rfl (hb hby at_53) rfl k)
    refine Go.st (T' := T24) (g' := (mkF m 56 #[.val (.int p1), .val (.int (3 : Int32)), .val (.ref w_SOUTH), .val (.int (0 : Int32)), .val (.int (0 : Int32)), .val (.int (0 : Int32))] [(.int (0 : Int32)), (.int (0 : Int32))])) ?_ (fun _ k => XS.iloadN X24.here hx rfl (hb hby at_55) rfl k)
    refine Go.st (T' := T24) (g' := (mkF m 59 #[.val (.int p1), .val (.int (3 : Int32)), .val (.ref w_SOUTH), .val (.int (0 : Int32)), .val (.int (0 : Int32)), .val (.int (0 : Int32))] [])) ?_ (fun _ k => XS.icmpNo X24.here hx rfl (hb hby at_56) rfl (by decide) k)
    refine Go.st (T' := T24) (g' := (mkF m 61 #[.val (.int p1), .val (.int (3 : Int32)), .val (.ref w_SOUTH), .val (.int (0 : Int32)), .val (.int (0 : Int32)), .val (.int (0 : Int32))] [(.int (0 : Int32))])) ?_ (fun _ k => XS.iload X24.here hx rfl (hb hby at_59) rfl k)
    refine Go.st (T' := T24) (g' := (mkF m 63 #[.val (.int p1), .val (.int (3 : Int32)), .val (.ref w_SOUTH), .val (.int (0 : Int32)), .val (.int (0 : Int32)), .val (.int (0 : Int32))] [(.int (0 : Int32)), (.int (0 : Int32))])) ?_ (fun _ k => XS.iload X24.here hx rfl (hb hby at_61) rfl k)
    refine Go.st (T' := T24) (g' := (mkF m 66 #[.val (.int p1), .val (.int (3 : Int32)), .val (.ref w_SOUTH), .val (.int (0 : Int32)), .val (.int (0 : Int32)), .val (.int (0 : Int32))] [])) ?_ (fun _ k => XS.icmpNo X24.here hx rfl (hb hby at_63) rfl (by decide) k)
    refine Go.st (T' := T24) (g' := (mkF m 67 #[.val (.int p1), .val (.int (3 : Int32)), .val (.ref w_SOUTH), .val (.int (0 : Int32)), .val (.int (0 : Int32)), .val (.int (0 : Int32))] [(.int (1 : Int32))])) ?_ (fun _ k => XT.iconstV X24.here hx rfl (1 : Int32) (hb hby at_66) (by decide) k)
    refine Go.st (T' := T24) (g' := (mkF m 71 #[.val (.int p1), .val (.int (3 : Int32)), .val (.ref w_SOUTH), .val (.int (0 : Int32)), .val (.int (0 : Int32)), .val (.int (0 : Int32))] [(.int (1 : Int32))])) ?_ (fun _ k => XS.goto X24.here hx rfl (pc0 := 67) (pc' := 71) rfl (hb hby at_67) (by decide) (by decide) k)
    exact Go.retV (t := .boolean) X24 hx hret hlk (by decide) (by decide) rfl (Or.inl ⟨rfl, Or.inr (Or.inl rfl), _, rfl⟩) (hb hby at_71) ⟨rfl, M24⟩
  · rw [hk]
    refine Go.st (T' := s₁) (g' := (mkF m 5 #[.val (.int p1), .val (.int (4 : Int32)), .unset, .unset, .unset, .unset] [])) ?_ (fun _ k => XS.istoreN X0.here hx rfl (hb hby at_4) rfl (l' := #[.val (.int p1), .val (.int (4 : Int32)), .unset, .unset, .unset, .unset]) rfl k)
    refine Go.st (T' := s₁) (g' := (mkF m 6 #[.val (.int p1), .val (.int (4 : Int32)), .unset, .unset, .unset, .unset] [(.int (4 : Int32))])) ?_ (fun _ k => XS.iloadN X0.here hx rfl (hb hby at_5) rfl k)
    refine Go.callS X0 hx hZ hown (hw _ (List.mem_of_getElem? (i := 0) rfl)) (hw _ (List.mem_of_getElem? (i := 1) rfl)) (hw _ (List.mem_of_getElem? (i := 2) rfl)) (hw _ (List.mem_of_getElem? (i := 3) rfl)) (by decide) (rm1 l Z a0 hw [] (4 : Int32) w_EAST w_SOUTH w_SOUTH_WEST w_SOUTH_EAST w_WEST w_NORTH w_NORTH_EAST w_NORTH_WEST h0 n0 Z0 FF0 ) e0 (by decide) (W := 0) (by decide) (by decide) (by decide) (g := (mkF m 6 #[.val (.int p1), .val (.int (4 : Int32)), .unset, .unset, .unset, .unset] [(.int (4 : Int32))])) (rest := []) rfl (by rw [hml]; rfl) (lenOf pd__I_Lcom_example_amblesim_amblesim_model_Move_ rfl) rfl (by show 2 * 0 + _ ≤ _; exact Nat.le_of_eq rfl) (hb hby at_6) ?_
    rintro v25 T25 L25 X25 ⟨rfl, N25, e25⟩
    have M25 := Fr.app N0 N25
    rw [show own_pick (4 : Int32) w_EAST w_SOUTH w_SOUTH_WEST w_SOUTH_EAST w_WEST w_NORTH w_NORTH_EAST w_NORTH_WEST = w_NORTH_EAST from by rw [own_pick, if_neg (by decide : ¬ (4 : Int32) = (0 : Int32)), if_neg (by decide : ¬ (4 : Int32) = (1 : Int32)), if_neg (by decide : ¬ (4 : Int32) = (2 : Int32)), if_neg (by decide : ¬ (4 : Int32) = (3 : Int32)), if_pos (rfl : (4 : Int32) = (4 : Int32))]]
    show Go p e below _ T25 (mkF m 9 #[.val (.int p1), .val (.int (4 : Int32)), .unset, .unset, .unset, .unset] [(.ref w_NORTH_EAST)])
    refine Go.st (T' := T25) (g' := (mkF m 10 #[.val (.int p1), .val (.int (4 : Int32)), .val (.ref w_NORTH_EAST), .unset, .unset, .unset] [])) ?_ (fun _ k => XS.astoreN X25.here hx rfl (hb hby at_9) rfl rfl (l' := #[.val (.int p1), .val (.int (4 : Int32)), .val (.ref w_NORTH_EAST), .unset, .unset, .unset]) rfl k)
    refine Go.st (T' := T25) (g' := (mkF m 11 #[.val (.int p1), .val (.int (4 : Int32)), .val (.ref w_NORTH_EAST), .unset, .unset, .unset] [(.int (4 : Int32))])) ?_ (fun _ k => XS.iloadN X25.here hx rfl (hb hby at_10) rfl k)
    refine Go.st (T' := T25) (g' := (mkF m 12 #[.val (.int p1), .val (.int (4 : Int32)), .val (.ref w_NORTH_EAST), .unset, .unset, .unset] [(.int (4 : Int32)), (.int (4 : Int32))])) ?_ (fun _ k => XT.iconstV X25.here hx rfl (4 : Int32) (hb hby at_11) (by decide) k)
    refine Go.st (T' := T25) (g' := (mkF m 15 #[.val (.int p1), .val (.int (4 : Int32)), .val (.ref w_NORTH_EAST), .unset, .unset, .unset] [])) ?_ (fun _ k => XS.icmpNo X25.here hx rfl (hb hby at_12) rfl (by decide) k)
    refine Go.st (T' := T25) (g' := (mkF m 16 #[.val (.int p1), .val (.int (4 : Int32)), .val (.ref w_NORTH_EAST), .unset, .unset, .unset] [(.int (1 : Int32))])) ?_ (fun _ k => XT.iconstV X25.here hx rfl (1 : Int32) (hb hby at_15) (by decide) k)
    refine Go.st (T' := T25) (g' := (mkF m 20 #[.val (.int p1), .val (.int (4 : Int32)), .val (.ref w_NORTH_EAST), .unset, .unset, .unset] [(.int (1 : Int32))])) ?_ (fun _ k => XS.goto X25.here hx rfl (pc0 := 16) (pc' := 20) rfl (hb hby at_16) (by decide) (by decide) k)
    refine Go.st (T' := T25) (g' := (mkF m 21 #[.val (.int p1), .val (.int (4 : Int32)), .val (.ref w_NORTH_EAST), .val (.int (1 : Int32)), .unset, .unset] [])) ?_ (fun _ k => XS.istoreN X25.here hx rfl (hb hby at_20) rfl (l' := #[.val (.int p1), .val (.int (4 : Int32)), .val (.ref w_NORTH_EAST), .val (.int (1 : Int32)), .unset, .unset]) rfl k)
    refine Go.st (T' := T25) (g' := (mkF m 22 #[.val (.int p1), .val (.int (4 : Int32)), .val (.ref w_NORTH_EAST), .val (.int (1 : Int32)), .unset, .unset] [(.ref w_NORTH_EAST)])) ?_ (fun _ k => XS.aloadN X25.here hx rfl (hb hby at_21) rfl rfl k)
    refine Go.callV X25 hx hZ hown (hw _ (List.mem_of_getElem? (i := 7) rfl)) (hw _ (List.mem_of_getElem? (i := 8) rfl)) (hw _ (List.mem_of_getElem? (i := 10) rfl)) (hw _ (List.mem_of_getElem? (i := 9) rfl)) (hw _ (List.mem_of_getElem? (i := 5) rfl)) (hw _ (List.mem_of_getElem? (i := 11) rfl)) (by decide) A_NORTH_EAST (rm2 l Z a0 hw [] w_NORTH_EAST (1 : Int32) (1 : Int32)  h0 n0 Z0  F_NORTH_EAST_columns F_NORTH_EAST_rows) e25 (by decide) (W := 0) (by decide) (by decide) (by decide) (g := (mkF m 22 #[.val (.int p1), .val (.int (4 : Int32)), .val (.ref w_NORTH_EAST), .val (.int (1 : Int32)), .unset, .unset] [(.ref w_NORTH_EAST)])) (rest := []) rfl (by rw [hml]; rfl) (lenOf pd___Z rfl) rfl (by show 2 * 0 + _ ≤ _; exact Nat.le_of_eq rfl) (hb hby at_22) ?_
    rintro v26 T26 L26 X26 ⟨rfl, N26, e26⟩
    have M26 := Fr.app M25 N26
    rw [show own_diag w_NORTH_EAST (1 : Int32) (1 : Int32)  = (1 : Int32) from by rw [own_diag, if_neg (by decide : ¬ (1 : Int32) = (0 : Int32)), if_neg (by decide : ¬ (1 : Int32) = (0 : Int32))]]
    show Go p e below _ T26 (mkF m 25 #[.val (.int p1), .val (.int (4 : Int32)), .val (.ref w_NORTH_EAST), .val (.int (1 : Int32)), .unset, .unset] [(.int (1 : Int32))])
    refine Go.st (T' := T26) (g' := (mkF m 27 #[.val (.int p1), .val (.int (4 : Int32)), .val (.ref w_NORTH_EAST), .val (.int (1 : Int32)), .val (.int (1 : Int32)), .unset] [])) ?_ (fun _ k => XS.istore X26.here hx rfl (hb hby at_25) rfl (l' := #[.val (.int p1), .val (.int (4 : Int32)), .val (.ref w_NORTH_EAST), .val (.int (1 : Int32)), .val (.int (1 : Int32)), .unset]) rfl k)
    refine Go.st (T' := T26) (g' := (mkF m 28 #[.val (.int p1), .val (.int (4 : Int32)), .val (.ref w_NORTH_EAST), .val (.int (1 : Int32)), .val (.int (1 : Int32)), .unset] [(.ref w_NORTH_EAST)])) ?_ (fun _ k => XS.aloadN X26.here hx rfl (hb hby at_27) rfl rfl k)
    refine Go.callV X26 hx hZ hown (hw _ (List.mem_of_getElem? (i := 16) rfl)) (hw _ (List.mem_of_getElem? (i := 17) rfl)) (hw _ (List.mem_of_getElem? (i := 19) rfl)) (hw _ (List.mem_of_getElem? (i := 18) rfl)) (hw _ (List.mem_of_getElem? (i := 5) rfl)) (hw _ (List.mem_of_getElem? (i := 20) rfl)) (by decide) A_NORTH_EAST (rm3 l Z a0 hw [] w_NORTH_EAST (1 : Int32)  h0 n0 Z0  F_NORTH_EAST_columns) e26 (by decide) (W := 0) (by decide) (by decide) (by decide) (g := (mkF m 28 #[.val (.int p1), .val (.int (4 : Int32)), .val (.ref w_NORTH_EAST), .val (.int (1 : Int32)), .val (.int (1 : Int32)), .unset] [(.ref w_NORTH_EAST)])) (rest := []) rfl (by rw [hml]; rfl) (lenOf pd___I rfl) rfl (by show 2 * 0 + _ ≤ _; exact Nat.le_of_eq rfl) (hb hby at_28) ?_
    rintro v27 T27 L27 X27 ⟨rfl, N27, e27⟩
    have M27 := Fr.app M26 N27
    rw [show own_cols w_NORTH_EAST (1 : Int32)  = (1 : Int32) from by rw [own_cols]]
    show Go p e below _ T27 (mkF m 31 #[.val (.int p1), .val (.int (4 : Int32)), .val (.ref w_NORTH_EAST), .val (.int (1 : Int32)), .val (.int (1 : Int32)), .unset] [(.int (1 : Int32))])
    refine Go.callS X27 hx hZ hown (hw _ (List.mem_of_getElem? (i := 21) rfl)) (hw _ (List.mem_of_getElem? (i := 22) rfl)) (hw _ (List.mem_of_getElem? (i := 23) rfl)) (hw _ (List.mem_of_getElem? (i := 24) rfl)) (by decide) (rm5 l Z a0 hw [] (1 : Int32)  h0 n0 Z0 ) e27 (by decide) (W := 0) (by decide) (by decide) (by decide) (g := (mkF m 31 #[.val (.int p1), .val (.int (4 : Int32)), .val (.ref w_NORTH_EAST), .val (.int (1 : Int32)), .val (.int (1 : Int32)), .unset] [(.int (1 : Int32))])) (rest := []) rfl (by rw [hml]; rfl) (lenOf pd__I_I rfl) rfl (by show 2 * 0 + _ ≤ _; exact Nat.le_of_eq rfl) (hb hby at_31) ?_
    rintro v28 T28 L28 X28 ⟨rfl, N28, e28⟩
    have M28 := Fr.app M27 N28
    rw [show own_abs (1 : Int32)  = (1 : Int32) from by decide]
    show Go p e below _ T28 (mkF m 34 #[.val (.int p1), .val (.int (4 : Int32)), .val (.ref w_NORTH_EAST), .val (.int (1 : Int32)), .val (.int (1 : Int32)), .unset] [(.int (1 : Int32))])
    refine Go.st (T' := T28) (g' := (mkF m 35 #[.val (.int p1), .val (.int (4 : Int32)), .val (.ref w_NORTH_EAST), .val (.int (1 : Int32)), .val (.int (1 : Int32)), .unset] [(.ref w_NORTH_EAST), (.int (1 : Int32))])) ?_ (fun _ k => XS.aloadN X28.here hx rfl (hb hby at_34) rfl rfl k)
    refine Go.callV X28 hx hZ hown (hw _ (List.mem_of_getElem? (i := 25) rfl)) (hw _ (List.mem_of_getElem? (i := 26) rfl)) (hw _ (List.mem_of_getElem? (i := 28) rfl)) (hw _ (List.mem_of_getElem? (i := 27) rfl)) (hw _ (List.mem_of_getElem? (i := 5) rfl)) (hw _ (List.mem_of_getElem? (i := 29) rfl)) (by decide) A_NORTH_EAST (rm4 l Z a0 hw [] w_NORTH_EAST (1 : Int32)  h0 n0 Z0  F_NORTH_EAST_rows) e28 (by decide) (W := 1) (by decide) (by decide) (by decide) (g := (mkF m 35 #[.val (.int p1), .val (.int (4 : Int32)), .val (.ref w_NORTH_EAST), .val (.int (1 : Int32)), .val (.int (1 : Int32)), .unset] [(.ref w_NORTH_EAST), (.int (1 : Int32))])) (rest := [(.int (1 : Int32))]) rfl (by rw [hml]; rfl) (lenOf pd___I rfl) rfl (by show 2 * 0 + _ ≤ _; exact Nat.le_of_eq rfl) (hb hby at_35) ?_
    rintro v29 T29 L29 X29 ⟨rfl, N29, e29⟩
    have M29 := Fr.app M28 N29
    rw [show own_rows w_NORTH_EAST (1 : Int32)  = (1 : Int32) from by rw [own_rows]]
    show Go p e below _ T29 (mkF m 38 #[.val (.int p1), .val (.int (4 : Int32)), .val (.ref w_NORTH_EAST), .val (.int (1 : Int32)), .val (.int (1 : Int32)), .unset] [(.int (1 : Int32)), (.int (1 : Int32))])
    refine Go.callS X29 hx hZ hown (hw _ (List.mem_of_getElem? (i := 21) rfl)) (hw _ (List.mem_of_getElem? (i := 22) rfl)) (hw _ (List.mem_of_getElem? (i := 23) rfl)) (hw _ (List.mem_of_getElem? (i := 24) rfl)) (by decide) (rm5 l Z a0 hw [] (1 : Int32)  h0 n0 Z0 ) e29 (by decide) (W := 1) (by decide) (by decide) (by decide) (g := (mkF m 38 #[.val (.int p1), .val (.int (4 : Int32)), .val (.ref w_NORTH_EAST), .val (.int (1 : Int32)), .val (.int (1 : Int32)), .unset] [(.int (1 : Int32)), (.int (1 : Int32))])) (rest := [(.int (1 : Int32))]) rfl (by rw [hml]; rfl) (lenOf pd__I_I rfl) rfl (by show 2 * 0 + _ ≤ _; exact Nat.le_of_eq rfl) (hb hby at_38) ?_
    rintro v30 T30 L30 X30 ⟨rfl, N30, e30⟩
    have M30 := Fr.app M29 N30
    rw [show own_abs (1 : Int32)  = (1 : Int32) from by decide]
    show Go p e below _ T30 (mkF m 41 #[.val (.int p1), .val (.int (4 : Int32)), .val (.ref w_NORTH_EAST), .val (.int (1 : Int32)), .val (.int (1 : Int32)), .unset] [(.int (1 : Int32)), (.int (1 : Int32))])
    refine Go.st (T' := T30) (g' := (mkF m 42 #[.val (.int p1), .val (.int (4 : Int32)), .val (.ref w_NORTH_EAST), .val (.int (1 : Int32)), .val (.int (1 : Int32)), .unset] [(.int (2 : Int32))])) ?_ (fun _ k => XS.iadd X30.here hx rfl (hb hby at_41) rfl k)
    refine Go.st (T' := T30) (g' := (mkF m 43 #[.val (.int p1), .val (.int (4 : Int32)), .val (.ref w_NORTH_EAST), .val (.int (1 : Int32)), .val (.int (1 : Int32)), .unset] [(.int (2 : Int32)), (.int (2 : Int32))])) ?_ (fun _ k => XT.iconstV X30.here hx rfl (2 : Int32) (hb hby at_42) (by decide) k)
    refine Go.st (T' := T30) (g' := (mkF m 46 #[.val (.int p1), .val (.int (4 : Int32)), .val (.ref w_NORTH_EAST), .val (.int (1 : Int32)), .val (.int (1 : Int32)), .unset] [])) ?_ (fun _ k => XS.icmpNo X30.here hx rfl (hb hby at_43) rfl (by decide) k)
    refine Go.st (T' := T30) (g' := (mkF m 47 #[.val (.int p1), .val (.int (4 : Int32)), .val (.ref w_NORTH_EAST), .val (.int (1 : Int32)), .val (.int (1 : Int32)), .unset] [(.int (1 : Int32))])) ?_ (fun _ k => XT.iconstV X30.here hx rfl (1 : Int32) (hb hby at_46) (by decide) k)
    refine Go.st (T' := T30) (g' := (mkF m 51 #[.val (.int p1), .val (.int (4 : Int32)), .val (.ref w_NORTH_EAST), .val (.int (1 : Int32)), .val (.int (1 : Int32)), .unset] [(.int (1 : Int32))])) ?_ (fun _ k => XS.goto X30.here hx rfl (pc0 := 47) (pc' := 51) rfl (hb hby at_47) (by decide) (by decide) k)
    refine Go.st (T' := T30) (g' := (mkF m 53 #[.val (.int p1), .val (.int (4 : Int32)), .val (.ref w_NORTH_EAST), .val (.int (1 : Int32)), .val (.int (1 : Int32)), .val (.int (1 : Int32))] [])) ?_ (fun _ k => XS.istore X30.here hx rfl (hb hby at_51) rfl (l' := #[.val (.int p1), .val (.int (4 : Int32)), .val (.ref w_NORTH_EAST), .val (.int (1 : Int32)), .val (.int (1 : Int32)), .val (.int (1 : Int32))]) rfl k)
    refine Go.st (T' := T30) (g' := (mkF m 55 #[.val (.int p1), .val (.int (4 : Int32)), .val (.ref w_NORTH_EAST), .val (.int (1 : Int32)), .val (.int (1 : Int32)), .val (.int (1 : Int32))] [(.int (1 : Int32))])) ?_ (fun _ k => XS.iload X30.here hx rfl (hb hby at_53) rfl k)
    refine Go.st (T' := T30) (g' := (mkF m 56 #[.val (.int p1), .val (.int (4 : Int32)), .val (.ref w_NORTH_EAST), .val (.int (1 : Int32)), .val (.int (1 : Int32)), .val (.int (1 : Int32))] [(.int (1 : Int32)), (.int (1 : Int32))])) ?_ (fun _ k => XS.iloadN X30.here hx rfl (hb hby at_55) rfl k)
    refine Go.st (T' := T30) (g' := (mkF m 59 #[.val (.int p1), .val (.int (4 : Int32)), .val (.ref w_NORTH_EAST), .val (.int (1 : Int32)), .val (.int (1 : Int32)), .val (.int (1 : Int32))] [])) ?_ (fun _ k => XS.icmpNo X30.here hx rfl (hb hby at_56) rfl (by decide) k)
    refine Go.st (T' := T30) (g' := (mkF m 61 #[.val (.int p1), .val (.int (4 : Int32)), .val (.ref w_NORTH_EAST), .val (.int (1 : Int32)), .val (.int (1 : Int32)), .val (.int (1 : Int32))] [(.int (1 : Int32))])) ?_ (fun _ k => XS.iload X30.here hx rfl (hb hby at_59) rfl k)
    refine Go.st (T' := T30) (g' := (mkF m 63 #[.val (.int p1), .val (.int (4 : Int32)), .val (.ref w_NORTH_EAST), .val (.int (1 : Int32)), .val (.int (1 : Int32)), .val (.int (1 : Int32))] [(.int (1 : Int32)), (.int (1 : Int32))])) ?_ (fun _ k => XS.iload X30.here hx rfl (hb hby at_61) rfl k)
    refine Go.st (T' := T30) (g' := (mkF m 66 #[.val (.int p1), .val (.int (4 : Int32)), .val (.ref w_NORTH_EAST), .val (.int (1 : Int32)), .val (.int (1 : Int32)), .val (.int (1 : Int32))] [])) ?_ (fun _ k => XS.icmpNo X30.here hx rfl (hb hby at_63) rfl (by decide) k)
    refine Go.st (T' := T30) (g' := (mkF m 67 #[.val (.int p1), .val (.int (4 : Int32)), .val (.ref w_NORTH_EAST), .val (.int (1 : Int32)), .val (.int (1 : Int32)), .val (.int (1 : Int32))] [(.int (1 : Int32))])) ?_ (fun _ k => XT.iconstV X30.here hx rfl (1 : Int32) (hb hby at_66) (by decide) k)
    refine Go.st (T' := T30) (g' := (mkF m 71 #[.val (.int p1), .val (.int (4 : Int32)), .val (.ref w_NORTH_EAST), .val (.int (1 : Int32)), .val (.int (1 : Int32)), .val (.int (1 : Int32))] [(.int (1 : Int32))])) ?_ (fun _ k => XS.goto X30.here hx rfl (pc0 := 67) (pc' := 71) rfl (hb hby at_67) (by decide) (by decide) k)
    exact Go.retV (t := .boolean) X30 hx hret hlk (by decide) (by decide) rfl (Or.inl ⟨rfl, Or.inr (Or.inl rfl), _, rfl⟩) (hb hby at_71) ⟨rfl, M30⟩
  · rw [hk]
    refine Go.st (T' := s₁) (g' := (mkF m 5 #[.val (.int p1), .val (.int (5 : Int32)), .unset, .unset, .unset, .unset] [])) ?_ (fun _ k => XS.istoreN X0.here hx rfl (hb hby at_4) rfl (l' := #[.val (.int p1), .val (.int (5 : Int32)), .unset, .unset, .unset, .unset]) rfl k)
    refine Go.st (T' := s₁) (g' := (mkF m 6 #[.val (.int p1), .val (.int (5 : Int32)), .unset, .unset, .unset, .unset] [(.int (5 : Int32))])) ?_ (fun _ k => XS.iloadN X0.here hx rfl (hb hby at_5) rfl k)
    refine Go.callS X0 hx hZ hown (hw _ (List.mem_of_getElem? (i := 0) rfl)) (hw _ (List.mem_of_getElem? (i := 1) rfl)) (hw _ (List.mem_of_getElem? (i := 2) rfl)) (hw _ (List.mem_of_getElem? (i := 3) rfl)) (by decide) (rm1 l Z a0 hw [] (5 : Int32) w_EAST w_SOUTH w_SOUTH_WEST w_SOUTH_EAST w_WEST w_NORTH w_NORTH_EAST w_NORTH_WEST h0 n0 Z0 FF0 ) e0 (by decide) (W := 0) (by decide) (by decide) (by decide) (g := (mkF m 6 #[.val (.int p1), .val (.int (5 : Int32)), .unset, .unset, .unset, .unset] [(.int (5 : Int32))])) (rest := []) rfl (by rw [hml]; rfl) (lenOf pd__I_Lcom_example_amblesim_amblesim_model_Move_ rfl) rfl (by show 2 * 0 + _ ≤ _; exact Nat.le_of_eq rfl) (hb hby at_6) ?_
    rintro v31 T31 L31 X31 ⟨rfl, N31, e31⟩
    have M31 := Fr.app N0 N31
    rw [show own_pick (5 : Int32) w_EAST w_SOUTH w_SOUTH_WEST w_SOUTH_EAST w_WEST w_NORTH w_NORTH_EAST w_NORTH_WEST = w_NORTH_WEST from by rw [own_pick, if_neg (by decide : ¬ (5 : Int32) = (0 : Int32)), if_neg (by decide : ¬ (5 : Int32) = (1 : Int32)), if_neg (by decide : ¬ (5 : Int32) = (2 : Int32)), if_neg (by decide : ¬ (5 : Int32) = (3 : Int32)), if_neg (by decide : ¬ (5 : Int32) = (4 : Int32)), if_pos (rfl : (5 : Int32) = (5 : Int32))]]
    show Go p e below _ T31 (mkF m 9 #[.val (.int p1), .val (.int (5 : Int32)), .unset, .unset, .unset, .unset] [(.ref w_NORTH_WEST)])
    refine Go.st (T' := T31) (g' := (mkF m 10 #[.val (.int p1), .val (.int (5 : Int32)), .val (.ref w_NORTH_WEST), .unset, .unset, .unset] [])) ?_ (fun _ k => XS.astoreN X31.here hx rfl (hb hby at_9) rfl rfl (l' := #[.val (.int p1), .val (.int (5 : Int32)), .val (.ref w_NORTH_WEST), .unset, .unset, .unset]) rfl k)
    refine Go.st (T' := T31) (g' := (mkF m 11 #[.val (.int p1), .val (.int (5 : Int32)), .val (.ref w_NORTH_WEST), .unset, .unset, .unset] [(.int (5 : Int32))])) ?_ (fun _ k => XS.iloadN X31.here hx rfl (hb hby at_10) rfl k)
    refine Go.st (T' := T31) (g' := (mkF m 12 #[.val (.int p1), .val (.int (5 : Int32)), .val (.ref w_NORTH_WEST), .unset, .unset, .unset] [(.int (4 : Int32)), (.int (5 : Int32))])) ?_ (fun _ k => XT.iconstV X31.here hx rfl (4 : Int32) (hb hby at_11) (by decide) k)
    refine Go.st (T' := T31) (g' := (mkF m 15 #[.val (.int p1), .val (.int (5 : Int32)), .val (.ref w_NORTH_WEST), .unset, .unset, .unset] [])) ?_ (fun _ k => XS.icmpNo X31.here hx rfl (hb hby at_12) rfl (by decide) k)
    refine Go.st (T' := T31) (g' := (mkF m 16 #[.val (.int p1), .val (.int (5 : Int32)), .val (.ref w_NORTH_WEST), .unset, .unset, .unset] [(.int (1 : Int32))])) ?_ (fun _ k => XT.iconstV X31.here hx rfl (1 : Int32) (hb hby at_15) (by decide) k)
    refine Go.st (T' := T31) (g' := (mkF m 20 #[.val (.int p1), .val (.int (5 : Int32)), .val (.ref w_NORTH_WEST), .unset, .unset, .unset] [(.int (1 : Int32))])) ?_ (fun _ k => XS.goto X31.here hx rfl (pc0 := 16) (pc' := 20) rfl (hb hby at_16) (by decide) (by decide) k)
    refine Go.st (T' := T31) (g' := (mkF m 21 #[.val (.int p1), .val (.int (5 : Int32)), .val (.ref w_NORTH_WEST), .val (.int (1 : Int32)), .unset, .unset] [])) ?_ (fun _ k => XS.istoreN X31.here hx rfl (hb hby at_20) rfl (l' := #[.val (.int p1), .val (.int (5 : Int32)), .val (.ref w_NORTH_WEST), .val (.int (1 : Int32)), .unset, .unset]) rfl k)
    refine Go.st (T' := T31) (g' := (mkF m 22 #[.val (.int p1), .val (.int (5 : Int32)), .val (.ref w_NORTH_WEST), .val (.int (1 : Int32)), .unset, .unset] [(.ref w_NORTH_WEST)])) ?_ (fun _ k => XS.aloadN X31.here hx rfl (hb hby at_21) rfl rfl k)
    refine Go.callV X31 hx hZ hown (hw _ (List.mem_of_getElem? (i := 7) rfl)) (hw _ (List.mem_of_getElem? (i := 8) rfl)) (hw _ (List.mem_of_getElem? (i := 10) rfl)) (hw _ (List.mem_of_getElem? (i := 9) rfl)) (hw _ (List.mem_of_getElem? (i := 5) rfl)) (hw _ (List.mem_of_getElem? (i := 11) rfl)) (by decide) A_NORTH_WEST (rm2 l Z a0 hw [] w_NORTH_WEST (-1 : Int32) (1 : Int32)  h0 n0 Z0  F_NORTH_WEST_columns F_NORTH_WEST_rows) e31 (by decide) (W := 0) (by decide) (by decide) (by decide) (g := (mkF m 22 #[.val (.int p1), .val (.int (5 : Int32)), .val (.ref w_NORTH_WEST), .val (.int (1 : Int32)), .unset, .unset] [(.ref w_NORTH_WEST)])) (rest := []) rfl (by rw [hml]; rfl) (lenOf pd___Z rfl) rfl (by show 2 * 0 + _ ≤ _; exact Nat.le_of_eq rfl) (hb hby at_22) ?_
    rintro v32 T32 L32 X32 ⟨rfl, N32, e32⟩
    have M32 := Fr.app M31 N32
    rw [show own_diag w_NORTH_WEST (-1 : Int32) (1 : Int32)  = (1 : Int32) from by rw [own_diag, if_neg (by decide : ¬ (-1 : Int32) = (0 : Int32)), if_neg (by decide : ¬ (1 : Int32) = (0 : Int32))]]
    show Go p e below _ T32 (mkF m 25 #[.val (.int p1), .val (.int (5 : Int32)), .val (.ref w_NORTH_WEST), .val (.int (1 : Int32)), .unset, .unset] [(.int (1 : Int32))])
    refine Go.st (T' := T32) (g' := (mkF m 27 #[.val (.int p1), .val (.int (5 : Int32)), .val (.ref w_NORTH_WEST), .val (.int (1 : Int32)), .val (.int (1 : Int32)), .unset] [])) ?_ (fun _ k => XS.istore X32.here hx rfl (hb hby at_25) rfl (l' := #[.val (.int p1), .val (.int (5 : Int32)), .val (.ref w_NORTH_WEST), .val (.int (1 : Int32)), .val (.int (1 : Int32)), .unset]) rfl k)
    refine Go.st (T' := T32) (g' := (mkF m 28 #[.val (.int p1), .val (.int (5 : Int32)), .val (.ref w_NORTH_WEST), .val (.int (1 : Int32)), .val (.int (1 : Int32)), .unset] [(.ref w_NORTH_WEST)])) ?_ (fun _ k => XS.aloadN X32.here hx rfl (hb hby at_27) rfl rfl k)
    refine Go.callV X32 hx hZ hown (hw _ (List.mem_of_getElem? (i := 16) rfl)) (hw _ (List.mem_of_getElem? (i := 17) rfl)) (hw _ (List.mem_of_getElem? (i := 19) rfl)) (hw _ (List.mem_of_getElem? (i := 18) rfl)) (hw _ (List.mem_of_getElem? (i := 5) rfl)) (hw _ (List.mem_of_getElem? (i := 20) rfl)) (by decide) A_NORTH_WEST (rm3 l Z a0 hw [] w_NORTH_WEST (-1 : Int32)  h0 n0 Z0  F_NORTH_WEST_columns) e32 (by decide) (W := 0) (by decide) (by decide) (by decide) (g := (mkF m 28 #[.val (.int p1), .val (.int (5 : Int32)), .val (.ref w_NORTH_WEST), .val (.int (1 : Int32)), .val (.int (1 : Int32)), .unset] [(.ref w_NORTH_WEST)])) (rest := []) rfl (by rw [hml]; rfl) (lenOf pd___I rfl) rfl (by show 2 * 0 + _ ≤ _; exact Nat.le_of_eq rfl) (hb hby at_28) ?_
    rintro v33 T33 L33 X33 ⟨rfl, N33, e33⟩
    have M33 := Fr.app M32 N33
    rw [show own_cols w_NORTH_WEST (-1 : Int32)  = (-1 : Int32) from by rw [own_cols]]
    show Go p e below _ T33 (mkF m 31 #[.val (.int p1), .val (.int (5 : Int32)), .val (.ref w_NORTH_WEST), .val (.int (1 : Int32)), .val (.int (1 : Int32)), .unset] [(.int (-1 : Int32))])
    refine Go.callS X33 hx hZ hown (hw _ (List.mem_of_getElem? (i := 21) rfl)) (hw _ (List.mem_of_getElem? (i := 22) rfl)) (hw _ (List.mem_of_getElem? (i := 23) rfl)) (hw _ (List.mem_of_getElem? (i := 24) rfl)) (by decide) (rm5 l Z a0 hw [] (-1 : Int32)  h0 n0 Z0 ) e33 (by decide) (W := 0) (by decide) (by decide) (by decide) (g := (mkF m 31 #[.val (.int p1), .val (.int (5 : Int32)), .val (.ref w_NORTH_WEST), .val (.int (1 : Int32)), .val (.int (1 : Int32)), .unset] [(.int (-1 : Int32))])) (rest := []) rfl (by rw [hml]; rfl) (lenOf pd__I_I rfl) rfl (by show 2 * 0 + _ ≤ _; exact Nat.le_of_eq rfl) (hb hby at_31) ?_
    rintro v34 T34 L34 X34 ⟨rfl, N34, e34⟩
    have M34 := Fr.app M33 N34
    rw [show own_abs (-1 : Int32)  = (1 : Int32) from by decide]
    show Go p e below _ T34 (mkF m 34 #[.val (.int p1), .val (.int (5 : Int32)), .val (.ref w_NORTH_WEST), .val (.int (1 : Int32)), .val (.int (1 : Int32)), .unset] [(.int (1 : Int32))])
    refine Go.st (T' := T34) (g' := (mkF m 35 #[.val (.int p1), .val (.int (5 : Int32)), .val (.ref w_NORTH_WEST), .val (.int (1 : Int32)), .val (.int (1 : Int32)), .unset] [(.ref w_NORTH_WEST), (.int (1 : Int32))])) ?_ (fun _ k => XS.aloadN X34.here hx rfl (hb hby at_34) rfl rfl k)
    refine Go.callV X34 hx hZ hown (hw _ (List.mem_of_getElem? (i := 25) rfl)) (hw _ (List.mem_of_getElem? (i := 26) rfl)) (hw _ (List.mem_of_getElem? (i := 28) rfl)) (hw _ (List.mem_of_getElem? (i := 27) rfl)) (hw _ (List.mem_of_getElem? (i := 5) rfl)) (hw _ (List.mem_of_getElem? (i := 29) rfl)) (by decide) A_NORTH_WEST (rm4 l Z a0 hw [] w_NORTH_WEST (1 : Int32)  h0 n0 Z0  F_NORTH_WEST_rows) e34 (by decide) (W := 1) (by decide) (by decide) (by decide) (g := (mkF m 35 #[.val (.int p1), .val (.int (5 : Int32)), .val (.ref w_NORTH_WEST), .val (.int (1 : Int32)), .val (.int (1 : Int32)), .unset] [(.ref w_NORTH_WEST), (.int (1 : Int32))])) (rest := [(.int (1 : Int32))]) rfl (by rw [hml]; rfl) (lenOf pd___I rfl) rfl (by show 2 * 0 + _ ≤ _; exact Nat.le_of_eq rfl) (hb hby at_35) ?_
    rintro v35 T35 L35 X35 ⟨rfl, N35, e35⟩
    have M35 := Fr.app M34 N35
    rw [show own_rows w_NORTH_WEST (1 : Int32)  = (1 : Int32) from by rw [own_rows]]
    show Go p e below _ T35 (mkF m 38 #[.val (.int p1), .val (.int (5 : Int32)), .val (.ref w_NORTH_WEST), .val (.int (1 : Int32)), .val (.int (1 : Int32)), .unset] [(.int (1 : Int32)), (.int (1 : Int32))])
    refine Go.callS X35 hx hZ hown (hw _ (List.mem_of_getElem? (i := 21) rfl)) (hw _ (List.mem_of_getElem? (i := 22) rfl)) (hw _ (List.mem_of_getElem? (i := 23) rfl)) (hw _ (List.mem_of_getElem? (i := 24) rfl)) (by decide) (rm5 l Z a0 hw [] (1 : Int32)  h0 n0 Z0 ) e35 (by decide) (W := 1) (by decide) (by decide) (by decide) (g := (mkF m 38 #[.val (.int p1), .val (.int (5 : Int32)), .val (.ref w_NORTH_WEST), .val (.int (1 : Int32)), .val (.int (1 : Int32)), .unset] [(.int (1 : Int32)), (.int (1 : Int32))])) (rest := [(.int (1 : Int32))]) rfl (by rw [hml]; rfl) (lenOf pd__I_I rfl) rfl (by show 2 * 0 + _ ≤ _; exact Nat.le_of_eq rfl) (hb hby at_38) ?_
    rintro v36 T36 L36 X36 ⟨rfl, N36, e36⟩
    have M36 := Fr.app M35 N36
    rw [show own_abs (1 : Int32)  = (1 : Int32) from by decide]
    show Go p e below _ T36 (mkF m 41 #[.val (.int p1), .val (.int (5 : Int32)), .val (.ref w_NORTH_WEST), .val (.int (1 : Int32)), .val (.int (1 : Int32)), .unset] [(.int (1 : Int32)), (.int (1 : Int32))])
    refine Go.st (T' := T36) (g' := (mkF m 42 #[.val (.int p1), .val (.int (5 : Int32)), .val (.ref w_NORTH_WEST), .val (.int (1 : Int32)), .val (.int (1 : Int32)), .unset] [(.int (2 : Int32))])) ?_ (fun _ k => XS.iadd X36.here hx rfl (hb hby at_41) rfl k)
    refine Go.st (T' := T36) (g' := (mkF m 43 #[.val (.int p1), .val (.int (5 : Int32)), .val (.ref w_NORTH_WEST), .val (.int (1 : Int32)), .val (.int (1 : Int32)), .unset] [(.int (2 : Int32)), (.int (2 : Int32))])) ?_ (fun _ k => XT.iconstV X36.here hx rfl (2 : Int32) (hb hby at_42) (by decide) k)
    refine Go.st (T' := T36) (g' := (mkF m 46 #[.val (.int p1), .val (.int (5 : Int32)), .val (.ref w_NORTH_WEST), .val (.int (1 : Int32)), .val (.int (1 : Int32)), .unset] [])) ?_ (fun _ k => XS.icmpNo X36.here hx rfl (hb hby at_43) rfl (by decide) k)
    refine Go.st (T' := T36) (g' := (mkF m 47 #[.val (.int p1), .val (.int (5 : Int32)), .val (.ref w_NORTH_WEST), .val (.int (1 : Int32)), .val (.int (1 : Int32)), .unset] [(.int (1 : Int32))])) ?_ (fun _ k => XT.iconstV X36.here hx rfl (1 : Int32) (hb hby at_46) (by decide) k)
    refine Go.st (T' := T36) (g' := (mkF m 51 #[.val (.int p1), .val (.int (5 : Int32)), .val (.ref w_NORTH_WEST), .val (.int (1 : Int32)), .val (.int (1 : Int32)), .unset] [(.int (1 : Int32))])) ?_ (fun _ k => XS.goto X36.here hx rfl (pc0 := 47) (pc' := 51) rfl (hb hby at_47) (by decide) (by decide) k)
    refine Go.st (T' := T36) (g' := (mkF m 53 #[.val (.int p1), .val (.int (5 : Int32)), .val (.ref w_NORTH_WEST), .val (.int (1 : Int32)), .val (.int (1 : Int32)), .val (.int (1 : Int32))] [])) ?_ (fun _ k => XS.istore X36.here hx rfl (hb hby at_51) rfl (l' := #[.val (.int p1), .val (.int (5 : Int32)), .val (.ref w_NORTH_WEST), .val (.int (1 : Int32)), .val (.int (1 : Int32)), .val (.int (1 : Int32))]) rfl k)
    refine Go.st (T' := T36) (g' := (mkF m 55 #[.val (.int p1), .val (.int (5 : Int32)), .val (.ref w_NORTH_WEST), .val (.int (1 : Int32)), .val (.int (1 : Int32)), .val (.int (1 : Int32))] [(.int (1 : Int32))])) ?_ (fun _ k => XS.iload X36.here hx rfl (hb hby at_53) rfl k)
    refine Go.st (T' := T36) (g' := (mkF m 56 #[.val (.int p1), .val (.int (5 : Int32)), .val (.ref w_NORTH_WEST), .val (.int (1 : Int32)), .val (.int (1 : Int32)), .val (.int (1 : Int32))] [(.int (1 : Int32)), (.int (1 : Int32))])) ?_ (fun _ k => XS.iloadN X36.here hx rfl (hb hby at_55) rfl k)
    refine Go.st (T' := T36) (g' := (mkF m 59 #[.val (.int p1), .val (.int (5 : Int32)), .val (.ref w_NORTH_WEST), .val (.int (1 : Int32)), .val (.int (1 : Int32)), .val (.int (1 : Int32))] [])) ?_ (fun _ k => XS.icmpNo X36.here hx rfl (hb hby at_56) rfl (by decide) k)
    refine Go.st (T' := T36) (g' := (mkF m 61 #[.val (.int p1), .val (.int (5 : Int32)), .val (.ref w_NORTH_WEST), .val (.int (1 : Int32)), .val (.int (1 : Int32)), .val (.int (1 : Int32))] [(.int (1 : Int32))])) ?_ (fun _ k => XS.iload X36.here hx rfl (hb hby at_59) rfl k)
    refine Go.st (T' := T36) (g' := (mkF m 63 #[.val (.int p1), .val (.int (5 : Int32)), .val (.ref w_NORTH_WEST), .val (.int (1 : Int32)), .val (.int (1 : Int32)), .val (.int (1 : Int32))] [(.int (1 : Int32)), (.int (1 : Int32))])) ?_ (fun _ k => XS.iload X36.here hx rfl (hb hby at_61) rfl k)
    refine Go.st (T' := T36) (g' := (mkF m 66 #[.val (.int p1), .val (.int (5 : Int32)), .val (.ref w_NORTH_WEST), .val (.int (1 : Int32)), .val (.int (1 : Int32)), .val (.int (1 : Int32))] [])) ?_ (fun _ k => XS.icmpNo X36.here hx rfl (hb hby at_63) rfl (by decide) k)
    refine Go.st (T' := T36) (g' := (mkF m 67 #[.val (.int p1), .val (.int (5 : Int32)), .val (.ref w_NORTH_WEST), .val (.int (1 : Int32)), .val (.int (1 : Int32)), .val (.int (1 : Int32))] [(.int (1 : Int32))])) ?_ (fun _ k => XT.iconstV X36.here hx rfl (1 : Int32) (hb hby at_66) (by decide) k)
    refine Go.st (T' := T36) (g' := (mkF m 71 #[.val (.int p1), .val (.int (5 : Int32)), .val (.ref w_NORTH_WEST), .val (.int (1 : Int32)), .val (.int (1 : Int32)), .val (.int (1 : Int32))] [(.int (1 : Int32))])) ?_ (fun _ k => XS.goto X36.here hx rfl (pc0 := 67) (pc' := 71) rfl (hb hby at_67) (by decide) (by decide) k)
    exact Go.retV (t := .boolean) X36 hx hret hlk (by decide) (by decide) rfl (Or.inl ⟨rfl, Or.inr (Or.inl rfl), _, rfl⟩) (hb hby at_71) ⟨rfl, M36⟩
  · rw [hk]
    refine Go.st (T' := s₁) (g' := (mkF m 5 #[.val (.int p1), .val (.int (6 : Int32)), .unset, .unset, .unset, .unset] [])) ?_ (fun _ k => XS.istoreN X0.here hx rfl (hb hby at_4) rfl (l' := #[.val (.int p1), .val (.int (6 : Int32)), .unset, .unset, .unset, .unset]) rfl k)
    refine Go.st (T' := s₁) (g' := (mkF m 6 #[.val (.int p1), .val (.int (6 : Int32)), .unset, .unset, .unset, .unset] [(.int (6 : Int32))])) ?_ (fun _ k => XS.iloadN X0.here hx rfl (hb hby at_5) rfl k)
    refine Go.callS X0 hx hZ hown (hw _ (List.mem_of_getElem? (i := 0) rfl)) (hw _ (List.mem_of_getElem? (i := 1) rfl)) (hw _ (List.mem_of_getElem? (i := 2) rfl)) (hw _ (List.mem_of_getElem? (i := 3) rfl)) (by decide) (rm1 l Z a0 hw [] (6 : Int32) w_EAST w_SOUTH w_SOUTH_WEST w_SOUTH_EAST w_WEST w_NORTH w_NORTH_EAST w_NORTH_WEST h0 n0 Z0 FF0 ) e0 (by decide) (W := 0) (by decide) (by decide) (by decide) (g := (mkF m 6 #[.val (.int p1), .val (.int (6 : Int32)), .unset, .unset, .unset, .unset] [(.int (6 : Int32))])) (rest := []) rfl (by rw [hml]; rfl) (lenOf pd__I_Lcom_example_amblesim_amblesim_model_Move_ rfl) rfl (by show 2 * 0 + _ ≤ _; exact Nat.le_of_eq rfl) (hb hby at_6) ?_
    rintro v37 T37 L37 X37 ⟨rfl, N37, e37⟩
    have M37 := Fr.app N0 N37
    rw [show own_pick (6 : Int32) w_EAST w_SOUTH w_SOUTH_WEST w_SOUTH_EAST w_WEST w_NORTH w_NORTH_EAST w_NORTH_WEST = w_SOUTH_WEST from by rw [own_pick, if_neg (by decide : ¬ (6 : Int32) = (0 : Int32)), if_neg (by decide : ¬ (6 : Int32) = (1 : Int32)), if_neg (by decide : ¬ (6 : Int32) = (2 : Int32)), if_neg (by decide : ¬ (6 : Int32) = (3 : Int32)), if_neg (by decide : ¬ (6 : Int32) = (4 : Int32)), if_neg (by decide : ¬ (6 : Int32) = (5 : Int32)), if_pos (rfl : (6 : Int32) = (6 : Int32))]]
    show Go p e below _ T37 (mkF m 9 #[.val (.int p1), .val (.int (6 : Int32)), .unset, .unset, .unset, .unset] [(.ref w_SOUTH_WEST)])
    refine Go.st (T' := T37) (g' := (mkF m 10 #[.val (.int p1), .val (.int (6 : Int32)), .val (.ref w_SOUTH_WEST), .unset, .unset, .unset] [])) ?_ (fun _ k => XS.astoreN X37.here hx rfl (hb hby at_9) rfl rfl (l' := #[.val (.int p1), .val (.int (6 : Int32)), .val (.ref w_SOUTH_WEST), .unset, .unset, .unset]) rfl k)
    refine Go.st (T' := T37) (g' := (mkF m 11 #[.val (.int p1), .val (.int (6 : Int32)), .val (.ref w_SOUTH_WEST), .unset, .unset, .unset] [(.int (6 : Int32))])) ?_ (fun _ k => XS.iloadN X37.here hx rfl (hb hby at_10) rfl k)
    refine Go.st (T' := T37) (g' := (mkF m 12 #[.val (.int p1), .val (.int (6 : Int32)), .val (.ref w_SOUTH_WEST), .unset, .unset, .unset] [(.int (4 : Int32)), (.int (6 : Int32))])) ?_ (fun _ k => XT.iconstV X37.here hx rfl (4 : Int32) (hb hby at_11) (by decide) k)
    refine Go.st (T' := T37) (g' := (mkF m 15 #[.val (.int p1), .val (.int (6 : Int32)), .val (.ref w_SOUTH_WEST), .unset, .unset, .unset] [])) ?_ (fun _ k => XS.icmpNo X37.here hx rfl (hb hby at_12) rfl (by decide) k)
    refine Go.st (T' := T37) (g' := (mkF m 16 #[.val (.int p1), .val (.int (6 : Int32)), .val (.ref w_SOUTH_WEST), .unset, .unset, .unset] [(.int (1 : Int32))])) ?_ (fun _ k => XT.iconstV X37.here hx rfl (1 : Int32) (hb hby at_15) (by decide) k)
    refine Go.st (T' := T37) (g' := (mkF m 20 #[.val (.int p1), .val (.int (6 : Int32)), .val (.ref w_SOUTH_WEST), .unset, .unset, .unset] [(.int (1 : Int32))])) ?_ (fun _ k => XS.goto X37.here hx rfl (pc0 := 16) (pc' := 20) rfl (hb hby at_16) (by decide) (by decide) k)
    refine Go.st (T' := T37) (g' := (mkF m 21 #[.val (.int p1), .val (.int (6 : Int32)), .val (.ref w_SOUTH_WEST), .val (.int (1 : Int32)), .unset, .unset] [])) ?_ (fun _ k => XS.istoreN X37.here hx rfl (hb hby at_20) rfl (l' := #[.val (.int p1), .val (.int (6 : Int32)), .val (.ref w_SOUTH_WEST), .val (.int (1 : Int32)), .unset, .unset]) rfl k)
    refine Go.st (T' := T37) (g' := (mkF m 22 #[.val (.int p1), .val (.int (6 : Int32)), .val (.ref w_SOUTH_WEST), .val (.int (1 : Int32)), .unset, .unset] [(.ref w_SOUTH_WEST)])) ?_ (fun _ k => XS.aloadN X37.here hx rfl (hb hby at_21) rfl rfl k)
    refine Go.callV X37 hx hZ hown (hw _ (List.mem_of_getElem? (i := 7) rfl)) (hw _ (List.mem_of_getElem? (i := 8) rfl)) (hw _ (List.mem_of_getElem? (i := 10) rfl)) (hw _ (List.mem_of_getElem? (i := 9) rfl)) (hw _ (List.mem_of_getElem? (i := 5) rfl)) (hw _ (List.mem_of_getElem? (i := 11) rfl)) (by decide) A_SOUTH_WEST (rm2 l Z a0 hw [] w_SOUTH_WEST (-1 : Int32) (-1 : Int32)  h0 n0 Z0  F_SOUTH_WEST_columns F_SOUTH_WEST_rows) e37 (by decide) (W := 0) (by decide) (by decide) (by decide) (g := (mkF m 22 #[.val (.int p1), .val (.int (6 : Int32)), .val (.ref w_SOUTH_WEST), .val (.int (1 : Int32)), .unset, .unset] [(.ref w_SOUTH_WEST)])) (rest := []) rfl (by rw [hml]; rfl) (lenOf pd___Z rfl) rfl (by show 2 * 0 + _ ≤ _; exact Nat.le_of_eq rfl) (hb hby at_22) ?_
    rintro v38 T38 L38 X38 ⟨rfl, N38, e38⟩
    have M38 := Fr.app M37 N38
    rw [show own_diag w_SOUTH_WEST (-1 : Int32) (-1 : Int32)  = (1 : Int32) from by rw [own_diag, if_neg (by decide : ¬ (-1 : Int32) = (0 : Int32)), if_neg (by decide : ¬ (-1 : Int32) = (0 : Int32))]]
    show Go p e below _ T38 (mkF m 25 #[.val (.int p1), .val (.int (6 : Int32)), .val (.ref w_SOUTH_WEST), .val (.int (1 : Int32)), .unset, .unset] [(.int (1 : Int32))])
    refine Go.st (T' := T38) (g' := (mkF m 27 #[.val (.int p1), .val (.int (6 : Int32)), .val (.ref w_SOUTH_WEST), .val (.int (1 : Int32)), .val (.int (1 : Int32)), .unset] [])) ?_ (fun _ k => XS.istore X38.here hx rfl (hb hby at_25) rfl (l' := #[.val (.int p1), .val (.int (6 : Int32)), .val (.ref w_SOUTH_WEST), .val (.int (1 : Int32)), .val (.int (1 : Int32)), .unset]) rfl k)
    refine Go.st (T' := T38) (g' := (mkF m 28 #[.val (.int p1), .val (.int (6 : Int32)), .val (.ref w_SOUTH_WEST), .val (.int (1 : Int32)), .val (.int (1 : Int32)), .unset] [(.ref w_SOUTH_WEST)])) ?_ (fun _ k => XS.aloadN X38.here hx rfl (hb hby at_27) rfl rfl k)
    refine Go.callV X38 hx hZ hown (hw _ (List.mem_of_getElem? (i := 16) rfl)) (hw _ (List.mem_of_getElem? (i := 17) rfl)) (hw _ (List.mem_of_getElem? (i := 19) rfl)) (hw _ (List.mem_of_getElem? (i := 18) rfl)) (hw _ (List.mem_of_getElem? (i := 5) rfl)) (hw _ (List.mem_of_getElem? (i := 20) rfl)) (by decide) A_SOUTH_WEST (rm3 l Z a0 hw [] w_SOUTH_WEST (-1 : Int32)  h0 n0 Z0  F_SOUTH_WEST_columns) e38 (by decide) (W := 0) (by decide) (by decide) (by decide) (g := (mkF m 28 #[.val (.int p1), .val (.int (6 : Int32)), .val (.ref w_SOUTH_WEST), .val (.int (1 : Int32)), .val (.int (1 : Int32)), .unset] [(.ref w_SOUTH_WEST)])) (rest := []) rfl (by rw [hml]; rfl) (lenOf pd___I rfl) rfl (by show 2 * 0 + _ ≤ _; exact Nat.le_of_eq rfl) (hb hby at_28) ?_
    rintro v39 T39 L39 X39 ⟨rfl, N39, e39⟩
    have M39 := Fr.app M38 N39
    rw [show own_cols w_SOUTH_WEST (-1 : Int32)  = (-1 : Int32) from by rw [own_cols]]
    show Go p e below _ T39 (mkF m 31 #[.val (.int p1), .val (.int (6 : Int32)), .val (.ref w_SOUTH_WEST), .val (.int (1 : Int32)), .val (.int (1 : Int32)), .unset] [(.int (-1 : Int32))])
    refine Go.callS X39 hx hZ hown (hw _ (List.mem_of_getElem? (i := 21) rfl)) (hw _ (List.mem_of_getElem? (i := 22) rfl)) (hw _ (List.mem_of_getElem? (i := 23) rfl)) (hw _ (List.mem_of_getElem? (i := 24) rfl)) (by decide) (rm5 l Z a0 hw [] (-1 : Int32)  h0 n0 Z0 ) e39 (by decide) (W := 0) (by decide) (by decide) (by decide) (g := (mkF m 31 #[.val (.int p1), .val (.int (6 : Int32)), .val (.ref w_SOUTH_WEST), .val (.int (1 : Int32)), .val (.int (1 : Int32)), .unset] [(.int (-1 : Int32))])) (rest := []) rfl (by rw [hml]; rfl) (lenOf pd__I_I rfl) rfl (by show 2 * 0 + _ ≤ _; exact Nat.le_of_eq rfl) (hb hby at_31) ?_
    rintro v40 T40 L40 X40 ⟨rfl, N40, e40⟩
    have M40 := Fr.app M39 N40
    rw [show own_abs (-1 : Int32)  = (1 : Int32) from by decide]
    show Go p e below _ T40 (mkF m 34 #[.val (.int p1), .val (.int (6 : Int32)), .val (.ref w_SOUTH_WEST), .val (.int (1 : Int32)), .val (.int (1 : Int32)), .unset] [(.int (1 : Int32))])
    refine Go.st (T' := T40) (g' := (mkF m 35 #[.val (.int p1), .val (.int (6 : Int32)), .val (.ref w_SOUTH_WEST), .val (.int (1 : Int32)), .val (.int (1 : Int32)), .unset] [(.ref w_SOUTH_WEST), (.int (1 : Int32))])) ?_ (fun _ k => XS.aloadN X40.here hx rfl (hb hby at_34) rfl rfl k)
    refine Go.callV X40 hx hZ hown (hw _ (List.mem_of_getElem? (i := 25) rfl)) (hw _ (List.mem_of_getElem? (i := 26) rfl)) (hw _ (List.mem_of_getElem? (i := 28) rfl)) (hw _ (List.mem_of_getElem? (i := 27) rfl)) (hw _ (List.mem_of_getElem? (i := 5) rfl)) (hw _ (List.mem_of_getElem? (i := 29) rfl)) (by decide) A_SOUTH_WEST (rm4 l Z a0 hw [] w_SOUTH_WEST (-1 : Int32)  h0 n0 Z0  F_SOUTH_WEST_rows) e40 (by decide) (W := 1) (by decide) (by decide) (by decide) (g := (mkF m 35 #[.val (.int p1), .val (.int (6 : Int32)), .val (.ref w_SOUTH_WEST), .val (.int (1 : Int32)), .val (.int (1 : Int32)), .unset] [(.ref w_SOUTH_WEST), (.int (1 : Int32))])) (rest := [(.int (1 : Int32))]) rfl (by rw [hml]; rfl) (lenOf pd___I rfl) rfl (by show 2 * 0 + _ ≤ _; exact Nat.le_of_eq rfl) (hb hby at_35) ?_
    rintro v41 T41 L41 X41 ⟨rfl, N41, e41⟩
    have M41 := Fr.app M40 N41
    rw [show own_rows w_SOUTH_WEST (-1 : Int32)  = (-1 : Int32) from by rw [own_rows]]
    show Go p e below _ T41 (mkF m 38 #[.val (.int p1), .val (.int (6 : Int32)), .val (.ref w_SOUTH_WEST), .val (.int (1 : Int32)), .val (.int (1 : Int32)), .unset] [(.int (-1 : Int32)), (.int (1 : Int32))])
    refine Go.callS X41 hx hZ hown (hw _ (List.mem_of_getElem? (i := 21) rfl)) (hw _ (List.mem_of_getElem? (i := 22) rfl)) (hw _ (List.mem_of_getElem? (i := 23) rfl)) (hw _ (List.mem_of_getElem? (i := 24) rfl)) (by decide) (rm5 l Z a0 hw [] (-1 : Int32)  h0 n0 Z0 ) e41 (by decide) (W := 1) (by decide) (by decide) (by decide) (g := (mkF m 38 #[.val (.int p1), .val (.int (6 : Int32)), .val (.ref w_SOUTH_WEST), .val (.int (1 : Int32)), .val (.int (1 : Int32)), .unset] [(.int (-1 : Int32)), (.int (1 : Int32))])) (rest := [(.int (1 : Int32))]) rfl (by rw [hml]; rfl) (lenOf pd__I_I rfl) rfl (by show 2 * 0 + _ ≤ _; exact Nat.le_of_eq rfl) (hb hby at_38) ?_
    rintro v42 T42 L42 X42 ⟨rfl, N42, e42⟩
    have M42 := Fr.app M41 N42
    rw [show own_abs (-1 : Int32)  = (1 : Int32) from by decide]
    show Go p e below _ T42 (mkF m 41 #[.val (.int p1), .val (.int (6 : Int32)), .val (.ref w_SOUTH_WEST), .val (.int (1 : Int32)), .val (.int (1 : Int32)), .unset] [(.int (1 : Int32)), (.int (1 : Int32))])
    refine Go.st (T' := T42) (g' := (mkF m 42 #[.val (.int p1), .val (.int (6 : Int32)), .val (.ref w_SOUTH_WEST), .val (.int (1 : Int32)), .val (.int (1 : Int32)), .unset] [(.int (2 : Int32))])) ?_ (fun _ k => XS.iadd X42.here hx rfl (hb hby at_41) rfl k)
    refine Go.st (T' := T42) (g' := (mkF m 43 #[.val (.int p1), .val (.int (6 : Int32)), .val (.ref w_SOUTH_WEST), .val (.int (1 : Int32)), .val (.int (1 : Int32)), .unset] [(.int (2 : Int32)), (.int (2 : Int32))])) ?_ (fun _ k => XT.iconstV X42.here hx rfl (2 : Int32) (hb hby at_42) (by decide) k)
    refine Go.st (T' := T42) (g' := (mkF m 46 #[.val (.int p1), .val (.int (6 : Int32)), .val (.ref w_SOUTH_WEST), .val (.int (1 : Int32)), .val (.int (1 : Int32)), .unset] [])) ?_ (fun _ k => XS.icmpNo X42.here hx rfl (hb hby at_43) rfl (by decide) k)
    refine Go.st (T' := T42) (g' := (mkF m 47 #[.val (.int p1), .val (.int (6 : Int32)), .val (.ref w_SOUTH_WEST), .val (.int (1 : Int32)), .val (.int (1 : Int32)), .unset] [(.int (1 : Int32))])) ?_ (fun _ k => XT.iconstV X42.here hx rfl (1 : Int32) (hb hby at_46) (by decide) k)
    refine Go.st (T' := T42) (g' := (mkF m 51 #[.val (.int p1), .val (.int (6 : Int32)), .val (.ref w_SOUTH_WEST), .val (.int (1 : Int32)), .val (.int (1 : Int32)), .unset] [(.int (1 : Int32))])) ?_ (fun _ k => XS.goto X42.here hx rfl (pc0 := 47) (pc' := 51) rfl (hb hby at_47) (by decide) (by decide) k)
    refine Go.st (T' := T42) (g' := (mkF m 53 #[.val (.int p1), .val (.int (6 : Int32)), .val (.ref w_SOUTH_WEST), .val (.int (1 : Int32)), .val (.int (1 : Int32)), .val (.int (1 : Int32))] [])) ?_ (fun _ k => XS.istore X42.here hx rfl (hb hby at_51) rfl (l' := #[.val (.int p1), .val (.int (6 : Int32)), .val (.ref w_SOUTH_WEST), .val (.int (1 : Int32)), .val (.int (1 : Int32)), .val (.int (1 : Int32))]) rfl k)
    refine Go.st (T' := T42) (g' := (mkF m 55 #[.val (.int p1), .val (.int (6 : Int32)), .val (.ref w_SOUTH_WEST), .val (.int (1 : Int32)), .val (.int (1 : Int32)), .val (.int (1 : Int32))] [(.int (1 : Int32))])) ?_ (fun _ k => XS.iload X42.here hx rfl (hb hby at_53) rfl k)
    refine Go.st (T' := T42) (g' := (mkF m 56 #[.val (.int p1), .val (.int (6 : Int32)), .val (.ref w_SOUTH_WEST), .val (.int (1 : Int32)), .val (.int (1 : Int32)), .val (.int (1 : Int32))] [(.int (1 : Int32)), (.int (1 : Int32))])) ?_ (fun _ k => XS.iloadN X42.here hx rfl (hb hby at_55) rfl k)
    refine Go.st (T' := T42) (g' := (mkF m 59 #[.val (.int p1), .val (.int (6 : Int32)), .val (.ref w_SOUTH_WEST), .val (.int (1 : Int32)), .val (.int (1 : Int32)), .val (.int (1 : Int32))] [])) ?_ (fun _ k => XS.icmpNo X42.here hx rfl (hb hby at_56) rfl (by decide) k)
    refine Go.st (T' := T42) (g' := (mkF m 61 #[.val (.int p1), .val (.int (6 : Int32)), .val (.ref w_SOUTH_WEST), .val (.int (1 : Int32)), .val (.int (1 : Int32)), .val (.int (1 : Int32))] [(.int (1 : Int32))])) ?_ (fun _ k => XS.iload X42.here hx rfl (hb hby at_59) rfl k)
    refine Go.st (T' := T42) (g' := (mkF m 63 #[.val (.int p1), .val (.int (6 : Int32)), .val (.ref w_SOUTH_WEST), .val (.int (1 : Int32)), .val (.int (1 : Int32)), .val (.int (1 : Int32))] [(.int (1 : Int32)), (.int (1 : Int32))])) ?_ (fun _ k => XS.iload X42.here hx rfl (hb hby at_61) rfl k)
    refine Go.st (T' := T42) (g' := (mkF m 66 #[.val (.int p1), .val (.int (6 : Int32)), .val (.ref w_SOUTH_WEST), .val (.int (1 : Int32)), .val (.int (1 : Int32)), .val (.int (1 : Int32))] [])) ?_ (fun _ k => XS.icmpNo X42.here hx rfl (hb hby at_63) rfl (by decide) k)
    refine Go.st (T' := T42) (g' := (mkF m 67 #[.val (.int p1), .val (.int (6 : Int32)), .val (.ref w_SOUTH_WEST), .val (.int (1 : Int32)), .val (.int (1 : Int32)), .val (.int (1 : Int32))] [(.int (1 : Int32))])) ?_ (fun _ k => XT.iconstV X42.here hx rfl (1 : Int32) (hb hby at_66) (by decide) k)
    refine Go.st (T' := T42) (g' := (mkF m 71 #[.val (.int p1), .val (.int (6 : Int32)), .val (.ref w_SOUTH_WEST), .val (.int (1 : Int32)), .val (.int (1 : Int32)), .val (.int (1 : Int32))] [(.int (1 : Int32))])) ?_ (fun _ k => XS.goto X42.here hx rfl (pc0 := 67) (pc' := 71) rfl (hb hby at_67) (by decide) (by decide) k)
    exact Go.retV (t := .boolean) X42 hx hret hlk (by decide) (by decide) rfl (Or.inl ⟨rfl, Or.inr (Or.inl rfl), _, rfl⟩) (hb hby at_71) ⟨rfl, M42⟩
  · rw [hk]
    refine Go.st (T' := s₁) (g' := (mkF m 5 #[.val (.int p1), .val (.int (7 : Int32)), .unset, .unset, .unset, .unset] [])) ?_ (fun _ k => XS.istoreN X0.here hx rfl (hb hby at_4) rfl (l' := #[.val (.int p1), .val (.int (7 : Int32)), .unset, .unset, .unset, .unset]) rfl k)
    refine Go.st (T' := s₁) (g' := (mkF m 6 #[.val (.int p1), .val (.int (7 : Int32)), .unset, .unset, .unset, .unset] [(.int (7 : Int32))])) ?_ (fun _ k => XS.iloadN X0.here hx rfl (hb hby at_5) rfl k)
    refine Go.callS X0 hx hZ hown (hw _ (List.mem_of_getElem? (i := 0) rfl)) (hw _ (List.mem_of_getElem? (i := 1) rfl)) (hw _ (List.mem_of_getElem? (i := 2) rfl)) (hw _ (List.mem_of_getElem? (i := 3) rfl)) (by decide) (rm1 l Z a0 hw [] (7 : Int32) w_EAST w_SOUTH w_SOUTH_WEST w_SOUTH_EAST w_WEST w_NORTH w_NORTH_EAST w_NORTH_WEST h0 n0 Z0 FF0 ) e0 (by decide) (W := 0) (by decide) (by decide) (by decide) (g := (mkF m 6 #[.val (.int p1), .val (.int (7 : Int32)), .unset, .unset, .unset, .unset] [(.int (7 : Int32))])) (rest := []) rfl (by rw [hml]; rfl) (lenOf pd__I_Lcom_example_amblesim_amblesim_model_Move_ rfl) rfl (by show 2 * 0 + _ ≤ _; exact Nat.le_of_eq rfl) (hb hby at_6) ?_
    rintro v43 T43 L43 X43 ⟨rfl, N43, e43⟩
    have M43 := Fr.app N0 N43
    rw [show own_pick (7 : Int32) w_EAST w_SOUTH w_SOUTH_WEST w_SOUTH_EAST w_WEST w_NORTH w_NORTH_EAST w_NORTH_WEST = w_SOUTH_EAST from by rw [own_pick, if_neg (by decide : ¬ (7 : Int32) = (0 : Int32)), if_neg (by decide : ¬ (7 : Int32) = (1 : Int32)), if_neg (by decide : ¬ (7 : Int32) = (2 : Int32)), if_neg (by decide : ¬ (7 : Int32) = (3 : Int32)), if_neg (by decide : ¬ (7 : Int32) = (4 : Int32)), if_neg (by decide : ¬ (7 : Int32) = (5 : Int32)), if_neg (by decide : ¬ (7 : Int32) = (6 : Int32))]]
    show Go p e below _ T43 (mkF m 9 #[.val (.int p1), .val (.int (7 : Int32)), .unset, .unset, .unset, .unset] [(.ref w_SOUTH_EAST)])
    refine Go.st (T' := T43) (g' := (mkF m 10 #[.val (.int p1), .val (.int (7 : Int32)), .val (.ref w_SOUTH_EAST), .unset, .unset, .unset] [])) ?_ (fun _ k => XS.astoreN X43.here hx rfl (hb hby at_9) rfl rfl (l' := #[.val (.int p1), .val (.int (7 : Int32)), .val (.ref w_SOUTH_EAST), .unset, .unset, .unset]) rfl k)
    refine Go.st (T' := T43) (g' := (mkF m 11 #[.val (.int p1), .val (.int (7 : Int32)), .val (.ref w_SOUTH_EAST), .unset, .unset, .unset] [(.int (7 : Int32))])) ?_ (fun _ k => XS.iloadN X43.here hx rfl (hb hby at_10) rfl k)
    refine Go.st (T' := T43) (g' := (mkF m 12 #[.val (.int p1), .val (.int (7 : Int32)), .val (.ref w_SOUTH_EAST), .unset, .unset, .unset] [(.int (4 : Int32)), (.int (7 : Int32))])) ?_ (fun _ k => XT.iconstV X43.here hx rfl (4 : Int32) (hb hby at_11) (by decide) k)
    refine Go.st (T' := T43) (g' := (mkF m 15 #[.val (.int p1), .val (.int (7 : Int32)), .val (.ref w_SOUTH_EAST), .unset, .unset, .unset] [])) ?_ (fun _ k => XS.icmpNo X43.here hx rfl (hb hby at_12) rfl (by decide) k)
    refine Go.st (T' := T43) (g' := (mkF m 16 #[.val (.int p1), .val (.int (7 : Int32)), .val (.ref w_SOUTH_EAST), .unset, .unset, .unset] [(.int (1 : Int32))])) ?_ (fun _ k => XT.iconstV X43.here hx rfl (1 : Int32) (hb hby at_15) (by decide) k)
    refine Go.st (T' := T43) (g' := (mkF m 20 #[.val (.int p1), .val (.int (7 : Int32)), .val (.ref w_SOUTH_EAST), .unset, .unset, .unset] [(.int (1 : Int32))])) ?_ (fun _ k => XS.goto X43.here hx rfl (pc0 := 16) (pc' := 20) rfl (hb hby at_16) (by decide) (by decide) k)
    refine Go.st (T' := T43) (g' := (mkF m 21 #[.val (.int p1), .val (.int (7 : Int32)), .val (.ref w_SOUTH_EAST), .val (.int (1 : Int32)), .unset, .unset] [])) ?_ (fun _ k => XS.istoreN X43.here hx rfl (hb hby at_20) rfl (l' := #[.val (.int p1), .val (.int (7 : Int32)), .val (.ref w_SOUTH_EAST), .val (.int (1 : Int32)), .unset, .unset]) rfl k)
    refine Go.st (T' := T43) (g' := (mkF m 22 #[.val (.int p1), .val (.int (7 : Int32)), .val (.ref w_SOUTH_EAST), .val (.int (1 : Int32)), .unset, .unset] [(.ref w_SOUTH_EAST)])) ?_ (fun _ k => XS.aloadN X43.here hx rfl (hb hby at_21) rfl rfl k)
    refine Go.callV X43 hx hZ hown (hw _ (List.mem_of_getElem? (i := 7) rfl)) (hw _ (List.mem_of_getElem? (i := 8) rfl)) (hw _ (List.mem_of_getElem? (i := 10) rfl)) (hw _ (List.mem_of_getElem? (i := 9) rfl)) (hw _ (List.mem_of_getElem? (i := 5) rfl)) (hw _ (List.mem_of_getElem? (i := 11) rfl)) (by decide) A_SOUTH_EAST (rm2 l Z a0 hw [] w_SOUTH_EAST (1 : Int32) (-1 : Int32)  h0 n0 Z0  F_SOUTH_EAST_columns F_SOUTH_EAST_rows) e43 (by decide) (W := 0) (by decide) (by decide) (by decide) (g := (mkF m 22 #[.val (.int p1), .val (.int (7 : Int32)), .val (.ref w_SOUTH_EAST), .val (.int (1 : Int32)), .unset, .unset] [(.ref w_SOUTH_EAST)])) (rest := []) rfl (by rw [hml]; rfl) (lenOf pd___Z rfl) rfl (by show 2 * 0 + _ ≤ _; exact Nat.le_of_eq rfl) (hb hby at_22) ?_
    rintro v44 T44 L44 X44 ⟨rfl, N44, e44⟩
    have M44 := Fr.app M43 N44
    rw [show own_diag w_SOUTH_EAST (1 : Int32) (-1 : Int32)  = (1 : Int32) from by rw [own_diag, if_neg (by decide : ¬ (1 : Int32) = (0 : Int32)), if_neg (by decide : ¬ (-1 : Int32) = (0 : Int32))]]
    show Go p e below _ T44 (mkF m 25 #[.val (.int p1), .val (.int (7 : Int32)), .val (.ref w_SOUTH_EAST), .val (.int (1 : Int32)), .unset, .unset] [(.int (1 : Int32))])
    refine Go.st (T' := T44) (g' := (mkF m 27 #[.val (.int p1), .val (.int (7 : Int32)), .val (.ref w_SOUTH_EAST), .val (.int (1 : Int32)), .val (.int (1 : Int32)), .unset] [])) ?_ (fun _ k => XS.istore X44.here hx rfl (hb hby at_25) rfl (l' := #[.val (.int p1), .val (.int (7 : Int32)), .val (.ref w_SOUTH_EAST), .val (.int (1 : Int32)), .val (.int (1 : Int32)), .unset]) rfl k)
    refine Go.st (T' := T44) (g' := (mkF m 28 #[.val (.int p1), .val (.int (7 : Int32)), .val (.ref w_SOUTH_EAST), .val (.int (1 : Int32)), .val (.int (1 : Int32)), .unset] [(.ref w_SOUTH_EAST)])) ?_ (fun _ k => XS.aloadN X44.here hx rfl (hb hby at_27) rfl rfl k)
    refine Go.callV X44 hx hZ hown (hw _ (List.mem_of_getElem? (i := 16) rfl)) (hw _ (List.mem_of_getElem? (i := 17) rfl)) (hw _ (List.mem_of_getElem? (i := 19) rfl)) (hw _ (List.mem_of_getElem? (i := 18) rfl)) (hw _ (List.mem_of_getElem? (i := 5) rfl)) (hw _ (List.mem_of_getElem? (i := 20) rfl)) (by decide) A_SOUTH_EAST (rm3 l Z a0 hw [] w_SOUTH_EAST (1 : Int32)  h0 n0 Z0  F_SOUTH_EAST_columns) e44 (by decide) (W := 0) (by decide) (by decide) (by decide) (g := (mkF m 28 #[.val (.int p1), .val (.int (7 : Int32)), .val (.ref w_SOUTH_EAST), .val (.int (1 : Int32)), .val (.int (1 : Int32)), .unset] [(.ref w_SOUTH_EAST)])) (rest := []) rfl (by rw [hml]; rfl) (lenOf pd___I rfl) rfl (by show 2 * 0 + _ ≤ _; exact Nat.le_of_eq rfl) (hb hby at_28) ?_
    rintro v45 T45 L45 X45 ⟨rfl, N45, e45⟩
    have M45 := Fr.app M44 N45
    rw [show own_cols w_SOUTH_EAST (1 : Int32)  = (1 : Int32) from by rw [own_cols]]
    show Go p e below _ T45 (mkF m 31 #[.val (.int p1), .val (.int (7 : Int32)), .val (.ref w_SOUTH_EAST), .val (.int (1 : Int32)), .val (.int (1 : Int32)), .unset] [(.int (1 : Int32))])
    refine Go.callS X45 hx hZ hown (hw _ (List.mem_of_getElem? (i := 21) rfl)) (hw _ (List.mem_of_getElem? (i := 22) rfl)) (hw _ (List.mem_of_getElem? (i := 23) rfl)) (hw _ (List.mem_of_getElem? (i := 24) rfl)) (by decide) (rm5 l Z a0 hw [] (1 : Int32)  h0 n0 Z0 ) e45 (by decide) (W := 0) (by decide) (by decide) (by decide) (g := (mkF m 31 #[.val (.int p1), .val (.int (7 : Int32)), .val (.ref w_SOUTH_EAST), .val (.int (1 : Int32)), .val (.int (1 : Int32)), .unset] [(.int (1 : Int32))])) (rest := []) rfl (by rw [hml]; rfl) (lenOf pd__I_I rfl) rfl (by show 2 * 0 + _ ≤ _; exact Nat.le_of_eq rfl) (hb hby at_31) ?_
    rintro v46 T46 L46 X46 ⟨rfl, N46, e46⟩
    have M46 := Fr.app M45 N46
    rw [show own_abs (1 : Int32)  = (1 : Int32) from by decide]
    show Go p e below _ T46 (mkF m 34 #[.val (.int p1), .val (.int (7 : Int32)), .val (.ref w_SOUTH_EAST), .val (.int (1 : Int32)), .val (.int (1 : Int32)), .unset] [(.int (1 : Int32))])
    refine Go.st (T' := T46) (g' := (mkF m 35 #[.val (.int p1), .val (.int (7 : Int32)), .val (.ref w_SOUTH_EAST), .val (.int (1 : Int32)), .val (.int (1 : Int32)), .unset] [(.ref w_SOUTH_EAST), (.int (1 : Int32))])) ?_ (fun _ k => XS.aloadN X46.here hx rfl (hb hby at_34) rfl rfl k)
    refine Go.callV X46 hx hZ hown (hw _ (List.mem_of_getElem? (i := 25) rfl)) (hw _ (List.mem_of_getElem? (i := 26) rfl)) (hw _ (List.mem_of_getElem? (i := 28) rfl)) (hw _ (List.mem_of_getElem? (i := 27) rfl)) (hw _ (List.mem_of_getElem? (i := 5) rfl)) (hw _ (List.mem_of_getElem? (i := 29) rfl)) (by decide) A_SOUTH_EAST (rm4 l Z a0 hw [] w_SOUTH_EAST (-1 : Int32)  h0 n0 Z0  F_SOUTH_EAST_rows) e46 (by decide) (W := 1) (by decide) (by decide) (by decide) (g := (mkF m 35 #[.val (.int p1), .val (.int (7 : Int32)), .val (.ref w_SOUTH_EAST), .val (.int (1 : Int32)), .val (.int (1 : Int32)), .unset] [(.ref w_SOUTH_EAST), (.int (1 : Int32))])) (rest := [(.int (1 : Int32))]) rfl (by rw [hml]; rfl) (lenOf pd___I rfl) rfl (by show 2 * 0 + _ ≤ _; exact Nat.le_of_eq rfl) (hb hby at_35) ?_
    rintro v47 T47 L47 X47 ⟨rfl, N47, e47⟩
    have M47 := Fr.app M46 N47
    rw [show own_rows w_SOUTH_EAST (-1 : Int32)  = (-1 : Int32) from by rw [own_rows]]
    show Go p e below _ T47 (mkF m 38 #[.val (.int p1), .val (.int (7 : Int32)), .val (.ref w_SOUTH_EAST), .val (.int (1 : Int32)), .val (.int (1 : Int32)), .unset] [(.int (-1 : Int32)), (.int (1 : Int32))])
    refine Go.callS X47 hx hZ hown (hw _ (List.mem_of_getElem? (i := 21) rfl)) (hw _ (List.mem_of_getElem? (i := 22) rfl)) (hw _ (List.mem_of_getElem? (i := 23) rfl)) (hw _ (List.mem_of_getElem? (i := 24) rfl)) (by decide) (rm5 l Z a0 hw [] (-1 : Int32)  h0 n0 Z0 ) e47 (by decide) (W := 1) (by decide) (by decide) (by decide) (g := (mkF m 38 #[.val (.int p1), .val (.int (7 : Int32)), .val (.ref w_SOUTH_EAST), .val (.int (1 : Int32)), .val (.int (1 : Int32)), .unset] [(.int (-1 : Int32)), (.int (1 : Int32))])) (rest := [(.int (1 : Int32))]) rfl (by rw [hml]; rfl) (lenOf pd__I_I rfl) rfl (by show 2 * 0 + _ ≤ _; exact Nat.le_of_eq rfl) (hb hby at_38) ?_
    rintro v48 T48 L48 X48 ⟨rfl, N48, e48⟩
    have M48 := Fr.app M47 N48
    rw [show own_abs (-1 : Int32)  = (1 : Int32) from by decide]
    show Go p e below _ T48 (mkF m 41 #[.val (.int p1), .val (.int (7 : Int32)), .val (.ref w_SOUTH_EAST), .val (.int (1 : Int32)), .val (.int (1 : Int32)), .unset] [(.int (1 : Int32)), (.int (1 : Int32))])
    refine Go.st (T' := T48) (g' := (mkF m 42 #[.val (.int p1), .val (.int (7 : Int32)), .val (.ref w_SOUTH_EAST), .val (.int (1 : Int32)), .val (.int (1 : Int32)), .unset] [(.int (2 : Int32))])) ?_ (fun _ k => XS.iadd X48.here hx rfl (hb hby at_41) rfl k)
    refine Go.st (T' := T48) (g' := (mkF m 43 #[.val (.int p1), .val (.int (7 : Int32)), .val (.ref w_SOUTH_EAST), .val (.int (1 : Int32)), .val (.int (1 : Int32)), .unset] [(.int (2 : Int32)), (.int (2 : Int32))])) ?_ (fun _ k => XT.iconstV X48.here hx rfl (2 : Int32) (hb hby at_42) (by decide) k)
    refine Go.st (T' := T48) (g' := (mkF m 46 #[.val (.int p1), .val (.int (7 : Int32)), .val (.ref w_SOUTH_EAST), .val (.int (1 : Int32)), .val (.int (1 : Int32)), .unset] [])) ?_ (fun _ k => XS.icmpNo X48.here hx rfl (hb hby at_43) rfl (by decide) k)
    refine Go.st (T' := T48) (g' := (mkF m 47 #[.val (.int p1), .val (.int (7 : Int32)), .val (.ref w_SOUTH_EAST), .val (.int (1 : Int32)), .val (.int (1 : Int32)), .unset] [(.int (1 : Int32))])) ?_ (fun _ k => XT.iconstV X48.here hx rfl (1 : Int32) (hb hby at_46) (by decide) k)
    refine Go.st (T' := T48) (g' := (mkF m 51 #[.val (.int p1), .val (.int (7 : Int32)), .val (.ref w_SOUTH_EAST), .val (.int (1 : Int32)), .val (.int (1 : Int32)), .unset] [(.int (1 : Int32))])) ?_ (fun _ k => XS.goto X48.here hx rfl (pc0 := 47) (pc' := 51) rfl (hb hby at_47) (by decide) (by decide) k)
    refine Go.st (T' := T48) (g' := (mkF m 53 #[.val (.int p1), .val (.int (7 : Int32)), .val (.ref w_SOUTH_EAST), .val (.int (1 : Int32)), .val (.int (1 : Int32)), .val (.int (1 : Int32))] [])) ?_ (fun _ k => XS.istore X48.here hx rfl (hb hby at_51) rfl (l' := #[.val (.int p1), .val (.int (7 : Int32)), .val (.ref w_SOUTH_EAST), .val (.int (1 : Int32)), .val (.int (1 : Int32)), .val (.int (1 : Int32))]) rfl k)
    refine Go.st (T' := T48) (g' := (mkF m 55 #[.val (.int p1), .val (.int (7 : Int32)), .val (.ref w_SOUTH_EAST), .val (.int (1 : Int32)), .val (.int (1 : Int32)), .val (.int (1 : Int32))] [(.int (1 : Int32))])) ?_ (fun _ k => XS.iload X48.here hx rfl (hb hby at_53) rfl k)
    refine Go.st (T' := T48) (g' := (mkF m 56 #[.val (.int p1), .val (.int (7 : Int32)), .val (.ref w_SOUTH_EAST), .val (.int (1 : Int32)), .val (.int (1 : Int32)), .val (.int (1 : Int32))] [(.int (1 : Int32)), (.int (1 : Int32))])) ?_ (fun _ k => XS.iloadN X48.here hx rfl (hb hby at_55) rfl k)
    refine Go.st (T' := T48) (g' := (mkF m 59 #[.val (.int p1), .val (.int (7 : Int32)), .val (.ref w_SOUTH_EAST), .val (.int (1 : Int32)), .val (.int (1 : Int32)), .val (.int (1 : Int32))] [])) ?_ (fun _ k => XS.icmpNo X48.here hx rfl (hb hby at_56) rfl (by decide) k)
    refine Go.st (T' := T48) (g' := (mkF m 61 #[.val (.int p1), .val (.int (7 : Int32)), .val (.ref w_SOUTH_EAST), .val (.int (1 : Int32)), .val (.int (1 : Int32)), .val (.int (1 : Int32))] [(.int (1 : Int32))])) ?_ (fun _ k => XS.iload X48.here hx rfl (hb hby at_59) rfl k)
    refine Go.st (T' := T48) (g' := (mkF m 63 #[.val (.int p1), .val (.int (7 : Int32)), .val (.ref w_SOUTH_EAST), .val (.int (1 : Int32)), .val (.int (1 : Int32)), .val (.int (1 : Int32))] [(.int (1 : Int32)), (.int (1 : Int32))])) ?_ (fun _ k => XS.iload X48.here hx rfl (hb hby at_61) rfl k)
    refine Go.st (T' := T48) (g' := (mkF m 66 #[.val (.int p1), .val (.int (7 : Int32)), .val (.ref w_SOUTH_EAST), .val (.int (1 : Int32)), .val (.int (1 : Int32)), .val (.int (1 : Int32))] [])) ?_ (fun _ k => XS.icmpNo X48.here hx rfl (hb hby at_63) rfl (by decide) k)
    refine Go.st (T' := T48) (g' := (mkF m 67 #[.val (.int p1), .val (.int (7 : Int32)), .val (.ref w_SOUTH_EAST), .val (.int (1 : Int32)), .val (.int (1 : Int32)), .val (.int (1 : Int32))] [(.int (1 : Int32))])) ?_ (fun _ k => XT.iconstV X48.here hx rfl (1 : Int32) (hb hby at_66) (by decide) k)
    refine Go.st (T' := T48) (g' := (mkF m 71 #[.val (.int p1), .val (.int (7 : Int32)), .val (.ref w_SOUTH_EAST), .val (.int (1 : Int32)), .val (.int (1 : Int32)), .val (.int (1 : Int32))] [(.int (1 : Int32))])) ?_ (fun _ k => XS.goto X48.here hx rfl (pc0 := 67) (pc' := 71) rfl (hb hby at_67) (by decide) (by decide) k)
    exact Go.retV (t := .boolean) X48 hx hret hlk (by decide) (by decide) rfl (Or.inl ⟨rfl, Or.inr (Or.inl rfl), _, rfl⟩) (hb hby at_71) ⟨rfl, M48⟩
set_option maxRecDepth 65536 in
set_option maxHeartbeats 40000000 in
theorem comes_1 {Post : Tables → Env → Array Value → State → Outcome → State → Prop} (hpost : ∀ tb e args s v u, (limb_1_1.after args s (.returned v) u = true ∧ limb_1_2.after args s (.returned v) u = true ∧ True) → FrameEnd s (.returned v) u (Jvm.fieldLocs frame_1_writes args s ++ Jvm.arrayLocs frame_1_arrays args s ++ Jvm.staticLocs frame_1_statics s) 0 0 → Post tb e args s (.returned v) u) :
    ArmFor flags0 classFile x code maxLocals ret World_1 tables_1 room_1 Calls_1 rest_1 Pre_1 Post := by
  intro l hfl _ _ p e ha hc hk s m args below hf hA hF happ hP
  obtain ⟨hcalls, hrest, hpre⟩ := hP
  obtain ⟨-, -, -, hnamed, -, -, -, hat⟩ := (Spec.applies_iff hf).mp happ
  obtain ⟨hg, hn⟩ := and_e (Cond.before_iff.mp (show (Jvm.Cond.and given_1 narrow_1).before args s = true from hpre))
  obtain ⟨g0, hg⟩ := and_e hg
  obtain ⟨w0, rfl⟩ : ∃ w0 : Value, args = #[w0] := by
    have hs : args.size = 1 := by simpa [Cond.value, given_1] using g0
    obtain ⟨L⟩ := args
    match L, hs with
    | [w0], _ => exact ⟨w0, rfl⟩
  have hw := fun d (hd : d ∈ tables_1) => atoms_spec (ws := Jvm.Cond.code x code maxLocals ret :: tables_1) hat d (List.mem_cons_of_mem _ hd)
  obtain ⟨i0, ei0⟩ := is_v hg
  obtain rfl : w0 = (.int i0) := Option.some.inj ei0
  obtain ⟨f1a, f1b⟩ := and_e hn
  obtain ⟨f2a, f2b⟩ := and_e f1b
  obtain ⟨f3a, f3b⟩ := and_e f2b
  obtain ⟨f4a, f4b⟩ := and_e f3b
  obtain ⟨f5a, f5b⟩ := and_e f4b
  obtain ⟨f6a, f6b⟩ := and_e f5b
  obtain ⟨f7a, f7b⟩ := and_e f6b
  obtain ⟨f8a, f8b⟩ := and_e f7b
  obtain ⟨f9a, f9b⟩ := and_e f8b
  obtain ⟨f10a, f10b⟩ := and_e f9b
  obtain ⟨f11a, f11b⟩ := and_e f10b
  obtain ⟨f12a, f12b⟩ := and_e f11b
  obtain ⟨f13a, f13b⟩ := and_e f12b
  obtain ⟨f14a, f14b⟩ := and_e f13b
  obtain ⟨f15a, f15b⟩ := and_e f14b
  obtain ⟨f16a, f16b⟩ := and_e f15b
  obtain ⟨f17a, f17b⟩ := and_e f16b
  obtain ⟨f18a, f18b⟩ := and_e f17b
  obtain ⟨f19a, f19b⟩ := and_e f18b
  obtain ⟨f20a, f20b⟩ := and_e f19b
  obtain ⟨f21a, f21b⟩ := and_e f20b
  obtain ⟨f22a, f22b⟩ := and_e f21b
  obtain ⟨f23a, f23b⟩ := and_e f22b
  obtain ⟨w_EAST, ev_EAST⟩ := exa_v f1a
  have S_EAST := Sta.start ev_EAST (Or.inr ⟨(hw _ (List.mem_of_getElem? (i := 5) rfl)), (hw _ (List.mem_of_getElem? (i := 6) rfl))⟩)
  have A_EAST := Exa.start ev_EAST f1a
  obtain ⟨w_SOUTH, ev_SOUTH⟩ := exa_v f4a
  have S_SOUTH := Sta.start ev_SOUTH (Or.inr ⟨(hw _ (List.mem_of_getElem? (i := 5) rfl)), (hw _ (List.mem_of_getElem? (i := 31) rfl))⟩)
  have A_SOUTH := Exa.start ev_SOUTH f4a
  obtain ⟨w_SOUTH_WEST, ev_SOUTH_WEST⟩ := exa_v f7a
  have S_SOUTH_WEST := Sta.start ev_SOUTH_WEST (Or.inr ⟨(hw _ (List.mem_of_getElem? (i := 5) rfl)), (hw _ (List.mem_of_getElem? (i := 33) rfl))⟩)
  have A_SOUTH_WEST := Exa.start ev_SOUTH_WEST f7a
  obtain ⟨w_SOUTH_EAST, ev_SOUTH_EAST⟩ := exa_v f10a
  have S_SOUTH_EAST := Sta.start ev_SOUTH_EAST (Or.inr ⟨(hw _ (List.mem_of_getElem? (i := 5) rfl)), (hw _ (List.mem_of_getElem? (i := 35) rfl))⟩)
  have A_SOUTH_EAST := Exa.start ev_SOUTH_EAST f10a
  obtain ⟨w_WEST, ev_WEST⟩ := exa_v f13a
  have S_WEST := Sta.start ev_WEST (Or.inr ⟨(hw _ (List.mem_of_getElem? (i := 5) rfl)), (hw _ (List.mem_of_getElem? (i := 37) rfl))⟩)
  have A_WEST := Exa.start ev_WEST f13a
  obtain ⟨w_NORTH, ev_NORTH⟩ := exa_v f16a
  have S_NORTH := Sta.start ev_NORTH (Or.inr ⟨(hw _ (List.mem_of_getElem? (i := 5) rfl)), (hw _ (List.mem_of_getElem? (i := 39) rfl))⟩)
  have A_NORTH := Exa.start ev_NORTH f16a
  obtain ⟨w_NORTH_EAST, ev_NORTH_EAST⟩ := exa_v f19a
  have S_NORTH_EAST := Sta.start ev_NORTH_EAST (Or.inr ⟨(hw _ (List.mem_of_getElem? (i := 5) rfl)), (hw _ (List.mem_of_getElem? (i := 41) rfl))⟩)
  have A_NORTH_EAST := Exa.start ev_NORTH_EAST f19a
  obtain ⟨w_NORTH_WEST, ev_NORTH_WEST⟩ := exa_v f22a
  have S_NORTH_WEST := Sta.start ev_NORTH_WEST (Or.inr ⟨(hw _ (List.mem_of_getElem? (i := 5) rfl)), (hw _ (List.mem_of_getElem? (i := 43) rfl))⟩)
  have A_NORTH_WEST := Exa.start ev_NORTH_WEST f22a
  have F_EAST_columns := own_fldInt ev_EAST f2a
  have F_EAST_rows := own_fldInt ev_EAST f3a
  have F_SOUTH_columns := own_fldInt ev_SOUTH f5a
  have F_SOUTH_rows := own_fldInt ev_SOUTH f6a
  have F_SOUTH_WEST_columns := own_fldInt ev_SOUTH_WEST f8a
  have F_SOUTH_WEST_rows := own_fldInt ev_SOUTH_WEST f9a
  have F_SOUTH_EAST_columns := own_fldInt ev_SOUTH_EAST f11a
  have F_SOUTH_EAST_rows := own_fldInt ev_SOUTH_EAST f12a
  have F_WEST_columns := own_fldInt ev_WEST f14a
  have F_WEST_rows := own_fldInt ev_WEST f15a
  have F_NORTH_columns := own_fldInt ev_NORTH f17a
  have F_NORTH_rows := own_fldInt ev_NORTH f18a
  have F_NORTH_EAST_columns := own_fldInt ev_NORTH_EAST f20a
  have F_NORTH_EAST_rows := own_fldInt ev_NORTH_EAST f21a
  have F_NORTH_WEST_columns := own_fldInt ev_NORTH_WEST f23a
  have F_NORTH_WEST_rows := own_fldInt ev_NORTH_WEST f23b
  have FF : own_F s s.heap w_EAST w_SOUTH w_SOUTH_WEST w_SOUTH_EAST w_WEST w_NORTH w_NORTH_EAST w_NORTH_WEST := ⟨S_EAST, S_SOUTH, S_SOUTH_WEST, S_SOUTH_EAST, S_WEST, S_NORTH, S_NORTH_EAST, S_NORTH_WEST, A_EAST, A_SOUTH, A_SOUTH_WEST, A_SOUTH_EAST, A_WEST, A_NORTH, A_NORTH_EAST, A_NORTH_WEST, F_EAST_columns, F_EAST_rows, F_SOUTH_columns, F_SOUTH_rows, F_SOUTH_WEST_columns, F_SOUTH_WEST_rows, F_SOUTH_EAST_columns, F_SOUTH_EAST_rows, F_WEST_columns, F_WEST_rows, F_NORTH_columns, F_NORTH_rows, F_NORTH_EAST_columns, F_NORTH_EAST_rows, F_NORTH_WEST_columns, F_NORTH_WEST_rows⟩
  obtain ⟨n, o, h1, h2, h3, _, L, rfl, ⟨rfl, N⟩, hq⟩ := rm0 l s _ hw tables_1 i0 w_EAST w_SOUTH w_SOUTH_WEST w_SOUTH_EAST w_WEST w_NORTH w_NORTH_EAST w_NORTH_WEST s.heap s.heap.size (Nat.le_refl _) FF p e ha hc hk s m _ below hf ((Spec.applies_iff_loose hf).mp happ).1 ⟨rfl, State.Warmed39.refl s, rfl⟩ trivial
  refine ⟨n, _, h1, h2, h3, hpost _ _ _ _ _ _ ⟨Cond.after_iff.mpr rfl, Cond.after_iff.mpr (eq_i res_at (Term.int_eval (1)) rfl), trivial⟩ ⟨hq.1, hq.2.1, (hq.2.2.sift fun y hy => Or.inr (N y hy)).mono (by decide) (by decide)⟩⟩
theorem main_1_1 : Claimed_1_1 := comes_1 fun _ _ _ _ _ _ h hF => ⟨h.1, hF⟩
theorem main_1_2 : Claimed_1_2 := comes_1 fun _ _ _ _ _ _ h hF => ⟨h.2.1, hF⟩
end Jvm.Pilot.@@N@@
namespace Jvm.Pilot.@@N@@
open Jvm Jvm.ClassFile Sem Op Lib Jvm.Free Jvm.Stand Jvm.Pilot.@@N@@.Jvm.D
/-! MADE BY PROGRAM (witnessworld.py) out of the Statement's table words and the real class files: 13 classes; the members and pool entries that the words name. The judged class is class 1, her method 2. -/
namespace start1
open Jvm.ClassFile
def u (s : String) : CpInfo := .utf8 (stringToUtf16 s)
/-- a pool by its gaps: so many unusable entries, then the entry; so many at the end -/
def gap : Nat → List CpInfo → List CpInfo
  | 0, r => r
  | n + 1, r => .unusable :: gap n r
def poolList (es : List (Nat × CpInfo)) (last : Nat) : List CpInfo := es.foldr (fun e r => gap e.1 (e.2 :: r)) (gap last [])
def pool (es : List (Nat × CpInfo)) (last : Nat) : Array CpInfo := ⟨poolList es last⟩
def fileOf (pool : Array CpInfo) (this : Nat) (attrs : Array Attribute := #[]) (ms : Array MethodInfo := #[]) (fl : Nat := 33) (sup : Nat := 0) (ifs : Array Nat := #[]) (fds : Array FieldInfo := #[]) : ClassFile where
  minorVersion := 0
  majorVersion := 65
  constantPool := pool
  accessFlags := fl
  thisClass := this
  superClass := sup
  interfaces := ifs
  fields := fds
  methods := ms
  attributes := attrs
def plain (name : String) (sup : Option ClassId) : Class where
  name := name
  kind := .ordinary
  loader := none
  accessFlags := 33
  super := sup
  interfaces := #[]
  cf := none
  fields := #[]
  methods := #[]
  instanceTypes := #[]
  staticTypes := #[]
  resolved := #[]
  callSites := []
  init := .initialized
  statics := none
  mirror := none

def pool0 : Array CpInfo := pool [(5, u "<init>"), (0, u "()V"), (1, .class_ 10), (1, u "java/lang/Object")] 113

def k0m0 : Method := { name := "<init>", desc := "()V", sig := { parameters := [], returnType := none }, accessFlags := 1, code := none }
/-- java/lang/Object -/
def k0 : Class := { plain "java/lang/Object" none with
  accessFlags := 33
  interfaces := #[]
  cf := some (fileOf pool0 8 #[] #[{ accessFlags := 1, nameIndex := 5, descriptorIndex := 6, attributes := #[] }] 33 0 #[] #[])
  fields := #[]
  methods := #[k0m0]
  instanceTypes := #[]
  staticTypes := #[]
  resolved := Array.replicate 124 none
  statics := none }

def pool1 : Array CpInfo := pool [(2, .class_ 4), (1, u "java/lang/Object"), (0, u "<init>"), (0, u "()V"), (0, .fieldref 8 9), (0, .class_ 10), (0, .nameAndType 11 12), (0, u "com/example/amblesim/amblesim/model/Move"), (0, u "EAST"), (0, u "Lcom/example/amblesim/amblesim/model/Move;"), (0, .fieldref 8 14), (0, .nameAndType 15 12), (0, u "NORTH"), (0, .fieldref 8 17), (0, .nameAndType 18 12), (0, u "WEST"), (0, .fieldref 8 20), (0, .nameAndType 21 12), (0, u "SOUTH"), (0, .fieldref 8 23), (0, .nameAndType 24 12), (0, u "NORTH_EAST"), (0, .fieldref 8 26), (0, .nameAndType 27 12), (0, u "NORTH_WEST"), (0, .fieldref 8 29), (0, .nameAndType 30 12), (0, u "SOUTH_WEST"), (0, .fieldref 8 32), (0, .nameAndType 33 12), (0, u "SOUTH_EAST"), (0, .methodref 35 36), (0, .class_ 37), (0, .nameAndType 38 39), (0, u "com/example/amblesim/amblesim/model/MoveIsDiagonalPinLaw"), (0, u "pick"), (0, u "(I)Lcom/example/amblesim/amblesim/model/Move;"), (0, .methodref 8 41), (0, .nameAndType 42 43), (0, u "isDiagonal"), (0, u "()Z"), (0, .methodref 8 45), (0, .nameAndType 46 47), (0, u "columns"), (0, u "()I"), (0, .methodref 49 50), (0, .class_ 51), (0, .nameAndType 52 53), (0, u "java/lang/Math"), (0, u "abs"), (0, u "(I)I"), (0, .methodref 8 55), (0, .nameAndType 56 47), (0, u "rows"), (3, u "law"), (0, u "(I)Z")] 2

def k1m0 : Method := { name := "<init>", desc := "()V", sig := { parameters := [], returnType := none }, accessFlags := 1, code := none }
def k1c1 : Code := { maxStack := 2, maxLocals := 1, code := method_2_code, exceptionTable := #[], attributes := #[] }
def k1m1 : Method := { name := "pick", desc := "(I)Lcom/example/amblesim/amblesim/model/Move;", sig := { parameters := [.int], returnType := some (.object "com/example/amblesim/amblesim/model/Move") }, accessFlags := 10, code := some k1c1 }
def k1c2 : Code := { maxStack := 2, maxLocals := 6, code := code, exceptionTable := #[], attributes := #[] }
def k1m2 : Method := { name := "law", desc := "(I)Z", sig := { parameters := [.int], returnType := some .boolean }, accessFlags := 9, code := some k1c2 }
/-- com/example/amblesim/amblesim/model/MoveIsDiagonalPinLaw -/
def k1 : Class := { plain "com/example/amblesim/amblesim/model/MoveIsDiagonalPinLaw" (some 0) with
  accessFlags := 49
  interfaces := #[]
  cf := some (fileOf pool1 35 #[] #[{ accessFlags := 1, nameIndex := 5, descriptorIndex := 6, attributes := #[] }, { accessFlags := 10, nameIndex := 38, descriptorIndex := 39, attributes := #[] }, { accessFlags := 9, nameIndex := 60, descriptorIndex := 61, attributes := #[] }] 49 2 #[] #[])
  fields := #[]
  methods := #[k1m0, k1m1, k1m2]
  instanceTypes := #[]
  staticTypes := #[]
  resolved := Array.replicate 64 none
  statics := none }

def pool2 : Array CpInfo := pool [(1, .class_ 2), (0, u "java/lang/constant/Constable"), (0, .class_ 4), (0, u "java/lang/Object")] 6

/-- java/lang/constant/Constable -/
def k2 : Class := { plain "java/lang/constant/Constable" (some 0) with
  accessFlags := 1537
  interfaces := #[]
  cf := some (fileOf pool2 1 #[] #[] 1537 3 #[] #[])
  fields := #[]
  methods := #[]
  instanceTypes := #[]
  staticTypes := #[]
  resolved := Array.replicate 11 none
  statics := none }

def pool3 : Array CpInfo := pool [(1, .class_ 2), (0, u "java/lang/Comparable"), (0, .class_ 4), (0, u "java/lang/Object")] 7

/-- java/lang/Comparable -/
def k3 : Class := { plain "java/lang/Comparable" (some 0) with
  accessFlags := 1537
  interfaces := #[]
  cf := some (fileOf pool3 1 #[] #[] 1537 3 #[] #[])
  fields := #[]
  methods := #[]
  instanceTypes := #[]
  staticTypes := #[]
  resolved := Array.replicate 12 none
  statics := none }

def pool4 : Array CpInfo := pool [(1, .class_ 2), (0, u "java/io/Serializable"), (0, .class_ 4), (0, u "java/lang/Object")] 2

/-- java/io/Serializable -/
def k4 : Class := { plain "java/io/Serializable" (some 0) with
  accessFlags := 1537
  interfaces := #[]
  cf := some (fileOf pool4 1 #[] #[] 1537 3 #[] #[])
  fields := #[]
  methods := #[]
  instanceTypes := #[]
  staticTypes := #[]
  resolved := Array.replicate 7 none
  statics := none }

def pool5 : Array CpInfo := pool [(2, .class_ 4), (1, u "java/lang/Enum"), (0, u "name"), (0, u "Ljava/lang/String;"), (2, u "ordinal"), (0, u "I"), (1, .class_ 14), (1, u "java/lang/Object"), (4, u "hash"), (86, .class_ 108), (1, u "java/lang/Enum$EnumDesc"), (2, .class_ 112), (0, u "java/lang/constant/Constable"), (0, .class_ 114), (0, u "java/lang/Comparable"), (0, .class_ 116), (0, u "java/io/Serializable")] 87

/-- java/lang/Enum -/
def k5 : Class := { plain "java/lang/Enum" (some 0) with
  accessFlags := 1057
  interfaces := #[2, 3, 4]
  cf := some (fileOf pool5 2 #[.nestMembers #[106]] #[] 1057 12 #[111, 113, 115] #[{ accessFlags := 18, nameIndex := 5, descriptorIndex := 6, attributes := #[] }, { accessFlags := 18, nameIndex := 9, descriptorIndex := 10, attributes := #[] }, { accessFlags := 2, nameIndex := 19, descriptorIndex := 10, attributes := #[] }])
  fields := #[{ name := "name", type := (.object "java/lang/String"), accessFlags := 18, slot := 0, constantValue := 0 }, { name := "ordinal", type := .int, accessFlags := 18, slot := 1, constantValue := 0 }, { name := "hash", type := .int, accessFlags := 2, slot := 2, constantValue := 0 }]
  methods := #[]
  instanceTypes := #[(.object "java/lang/String"), .int, .int]
  staticTypes := #[]
  resolved := Array.replicate 204 none
  statics := none }

def pool6 : Array CpInfo := pool [(1, .class_ 2), (0, u "com/example/amblesim/amblesim/model/Move"), (2, u "EAST"), (0, u "Lcom/example/amblesim/amblesim/model/Move;"), (2, u "NORTH"), (2, u "WEST"), (2, u "SOUTH"), (2, u "NORTH_EAST"), (2, u "NORTH_WEST"), (2, u "SOUTH_WEST"), (2, u "SOUTH_EAST"), (2, u "$VALUES"), (0, u "[Lcom/example/amblesim/amblesim/model/Move;"), (6, .class_ 40), (1, u "java/lang/Enum"), (6, .fieldref 1 48), (0, .nameAndType 49 50), (0, u "columns"), (0, u "I"), (0, .fieldref 1 52), (0, .nameAndType 53 50), (0, u "rows"), (22, u "()I"), (0, u "isDiagonal"), (0, u "()Z")] 6

def k6c0 : Code := { maxStack := 1, maxLocals := 1, code := prog_3_method_4_code, exceptionTable := #[], attributes := #[] }
def k6m0 : Method := { name := "columns", desc := "()I", sig := { parameters := [], returnType := some .int }, accessFlags := 0, code := some k6c0 }
def k6c1 : Code := { maxStack := 1, maxLocals := 1, code := prog_3_method_5_code, exceptionTable := #[], attributes := #[] }
def k6m1 : Method := { name := "rows", desc := "()I", sig := { parameters := [], returnType := some .int }, accessFlags := 0, code := some k6c1 }
def k6c2 : Code := { maxStack := 1, maxLocals := 1, code := prog_3_method_6_code, exceptionTable := #[], attributes := #[] }
def k6m2 : Method := { name := "isDiagonal", desc := "()Z", sig := { parameters := [], returnType := some .boolean }, accessFlags := 0, code := some k6c2 }
/-- com/example/amblesim/amblesim/model/Move -/
def k6 : Class := { plain "com/example/amblesim/amblesim/model/Move" (some 5) with
  accessFlags := 16432
  interfaces := #[]
  cf := some (fileOf pool6 1 #[] #[{ accessFlags := 0, nameIndex := 49, descriptorIndex := 76, attributes := #[] }, { accessFlags := 0, nameIndex := 53, descriptorIndex := 76, attributes := #[] }, { accessFlags := 0, nameIndex := 77, descriptorIndex := 78, attributes := #[] }] 16432 38 #[] #[{ accessFlags := 16409, nameIndex := 5, descriptorIndex := 6, attributes := #[] }, { accessFlags := 16409, nameIndex := 9, descriptorIndex := 6, attributes := #[] }, { accessFlags := 16409, nameIndex := 12, descriptorIndex := 6, attributes := #[] }, { accessFlags := 16409, nameIndex := 15, descriptorIndex := 6, attributes := #[] }, { accessFlags := 16409, nameIndex := 18, descriptorIndex := 6, attributes := #[] }, { accessFlags := 16409, nameIndex := 21, descriptorIndex := 6, attributes := #[] }, { accessFlags := 16409, nameIndex := 24, descriptorIndex := 6, attributes := #[] }, { accessFlags := 16409, nameIndex := 27, descriptorIndex := 6, attributes := #[] }, { accessFlags := 18, nameIndex := 49, descriptorIndex := 50, attributes := #[] }, { accessFlags := 18, nameIndex := 53, descriptorIndex := 50, attributes := #[] }, { accessFlags := 4122, nameIndex := 30, descriptorIndex := 31, attributes := #[] }])
  fields := #[{ name := "EAST", type := (.object "com/example/amblesim/amblesim/model/Move"), accessFlags := 16409, slot := 0, constantValue := 0 }, { name := "NORTH", type := (.object "com/example/amblesim/amblesim/model/Move"), accessFlags := 16409, slot := 1, constantValue := 0 }, { name := "WEST", type := (.object "com/example/amblesim/amblesim/model/Move"), accessFlags := 16409, slot := 2, constantValue := 0 }, { name := "SOUTH", type := (.object "com/example/amblesim/amblesim/model/Move"), accessFlags := 16409, slot := 3, constantValue := 0 }, { name := "NORTH_EAST", type := (.object "com/example/amblesim/amblesim/model/Move"), accessFlags := 16409, slot := 4, constantValue := 0 }, { name := "NORTH_WEST", type := (.object "com/example/amblesim/amblesim/model/Move"), accessFlags := 16409, slot := 5, constantValue := 0 }, { name := "SOUTH_WEST", type := (.object "com/example/amblesim/amblesim/model/Move"), accessFlags := 16409, slot := 6, constantValue := 0 }, { name := "SOUTH_EAST", type := (.object "com/example/amblesim/amblesim/model/Move"), accessFlags := 16409, slot := 7, constantValue := 0 }, { name := "columns", type := .int, accessFlags := 18, slot := 3, constantValue := 0 }, { name := "rows", type := .int, accessFlags := 18, slot := 4, constantValue := 0 }, { name := "$VALUES", type := (.array (.object "com/example/amblesim/amblesim/model/Move")), accessFlags := 4122, slot := 8, constantValue := 0 }]
  methods := #[k6m0, k6m1, k6m2]
  instanceTypes := #[(.object "java/lang/String"), .int, .int, .int, .int]
  staticTypes := #[(.object "com/example/amblesim/amblesim/model/Move"), (.object "com/example/amblesim/amblesim/model/Move"), (.object "com/example/amblesim/amblesim/model/Move"), (.object "com/example/amblesim/amblesim/model/Move"), (.object "com/example/amblesim/amblesim/model/Move"), (.object "com/example/amblesim/amblesim/model/Move"), (.object "com/example/amblesim/amblesim/model/Move"), (.object "com/example/amblesim/amblesim/model/Move"), (.array (.object "com/example/amblesim/amblesim/model/Move"))]
  resolved := Array.replicate 85 none
  statics := some 0 }

def pool7 : Array CpInfo := pool [(1, .class_ 2), (0, u "java/lang/Math"), (1, .class_ 6), (1, u "java/lang/Object"), (0, u "<init>"), (0, u "()V"), (89, .class_ 100), (1, u "java/lang/Math$RandomNumberGeneratorHolder"), (23, u "abs"), (34, u "(I)I"), (12, u "negativeZeroFloatBits"), (0, u "J"), (2, u "negativeZeroDoubleBits"), (68, u "$assertionsDisabled"), (0, u "Z"), (91, u "twoToTheDoubleScaleDown"), (0, u "D"), (4, u "twoToTheDoubleScaleUp"), (9, u "E"), (3, u "PI"), (2, u "TAU"), (2, u "DEGREES_TO_RADIANS"), (0, u "RADIANS_TO_DEGREES")] 94

def k7m0 : Method := { name := "<init>", desc := "()V", sig := { parameters := [], returnType := none }, accessFlags := 2, code := none }
def k7c1 : Code := { maxStack := 1, maxLocals := 1, code := jdk_29_method_59_code, exceptionTable := #[], attributes := #[] }
def k7m1 : Method := { name := "abs", desc := "(I)I", sig := { parameters := [.int], returnType := some .int }, accessFlags := 9, code := some k7c1 }
/-- java/lang/Math -/
def k7 : Class := { plain "java/lang/Math" (some 0) with
  accessFlags := 49
  interfaces := #[]
  cf := some (fileOf pool7 1 #[.nestMembers #[98]] #[{ accessFlags := 2, nameIndex := 7, descriptorIndex := 8, attributes := #[] }, { accessFlags := 9, nameIndex := 124, descriptorIndex := 159, attributes := #[] }] 49 4 #[] #[{ accessFlags := 25, nameIndex := 354, descriptorIndex := 339, attributes := #[] }, { accessFlags := 25, nameIndex := 358, descriptorIndex := 339, attributes := #[] }, { accessFlags := 25, nameIndex := 361, descriptorIndex := 339, attributes := #[] }, { accessFlags := 26, nameIndex := 364, descriptorIndex := 339, attributes := #[] }, { accessFlags := 26, nameIndex := 365, descriptorIndex := 339, attributes := #[] }, { accessFlags := 26, nameIndex := 172, descriptorIndex := 173, attributes := #[] }, { accessFlags := 26, nameIndex := 176, descriptorIndex := 173, attributes := #[] }, { accessFlags := 8, nameIndex := 344, descriptorIndex := 339, attributes := #[] }, { accessFlags := 8, nameIndex := 338, descriptorIndex := 339, attributes := #[] }, { accessFlags := 4120, nameIndex := 245, descriptorIndex := 246, attributes := #[] }])
  fields := #[{ name := "E", type := .double, accessFlags := 25, slot := 0, constantValue := 0 }, { name := "PI", type := .double, accessFlags := 25, slot := 1, constantValue := 0 }, { name := "TAU", type := .double, accessFlags := 25, slot := 2, constantValue := 0 }, { name := "DEGREES_TO_RADIANS", type := .double, accessFlags := 26, slot := 3, constantValue := 0 }, { name := "RADIANS_TO_DEGREES", type := .double, accessFlags := 26, slot := 4, constantValue := 0 }, { name := "negativeZeroFloatBits", type := .long, accessFlags := 26, slot := 5, constantValue := 0 }, { name := "negativeZeroDoubleBits", type := .long, accessFlags := 26, slot := 6, constantValue := 0 }, { name := "twoToTheDoubleScaleUp", type := .double, accessFlags := 8, slot := 7, constantValue := 0 }, { name := "twoToTheDoubleScaleDown", type := .double, accessFlags := 8, slot := 8, constantValue := 0 }, { name := "$assertionsDisabled", type := .boolean, accessFlags := 4120, slot := 9, constantValue := 0 }]
  methods := #[k7m0, k7m1]
  instanceTypes := #[]
  staticTypes := #[.double, .double, .double, .double, .double, .long, .long, .double, .double, .boolean]
  resolved := Array.replicate 460 none
  statics := none }

def pool8 : Array CpInfo := pool [(1, u "java/lang/Cloneable"), (0, .class_ 1), (0, u "java/lang/Object"), (0, .class_ 3)] 3

/-- java/lang/Cloneable -/
def k8 : Class := { plain "java/lang/Cloneable" (some 0) with
  accessFlags := 1537
  interfaces := #[]
  cf := some (fileOf pool8 2 #[] #[] 1537 4 #[] #[])
  fields := #[]
  methods := #[]
  instanceTypes := #[]
  staticTypes := #[]
  resolved := Array.replicate 8 none
  statics := none }

/-- the primitive byte -/
def k9 : Class := { plain "byte" none with kind := .primitive 'B', accessFlags := 0x411 }
/-- [B -/
def k10 : Class := { plain "[B" (some 0) with kind := .array 9 .byte, interfaces := #[8, 4], accessFlags := 1041 }

/-- the primitive int -/
def k11 : Class := { plain "int" none with kind := .primitive 'I', accessFlags := 0x411 }
/-- [I -/
def k12 : Class := { plain "[I" (some 0) with kind := .array 11 .int, interfaces := #[8, 4], accessFlags := 1041 }

def heap : Heap := #[{ cls := 6, slots := #[.ref 1, .ref 6, .ref 5, .ref 2, .ref 7, .ref 8, .ref 3, .ref 4, .null], vm := .statics 6 },
  { cls := 6, slots := #[.null, .int 0, .int 0, .int 1, .int 0], vm := .none },
  { cls := 6, slots := #[.null, .int 0, .int 0, .int 0, .int (-1)], vm := .none },
  { cls := 6, slots := #[.null, .int 0, .int 0, .int (-1), .int (-1)], vm := .none },
  { cls := 6, slots := #[.null, .int 0, .int 0, .int 1, .int (-1)], vm := .none },
  { cls := 6, slots := #[.null, .int 0, .int 0, .int (-1), .int 0], vm := .none },
  { cls := 6, slots := #[.null, .int 0, .int 0, .int 0, .int 1], vm := .none },
  { cls := 6, slots := #[.null, .int 0, .int 0, .int 1, .int 1], vm := .none },
  { cls := 6, slots := #[.null, .int 0, .int 0, .int (-1), .int 1], vm := .none }]
def classes : Array Class := #[k0, k1, k2, k3, k4, k5, k6, k7, k8, k9, k10, k11, k12]
def interned : List (Array UInt16 × Addr) := []
def slotsUsed : Nat := 49
def theMethod : MethodId := ⟨1, 2⟩
def args0 : Array Value := #[.int 4]
def aboutOver (below : List Frame) : State where
  vm := { classes := classes, interned := interned.toArray }
  heap := heap
  slotsUsed := slotsUsed
  threads := #[{ frames := .invoking theMethod args0 :: below }]
def below0 : List Frame := [.native { method := ⟨0, 0⟩, args := #[] }]
def about1 : State := aboutOver below0
def p0 : Program := .bare "" "" ""
def e0 : Env := launch0.env 0 0 0
theorem w_frames : about1.frames = Frame.invoking theMethod args0 :: below0 := rfl
set_option maxRecDepth 65536 in
theorem w_args : argsFit about1.vm theMethod args0 = true := by decide +kernel
set_option maxRecDepth 65536 in
theorem w_heap : heapFits about1 = true := by decide +kernel
set_option maxRecDepth 65536 in
theorem w_runnable : about1.curStatus? = some .runnable := by decide +kernel
set_option maxRecDepth 65536 in
theorem w_alone : about1.alone = true := by decide +kernel
set_option maxRecDepth 65536 in
theorem w_named : about1.methodNamed? x = some theMethod := by decide +kernel
set_option maxRecDepth 65536 in
theorem w_hears : about1.hears theMethod below0 = true := by decide +kernel
set_option maxRecDepth 65536 in
theorem w_ripe : about1.ripe theMethod args0 below0 = true := by decide +kernel
theorem w_running : about1.status = .running := rfl
set_option maxRecDepth 65536 in
theorem w_room : about1.hasRoom e0.platform room_1 = true :=
  launch0.hasRoom_least _ room_1 (by decide +kernel) (by decide +kernel) (by decide +kernel) (by decide +kernel) (by decide +kernel) (by decide +kernel)
theorem allAtoms_all (ts : List Jvm.Cond) (a : Array Jvm.Value) (st : Jvm.State) : (allAtoms ts).before a st = ts.all (fun c => c.before a st) := by
  induction ts with
  | nil => rfl
  | cons c t ih =>
    show (Jvm.Cond.and c (allAtoms t)).before a st = _
    rw [Jvm.Cond.before_and, ih, List.all_cons]
def words1 : List Jvm.Cond := Jvm.Cond.code x code maxLocals ret :: tables_1
/-- a 'code' word, met by the world's own term for the bytes: nothing is compared byte by byte -/
theorem code_word {y : MethodName} {bytes : ByteArray} {mx : Nat} {rt : Option FieldType} {a : Array Value} {s : State} {m : MethodId} {meth : Method} {c : Code} (h1 : s.methodNamed? y = some m) (h2 : s.vm.method? m = some meth) (h3 : meth.code = some c) (h4 : c.code = bytes)
    (h5 : (c.maxLocals == mx && c.exceptionTable.isEmpty && decide (c.maxStack ≤ mostOperands) && decide (meth.sig.returnType = rt) && !meth.locks && decide (parseMethodDescriptor y.desc = some meth.sig)) = true) : (Jvm.Cond.code y bytes mx rt).before a s = true := by
  simp only [Bool.and_eq_true, beq_iff_eq, Bool.not_eq_true', decide_eq_true_eq] at h5
  obtain ⟨⟨⟨⟨⟨g1, g2⟩, g3⟩, g4⟩, g5⟩, g6⟩ := h5
  simp [Cond.before, Cond.holds, Cond.value, h1, h2, h3, h4, g1, g2, g3, g4, g5, g6]
def isCode : Jvm.Cond → Bool
  | .code _ _ _ _ => true
  | _ => false
theorem all_split {L : List Jvm.Cond} {P : Jvm.Cond → Bool} (h1 : L.all (fun c => isCode c || P c) = true) (h2 : ∀ c ∈ L.filter isCode, P c = true) : L.all P = true := by
  refine List.all_eq_true.mpr fun c hc => ?_
  have h := List.all_eq_true.mp h1 c hc
  rcases Bool.eq_false_or_eq_true (isCode c) with hi | hi
  · exact h2 c (List.mem_filter.mpr ⟨hc, hi⟩)
  · simpa [hi] using h
set_option maxRecDepth 65536 in
theorem w_c0 : (Jvm.Cond.code x code maxLocals ret).before args0 about1 = true := code_word (m := ⟨1, 2⟩) (meth := k1m2) (c := k1c2) (by decide +kernel) rfl rfl rfl (by decide +kernel)
set_option maxRecDepth 65536 in
theorem w_c1 : (Jvm.Cond.code ({ cls := "com/example/amblesim/amblesim/model/MoveIsDiagonalPinLaw", name := "pick", desc := "(I)Lcom/example/amblesim/amblesim/model/Move;" } : Jvm.MethodName) method_2_code (1 : Nat) (Option.some (Jvm.ClassFile.FieldType.object "com/example/amblesim/amblesim/model/Move"))).before args0 about1 = true := code_word (m := ⟨1, 1⟩) (meth := k1m1) (c := k1c1) (by decide +kernel) rfl rfl rfl (by decide +kernel)
set_option maxRecDepth 65536 in
theorem w_c2 : (Jvm.Cond.code ({ cls := "com/example/amblesim/amblesim/model/Move", name := "isDiagonal", desc := "()Z" } : Jvm.MethodName) prog_3_method_6_code (1 : Nat) (Option.some Jvm.ClassFile.FieldType.boolean)).before args0 about1 = true := code_word (m := ⟨6, 2⟩) (meth := k6m2) (c := k6c2) (by decide +kernel) rfl rfl rfl (by decide +kernel)
set_option maxRecDepth 65536 in
theorem w_c3 : (Jvm.Cond.code ({ cls := "com/example/amblesim/amblesim/model/Move", name := "columns", desc := "()I" } : Jvm.MethodName) prog_3_method_4_code (1 : Nat) (Option.some Jvm.ClassFile.FieldType.int)).before args0 about1 = true := code_word (m := ⟨6, 0⟩) (meth := k6m0) (c := k6c0) (by decide +kernel) rfl rfl rfl (by decide +kernel)
set_option maxRecDepth 65536 in
theorem w_c4 : (Jvm.Cond.code ({ cls := "java/lang/Math", name := "abs", desc := "(I)I" } : Jvm.MethodName) jdk_29_method_59_code (1 : Nat) (Option.some Jvm.ClassFile.FieldType.int)).before args0 about1 = true := code_word (m := ⟨7, 1⟩) (meth := k7m1) (c := k7c1) (by decide +kernel) rfl rfl rfl (by decide +kernel)
set_option maxRecDepth 65536 in
theorem w_c5 : (Jvm.Cond.code ({ cls := "com/example/amblesim/amblesim/model/Move", name := "rows", desc := "()I" } : Jvm.MethodName) prog_3_method_5_code (1 : Nat) (Option.some Jvm.ClassFile.FieldType.int)).before args0 about1 = true := code_word (m := ⟨6, 1⟩) (meth := k6m1) (c := k6c1) (by decide +kernel) rfl rfl rfl (by decide +kernel)
def codes1 : List Jvm.Cond := [Jvm.Cond.code x code maxLocals ret, Jvm.Cond.code ({ cls := "com/example/amblesim/amblesim/model/MoveIsDiagonalPinLaw", name := "pick", desc := "(I)Lcom/example/amblesim/amblesim/model/Move;" } : Jvm.MethodName) method_2_code (1 : Nat) (Option.some (Jvm.ClassFile.FieldType.object "com/example/amblesim/amblesim/model/Move")), Jvm.Cond.code ({ cls := "com/example/amblesim/amblesim/model/Move", name := "isDiagonal", desc := "()Z" } : Jvm.MethodName) prog_3_method_6_code (1 : Nat) (Option.some Jvm.ClassFile.FieldType.boolean), Jvm.Cond.code ({ cls := "com/example/amblesim/amblesim/model/Move", name := "columns", desc := "()I" } : Jvm.MethodName) prog_3_method_4_code (1 : Nat) (Option.some Jvm.ClassFile.FieldType.int), Jvm.Cond.code ({ cls := "java/lang/Math", name := "abs", desc := "(I)I" } : Jvm.MethodName) jdk_29_method_59_code (1 : Nat) (Option.some Jvm.ClassFile.FieldType.int), Jvm.Cond.code ({ cls := "com/example/amblesim/amblesim/model/Move", name := "rows", desc := "()I" } : Jvm.MethodName) prog_3_method_5_code (1 : Nat) (Option.some Jvm.ClassFile.FieldType.int)]
set_option maxRecDepth 65536 in
theorem codes_eq : words1.filter isCode = codes1 := rfl
theorem w_codes : ∀ c ∈ words1.filter isCode, c.before args0 about1 = true := by
  rw [codes_eq]
  intro c hc
  simp only [codes1, List.mem_cons, List.not_mem_nil, or_false] at hc
  rcases hc with rfl | rfl | rfl | rfl | rfl | rfl
  · exact w_c0
  · exact w_c1
  · exact w_c2
  · exact w_c3
  · exact w_c4
  · exact w_c5
set_option maxRecDepth 65536 in
theorem w_t1 : (words1.take 24).all (fun c => isCode c || c.before args0 about1) = true := by decide +kernel
set_option maxRecDepth 65536 in
theorem w_t2 : (words1.drop 24).all (fun c => isCode c || c.before args0 about1) = true := by decide +kernel
theorem w_tables : (allAtoms (Jvm.Cond.code x code maxLocals ret :: tables_1)).before args0 about1 = true := by
  rw [allAtoms_all]
  show words1.all (fun c => c.before args0 about1) = true
  refine all_split ?_ w_codes
  rw [← List.take_append_drop 24 words1, List.all_append, w_t1, w_t2]
  rfl
set_option maxRecDepth 65536 in
theorem w_case : (Jvm.Cond.and given_1 narrow_1).before args0 about1 = true := by decide +kernel
theorem w_applies : (headSpec (Jvm.Cond.code x code maxLocals ret :: tables_1) room_1).applies x e0.platform about1 = true :=
  (Spec.applies_iff w_frames).mpr ⟨w_running, w_runnable, w_alone, w_named, w_hears, w_ripe, w_room, w_tables⟩
theorem atStart : AtStart classFile x code maxLocals ret World_1 tables_1 room_1 Calls_1 rest_1 Pre_1 launch0 p0 e0 about1 theMethod args0 below0 :=
  ⟨lists_1, trivial, launch0.admits_env _ _ _, launch0.least_env, fairChoices_fair.cas, fairChoices_fair.clock, w_frames, w_args, w_heap, w_applies, trivial, trivial, w_case⟩
end start1
theorem witness_1 : WitnessClaimed_1 := ⟨start1.p0, start1.e0, start1.about1, start1.theMethod, start1.args0, start1.below0, start1.atStart⟩
end Jvm.Pilot.@@N@@
