import JvmDerived
import JvmDerived.Pilot.@@N@@Statement
import JvmDerived.Pilot.@@N@@Code
set_option linter.unusedVariables false
set_option linter.unusedSimpArgs false
namespace Jvm.Pilot.@@N@@
open Jvm Jvm.ClassFile Sem Op Lib Jvm.Free Jvm.Stand Jvm.LawKit Jvm.RoadKit Bundle Jvm.Pilot.@@N@@.Jvm.D
/-! own_: A WALK AS A CHAIN OF 'Go': from T, with the frame g on top, the run comes to a state of which P holds. A fork (by_cases, rcases) may stand anywhere in the chain. -/
def Go (p : Program) (e : Env) (below : List Frame) (P : State → Prop) (T : State) (g : JFrame) : Prop := ∃ t, Steps p.tables e below (T.setTop g) t ∧ P t
/-- what a body owes at its end -/
def EndP (below : List Frame) (s : State) (Q : Option Value → Heap → List Loc → Prop) (ce sl : Nat) (t : State) : Prop := ∃ o, t.status = .running ∧ Ended t below o ∧ ∃ v L, o = .returned v ∧ Q v t.heap L ∧ FrameEnd s o t L ce sl
/-- a method's contract: called with as' on the heap h0 it returns, and Q holds of what it returns, the heap that it leaves and the places that it wrote -/
abbrev Does (l : Launch) (y : MethodName) (bytes : ByteArray) (maxL : Nat) (rt : Option FieldType) (ws : List Jvm.Cond) (rm : Room) (as' : Array Value) (Z : State) (h0 : Heap) (Q : Option Value → Heap → List Loc → Prop) : Prop :=
  MetFree l y (head1 (Jvm.Cond.code y bytes maxL rt :: ws) rm) (fun a U => a = as' ∧ Z.Warmed39 U.vm ∧ U.heap = h0) (fun _ _ _ _ _ => True) (fun _ U o U' => ∃ v L, o = .returned v ∧ Q v U'.heap L ∧ FrameEnd U o U' L rm.cells rm.slots)
section Own
variable {p : Program} {l : Launch} {e : Env} {R : Room} {s : State} {m : MethodId} {args : Array Value} {below : List Frame} {meth : Method} {c : Code} {T T' : State} {locs : List Loc} {cells slots : Nat} {P : State → Prop} {g g' : JFrame} {Z : State} {h h0 : Heap} {a0 as' : Array Value} {own : String} {index : Nat} {y z : MethodName} {bytes : ByteArray} {maxL : Nat} {rt : Option FieldType} {rm : Room} {ws : List Jvm.Cond} {Q : Option Value → Heap → List Loc → Prop} {ce sl W : Nat} {argsL rest : List Value}
theorem Go.st (hh : Go p e below P T' g') (st : ∀ t, Steps p.tables e below (T'.setTop g') t → Steps p.tables e below (T.setTop g) t) : Go p e below P T g := by
  obtain ⟨t, h1, h2⟩ := hh
  exact ⟨t, st t h1, h2⟩
theorem Go.cast (q : g = g') (hh : Go p e below P T g') : Go p e below P T g := q ▸ hh
theorem Go.ret {v : Option Value} (X : Stand p l e R s m args below meth c T locs cells slots) (hv : meth.sig.returnType = none → v = none) (hlocks : meth.locks = false) (hc : cells ≤ ce) (hs : slots ≤ sl) (hq : Q v T.heap locs)
    (st : ∀ fs, (∀ (f : JFrame) (acts : List Action), f.method = m → f.locked = none → f.entered = [] → (doReturn e (T.setTop f) acts v).1 = T.setFrames fs) → Steps p.tables e below (T.setTop g) (T.setFrames fs)) : Go p e below (EndP below s Q ce sl) T g := by
  obtain ⟨fs, hr, hrun, hended, hW, hsame⟩ := X.leave (v := v) hv hlocks
  exact ⟨_, st fs hr, _, hrun, hended, _, _, rfl, hq, ⟨_, rfl⟩, hW, hsame.mono hc hs⟩
/-- a value is returned -/
theorem Go.retV {w : Value} {t : FieldType} {i : Instr} {pc : Nat} {Ls : Array Slot} (X : Stand p l e R s m args below meth c T locs cells slots) (hx : p.tables.exec = Jvm.exec) (hret : meth.sig.returnType = some t) (hlocks : meth.locks = false) (hc : cells ≤ ce) (hs : slots ≤ sl) (hn : narrow t w = w)
    (hi : (i = .ireturn ∧ (t = .int ∨ t = .boolean ∨ t = .byte ∨ t = .char ∨ t = .short) ∧ ∃ z, w = .int z) ∨ (i = .lreturn ∧ t = .long ∧ ∃ z, w = .long z) ∨ (i = .dreturn ∧ t = .double ∧ ∃ z, w = .double z) ∨ (i = .freturn ∧ t = .float ∧ ∃ z, w = .float z) ∨ (i = .areturn ∧ t.isReference = true ∧ w.isRef = true))
    (hd : decode c.code pc = .ok (i, 1)) (hq : Q (some w) T.heap locs) : Go p e below (EndP below s Q ce sl) T (mkF m pc Ls (w :: rest)) :=
  Go.ret X (fun q => by rw [hret] at q; cases q) hlocks hc hs hq fun _ hr => retOut X hx hret hn hi hd hr
/-- nothing is returned -/
theorem Go.retU {pc : Nat} {Ls : Array Slot} (X : Stand p l e R s m args below meth c T locs cells slots) (hx : p.tables.exec = Jvm.exec) (hret : meth.sig.returnType = none) (hlocks : meth.locks = false) (hc : cells ≤ ce) (hs : slots ≤ sl)
    (hd : decode c.code pc = .ok (.return_, 1)) (hq : Q none T.heap locs) : Go p e below (EndP below s Q ce sl) T (mkF m pc Ls []) :=
  Go.ret X (fun _ => rfl) hlocks hc hs hq fun _ hr => X.returnOut hx hret hd hr
/-- a body that goes well has its contract -/
theorem Does.of (hp : plainFor y = true) (body : ∀ (p : Program) (e : Env) (s : State) (m : MethodId) (below : List Frame) (meth : Method) (c : Code) (s₁ : State), p.tables.exec = Jvm.exec → c.code = bytes → c.maxLocals = maxL → meth.sig.returnType = rt → meth.locks = false → s.vm.findClass y.cls = some m.cls → meth.name = y.name → Z.Warmed39 s.vm →
      Stand p l e rm s m as' below meth c s₁ [] 0 0 → s₁.heap = h0 → Go p e below (EndP below s Q rm.cells rm.slots) s₁ (entryFrame m as' maxL)) : Does l y bytes maxL rt ws rm as' Z h0 Q := by
  refine MetFree.of_bodySF hp hisR ?_
  intro p e s m args below meth c s₁ Bd hml0 hP hK
  obtain ⟨rfl, hZ, hh⟩ := hP
  obtain ⟨t, h1, o, h2, h3, h4⟩ := body p e s m below meth c s₁ Bd.exec Bd.bytes hml0 Bd.returns Bd.notSynchronized (findClass_of_methodNamed Bd.named) (name_of_methodNamed Bd.named Bd.method).1 hZ (Stand.of_body Bd) (by rw [← hh, Bd.state]; rfl)
  exact ⟨t, o, h1, h2, h3, h4⟩
/-- a static call by the callee's contract -/
theorem Go.callS (X : Stand p l e R s m args below meth c T locs cells slots) (hx : p.tables.exec = Jvm.exec) (hZ : Z.Warmed39 s.vm) (hown : s.vm.findClass own = some m.cls) (w1 : (Jvm.Cond.methodLink own index y).before a0 Z = true) (w2 : (Jvm.Cond.static y).before a0 Z = true) (w3 : (Jvm.Cond.initialized y.cls).before a0 Z = true) (w4 : (Jvm.Cond.code y bytes maxL rt).before a0 Z = true)
    (hy : y.cls ≠ "java/lang/invoke/MethodHandle" ∧ y.cls ≠ "java/lang/invoke/VarHandle") (D : Does l y bytes maxL rt [] rm argsL.toArray Z h Q) (eT : T.heap = h) (hf : rm.frames + 1 ≤ R.frames) (hl : W + (maxL + 11) + rm.locals ≤ R.locals) (hc : cells + rm.cells ≤ R.cells) (hs : slots + rm.slots ≤ R.slots)
    (hg : g.method = m) (hsize : g.locals.size = c.maxLocals) (hlen : ∀ sig, parseMethodDescriptor y.desc = some sig → argsL.length = sig.parameters.length) (hstack : g.stack = argsL.reverse ++ rest) (hW : 2 * g.monitorRoom + (rest.map fun v => v.category).sum ≤ W) (hdg : decode c.code g.pc = .ok (.invokestatic index, 3))
    (k : ∀ (v : Option Value) (T' : State) (L : List Loc), Stand p l e R s m args below meth c T' (locs ++ L) (cells + rm.cells) (slots + rm.slots) → Q v T'.heap L → Go p e below P T' { g with pc := g.pc + 3, stack := v.toList ++ rest }) : Go p e below P T g := by
  obtain ⟨v, _, ⟨T1, L1, k1, n1⟩, -, X1, ⟨Lc, hQ, l1, y1, z1⟩, st⟩ := Jvm.LawKit.callS X hx (y := y) hown (mvT hZ w1) (mvT hZ w2) (mvT hZ w3) (mvT hZ w4) hy (backOf (W := W) D hZ w4 w3 hf hl) (g := g) hg hsize (argsL := argsL) (rest := rest) hlen hstack hW hdg (fun _ _ => ⟨rfl, eT, hc, hs⟩)
  dsimp only [Pt.U, Pt.locs, Pt.cells, Pt.slots] at X1 l1 y1 z1 st hQ
  subst l1 y1 z1
  exact Go.st (k v T1 Lc X1 hQ) st
/-- a virtual call by the contract of the method that it selects -/
theorem Go.callV {C : String} {a : Addr} (X : Stand p l e R s m args below meth c T locs cells slots) (hx : p.tables.exec = Jvm.exec) (hZ : Z.Warmed39 s.vm) (hown : s.vm.findClass own = some m.cls) (w1 : (Jvm.Cond.methodLink own index y).before a0 Z = true) (w2 : (Jvm.Cond.declares y).before a0 Z = true) (w5 : (Jvm.Cond.selects C y y).before a0 Z = true) (w6 : (Jvm.Cond.instanceMethod y).before a0 Z = true) (w3 : (Jvm.Cond.initialized y.cls).before a0 Z = true) (w4 : (Jvm.Cond.code y bytes maxL rt).before a0 Z = true)
    (hy : y.cls ≠ "java/lang/invoke/MethodHandle" ∧ y.cls ≠ "java/lang/invoke/VarHandle") (A : Exa Z h a C) (D : Does l y bytes maxL rt [] rm (.ref a :: argsL).toArray Z h Q) (eT : T.heap = h) (hf : rm.frames + 1 ≤ R.frames) (hl : W + (maxL + 11) + rm.locals ≤ R.locals) (hc : cells + rm.cells ≤ R.cells) (hs : slots + rm.slots ≤ R.slots)
    (hg : g.method = m) (hsize : g.locals.size = c.maxLocals) (hlen : ∀ sig, parseMethodDescriptor y.desc = some sig → argsL.length = sig.parameters.length) (hstack : g.stack = argsL.reverse ++ .ref a :: rest) (hW : 2 * g.monitorRoom + (rest.map fun v => v.category).sum ≤ W) (hdg : decode c.code g.pc = .ok (.invokevirtual index, 3))
    (k : ∀ (v : Option Value) (T' : State) (L : List Loc), Stand p l e R s m args below meth c T' (locs ++ L) (cells + rm.cells) (slots + rm.slots) → Q v T'.heap L → Go p e below P T' { g with pc := g.pc + 3, stack := v.toList ++ rest }) : Go p e below P T g := by
  obtain ⟨cq, kq, qa, qb, qc⟩ := isOf hZ eT A
  obtain ⟨v, _, ⟨T1, L1, k1, n1⟩, -, X1, ⟨Lc, hQ, l1, y1, z1⟩, st⟩ := X.virtualBack hx (y := y) (z := y) hown (mvT hZ w1) (mvT hZ w2) (notFace_of_selects (args := #[]) (mvT hZ w5)) (mvT hZ w5) (mvT hZ w6) hy (backOf (W := W) D hZ w4 w3 hf hl) qa qc (g := g) hg hsize (Steps.refl _) (argsL := argsL) (rest := rest) hlen hstack hW hdg (fun _ _ => ⟨rfl, eT, hc, hs⟩)
  dsimp only [Pt.U, Pt.locs, Pt.cells, Pt.slots] at X1 l1 y1 z1 st hQ
  subst l1 y1 z1
  exact Go.st (k v T1 Lc X1 hQ) fun _ q => st.trans q
/-- a constructor by its contract -/
theorem Go.callI {a : Addr} (X : Stand p l e R s m args below meth c T locs cells slots) (hx : p.tables.exec = Jvm.exec) (hZ : Z.Warmed39 s.vm) (hown : s.vm.findClass own = some m.cls) (hin : y.name = "<init>") (w1 : (Jvm.Cond.methodLink own index y).before a0 Z = true) (w6 : (Jvm.Cond.instanceMethod y).before a0 Z = true) (w3 : (Jvm.Cond.initialized y.cls).before a0 Z = true) (w4 : (Jvm.Cond.code y bytes maxL none).before a0 Z = true)
    (hy : y.cls ≠ "java/lang/invoke/MethodHandle" ∧ y.cls ≠ "java/lang/invoke/VarHandle") (D : Does l y bytes maxL none [] rm (.ref a :: argsL).toArray Z h Q) (eT : T.heap = h) (hf : rm.frames + 1 ≤ R.frames) (hl : W + (maxL + 11) + rm.locals ≤ R.locals) (hc : cells + rm.cells ≤ R.cells) (hs : slots + rm.slots ≤ R.slots)
    (hg : g.method = m) (hsize : g.locals.size = c.maxLocals) (hlen : ∀ sig, parseMethodDescriptor y.desc = some sig → argsL.length = sig.parameters.length) (hstack : g.stack = argsL.reverse ++ .ref a :: rest) (hW : 2 * g.monitorRoom + (rest.map fun v => v.category).sum ≤ W) (hdg : decode c.code g.pc = .ok (.invokespecial index, 3))
    (k : ∀ (v : Option Value) (T' : State) (L : List Loc), Stand p l e R s m args below meth c T' (locs ++ L) (cells + rm.cells) (slots + rm.slots) → Q v T'.heap L → Go p e below P T' { g with pc := g.pc + 3, stack := v.toList ++ rest }) : Go p e below P T g := by
  obtain ⟨v, _, ⟨T1, L1, k1, n1⟩, -, X1, ⟨Lc, hQ, l1, y1, z1⟩, st⟩ := X.specialBack hx (y := y) hin hown (mvT hZ w1) (mvT hZ w6) (mvT hZ w4) hy (backOf (W := W) D hZ w4 w3 hf hl) (g := g) hg hsize (Steps.refl _) (a := a) (argsL := argsL) (rest := rest) hlen hstack hW hdg (fun _ _ => ⟨rfl, eT, hc, hs⟩)
  dsimp only [Pt.U, Pt.locs, Pt.cells, Pt.slots] at X1 l1 y1 z1 st hQ
  subst l1 y1 z1
  exact Go.st (k v T1 Lc X1 hQ) fun _ q => st.trans q
end Own
theorem own_i_eq {x y : Int32} {a b : Int} (hx : x.toInt = a) (hy : y.toInt = b) (q : a = b) : x = y := Int32.toInt_inj.mp (by rw [hx, hy, q])
theorem own_i_neq {x y : Int32} {a b : Int} (hx : x.toInt = a) (hy : y.toInt = b) (q : ¬ a = b) : ¬ x = y := fun r => q (by rw [← hx, ← hy, r])
theorem own_i_lt {x y : Int32} {a b : Int} (hx : x.toInt = a) (hy : y.toInt = b) (q : a < b) : x < y := by rw [Int32.lt_iff_toInt_lt, hx, hy]; exact q
theorem own_i_nlt {x y : Int32} {a b : Int} (hx : x.toInt = a) (hy : y.toInt = b) (q : ¬ a < b) : ¬ x < y := by rw [Int32.lt_iff_toInt_lt, hx, hy]; exact q
theorem own_l_eq {x y : Int64} {a b : Int} (hx : x.toInt = a) (hy : y.toInt = b) (q : a = b) : x = y := Int64.toInt_inj.mp (by rw [hx, hy, q])
theorem own_l_neq {x y : Int64} {a b : Int} (hx : x.toInt = a) (hy : y.toInt = b) (q : ¬ a = b) : ¬ x = y := fun r => q (by rw [← hx, ← hy, r])
theorem own_l_lt {x y : Int64} {a b : Int} (hx : x.toInt = a) (hy : y.toInt = b) (q : a < b) : x < y := by rw [Int64.lt_iff_toInt_lt, hx, hy]; exact q
theorem own_l_nlt {x y : Int64} {a b : Int} (hx : x.toInt = a) (hy : y.toInt = b) (q : ¬ a < b) : ¬ x < y := by rw [Int64.lt_iff_toInt_lt, hx, hy]; exact q
/-- a number in a field, out of the case's words -/
theorem own_fldInt {args : Array Value} {s : State} {t : Term} {a : Addr} {C n d : String} {k : Int32} (ht : t.eval args s none [] s = some (.ref a)) (hh : (Jvm.Cond.eq (.field t C n d) (.int k)).value args s none s [] = some true) : Fld s s.heap a C n d (.int k) := by
  refine Fld.start ?_
  simp only [Jvm.Cond.value, fld_at ht, Term.int_eval] at hh
  cases hf : s.fieldOf? a C n d with
  | none => simp [hf] at hh
  | some v => cases v <;> simp_all
abbrev sI (x : Int32) : Slot := .val (.int x)
abbrev sR (x : Addr) : Slot := .val (.ref x)
abbrev sJ (x : Int64) : Slot := .val (.long x)
theorem wq {a0 : Array Value} {Z : State} (hw : ∀ d ∈ tables_1, d.before a0 Z = true) (i : Nat) {d : Jvm.Cond} (h : tables_1[i]? = some d) : d.before a0 Z = true := hw _ (List.mem_of_getElem? h)
theorem Go.k {p : Program} {e : Env} {below : List Frame} {T : State} {P : State → Prop} {m : MethodId} {pc : Nat} {Ls : Array Slot} {S : List Value} (pc' : Nat) (S' : List Value) (hh : Go p e below P T (mkF m pc' Ls S')) (st : ∀ t, Steps p.tables e below (T.setTop (mkF m pc' Ls S')) t → Steps p.tables e below (T.setTop (mkF m pc Ls S)) t) : Go p e below P T (mkF m pc Ls S) := Go.st hh st
theorem Go.t {p : Program} {e : Env} {below : List Frame} {T : State} {P : State → Prop} {m : MethodId} {pc : Nat} {Ls : Array Slot} {S : List Value} (T' : State) (pc' : Nat) (S' : List Value) (hh : Go p e below P T' (mkF m pc' Ls S')) (st : ∀ t, Steps p.tables e below (T'.setTop (mkF m pc' Ls S')) t → Steps p.tables e below (T.setTop (mkF m pc Ls S)) t) : Go p e below P T (mkF m pc Ls S) := Go.st hh st
theorem Go.s {p : Program} {e : Env} {below : List Frame} {T : State} {P : State → Prop} {g g' : JFrame} (hh : Go p e below P T g') (st : ∀ t, Steps p.tables e below (T.setTop g') t → Steps p.tables e below (T.setTop g) t) : Go p e below P T g := Go.st hh st
section OwnArr
variable {p : Program} {l : Launch} {e : Env} {R : Room} {s : State} {m : MethodId} {args : Array Value} {below : List Frame} {meth : Method} {c : Code} {T : State} {locs : List Loc} {cells slots : Nat} {Z : State} {h h' : Heap} {a : Addr} {k : ClassId} {ty : FieldType} {z j : Int32} {vs : List Value} {dv v : Value} {g : JFrame} {rest : List Value}
theorem own_aaload (X : Stand p l e R s m args below meth c T locs cells slots) (hx : p.tables.exec = Jvm.exec) (hZ : Z.Warmed39 s.vm) (eT : T.heap = h) (F : Arv Z h a k ty z vs dv) (hty : ty.isReference = true) (hj : ¬ j < 0 ∧ j < z) (hv : vs.getD j.toNatClampNeg dv = v) (hg : g.method = m) (hs : g.stack = .int j :: .ref a :: rest) (hd : decode c.code g.pc = .ok (.aaload, 1)) :
    ∀ t, Steps p.tables e below (T.setTop { g with pc := g.pc + 1, stack := v :: rest }) t → Steps p.tables e below (T.setTop g) t := by
  obtain ⟨cl, A, q1, S, q3, H, G⟩ := F
  exact X.aaload hx (by rw [eT]; exact A.1) (State.isArrayOf_alike hZ.alike A.2.1) hty A.2.2 (inb_of S hj) (H.at (inb_of S hj) hv) hg hs hd
theorem own_iaload (X : Stand p l e R s m args below meth c T locs cells slots) (hx : p.tables.exec = Jvm.exec) (hZ : Z.Warmed39 s.vm) (eT : T.heap = h) (F : Arv Z h a k .int z vs dv) (hj : ¬ j < 0 ∧ j < z) (hv : vs.getD j.toNatClampNeg dv = v) (hg : g.method = m) (hs : g.stack = .int j :: .ref a :: rest) (hd : decode c.code g.pc = .ok (.iaload, 1)) :
    ∀ t, Steps p.tables e below (T.setTop { g with pc := g.pc + 1, stack := v :: rest }) t → Steps p.tables e below (T.setTop g) t := by
  obtain ⟨cl, A, q1, S, q3, H, G⟩ := F
  exact X.iaload hx (by rw [eT]; exact A.1) (State.isArrayOf_alike hZ.alike A.2.1) A.2.2 (inb_of S hj) (H.at (inb_of S hj) hv) hg hs hd
theorem own_laload (X : Stand p l e R s m args below meth c T locs cells slots) (hx : p.tables.exec = Jvm.exec) (hZ : Z.Warmed39 s.vm) (eT : T.heap = h) (F : Arv Z h a k .long z vs dv) (hj : ¬ j < 0 ∧ j < z) (hv : vs.getD j.toNatClampNeg dv = v) (hg : g.method = m) (hs : g.stack = .int j :: .ref a :: rest) (hd : decode c.code g.pc = .ok (.laload, 1)) :
    ∀ t, Steps p.tables e below (T.setTop { g with pc := g.pc + 1, stack := v :: rest }) t → Steps p.tables e below (T.setTop g) t := by
  obtain ⟨cl, A, q1, S, q3, H, G⟩ := F
  exact X.laload hx (by rw [eT]; exact A.1) (State.isArrayOf_alike hZ.alike A.2.1) A.2.2 (inb_of S hj) (H.at (inb_of S hj) hv) hg hs hd
theorem own_len (X : Stand p l e R s m args below meth c T locs cells slots) (hx : p.tables.exec = Jvm.exec) (hZ : Z.Warmed39 s.vm) (eT : T.heap = h) (F : Arv Z h a k ty z vs dv) (hg : g.method = m) (hs : g.stack = .ref a :: rest) (hd : decode c.code g.pc = .ok (.arraylength, 1)) :
    ∀ t, Steps p.tables e below (T.setTop { g with pc := g.pc + 1, stack := .int z :: rest }) t → Steps p.tables e below (T.setTop g) t := by
  obtain ⟨cl, A, q1, S, q3, H, G⟩ := F
  intro t q
  refine X.arraylength hx (by rw [eT]; exact A.1) (State.isArrayOf_alike hZ.alike A.2.1) hg hs hd _ ?_
  rw [len_of S q3]; exact q
theorem own_iastore {x : Int32} {i : Nat} (X : Stand p l e R s m args below meth c T locs cells slots) (hx : p.tables.exec = Jvm.exec) (hZ : Z.Warmed39 s.vm) (eT : T.heap = h) (F : Arv Z h a k .int z vs dv) (hj : ¬ j < 0 ∧ j < z) (hi : j.toNatClampNeg = i) (hl : i < vs.length) (hg : g.method = m) (hs : g.stack = .int x :: .int j :: .ref a :: rest) (hd : decode c.code g.pc = .ok (.iastore, 1)) :
    ∃ T' h', Stand p l e R s m args below meth c T' (locs ++ [⟨a, j.toNatClampNeg⟩]) cells slots ∧ T'.heap = h' ∧ Wr h h' a j.toNatClampNeg (.int x) ∧ Arv Z h' a k .int z (vs.set i (.int x)) dv ∧ ∀ t, Steps p.tables e below (T'.setTop { g with pc := g.pc + 1, stack := rest }) t → Steps p.tables e below (T.setTop g) t := by
  obtain ⟨cl, A, q1, S, q3, H, G⟩ := F
  obtain ⟨T', h', X', e', W, st⟩ := stI X hx hZ eT A (inb_of S hj) hg hs hd
  exact ⟨T', h', X', e', W, Arv.set A q1 S q3 H G rfl W i hi hl, st⟩
theorem own_lastore {x : Int64} {i : Nat} (X : Stand p l e R s m args below meth c T locs cells slots) (hx : p.tables.exec = Jvm.exec) (hZ : Z.Warmed39 s.vm) (eT : T.heap = h) (F : Arv Z h a k .long z vs dv) (hj : ¬ j < 0 ∧ j < z) (hi : j.toNatClampNeg = i) (hl : i < vs.length) (hg : g.method = m) (hs : g.stack = .long x :: .int j :: .ref a :: rest) (hd : decode c.code g.pc = .ok (.lastore, 1)) :
    ∃ T' h', Stand p l e R s m args below meth c T' (locs ++ [⟨a, j.toNatClampNeg⟩]) cells slots ∧ T'.heap = h' ∧ Wr h h' a j.toNatClampNeg (.long x) ∧ Arv Z h' a k .long z (vs.set i (.long x)) dv ∧ ∀ t, Steps p.tables e below (T'.setTop { g with pc := g.pc + 1, stack := rest }) t → Steps p.tables e below (T.setTop g) t := by
  obtain ⟨cl, A, q1, S, q3, H, G⟩ := F
  obtain ⟨T', h', X', e', W, st⟩ := stJ X hx hZ eT A (inb_of S hj) hg hs hd
  exact ⟨T', h', X', e', W, Arv.set A q1 S q3 H G rfl W i hi hl, st⟩
theorem own_aastore {C : String} {y : Addr} {i : Nat} (X : Stand p l e R s m args below meth c T locs cells slots) (hx : p.tables.exec = Jvm.exec) (hZ : Z.Warmed39 s.vm) (eT : T.heap = h) (F : Arv Z h a k ty z vs dv) (hty : ty.isReference = true) (hfit : fits ty (.ref y) = true) (O : Ovr Z k C) (I : Ins Z h y C true) (hj : ¬ j < 0 ∧ j < z) (hi : j.toNatClampNeg = i) (hl : i < vs.length) (hg : g.method = m) (hs : g.stack = .ref y :: .int j :: .ref a :: rest) (hd : decode c.code g.pc = .ok (.aastore, 1)) :
    ∃ T' h', Stand p l e R s m args below meth c T' (locs ++ [⟨a, j.toNatClampNeg⟩]) cells slots ∧ T'.heap = h' ∧ Wr h h' a j.toNatClampNeg (.ref y) ∧ Arv Z h' a k ty z (vs.set i (.ref y)) dv ∧ ∀ t, Steps p.tables e below (T'.setTop { g with pc := g.pc + 1, stack := rest }) t → Steps p.tables e below (T.setTop g) t := by
  obtain ⟨cl, A, q1, S, q3, H, G⟩ := F
  obtain ⟨T', h', X', e', W, st⟩ := stR X hx hZ eT A (inb_of S hj) hty (Sto.ofV A q1 O I) hg hs hd
  exact ⟨T', h', X', e', W, Arv.set A q1 S q3 H G hfit W i hi hl, st⟩
theorem own_daload (X : Stand p l e R s m args below meth c T locs cells slots) (hx : p.tables.exec = Jvm.exec) (hZ : Z.Warmed39 s.vm) (eT : T.heap = h) (F : Arv Z h a k .double z vs dv) (hj : ¬ j < 0 ∧ j < z) (hv : vs.getD j.toNatClampNeg dv = v) (hg : g.method = m) (hs : g.stack = .int j :: .ref a :: rest) (hd : decode c.code g.pc = .ok (.daload, 1)) :
    ∀ t, Steps p.tables e below (T.setTop { g with pc := g.pc + 1, stack := v :: rest }) t → Steps p.tables e below (T.setTop g) t := by
  obtain ⟨cl, A, q1, S, q3, H, G⟩ := F
  exact X.daload hx (by rw [eT]; exact A.1) (State.isArrayOf_alike hZ.alike A.2.1) A.2.2 (inb_of S hj) (H.at (inb_of S hj) hv) hg hs hd
theorem own_dastore {x : UInt64} {i : Nat} (X : Stand p l e R s m args below meth c T locs cells slots) (hx : p.tables.exec = Jvm.exec) (hZ : Z.Warmed39 s.vm) (eT : T.heap = h) (F : Arv Z h a k .double z vs dv) (hj : ¬ j < 0 ∧ j < z) (hi : j.toNatClampNeg = i) (hl : i < vs.length) (hg : g.method = m) (hs : g.stack = .double x :: .int j :: .ref a :: rest) (hd : decode c.code g.pc = .ok (.dastore, 1)) :
    ∃ T' h', Stand p l e R s m args below meth c T' (locs ++ [⟨a, j.toNatClampNeg⟩]) cells slots ∧ T'.heap = h' ∧ Wr h h' a j.toNatClampNeg (.double x) ∧ Arv Z h' a k .double z (vs.set i (.double x)) dv ∧ ∀ t, Steps p.tables e below (T'.setTop { g with pc := g.pc + 1, stack := rest }) t → Steps p.tables e below (T.setTop g) t := by
  obtain ⟨cl, A, q1, S, q3, H, G⟩ := F
  obtain ⟨T', h', X', e', W, st⟩ := stD X hx hZ eT A (inb_of S hj) hg hs hd
  exact ⟨T', h', X', e', W, Arv.set A q1 S q3 H G rfl W i hi hl, st⟩
end OwnArr
/-- the cell at x is no class's statics -/
def own_pl (h : Heap) (x : Addr) : Prop := ∃ c : Cell, h[x]? = some c ∧ c.vm.isStatics = false
theorem own_plE {Z : State} {h : Heap} {a : Addr} {C : String} (F : Exa Z h a C) : own_pl h a := by obtain ⟨c, _, h1, -, -, h4, -⟩ := F; exact ⟨c, h1, h4⟩
theorem own_plA {Z : State} {h : Heap} {a : Addr} {k : ClassId} {ty : FieldType} {z : Int32} {vs : List Value} {d : Value} (F : Arv Z h a k ty z vs d) : own_pl h a := by obtain ⟨c, A, -⟩ := F; exact ⟨c, A.1, A.plain⟩
theorem own_sta {Z : State} {h h' : Heap} {ws : List Addr} {C n d : String} {v : Value} (F : Sta Z h C n d v) (K : Keep h h' ws) (q : ∀ x ∈ ws, own_pl h x) : Sta Z h' C n d v := by
  obtain ⟨cf, i, k, f, st, cell, h1, h2, h3, h4, h5, h6, h7⟩ := F
  refine ⟨cf, i, k, f, st, cell, h1, h2, h3, h4, K.2.1 st cell h5 fun z => ?_, h6, h7⟩
  obtain ⟨c, e1, e2⟩ := q st z
  cases h5.symm.trans e1
  rw [e2] at h6; cases h6
section OwnP
variable {p : Program} {l : Launch} {e : Env} {R : Room} {s : State} {m : MethodId} {args : Array Value} {below : List Frame} {meth : Method} {c : Code} {T T' : State} {locs : List Loc} {cells slots : Nat} {P : State → Prop} {g g' : JFrame} {Z : State} {h h' h0 : Heap} {a0 as' : Array Value} {own : String} {index : Nat} {y z : MethodName} {bytes : ByteArray} {maxL : Nat} {rt : Option FieldType} {rm : Room} {ws : List Jvm.Cond} {Q : Option Value → Heap → List Loc → Prop} {ce sl W : Nat} {argsL rest : List Value} {a b : Addr} {C : String}
/-- a private method's call by its contract -/
theorem Go.callP {nsl : Nat} (X : Stand p l e R s m args below meth c T locs cells slots) (hx : p.tables.exec = Jvm.exec) (hZ : Z.Warmed39 s.vm) (hown : s.vm.findClass own = some m.cls) (w1 : (Jvm.Cond.methodLink own index y).before a0 Z = true) (w5 : (Jvm.Cond.privateMethod y).before a0 Z = true) (wi : (Jvm.Cond.instantiable y.cls nsl).before a0 Z = true) (w6 : (Jvm.Cond.instanceMethod y).before a0 Z = true) (w3 : (Jvm.Cond.initialized y.cls).before a0 Z = true) (w4 : (Jvm.Cond.code y bytes maxL rt).before a0 Z = true)
    (hy : y.cls ≠ "java/lang/invoke/MethodHandle" ∧ y.cls ≠ "java/lang/invoke/VarHandle") (A : Exa Z h a C) (D : Does l y bytes maxL rt [] rm (.ref a :: argsL).toArray Z h Q) (eT : T.heap = h) (hf : rm.frames + 1 ≤ R.frames) (hl : W + (maxL + 11) + rm.locals ≤ R.locals) (hc : cells + rm.cells ≤ R.cells) (hs : slots + rm.slots ≤ R.slots)
    (hg : g.method = m) (hsize : g.locals.size = c.maxLocals) (hlen : ∀ sig, parseMethodDescriptor y.desc = some sig → argsL.length = sig.parameters.length) (hstack : g.stack = argsL.reverse ++ .ref a :: rest) (hW : 2 * g.monitorRoom + (rest.map fun v => v.category).sum ≤ W) (hdg : decode c.code g.pc = .ok (.invokevirtual index, 3))
    (k : ∀ (v : Option Value) (T' : State) (L : List Loc), Stand p l e R s m args below meth c T' (locs ++ L) (cells + rm.cells) (slots + rm.slots) → Q v T'.heap L → Go p e below P T' { g with pc := g.pc + 3, stack := v.toList ++ rest }) : Go p e below P T g := by
  obtain ⟨cell, kq, q1, q2, q3, q4, -⟩ := A
  obtain ⟨mk, methM, hnamed, hmethM, hstM, habM⟩ := Cond.instanceMethod_spec (mv (args := args) hZ w6)
  obtain ⟨methM', cM, hmethM', -, -, -, -, -, -, hsigM⟩ := Cond.code_spec hnamed (mv (args := args) hZ w4)
  cases hmethM.symm.trans hmethM'
  obtain ⟨t, kt, t1, t2, t3, t4, -⟩ := Cond.instantiable_spec (mv (args := args) hZ wi)
  cases (findClass_of_methodNamed hnamed).symm.trans t1
  have t5 : kt.isInterface = false := by simp only [Bool.or_eq_false_iff] at t4; exact t4.1
  have hselP : selectMethod e.platform s.vm cell.cls mk = .method mk := selectMethod_private hmethM (Cond.privateMethod_at (mv (args := args) hZ w5) mk methM hnamed hmethM)
  obtain ⟨vm₁, X₁, hstep₁⟩ := X.invokevirtual hx hown (mv hZ w1) hnamed hmethM hstM t2 t5 hy (a := a) (cell := cell) (by rw [eT]; exact q1) (fun q r => by rw [r] at q4; cases q4) hselP hmethM habM t2 t5 (g := g) hg (argsL := argsL) (rest := rest) (hlen _ hsigM) hstack hdg
  obtain ⟨v, ⟨T1, L1, k1, n1⟩, X1, ⟨Lc, hQ, l1, y1, z1⟩, hsteps⟩ := (backOf (p := p) (e := e) (below := below) (args := args) (len := 3) (W := W) (R := R) D hZ w4 w3 hf hl) m meth c ⟨T.setVm vm₁, locs, cells, slots⟩ { g with stack := rest } (.invokevirtual index) mk (.ref a :: argsL).toArray X₁ hg hsize hdg hW (X₁.named hnamed) ⟨rfl, eT, hc, hs⟩
  dsimp only [Pt.U, Pt.locs, Pt.cells, Pt.slots] at X1 l1 y1 z1 hsteps hQ
  subst l1 y1 z1
  exact Go.st (k v T1 Lc X1 hQ) fun _ q => (hstep₁ _ fun acts => by rw [doInvoke_state]; exact Steps.refl _).trans (hsteps.trans q)
/-- an array of longs, its content a function that is 0 from its length on -/
def LA (Z : State) (h : Heap) (a : Addr) (n : Int32) (f : Nat → Int64) : Prop := (∃ k, Arv Z h a k .long n ((List.range n.toNatClampNeg).map fun i => Value.long (f i)) (.long 0)) ∧ ∀ i, n.toNatClampNeg ≤ i → f i = 0
variable {n j nn : Int32} {f : Nat → Int64} {k : ClassId} {vs : List Value} {v : Value} {sx : Nat} {ks : List Addr}
theorem LA.getD (z0 : ∀ i, n.toNatClampNeg ≤ i → f i = 0) (i : Nat) : ((List.range n.toNatClampNeg).map fun i => Value.long (f i)).getD i (.long 0) = .long (f i) := by
  rw [List.getD_eq_getElem?_getD, List.getElem?_map]
  rcases Nat.lt_or_ge i n.toNatClampNeg with q | q
  · rw [List.getElem?_range q]; rfl
  · rw [List.getElem?_eq_none (by simpa using q), z0 i q]; rfl
theorem LA.of (F : Arv Z h a k .long n vs (.long 0)) (q : ∀ i, vs.getD i (.long 0) = .long (f i)) (z0 : ∀ i, n.toNatClampNeg ≤ i → f i = 0) : LA Z h a n f :=
  ⟨⟨k, F.pad fun i => by rw [LA.getD z0, q]⟩, z0⟩
theorem LA.lt (F : LA Z h a n f) : a < h.size := by obtain ⟨⟨k, A⟩, -⟩ := F; exact A.lt
theorem LA.ext (F : LA Z h a n f) (E : Ext h h') : LA Z h' a n f := by obtain ⟨⟨k, A⟩, z⟩ := F; exact ⟨⟨k, A.ext E⟩, z⟩
theorem LA.other (F : LA Z h b n f) (W : Wr h h' a sx v) (q : b ≠ a) : LA Z h' b n f := by obtain ⟨⟨k, A⟩, z⟩ := F; exact ⟨⟨k, A.other W q⟩, z⟩
theorem LA.keep (F : LA Z h a n f) (K : Keep h h' ks) (q : a ∉ ks) : LA Z h' a n f := by obtain ⟨⟨k, A⟩, z⟩ := F; exact ⟨⟨k, A.keep K q⟩, z⟩
theorem LA.nneg (F : LA Z h a n f) : ¬ n < 0 := by obtain ⟨⟨k, c, A, q1, q2, q3, -⟩, -⟩ := F; exact q3
theorem LA.new (F : Arv Z h a k .long n [] (.long 0)) : LA Z h a n (fun _ => 0) := LA.of F (fun i => by simp) (fun _ _ => rfl)
theorem own_laL (X : Stand p l e R s m args below meth c T locs cells slots) (hx : p.tables.exec = Jvm.exec) (hZ : Z.Warmed39 s.vm) (eT : T.heap = h) (F : LA Z h a n f) (hj : ¬ j < 0 ∧ j < n) (hg : g.method = m) (hs : g.stack = .int j :: .ref a :: rest) (hd : decode c.code g.pc = .ok (.laload, 1)) :
    ∀ t, Steps p.tables e below (T.setTop { g with pc := g.pc + 1, stack := .long (f j.toNatClampNeg) :: rest }) t → Steps p.tables e below (T.setTop g) t := by
  obtain ⟨⟨k, A⟩, z⟩ := F
  exact own_laload X hx hZ eT A hj (LA.getD z _) hg hs hd
theorem own_laN (X : Stand p l e R s m args below meth c T locs cells slots) (hx : p.tables.exec = Jvm.exec) (hZ : Z.Warmed39 s.vm) (eT : T.heap = h) (F : LA Z h a n f) (hg : g.method = m) (hs : g.stack = .ref a :: rest) (hd : decode c.code g.pc = .ok (.arraylength, 1)) :
    ∀ t, Steps p.tables e below (T.setTop { g with pc := g.pc + 1, stack := .int n :: rest }) t → Steps p.tables e below (T.setTop g) t := by
  obtain ⟨⟨k, A⟩, z⟩ := F
  exact own_len X hx hZ eT A hg hs hd
def own_set (f : Nat → Int64) (i : Nat) (x : Int64) : Nat → Int64 := fun q => if q = i then x else f q
theorem own_nat {j n : Int32} (hj : ¬ j < 0 ∧ j < n) : j.toNatClampNeg < n.toNatClampNeg := by
  obtain ⟨h1, h2⟩ := hj
  rw [Int32.lt_iff_toInt_lt] at h1 h2; have : (0 : Int32).toInt = 0 := rfl
  simp only [Int32.toNatClampNeg]; omega
theorem own_laS {x : Int64} (X : Stand p l e R s m args below meth c T locs cells slots) (hx : p.tables.exec = Jvm.exec) (hZ : Z.Warmed39 s.vm) (eT : T.heap = h) (F : LA Z h a n f) (hj : ¬ j < 0 ∧ j < n) (hg : g.method = m) (hs : g.stack = .long x :: .int j :: .ref a :: rest) (hd : decode c.code g.pc = .ok (.lastore, 1)) :
    ∃ T' h', Stand p l e R s m args below meth c T' (locs ++ [⟨a, j.toNatClampNeg⟩]) cells slots ∧ T'.heap = h' ∧ Wr h h' a j.toNatClampNeg (.long x) ∧ LA Z h' a n (own_set f j.toNatClampNeg x) ∧ ∀ t, Steps p.tables e below (T'.setTop { g with pc := g.pc + 1, stack := rest }) t → Steps p.tables e below (T.setTop g) t := by
  obtain ⟨⟨k, A⟩, z⟩ := F
  have lt := own_nat hj
  obtain ⟨T', h', X', e', W, V, st⟩ := own_lastore X hx hZ eT A hj rfl (by simpa using lt) hg hs hd
  refine ⟨T', h', X', e', W, LA.of V (fun i => ?_) (fun i hi => ?_), st⟩
  · by_cases q : i = j.toNatClampNeg
    · subst q; simp [own_set, List.getD_eq_getElem?_getD, lt]
    · have := LA.getD z i
      rw [List.getD_eq_getElem?_getD] at this ⊢
      rw [List.getElem?_set_ne (fun r => q r.symm), this, own_set, if_neg q]
  · have : ¬ i = j.toNatClampNeg := by omega
    rw [own_set, if_neg this]; exact z i hi
theorem own_aastoreA {ty : FieldType} {y : Addr} {i : Nat} {z : Int32} {dv : Value} {D : String} (X : Stand p l e R s m args below meth c T locs cells slots) (hx : p.tables.exec = Jvm.exec) (hZ : Z.Warmed39 s.vm) (eT : T.heap = h) (F : Arv Z h a k (.array ty) z vs dv) (O : OvrA Z k ty D) (I : Ins Z h y D true) (hj : ¬ j < 0 ∧ j < z) (hi : j.toNatClampNeg = i) (hl : i < vs.length) (hg : g.method = m) (hs : g.stack = .ref y :: .int j :: .ref a :: rest) (hd : decode c.code g.pc = .ok (.aastore, 1)) :
    ∃ T' h', Stand p l e R s m args below meth c T' (locs ++ [⟨a, j.toNatClampNeg⟩]) cells slots ∧ T'.heap = h' ∧ Wr h h' a j.toNatClampNeg (.ref y) ∧ Arv Z h' a k (.array ty) z (vs.set i (.ref y)) dv ∧ ∀ t, Steps p.tables e below (T'.setTop { g with pc := g.pc + 1, stack := rest }) t → Steps p.tables e below (T.setTop g) t := by
  obtain ⟨cl, A, q1, S, q3, H, G⟩ := F
  obtain ⟨T', h', X', e', W, st⟩ := stR X hx hZ eT A (inb_of S hj) rfl (Sto.ofVA A q1 O I) hg hs hd
  exact ⟨T', h', X', e', W, Arv.set A q1 S q3 H G rfl W i hi hl, st⟩
/-- System.arraycopy of a whole array of longs into a fresh one -/
theorem own_laC {k' : ClassId} {z' : Int32} {n0 : Nat} (X : Stand p l e R s m args below meth c T locs cells slots) (hx : p.tables.exec = Jvm.exec) (hZ : Z.Warmed39 s.vm) (hown : s.vm.findClass own = some m.cls)
    (w1 : (Cond.methodLink own index Jvm.Stand.acN).before a0 Z = true) (w2 : (Cond.native Jvm.Stand.acN).before a0 Z = true) (w3 : (Cond.static Jvm.Stand.acN).before a0 Z = true) (w4 : (Cond.initialized "java/lang/System").before a0 Z = true) (eT : T.heap = h)
    (A : LA Z h a n f) (B : Arv Z h b k' .long z' [] (.long 0)) (hz : n.toNatClampNeg ≤ z'.toNatClampNeg) (N : Fr n0 locs) (ge : n0 ≤ b)
    (hg : g.method = m) (hsize : g.locals.size = c.maxLocals) (hs : g.stack = .int n :: .int 0 :: .ref b :: .int 0 :: .ref a :: rest) (hd : decode c.code g.pc = .ok (.invokestatic index, 3))
    (hf : 1 ≤ R.frames) {W : Nat} (hW : 2 * g.monitorRoom + (rest.map fun v => v.category).sum ≤ W) (hlo : W + (nativeFrameWords "java/lang/System" "arraycopy" 5 + 11) ≤ R.locals) :
    ∃ T' h' L, Stand p l e R s m args below meth c T' L cells slots ∧ T'.heap = h' ∧ Fr n0 L ∧ Keep h h' [b] ∧ LA Z h' b z' f ∧
      ∀ target, Steps p.tables e below (T'.setTop { g with pc := g.pc + 3, stack := rest }) target → Steps p.tables e below (T.setTop g) target := by
  have nn := A.nneg
  obtain ⟨⟨k, A⟩, z⟩ := A
  have B' := B.pad (vs' := [] ++ List.replicate z'.toNatClampNeg (.long 0)) (pad_rep [] _ _)
  have e0 : (0 : Int32).toNatClampNeg = 0 := rfl
  obtain ⟨T', h', L, X', e', N', K, V, st⟩ := cpA X hx hZ hown w1 w2 w3 w4 eT A B' (Or.inl ⟨rfl, rfl⟩) (sp := 0) (dp := 0) (nn := n) (by decide) (by decide) nn (by rw [e0]; omega) (by rw [e0]; omega) rfl (by rw [e0]; simpa using hz) N ge hg hsize hs hd hf hW hlo
  refine ⟨T', h', L, X', e', N', K, LA.of V (fun i => ?_) (fun i hi => z i (Nat.le_trans hz hi)), st⟩
  rw [e0]
  simp only [List.take_zero, List.nil_append, Nat.zero_add, LA.getD z]
  rw [List.getD_eq_getElem?_getD]
  rcases Nat.lt_or_ge i n.toNatClampNeg with q | q
  · rw [List.getElem?_append_left (by simpa using q), List.getElem?_map, List.getElem?_range q]; rfl
  · rw [List.getElem?_append_right (by simpa using q), z i q]
    simp only [List.length_map, List.length_range, List.drop_replicate]
    rw [List.getElem?_replicate]; split <;> rfl
end OwnP
theorem own_ushr6 (x : Int32) (h : 0 ≤ x.toInt) : (XT.ushr x 6).toInt = x.toInt / 64 := by
  have q := c_iushr x 6 6 (by decide) (by decide)
  obtain ⟨r1, r2⟩ := rng32 x
  have e : XT.ushr x 6 = (x.toUInt32 >>> ((6 : Int32) &&& 31).toUInt32).toInt32 := rfl
  rw [e, q]
  have : ((2 ^ 6 : Nat) : Int) = 64 := rfl
  omega
def own_or (f : Nat → Int64) (i : Nat) (x : Int64) : Nat → Int64 := own_set f i (f i ||| x)
def own_an (f : Nat → Int64) (i : Nat) (x : Int64) : Nat → Int64 := own_set f i (f i &&& (x ^^^ -1))
theorem own_or0 (f : Nat → Int64) (i : Nat) (x : Int64) (h : x = 0) : own_or f i x = f := by
  funext q; unfold own_or own_set; subst h; split
  · subst_vars; exact Int64.toBitVec_inj.mp (by simp)
  · rfl
theorem own_an0 (f : Nat → Int64) (i : Nat) (x : Int64) (h : x = 0 ∨ f i = 0) : own_an f i x = f := by
  funext q; unfold own_an own_set; split
  · subst_vars
    rcases h with rfl | h
    · exact Int64.toBitVec_inj.mp (by simp)
    · rw [h]; exact Int64.toBitVec_inj.mp (by simp)
  · rfl
theorem own_m63 (x : Int64) : ∃ n : Fin 64, (x &&& 63) = Int64.ofNat n.val := by
  have h := c_maskL x 63 6 (by decide) (by decide)
  have e : ((2 ^ 6 : Nat) : Int) = 64 := rfl
  have r : 0 ≤ x.toInt % 64 ∧ x.toInt % 64 < 64 := by omega
  refine ⟨⟨(x.toInt % 64).toNat, by omega⟩, Int64.toInt_inj.mp ?_⟩
  rw [h, e, Int64.toInt_ofNat_of_lt (by show _ < _; omega)]
  show _ = (((x.toInt % 64).toNat : Nat) : Int)
  omega
theorem own_shl1 (w : Int32) : ¬ (1 : Int64) <<< (w.toInt64 &&& 63) = 0 := by
  obtain ⟨n, hn⟩ := own_m63 w.toInt64
  rw [hn]
  exact (by decide +kernel : ∀ n : Fin 64, ¬ (1 : Int64) <<< Int64.ofNat n.val = 0) n
/-! bits of longs, and the pairs of levels -/
def own_bit (x : Int64) (i : Nat) : Bool := x.toBitVec.getLsbD i
theorem own_bit_ext {x y : Int64} (h : ∀ i, i < 64 → own_bit x i = own_bit y i) : x = y := Int64.toBitVec_inj.mp (BitVec.eq_of_getLsbD_eq fun i hi => h i hi)
theorem own_bit0 (i : Nat) : own_bit 0 i = false := by simp [own_bit]
theorem own_bit_or (x y : Int64) (i : Nat) : own_bit (x ||| y) i = (own_bit x i || own_bit y i) := by simp [own_bit]
theorem own_bit_and (x y : Int64) (i : Nat) : own_bit (x &&& y) i = (own_bit x i && own_bit y i) := by simp [own_bit]
theorem own_bit_not (x : Int64) (i : Nat) (h : i < 64) : own_bit (x ^^^ -1) i = !own_bit x i := by
  have e : ((-1 : Int64)).toBitVec = BitVec.allOnes 64 := by decide
  simp [own_bit, e, h]
theorem own_bit_ne {x : Int64} {i : Nat} (h : own_bit x i = true) : ¬ x = 0 := fun q => by rw [q, own_bit0] at h; cases h
theorem own_bit_ex {x : Int64} (h : ¬ x = 0) : ∃ i, i < 64 ∧ own_bit x i = true := by
  apply Classical.byContradiction
  intro q
  refine h (own_bit_ext fun i hi => ?_)
  rw [own_bit0]
  cases hb : own_bit x i
  · rfl
  · exact absurd ⟨i, hi, hb⟩ q
theorem own_m63n (w : Int32) (h : 0 ≤ w.toInt) : (w.toInt64 &&& 63) = Int64.ofNat (w.toNatClampNeg % 64) := by
  have h1 := c_maskL w.toInt64 63 6 (by decide) (by decide)
  have e : ((2 ^ 6 : Nat) : Int) = 64 := rfl
  apply Int64.toInt_inj.mp
  rw [h1, e, c_i2l, Int64.toInt_ofNat_of_lt (by show _ < _; omega)]
  simp only [Int32.toNatClampNeg]; omega
theorem own_bit_shl (w : Int32) (h : 0 ≤ w.toInt) (i : Nat) (hi : i < 64) : own_bit ((1 : Int64) <<< (w.toInt64 &&& 63)) i = decide (i = w.toNatClampNeg % 64) := by
  rw [own_m63n w h]
  exact (by decide +kernel : ∀ (n i : Fin 64), own_bit ((1 : Int64) <<< Int64.ofNat n.val) i.val = decide (i.val = n.val)) ⟨w.toNatClampNeg % 64, Nat.mod_lt _ (by decide)⟩ ⟨i, hi⟩
theorem own_bit_hi (w : Int32) (h : 0 ≤ w.toInt) (i : Nat) (hi : i < 64) : own_bit ((-1 : Int64) <<< (w.toInt64 &&& 63)) i = decide (w.toNatClampNeg % 64 ≤ i) := by
  rw [own_m63n w h]
  exact (by decide +kernel : ∀ (n i : Fin 64), own_bit ((-1 : Int64) <<< Int64.ofNat n.val) i.val = decide (n.val ≤ i.val)) ⟨w.toNatClampNeg % 64, Nat.mod_lt _ (by decide)⟩ ⟨i, hi⟩
theorem own_bit_lo (w : Int32) (h : 0 ≤ w.toInt) (i : Nat) (hi : i < 64) : own_bit ((1 : Int64) <<< (w.toInt64 &&& 63) - 1) i = decide (i < w.toNatClampNeg % 64) := by
  rw [own_m63n w h]
  exact (by decide +kernel : ∀ (n i : Fin 64), own_bit ((1 : Int64) <<< Int64.ofNat n.val - 1) i.val = decide (i.val < n.val)) ⟨w.toNatClampNeg % 64, Nat.mod_lt _ (by decide)⟩ ⟨i, hi⟩
/-- one level and the next: a bit above tells that the word below is not zero -/
def own_P (f g : Nat → Int64) : Prop := ∀ w, own_bit (g (w / 64)) (w % 64) = true ↔ ¬ f w = 0
theorem own_Pz : own_P (fun _ => 0) (fun _ => 0) := fun w => by simp [own_bit0]
theorem own_or_ne {x m : Int64} (h : ¬ x = 0) : ¬ x ||| m = 0 := by
  obtain ⟨i, -, hb⟩ := own_bit_ex h
  exact own_bit_ne (i := i) (by rw [own_bit_or, hb]; rfl)
theorem own_or_ne' {x m : Int64} (h : ¬ m = 0) : ¬ x ||| m = 0 := by
  obtain ⟨i, -, hb⟩ := own_bit_ex h
  exact own_bit_ne (i := i) (by rw [own_bit_or, hb]; simp)
theorem own_P_A {f g : Nat → Int64} {b : Nat} {x : Int64} (P : own_P f g) (h : ¬ f b = 0) (hx : ¬ x = 0) : own_P (own_set f b x) g := fun w => by
  rw [P w]; unfold own_set
  by_cases q : w = b
  · subst q; simp [h, hx]
  · simp [q]
theorem own_P_B {f g : Nat → Int64} {b : Nat} {x : Int64} {wd : Int32} (P : own_P f g) (hx : ¬ x = 0) (h0 : 0 ≤ wd.toInt) (hb : wd.toNatClampNeg = b) : own_P (own_set f b x) (own_set g (b / 64) (g (b / 64) ||| (1 : Int64) <<< (wd.toInt64 &&& 63))) := fun w => by
  subst hb
  have Pw := P w
  unfold own_set
  by_cases q : w = wd.toNatClampNeg
  · subst q
    rw [if_pos rfl, if_pos rfl, own_bit_or, own_bit_shl wd h0 _ (Nat.mod_lt _ (by decide))]
    simp [hx]
  · rw [if_neg q, ← Pw]
    by_cases r : w / 64 = wd.toNatClampNeg / 64
    · rw [if_pos r, own_bit_or, own_bit_shl wd h0 _ (Nat.mod_lt _ (by decide)), decide_eq_false (by omega), r]; simp
    · rw [if_neg r]
theorem own_P_D {f g : Nat → Int64} {b : Nat} {wd : Int32} (P : own_P f g) (h0 : 0 ≤ wd.toInt) (hb : wd.toNatClampNeg = b) {x : Int64} (hx : x = 0) : own_P (own_set f b x) (own_set g (b / 64) (g (b / 64) &&& ((1 : Int64) <<< (wd.toInt64 &&& 63) ^^^ -1))) := fun w => by
  subst hb
  have Pw := P w
  unfold own_set
  by_cases q : w = wd.toNatClampNeg
  · subst q
    rw [if_pos rfl, if_pos rfl, own_bit_and, own_bit_not _ _ (Nat.mod_lt _ (by decide)), own_bit_shl wd h0 _ (Nat.mod_lt _ (by decide))]
    simp [hx]
  · rw [if_neg q, ← Pw]
    by_cases r : w / 64 = wd.toNatClampNeg / 64
    · rw [if_pos r, own_bit_and, own_bit_not _ _ (Nat.mod_lt _ (by decide)), own_bit_shl wd h0 _ (Nat.mod_lt _ (by decide)), decide_eq_false (by omega), r]; simp
    · rw [if_neg r]
theorem own_P_Z {f g : Nat → Int64} {b : Nat} {x : Int64} (P : own_P f g) (h : f b = 0) (hx : x = 0) : own_P (own_set f b x) g := fun w => by
  rw [P w]; unfold own_set
  by_cases q : w = b
  · subst q; simp [h, hx]
  · simp [q]
theorem own_and_ne {x m : Int64} (h : ¬ x &&& m = 0) : ¬ x = 0 := fun q => h (by rw [q]; exact own_bit_ext fun i _ => by rw [own_bit_and, own_bit0]; rfl)
/-! what next() climbs over -/
def own_b (f : Nat → Int64) (p : Nat) : Bool := own_bit (f (p / 64)) (p % 64)
def own_dv : Nat → Nat → Nat
  | 0, i => i
  | k + 1, i => own_dv k i / 64
def own_U (f fk : Nat → Int64) (k : Nat) : Prop := ∀ i, own_b f i = true → own_b fk (own_dv k i) = true
theorem own_U0 (f : Nat → Int64) : own_U f f 0 := fun _ h => h
theorem own_US {f fk g : Nat → Int64} {k : Nat} (U : own_U f fk k) (P : own_P fk g) : own_U f g (k + 1) := fun i h => (P (own_dv k i / 64)).mpr (own_bit_ne (U i h))
def own_N (f : Nat → Int64) (fr k pos : Nat) : Prop := (∀ i, fr ≤ i → own_dv k i < pos → own_b f i = false) ∧ ∀ i, pos ≤ own_dv k i → fr ≤ i
theorem own_N0 (f : Nat → Int64) (fr : Nat) : own_N f fr 0 fr := ⟨fun i h1 h2 => absurd h1 (Nat.not_le.mpr h2), fun i h => h⟩
theorem own_U.no {f fk : Nat → Int64} {k : Nat} (U : own_U f fk k) {i : Nat} (h : own_b fk (own_dv k i) = false) : own_b f i = false := by
  cases q : own_b f i
  · rfl
  · rw [U i q] at h; cases h
theorem own_N.step {f fk : Nat → Int64} {fr k pos : Nat} (U : own_U f fk k) (N : own_N f fr k pos) (h : ∀ p, pos ≤ p → p / 64 = pos / 64 → own_b fk p = false) : own_N f fr (k + 1) (pos / 64 + 1) := by
  refine ⟨fun i h1 h2 => ?_, fun i h1 => ?_⟩
  · have h2' : own_dv k i / 64 < pos / 64 + 1 := h2
    rcases Nat.lt_or_ge (own_dv k i) pos with q | q
    · exact N.1 i h1 q
    · exact U.no (h _ q (by omega))
  · have h1' : pos / 64 + 1 ≤ own_dv k i / 64 := h1
    exact N.2 i (by omega)
def own_D (f fk : Nat → Int64) (fr k p : Nat) : Prop := own_b fk p = true ∧ own_N f fr k p
theorem own_N.find {f fk : Nat → Int64} {fr k pos p : Nat} (U : own_U f fk k) (N : own_N f fr k pos) (h1 : pos ≤ p) (h2 : own_b fk p = true) (h3 : ∀ q, pos ≤ q → q < p → own_b fk q = false) : own_D f fk fr k p := by
  refine ⟨h2, fun i a b => ?_, fun i a => N.2 i (Nat.le_trans h1 a)⟩
  rcases Nat.lt_or_ge (own_dv k i) pos with q | q
  · exact N.1 i a q
  · exact U.no (h3 _ q b)
theorem own_D.down {f fk g : Nat → Int64} {fr k p p' n : Nat} (U : own_U f fk k) (D : own_D f g fr (k + 1) p) (hn : n < 64) (e : p' = 64 * p + n) (h1 : own_bit (fk p) n = true) (h2 : ∀ j, j < n → own_bit (fk p) j = false) : own_D f fk fr k p' := by
  obtain ⟨-, N1, N2⟩ := D
  subst e
  refine ⟨?_, fun i a b => ?_, fun i a => N2 i (show p ≤ own_dv k i / 64 by omega)⟩
  · unfold own_b; rw [show (64 * p + n) / 64 = p by omega, show (64 * p + n) % 64 = n by omega]; exact h1
  · rcases Nat.lt_or_ge (own_dv k i / 64) p with q | q
    · exact N1 i a q
    · refine U.no ?_
      unfold own_b; rw [show own_dv k i / 64 = p by omega]; exact h2 _ (by omega)
theorem own_D.ne {f fk g : Nat → Int64} {fr k p : Nat} (D : own_D f g fr k p) (P : own_P fk g) : ¬ fk p = 0 := (P p).mp D.1
/-! the lowest bit -/
theorem own_odd : ∀ x : Nat, 0 < x → ∃ n q, x = 2 ^ n * (2 * q + 1) := by
  intro x
  induction x using Nat.strongRecOn with
  | ind x ih =>
    intro h
    rcases Nat.mod_two_eq_zero_or_one x with e | e
    · obtain ⟨n, q, r⟩ := ih (x / 2) (by omega) (by omega)
      exact ⟨n + 1, q, by rw [Nat.pow_succ, Nat.mul_comm (2 ^ n) 2, Nat.mul_assoc, ← r]; omega⟩
    · exact ⟨0, x / 2, by simp; omega⟩
theorem own_ctz32 (x : Int32) (h : ¬ x = 0) : ∃ n : Nat, n < 32 ∧ (x ^^^ -1) &&& (x - 1) = Int32.ofNat (2 ^ n - 1) ∧ x.toBitVec.getLsbD n = true ∧ ∀ j, j < n → x.toBitVec.getLsbD j = false := by
  have h0 : 0 < x.toBitVec.toNat := Nat.pos_of_ne_zero fun q => h (Int32.toBitVec_inj.mp (BitVec.eq_of_toNat_eq (by rw [q]; rfl)))
  obtain ⟨n, q, e⟩ := own_odd _ h0
  have hx := x.toBitVec.isLt
  have p1 : 0 < 2 ^ n := Nat.two_pow_pos n
  have hn : n < 32 := by
    rcases Nat.lt_or_ge n 32 with r | r
    · exact r
    · have := Nat.pow_le_pow_right (by decide : 0 < 2) r
      have : 2 ^ n * 1 ≤ 2 ^ n * (2 * q + 1) := Nat.mul_le_mul_left _ (by omega)
      omega
  have bx : ∀ j, x.toBitVec.getLsbD j = if j < n then false else (2 * q + 1).testBit (j - n) := fun j => by
    show x.toBitVec.toNat.testBit j = _
    rw [e, show 2 ^ n * (2 * q + 1) = 2 ^ n * (2 * q + 1) + 0 by omega, Nat.testBit_two_pow_mul_add _ p1]
    simp
  refine ⟨n, hn, ?_, by rw [bx]; simp, fun j hj => by rw [bx, if_pos hj]⟩
  apply Int32.toBitVec_inj.mp
  apply BitVec.eq_of_getLsbD_eq
  intro i hi
  have e1 : (-1 : Int32).toBitVec = BitVec.allOnes 32 := by decide
  have em : (x - 1).toBitVec.toNat = 2 ^ n * (2 * q) + (2 ^ n - 1) := by
    have : (x - 1).toBitVec = x.toBitVec - 1#32 := rfl
    rw [this, BitVec.toNat_sub]
    have t : (1#32).toNat = 1 := rfl
    have : 2 ^ n * (2 * q + 1) = 2 ^ n * (2 * q) + 2 ^ n := by rw [Nat.mul_add, Nat.mul_one]
    rw [t]; omega
  have bm : (x - 1).toBitVec.getLsbD i = if i < n then (2 ^ n - 1).testBit i else (2 * q).testBit (i - n) := by
    show (x - 1).toBitVec.toNat.testBit i = _
    rw [em, Nat.testBit_two_pow_mul_add _ (by omega)]
  have br : (Int32.ofNat (2 ^ n - 1)).toBitVec.getLsbD i = decide (i < n) := by
    show (BitVec.ofNat 32 (2 ^ n - 1)).getLsbD i = _
    rw [BitVec.getLsbD_ofNat, Nat.testBit_two_pow_sub_one]; simp [hi]
  rw [br]
  show ((x ^^^ -1).toBitVec &&& (x - 1).toBitVec).getLsbD i = _
  rw [BitVec.getLsbD_and, bm]
  have bn : (x ^^^ -1).toBitVec.getLsbD i = !x.toBitVec.getLsbD i := by
    show (x.toBitVec ^^^ (-1 : Int32).toBitVec).getLsbD i = _
    rw [e1, BitVec.getLsbD_xor, BitVec.getLsbD_allOnes]; simp [hi]
  rw [bn, bx, Nat.testBit_two_pow_sub_one]
  by_cases c : i < n
  · simp [c]
  · simp only [c, if_false, decide_false]
    rcases Nat.eq_zero_or_pos (i - n) with z | z
    · rw [z]; simp
    · obtain ⟨k, hk⟩ : ∃ k, i - n = k + 1 := ⟨i - n - 1, by omega⟩
      rw [hk, Nat.testBit_succ, Nat.testBit_succ, show (2 * q + 1) / 2 = q by omega, show 2 * q / 2 = q by omega]; simp
def own_ntzI (p1 : Int32)  : Int32 := if (0 : Int32) < ((p1 ^^^ (-1 : Int32)) &&& (p1 - (1 : Int32))) then if (65536 : Int32) < ((p1 ^^^ (-1 : Int32)) &&& (p1 - (1 : Int32))) then if (256 : Int32) < (XT.ushr ((p1 ^^^ (-1 : Int32)) &&& (p1 - (1 : Int32))) (16 : Int32)) then if (16 : Int32) < (XT.ushr (XT.ushr ((p1 ^^^ (-1 : Int32)) &&& (p1 - (1 : Int32))) (16 : Int32)) (8 : Int32)) then if (4 : Int32) < (XT.ushr (XT.ushr (XT.ushr ((p1 ^^^ (-1 : Int32)) &&& (p1 - (1 : Int32))) (16 : Int32)) (8 : Int32)) (4 : Int32)) then ((31 : Int32) + (XT.ushr (XT.ushr (XT.ushr (XT.ushr (XT.ushr ((p1 ^^^ (-1 : Int32)) &&& (p1 - (1 : Int32))) (16 : Int32)) (8 : Int32)) (4 : Int32)) (2 : Int32)) (1 : Int32))) else ((29 : Int32) + (XT.ushr (XT.ushr (XT.ushr (XT.ushr ((p1 ^^^ (-1 : Int32)) &&& (p1 - (1 : Int32))) (16 : Int32)) (8 : Int32)) (4 : Int32)) (1 : Int32))) else (if (4 : Int32) < (XT.ushr (XT.ushr ((p1 ^^^ (-1 : Int32)) &&& (p1 - (1 : Int32))) (16 : Int32)) (8 : Int32)) then ((27 : Int32) + (XT.ushr (XT.ushr (XT.ushr (XT.ushr ((p1 ^^^ (-1 : Int32)) &&& (p1 - (1 : Int32))) (16 : Int32)) (8 : Int32)) (2 : Int32)) (1 : Int32))) else ((25 : Int32) + (XT.ushr (XT.ushr (XT.ushr ((p1 ^^^ (-1 : Int32)) &&& (p1 - (1 : Int32))) (16 : Int32)) (8 : Int32)) (1 : Int32)))) else (if (16 : Int32) < (XT.ushr ((p1 ^^^ (-1 : Int32)) &&& (p1 - (1 : Int32))) (16 : Int32)) then if (4 : Int32) < (XT.ushr (XT.ushr ((p1 ^^^ (-1 : Int32)) &&& (p1 - (1 : Int32))) (16 : Int32)) (4 : Int32)) then ((23 : Int32) + (XT.ushr (XT.ushr (XT.ushr (XT.ushr ((p1 ^^^ (-1 : Int32)) &&& (p1 - (1 : Int32))) (16 : Int32)) (4 : Int32)) (2 : Int32)) (1 : Int32))) else ((21 : Int32) + (XT.ushr (XT.ushr (XT.ushr ((p1 ^^^ (-1 : Int32)) &&& (p1 - (1 : Int32))) (16 : Int32)) (4 : Int32)) (1 : Int32))) else (if (4 : Int32) < (XT.ushr ((p1 ^^^ (-1 : Int32)) &&& (p1 - (1 : Int32))) (16 : Int32)) then ((19 : Int32) + (XT.ushr (XT.ushr (XT.ushr ((p1 ^^^ (-1 : Int32)) &&& (p1 - (1 : Int32))) (16 : Int32)) (2 : Int32)) (1 : Int32))) else ((17 : Int32) + (XT.ushr (XT.ushr ((p1 ^^^ (-1 : Int32)) &&& (p1 - (1 : Int32))) (16 : Int32)) (1 : Int32))))) else (if (256 : Int32) < ((p1 ^^^ (-1 : Int32)) &&& (p1 - (1 : Int32))) then if (16 : Int32) < (XT.ushr ((p1 ^^^ (-1 : Int32)) &&& (p1 - (1 : Int32))) (8 : Int32)) then if (4 : Int32) < (XT.ushr (XT.ushr ((p1 ^^^ (-1 : Int32)) &&& (p1 - (1 : Int32))) (8 : Int32)) (4 : Int32)) then ((15 : Int32) + (XT.ushr (XT.ushr (XT.ushr (XT.ushr ((p1 ^^^ (-1 : Int32)) &&& (p1 - (1 : Int32))) (8 : Int32)) (4 : Int32)) (2 : Int32)) (1 : Int32))) else ((13 : Int32) + (XT.ushr (XT.ushr (XT.ushr ((p1 ^^^ (-1 : Int32)) &&& (p1 - (1 : Int32))) (8 : Int32)) (4 : Int32)) (1 : Int32))) else (if (4 : Int32) < (XT.ushr ((p1 ^^^ (-1 : Int32)) &&& (p1 - (1 : Int32))) (8 : Int32)) then ((11 : Int32) + (XT.ushr (XT.ushr (XT.ushr ((p1 ^^^ (-1 : Int32)) &&& (p1 - (1 : Int32))) (8 : Int32)) (2 : Int32)) (1 : Int32))) else ((9 : Int32) + (XT.ushr (XT.ushr ((p1 ^^^ (-1 : Int32)) &&& (p1 - (1 : Int32))) (8 : Int32)) (1 : Int32)))) else (if (16 : Int32) < ((p1 ^^^ (-1 : Int32)) &&& (p1 - (1 : Int32))) then if (4 : Int32) < (XT.ushr ((p1 ^^^ (-1 : Int32)) &&& (p1 - (1 : Int32))) (4 : Int32)) then ((7 : Int32) + (XT.ushr (XT.ushr (XT.ushr ((p1 ^^^ (-1 : Int32)) &&& (p1 - (1 : Int32))) (4 : Int32)) (2 : Int32)) (1 : Int32))) else ((5 : Int32) + (XT.ushr (XT.ushr ((p1 ^^^ (-1 : Int32)) &&& (p1 - (1 : Int32))) (4 : Int32)) (1 : Int32))) else (if (4 : Int32) < ((p1 ^^^ (-1 : Int32)) &&& (p1 - (1 : Int32))) then ((3 : Int32) + (XT.ushr (XT.ushr ((p1 ^^^ (-1 : Int32)) &&& (p1 - (1 : Int32))) (2 : Int32)) (1 : Int32))) else ((1 : Int32) + (XT.ushr ((p1 ^^^ (-1 : Int32)) &&& (p1 - (1 : Int32))) (1 : Int32)))))) else (((p1 ^^^ (-1 : Int32)) &&& (p1 - (1 : Int32))) &&& (32 : Int32))
theorem d5_0 : decode jdk_33_method_48_code 0 = .ok (.iload_n 0, 1) := by decide +kernel
theorem d5_1 : decode jdk_33_method_48_code 1 = .ok (.iconst (-1), 1) := by decide +kernel
theorem d5_2 : decode jdk_33_method_48_code 2 = .ok (.ixor, 1) := by decide +kernel
theorem d5_3 : decode jdk_33_method_48_code 3 = .ok (.iload_n 0, 1) := by decide +kernel
theorem d5_4 : decode jdk_33_method_48_code 4 = .ok (.iconst 1, 1) := by decide +kernel
theorem d5_5 : decode jdk_33_method_48_code 5 = .ok (.isub, 1) := by decide +kernel
theorem d5_6 : decode jdk_33_method_48_code 6 = .ok (.iand, 1) := by decide +kernel
theorem d5_7 : decode jdk_33_method_48_code 7 = .ok (.istore_n 0, 1) := by decide +kernel
theorem d5_8 : decode jdk_33_method_48_code 8 = .ok (.iload_n 0, 1) := by decide +kernel
theorem d5_9 : decode jdk_33_method_48_code 9 = .ok (.ifCond .gt 8, 3) := by decide +kernel
theorem d5_17 : decode jdk_33_method_48_code 17 = .ok (.iconst 1, 1) := by decide +kernel
theorem d5_18 : decode jdk_33_method_48_code 18 = .ok (.istore_n 1, 1) := by decide +kernel
theorem d5_19 : decode jdk_33_method_48_code 19 = .ok (.iload_n 0, 1) := by decide +kernel
theorem d5_20 : decode jdk_33_method_48_code 20 = .ok (.ldc_w 264, 3) := by decide +kernel
theorem d5_23 : decode jdk_33_method_48_code 23 = .ok (.if_icmp .le 11, 3) := by decide +kernel
theorem d5_26 : decode jdk_33_method_48_code 26 = .ok (.iinc 1 16, 3) := by decide +kernel
theorem d5_29 : decode jdk_33_method_48_code 29 = .ok (.iload_n 0, 1) := by decide +kernel
theorem d5_30 : decode jdk_33_method_48_code 30 = .ok (.bipush 16, 2) := by decide +kernel
theorem d5_32 : decode jdk_33_method_48_code 32 = .ok (.iushr, 1) := by decide +kernel
theorem d5_33 : decode jdk_33_method_48_code 33 = .ok (.istore_n 0, 1) := by decide +kernel
theorem d5_34 : decode jdk_33_method_48_code 34 = .ok (.iload_n 0, 1) := by decide +kernel
theorem d5_35 : decode jdk_33_method_48_code 35 = .ok (.sipush 256, 3) := by decide +kernel
theorem d5_38 : decode jdk_33_method_48_code 38 = .ok (.if_icmp .le 11, 3) := by decide +kernel
theorem d5_41 : decode jdk_33_method_48_code 41 = .ok (.iinc 1 8, 3) := by decide +kernel
theorem d5_44 : decode jdk_33_method_48_code 44 = .ok (.iload_n 0, 1) := by decide +kernel
theorem d5_45 : decode jdk_33_method_48_code 45 = .ok (.bipush 8, 2) := by decide +kernel
theorem d5_47 : decode jdk_33_method_48_code 47 = .ok (.iushr, 1) := by decide +kernel
theorem d5_48 : decode jdk_33_method_48_code 48 = .ok (.istore_n 0, 1) := by decide +kernel
theorem d5_49 : decode jdk_33_method_48_code 49 = .ok (.iload_n 0, 1) := by decide +kernel
theorem d5_50 : decode jdk_33_method_48_code 50 = .ok (.bipush 16, 2) := by decide +kernel
theorem d5_52 : decode jdk_33_method_48_code 52 = .ok (.if_icmp .le 10, 3) := by decide +kernel
theorem d5_55 : decode jdk_33_method_48_code 55 = .ok (.iinc 1 4, 3) := by decide +kernel
theorem d5_58 : decode jdk_33_method_48_code 58 = .ok (.iload_n 0, 1) := by decide +kernel
theorem d5_59 : decode jdk_33_method_48_code 59 = .ok (.iconst 4, 1) := by decide +kernel
theorem d5_60 : decode jdk_33_method_48_code 60 = .ok (.iushr, 1) := by decide +kernel
theorem d5_61 : decode jdk_33_method_48_code 61 = .ok (.istore_n 0, 1) := by decide +kernel
theorem d5_62 : decode jdk_33_method_48_code 62 = .ok (.iload_n 0, 1) := by decide +kernel
theorem d5_63 : decode jdk_33_method_48_code 63 = .ok (.iconst 4, 1) := by decide +kernel
theorem d5_64 : decode jdk_33_method_48_code 64 = .ok (.if_icmp .le 10, 3) := by decide +kernel
theorem d5_67 : decode jdk_33_method_48_code 67 = .ok (.iinc 1 2, 3) := by decide +kernel
theorem d5_70 : decode jdk_33_method_48_code 70 = .ok (.iload_n 0, 1) := by decide +kernel
theorem d5_71 : decode jdk_33_method_48_code 71 = .ok (.iconst 2, 1) := by decide +kernel
theorem d5_72 : decode jdk_33_method_48_code 72 = .ok (.iushr, 1) := by decide +kernel
theorem d5_73 : decode jdk_33_method_48_code 73 = .ok (.istore_n 0, 1) := by decide +kernel
theorem d5_74 : decode jdk_33_method_48_code 74 = .ok (.iload_n 1, 1) := by decide +kernel
theorem d5_75 : decode jdk_33_method_48_code 75 = .ok (.iload_n 0, 1) := by decide +kernel
theorem d5_76 : decode jdk_33_method_48_code 76 = .ok (.iconst 1, 1) := by decide +kernel
theorem d5_77 : decode jdk_33_method_48_code 77 = .ok (.iushr, 1) := by decide +kernel
theorem d5_78 : decode jdk_33_method_48_code 78 = .ok (.iadd, 1) := by decide +kernel
theorem d5_79 : decode jdk_33_method_48_code 79 = .ok (.ireturn, 1) := by decide +kernel
theorem d5_12 : decode jdk_33_method_48_code 12 = .ok (.iload_n 0, 1) := by decide +kernel
theorem d5_13 : decode jdk_33_method_48_code 13 = .ok (.bipush 32, 2) := by decide +kernel
theorem d5_15 : decode jdk_33_method_48_code 15 = .ok (.iand, 1) := by decide +kernel
theorem d5_16 : decode jdk_33_method_48_code 16 = .ok (.ireturn, 1) := by decide +kernel
theorem pn_java_lang_Integer : plainName "java/lang/Integer" = true := by first | (simp [plainName, overriddenIn]; done) | decide +kernel
set_option maxRecDepth 65536 in
set_option maxHeartbeats 40000000 in
theorem rnti (l : Launch) (Z : State) (a0 : Array Value) (hw : ∀ d ∈ tables_1, d.before a0 Z = true) (ws : List Jvm.Cond) (p1 : Int32)  (h0 : Heap) (n0 : Nat) (Z0 : n0 ≤ h0.size)  :
    Does l (⟨"java/lang/Integer", "numberOfTrailingZeros", "(I)I"⟩ : MethodName) jdk_33_method_48_code 2 (some .int) ws ({ frames := 0, cells := 0, slots := 0, locals := 0 } : Room) #[(.int p1)] Z h0 (fun v h L => v = some (.int (own_ntzI p1 )) ∧ Fr n0 L ∧ h = h0) := by
  refine Does.of (plainFor_of_name pn_java_lang_Integer) ?_
  intro p e s m below meth c s₁ hx hby hml hret hlk hown0 hnm hZ X0 e0
  have hown : s.vm.findClass "java/lang/Integer" = some m.cls := hown0
  have N0 := Fr.nil n0
  refine Go.cast (g' := (mkF m 0 #[(sI p1), .unset] [])) (by first | (simp [entryFrame, mkF, argsToLocals, Value.category, maxLocals, sI, sR, sJ]; done) | rfl) ?_
  refine Go.k 1 [(.int p1)] ?_ fun _ k_ => XS.iloadN X0.here hx rfl (hb hby d5_0) rfl k_
  refine Go.k 2 [(.int (-1 : Int32)), (.int p1)] ?_ fun _ k_ => XT.iconstV X0.here hx rfl (-1 : Int32) (hb hby d5_1) (by decide) k_
  refine Go.k 3 [(.int (p1 ^^^ (-1 : Int32)))] ?_ fun _ k_ => XT.ixor X0.here hx rfl (hb hby d5_2) rfl k_
  refine Go.k 4 [(.int p1), (.int (p1 ^^^ (-1 : Int32)))] ?_ fun _ k_ => XS.iloadN X0.here hx rfl (hb hby d5_3) rfl k_
  refine Go.k 5 [(.int (1 : Int32)), (.int p1), (.int (p1 ^^^ (-1 : Int32)))] ?_ fun _ k_ => XT.iconstV X0.here hx rfl (1 : Int32) (hb hby d5_4) (by decide) k_
  refine Go.k 6 [(.int (p1 - (1 : Int32))), (.int (p1 ^^^ (-1 : Int32)))] ?_ fun _ k_ => XS.isub X0.here hx rfl (hb hby d5_5) rfl k_
  refine Go.k 7 [(.int ((p1 ^^^ (-1 : Int32)) &&& (p1 - (1 : Int32))))] ?_ fun _ k_ => XS.iand X0.here hx rfl (hb hby d5_6) rfl k_
  refine Go.s (g' := (mkF m 8 #[(sI ((p1 ^^^ (-1 : Int32)) &&& (p1 - (1 : Int32)))), .unset] [])) ?_ fun _ k_ => XS.istoreN X0.here hx rfl (hb hby d5_7) rfl (l' := #[(sI ((p1 ^^^ (-1 : Int32)) &&& (p1 - (1 : Int32)))), .unset]) rfl k_
  refine Go.k 9 [(.int ((p1 ^^^ (-1 : Int32)) &&& (p1 - (1 : Int32))))] ?_ fun _ k_ => XS.iloadN X0.here hx rfl (hb hby d5_8) rfl k_
  by_cases hc1 : (0 : Int32) < ((p1 ^^^ (-1 : Int32)) &&& (p1 - (1 : Int32)))
  · refine Go.k 17 [] ?_ fun _ k_ => XS.ifYes X0.here hx rfl (pc0 := 9) (pc' := 17) rfl (hb hby d5_9) rfl ((if0 _ _).trans (tlt hc1).2.2.1) (by decide) (by decide) k_
    refine Go.k 18 [(.int (1 : Int32))] ?_ fun _ k_ => XT.iconstV X0.here hx rfl (1 : Int32) (hb hby d5_17) (by decide) k_
    refine Go.s (g' := (mkF m 19 #[(sI ((p1 ^^^ (-1 : Int32)) &&& (p1 - (1 : Int32)))), (sI (1 : Int32))] [])) ?_ fun _ k_ => XS.istoreN X0.here hx rfl (hb hby d5_18) rfl (l' := #[(sI ((p1 ^^^ (-1 : Int32)) &&& (p1 - (1 : Int32)))), (sI (1 : Int32))]) rfl k_
    refine Go.k 20 [(.int ((p1 ^^^ (-1 : Int32)) &&& (p1 - (1 : Int32))))] ?_ fun _ k_ => XS.iloadN X0.here hx rfl (hb hby d5_19) rfl k_
    refine Go.k 23 [(.int (65536 : Int32)), (.int ((p1 ^^^ (-1 : Int32)) &&& (p1 - (1 : Int32))))] ?_ fun _ k_ => X0.ldcWI hx hown (mvT hZ (wq hw 53 rfl)) rfl (hb hby d5_20) k_
    by_cases hc2 : (65536 : Int32) < ((p1 ^^^ (-1 : Int32)) &&& (p1 - (1 : Int32)))
    · refine Go.k 26 [] ?_ fun _ k_ => XS.icmpNo X0.here hx rfl (hb hby d5_23) rfl (tlt hc2).2.2.2 k_
      refine Go.s (g' := (mkF m 29 #[(sI ((p1 ^^^ (-1 : Int32)) &&& (p1 - (1 : Int32)))), (sI (17 : Int32))] [])) ?_ fun _ k_ => XT.iincV X0.here hx rfl (16 : Int32) (hb hby d5_26) (by decide) rfl (l' := #[(sI ((p1 ^^^ (-1 : Int32)) &&& (p1 - (1 : Int32)))), (sI (17 : Int32))]) rfl k_
      refine Go.k 30 [(.int ((p1 ^^^ (-1 : Int32)) &&& (p1 - (1 : Int32))))] ?_ fun _ k_ => XS.iloadN X0.here hx rfl (hb hby d5_29) rfl k_
      refine Go.k 32 [(.int (16 : Int32)), (.int ((p1 ^^^ (-1 : Int32)) &&& (p1 - (1 : Int32))))] ?_ fun _ k_ => XT.bipushV X0.here hx rfl (16 : Int32) (hb hby d5_30) (by decide) k_
      refine Go.k 33 [(.int (XT.ushr ((p1 ^^^ (-1 : Int32)) &&& (p1 - (1 : Int32))) (16 : Int32)))] ?_ fun _ k_ => XT.iushr X0.here hx rfl (hb hby d5_32) rfl k_
      refine Go.s (g' := (mkF m 34 #[(sI (XT.ushr ((p1 ^^^ (-1 : Int32)) &&& (p1 - (1 : Int32))) (16 : Int32))), (sI (17 : Int32))] [])) ?_ fun _ k_ => XS.istoreN X0.here hx rfl (hb hby d5_33) rfl (l' := #[(sI (XT.ushr ((p1 ^^^ (-1 : Int32)) &&& (p1 - (1 : Int32))) (16 : Int32))), (sI (17 : Int32))]) rfl k_
      refine Go.k 35 [(.int (XT.ushr ((p1 ^^^ (-1 : Int32)) &&& (p1 - (1 : Int32))) (16 : Int32)))] ?_ fun _ k_ => XS.iloadN X0.here hx rfl (hb hby d5_34) rfl k_
      refine Go.k 38 [(.int (256 : Int32)), (.int (XT.ushr ((p1 ^^^ (-1 : Int32)) &&& (p1 - (1 : Int32))) (16 : Int32)))] ?_ fun _ k_ => XT.sipushV X0.here hx rfl (256 : Int32) (hb hby d5_35) (by decide) k_
      by_cases hc3 : (256 : Int32) < (XT.ushr ((p1 ^^^ (-1 : Int32)) &&& (p1 - (1 : Int32))) (16 : Int32))
      · refine Go.k 41 [] ?_ fun _ k_ => XS.icmpNo X0.here hx rfl (hb hby d5_38) rfl (tlt hc3).2.2.2 k_
        refine Go.s (g' := (mkF m 44 #[(sI (XT.ushr ((p1 ^^^ (-1 : Int32)) &&& (p1 - (1 : Int32))) (16 : Int32))), (sI (25 : Int32))] [])) ?_ fun _ k_ => XT.iincV X0.here hx rfl (8 : Int32) (hb hby d5_41) (by decide) rfl (l' := #[(sI (XT.ushr ((p1 ^^^ (-1 : Int32)) &&& (p1 - (1 : Int32))) (16 : Int32))), (sI (25 : Int32))]) rfl k_
        refine Go.k 45 [(.int (XT.ushr ((p1 ^^^ (-1 : Int32)) &&& (p1 - (1 : Int32))) (16 : Int32)))] ?_ fun _ k_ => XS.iloadN X0.here hx rfl (hb hby d5_44) rfl k_
        refine Go.k 47 [(.int (8 : Int32)), (.int (XT.ushr ((p1 ^^^ (-1 : Int32)) &&& (p1 - (1 : Int32))) (16 : Int32)))] ?_ fun _ k_ => XT.bipushV X0.here hx rfl (8 : Int32) (hb hby d5_45) (by decide) k_
        refine Go.k 48 [(.int (XT.ushr (XT.ushr ((p1 ^^^ (-1 : Int32)) &&& (p1 - (1 : Int32))) (16 : Int32)) (8 : Int32)))] ?_ fun _ k_ => XT.iushr X0.here hx rfl (hb hby d5_47) rfl k_
        refine Go.s (g' := (mkF m 49 #[(sI (XT.ushr (XT.ushr ((p1 ^^^ (-1 : Int32)) &&& (p1 - (1 : Int32))) (16 : Int32)) (8 : Int32))), (sI (25 : Int32))] [])) ?_ fun _ k_ => XS.istoreN X0.here hx rfl (hb hby d5_48) rfl (l' := #[(sI (XT.ushr (XT.ushr ((p1 ^^^ (-1 : Int32)) &&& (p1 - (1 : Int32))) (16 : Int32)) (8 : Int32))), (sI (25 : Int32))]) rfl k_
        refine Go.k 50 [(.int (XT.ushr (XT.ushr ((p1 ^^^ (-1 : Int32)) &&& (p1 - (1 : Int32))) (16 : Int32)) (8 : Int32)))] ?_ fun _ k_ => XS.iloadN X0.here hx rfl (hb hby d5_49) rfl k_
        refine Go.k 52 [(.int (16 : Int32)), (.int (XT.ushr (XT.ushr ((p1 ^^^ (-1 : Int32)) &&& (p1 - (1 : Int32))) (16 : Int32)) (8 : Int32)))] ?_ fun _ k_ => XT.bipushV X0.here hx rfl (16 : Int32) (hb hby d5_50) (by decide) k_
        by_cases hc4 : (16 : Int32) < (XT.ushr (XT.ushr ((p1 ^^^ (-1 : Int32)) &&& (p1 - (1 : Int32))) (16 : Int32)) (8 : Int32))
        · refine Go.k 55 [] ?_ fun _ k_ => XS.icmpNo X0.here hx rfl (hb hby d5_52) rfl (tlt hc4).2.2.2 k_
          refine Go.s (g' := (mkF m 58 #[(sI (XT.ushr (XT.ushr ((p1 ^^^ (-1 : Int32)) &&& (p1 - (1 : Int32))) (16 : Int32)) (8 : Int32))), (sI (29 : Int32))] [])) ?_ fun _ k_ => XT.iincV X0.here hx rfl (4 : Int32) (hb hby d5_55) (by decide) rfl (l' := #[(sI (XT.ushr (XT.ushr ((p1 ^^^ (-1 : Int32)) &&& (p1 - (1 : Int32))) (16 : Int32)) (8 : Int32))), (sI (29 : Int32))]) rfl k_
          refine Go.k 59 [(.int (XT.ushr (XT.ushr ((p1 ^^^ (-1 : Int32)) &&& (p1 - (1 : Int32))) (16 : Int32)) (8 : Int32)))] ?_ fun _ k_ => XS.iloadN X0.here hx rfl (hb hby d5_58) rfl k_
          refine Go.k 60 [(.int (4 : Int32)), (.int (XT.ushr (XT.ushr ((p1 ^^^ (-1 : Int32)) &&& (p1 - (1 : Int32))) (16 : Int32)) (8 : Int32)))] ?_ fun _ k_ => XT.iconstV X0.here hx rfl (4 : Int32) (hb hby d5_59) (by decide) k_
          refine Go.k 61 [(.int (XT.ushr (XT.ushr (XT.ushr ((p1 ^^^ (-1 : Int32)) &&& (p1 - (1 : Int32))) (16 : Int32)) (8 : Int32)) (4 : Int32)))] ?_ fun _ k_ => XT.iushr X0.here hx rfl (hb hby d5_60) rfl k_
          refine Go.s (g' := (mkF m 62 #[(sI (XT.ushr (XT.ushr (XT.ushr ((p1 ^^^ (-1 : Int32)) &&& (p1 - (1 : Int32))) (16 : Int32)) (8 : Int32)) (4 : Int32))), (sI (29 : Int32))] [])) ?_ fun _ k_ => XS.istoreN X0.here hx rfl (hb hby d5_61) rfl (l' := #[(sI (XT.ushr (XT.ushr (XT.ushr ((p1 ^^^ (-1 : Int32)) &&& (p1 - (1 : Int32))) (16 : Int32)) (8 : Int32)) (4 : Int32))), (sI (29 : Int32))]) rfl k_
          refine Go.k 63 [(.int (XT.ushr (XT.ushr (XT.ushr ((p1 ^^^ (-1 : Int32)) &&& (p1 - (1 : Int32))) (16 : Int32)) (8 : Int32)) (4 : Int32)))] ?_ fun _ k_ => XS.iloadN X0.here hx rfl (hb hby d5_62) rfl k_
          refine Go.k 64 [(.int (4 : Int32)), (.int (XT.ushr (XT.ushr (XT.ushr ((p1 ^^^ (-1 : Int32)) &&& (p1 - (1 : Int32))) (16 : Int32)) (8 : Int32)) (4 : Int32)))] ?_ fun _ k_ => XT.iconstV X0.here hx rfl (4 : Int32) (hb hby d5_63) (by decide) k_
          by_cases hc5 : (4 : Int32) < (XT.ushr (XT.ushr (XT.ushr ((p1 ^^^ (-1 : Int32)) &&& (p1 - (1 : Int32))) (16 : Int32)) (8 : Int32)) (4 : Int32))
          · refine Go.k 67 [] ?_ fun _ k_ => XS.icmpNo X0.here hx rfl (hb hby d5_64) rfl (tlt hc5).2.2.2 k_
            refine Go.s (g' := (mkF m 70 #[(sI (XT.ushr (XT.ushr (XT.ushr ((p1 ^^^ (-1 : Int32)) &&& (p1 - (1 : Int32))) (16 : Int32)) (8 : Int32)) (4 : Int32))), (sI (31 : Int32))] [])) ?_ fun _ k_ => XT.iincV X0.here hx rfl (2 : Int32) (hb hby d5_67) (by decide) rfl (l' := #[(sI (XT.ushr (XT.ushr (XT.ushr ((p1 ^^^ (-1 : Int32)) &&& (p1 - (1 : Int32))) (16 : Int32)) (8 : Int32)) (4 : Int32))), (sI (31 : Int32))]) rfl k_
            refine Go.k 71 [(.int (XT.ushr (XT.ushr (XT.ushr ((p1 ^^^ (-1 : Int32)) &&& (p1 - (1 : Int32))) (16 : Int32)) (8 : Int32)) (4 : Int32)))] ?_ fun _ k_ => XS.iloadN X0.here hx rfl (hb hby d5_70) rfl k_
            refine Go.k 72 [(.int (2 : Int32)), (.int (XT.ushr (XT.ushr (XT.ushr ((p1 ^^^ (-1 : Int32)) &&& (p1 - (1 : Int32))) (16 : Int32)) (8 : Int32)) (4 : Int32)))] ?_ fun _ k_ => XT.iconstV X0.here hx rfl (2 : Int32) (hb hby d5_71) (by decide) k_
            refine Go.k 73 [(.int (XT.ushr (XT.ushr (XT.ushr (XT.ushr ((p1 ^^^ (-1 : Int32)) &&& (p1 - (1 : Int32))) (16 : Int32)) (8 : Int32)) (4 : Int32)) (2 : Int32)))] ?_ fun _ k_ => XT.iushr X0.here hx rfl (hb hby d5_72) rfl k_
            refine Go.s (g' := (mkF m 74 #[(sI (XT.ushr (XT.ushr (XT.ushr (XT.ushr ((p1 ^^^ (-1 : Int32)) &&& (p1 - (1 : Int32))) (16 : Int32)) (8 : Int32)) (4 : Int32)) (2 : Int32))), (sI (31 : Int32))] [])) ?_ fun _ k_ => XS.istoreN X0.here hx rfl (hb hby d5_73) rfl (l' := #[(sI (XT.ushr (XT.ushr (XT.ushr (XT.ushr ((p1 ^^^ (-1 : Int32)) &&& (p1 - (1 : Int32))) (16 : Int32)) (8 : Int32)) (4 : Int32)) (2 : Int32))), (sI (31 : Int32))]) rfl k_
            refine Go.k 75 [(.int (31 : Int32))] ?_ fun _ k_ => XS.iloadN X0.here hx rfl (hb hby d5_74) rfl k_
            refine Go.k 76 [(.int (XT.ushr (XT.ushr (XT.ushr (XT.ushr ((p1 ^^^ (-1 : Int32)) &&& (p1 - (1 : Int32))) (16 : Int32)) (8 : Int32)) (4 : Int32)) (2 : Int32))), (.int (31 : Int32))] ?_ fun _ k_ => XS.iloadN X0.here hx rfl (hb hby d5_75) rfl k_
            refine Go.k 77 [(.int (1 : Int32)), (.int (XT.ushr (XT.ushr (XT.ushr (XT.ushr ((p1 ^^^ (-1 : Int32)) &&& (p1 - (1 : Int32))) (16 : Int32)) (8 : Int32)) (4 : Int32)) (2 : Int32))), (.int (31 : Int32))] ?_ fun _ k_ => XT.iconstV X0.here hx rfl (1 : Int32) (hb hby d5_76) (by decide) k_
            refine Go.k 78 [(.int (XT.ushr (XT.ushr (XT.ushr (XT.ushr (XT.ushr ((p1 ^^^ (-1 : Int32)) &&& (p1 - (1 : Int32))) (16 : Int32)) (8 : Int32)) (4 : Int32)) (2 : Int32)) (1 : Int32))), (.int (31 : Int32))] ?_ fun _ k_ => XT.iushr X0.here hx rfl (hb hby d5_77) rfl k_
            refine Go.k 79 [(.int ((31 : Int32) + (XT.ushr (XT.ushr (XT.ushr (XT.ushr (XT.ushr ((p1 ^^^ (-1 : Int32)) &&& (p1 - (1 : Int32))) (16 : Int32)) (8 : Int32)) (4 : Int32)) (2 : Int32)) (1 : Int32))))] ?_ fun _ k_ => XS.iadd X0.here hx rfl (hb hby d5_78) rfl k_
            exact Go.retV (t := .int) X0 hx hret hlk (by decide) (by decide) rfl (Or.inl ⟨rfl, Or.inl rfl, _, rfl⟩) (hb hby d5_79) ⟨by rw [own_ntzI, if_pos hc1, if_pos hc2, if_pos hc3, if_pos hc4, if_pos hc5], N0, e0⟩
          · refine Go.k 74 [] ?_ fun _ k_ => XS.icmpYes X0.here hx rfl (pc0 := 64) (pc' := 74) rfl (hb hby d5_64) rfl (flt hc5).2.2.2 (by decide) (by decide) k_
            refine Go.k 75 [(.int (29 : Int32))] ?_ fun _ k_ => XS.iloadN X0.here hx rfl (hb hby d5_74) rfl k_
            refine Go.k 76 [(.int (XT.ushr (XT.ushr (XT.ushr ((p1 ^^^ (-1 : Int32)) &&& (p1 - (1 : Int32))) (16 : Int32)) (8 : Int32)) (4 : Int32))), (.int (29 : Int32))] ?_ fun _ k_ => XS.iloadN X0.here hx rfl (hb hby d5_75) rfl k_
            refine Go.k 77 [(.int (1 : Int32)), (.int (XT.ushr (XT.ushr (XT.ushr ((p1 ^^^ (-1 : Int32)) &&& (p1 - (1 : Int32))) (16 : Int32)) (8 : Int32)) (4 : Int32))), (.int (29 : Int32))] ?_ fun _ k_ => XT.iconstV X0.here hx rfl (1 : Int32) (hb hby d5_76) (by decide) k_
            refine Go.k 78 [(.int (XT.ushr (XT.ushr (XT.ushr (XT.ushr ((p1 ^^^ (-1 : Int32)) &&& (p1 - (1 : Int32))) (16 : Int32)) (8 : Int32)) (4 : Int32)) (1 : Int32))), (.int (29 : Int32))] ?_ fun _ k_ => XT.iushr X0.here hx rfl (hb hby d5_77) rfl k_
            refine Go.k 79 [(.int ((29 : Int32) + (XT.ushr (XT.ushr (XT.ushr (XT.ushr ((p1 ^^^ (-1 : Int32)) &&& (p1 - (1 : Int32))) (16 : Int32)) (8 : Int32)) (4 : Int32)) (1 : Int32))))] ?_ fun _ k_ => XS.iadd X0.here hx rfl (hb hby d5_78) rfl k_
            exact Go.retV (t := .int) X0 hx hret hlk (by decide) (by decide) rfl (Or.inl ⟨rfl, Or.inl rfl, _, rfl⟩) (hb hby d5_79) ⟨by rw [own_ntzI, if_pos hc1, if_pos hc2, if_pos hc3, if_pos hc4, if_neg hc5], N0, e0⟩
        · refine Go.k 62 [] ?_ fun _ k_ => XS.icmpYes X0.here hx rfl (pc0 := 52) (pc' := 62) rfl (hb hby d5_52) rfl (flt hc4).2.2.2 (by decide) (by decide) k_
          refine Go.k 63 [(.int (XT.ushr (XT.ushr ((p1 ^^^ (-1 : Int32)) &&& (p1 - (1 : Int32))) (16 : Int32)) (8 : Int32)))] ?_ fun _ k_ => XS.iloadN X0.here hx rfl (hb hby d5_62) rfl k_
          refine Go.k 64 [(.int (4 : Int32)), (.int (XT.ushr (XT.ushr ((p1 ^^^ (-1 : Int32)) &&& (p1 - (1 : Int32))) (16 : Int32)) (8 : Int32)))] ?_ fun _ k_ => XT.iconstV X0.here hx rfl (4 : Int32) (hb hby d5_63) (by decide) k_
          by_cases hc6 : (4 : Int32) < (XT.ushr (XT.ushr ((p1 ^^^ (-1 : Int32)) &&& (p1 - (1 : Int32))) (16 : Int32)) (8 : Int32))
          · refine Go.k 67 [] ?_ fun _ k_ => XS.icmpNo X0.here hx rfl (hb hby d5_64) rfl (tlt hc6).2.2.2 k_
            refine Go.s (g' := (mkF m 70 #[(sI (XT.ushr (XT.ushr ((p1 ^^^ (-1 : Int32)) &&& (p1 - (1 : Int32))) (16 : Int32)) (8 : Int32))), (sI (27 : Int32))] [])) ?_ fun _ k_ => XT.iincV X0.here hx rfl (2 : Int32) (hb hby d5_67) (by decide) rfl (l' := #[(sI (XT.ushr (XT.ushr ((p1 ^^^ (-1 : Int32)) &&& (p1 - (1 : Int32))) (16 : Int32)) (8 : Int32))), (sI (27 : Int32))]) rfl k_
            refine Go.k 71 [(.int (XT.ushr (XT.ushr ((p1 ^^^ (-1 : Int32)) &&& (p1 - (1 : Int32))) (16 : Int32)) (8 : Int32)))] ?_ fun _ k_ => XS.iloadN X0.here hx rfl (hb hby d5_70) rfl k_
            refine Go.k 72 [(.int (2 : Int32)), (.int (XT.ushr (XT.ushr ((p1 ^^^ (-1 : Int32)) &&& (p1 - (1 : Int32))) (16 : Int32)) (8 : Int32)))] ?_ fun _ k_ => XT.iconstV X0.here hx rfl (2 : Int32) (hb hby d5_71) (by decide) k_
            refine Go.k 73 [(.int (XT.ushr (XT.ushr (XT.ushr ((p1 ^^^ (-1 : Int32)) &&& (p1 - (1 : Int32))) (16 : Int32)) (8 : Int32)) (2 : Int32)))] ?_ fun _ k_ => XT.iushr X0.here hx rfl (hb hby d5_72) rfl k_
            refine Go.s (g' := (mkF m 74 #[(sI (XT.ushr (XT.ushr (XT.ushr ((p1 ^^^ (-1 : Int32)) &&& (p1 - (1 : Int32))) (16 : Int32)) (8 : Int32)) (2 : Int32))), (sI (27 : Int32))] [])) ?_ fun _ k_ => XS.istoreN X0.here hx rfl (hb hby d5_73) rfl (l' := #[(sI (XT.ushr (XT.ushr (XT.ushr ((p1 ^^^ (-1 : Int32)) &&& (p1 - (1 : Int32))) (16 : Int32)) (8 : Int32)) (2 : Int32))), (sI (27 : Int32))]) rfl k_
            refine Go.k 75 [(.int (27 : Int32))] ?_ fun _ k_ => XS.iloadN X0.here hx rfl (hb hby d5_74) rfl k_
            refine Go.k 76 [(.int (XT.ushr (XT.ushr (XT.ushr ((p1 ^^^ (-1 : Int32)) &&& (p1 - (1 : Int32))) (16 : Int32)) (8 : Int32)) (2 : Int32))), (.int (27 : Int32))] ?_ fun _ k_ => XS.iloadN X0.here hx rfl (hb hby d5_75) rfl k_
            refine Go.k 77 [(.int (1 : Int32)), (.int (XT.ushr (XT.ushr (XT.ushr ((p1 ^^^ (-1 : Int32)) &&& (p1 - (1 : Int32))) (16 : Int32)) (8 : Int32)) (2 : Int32))), (.int (27 : Int32))] ?_ fun _ k_ => XT.iconstV X0.here hx rfl (1 : Int32) (hb hby d5_76) (by decide) k_
            refine Go.k 78 [(.int (XT.ushr (XT.ushr (XT.ushr (XT.ushr ((p1 ^^^ (-1 : Int32)) &&& (p1 - (1 : Int32))) (16 : Int32)) (8 : Int32)) (2 : Int32)) (1 : Int32))), (.int (27 : Int32))] ?_ fun _ k_ => XT.iushr X0.here hx rfl (hb hby d5_77) rfl k_
            refine Go.k 79 [(.int ((27 : Int32) + (XT.ushr (XT.ushr (XT.ushr (XT.ushr ((p1 ^^^ (-1 : Int32)) &&& (p1 - (1 : Int32))) (16 : Int32)) (8 : Int32)) (2 : Int32)) (1 : Int32))))] ?_ fun _ k_ => XS.iadd X0.here hx rfl (hb hby d5_78) rfl k_
            exact Go.retV (t := .int) X0 hx hret hlk (by decide) (by decide) rfl (Or.inl ⟨rfl, Or.inl rfl, _, rfl⟩) (hb hby d5_79) ⟨by rw [own_ntzI, if_pos hc1, if_pos hc2, if_pos hc3, if_neg hc4, if_pos hc6], N0, e0⟩
          · refine Go.k 74 [] ?_ fun _ k_ => XS.icmpYes X0.here hx rfl (pc0 := 64) (pc' := 74) rfl (hb hby d5_64) rfl (flt hc6).2.2.2 (by decide) (by decide) k_
            refine Go.k 75 [(.int (25 : Int32))] ?_ fun _ k_ => XS.iloadN X0.here hx rfl (hb hby d5_74) rfl k_
            refine Go.k 76 [(.int (XT.ushr (XT.ushr ((p1 ^^^ (-1 : Int32)) &&& (p1 - (1 : Int32))) (16 : Int32)) (8 : Int32))), (.int (25 : Int32))] ?_ fun _ k_ => XS.iloadN X0.here hx rfl (hb hby d5_75) rfl k_
            refine Go.k 77 [(.int (1 : Int32)), (.int (XT.ushr (XT.ushr ((p1 ^^^ (-1 : Int32)) &&& (p1 - (1 : Int32))) (16 : Int32)) (8 : Int32))), (.int (25 : Int32))] ?_ fun _ k_ => XT.iconstV X0.here hx rfl (1 : Int32) (hb hby d5_76) (by decide) k_
            refine Go.k 78 [(.int (XT.ushr (XT.ushr (XT.ushr ((p1 ^^^ (-1 : Int32)) &&& (p1 - (1 : Int32))) (16 : Int32)) (8 : Int32)) (1 : Int32))), (.int (25 : Int32))] ?_ fun _ k_ => XT.iushr X0.here hx rfl (hb hby d5_77) rfl k_
            refine Go.k 79 [(.int ((25 : Int32) + (XT.ushr (XT.ushr (XT.ushr ((p1 ^^^ (-1 : Int32)) &&& (p1 - (1 : Int32))) (16 : Int32)) (8 : Int32)) (1 : Int32))))] ?_ fun _ k_ => XS.iadd X0.here hx rfl (hb hby d5_78) rfl k_
            exact Go.retV (t := .int) X0 hx hret hlk (by decide) (by decide) rfl (Or.inl ⟨rfl, Or.inl rfl, _, rfl⟩) (hb hby d5_79) ⟨by rw [own_ntzI, if_pos hc1, if_pos hc2, if_pos hc3, if_neg hc4, if_neg hc6], N0, e0⟩
      · refine Go.k 49 [] ?_ fun _ k_ => XS.icmpYes X0.here hx rfl (pc0 := 38) (pc' := 49) rfl (hb hby d5_38) rfl (flt hc3).2.2.2 (by decide) (by decide) k_
        refine Go.k 50 [(.int (XT.ushr ((p1 ^^^ (-1 : Int32)) &&& (p1 - (1 : Int32))) (16 : Int32)))] ?_ fun _ k_ => XS.iloadN X0.here hx rfl (hb hby d5_49) rfl k_
        refine Go.k 52 [(.int (16 : Int32)), (.int (XT.ushr ((p1 ^^^ (-1 : Int32)) &&& (p1 - (1 : Int32))) (16 : Int32)))] ?_ fun _ k_ => XT.bipushV X0.here hx rfl (16 : Int32) (hb hby d5_50) (by decide) k_
        by_cases hc7 : (16 : Int32) < (XT.ushr ((p1 ^^^ (-1 : Int32)) &&& (p1 - (1 : Int32))) (16 : Int32))
        · refine Go.k 55 [] ?_ fun _ k_ => XS.icmpNo X0.here hx rfl (hb hby d5_52) rfl (tlt hc7).2.2.2 k_
          refine Go.s (g' := (mkF m 58 #[(sI (XT.ushr ((p1 ^^^ (-1 : Int32)) &&& (p1 - (1 : Int32))) (16 : Int32))), (sI (21 : Int32))] [])) ?_ fun _ k_ => XT.iincV X0.here hx rfl (4 : Int32) (hb hby d5_55) (by decide) rfl (l' := #[(sI (XT.ushr ((p1 ^^^ (-1 : Int32)) &&& (p1 - (1 : Int32))) (16 : Int32))), (sI (21 : Int32))]) rfl k_
          refine Go.k 59 [(.int (XT.ushr ((p1 ^^^ (-1 : Int32)) &&& (p1 - (1 : Int32))) (16 : Int32)))] ?_ fun _ k_ => XS.iloadN X0.here hx rfl (hb hby d5_58) rfl k_
          refine Go.k 60 [(.int (4 : Int32)), (.int (XT.ushr ((p1 ^^^ (-1 : Int32)) &&& (p1 - (1 : Int32))) (16 : Int32)))] ?_ fun _ k_ => XT.iconstV X0.here hx rfl (4 : Int32) (hb hby d5_59) (by decide) k_
          refine Go.k 61 [(.int (XT.ushr (XT.ushr ((p1 ^^^ (-1 : Int32)) &&& (p1 - (1 : Int32))) (16 : Int32)) (4 : Int32)))] ?_ fun _ k_ => XT.iushr X0.here hx rfl (hb hby d5_60) rfl k_
          refine Go.s (g' := (mkF m 62 #[(sI (XT.ushr (XT.ushr ((p1 ^^^ (-1 : Int32)) &&& (p1 - (1 : Int32))) (16 : Int32)) (4 : Int32))), (sI (21 : Int32))] [])) ?_ fun _ k_ => XS.istoreN X0.here hx rfl (hb hby d5_61) rfl (l' := #[(sI (XT.ushr (XT.ushr ((p1 ^^^ (-1 : Int32)) &&& (p1 - (1 : Int32))) (16 : Int32)) (4 : Int32))), (sI (21 : Int32))]) rfl k_
          refine Go.k 63 [(.int (XT.ushr (XT.ushr ((p1 ^^^ (-1 : Int32)) &&& (p1 - (1 : Int32))) (16 : Int32)) (4 : Int32)))] ?_ fun _ k_ => XS.iloadN X0.here hx rfl (hb hby d5_62) rfl k_
          refine Go.k 64 [(.int (4 : Int32)), (.int (XT.ushr (XT.ushr ((p1 ^^^ (-1 : Int32)) &&& (p1 - (1 : Int32))) (16 : Int32)) (4 : Int32)))] ?_ fun _ k_ => XT.iconstV X0.here hx rfl (4 : Int32) (hb hby d5_63) (by decide) k_
          by_cases hc8 : (4 : Int32) < (XT.ushr (XT.ushr ((p1 ^^^ (-1 : Int32)) &&& (p1 - (1 : Int32))) (16 : Int32)) (4 : Int32))
          · refine Go.k 67 [] ?_ fun _ k_ => XS.icmpNo X0.here hx rfl (hb hby d5_64) rfl (tlt hc8).2.2.2 k_
            refine Go.s (g' := (mkF m 70 #[(sI (XT.ushr (XT.ushr ((p1 ^^^ (-1 : Int32)) &&& (p1 - (1 : Int32))) (16 : Int32)) (4 : Int32))), (sI (23 : Int32))] [])) ?_ fun _ k_ => XT.iincV X0.here hx rfl (2 : Int32) (hb hby d5_67) (by decide) rfl (l' := #[(sI (XT.ushr (XT.ushr ((p1 ^^^ (-1 : Int32)) &&& (p1 - (1 : Int32))) (16 : Int32)) (4 : Int32))), (sI (23 : Int32))]) rfl k_
            refine Go.k 71 [(.int (XT.ushr (XT.ushr ((p1 ^^^ (-1 : Int32)) &&& (p1 - (1 : Int32))) (16 : Int32)) (4 : Int32)))] ?_ fun _ k_ => XS.iloadN X0.here hx rfl (hb hby d5_70) rfl k_
            refine Go.k 72 [(.int (2 : Int32)), (.int (XT.ushr (XT.ushr ((p1 ^^^ (-1 : Int32)) &&& (p1 - (1 : Int32))) (16 : Int32)) (4 : Int32)))] ?_ fun _ k_ => XT.iconstV X0.here hx rfl (2 : Int32) (hb hby d5_71) (by decide) k_
            refine Go.k 73 [(.int (XT.ushr (XT.ushr (XT.ushr ((p1 ^^^ (-1 : Int32)) &&& (p1 - (1 : Int32))) (16 : Int32)) (4 : Int32)) (2 : Int32)))] ?_ fun _ k_ => XT.iushr X0.here hx rfl (hb hby d5_72) rfl k_
            refine Go.s (g' := (mkF m 74 #[(sI (XT.ushr (XT.ushr (XT.ushr ((p1 ^^^ (-1 : Int32)) &&& (p1 - (1 : Int32))) (16 : Int32)) (4 : Int32)) (2 : Int32))), (sI (23 : Int32))] [])) ?_ fun _ k_ => XS.istoreN X0.here hx rfl (hb hby d5_73) rfl (l' := #[(sI (XT.ushr (XT.ushr (XT.ushr ((p1 ^^^ (-1 : Int32)) &&& (p1 - (1 : Int32))) (16 : Int32)) (4 : Int32)) (2 : Int32))), (sI (23 : Int32))]) rfl k_
            refine Go.k 75 [(.int (23 : Int32))] ?_ fun _ k_ => XS.iloadN X0.here hx rfl (hb hby d5_74) rfl k_
            refine Go.k 76 [(.int (XT.ushr (XT.ushr (XT.ushr ((p1 ^^^ (-1 : Int32)) &&& (p1 - (1 : Int32))) (16 : Int32)) (4 : Int32)) (2 : Int32))), (.int (23 : Int32))] ?_ fun _ k_ => XS.iloadN X0.here hx rfl (hb hby d5_75) rfl k_
            refine Go.k 77 [(.int (1 : Int32)), (.int (XT.ushr (XT.ushr (XT.ushr ((p1 ^^^ (-1 : Int32)) &&& (p1 - (1 : Int32))) (16 : Int32)) (4 : Int32)) (2 : Int32))), (.int (23 : Int32))] ?_ fun _ k_ => XT.iconstV X0.here hx rfl (1 : Int32) (hb hby d5_76) (by decide) k_
            refine Go.k 78 [(.int (XT.ushr (XT.ushr (XT.ushr (XT.ushr ((p1 ^^^ (-1 : Int32)) &&& (p1 - (1 : Int32))) (16 : Int32)) (4 : Int32)) (2 : Int32)) (1 : Int32))), (.int (23 : Int32))] ?_ fun _ k_ => XT.iushr X0.here hx rfl (hb hby d5_77) rfl k_
            refine Go.k 79 [(.int ((23 : Int32) + (XT.ushr (XT.ushr (XT.ushr (XT.ushr ((p1 ^^^ (-1 : Int32)) &&& (p1 - (1 : Int32))) (16 : Int32)) (4 : Int32)) (2 : Int32)) (1 : Int32))))] ?_ fun _ k_ => XS.iadd X0.here hx rfl (hb hby d5_78) rfl k_
            exact Go.retV (t := .int) X0 hx hret hlk (by decide) (by decide) rfl (Or.inl ⟨rfl, Or.inl rfl, _, rfl⟩) (hb hby d5_79) ⟨by rw [own_ntzI, if_pos hc1, if_pos hc2, if_neg hc3, if_pos hc7, if_pos hc8], N0, e0⟩
          · refine Go.k 74 [] ?_ fun _ k_ => XS.icmpYes X0.here hx rfl (pc0 := 64) (pc' := 74) rfl (hb hby d5_64) rfl (flt hc8).2.2.2 (by decide) (by decide) k_
            refine Go.k 75 [(.int (21 : Int32))] ?_ fun _ k_ => XS.iloadN X0.here hx rfl (hb hby d5_74) rfl k_
            refine Go.k 76 [(.int (XT.ushr (XT.ushr ((p1 ^^^ (-1 : Int32)) &&& (p1 - (1 : Int32))) (16 : Int32)) (4 : Int32))), (.int (21 : Int32))] ?_ fun _ k_ => XS.iloadN X0.here hx rfl (hb hby d5_75) rfl k_
            refine Go.k 77 [(.int (1 : Int32)), (.int (XT.ushr (XT.ushr ((p1 ^^^ (-1 : Int32)) &&& (p1 - (1 : Int32))) (16 : Int32)) (4 : Int32))), (.int (21 : Int32))] ?_ fun _ k_ => XT.iconstV X0.here hx rfl (1 : Int32) (hb hby d5_76) (by decide) k_
            refine Go.k 78 [(.int (XT.ushr (XT.ushr (XT.ushr ((p1 ^^^ (-1 : Int32)) &&& (p1 - (1 : Int32))) (16 : Int32)) (4 : Int32)) (1 : Int32))), (.int (21 : Int32))] ?_ fun _ k_ => XT.iushr X0.here hx rfl (hb hby d5_77) rfl k_
            refine Go.k 79 [(.int ((21 : Int32) + (XT.ushr (XT.ushr (XT.ushr ((p1 ^^^ (-1 : Int32)) &&& (p1 - (1 : Int32))) (16 : Int32)) (4 : Int32)) (1 : Int32))))] ?_ fun _ k_ => XS.iadd X0.here hx rfl (hb hby d5_78) rfl k_
            exact Go.retV (t := .int) X0 hx hret hlk (by decide) (by decide) rfl (Or.inl ⟨rfl, Or.inl rfl, _, rfl⟩) (hb hby d5_79) ⟨by rw [own_ntzI, if_pos hc1, if_pos hc2, if_neg hc3, if_pos hc7, if_neg hc8], N0, e0⟩
        · refine Go.k 62 [] ?_ fun _ k_ => XS.icmpYes X0.here hx rfl (pc0 := 52) (pc' := 62) rfl (hb hby d5_52) rfl (flt hc7).2.2.2 (by decide) (by decide) k_
          refine Go.k 63 [(.int (XT.ushr ((p1 ^^^ (-1 : Int32)) &&& (p1 - (1 : Int32))) (16 : Int32)))] ?_ fun _ k_ => XS.iloadN X0.here hx rfl (hb hby d5_62) rfl k_
          refine Go.k 64 [(.int (4 : Int32)), (.int (XT.ushr ((p1 ^^^ (-1 : Int32)) &&& (p1 - (1 : Int32))) (16 : Int32)))] ?_ fun _ k_ => XT.iconstV X0.here hx rfl (4 : Int32) (hb hby d5_63) (by decide) k_
          by_cases hc9 : (4 : Int32) < (XT.ushr ((p1 ^^^ (-1 : Int32)) &&& (p1 - (1 : Int32))) (16 : Int32))
          · refine Go.k 67 [] ?_ fun _ k_ => XS.icmpNo X0.here hx rfl (hb hby d5_64) rfl (tlt hc9).2.2.2 k_
            refine Go.s (g' := (mkF m 70 #[(sI (XT.ushr ((p1 ^^^ (-1 : Int32)) &&& (p1 - (1 : Int32))) (16 : Int32))), (sI (19 : Int32))] [])) ?_ fun _ k_ => XT.iincV X0.here hx rfl (2 : Int32) (hb hby d5_67) (by decide) rfl (l' := #[(sI (XT.ushr ((p1 ^^^ (-1 : Int32)) &&& (p1 - (1 : Int32))) (16 : Int32))), (sI (19 : Int32))]) rfl k_
            refine Go.k 71 [(.int (XT.ushr ((p1 ^^^ (-1 : Int32)) &&& (p1 - (1 : Int32))) (16 : Int32)))] ?_ fun _ k_ => XS.iloadN X0.here hx rfl (hb hby d5_70) rfl k_
            refine Go.k 72 [(.int (2 : Int32)), (.int (XT.ushr ((p1 ^^^ (-1 : Int32)) &&& (p1 - (1 : Int32))) (16 : Int32)))] ?_ fun _ k_ => XT.iconstV X0.here hx rfl (2 : Int32) (hb hby d5_71) (by decide) k_
            refine Go.k 73 [(.int (XT.ushr (XT.ushr ((p1 ^^^ (-1 : Int32)) &&& (p1 - (1 : Int32))) (16 : Int32)) (2 : Int32)))] ?_ fun _ k_ => XT.iushr X0.here hx rfl (hb hby d5_72) rfl k_
            refine Go.s (g' := (mkF m 74 #[(sI (XT.ushr (XT.ushr ((p1 ^^^ (-1 : Int32)) &&& (p1 - (1 : Int32))) (16 : Int32)) (2 : Int32))), (sI (19 : Int32))] [])) ?_ fun _ k_ => XS.istoreN X0.here hx rfl (hb hby d5_73) rfl (l' := #[(sI (XT.ushr (XT.ushr ((p1 ^^^ (-1 : Int32)) &&& (p1 - (1 : Int32))) (16 : Int32)) (2 : Int32))), (sI (19 : Int32))]) rfl k_
            refine Go.k 75 [(.int (19 : Int32))] ?_ fun _ k_ => XS.iloadN X0.here hx rfl (hb hby d5_74) rfl k_
            refine Go.k 76 [(.int (XT.ushr (XT.ushr ((p1 ^^^ (-1 : Int32)) &&& (p1 - (1 : Int32))) (16 : Int32)) (2 : Int32))), (.int (19 : Int32))] ?_ fun _ k_ => XS.iloadN X0.here hx rfl (hb hby d5_75) rfl k_
            refine Go.k 77 [(.int (1 : Int32)), (.int (XT.ushr (XT.ushr ((p1 ^^^ (-1 : Int32)) &&& (p1 - (1 : Int32))) (16 : Int32)) (2 : Int32))), (.int (19 : Int32))] ?_ fun _ k_ => XT.iconstV X0.here hx rfl (1 : Int32) (hb hby d5_76) (by decide) k_
            refine Go.k 78 [(.int (XT.ushr (XT.ushr (XT.ushr ((p1 ^^^ (-1 : Int32)) &&& (p1 - (1 : Int32))) (16 : Int32)) (2 : Int32)) (1 : Int32))), (.int (19 : Int32))] ?_ fun _ k_ => XT.iushr X0.here hx rfl (hb hby d5_77) rfl k_
            refine Go.k 79 [(.int ((19 : Int32) + (XT.ushr (XT.ushr (XT.ushr ((p1 ^^^ (-1 : Int32)) &&& (p1 - (1 : Int32))) (16 : Int32)) (2 : Int32)) (1 : Int32))))] ?_ fun _ k_ => XS.iadd X0.here hx rfl (hb hby d5_78) rfl k_
            exact Go.retV (t := .int) X0 hx hret hlk (by decide) (by decide) rfl (Or.inl ⟨rfl, Or.inl rfl, _, rfl⟩) (hb hby d5_79) ⟨by rw [own_ntzI, if_pos hc1, if_pos hc2, if_neg hc3, if_neg hc7, if_pos hc9], N0, e0⟩
          · refine Go.k 74 [] ?_ fun _ k_ => XS.icmpYes X0.here hx rfl (pc0 := 64) (pc' := 74) rfl (hb hby d5_64) rfl (flt hc9).2.2.2 (by decide) (by decide) k_
            refine Go.k 75 [(.int (17 : Int32))] ?_ fun _ k_ => XS.iloadN X0.here hx rfl (hb hby d5_74) rfl k_
            refine Go.k 76 [(.int (XT.ushr ((p1 ^^^ (-1 : Int32)) &&& (p1 - (1 : Int32))) (16 : Int32))), (.int (17 : Int32))] ?_ fun _ k_ => XS.iloadN X0.here hx rfl (hb hby d5_75) rfl k_
            refine Go.k 77 [(.int (1 : Int32)), (.int (XT.ushr ((p1 ^^^ (-1 : Int32)) &&& (p1 - (1 : Int32))) (16 : Int32))), (.int (17 : Int32))] ?_ fun _ k_ => XT.iconstV X0.here hx rfl (1 : Int32) (hb hby d5_76) (by decide) k_
            refine Go.k 78 [(.int (XT.ushr (XT.ushr ((p1 ^^^ (-1 : Int32)) &&& (p1 - (1 : Int32))) (16 : Int32)) (1 : Int32))), (.int (17 : Int32))] ?_ fun _ k_ => XT.iushr X0.here hx rfl (hb hby d5_77) rfl k_
            refine Go.k 79 [(.int ((17 : Int32) + (XT.ushr (XT.ushr ((p1 ^^^ (-1 : Int32)) &&& (p1 - (1 : Int32))) (16 : Int32)) (1 : Int32))))] ?_ fun _ k_ => XS.iadd X0.here hx rfl (hb hby d5_78) rfl k_
            exact Go.retV (t := .int) X0 hx hret hlk (by decide) (by decide) rfl (Or.inl ⟨rfl, Or.inl rfl, _, rfl⟩) (hb hby d5_79) ⟨by rw [own_ntzI, if_pos hc1, if_pos hc2, if_neg hc3, if_neg hc7, if_neg hc9], N0, e0⟩
    · refine Go.k 34 [] ?_ fun _ k_ => XS.icmpYes X0.here hx rfl (pc0 := 23) (pc' := 34) rfl (hb hby d5_23) rfl (flt hc2).2.2.2 (by decide) (by decide) k_
      refine Go.k 35 [(.int ((p1 ^^^ (-1 : Int32)) &&& (p1 - (1 : Int32))))] ?_ fun _ k_ => XS.iloadN X0.here hx rfl (hb hby d5_34) rfl k_
      refine Go.k 38 [(.int (256 : Int32)), (.int ((p1 ^^^ (-1 : Int32)) &&& (p1 - (1 : Int32))))] ?_ fun _ k_ => XT.sipushV X0.here hx rfl (256 : Int32) (hb hby d5_35) (by decide) k_
      by_cases hc10 : (256 : Int32) < ((p1 ^^^ (-1 : Int32)) &&& (p1 - (1 : Int32)))
      · refine Go.k 41 [] ?_ fun _ k_ => XS.icmpNo X0.here hx rfl (hb hby d5_38) rfl (tlt hc10).2.2.2 k_
        refine Go.s (g' := (mkF m 44 #[(sI ((p1 ^^^ (-1 : Int32)) &&& (p1 - (1 : Int32)))), (sI (9 : Int32))] [])) ?_ fun _ k_ => XT.iincV X0.here hx rfl (8 : Int32) (hb hby d5_41) (by decide) rfl (l' := #[(sI ((p1 ^^^ (-1 : Int32)) &&& (p1 - (1 : Int32)))), (sI (9 : Int32))]) rfl k_
        refine Go.k 45 [(.int ((p1 ^^^ (-1 : Int32)) &&& (p1 - (1 : Int32))))] ?_ fun _ k_ => XS.iloadN X0.here hx rfl (hb hby d5_44) rfl k_
        refine Go.k 47 [(.int (8 : Int32)), (.int ((p1 ^^^ (-1 : Int32)) &&& (p1 - (1 : Int32))))] ?_ fun _ k_ => XT.bipushV X0.here hx rfl (8 : Int32) (hb hby d5_45) (by decide) k_
        refine Go.k 48 [(.int (XT.ushr ((p1 ^^^ (-1 : Int32)) &&& (p1 - (1 : Int32))) (8 : Int32)))] ?_ fun _ k_ => XT.iushr X0.here hx rfl (hb hby d5_47) rfl k_
        refine Go.s (g' := (mkF m 49 #[(sI (XT.ushr ((p1 ^^^ (-1 : Int32)) &&& (p1 - (1 : Int32))) (8 : Int32))), (sI (9 : Int32))] [])) ?_ fun _ k_ => XS.istoreN X0.here hx rfl (hb hby d5_48) rfl (l' := #[(sI (XT.ushr ((p1 ^^^ (-1 : Int32)) &&& (p1 - (1 : Int32))) (8 : Int32))), (sI (9 : Int32))]) rfl k_
        refine Go.k 50 [(.int (XT.ushr ((p1 ^^^ (-1 : Int32)) &&& (p1 - (1 : Int32))) (8 : Int32)))] ?_ fun _ k_ => XS.iloadN X0.here hx rfl (hb hby d5_49) rfl k_
        refine Go.k 52 [(.int (16 : Int32)), (.int (XT.ushr ((p1 ^^^ (-1 : Int32)) &&& (p1 - (1 : Int32))) (8 : Int32)))] ?_ fun _ k_ => XT.bipushV X0.here hx rfl (16 : Int32) (hb hby d5_50) (by decide) k_
        by_cases hc11 : (16 : Int32) < (XT.ushr ((p1 ^^^ (-1 : Int32)) &&& (p1 - (1 : Int32))) (8 : Int32))
        · refine Go.k 55 [] ?_ fun _ k_ => XS.icmpNo X0.here hx rfl (hb hby d5_52) rfl (tlt hc11).2.2.2 k_
          refine Go.s (g' := (mkF m 58 #[(sI (XT.ushr ((p1 ^^^ (-1 : Int32)) &&& (p1 - (1 : Int32))) (8 : Int32))), (sI (13 : Int32))] [])) ?_ fun _ k_ => XT.iincV X0.here hx rfl (4 : Int32) (hb hby d5_55) (by decide) rfl (l' := #[(sI (XT.ushr ((p1 ^^^ (-1 : Int32)) &&& (p1 - (1 : Int32))) (8 : Int32))), (sI (13 : Int32))]) rfl k_
          refine Go.k 59 [(.int (XT.ushr ((p1 ^^^ (-1 : Int32)) &&& (p1 - (1 : Int32))) (8 : Int32)))] ?_ fun _ k_ => XS.iloadN X0.here hx rfl (hb hby d5_58) rfl k_
          refine Go.k 60 [(.int (4 : Int32)), (.int (XT.ushr ((p1 ^^^ (-1 : Int32)) &&& (p1 - (1 : Int32))) (8 : Int32)))] ?_ fun _ k_ => XT.iconstV X0.here hx rfl (4 : Int32) (hb hby d5_59) (by decide) k_
          refine Go.k 61 [(.int (XT.ushr (XT.ushr ((p1 ^^^ (-1 : Int32)) &&& (p1 - (1 : Int32))) (8 : Int32)) (4 : Int32)))] ?_ fun _ k_ => XT.iushr X0.here hx rfl (hb hby d5_60) rfl k_
          refine Go.s (g' := (mkF m 62 #[(sI (XT.ushr (XT.ushr ((p1 ^^^ (-1 : Int32)) &&& (p1 - (1 : Int32))) (8 : Int32)) (4 : Int32))), (sI (13 : Int32))] [])) ?_ fun _ k_ => XS.istoreN X0.here hx rfl (hb hby d5_61) rfl (l' := #[(sI (XT.ushr (XT.ushr ((p1 ^^^ (-1 : Int32)) &&& (p1 - (1 : Int32))) (8 : Int32)) (4 : Int32))), (sI (13 : Int32))]) rfl k_
          refine Go.k 63 [(.int (XT.ushr (XT.ushr ((p1 ^^^ (-1 : Int32)) &&& (p1 - (1 : Int32))) (8 : Int32)) (4 : Int32)))] ?_ fun _ k_ => XS.iloadN X0.here hx rfl (hb hby d5_62) rfl k_
          refine Go.k 64 [(.int (4 : Int32)), (.int (XT.ushr (XT.ushr ((p1 ^^^ (-1 : Int32)) &&& (p1 - (1 : Int32))) (8 : Int32)) (4 : Int32)))] ?_ fun _ k_ => XT.iconstV X0.here hx rfl (4 : Int32) (hb hby d5_63) (by decide) k_
          by_cases hc12 : (4 : Int32) < (XT.ushr (XT.ushr ((p1 ^^^ (-1 : Int32)) &&& (p1 - (1 : Int32))) (8 : Int32)) (4 : Int32))
          · refine Go.k 67 [] ?_ fun _ k_ => XS.icmpNo X0.here hx rfl (hb hby d5_64) rfl (tlt hc12).2.2.2 k_
            refine Go.s (g' := (mkF m 70 #[(sI (XT.ushr (XT.ushr ((p1 ^^^ (-1 : Int32)) &&& (p1 - (1 : Int32))) (8 : Int32)) (4 : Int32))), (sI (15 : Int32))] [])) ?_ fun _ k_ => XT.iincV X0.here hx rfl (2 : Int32) (hb hby d5_67) (by decide) rfl (l' := #[(sI (XT.ushr (XT.ushr ((p1 ^^^ (-1 : Int32)) &&& (p1 - (1 : Int32))) (8 : Int32)) (4 : Int32))), (sI (15 : Int32))]) rfl k_
            refine Go.k 71 [(.int (XT.ushr (XT.ushr ((p1 ^^^ (-1 : Int32)) &&& (p1 - (1 : Int32))) (8 : Int32)) (4 : Int32)))] ?_ fun _ k_ => XS.iloadN X0.here hx rfl (hb hby d5_70) rfl k_
            refine Go.k 72 [(.int (2 : Int32)), (.int (XT.ushr (XT.ushr ((p1 ^^^ (-1 : Int32)) &&& (p1 - (1 : Int32))) (8 : Int32)) (4 : Int32)))] ?_ fun _ k_ => XT.iconstV X0.here hx rfl (2 : Int32) (hb hby d5_71) (by decide) k_
            refine Go.k 73 [(.int (XT.ushr (XT.ushr (XT.ushr ((p1 ^^^ (-1 : Int32)) &&& (p1 - (1 : Int32))) (8 : Int32)) (4 : Int32)) (2 : Int32)))] ?_ fun _ k_ => XT.iushr X0.here hx rfl (hb hby d5_72) rfl k_
            refine Go.s (g' := (mkF m 74 #[(sI (XT.ushr (XT.ushr (XT.ushr ((p1 ^^^ (-1 : Int32)) &&& (p1 - (1 : Int32))) (8 : Int32)) (4 : Int32)) (2 : Int32))), (sI (15 : Int32))] [])) ?_ fun _ k_ => XS.istoreN X0.here hx rfl (hb hby d5_73) rfl (l' := #[(sI (XT.ushr (XT.ushr (XT.ushr ((p1 ^^^ (-1 : Int32)) &&& (p1 - (1 : Int32))) (8 : Int32)) (4 : Int32)) (2 : Int32))), (sI (15 : Int32))]) rfl k_
            refine Go.k 75 [(.int (15 : Int32))] ?_ fun _ k_ => XS.iloadN X0.here hx rfl (hb hby d5_74) rfl k_
            refine Go.k 76 [(.int (XT.ushr (XT.ushr (XT.ushr ((p1 ^^^ (-1 : Int32)) &&& (p1 - (1 : Int32))) (8 : Int32)) (4 : Int32)) (2 : Int32))), (.int (15 : Int32))] ?_ fun _ k_ => XS.iloadN X0.here hx rfl (hb hby d5_75) rfl k_
            refine Go.k 77 [(.int (1 : Int32)), (.int (XT.ushr (XT.ushr (XT.ushr ((p1 ^^^ (-1 : Int32)) &&& (p1 - (1 : Int32))) (8 : Int32)) (4 : Int32)) (2 : Int32))), (.int (15 : Int32))] ?_ fun _ k_ => XT.iconstV X0.here hx rfl (1 : Int32) (hb hby d5_76) (by decide) k_
            refine Go.k 78 [(.int (XT.ushr (XT.ushr (XT.ushr (XT.ushr ((p1 ^^^ (-1 : Int32)) &&& (p1 - (1 : Int32))) (8 : Int32)) (4 : Int32)) (2 : Int32)) (1 : Int32))), (.int (15 : Int32))] ?_ fun _ k_ => XT.iushr X0.here hx rfl (hb hby d5_77) rfl k_
            refine Go.k 79 [(.int ((15 : Int32) + (XT.ushr (XT.ushr (XT.ushr (XT.ushr ((p1 ^^^ (-1 : Int32)) &&& (p1 - (1 : Int32))) (8 : Int32)) (4 : Int32)) (2 : Int32)) (1 : Int32))))] ?_ fun _ k_ => XS.iadd X0.here hx rfl (hb hby d5_78) rfl k_
            exact Go.retV (t := .int) X0 hx hret hlk (by decide) (by decide) rfl (Or.inl ⟨rfl, Or.inl rfl, _, rfl⟩) (hb hby d5_79) ⟨by rw [own_ntzI, if_pos hc1, if_neg hc2, if_pos hc10, if_pos hc11, if_pos hc12], N0, e0⟩
          · refine Go.k 74 [] ?_ fun _ k_ => XS.icmpYes X0.here hx rfl (pc0 := 64) (pc' := 74) rfl (hb hby d5_64) rfl (flt hc12).2.2.2 (by decide) (by decide) k_
            refine Go.k 75 [(.int (13 : Int32))] ?_ fun _ k_ => XS.iloadN X0.here hx rfl (hb hby d5_74) rfl k_
            refine Go.k 76 [(.int (XT.ushr (XT.ushr ((p1 ^^^ (-1 : Int32)) &&& (p1 - (1 : Int32))) (8 : Int32)) (4 : Int32))), (.int (13 : Int32))] ?_ fun _ k_ => XS.iloadN X0.here hx rfl (hb hby d5_75) rfl k_
            refine Go.k 77 [(.int (1 : Int32)), (.int (XT.ushr (XT.ushr ((p1 ^^^ (-1 : Int32)) &&& (p1 - (1 : Int32))) (8 : Int32)) (4 : Int32))), (.int (13 : Int32))] ?_ fun _ k_ => XT.iconstV X0.here hx rfl (1 : Int32) (hb hby d5_76) (by decide) k_
            refine Go.k 78 [(.int (XT.ushr (XT.ushr (XT.ushr ((p1 ^^^ (-1 : Int32)) &&& (p1 - (1 : Int32))) (8 : Int32)) (4 : Int32)) (1 : Int32))), (.int (13 : Int32))] ?_ fun _ k_ => XT.iushr X0.here hx rfl (hb hby d5_77) rfl k_
            refine Go.k 79 [(.int ((13 : Int32) + (XT.ushr (XT.ushr (XT.ushr ((p1 ^^^ (-1 : Int32)) &&& (p1 - (1 : Int32))) (8 : Int32)) (4 : Int32)) (1 : Int32))))] ?_ fun _ k_ => XS.iadd X0.here hx rfl (hb hby d5_78) rfl k_
            exact Go.retV (t := .int) X0 hx hret hlk (by decide) (by decide) rfl (Or.inl ⟨rfl, Or.inl rfl, _, rfl⟩) (hb hby d5_79) ⟨by rw [own_ntzI, if_pos hc1, if_neg hc2, if_pos hc10, if_pos hc11, if_neg hc12], N0, e0⟩
        · refine Go.k 62 [] ?_ fun _ k_ => XS.icmpYes X0.here hx rfl (pc0 := 52) (pc' := 62) rfl (hb hby d5_52) rfl (flt hc11).2.2.2 (by decide) (by decide) k_
          refine Go.k 63 [(.int (XT.ushr ((p1 ^^^ (-1 : Int32)) &&& (p1 - (1 : Int32))) (8 : Int32)))] ?_ fun _ k_ => XS.iloadN X0.here hx rfl (hb hby d5_62) rfl k_
          refine Go.k 64 [(.int (4 : Int32)), (.int (XT.ushr ((p1 ^^^ (-1 : Int32)) &&& (p1 - (1 : Int32))) (8 : Int32)))] ?_ fun _ k_ => XT.iconstV X0.here hx rfl (4 : Int32) (hb hby d5_63) (by decide) k_
          by_cases hc13 : (4 : Int32) < (XT.ushr ((p1 ^^^ (-1 : Int32)) &&& (p1 - (1 : Int32))) (8 : Int32))
          · refine Go.k 67 [] ?_ fun _ k_ => XS.icmpNo X0.here hx rfl (hb hby d5_64) rfl (tlt hc13).2.2.2 k_
            refine Go.s (g' := (mkF m 70 #[(sI (XT.ushr ((p1 ^^^ (-1 : Int32)) &&& (p1 - (1 : Int32))) (8 : Int32))), (sI (11 : Int32))] [])) ?_ fun _ k_ => XT.iincV X0.here hx rfl (2 : Int32) (hb hby d5_67) (by decide) rfl (l' := #[(sI (XT.ushr ((p1 ^^^ (-1 : Int32)) &&& (p1 - (1 : Int32))) (8 : Int32))), (sI (11 : Int32))]) rfl k_
            refine Go.k 71 [(.int (XT.ushr ((p1 ^^^ (-1 : Int32)) &&& (p1 - (1 : Int32))) (8 : Int32)))] ?_ fun _ k_ => XS.iloadN X0.here hx rfl (hb hby d5_70) rfl k_
            refine Go.k 72 [(.int (2 : Int32)), (.int (XT.ushr ((p1 ^^^ (-1 : Int32)) &&& (p1 - (1 : Int32))) (8 : Int32)))] ?_ fun _ k_ => XT.iconstV X0.here hx rfl (2 : Int32) (hb hby d5_71) (by decide) k_
            refine Go.k 73 [(.int (XT.ushr (XT.ushr ((p1 ^^^ (-1 : Int32)) &&& (p1 - (1 : Int32))) (8 : Int32)) (2 : Int32)))] ?_ fun _ k_ => XT.iushr X0.here hx rfl (hb hby d5_72) rfl k_
            refine Go.s (g' := (mkF m 74 #[(sI (XT.ushr (XT.ushr ((p1 ^^^ (-1 : Int32)) &&& (p1 - (1 : Int32))) (8 : Int32)) (2 : Int32))), (sI (11 : Int32))] [])) ?_ fun _ k_ => XS.istoreN X0.here hx rfl (hb hby d5_73) rfl (l' := #[(sI (XT.ushr (XT.ushr ((p1 ^^^ (-1 : Int32)) &&& (p1 - (1 : Int32))) (8 : Int32)) (2 : Int32))), (sI (11 : Int32))]) rfl k_
            refine Go.k 75 [(.int (11 : Int32))] ?_ fun _ k_ => XS.iloadN X0.here hx rfl (hb hby d5_74) rfl k_
            refine Go.k 76 [(.int (XT.ushr (XT.ushr ((p1 ^^^ (-1 : Int32)) &&& (p1 - (1 : Int32))) (8 : Int32)) (2 : Int32))), (.int (11 : Int32))] ?_ fun _ k_ => XS.iloadN X0.here hx rfl (hb hby d5_75) rfl k_
            refine Go.k 77 [(.int (1 : Int32)), (.int (XT.ushr (XT.ushr ((p1 ^^^ (-1 : Int32)) &&& (p1 - (1 : Int32))) (8 : Int32)) (2 : Int32))), (.int (11 : Int32))] ?_ fun _ k_ => XT.iconstV X0.here hx rfl (1 : Int32) (hb hby d5_76) (by decide) k_
            refine Go.k 78 [(.int (XT.ushr (XT.ushr (XT.ushr ((p1 ^^^ (-1 : Int32)) &&& (p1 - (1 : Int32))) (8 : Int32)) (2 : Int32)) (1 : Int32))), (.int (11 : Int32))] ?_ fun _ k_ => XT.iushr X0.here hx rfl (hb hby d5_77) rfl k_
            refine Go.k 79 [(.int ((11 : Int32) + (XT.ushr (XT.ushr (XT.ushr ((p1 ^^^ (-1 : Int32)) &&& (p1 - (1 : Int32))) (8 : Int32)) (2 : Int32)) (1 : Int32))))] ?_ fun _ k_ => XS.iadd X0.here hx rfl (hb hby d5_78) rfl k_
            exact Go.retV (t := .int) X0 hx hret hlk (by decide) (by decide) rfl (Or.inl ⟨rfl, Or.inl rfl, _, rfl⟩) (hb hby d5_79) ⟨by rw [own_ntzI, if_pos hc1, if_neg hc2, if_pos hc10, if_neg hc11, if_pos hc13], N0, e0⟩
          · refine Go.k 74 [] ?_ fun _ k_ => XS.icmpYes X0.here hx rfl (pc0 := 64) (pc' := 74) rfl (hb hby d5_64) rfl (flt hc13).2.2.2 (by decide) (by decide) k_
            refine Go.k 75 [(.int (9 : Int32))] ?_ fun _ k_ => XS.iloadN X0.here hx rfl (hb hby d5_74) rfl k_
            refine Go.k 76 [(.int (XT.ushr ((p1 ^^^ (-1 : Int32)) &&& (p1 - (1 : Int32))) (8 : Int32))), (.int (9 : Int32))] ?_ fun _ k_ => XS.iloadN X0.here hx rfl (hb hby d5_75) rfl k_
            refine Go.k 77 [(.int (1 : Int32)), (.int (XT.ushr ((p1 ^^^ (-1 : Int32)) &&& (p1 - (1 : Int32))) (8 : Int32))), (.int (9 : Int32))] ?_ fun _ k_ => XT.iconstV X0.here hx rfl (1 : Int32) (hb hby d5_76) (by decide) k_
            refine Go.k 78 [(.int (XT.ushr (XT.ushr ((p1 ^^^ (-1 : Int32)) &&& (p1 - (1 : Int32))) (8 : Int32)) (1 : Int32))), (.int (9 : Int32))] ?_ fun _ k_ => XT.iushr X0.here hx rfl (hb hby d5_77) rfl k_
            refine Go.k 79 [(.int ((9 : Int32) + (XT.ushr (XT.ushr ((p1 ^^^ (-1 : Int32)) &&& (p1 - (1 : Int32))) (8 : Int32)) (1 : Int32))))] ?_ fun _ k_ => XS.iadd X0.here hx rfl (hb hby d5_78) rfl k_
            exact Go.retV (t := .int) X0 hx hret hlk (by decide) (by decide) rfl (Or.inl ⟨rfl, Or.inl rfl, _, rfl⟩) (hb hby d5_79) ⟨by rw [own_ntzI, if_pos hc1, if_neg hc2, if_pos hc10, if_neg hc11, if_neg hc13], N0, e0⟩
      · refine Go.k 49 [] ?_ fun _ k_ => XS.icmpYes X0.here hx rfl (pc0 := 38) (pc' := 49) rfl (hb hby d5_38) rfl (flt hc10).2.2.2 (by decide) (by decide) k_
        refine Go.k 50 [(.int ((p1 ^^^ (-1 : Int32)) &&& (p1 - (1 : Int32))))] ?_ fun _ k_ => XS.iloadN X0.here hx rfl (hb hby d5_49) rfl k_
        refine Go.k 52 [(.int (16 : Int32)), (.int ((p1 ^^^ (-1 : Int32)) &&& (p1 - (1 : Int32))))] ?_ fun _ k_ => XT.bipushV X0.here hx rfl (16 : Int32) (hb hby d5_50) (by decide) k_
        by_cases hc14 : (16 : Int32) < ((p1 ^^^ (-1 : Int32)) &&& (p1 - (1 : Int32)))
        · refine Go.k 55 [] ?_ fun _ k_ => XS.icmpNo X0.here hx rfl (hb hby d5_52) rfl (tlt hc14).2.2.2 k_
          refine Go.s (g' := (mkF m 58 #[(sI ((p1 ^^^ (-1 : Int32)) &&& (p1 - (1 : Int32)))), (sI (5 : Int32))] [])) ?_ fun _ k_ => XT.iincV X0.here hx rfl (4 : Int32) (hb hby d5_55) (by decide) rfl (l' := #[(sI ((p1 ^^^ (-1 : Int32)) &&& (p1 - (1 : Int32)))), (sI (5 : Int32))]) rfl k_
          refine Go.k 59 [(.int ((p1 ^^^ (-1 : Int32)) &&& (p1 - (1 : Int32))))] ?_ fun _ k_ => XS.iloadN X0.here hx rfl (hb hby d5_58) rfl k_
          refine Go.k 60 [(.int (4 : Int32)), (.int ((p1 ^^^ (-1 : Int32)) &&& (p1 - (1 : Int32))))] ?_ fun _ k_ => XT.iconstV X0.here hx rfl (4 : Int32) (hb hby d5_59) (by decide) k_
          refine Go.k 61 [(.int (XT.ushr ((p1 ^^^ (-1 : Int32)) &&& (p1 - (1 : Int32))) (4 : Int32)))] ?_ fun _ k_ => XT.iushr X0.here hx rfl (hb hby d5_60) rfl k_
          refine Go.s (g' := (mkF m 62 #[(sI (XT.ushr ((p1 ^^^ (-1 : Int32)) &&& (p1 - (1 : Int32))) (4 : Int32))), (sI (5 : Int32))] [])) ?_ fun _ k_ => XS.istoreN X0.here hx rfl (hb hby d5_61) rfl (l' := #[(sI (XT.ushr ((p1 ^^^ (-1 : Int32)) &&& (p1 - (1 : Int32))) (4 : Int32))), (sI (5 : Int32))]) rfl k_
          refine Go.k 63 [(.int (XT.ushr ((p1 ^^^ (-1 : Int32)) &&& (p1 - (1 : Int32))) (4 : Int32)))] ?_ fun _ k_ => XS.iloadN X0.here hx rfl (hb hby d5_62) rfl k_
          refine Go.k 64 [(.int (4 : Int32)), (.int (XT.ushr ((p1 ^^^ (-1 : Int32)) &&& (p1 - (1 : Int32))) (4 : Int32)))] ?_ fun _ k_ => XT.iconstV X0.here hx rfl (4 : Int32) (hb hby d5_63) (by decide) k_
          by_cases hc15 : (4 : Int32) < (XT.ushr ((p1 ^^^ (-1 : Int32)) &&& (p1 - (1 : Int32))) (4 : Int32))
          · refine Go.k 67 [] ?_ fun _ k_ => XS.icmpNo X0.here hx rfl (hb hby d5_64) rfl (tlt hc15).2.2.2 k_
            refine Go.s (g' := (mkF m 70 #[(sI (XT.ushr ((p1 ^^^ (-1 : Int32)) &&& (p1 - (1 : Int32))) (4 : Int32))), (sI (7 : Int32))] [])) ?_ fun _ k_ => XT.iincV X0.here hx rfl (2 : Int32) (hb hby d5_67) (by decide) rfl (l' := #[(sI (XT.ushr ((p1 ^^^ (-1 : Int32)) &&& (p1 - (1 : Int32))) (4 : Int32))), (sI (7 : Int32))]) rfl k_
            refine Go.k 71 [(.int (XT.ushr ((p1 ^^^ (-1 : Int32)) &&& (p1 - (1 : Int32))) (4 : Int32)))] ?_ fun _ k_ => XS.iloadN X0.here hx rfl (hb hby d5_70) rfl k_
            refine Go.k 72 [(.int (2 : Int32)), (.int (XT.ushr ((p1 ^^^ (-1 : Int32)) &&& (p1 - (1 : Int32))) (4 : Int32)))] ?_ fun _ k_ => XT.iconstV X0.here hx rfl (2 : Int32) (hb hby d5_71) (by decide) k_
            refine Go.k 73 [(.int (XT.ushr (XT.ushr ((p1 ^^^ (-1 : Int32)) &&& (p1 - (1 : Int32))) (4 : Int32)) (2 : Int32)))] ?_ fun _ k_ => XT.iushr X0.here hx rfl (hb hby d5_72) rfl k_
            refine Go.s (g' := (mkF m 74 #[(sI (XT.ushr (XT.ushr ((p1 ^^^ (-1 : Int32)) &&& (p1 - (1 : Int32))) (4 : Int32)) (2 : Int32))), (sI (7 : Int32))] [])) ?_ fun _ k_ => XS.istoreN X0.here hx rfl (hb hby d5_73) rfl (l' := #[(sI (XT.ushr (XT.ushr ((p1 ^^^ (-1 : Int32)) &&& (p1 - (1 : Int32))) (4 : Int32)) (2 : Int32))), (sI (7 : Int32))]) rfl k_
            refine Go.k 75 [(.int (7 : Int32))] ?_ fun _ k_ => XS.iloadN X0.here hx rfl (hb hby d5_74) rfl k_
            refine Go.k 76 [(.int (XT.ushr (XT.ushr ((p1 ^^^ (-1 : Int32)) &&& (p1 - (1 : Int32))) (4 : Int32)) (2 : Int32))), (.int (7 : Int32))] ?_ fun _ k_ => XS.iloadN X0.here hx rfl (hb hby d5_75) rfl k_
            refine Go.k 77 [(.int (1 : Int32)), (.int (XT.ushr (XT.ushr ((p1 ^^^ (-1 : Int32)) &&& (p1 - (1 : Int32))) (4 : Int32)) (2 : Int32))), (.int (7 : Int32))] ?_ fun _ k_ => XT.iconstV X0.here hx rfl (1 : Int32) (hb hby d5_76) (by decide) k_
            refine Go.k 78 [(.int (XT.ushr (XT.ushr (XT.ushr ((p1 ^^^ (-1 : Int32)) &&& (p1 - (1 : Int32))) (4 : Int32)) (2 : Int32)) (1 : Int32))), (.int (7 : Int32))] ?_ fun _ k_ => XT.iushr X0.here hx rfl (hb hby d5_77) rfl k_
            refine Go.k 79 [(.int ((7 : Int32) + (XT.ushr (XT.ushr (XT.ushr ((p1 ^^^ (-1 : Int32)) &&& (p1 - (1 : Int32))) (4 : Int32)) (2 : Int32)) (1 : Int32))))] ?_ fun _ k_ => XS.iadd X0.here hx rfl (hb hby d5_78) rfl k_
            exact Go.retV (t := .int) X0 hx hret hlk (by decide) (by decide) rfl (Or.inl ⟨rfl, Or.inl rfl, _, rfl⟩) (hb hby d5_79) ⟨by rw [own_ntzI, if_pos hc1, if_neg hc2, if_neg hc10, if_pos hc14, if_pos hc15], N0, e0⟩
          · refine Go.k 74 [] ?_ fun _ k_ => XS.icmpYes X0.here hx rfl (pc0 := 64) (pc' := 74) rfl (hb hby d5_64) rfl (flt hc15).2.2.2 (by decide) (by decide) k_
            refine Go.k 75 [(.int (5 : Int32))] ?_ fun _ k_ => XS.iloadN X0.here hx rfl (hb hby d5_74) rfl k_
            refine Go.k 76 [(.int (XT.ushr ((p1 ^^^ (-1 : Int32)) &&& (p1 - (1 : Int32))) (4 : Int32))), (.int (5 : Int32))] ?_ fun _ k_ => XS.iloadN X0.here hx rfl (hb hby d5_75) rfl k_
            refine Go.k 77 [(.int (1 : Int32)), (.int (XT.ushr ((p1 ^^^ (-1 : Int32)) &&& (p1 - (1 : Int32))) (4 : Int32))), (.int (5 : Int32))] ?_ fun _ k_ => XT.iconstV X0.here hx rfl (1 : Int32) (hb hby d5_76) (by decide) k_
            refine Go.k 78 [(.int (XT.ushr (XT.ushr ((p1 ^^^ (-1 : Int32)) &&& (p1 - (1 : Int32))) (4 : Int32)) (1 : Int32))), (.int (5 : Int32))] ?_ fun _ k_ => XT.iushr X0.here hx rfl (hb hby d5_77) rfl k_
            refine Go.k 79 [(.int ((5 : Int32) + (XT.ushr (XT.ushr ((p1 ^^^ (-1 : Int32)) &&& (p1 - (1 : Int32))) (4 : Int32)) (1 : Int32))))] ?_ fun _ k_ => XS.iadd X0.here hx rfl (hb hby d5_78) rfl k_
            exact Go.retV (t := .int) X0 hx hret hlk (by decide) (by decide) rfl (Or.inl ⟨rfl, Or.inl rfl, _, rfl⟩) (hb hby d5_79) ⟨by rw [own_ntzI, if_pos hc1, if_neg hc2, if_neg hc10, if_pos hc14, if_neg hc15], N0, e0⟩
        · refine Go.k 62 [] ?_ fun _ k_ => XS.icmpYes X0.here hx rfl (pc0 := 52) (pc' := 62) rfl (hb hby d5_52) rfl (flt hc14).2.2.2 (by decide) (by decide) k_
          refine Go.k 63 [(.int ((p1 ^^^ (-1 : Int32)) &&& (p1 - (1 : Int32))))] ?_ fun _ k_ => XS.iloadN X0.here hx rfl (hb hby d5_62) rfl k_
          refine Go.k 64 [(.int (4 : Int32)), (.int ((p1 ^^^ (-1 : Int32)) &&& (p1 - (1 : Int32))))] ?_ fun _ k_ => XT.iconstV X0.here hx rfl (4 : Int32) (hb hby d5_63) (by decide) k_
          by_cases hc16 : (4 : Int32) < ((p1 ^^^ (-1 : Int32)) &&& (p1 - (1 : Int32)))
          · refine Go.k 67 [] ?_ fun _ k_ => XS.icmpNo X0.here hx rfl (hb hby d5_64) rfl (tlt hc16).2.2.2 k_
            refine Go.s (g' := (mkF m 70 #[(sI ((p1 ^^^ (-1 : Int32)) &&& (p1 - (1 : Int32)))), (sI (3 : Int32))] [])) ?_ fun _ k_ => XT.iincV X0.here hx rfl (2 : Int32) (hb hby d5_67) (by decide) rfl (l' := #[(sI ((p1 ^^^ (-1 : Int32)) &&& (p1 - (1 : Int32)))), (sI (3 : Int32))]) rfl k_
            refine Go.k 71 [(.int ((p1 ^^^ (-1 : Int32)) &&& (p1 - (1 : Int32))))] ?_ fun _ k_ => XS.iloadN X0.here hx rfl (hb hby d5_70) rfl k_
            refine Go.k 72 [(.int (2 : Int32)), (.int ((p1 ^^^ (-1 : Int32)) &&& (p1 - (1 : Int32))))] ?_ fun _ k_ => XT.iconstV X0.here hx rfl (2 : Int32) (hb hby d5_71) (by decide) k_
            refine Go.k 73 [(.int (XT.ushr ((p1 ^^^ (-1 : Int32)) &&& (p1 - (1 : Int32))) (2 : Int32)))] ?_ fun _ k_ => XT.iushr X0.here hx rfl (hb hby d5_72) rfl k_
            refine Go.s (g' := (mkF m 74 #[(sI (XT.ushr ((p1 ^^^ (-1 : Int32)) &&& (p1 - (1 : Int32))) (2 : Int32))), (sI (3 : Int32))] [])) ?_ fun _ k_ => XS.istoreN X0.here hx rfl (hb hby d5_73) rfl (l' := #[(sI (XT.ushr ((p1 ^^^ (-1 : Int32)) &&& (p1 - (1 : Int32))) (2 : Int32))), (sI (3 : Int32))]) rfl k_
            refine Go.k 75 [(.int (3 : Int32))] ?_ fun _ k_ => XS.iloadN X0.here hx rfl (hb hby d5_74) rfl k_
            refine Go.k 76 [(.int (XT.ushr ((p1 ^^^ (-1 : Int32)) &&& (p1 - (1 : Int32))) (2 : Int32))), (.int (3 : Int32))] ?_ fun _ k_ => XS.iloadN X0.here hx rfl (hb hby d5_75) rfl k_
            refine Go.k 77 [(.int (1 : Int32)), (.int (XT.ushr ((p1 ^^^ (-1 : Int32)) &&& (p1 - (1 : Int32))) (2 : Int32))), (.int (3 : Int32))] ?_ fun _ k_ => XT.iconstV X0.here hx rfl (1 : Int32) (hb hby d5_76) (by decide) k_
            refine Go.k 78 [(.int (XT.ushr (XT.ushr ((p1 ^^^ (-1 : Int32)) &&& (p1 - (1 : Int32))) (2 : Int32)) (1 : Int32))), (.int (3 : Int32))] ?_ fun _ k_ => XT.iushr X0.here hx rfl (hb hby d5_77) rfl k_
            refine Go.k 79 [(.int ((3 : Int32) + (XT.ushr (XT.ushr ((p1 ^^^ (-1 : Int32)) &&& (p1 - (1 : Int32))) (2 : Int32)) (1 : Int32))))] ?_ fun _ k_ => XS.iadd X0.here hx rfl (hb hby d5_78) rfl k_
            exact Go.retV (t := .int) X0 hx hret hlk (by decide) (by decide) rfl (Or.inl ⟨rfl, Or.inl rfl, _, rfl⟩) (hb hby d5_79) ⟨by rw [own_ntzI, if_pos hc1, if_neg hc2, if_neg hc10, if_neg hc14, if_pos hc16], N0, e0⟩
          · refine Go.k 74 [] ?_ fun _ k_ => XS.icmpYes X0.here hx rfl (pc0 := 64) (pc' := 74) rfl (hb hby d5_64) rfl (flt hc16).2.2.2 (by decide) (by decide) k_
            refine Go.k 75 [(.int (1 : Int32))] ?_ fun _ k_ => XS.iloadN X0.here hx rfl (hb hby d5_74) rfl k_
            refine Go.k 76 [(.int ((p1 ^^^ (-1 : Int32)) &&& (p1 - (1 : Int32)))), (.int (1 : Int32))] ?_ fun _ k_ => XS.iloadN X0.here hx rfl (hb hby d5_75) rfl k_
            refine Go.k 77 [(.int (1 : Int32)), (.int ((p1 ^^^ (-1 : Int32)) &&& (p1 - (1 : Int32)))), (.int (1 : Int32))] ?_ fun _ k_ => XT.iconstV X0.here hx rfl (1 : Int32) (hb hby d5_76) (by decide) k_
            refine Go.k 78 [(.int (XT.ushr ((p1 ^^^ (-1 : Int32)) &&& (p1 - (1 : Int32))) (1 : Int32))), (.int (1 : Int32))] ?_ fun _ k_ => XT.iushr X0.here hx rfl (hb hby d5_77) rfl k_
            refine Go.k 79 [(.int ((1 : Int32) + (XT.ushr ((p1 ^^^ (-1 : Int32)) &&& (p1 - (1 : Int32))) (1 : Int32))))] ?_ fun _ k_ => XS.iadd X0.here hx rfl (hb hby d5_78) rfl k_
            exact Go.retV (t := .int) X0 hx hret hlk (by decide) (by decide) rfl (Or.inl ⟨rfl, Or.inl rfl, _, rfl⟩) (hb hby d5_79) ⟨by rw [own_ntzI, if_pos hc1, if_neg hc2, if_neg hc10, if_neg hc14, if_neg hc16], N0, e0⟩
  · refine Go.k 12 [] ?_ fun _ k_ => XS.ifNo X0.here hx rfl (hb hby d5_9) rfl ((if0 _ _).trans (flt hc1).2.2.1) k_
    refine Go.k 13 [(.int ((p1 ^^^ (-1 : Int32)) &&& (p1 - (1 : Int32))))] ?_ fun _ k_ => XS.iloadN X0.here hx rfl (hb hby d5_12) rfl k_
    refine Go.k 15 [(.int (32 : Int32)), (.int ((p1 ^^^ (-1 : Int32)) &&& (p1 - (1 : Int32))))] ?_ fun _ k_ => XT.bipushV X0.here hx rfl (32 : Int32) (hb hby d5_13) (by decide) k_
    refine Go.k 16 [(.int (((p1 ^^^ (-1 : Int32)) &&& (p1 - (1 : Int32))) &&& (32 : Int32)))] ?_ fun _ k_ => XS.iand X0.here hx rfl (hb hby d5_15) rfl k_
    exact Go.retV (t := .int) X0 hx hret hlk (by decide) (by decide) rfl (Or.inl ⟨rfl, Or.inl rfl, _, rfl⟩) (hb hby d5_16) ⟨by rw [own_ntzI, if_neg hc1], N0, e0⟩
def own_tzT (i : Int32) : Int32 := if (0 : Int32) < i then if (65536 : Int32) < i then if (256 : Int32) < (XT.ushr i (16 : Int32)) then if (16 : Int32) < (XT.ushr (XT.ushr i (16 : Int32)) (8 : Int32)) then if (4 : Int32) < (XT.ushr (XT.ushr (XT.ushr i (16 : Int32)) (8 : Int32)) (4 : Int32)) then ((31 : Int32) + (XT.ushr (XT.ushr (XT.ushr (XT.ushr (XT.ushr i (16 : Int32)) (8 : Int32)) (4 : Int32)) (2 : Int32)) (1 : Int32))) else ((29 : Int32) + (XT.ushr (XT.ushr (XT.ushr (XT.ushr i (16 : Int32)) (8 : Int32)) (4 : Int32)) (1 : Int32))) else (if (4 : Int32) < (XT.ushr (XT.ushr i (16 : Int32)) (8 : Int32)) then ((27 : Int32) + (XT.ushr (XT.ushr (XT.ushr (XT.ushr i (16 : Int32)) (8 : Int32)) (2 : Int32)) (1 : Int32))) else ((25 : Int32) + (XT.ushr (XT.ushr (XT.ushr i (16 : Int32)) (8 : Int32)) (1 : Int32)))) else (if (16 : Int32) < (XT.ushr i (16 : Int32)) then if (4 : Int32) < (XT.ushr (XT.ushr i (16 : Int32)) (4 : Int32)) then ((23 : Int32) + (XT.ushr (XT.ushr (XT.ushr (XT.ushr i (16 : Int32)) (4 : Int32)) (2 : Int32)) (1 : Int32))) else ((21 : Int32) + (XT.ushr (XT.ushr (XT.ushr i (16 : Int32)) (4 : Int32)) (1 : Int32))) else (if (4 : Int32) < (XT.ushr i (16 : Int32)) then ((19 : Int32) + (XT.ushr (XT.ushr (XT.ushr i (16 : Int32)) (2 : Int32)) (1 : Int32))) else ((17 : Int32) + (XT.ushr (XT.ushr i (16 : Int32)) (1 : Int32))))) else (if (256 : Int32) < i then if (16 : Int32) < (XT.ushr i (8 : Int32)) then if (4 : Int32) < (XT.ushr (XT.ushr i (8 : Int32)) (4 : Int32)) then ((15 : Int32) + (XT.ushr (XT.ushr (XT.ushr (XT.ushr i (8 : Int32)) (4 : Int32)) (2 : Int32)) (1 : Int32))) else ((13 : Int32) + (XT.ushr (XT.ushr (XT.ushr i (8 : Int32)) (4 : Int32)) (1 : Int32))) else (if (4 : Int32) < (XT.ushr i (8 : Int32)) then ((11 : Int32) + (XT.ushr (XT.ushr (XT.ushr i (8 : Int32)) (2 : Int32)) (1 : Int32))) else ((9 : Int32) + (XT.ushr (XT.ushr i (8 : Int32)) (1 : Int32)))) else (if (16 : Int32) < i then if (4 : Int32) < (XT.ushr i (4 : Int32)) then ((7 : Int32) + (XT.ushr (XT.ushr (XT.ushr i (4 : Int32)) (2 : Int32)) (1 : Int32))) else ((5 : Int32) + (XT.ushr (XT.ushr i (4 : Int32)) (1 : Int32))) else (if (4 : Int32) < i then ((3 : Int32) + (XT.ushr (XT.ushr i (2 : Int32)) (1 : Int32))) else ((1 : Int32) + (XT.ushr i (1 : Int32)))))) else (i &&& (32 : Int32))
theorem own_ntzI_v (x : Int32) (h : ¬ x = 0) : ∃ n : Nat, n < 32 ∧ own_ntzI x = Int32.ofNat n ∧ x.toBitVec.getLsbD n = true ∧ ∀ j, j < n → x.toBitVec.getLsbD j = false := by
  obtain ⟨n, hn, e, h1, h2⟩ := own_ctz32 x h
  refine ⟨n, hn, ?_, h1, h2⟩
  have q : own_ntzI x = own_tzT ((x ^^^ -1) &&& (x - 1)) := rfl
  rw [q, e]
  exact (by decide +kernel : ∀ n : Fin 32, own_tzT (Int32.ofNat (2 ^ n.val - 1)) = Int32.ofNat n.val) ⟨n, hn⟩
def own_ntzL (p1 : Int64)  : Int32 := if p1.toInt32 = (0 : Int32) then ((32 : Int32) + (own_ntzI (XT.ushrL p1 (32 : Int32)).toInt32)) else (own_ntzI p1.toInt32)
theorem d6_0 : decode jdk_35_method_49_code 0 = .ok (.lload_n 0, 1) := by decide +kernel
theorem d6_1 : decode jdk_35_method_49_code 1 = .ok (.l2i, 1) := by decide +kernel
theorem d6_2 : decode jdk_35_method_49_code 2 = .ok (.istore_n 2, 1) := by decide +kernel
theorem d6_3 : decode jdk_35_method_49_code 3 = .ok (.iload_n 2, 1) := by decide +kernel
theorem d6_4 : decode jdk_35_method_49_code 4 = .ok (.ifCond .ne 17, 3) := by decide +kernel
theorem d6_7 : decode jdk_35_method_49_code 7 = .ok (.bipush 32, 2) := by decide +kernel
theorem d6_9 : decode jdk_35_method_49_code 9 = .ok (.lload_n 0, 1) := by decide +kernel
theorem d6_10 : decode jdk_35_method_49_code 10 = .ok (.bipush 32, 2) := by decide +kernel
theorem d6_12 : decode jdk_35_method_49_code 12 = .ok (.lushr, 1) := by decide +kernel
theorem d6_13 : decode jdk_35_method_49_code 13 = .ok (.l2i, 1) := by decide +kernel
theorem d6_14 : decode jdk_35_method_49_code 14 = .ok (.invokestatic 311, 3) := by decide +kernel
theorem pd__I_I : parseMethodDescriptor "(I)I" = some ⟨[.int], some .int⟩ := by decide +kernel
theorem d6_17 : decode jdk_35_method_49_code 17 = .ok (.iadd, 1) := by decide +kernel
theorem d6_18 : decode jdk_35_method_49_code 18 = .ok (.goto 7, 3) := by decide +kernel
theorem d6_25 : decode jdk_35_method_49_code 25 = .ok (.ireturn, 1) := by decide +kernel
theorem d6_21 : decode jdk_35_method_49_code 21 = .ok (.iload_n 2, 1) := by decide +kernel
theorem d6_22 : decode jdk_35_method_49_code 22 = .ok (.invokestatic 311, 3) := by decide +kernel
theorem pn_java_lang_Long : plainName "java/lang/Long" = true := by first | (simp [plainName, overriddenIn]; done) | decide +kernel
set_option maxRecDepth 65536 in
set_option maxHeartbeats 40000000 in
theorem rntl (l : Launch) (Z : State) (a0 : Array Value) (hw : ∀ d ∈ tables_1, d.before a0 Z = true) (ws : List Jvm.Cond) (p1 : Int64)  (h0 : Heap) (n0 : Nat) (Z0 : n0 ≤ h0.size)  :
    Does l (⟨"java/lang/Long", "numberOfTrailingZeros", "(J)I"⟩ : MethodName) jdk_35_method_49_code 3 (some .int) ws ({ frames := 1, cells := 0, slots := 0, locals := 16 } : Room) #[(.long p1)] Z h0 (fun v h L => v = some (.int (own_ntzL p1 )) ∧ Fr n0 L ∧ h = h0) := by
  refine Does.of (plainFor_of_name pn_java_lang_Long) ?_
  intro p e s m below meth c s₁ hx hby hml hret hlk hown0 hnm hZ X0 e0
  have hown : s.vm.findClass "java/lang/Long" = some m.cls := hown0
  have N0 := Fr.nil n0
  refine Go.cast (g' := (mkF m 0 #[(sJ p1), .second, .unset] [])) (by first | (simp [entryFrame, mkF, argsToLocals, Value.category, maxLocals, sI, sR, sJ]; done) | rfl) ?_
  refine Go.k 1 [(.long p1)] ?_ fun _ k_ => XT.lloadN X0.here hx rfl (hb hby d6_0) rfl k_
  refine Go.k 2 [(.int p1.toInt32)] ?_ fun _ k_ => XT.l2i X0.here hx rfl (hb hby d6_1) rfl k_
  refine Go.s (g' := (mkF m 3 #[(sJ p1), .second, (sI p1.toInt32)] [])) ?_ fun _ k_ => XS.istoreN X0.here hx rfl (hb hby d6_2) rfl (l' := #[(sJ p1), .second, (sI p1.toInt32)]) rfl k_
  refine Go.k 4 [(.int p1.toInt32)] ?_ fun _ k_ => XS.iloadN X0.here hx rfl (hb hby d6_3) rfl k_
  by_cases hc1 : p1.toInt32 = (0 : Int32)
  · refine Go.k 7 [] ?_ fun _ k_ => XS.ifNo X0.here hx rfl (hb hby d6_4) rfl ((if0 _ _).trans (teq hc1).2) k_
    refine Go.k 9 [(.int (32 : Int32))] ?_ fun _ k_ => XT.bipushV X0.here hx rfl (32 : Int32) (hb hby d6_7) (by decide) k_
    refine Go.k 10 [(.long p1), (.int (32 : Int32))] ?_ fun _ k_ => XT.lloadN X0.here hx rfl (hb hby d6_9) rfl k_
    refine Go.k 12 [(.int (32 : Int32)), (.long p1), (.int (32 : Int32))] ?_ fun _ k_ => XT.bipushV X0.here hx rfl (32 : Int32) (hb hby d6_10) (by decide) k_
    refine Go.k 13 [(.long (XT.ushrL p1 (32 : Int32))), (.int (32 : Int32))] ?_ fun _ k_ => XT.lushr X0.here hx rfl (hb hby d6_12) rfl k_
    refine Go.k 14 [(.int (XT.ushrL p1 (32 : Int32)).toInt32), (.int (32 : Int32))] ?_ fun _ k_ => XT.l2i X0.here hx rfl (hb hby d6_13) rfl k_
    refine Go.callS X0 hx hZ hown (wq hw 49 rfl) (wq hw 50 rfl) (wq hw 51 rfl) (wq hw 52 rfl) (by decide) (rnti l Z a0 hw [] (XT.ushrL p1 (32 : Int32)).toInt32  h0 n0 Z0 ) e0 (by decide) (W := 1) (by decide) (by decide) (by decide) (g := (mkF m 14 #[(sJ p1), .second, (sI p1.toInt32)] [(.int (XT.ushrL p1 (32 : Int32)).toInt32), (.int (32 : Int32))])) (rest := [(.int (32 : Int32))]) rfl (by rw [hml]; rfl) (lenOf pd__I_I rfl) rfl (by show 2 * 0 + _ ≤ _; exact Nat.le_of_eq rfl) (hb hby d6_14) ?_
    rintro v2 T2 L2 X2 ⟨rfl, N2, e2⟩
    have M2 := Fr.app N0 N2
    show Go p e below _ T2 (mkF m 17 #[(sJ p1), .second, (sI p1.toInt32)] [(.int (own_ntzI (XT.ushrL p1 (32 : Int32)).toInt32)), (.int (32 : Int32))])
    refine Go.k 18 [(.int ((32 : Int32) + (own_ntzI (XT.ushrL p1 (32 : Int32)).toInt32)))] ?_ fun _ k_ => XS.iadd X2.here hx rfl (hb hby d6_17) rfl k_
    refine Go.k 25 [(.int ((32 : Int32) + (own_ntzI (XT.ushrL p1 (32 : Int32)).toInt32)))] ?_ fun _ k_ => XS.goto X2.here hx rfl (pc0 := 18) (pc' := 25) rfl (hb hby d6_18) (by decide) (by decide) k_
    exact Go.retV (t := .int) X2 hx hret hlk (by decide) (by decide) rfl (Or.inl ⟨rfl, Or.inl rfl, _, rfl⟩) (hb hby d6_25) ⟨by rw [own_ntzL, if_pos hc1], M2, e2⟩
  · refine Go.k 21 [] ?_ fun _ k_ => XS.ifYes X0.here hx rfl (pc0 := 4) (pc' := 21) rfl (hb hby d6_4) rfl ((if0 _ _).trans (feq hc1).2) (by decide) (by decide) k_
    refine Go.k 22 [(.int p1.toInt32)] ?_ fun _ k_ => XS.iloadN X0.here hx rfl (hb hby d6_21) rfl k_
    refine Go.callS X0 hx hZ hown (wq hw 49 rfl) (wq hw 50 rfl) (wq hw 51 rfl) (wq hw 52 rfl) (by decide) (rnti l Z a0 hw [] p1.toInt32  h0 n0 Z0 ) e0 (by decide) (W := 0) (by decide) (by decide) (by decide) (g := (mkF m 22 #[(sJ p1), .second, (sI p1.toInt32)] [(.int p1.toInt32)])) (rest := []) rfl (by rw [hml]; rfl) (lenOf pd__I_I rfl) rfl (by show 2 * 0 + _ ≤ _; exact Nat.le_of_eq rfl) (hb hby d6_22) ?_
    rintro v3 T3 L3 X3 ⟨rfl, N3, e3⟩
    have M3 := Fr.app N0 N3
    show Go p e below _ T3 (mkF m 25 #[(sJ p1), .second, (sI p1.toInt32)] [(.int (own_ntzI p1.toInt32))])
    exact Go.retV (t := .int) X3 hx hret hlk (by decide) (by decide) rfl (Or.inl ⟨rfl, Or.inl rfl, _, rfl⟩) (hb hby d6_25) ⟨by rw [own_ntzL, if_neg hc1], M3, e3⟩
theorem own_lowbit (x : Int64) (j : Nat) (h : j < 32) : x.toInt32.toBitVec.getLsbD j = own_bit x j := by
  show (x.toBitVec.signExtend 32).getLsbD j = _
  rw [BitVec.getLsbD_signExtend]; simp [h, show j < 64 by omega, own_bit]
theorem own_hibit (x : Int64) (j : Nat) (h : j < 32) : (XT.ushrL x 32).toInt32.toBitVec.getLsbD j = own_bit x (32 + j) := by
  rw [own_lowbit _ _ h]
  have k : ((32 : Int32).toInt64.toUInt64 &&& Int64.toUInt64 63) = 32 := by decide
  have e : (XT.ushrL x 32).toBitVec = x.toBitVec >>> 32 := by
    unfold XT.ushrL
    rw [k]
    rfl
  unfold own_bit; rw [e]; simp
theorem own_ntz (x : Int64) (h : ¬ x = 0) : ∃ n : Nat, n < 64 ∧ (own_ntzL x).toInt = n ∧ own_bit x n = true ∧ ∀ j, j < n → own_bit x j = false := by
  unfold own_ntzL
  by_cases c : x.toInt32 = 0
  · have lo : ∀ j, j < 32 → own_bit x j = false := fun j hj => by rw [← own_lowbit x j hj, c]; simp
    have hy : ¬ (XT.ushrL x 32).toInt32 = 0 := fun q => h (own_bit_ext fun i hi => by
      rw [own_bit0]
      rcases Nat.lt_or_ge i 32 with r | r
      · exact lo i r
      · have := own_hibit x (i - 32) (by omega)
        rw [q, show 32 + (i - 32) = i by omega] at this; rw [← this]; simp)
    obtain ⟨n, hn, e, h1, h2⟩ := own_ntzI_v _ hy
    rw [own_hibit x n hn] at h1
    rw [if_pos c]
    refine ⟨32 + n, by omega, ?_, h1, fun j hj => ?_⟩
    · first | rw [e] | skip
      exact (by decide +kernel : ∀ n : Fin 32, ((32 : Int32) + Int32.ofNat n.val).toInt = ((32 + n.val : Nat) : Int)) ⟨n, hn⟩
    · rcases Nat.lt_or_ge j 32 with r | r
      · exact lo j r
      · have := h2 (j - 32) (by omega)
        rw [own_hibit x _ (by omega), show 32 + (j - 32) = j by omega] at this; exact this
  · obtain ⟨n, hn, e, h1, h2⟩ := own_ntzI_v _ c
    rw [own_lowbit x n hn] at h1
    rw [if_neg c]
    refine ⟨n, by omega, ?_, h1, fun j hj => by rw [← own_lowbit x j (by omega)]; exact h2 j hj⟩
    rw [e]
    exact (by decide +kernel : ∀ n : Fin 32, (Int32.ofNat n.val).toInt = ((n.val : Nat) : Int)) ⟨n, hn⟩
def own_WI (Z : State) (h : Heap) (n0 : Nat) (w lv : Addr) (kL : ClassId) (x0 x1 x2 x3 x4 : Addr) (z0 z1 z2 z3 z4 : Int32) (f0 f1 f2 f3 f4 : Nat → Int64) : Prop := Exa Z h w "com/example/slantwise/slantwise/engine/WordIndex" ∧ Fld Z h w "com/example/slantwise/slantwise/engine/WordIndex" "levels" "[[J" (.ref lv) ∧ Arv Z h lv kL (.array .long) (5 : Int32) [(.ref x0), (.ref x1), (.ref x2), (.ref x3), (.ref x4)] .null ∧ OvrA Z kL .long "[J" ∧ LA Z h x0 z0 f0 ∧ LA Z h x1 z1 f1 ∧ LA Z h x2 z2 f2 ∧ LA Z h x3 z3 f3 ∧ LA Z h x4 z4 f4 ∧ n0 ≤ lv ∧ n0 ≤ x0 ∧ n0 ≤ x1 ∧ n0 ≤ x2 ∧ n0 ≤ x3 ∧ n0 ≤ x4 ∧ ¬ w = lv ∧ ¬ w = x0 ∧ ¬ w = x1 ∧ ¬ w = x2 ∧ ¬ w = x3 ∧ ¬ w = x4 ∧ ¬ lv = x0 ∧ ¬ lv = x1 ∧ ¬ lv = x2 ∧ ¬ lv = x3 ∧ ¬ lv = x4 ∧ ¬ x0 = x1 ∧ ¬ x0 = x2 ∧ ¬ x0 = x3 ∧ ¬ x0 = x4 ∧ ¬ x1 = x2 ∧ ¬ x1 = x3 ∧ ¬ x1 = x4 ∧ ¬ x2 = x3 ∧ ¬ x2 = x4 ∧ ¬ x3 = x4
def own_Ch (z0 z1 z2 z3 z4 : Int32) : Prop := 1 ≤ z0.toInt ∧ z0.toInt ≤ 16384 ∧ 1 ≤ z1.toInt ∧ z1.toInt ≤ 256 ∧ 1 ≤ z2.toInt ∧ z2.toInt ≤ 4 ∧ 1 ≤ z3.toInt ∧ z3.toInt ≤ 1 ∧ 1 ≤ z4.toInt ∧ z4.toInt ≤ 1 ∧ z0.toInt ≤ 64 * z1.toInt ∧ z1.toInt ≤ 64 * z2.toInt ∧ z2.toInt ≤ 64 * z3.toInt ∧ z3.toInt ≤ 64 * z4.toInt
def own_z : Nat → Int64 := fun _ => 0
def own_min (p1 p2 : Int32)  : Int32 := if p2 < p1 then p2 else p1
theorem d3_0 : decode jdk_29_method_69_code 0 = .ok (.iload_n 0, 1) := by decide +kernel
theorem d3_1 : decode jdk_29_method_69_code 1 = .ok (.iload_n 1, 1) := by decide +kernel
theorem d3_2 : decode jdk_29_method_69_code 2 = .ok (.if_icmp .gt 7, 3) := by decide +kernel
theorem d3_9 : decode jdk_29_method_69_code 9 = .ok (.iload_n 1, 1) := by decide +kernel
theorem d3_10 : decode jdk_29_method_69_code 10 = .ok (.ireturn, 1) := by decide +kernel
theorem d3_5 : decode jdk_29_method_69_code 5 = .ok (.iload_n 0, 1) := by decide +kernel
theorem d3_6 : decode jdk_29_method_69_code 6 = .ok (.goto 4, 3) := by decide +kernel
set_option maxRecDepth 65536 in
set_option maxHeartbeats 40000000 in
theorem rmin (l : Launch) (Z : State) (a0 : Array Value) (hw : ∀ d ∈ tables_1, d.before a0 Z = true) (ws : List Jvm.Cond) (p1 p2 : Int32)  (h0 : Heap) (n0 : Nat) (Z0 : n0 ≤ h0.size)  :
    Does l (⟨"java/lang/Math", "min", "(II)I"⟩ : MethodName) jdk_29_method_69_code 2 (some .int) ws ({ frames := 0, cells := 0, slots := 0, locals := 0 } : Room) #[(.int p1), (.int p2)] Z h0 (fun v h L => v = some (.int (own_min p1 p2 )) ∧ Fr n0 L ∧ h = h0) := by
  refine Does.of (Jvm.Free.JP.mathPlain rfl (by decide +kernel)) ?_
  intro p e s m below meth c s₁ hx hby hml hret hlk hown0 hnm hZ X0 e0
  have hown : s.vm.findClass "java/lang/Math" = some m.cls := hown0
  have N0 := Fr.nil n0
  refine Go.cast (g' := (mkF m 0 #[(sI p1), (sI p2)] [])) (by first | (simp [entryFrame, mkF, argsToLocals, Value.category, maxLocals, sI, sR, sJ]; done) | rfl) ?_
  refine Go.k 1 [(.int p1)] ?_ fun _ k_ => XS.iloadN X0.here hx rfl (hb hby d3_0) rfl k_
  refine Go.k 2 [(.int p2), (.int p1)] ?_ fun _ k_ => XS.iloadN X0.here hx rfl (hb hby d3_1) rfl k_
  by_cases hc1 : p2 < p1
  · refine Go.k 9 [] ?_ fun _ k_ => XS.icmpYes X0.here hx rfl (pc0 := 2) (pc' := 9) rfl (hb hby d3_2) rfl (tlt hc1).2.2.1 (by decide) (by decide) k_
    refine Go.k 10 [(.int p2)] ?_ fun _ k_ => XS.iloadN X0.here hx rfl (hb hby d3_9) rfl k_
    exact Go.retV (t := .int) X0 hx hret hlk (by decide) (by decide) rfl (Or.inl ⟨rfl, Or.inl rfl, _, rfl⟩) (hb hby d3_10) ⟨by rw [own_min, if_pos hc1], N0, e0⟩
  · refine Go.k 5 [] ?_ fun _ k_ => XS.icmpNo X0.here hx rfl (hb hby d3_2) rfl (flt hc1).2.2.1 k_
    refine Go.k 6 [(.int p1)] ?_ fun _ k_ => XS.iloadN X0.here hx rfl (hb hby d3_5) rfl k_
    refine Go.k 10 [(.int p1)] ?_ fun _ k_ => XS.goto X0.here hx rfl (pc0 := 6) (pc' := 10) rfl (hb hby d3_6) (by decide) (by decide) k_
    exact Go.retV (t := .int) X0 hx hret hlk (by decide) (by decide) rfl (Or.inl ⟨rfl, Or.inl rfl, _, rfl⟩) (hb hby d3_10) ⟨by rw [own_min, if_neg hc1], N0, e0⟩
def own_max (p1 p2 : Int32)  : Int32 := if p1 < p2 then p2 else p1
theorem d1_0 : decode jdk_29_method_65_code 0 = .ok (.iload_n 0, 1) := by decide +kernel
theorem d1_1 : decode jdk_29_method_65_code 1 = .ok (.iload_n 1, 1) := by decide +kernel
theorem d1_2 : decode jdk_29_method_65_code 2 = .ok (.if_icmp .lt 7, 3) := by decide +kernel
theorem d1_9 : decode jdk_29_method_65_code 9 = .ok (.iload_n 1, 1) := by decide +kernel
theorem d1_10 : decode jdk_29_method_65_code 10 = .ok (.ireturn, 1) := by decide +kernel
theorem d1_5 : decode jdk_29_method_65_code 5 = .ok (.iload_n 0, 1) := by decide +kernel
theorem d1_6 : decode jdk_29_method_65_code 6 = .ok (.goto 4, 3) := by decide +kernel
set_option maxRecDepth 65536 in
set_option maxHeartbeats 40000000 in
theorem rmax (l : Launch) (Z : State) (a0 : Array Value) (hw : ∀ d ∈ tables_1, d.before a0 Z = true) (ws : List Jvm.Cond) (p1 p2 : Int32)  (h0 : Heap) (n0 : Nat) (Z0 : n0 ≤ h0.size)  :
    Does l (⟨"java/lang/Math", "max", "(II)I"⟩ : MethodName) jdk_29_method_65_code 2 (some .int) ws ({ frames := 0, cells := 0, slots := 0, locals := 0 } : Room) #[(.int p1), (.int p2)] Z h0 (fun v h L => v = some (.int (own_max p1 p2 )) ∧ Fr n0 L ∧ h = h0) := by
  refine Does.of (Jvm.Free.JP.mathPlain rfl (by decide +kernel)) ?_
  intro p e s m below meth c s₁ hx hby hml hret hlk hown0 hnm hZ X0 e0
  have hown : s.vm.findClass "java/lang/Math" = some m.cls := hown0
  have N0 := Fr.nil n0
  refine Go.cast (g' := (mkF m 0 #[(sI p1), (sI p2)] [])) (by first | (simp [entryFrame, mkF, argsToLocals, Value.category, maxLocals, sI, sR, sJ]; done) | rfl) ?_
  refine Go.k 1 [(.int p1)] ?_ fun _ k_ => XS.iloadN X0.here hx rfl (hb hby d1_0) rfl k_
  refine Go.k 2 [(.int p2), (.int p1)] ?_ fun _ k_ => XS.iloadN X0.here hx rfl (hb hby d1_1) rfl k_
  by_cases hc1 : p1 < p2
  · refine Go.k 9 [] ?_ fun _ k_ => XS.icmpYes X0.here hx rfl (pc0 := 2) (pc' := 9) rfl (hb hby d1_2) rfl (tlt hc1).1 (by decide) (by decide) k_
    refine Go.k 10 [(.int p2)] ?_ fun _ k_ => XS.iloadN X0.here hx rfl (hb hby d1_9) rfl k_
    exact Go.retV (t := .int) X0 hx hret hlk (by decide) (by decide) rfl (Or.inl ⟨rfl, Or.inl rfl, _, rfl⟩) (hb hby d1_10) ⟨by rw [own_max, if_pos hc1], N0, e0⟩
  · refine Go.k 5 [] ?_ fun _ k_ => XS.icmpNo X0.here hx rfl (hb hby d1_2) rfl (flt hc1).1 k_
    refine Go.k 6 [(.int p1)] ?_ fun _ k_ => XS.iloadN X0.here hx rfl (hb hby d1_5) rfl k_
    refine Go.k 10 [(.int p1)] ?_ fun _ k_ => XS.goto X0.here hx rfl (pc0 := 6) (pc' := 10) rfl (hb hby d1_6) (by decide) (by decide) k_
    exact Go.retV (t := .int) X0 hx hret hlk (by decide) (by decide) rfl (Or.inl ⟨rfl, Or.inl rfl, _, rfl⟩) (hb hby d1_10) ⟨by rw [own_max, if_neg hc1], N0, e0⟩
theorem own_max_v (a b : Int32) : ((own_max a b).toInt = a.toInt ∨ (own_max a b).toInt = b.toInt) ∧ a.toInt ≤ (own_max a b).toInt ∧ b.toInt ≤ (own_max a b).toInt := by
  unfold own_max; split
  · rename_i h; rw [Int32.lt_iff_toInt_lt] at h; omega
  · rename_i h; rw [Int32.lt_iff_toInt_lt] at h; omega
theorem d7_0 : decode jdk_65_method_124_code 0 = .ok (.iload_n 1, 1) := by decide +kernel
theorem d7_1 : decode jdk_65_method_124_code 1 = .ok (.aload_n 0, 1) := by decide +kernel
theorem d7_2 : decode jdk_65_method_124_code 2 = .ok (.arraylength, 1) := by decide +kernel
theorem d7_3 : decode jdk_65_method_124_code 3 = .ok (.if_icmp .ne 11, 3) := by decide +kernel
theorem d7_14 : decode jdk_65_method_124_code 14 = .ok (.iload_n 1, 1) := by decide +kernel
theorem d7_15 : decode jdk_65_method_124_code 15 = .ok (.newarray .long, 2) := by decide +kernel
theorem d7_17 : decode jdk_65_method_124_code 17 = .ok (.astore_n 2, 1) := by decide +kernel
theorem d7_18 : decode jdk_65_method_124_code 18 = .ok (.aload_n 0, 1) := by decide +kernel
theorem d7_19 : decode jdk_65_method_124_code 19 = .ok (.iconst 0, 1) := by decide +kernel
theorem d7_20 : decode jdk_65_method_124_code 20 = .ok (.aload_n 2, 1) := by decide +kernel
theorem d7_21 : decode jdk_65_method_124_code 21 = .ok (.iconst 0, 1) := by decide +kernel
theorem d7_22 : decode jdk_65_method_124_code 22 = .ok (.aload_n 0, 1) := by decide +kernel
theorem d7_23 : decode jdk_65_method_124_code 23 = .ok (.arraylength, 1) := by decide +kernel
theorem d7_24 : decode jdk_65_method_124_code 24 = .ok (.iload_n 1, 1) := by decide +kernel
theorem d7_25 : decode jdk_65_method_124_code 25 = .ok (.invokestatic 304, 3) := by decide +kernel
theorem pd__II_I : parseMethodDescriptor "(II)I" = some ⟨[.int, .int], some .int⟩ := by decide +kernel
theorem d7_28 : decode jdk_65_method_124_code 28 = .ok (.invokestatic 150, 3) := by decide +kernel
theorem d7_31 : decode jdk_65_method_124_code 31 = .ok (.aload_n 2, 1) := by decide +kernel
theorem d7_32 : decode jdk_65_method_124_code 32 = .ok (.areturn, 1) := by decide +kernel
theorem pn_java_util_Arrays : plainName "java/util/Arrays" = true := by first | (simp [plainName, overriddenIn]; done) | decide +kernel
set_option maxRecDepth 65536 in
set_option maxHeartbeats 40000000 in
theorem copy4 (l : Launch) (Z : State) (a0 : Array Value) (hw : ∀ d ∈ tables_1, d.before a0 Z = true) (ws : List Jvm.Cond) (a1 : Addr) (z len : Int32) (f : Nat → Int64) (h0 : Heap) (n0 : Nat) (Z0 : n0 ≤ h0.size) (B1 : LA Z h0 a1 z f) (q0 : 0 ≤ z.toInt) (q1 : z.toInt < len.toInt) (q2 : len.toInt ≤ 4) :
    Does l (⟨"java/util/Arrays", "copyOf", "([JI)[J"⟩ : MethodName) jdk_65_method_124_code 3 (some (.array .long)) ws ({ frames := 1, cells := 1, slots := 4, locals := 40 } : Room) #[(.ref a1), (.int len)] Z h0 (fun v h L => ∃ o, v = some (.ref o) ∧ Fr n0 L ∧ Keep h0 h [] ∧ h0.size ≤ o ∧ Exa Z h o "[J" ∧ LA Z h o len f) := by
  refine Does.of (plainFor_of_name pn_java_util_Arrays) ?_
  intro p e s m below meth c s₁ hx hby hml hret hlk hown0 hnm hZ X0 e0
  have hown : s.vm.findClass "java/util/Arrays" = some m.cls := hown0
  have N0 := Fr.nil n0
  refine Go.cast (g' := (mkF m 0 #[(sR a1), (sI len), .unset] [])) (by first | (simp [entryFrame, mkF, argsToLocals, Value.category, maxLocals, sI, sR, sJ]; done) | rfl) ?_
  refine Go.k 1 [(.int len)] ?_ fun _ k_ => XS.iloadN X0.here hx rfl (hb hby d7_0) rfl k_
  refine Go.k 2 [(.ref a1), (.int len)] ?_ fun _ k_ => XS.aloadN X0.here hx rfl (hb hby d7_1) rfl rfl k_
  refine Go.t s₁ 3 [(.int z), (.int len)] ?_ (own_laN X0 hx hZ e0 B1 (g := (mkF m 2 #[(sR a1), (sI len), .unset] [(.ref a1), (.int len)])) rfl rfl (hb hby d7_2))
  refine Go.k 14 [] ?_ fun _ k_ => XS.icmpYes X0.here hx rfl (pc0 := 3) (pc' := 14) rfl (hb hby d7_3) rfl (feq (own_i_neq rfl rfl (by omega) : ¬ len = z)).2 (by decide) (by decide) k_
  refine Go.k 15 [(.int len)] ?_ fun _ k_ => XS.iloadN X0.here hx rfl (hb hby d7_14) rfl k_
  obtain ⟨T1, h1, ka1, X1, e1, E1, A1, D1, st1⟩ := newPE X0 hx hZ (wq hw 12 rfl) e0 (g := (mkF m 15 #[(sR a1), (sI len), .unset] [(.int len)])) rfl (hb hby d7_15) rfl (own_i_nlt rfl (by decide : (0 : Int32).toInt = 0) (by omega)) (cap := 4) (by simp only [Int32.toNatClampNeg]; omega) (by decide) (by decide) (by decide) (ad := "[J") (by decide)
  obtain ⟨na1, g1⟩ : ∃ z, z = h0.size := ⟨_, rfl⟩
  rw [← g1] at A1 D1 st1
  have G1 : n0 ≤ na1 := Nat.le_trans Z0 (Nat.le_of_eq g1.symm)
  have H1 : h0.size ≤ na1 := Nat.le_trans (Nat.le_refl _) (Nat.le_of_eq g1.symm)
  have Q1_a1 : ¬ a1 = na1 := Nat.ne_of_lt (by rw [g1]; exact B1.lt)
  have V1 : Arv Z h1 na1 ka1 .long len [] (.long 0) := Arv.new A1 (own_i_nlt rfl (by decide : (0 : Int32).toInt = 0) (by omega))
  refine Go.t T1 17 [(.ref na1)] ?_ st1
  refine Go.s (g' := (mkF m 18 #[(sR a1), (sI len), (sR na1)] [])) ?_ fun _ k_ => XS.astoreN X1.here hx rfl (hb hby d7_17) rfl rfl (l' := #[(sR a1), (sI len), (sR na1)]) rfl k_
  refine Go.k 19 [(.ref a1)] ?_ fun _ k_ => XS.aloadN X1.here hx rfl (hb hby d7_18) rfl rfl k_
  refine Go.k 20 [(.int (0 : Int32)), (.ref a1)] ?_ fun _ k_ => XT.iconstV X1.here hx rfl (0 : Int32) (hb hby d7_19) (by decide) k_
  refine Go.k 21 [(.ref na1), (.int (0 : Int32)), (.ref a1)] ?_ fun _ k_ => XS.aloadN X1.here hx rfl (hb hby d7_20) rfl rfl k_
  refine Go.k 22 [(.int (0 : Int32)), (.ref na1), (.int (0 : Int32)), (.ref a1)] ?_ fun _ k_ => XT.iconstV X1.here hx rfl (0 : Int32) (hb hby d7_21) (by decide) k_
  refine Go.k 23 [(.ref a1), (.int (0 : Int32)), (.ref na1), (.int (0 : Int32)), (.ref a1)] ?_ fun _ k_ => XS.aloadN X1.here hx rfl (hb hby d7_22) rfl rfl k_
  refine Go.t T1 24 [(.int z), (.int (0 : Int32)), (.ref na1), (.int (0 : Int32)), (.ref a1)] ?_ (own_laN X1 hx hZ e1 (B1.ext E1) (g := (mkF m 23 #[(sR a1), (sI len), (sR na1)] [(.ref a1), (.int (0 : Int32)), (.ref na1), (.int (0 : Int32)), (.ref a1)])) rfl rfl (hb hby d7_23))
  refine Go.k 25 [(.int len), (.int z), (.int (0 : Int32)), (.ref na1), (.int (0 : Int32)), (.ref a1)] ?_ fun _ k_ => XS.iloadN X1.here hx rfl (hb hby d7_24) rfl k_
  refine Go.callS X1 hx hZ hown (wq hw 73 rfl) (wq hw 74 rfl) (wq hw 61 rfl) (wq hw 75 rfl) (by decide) (rmin l Z a0 hw [] z len  h1 n0 (Nat.le_trans Z0 E1.1) ) e1 (by decide) (W := 4) (by decide) (by decide) (by decide) (g := (mkF m 25 #[(sR a1), (sI len), (sR na1)] [(.int len), (.int z), (.int (0 : Int32)), (.ref na1), (.int (0 : Int32)), (.ref a1)])) (rest := [(.int (0 : Int32)), (.ref na1), (.int (0 : Int32)), (.ref a1)]) rfl (by rw [hml]; rfl) (lenOf pd__II_I rfl) rfl (by show 2 * 0 + _ ≤ _; exact Nat.le_of_eq rfl) (hb hby d7_25) ?_
  rintro v2 T2 L2 X2 ⟨rfl, N2, e2⟩
  have M2 := Fr.app N0 N2
  rw [show own_min z len  = z from by rw [own_min, if_neg ((own_i_nlt rfl rfl (by omega) : ¬ len < z) : ¬ len < z)]]
  show Go p e below _ T2 (mkF m 28 #[(sR a1), (sI len), (sR na1)] [(.int z), (.int (0 : Int32)), (.ref na1), (.int (0 : Int32)), (.ref a1)])
  obtain ⟨T3, h3, LL3, X3, e3, N3, K3, V3, st3⟩ := own_laC X2 hx hZ hown (wq hw 76 rfl) (wq hw 79 rfl) (wq hw 77 rfl) (wq hw 78 rfl) e2 (B1.ext E1) V1 (by simp only [Int32.toNatClampNeg]; omega) M2 G1 (g := (mkF m 28 #[(sR a1), (sI len), (sR na1)] [(.int z), (.int (0 : Int32)), (.ref na1), (.int (0 : Int32)), (.ref a1)])) rfl (by rw [hml]; rfl) rfl (hb hby d7_28) (by decide) (W := 0) (by show 2 * 0 + _ ≤ _; exact Nat.le_of_eq rfl) (by decide)
  refine Go.t T3 31 [] ?_ st3
  refine Go.k 32 [(.ref na1)] ?_ fun _ k_ => XS.aloadN X3.here hx rfl (hb hby d7_31) rfl rfl k_
  exact Go.retV (t := (.array .long)) X3 hx hret hlk (by decide) (by decide) rfl (Or.inr (Or.inr (Or.inr (Or.inr ⟨rfl, rfl, rfl⟩)))) (hb hby d7_32) (by rw [e3]; exact ⟨na1, rfl, N3, (show Keep h0 h3 [] from (((Keep.refl _ _).ext E1).trans K3 (allS (Or.inr H1) all0))), H1, (D1.keep K3), V3⟩)
set_option maxRecDepth 65536 in
set_option maxHeartbeats 40000000 in
theorem copy256 (l : Launch) (Z : State) (a0 : Array Value) (hw : ∀ d ∈ tables_1, d.before a0 Z = true) (ws : List Jvm.Cond) (a1 : Addr) (z len : Int32) (f : Nat → Int64) (h0 : Heap) (n0 : Nat) (Z0 : n0 ≤ h0.size) (B1 : LA Z h0 a1 z f) (q0 : 0 ≤ z.toInt) (q1 : z.toInt < len.toInt) (q2 : len.toInt ≤ 256) :
    Does l (⟨"java/util/Arrays", "copyOf", "([JI)[J"⟩ : MethodName) jdk_65_method_124_code 3 (some (.array .long)) ws ({ frames := 1, cells := 1, slots := 256, locals := 40 } : Room) #[(.ref a1), (.int len)] Z h0 (fun v h L => ∃ o, v = some (.ref o) ∧ Fr n0 L ∧ Keep h0 h [] ∧ h0.size ≤ o ∧ Exa Z h o "[J" ∧ LA Z h o len f) := by
  refine Does.of (plainFor_of_name pn_java_util_Arrays) ?_
  intro p e s m below meth c s₁ hx hby hml hret hlk hown0 hnm hZ X0 e0
  have hown : s.vm.findClass "java/util/Arrays" = some m.cls := hown0
  have N0 := Fr.nil n0
  refine Go.cast (g' := (mkF m 0 #[(sR a1), (sI len), .unset] [])) (by first | (simp [entryFrame, mkF, argsToLocals, Value.category, maxLocals, sI, sR, sJ]; done) | rfl) ?_
  refine Go.k 1 [(.int len)] ?_ fun _ k_ => XS.iloadN X0.here hx rfl (hb hby d7_0) rfl k_
  refine Go.k 2 [(.ref a1), (.int len)] ?_ fun _ k_ => XS.aloadN X0.here hx rfl (hb hby d7_1) rfl rfl k_
  refine Go.t s₁ 3 [(.int z), (.int len)] ?_ (own_laN X0 hx hZ e0 B1 (g := (mkF m 2 #[(sR a1), (sI len), .unset] [(.ref a1), (.int len)])) rfl rfl (hb hby d7_2))
  refine Go.k 14 [] ?_ fun _ k_ => XS.icmpYes X0.here hx rfl (pc0 := 3) (pc' := 14) rfl (hb hby d7_3) rfl (feq (own_i_neq rfl rfl (by omega) : ¬ len = z)).2 (by decide) (by decide) k_
  refine Go.k 15 [(.int len)] ?_ fun _ k_ => XS.iloadN X0.here hx rfl (hb hby d7_14) rfl k_
  obtain ⟨T1, h1, ka1, X1, e1, E1, A1, D1, st1⟩ := newPE X0 hx hZ (wq hw 12 rfl) e0 (g := (mkF m 15 #[(sR a1), (sI len), .unset] [(.int len)])) rfl (hb hby d7_15) rfl (own_i_nlt rfl (by decide : (0 : Int32).toInt = 0) (by omega)) (cap := 256) (by simp only [Int32.toNatClampNeg]; omega) (by decide) (by decide) (by decide) (ad := "[J") (by decide)
  obtain ⟨na1, g1⟩ : ∃ z, z = h0.size := ⟨_, rfl⟩
  rw [← g1] at A1 D1 st1
  have G1 : n0 ≤ na1 := Nat.le_trans Z0 (Nat.le_of_eq g1.symm)
  have H1 : h0.size ≤ na1 := Nat.le_trans (Nat.le_refl _) (Nat.le_of_eq g1.symm)
  have Q1_a1 : ¬ a1 = na1 := Nat.ne_of_lt (by rw [g1]; exact B1.lt)
  have V1 : Arv Z h1 na1 ka1 .long len [] (.long 0) := Arv.new A1 (own_i_nlt rfl (by decide : (0 : Int32).toInt = 0) (by omega))
  refine Go.t T1 17 [(.ref na1)] ?_ st1
  refine Go.s (g' := (mkF m 18 #[(sR a1), (sI len), (sR na1)] [])) ?_ fun _ k_ => XS.astoreN X1.here hx rfl (hb hby d7_17) rfl rfl (l' := #[(sR a1), (sI len), (sR na1)]) rfl k_
  refine Go.k 19 [(.ref a1)] ?_ fun _ k_ => XS.aloadN X1.here hx rfl (hb hby d7_18) rfl rfl k_
  refine Go.k 20 [(.int (0 : Int32)), (.ref a1)] ?_ fun _ k_ => XT.iconstV X1.here hx rfl (0 : Int32) (hb hby d7_19) (by decide) k_
  refine Go.k 21 [(.ref na1), (.int (0 : Int32)), (.ref a1)] ?_ fun _ k_ => XS.aloadN X1.here hx rfl (hb hby d7_20) rfl rfl k_
  refine Go.k 22 [(.int (0 : Int32)), (.ref na1), (.int (0 : Int32)), (.ref a1)] ?_ fun _ k_ => XT.iconstV X1.here hx rfl (0 : Int32) (hb hby d7_21) (by decide) k_
  refine Go.k 23 [(.ref a1), (.int (0 : Int32)), (.ref na1), (.int (0 : Int32)), (.ref a1)] ?_ fun _ k_ => XS.aloadN X1.here hx rfl (hb hby d7_22) rfl rfl k_
  refine Go.t T1 24 [(.int z), (.int (0 : Int32)), (.ref na1), (.int (0 : Int32)), (.ref a1)] ?_ (own_laN X1 hx hZ e1 (B1.ext E1) (g := (mkF m 23 #[(sR a1), (sI len), (sR na1)] [(.ref a1), (.int (0 : Int32)), (.ref na1), (.int (0 : Int32)), (.ref a1)])) rfl rfl (hb hby d7_23))
  refine Go.k 25 [(.int len), (.int z), (.int (0 : Int32)), (.ref na1), (.int (0 : Int32)), (.ref a1)] ?_ fun _ k_ => XS.iloadN X1.here hx rfl (hb hby d7_24) rfl k_
  refine Go.callS X1 hx hZ hown (wq hw 73 rfl) (wq hw 74 rfl) (wq hw 61 rfl) (wq hw 75 rfl) (by decide) (rmin l Z a0 hw [] z len  h1 n0 (Nat.le_trans Z0 E1.1) ) e1 (by decide) (W := 4) (by decide) (by decide) (by decide) (g := (mkF m 25 #[(sR a1), (sI len), (sR na1)] [(.int len), (.int z), (.int (0 : Int32)), (.ref na1), (.int (0 : Int32)), (.ref a1)])) (rest := [(.int (0 : Int32)), (.ref na1), (.int (0 : Int32)), (.ref a1)]) rfl (by rw [hml]; rfl) (lenOf pd__II_I rfl) rfl (by show 2 * 0 + _ ≤ _; exact Nat.le_of_eq rfl) (hb hby d7_25) ?_
  rintro v2 T2 L2 X2 ⟨rfl, N2, e2⟩
  have M2 := Fr.app N0 N2
  rw [show own_min z len  = z from by rw [own_min, if_neg ((own_i_nlt rfl rfl (by omega) : ¬ len < z) : ¬ len < z)]]
  show Go p e below _ T2 (mkF m 28 #[(sR a1), (sI len), (sR na1)] [(.int z), (.int (0 : Int32)), (.ref na1), (.int (0 : Int32)), (.ref a1)])
  obtain ⟨T3, h3, LL3, X3, e3, N3, K3, V3, st3⟩ := own_laC X2 hx hZ hown (wq hw 76 rfl) (wq hw 79 rfl) (wq hw 77 rfl) (wq hw 78 rfl) e2 (B1.ext E1) V1 (by simp only [Int32.toNatClampNeg]; omega) M2 G1 (g := (mkF m 28 #[(sR a1), (sI len), (sR na1)] [(.int z), (.int (0 : Int32)), (.ref na1), (.int (0 : Int32)), (.ref a1)])) rfl (by rw [hml]; rfl) rfl (hb hby d7_28) (by decide) (W := 0) (by show 2 * 0 + _ ≤ _; exact Nat.le_of_eq rfl) (by decide)
  refine Go.t T3 31 [] ?_ st3
  refine Go.k 32 [(.ref na1)] ?_ fun _ k_ => XS.aloadN X3.here hx rfl (hb hby d7_31) rfl rfl k_
  exact Go.retV (t := (.array .long)) X3 hx hret hlk (by decide) (by decide) rfl (Or.inr (Or.inr (Or.inr (Or.inr ⟨rfl, rfl, rfl⟩)))) (hb hby d7_32) (by rw [e3]; exact ⟨na1, rfl, N3, (show Keep h0 h3 [] from (((Keep.refl _ _).ext E1).trans K3 (allS (Or.inr H1) all0))), H1, (D1.keep K3), V3⟩)
set_option maxRecDepth 65536 in
set_option maxHeartbeats 40000000 in
theorem copy16384 (l : Launch) (Z : State) (a0 : Array Value) (hw : ∀ d ∈ tables_1, d.before a0 Z = true) (ws : List Jvm.Cond) (a1 : Addr) (z len : Int32) (f : Nat → Int64) (h0 : Heap) (n0 : Nat) (Z0 : n0 ≤ h0.size) (B1 : LA Z h0 a1 z f) (q0 : 0 ≤ z.toInt) (q1 : z.toInt < len.toInt) (q2 : len.toInt ≤ 16384) :
    Does l (⟨"java/util/Arrays", "copyOf", "([JI)[J"⟩ : MethodName) jdk_65_method_124_code 3 (some (.array .long)) ws ({ frames := 1, cells := 1, slots := 16384, locals := 40 } : Room) #[(.ref a1), (.int len)] Z h0 (fun v h L => ∃ o, v = some (.ref o) ∧ Fr n0 L ∧ Keep h0 h [] ∧ h0.size ≤ o ∧ Exa Z h o "[J" ∧ LA Z h o len f) := by
  refine Does.of (plainFor_of_name pn_java_util_Arrays) ?_
  intro p e s m below meth c s₁ hx hby hml hret hlk hown0 hnm hZ X0 e0
  have hown : s.vm.findClass "java/util/Arrays" = some m.cls := hown0
  have N0 := Fr.nil n0
  refine Go.cast (g' := (mkF m 0 #[(sR a1), (sI len), .unset] [])) (by first | (simp [entryFrame, mkF, argsToLocals, Value.category, maxLocals, sI, sR, sJ]; done) | rfl) ?_
  refine Go.k 1 [(.int len)] ?_ fun _ k_ => XS.iloadN X0.here hx rfl (hb hby d7_0) rfl k_
  refine Go.k 2 [(.ref a1), (.int len)] ?_ fun _ k_ => XS.aloadN X0.here hx rfl (hb hby d7_1) rfl rfl k_
  refine Go.t s₁ 3 [(.int z), (.int len)] ?_ (own_laN X0 hx hZ e0 B1 (g := (mkF m 2 #[(sR a1), (sI len), .unset] [(.ref a1), (.int len)])) rfl rfl (hb hby d7_2))
  refine Go.k 14 [] ?_ fun _ k_ => XS.icmpYes X0.here hx rfl (pc0 := 3) (pc' := 14) rfl (hb hby d7_3) rfl (feq (own_i_neq rfl rfl (by omega) : ¬ len = z)).2 (by decide) (by decide) k_
  refine Go.k 15 [(.int len)] ?_ fun _ k_ => XS.iloadN X0.here hx rfl (hb hby d7_14) rfl k_
  obtain ⟨T1, h1, ka1, X1, e1, E1, A1, D1, st1⟩ := newPE X0 hx hZ (wq hw 12 rfl) e0 (g := (mkF m 15 #[(sR a1), (sI len), .unset] [(.int len)])) rfl (hb hby d7_15) rfl (own_i_nlt rfl (by decide : (0 : Int32).toInt = 0) (by omega)) (cap := 16384) (by simp only [Int32.toNatClampNeg]; omega) (by decide) (by decide) (by decide) (ad := "[J") (by decide)
  obtain ⟨na1, g1⟩ : ∃ z, z = h0.size := ⟨_, rfl⟩
  rw [← g1] at A1 D1 st1
  have G1 : n0 ≤ na1 := Nat.le_trans Z0 (Nat.le_of_eq g1.symm)
  have H1 : h0.size ≤ na1 := Nat.le_trans (Nat.le_refl _) (Nat.le_of_eq g1.symm)
  have Q1_a1 : ¬ a1 = na1 := Nat.ne_of_lt (by rw [g1]; exact B1.lt)
  have V1 : Arv Z h1 na1 ka1 .long len [] (.long 0) := Arv.new A1 (own_i_nlt rfl (by decide : (0 : Int32).toInt = 0) (by omega))
  refine Go.t T1 17 [(.ref na1)] ?_ st1
  refine Go.s (g' := (mkF m 18 #[(sR a1), (sI len), (sR na1)] [])) ?_ fun _ k_ => XS.astoreN X1.here hx rfl (hb hby d7_17) rfl rfl (l' := #[(sR a1), (sI len), (sR na1)]) rfl k_
  refine Go.k 19 [(.ref a1)] ?_ fun _ k_ => XS.aloadN X1.here hx rfl (hb hby d7_18) rfl rfl k_
  refine Go.k 20 [(.int (0 : Int32)), (.ref a1)] ?_ fun _ k_ => XT.iconstV X1.here hx rfl (0 : Int32) (hb hby d7_19) (by decide) k_
  refine Go.k 21 [(.ref na1), (.int (0 : Int32)), (.ref a1)] ?_ fun _ k_ => XS.aloadN X1.here hx rfl (hb hby d7_20) rfl rfl k_
  refine Go.k 22 [(.int (0 : Int32)), (.ref na1), (.int (0 : Int32)), (.ref a1)] ?_ fun _ k_ => XT.iconstV X1.here hx rfl (0 : Int32) (hb hby d7_21) (by decide) k_
  refine Go.k 23 [(.ref a1), (.int (0 : Int32)), (.ref na1), (.int (0 : Int32)), (.ref a1)] ?_ fun _ k_ => XS.aloadN X1.here hx rfl (hb hby d7_22) rfl rfl k_
  refine Go.t T1 24 [(.int z), (.int (0 : Int32)), (.ref na1), (.int (0 : Int32)), (.ref a1)] ?_ (own_laN X1 hx hZ e1 (B1.ext E1) (g := (mkF m 23 #[(sR a1), (sI len), (sR na1)] [(.ref a1), (.int (0 : Int32)), (.ref na1), (.int (0 : Int32)), (.ref a1)])) rfl rfl (hb hby d7_23))
  refine Go.k 25 [(.int len), (.int z), (.int (0 : Int32)), (.ref na1), (.int (0 : Int32)), (.ref a1)] ?_ fun _ k_ => XS.iloadN X1.here hx rfl (hb hby d7_24) rfl k_
  refine Go.callS X1 hx hZ hown (wq hw 73 rfl) (wq hw 74 rfl) (wq hw 61 rfl) (wq hw 75 rfl) (by decide) (rmin l Z a0 hw [] z len  h1 n0 (Nat.le_trans Z0 E1.1) ) e1 (by decide) (W := 4) (by decide) (by decide) (by decide) (g := (mkF m 25 #[(sR a1), (sI len), (sR na1)] [(.int len), (.int z), (.int (0 : Int32)), (.ref na1), (.int (0 : Int32)), (.ref a1)])) (rest := [(.int (0 : Int32)), (.ref na1), (.int (0 : Int32)), (.ref a1)]) rfl (by rw [hml]; rfl) (lenOf pd__II_I rfl) rfl (by show 2 * 0 + _ ≤ _; exact Nat.le_of_eq rfl) (hb hby d7_25) ?_
  rintro v2 T2 L2 X2 ⟨rfl, N2, e2⟩
  have M2 := Fr.app N0 N2
  rw [show own_min z len  = z from by rw [own_min, if_neg ((own_i_nlt rfl rfl (by omega) : ¬ len < z) : ¬ len < z)]]
  show Go p e below _ T2 (mkF m 28 #[(sR a1), (sI len), (sR na1)] [(.int z), (.int (0 : Int32)), (.ref na1), (.int (0 : Int32)), (.ref a1)])
  obtain ⟨T3, h3, LL3, X3, e3, N3, K3, V3, st3⟩ := own_laC X2 hx hZ hown (wq hw 76 rfl) (wq hw 79 rfl) (wq hw 77 rfl) (wq hw 78 rfl) e2 (B1.ext E1) V1 (by simp only [Int32.toNatClampNeg]; omega) M2 G1 (g := (mkF m 28 #[(sR a1), (sI len), (sR na1)] [(.int z), (.int (0 : Int32)), (.ref na1), (.int (0 : Int32)), (.ref a1)])) rfl (by rw [hml]; rfl) rfl (hb hby d7_28) (by decide) (W := 0) (by show 2 * 0 + _ ≤ _; exact Nat.le_of_eq rfl) (by decide)
  refine Go.t T3 31 [] ?_ st3
  refine Go.k 32 [(.ref na1)] ?_ fun _ k_ => XS.aloadN X3.here hx rfl (hb hby d7_31) rfl rfl k_
  exact Go.retV (t := (.array .long)) X3 hx hret hlk (by decide) (by decide) rfl (Or.inr (Or.inr (Or.inr (Or.inr ⟨rfl, rfl, rfl⟩)))) (hb hby d7_32) (by rw [e3]; exact ⟨na1, rfl, N3, (show Keep h0 h3 [] from (((Keep.refl _ _).ext E1).trans K3 (allS (Or.inr H1) all0))), H1, (D1.keep K3), V3⟩)
theorem d11_30 : decode prog_59_method_11_code 30 = .ok (.iload_n 3, 1) := by decide +kernel
theorem d11_31 : decode prog_59_method_11_code 31 = .ok (.iconst 5, 1) := by decide +kernel
theorem d11_32 : decode prog_59_method_11_code 32 = .ok (.if_icmp .ge 44, 3) := by decide +kernel
theorem d11_76 : decode prog_59_method_11_code 76 = .ok (.return_, 1) := by decide +kernel
theorem d11_35 : decode prog_59_method_11_code 35 = .ok (.aload_n 0, 1) := by decide +kernel
theorem d11_36 : decode prog_59_method_11_code 36 = .ok (.getfield 11, 3) := by decide +kernel
theorem d11_39 : decode prog_59_method_11_code 39 = .ok (.iload_n 3, 1) := by decide +kernel
theorem d11_40 : decode prog_59_method_11_code 40 = .ok (.aaload, 1) := by decide +kernel
theorem d11_41 : decode prog_59_method_11_code 41 = .ok (.arraylength, 1) := by decide +kernel
theorem d11_42 : decode prog_59_method_11_code 42 = .ok (.iload_n 2, 1) := by decide +kernel
theorem d11_43 : decode prog_59_method_11_code 43 = .ok (.if_icmp .ge 19, 3) := by decide +kernel
theorem d11_62 : decode prog_59_method_11_code 62 = .ok (.iload_n 2, 1) := by decide +kernel
theorem d11_63 : decode prog_59_method_11_code 63 = .ok (.bipush 63, 2) := by decide +kernel
theorem d11_65 : decode prog_59_method_11_code 65 = .ok (.iadd, 1) := by decide +kernel
theorem d11_66 : decode prog_59_method_11_code 66 = .ok (.bipush 6, 2) := by decide +kernel
theorem d11_68 : decode prog_59_method_11_code 68 = .ok (.iushr, 1) := by decide +kernel
theorem d11_69 : decode prog_59_method_11_code 69 = .ok (.istore_n 2, 1) := by decide +kernel
theorem d11_70 : decode prog_59_method_11_code 70 = .ok (.iinc 3 1, 3) := by decide +kernel
theorem d11_73 : decode prog_59_method_11_code 73 = .ok (.goto (-43), 3) := by decide +kernel
theorem d11_46 : decode prog_59_method_11_code 46 = .ok (.aload_n 0, 1) := by decide +kernel
theorem d11_47 : decode prog_59_method_11_code 47 = .ok (.getfield 11, 3) := by decide +kernel
theorem d11_50 : decode prog_59_method_11_code 50 = .ok (.iload_n 3, 1) := by decide +kernel
theorem d11_51 : decode prog_59_method_11_code 51 = .ok (.aload_n 0, 1) := by decide +kernel
theorem d11_52 : decode prog_59_method_11_code 52 = .ok (.getfield 11, 3) := by decide +kernel
theorem d11_55 : decode prog_59_method_11_code 55 = .ok (.iload_n 3, 1) := by decide +kernel
theorem d11_56 : decode prog_59_method_11_code 56 = .ok (.aaload, 1) := by decide +kernel
theorem d11_57 : decode prog_59_method_11_code 57 = .ok (.iload_n 2, 1) := by decide +kernel
theorem d11_58 : decode prog_59_method_11_code 58 = .ok (.invokestatic 47, 3) := by decide +kernel
theorem pd___JI__J : parseMethodDescriptor "([JI)[J" = some ⟨[(.array .long), .int], some (.array .long)⟩ := by decide +kernel
theorem d11_61 : decode prog_59_method_11_code 61 = .ok (.aastore, 1) := by decide +kernel
theorem d11_0 : decode prog_59_method_11_code 0 = .ok (.iload_n 1, 1) := by decide +kernel
theorem d11_1 : decode prog_59_method_11_code 1 = .ok (.aload_n 0, 1) := by decide +kernel
theorem d11_2 : decode prog_59_method_11_code 2 = .ok (.getfield 11, 3) := by decide +kernel
theorem d11_5 : decode prog_59_method_11_code 5 = .ok (.iconst 0, 1) := by decide +kernel
theorem d11_6 : decode prog_59_method_11_code 6 = .ok (.aaload, 1) := by decide +kernel
theorem d11_7 : decode prog_59_method_11_code 7 = .ok (.arraylength, 1) := by decide +kernel
theorem d11_8 : decode prog_59_method_11_code 8 = .ok (.if_icmp .ge 4, 3) := by decide +kernel
theorem d11_11 : decode prog_59_method_11_code 11 = .ok (.return_, 1) := by decide +kernel
theorem d11_12 : decode prog_59_method_11_code 12 = .ok (.iload_n 1, 1) := by decide +kernel
theorem d11_13 : decode prog_59_method_11_code 13 = .ok (.iconst 1, 1) := by decide +kernel
theorem d11_14 : decode prog_59_method_11_code 14 = .ok (.iadd, 1) := by decide +kernel
theorem d11_15 : decode prog_59_method_11_code 15 = .ok (.iconst 2, 1) := by decide +kernel
theorem d11_16 : decode prog_59_method_11_code 16 = .ok (.aload_n 0, 1) := by decide +kernel
theorem d11_17 : decode prog_59_method_11_code 17 = .ok (.getfield 11, 3) := by decide +kernel
theorem d11_20 : decode prog_59_method_11_code 20 = .ok (.iconst 0, 1) := by decide +kernel
theorem d11_21 : decode prog_59_method_11_code 21 = .ok (.aaload, 1) := by decide +kernel
theorem d11_22 : decode prog_59_method_11_code 22 = .ok (.arraylength, 1) := by decide +kernel
theorem d11_23 : decode prog_59_method_11_code 23 = .ok (.imul, 1) := by decide +kernel
theorem d11_24 : decode prog_59_method_11_code 24 = .ok (.invokestatic 41, 3) := by decide +kernel
theorem d11_27 : decode prog_59_method_11_code 27 = .ok (.istore_n 2, 1) := by decide +kernel
theorem d11_28 : decode prog_59_method_11_code 28 = .ok (.iconst 0, 1) := by decide +kernel
theorem d11_29 : decode prog_59_method_11_code 29 = .ok (.istore_n 3, 1) := by decide +kernel
theorem pn_com_example_slantwise_slantwise_engine_WordIndex : plainName "com/example/slantwise/slantwise/engine/WordIndex" = true := by first | (simp [plainName, overriddenIn]; done) | decide +kernel
set_option maxRecDepth 65536 in
set_option maxHeartbeats 40000000 in
theorem res (l : Launch) (Z : State) (a0 : Array Value) (hw : ∀ d ∈ tables_1, d.before a0 Z = true) (ws : List Jvm.Cond) (w lv : Addr) (kL : ClassId) (x0 x1 x2 x3 x4 : Addr) (z0 z1 z2 z3 z4 : Int32) (f0 f1 f2 f3 f4 : Nat → Int64) (bl : Int32) (h0 : Heap) (n0 : Nat) (Z0 : n0 ≤ h0.size) (HW : own_WI Z h0 n0 w lv kL x0 x1 x2 x3 x4 z0 z1 z2 z3 z4 f0 f1 f2 f3 f4) (HC : own_Ch z0 z1 z2 z3 z4) (b0 : 0 ≤ bl.toInt) (b1 : bl.toInt ≤ 8191) :
    Does l (⟨"com/example/slantwise/slantwise/engine/WordIndex", "reserve", "(I)V"⟩ : MethodName) prog_59_method_11_code 4 none ws ({ frames := 2, cells := 3, slots := 16644, locals := 60 } : Room) #[(.ref w), (.int bl)] Z h0 (fun v h L => v = none ∧ Fr n0 L ∧ h0.size ≤ h.size ∧ ∃ y0 y1 y2 y3 y4 u0 u1 u2 u3 u4, own_WI Z h n0 w lv kL y0 y1 y2 y3 y4 u0 u1 u2 u3 u4 f0 f1 f2 f3 f4 ∧ own_Ch u0 u1 u2 u3 u4 ∧ bl.toInt < u0.toInt) := by
  refine Does.of (plainFor_of_name pn_com_example_slantwise_slantwise_engine_WordIndex) ?_
  intro p e s m below meth c s₁ hx hby hml hret hlk hown0 hnm hZ X0 e0
  have hown : s.vm.findClass "com/example/slantwise/slantwise/engine/WordIndex" = some m.cls := hown0
  have N0 := Fr.nil n0
  have HW0 := HW
  obtain ⟨c0a, c0b, c1a, c1b, c2a, c2b, c3a, c3b, c4a, c4b, d0, d1, d2, d3⟩ := HC
  have tail5 : ∀ (T : State) (h : Heap) (Lc : List Loc) (y0 y1 y2 y3 y4 : Addr) (u0 u1 u2 u3 u4 len : Int32), Stand p l e ({ frames := 2, cells := 3, slots := 16644, locals := 60 } : Room) s m #[(.ref w), (.int bl)] below meth c T Lc 3 16644 → T.heap = h → Fr n0 Lc → h0.size ≤ h.size → own_WI Z h n0 w lv kL y0 y1 y2 y3 y4 u0 u1 u2 u3 u4 f0 f1 f2 f3 f4 → (1 ≤ u0.toInt ∧ u0.toInt ≤ 16384 ∧ 1 ≤ u1.toInt ∧ u1.toInt ≤ 256 ∧ 1 ≤ u2.toInt ∧ u2.toInt ≤ 4 ∧ 1 ≤ u3.toInt ∧ u3.toInt ≤ 1 ∧ 1 ≤ u4.toInt ∧ u4.toInt ≤ 1 ∧ u0.toInt ≤ 64 * u1.toInt ∧ u1.toInt ≤ 64 * u2.toInt ∧ u2.toInt ≤ 64 * u3.toInt ∧ u3.toInt ≤ 64 * u4.toInt ∧ bl.toInt < u0.toInt) → Go p e below (EndP below s (fun v h L => v = none ∧ Fr n0 L ∧ h0.size ≤ h.size ∧ ∃ y0 y1 y2 y3 y4 u0 u1 u2 u3 u4, own_WI Z h n0 w lv kL y0 y1 y2 y3 y4 u0 u1 u2 u3 u4 f0 f1 f2 f3 f4 ∧ own_Ch u0 u1 u2 u3 u4 ∧ bl.toInt < u0.toInt) ({ frames := 2, cells := 3, slots := 16644, locals := 60 } : Room).cells ({ frames := 2, cells := 3, slots := 16644, locals := 60 } : Room).slots) T (mkF m 30 #[(sR w), (sI bl), (sI len), (sI (5 : Int32))] []) := by
    intro T h Lc y0 y1 y2 y3 y4 u0 u1 u2 u3 u4 len X1 eT NL hsz HWk hk
    obtain ⟨WE, WF, WA, WO, B0, B1, B2, B3, B4, gl, g0, g1, g2, g3, g4, ne_w_lv, ne_w_x0, ne_w_x1, ne_w_x2, ne_w_x3, ne_w_x4, ne_lv_x0, ne_lv_x1, ne_lv_x2, ne_lv_x3, ne_lv_x4, ne_x0_x1, ne_x0_x2, ne_x0_x3, ne_x0_x4, ne_x1_x2, ne_x1_x3, ne_x1_x4, ne_x2_x3, ne_x2_x4, ne_x3_x4⟩ := HWk
    refine Go.k 31 [(.int (5 : Int32))] ?_ fun _ k_ => XS.iloadN X1.here hx rfl (hb hby d11_30) rfl k_
    refine Go.k 32 [(.int (5 : Int32)), (.int (5 : Int32))] ?_ fun _ k_ => XT.iconstV X1.here hx rfl (5 : Int32) (hb hby d11_31) (by decide) k_
    refine Go.k 76 [] ?_ fun _ k_ => XS.icmpYes X1.here hx rfl (pc0 := 32) (pc' := 76) rfl (hb hby d11_32) rfl (by decide) (by decide) (by decide) k_
    exact Go.retU X1 hx hret hlk (by decide) (by decide) (hb hby d11_76) (by rw [eT]; exact ⟨rfl, NL, hsz, y0, y1, y2, y3, y4, u0, u1, u2, u3, u4, ⟨WE, WF, WA, WO, B0, B1, B2, B3, B4, gl, g0, g1, g2, g3, g4, ne_w_lv, ne_w_x0, ne_w_x1, ne_w_x2, ne_w_x3, ne_w_x4, ne_lv_x0, ne_lv_x1, ne_lv_x2, ne_lv_x3, ne_lv_x4, ne_x0_x1, ne_x0_x2, ne_x0_x3, ne_x0_x4, ne_x1_x2, ne_x1_x3, ne_x1_x4, ne_x2_x3, ne_x2_x4, ne_x3_x4⟩, ⟨by omega, by omega, by omega, by omega, by omega, by omega, by omega, by omega, by omega, by omega, by omega, by omega, by omega, by omega⟩, (by omega)⟩)
  have tail4 : ∀ (T : State) (h : Heap) (Lc : List Loc) (y0 y1 y2 y3 y4 : Addr) (u0 u1 u2 u3 u4 len : Int32), Stand p l e ({ frames := 2, cells := 3, slots := 16644, locals := 60 } : Room) s m #[(.ref w), (.int bl)] below meth c T Lc 3 16644 → T.heap = h → Fr n0 Lc → h0.size ≤ h.size → own_WI Z h n0 w lv kL y0 y1 y2 y3 y4 u0 u1 u2 u3 u4 f0 f1 f2 f3 f4 → (1 ≤ u0.toInt ∧ u0.toInt ≤ 16384 ∧ 1 ≤ u1.toInt ∧ u1.toInt ≤ 256 ∧ 1 ≤ u2.toInt ∧ u2.toInt ≤ 4 ∧ 1 ≤ u3.toInt ∧ u3.toInt ≤ 1 ∧ 1 ≤ u4.toInt ∧ u4.toInt ≤ 1 ∧ u0.toInt ≤ 64 * u1.toInt ∧ u1.toInt ≤ 64 * u2.toInt ∧ u2.toInt ≤ 64 * u3.toInt ∧ (u3.toInt ≤ 64 * u4.toInt ∨ u3.toInt ≤ 64 * len.toInt) ∧ bl.toInt < u0.toInt ∧ 1 ≤ len.toInt ∧ len.toInt ≤ 1) → Go p e below (EndP below s (fun v h L => v = none ∧ Fr n0 L ∧ h0.size ≤ h.size ∧ ∃ y0 y1 y2 y3 y4 u0 u1 u2 u3 u4, own_WI Z h n0 w lv kL y0 y1 y2 y3 y4 u0 u1 u2 u3 u4 f0 f1 f2 f3 f4 ∧ own_Ch u0 u1 u2 u3 u4 ∧ bl.toInt < u0.toInt) ({ frames := 2, cells := 3, slots := 16644, locals := 60 } : Room).cells ({ frames := 2, cells := 3, slots := 16644, locals := 60 } : Room).slots) T (mkF m 30 #[(sR w), (sI bl), (sI len), (sI (4 : Int32))] []) := by
    intro T h Lc y0 y1 y2 y3 y4 u0 u1 u2 u3 u4 len X1 eT NL hsz HWk hk
    obtain ⟨WE, WF, WA, WO, B0, B1, B2, B3, B4, gl, g0, g1, g2, g3, g4, ne_w_lv, ne_w_x0, ne_w_x1, ne_w_x2, ne_w_x3, ne_w_x4, ne_lv_x0, ne_lv_x1, ne_lv_x2, ne_lv_x3, ne_lv_x4, ne_x0_x1, ne_x0_x2, ne_x0_x3, ne_x0_x4, ne_x1_x2, ne_x1_x3, ne_x1_x4, ne_x2_x3, ne_x2_x4, ne_x3_x4⟩ := HWk
    refine Go.k 31 [(.int (4 : Int32))] ?_ fun _ k_ => XS.iloadN X1.here hx rfl (hb hby d11_30) rfl k_
    refine Go.k 32 [(.int (5 : Int32)), (.int (4 : Int32))] ?_ fun _ k_ => XT.iconstV X1.here hx rfl (5 : Int32) (hb hby d11_31) (by decide) k_
    refine Go.k 35 [] ?_ fun _ k_ => XS.icmpNo X1.here hx rfl (hb hby d11_32) rfl (by decide) k_
    refine Go.k 36 [(.ref w)] ?_ fun _ k_ => XS.aloadN X1.here hx rfl (hb hby d11_35) rfl rfl k_
    obtain ⟨T1, X1, e1, st1⟩ := getF X1 hx hZ hown (host := "") (Or.inl (wq hw 13 rfl)) Via.refl eT WF (g := (mkF m 36 #[(sR w), (sI bl), (sI len), (sI (4 : Int32))] [(.ref w)])) rfl rfl (hb hby d11_36)
    refine Go.t T1 39 [(.ref lv)] ?_ st1
    refine Go.k 40 [(.int (4 : Int32)), (.ref lv)] ?_ fun _ k_ => XS.iloadN X1.here hx rfl (hb hby d11_39) rfl k_
    refine Go.t T1 41 [(.ref y4)] ?_ (own_aaload X1 hx hZ e1 WA rfl (by decide) (by rw [show (4 : Int32).toNatClampNeg = 4 from by decide]; rfl) (g := (mkF m 40 #[(sR w), (sI bl), (sI len), (sI (4 : Int32))] [(.int (4 : Int32)), (.ref lv)])) rfl rfl (hb hby d11_40))
    refine Go.t T1 42 [(.int u4)] ?_ (own_laN X1 hx hZ e1 B4 (g := (mkF m 41 #[(sR w), (sI bl), (sI len), (sI (4 : Int32))] [(.ref y4)])) rfl rfl (hb hby d11_41))
    refine Go.k 43 [(.int len), (.int u4)] ?_ fun _ k_ => XS.iloadN X1.here hx rfl (hb hby d11_42) rfl k_
    refine Go.k 62 [] ?_ fun _ k_ => XS.icmpYes X1.here hx rfl (pc0 := 43) (pc' := 62) rfl (hb hby d11_43) rfl (flt ((own_i_nlt rfl rfl (by omega) : ¬ u4 < len) : ¬ u4 < len)).2.1 (by decide) (by decide) k_
    have hup : ¬ u4.toInt < len.toInt := fun q_ => (own_i_nlt rfl rfl (by omega) : ¬ u4 < len) (Int32.lt_iff_toInt_lt.mpr q_)
    refine Go.k 63 [(.int len)] ?_ fun _ k_ => XS.iloadN X1.here hx rfl (hb hby d11_62) rfl k_
    refine Go.k 65 [(.int (63 : Int32)), (.int len)] ?_ fun _ k_ => XT.bipushV X1.here hx rfl (63 : Int32) (hb hby d11_63) (by decide) k_
    refine Go.k 66 [(.int (len + (63 : Int32)))] ?_ fun _ k_ => XS.iadd X1.here hx rfl (hb hby d11_65) rfl k_
    refine Go.k 68 [(.int (6 : Int32)), (.int (len + (63 : Int32)))] ?_ fun _ k_ => XT.bipushV X1.here hx rfl (6 : Int32) (hb hby d11_66) (by decide) k_
    refine Go.k 69 [(.int (XT.ushr (len + (63 : Int32)) (6 : Int32)))] ?_ fun _ k_ => XT.iushr X1.here hx rfl (hb hby d11_68) rfl k_
    have l1 := c_iadd len 63
    have l2 : (63 : Int32).toInt = 63 := by decide
    obtain ⟨r1, r2⟩ := rng32 (len + 63)
    have l3 := own_ushr6 (len + 63) (by omega)
    obtain ⟨ln, eln⟩ : ∃ q_ : Int32, q_ = XT.ushr (len + 63) 6 := ⟨_, rfl⟩
    rw [← eln] at l3 ⊢
    refine Go.s (g' := (mkF m 70 #[(sR w), (sI bl), (sI ln), (sI (4 : Int32))] [])) ?_ fun _ k_ => XS.istoreN X1.here hx rfl (hb hby d11_69) rfl (l' := #[(sR w), (sI bl), (sI ln), (sI (4 : Int32))]) rfl k_
    refine Go.s (g' := (mkF m 73 #[(sR w), (sI bl), (sI ln), (sI (5 : Int32))] [])) ?_ fun _ k_ => XT.iincV X1.here hx rfl (1 : Int32) (hb hby d11_70) (by decide) rfl (l' := #[(sR w), (sI bl), (sI ln), (sI (5 : Int32))]) rfl k_
    refine Go.k 30 [] ?_ fun _ k_ => XS.goto X1.here hx rfl (pc0 := 73) (pc' := 30) rfl (hb hby d11_73) (by decide) (by decide) k_
    exact tail5 T1 h _ y0 y1 y2 y3 y4 u0 u1 u2 u3 u4 ln (X1.more (by decide) (by decide)) e1 NL hsz ⟨WE, WF, WA, WO, B0, B1, B2, B3, B4, gl, g0, g1, g2, g3, g4, ne_w_lv, ne_w_x0, ne_w_x1, ne_w_x2, ne_w_x3, ne_w_x4, ne_lv_x0, ne_lv_x1, ne_lv_x2, ne_lv_x3, ne_lv_x4, ne_x0_x1, ne_x0_x2, ne_x0_x3, ne_x0_x4, ne_x1_x2, ne_x1_x3, ne_x1_x4, ne_x2_x3, ne_x2_x4, ne_x3_x4⟩ (by omega)
  have tail3 : ∀ (T : State) (h : Heap) (Lc : List Loc) (y0 y1 y2 y3 y4 : Addr) (u0 u1 u2 u3 u4 len : Int32), Stand p l e ({ frames := 2, cells := 3, slots := 16644, locals := 60 } : Room) s m #[(.ref w), (.int bl)] below meth c T Lc 3 16644 → T.heap = h → Fr n0 Lc → h0.size ≤ h.size → own_WI Z h n0 w lv kL y0 y1 y2 y3 y4 u0 u1 u2 u3 u4 f0 f1 f2 f3 f4 → (1 ≤ u0.toInt ∧ u0.toInt ≤ 16384 ∧ 1 ≤ u1.toInt ∧ u1.toInt ≤ 256 ∧ 1 ≤ u2.toInt ∧ u2.toInt ≤ 4 ∧ 1 ≤ u3.toInt ∧ u3.toInt ≤ 1 ∧ 1 ≤ u4.toInt ∧ u4.toInt ≤ 1 ∧ u0.toInt ≤ 64 * u1.toInt ∧ u1.toInt ≤ 64 * u2.toInt ∧ u3.toInt ≤ 64 * u4.toInt ∧ (u2.toInt ≤ 64 * u3.toInt ∨ u2.toInt ≤ 64 * len.toInt) ∧ bl.toInt < u0.toInt ∧ 1 ≤ len.toInt ∧ len.toInt ≤ 1) → Go p e below (EndP below s (fun v h L => v = none ∧ Fr n0 L ∧ h0.size ≤ h.size ∧ ∃ y0 y1 y2 y3 y4 u0 u1 u2 u3 u4, own_WI Z h n0 w lv kL y0 y1 y2 y3 y4 u0 u1 u2 u3 u4 f0 f1 f2 f3 f4 ∧ own_Ch u0 u1 u2 u3 u4 ∧ bl.toInt < u0.toInt) ({ frames := 2, cells := 3, slots := 16644, locals := 60 } : Room).cells ({ frames := 2, cells := 3, slots := 16644, locals := 60 } : Room).slots) T (mkF m 30 #[(sR w), (sI bl), (sI len), (sI (3 : Int32))] []) := by
    intro T h Lc y0 y1 y2 y3 y4 u0 u1 u2 u3 u4 len X1 eT NL hsz HWk hk
    obtain ⟨WE, WF, WA, WO, B0, B1, B2, B3, B4, gl, g0, g1, g2, g3, g4, ne_w_lv, ne_w_x0, ne_w_x1, ne_w_x2, ne_w_x3, ne_w_x4, ne_lv_x0, ne_lv_x1, ne_lv_x2, ne_lv_x3, ne_lv_x4, ne_x0_x1, ne_x0_x2, ne_x0_x3, ne_x0_x4, ne_x1_x2, ne_x1_x3, ne_x1_x4, ne_x2_x3, ne_x2_x4, ne_x3_x4⟩ := HWk
    refine Go.k 31 [(.int (3 : Int32))] ?_ fun _ k_ => XS.iloadN X1.here hx rfl (hb hby d11_30) rfl k_
    refine Go.k 32 [(.int (5 : Int32)), (.int (3 : Int32))] ?_ fun _ k_ => XT.iconstV X1.here hx rfl (5 : Int32) (hb hby d11_31) (by decide) k_
    refine Go.k 35 [] ?_ fun _ k_ => XS.icmpNo X1.here hx rfl (hb hby d11_32) rfl (by decide) k_
    refine Go.k 36 [(.ref w)] ?_ fun _ k_ => XS.aloadN X1.here hx rfl (hb hby d11_35) rfl rfl k_
    obtain ⟨T2, X2, e2, st2⟩ := getF X1 hx hZ hown (host := "") (Or.inl (wq hw 13 rfl)) Via.refl eT WF (g := (mkF m 36 #[(sR w), (sI bl), (sI len), (sI (3 : Int32))] [(.ref w)])) rfl rfl (hb hby d11_36)
    refine Go.t T2 39 [(.ref lv)] ?_ st2
    refine Go.k 40 [(.int (3 : Int32)), (.ref lv)] ?_ fun _ k_ => XS.iloadN X2.here hx rfl (hb hby d11_39) rfl k_
    refine Go.t T2 41 [(.ref y3)] ?_ (own_aaload X2 hx hZ e2 WA rfl (by decide) (by rw [show (3 : Int32).toNatClampNeg = 3 from by decide]; rfl) (g := (mkF m 40 #[(sR w), (sI bl), (sI len), (sI (3 : Int32))] [(.int (3 : Int32)), (.ref lv)])) rfl rfl (hb hby d11_40))
    refine Go.t T2 42 [(.int u3)] ?_ (own_laN X2 hx hZ e2 B3 (g := (mkF m 41 #[(sR w), (sI bl), (sI len), (sI (3 : Int32))] [(.ref y3)])) rfl rfl (hb hby d11_41))
    refine Go.k 43 [(.int len), (.int u3)] ?_ fun _ k_ => XS.iloadN X2.here hx rfl (hb hby d11_42) rfl k_
    refine Go.k 62 [] ?_ fun _ k_ => XS.icmpYes X2.here hx rfl (pc0 := 43) (pc' := 62) rfl (hb hby d11_43) rfl (flt ((own_i_nlt rfl rfl (by omega) : ¬ u3 < len) : ¬ u3 < len)).2.1 (by decide) (by decide) k_
    have hup : ¬ u3.toInt < len.toInt := fun q_ => (own_i_nlt rfl rfl (by omega) : ¬ u3 < len) (Int32.lt_iff_toInt_lt.mpr q_)
    refine Go.k 63 [(.int len)] ?_ fun _ k_ => XS.iloadN X2.here hx rfl (hb hby d11_62) rfl k_
    refine Go.k 65 [(.int (63 : Int32)), (.int len)] ?_ fun _ k_ => XT.bipushV X2.here hx rfl (63 : Int32) (hb hby d11_63) (by decide) k_
    refine Go.k 66 [(.int (len + (63 : Int32)))] ?_ fun _ k_ => XS.iadd X2.here hx rfl (hb hby d11_65) rfl k_
    refine Go.k 68 [(.int (6 : Int32)), (.int (len + (63 : Int32)))] ?_ fun _ k_ => XT.bipushV X2.here hx rfl (6 : Int32) (hb hby d11_66) (by decide) k_
    refine Go.k 69 [(.int (XT.ushr (len + (63 : Int32)) (6 : Int32)))] ?_ fun _ k_ => XT.iushr X2.here hx rfl (hb hby d11_68) rfl k_
    have l1 := c_iadd len 63
    have l2 : (63 : Int32).toInt = 63 := by decide
    obtain ⟨r1, r2⟩ := rng32 (len + 63)
    have l3 := own_ushr6 (len + 63) (by omega)
    obtain ⟨ln, eln⟩ : ∃ q_ : Int32, q_ = XT.ushr (len + 63) 6 := ⟨_, rfl⟩
    rw [← eln] at l3 ⊢
    refine Go.s (g' := (mkF m 70 #[(sR w), (sI bl), (sI ln), (sI (3 : Int32))] [])) ?_ fun _ k_ => XS.istoreN X2.here hx rfl (hb hby d11_69) rfl (l' := #[(sR w), (sI bl), (sI ln), (sI (3 : Int32))]) rfl k_
    refine Go.s (g' := (mkF m 73 #[(sR w), (sI bl), (sI ln), (sI (4 : Int32))] [])) ?_ fun _ k_ => XT.iincV X2.here hx rfl (1 : Int32) (hb hby d11_70) (by decide) rfl (l' := #[(sR w), (sI bl), (sI ln), (sI (4 : Int32))]) rfl k_
    refine Go.k 30 [] ?_ fun _ k_ => XS.goto X2.here hx rfl (pc0 := 73) (pc' := 30) rfl (hb hby d11_73) (by decide) (by decide) k_
    exact tail4 T2 h _ y0 y1 y2 y3 y4 u0 u1 u2 u3 u4 ln (X2.more (by decide) (by decide)) e2 NL hsz ⟨WE, WF, WA, WO, B0, B1, B2, B3, B4, gl, g0, g1, g2, g3, g4, ne_w_lv, ne_w_x0, ne_w_x1, ne_w_x2, ne_w_x3, ne_w_x4, ne_lv_x0, ne_lv_x1, ne_lv_x2, ne_lv_x3, ne_lv_x4, ne_x0_x1, ne_x0_x2, ne_x0_x3, ne_x0_x4, ne_x1_x2, ne_x1_x3, ne_x1_x4, ne_x2_x3, ne_x2_x4, ne_x3_x4⟩ (by omega)
  have tail2 : ∀ (T : State) (h : Heap) (Lc : List Loc) (y0 y1 y2 y3 y4 : Addr) (u0 u1 u2 u3 u4 len : Int32), Stand p l e ({ frames := 2, cells := 3, slots := 16644, locals := 60 } : Room) s m #[(.ref w), (.int bl)] below meth c T Lc 2 16640 → T.heap = h → Fr n0 Lc → h0.size ≤ h.size → own_WI Z h n0 w lv kL y0 y1 y2 y3 y4 u0 u1 u2 u3 u4 f0 f1 f2 f3 f4 → (1 ≤ u0.toInt ∧ u0.toInt ≤ 16384 ∧ 1 ≤ u1.toInt ∧ u1.toInt ≤ 256 ∧ 1 ≤ u2.toInt ∧ u2.toInt ≤ 4 ∧ 1 ≤ u3.toInt ∧ u3.toInt ≤ 1 ∧ 1 ≤ u4.toInt ∧ u4.toInt ≤ 1 ∧ u0.toInt ≤ 64 * u1.toInt ∧ u2.toInt ≤ 64 * u3.toInt ∧ u3.toInt ≤ 64 * u4.toInt ∧ (u1.toInt ≤ 64 * u2.toInt ∨ u1.toInt ≤ 64 * len.toInt) ∧ bl.toInt < u0.toInt ∧ 1 ≤ len.toInt ∧ len.toInt ≤ 4) → Go p e below (EndP below s (fun v h L => v = none ∧ Fr n0 L ∧ h0.size ≤ h.size ∧ ∃ y0 y1 y2 y3 y4 u0 u1 u2 u3 u4, own_WI Z h n0 w lv kL y0 y1 y2 y3 y4 u0 u1 u2 u3 u4 f0 f1 f2 f3 f4 ∧ own_Ch u0 u1 u2 u3 u4 ∧ bl.toInt < u0.toInt) ({ frames := 2, cells := 3, slots := 16644, locals := 60 } : Room).cells ({ frames := 2, cells := 3, slots := 16644, locals := 60 } : Room).slots) T (mkF m 30 #[(sR w), (sI bl), (sI len), (sI (2 : Int32))] []) := by
    intro T h Lc y0 y1 y2 y3 y4 u0 u1 u2 u3 u4 len X1 eT NL hsz HWk hk
    obtain ⟨WE, WF, WA, WO, B0, B1, B2, B3, B4, gl, g0, g1, g2, g3, g4, ne_w_lv, ne_w_x0, ne_w_x1, ne_w_x2, ne_w_x3, ne_w_x4, ne_lv_x0, ne_lv_x1, ne_lv_x2, ne_lv_x3, ne_lv_x4, ne_x0_x1, ne_x0_x2, ne_x0_x3, ne_x0_x4, ne_x1_x2, ne_x1_x3, ne_x1_x4, ne_x2_x3, ne_x2_x4, ne_x3_x4⟩ := HWk
    refine Go.k 31 [(.int (2 : Int32))] ?_ fun _ k_ => XS.iloadN X1.here hx rfl (hb hby d11_30) rfl k_
    refine Go.k 32 [(.int (5 : Int32)), (.int (2 : Int32))] ?_ fun _ k_ => XT.iconstV X1.here hx rfl (5 : Int32) (hb hby d11_31) (by decide) k_
    refine Go.k 35 [] ?_ fun _ k_ => XS.icmpNo X1.here hx rfl (hb hby d11_32) rfl (by decide) k_
    refine Go.k 36 [(.ref w)] ?_ fun _ k_ => XS.aloadN X1.here hx rfl (hb hby d11_35) rfl rfl k_
    obtain ⟨T3, X3, e3, st3⟩ := getF X1 hx hZ hown (host := "") (Or.inl (wq hw 13 rfl)) Via.refl eT WF (g := (mkF m 36 #[(sR w), (sI bl), (sI len), (sI (2 : Int32))] [(.ref w)])) rfl rfl (hb hby d11_36)
    refine Go.t T3 39 [(.ref lv)] ?_ st3
    refine Go.k 40 [(.int (2 : Int32)), (.ref lv)] ?_ fun _ k_ => XS.iloadN X3.here hx rfl (hb hby d11_39) rfl k_
    refine Go.t T3 41 [(.ref y2)] ?_ (own_aaload X3 hx hZ e3 WA rfl (by decide) (by rw [show (2 : Int32).toNatClampNeg = 2 from by decide]; rfl) (g := (mkF m 40 #[(sR w), (sI bl), (sI len), (sI (2 : Int32))] [(.int (2 : Int32)), (.ref lv)])) rfl rfl (hb hby d11_40))
    refine Go.t T3 42 [(.int u2)] ?_ (own_laN X3 hx hZ e3 B2 (g := (mkF m 41 #[(sR w), (sI bl), (sI len), (sI (2 : Int32))] [(.ref y2)])) rfl rfl (hb hby d11_41))
    refine Go.k 43 [(.int len), (.int u2)] ?_ fun _ k_ => XS.iloadN X3.here hx rfl (hb hby d11_42) rfl k_
    by_cases hc4 : u2 < len
    · refine Go.k 46 [] ?_ fun _ k_ => XS.icmpNo X3.here hx rfl (hb hby d11_43) rfl (tlt hc4).2.1 k_
      refine Go.k 47 [(.ref w)] ?_ fun _ k_ => XS.aloadN X3.here hx rfl (hb hby d11_46) rfl rfl k_
      obtain ⟨T5, X5, e5, st5⟩ := getF X3 hx hZ hown (host := "") (Or.inl (wq hw 13 rfl)) Via.refl e3 WF (g := (mkF m 47 #[(sR w), (sI bl), (sI len), (sI (2 : Int32))] [(.ref w)])) rfl rfl (hb hby d11_47)
      refine Go.t T5 50 [(.ref lv)] ?_ st5
      refine Go.k 51 [(.int (2 : Int32)), (.ref lv)] ?_ fun _ k_ => XS.iloadN X5.here hx rfl (hb hby d11_50) rfl k_
      refine Go.k 52 [(.ref w), (.int (2 : Int32)), (.ref lv)] ?_ fun _ k_ => XS.aloadN X5.here hx rfl (hb hby d11_51) rfl rfl k_
      obtain ⟨T6, X6, e6, st6⟩ := getF X5 hx hZ hown (host := "") (Or.inl (wq hw 13 rfl)) Via.refl e5 WF (g := (mkF m 52 #[(sR w), (sI bl), (sI len), (sI (2 : Int32))] [(.ref w), (.int (2 : Int32)), (.ref lv)])) rfl rfl (hb hby d11_52)
      refine Go.t T6 55 [(.ref lv), (.int (2 : Int32)), (.ref lv)] ?_ st6
      refine Go.k 56 [(.int (2 : Int32)), (.ref lv), (.int (2 : Int32)), (.ref lv)] ?_ fun _ k_ => XS.iloadN X6.here hx rfl (hb hby d11_55) rfl k_
      refine Go.t T6 57 [(.ref y2), (.int (2 : Int32)), (.ref lv)] ?_ (own_aaload X6 hx hZ e6 WA rfl (by decide) (by rw [show (2 : Int32).toNatClampNeg = 2 from by decide]; rfl) (g := (mkF m 56 #[(sR w), (sI bl), (sI len), (sI (2 : Int32))] [(.int (2 : Int32)), (.ref lv), (.int (2 : Int32)), (.ref lv)])) rfl rfl (hb hby d11_56))
      refine Go.k 58 [(.int len), (.ref y2), (.int (2 : Int32)), (.ref lv)] ?_ fun _ k_ => XS.iloadN X6.here hx rfl (hb hby d11_57) rfl k_
      refine Go.callS X6 hx hZ hown (wq hw 69 rfl) (wq hw 70 rfl) (wq hw 71 rfl) (wq hw 72 rfl) (by decide) (copy4 l Z a0 hw [] y2 u2 len f2 h n0 (Nat.le_trans Z0 hsz) B2 (by omega) (Int32.lt_iff_toInt_lt.mp hc4) (by omega)) e6 (by decide) (W := 2) (by decide) (by decide) (by decide) (g := (mkF m 58 #[(sR w), (sI bl), (sI len), (sI (2 : Int32))] [(.int len), (.ref y2), (.int (2 : Int32)), (.ref lv)])) (rest := [(.int (2 : Int32)), (.ref lv)]) rfl (by rw [hml]; rfl) (lenOf pd___JI__J rfl) rfl (by show 2 * 0 + _ ≤ _; exact Nat.le_of_eq rfl) (hb hby d11_58) ?_
      rintro v7 T7 L7 X7 ⟨o7, rfl, N7, K7, g7, A7, C7⟩
      have M7 := Fr.app NL N7
      have G_o7 : n0 ≤ o7 := Nat.le_trans (Nat.le_trans Z0 hsz) g7
      have Q_o7_w : ¬ w = o7 := Nat.ne_of_lt (Nat.lt_of_lt_of_le WE.lt g7)
      have Q_o7_lv : ¬ lv = o7 := Nat.ne_of_lt (Nat.lt_of_lt_of_le WA.lt g7)
      have Q_o7_y0 : ¬ y0 = o7 := Nat.ne_of_lt (Nat.lt_of_lt_of_le B0.lt g7)
      have Q_o7_y1 : ¬ y1 = o7 := Nat.ne_of_lt (Nat.lt_of_lt_of_le B1.lt g7)
      have Q_o7_y2 : ¬ y2 = o7 := Nat.ne_of_lt (Nat.lt_of_lt_of_le B2.lt g7)
      have Q_o7_y3 : ¬ y3 = o7 := Nat.ne_of_lt (Nat.lt_of_lt_of_le B3.lt g7)
      have Q_o7_y4 : ¬ y4 = o7 := Nat.ne_of_lt (Nat.lt_of_lt_of_le B4.lt g7)
      show Go p e below _ T7 (mkF m 61 #[(sR w), (sI bl), (sI len), (sI (2 : Int32))] [(.ref o7), (.int (2 : Int32)), (.ref lv)])
      obtain ⟨T8, h8, X8, e8, W8, V8, st8⟩ := own_aastoreA X7 hx hZ rfl (WA.keep K7 nin0) WO (Ins.self A7) (by decide) (i := 2) (by decide) (by show 2 < 5; decide) (g := (mkF m 61 #[(sR w), (sI bl), (sI len), (sI (2 : Int32))] [(.ref o7), (.int (2 : Int32)), (.ref lv)])) rfl rfl (hb hby d11_61)
      have N8 := Fr.snoc X8 M7 gl
      replace V8 : Arv Z h8 lv kL (.array .long) (5 : Int32) [(.ref y0), (.ref y1), (.ref o7), (.ref y3), (.ref y4)] .null := V8
      refine Go.t T8 62 [] ?_ st8
      have hup : u2.toInt < len.toInt := Int32.lt_iff_toInt_lt.mp hc4
      refine Go.k 63 [(.int len)] ?_ fun _ k_ => XS.iloadN X8.here hx rfl (hb hby d11_62) rfl k_
      refine Go.k 65 [(.int (63 : Int32)), (.int len)] ?_ fun _ k_ => XT.bipushV X8.here hx rfl (63 : Int32) (hb hby d11_63) (by decide) k_
      refine Go.k 66 [(.int (len + (63 : Int32)))] ?_ fun _ k_ => XS.iadd X8.here hx rfl (hb hby d11_65) rfl k_
      refine Go.k 68 [(.int (6 : Int32)), (.int (len + (63 : Int32)))] ?_ fun _ k_ => XT.bipushV X8.here hx rfl (6 : Int32) (hb hby d11_66) (by decide) k_
      refine Go.k 69 [(.int (XT.ushr (len + (63 : Int32)) (6 : Int32)))] ?_ fun _ k_ => XT.iushr X8.here hx rfl (hb hby d11_68) rfl k_
      have l1 := c_iadd len 63
      have l2 : (63 : Int32).toInt = 63 := by decide
      obtain ⟨r1, r2⟩ := rng32 (len + 63)
      have l3 := own_ushr6 (len + 63) (by omega)
      obtain ⟨ln, eln⟩ : ∃ q_ : Int32, q_ = XT.ushr (len + 63) 6 := ⟨_, rfl⟩
      rw [← eln] at l3 ⊢
      refine Go.s (g' := (mkF m 70 #[(sR w), (sI bl), (sI ln), (sI (2 : Int32))] [])) ?_ fun _ k_ => XS.istoreN X8.here hx rfl (hb hby d11_69) rfl (l' := #[(sR w), (sI bl), (sI ln), (sI (2 : Int32))]) rfl k_
      refine Go.s (g' := (mkF m 73 #[(sR w), (sI bl), (sI ln), (sI (3 : Int32))] [])) ?_ fun _ k_ => XT.iincV X8.here hx rfl (1 : Int32) (hb hby d11_70) (by decide) rfl (l' := #[(sR w), (sI bl), (sI ln), (sI (3 : Int32))]) rfl k_
      refine Go.k 30 [] ?_ fun _ k_ => XS.goto X8.here hx rfl (pc0 := 73) (pc' := 30) rfl (hb hby d11_73) (by decide) (by decide) k_
      exact tail3 T8 h8 _ y0 y1 o7 y3 y4 u0 u1 len u3 u4 ln (X8.more (by decide) (by decide)) e8 N8 (Nat.le_trans (Nat.le_trans hsz K7.1) (Nat.le_of_eq W8.size.symm)) ⟨((WE.keep K7).wr W8), ((WF.keep K7 nin0).other W8 (Or.inl ne_w_lv)), V8, WO, ((B0.keep K7 nin0).other W8 (fun q_ => ne_lv_x0 q_.symm)), ((B1.keep K7 nin0).other W8 (fun q_ => ne_lv_x1 q_.symm)), (C7.other W8 (fun q_ => Q_o7_lv q_.symm)), ((B3.keep K7 nin0).other W8 (fun q_ => ne_lv_x3 q_.symm)), ((B4.keep K7 nin0).other W8 (fun q_ => ne_lv_x4 q_.symm)), gl, g0, g1, G_o7, g3, g4, ne_w_lv, ne_w_x0, ne_w_x1, Q_o7_w, ne_w_x3, ne_w_x4, ne_lv_x0, ne_lv_x1, Q_o7_lv, ne_lv_x3, ne_lv_x4, ne_x0_x1, Q_o7_y0, ne_x0_x3, ne_x0_x4, Q_o7_y1, ne_x1_x3, ne_x1_x4, (fun q_ => Q_o7_y3 q_.symm), (fun q_ => Q_o7_y4 q_.symm), ne_x3_x4⟩ (by omega)
    · refine Go.k 62 [] ?_ fun _ k_ => XS.icmpYes X3.here hx rfl (pc0 := 43) (pc' := 62) rfl (hb hby d11_43) rfl (flt hc4).2.1 (by decide) (by decide) k_
      have hup : ¬ u2.toInt < len.toInt := fun q_ => hc4 (Int32.lt_iff_toInt_lt.mpr q_)
      refine Go.k 63 [(.int len)] ?_ fun _ k_ => XS.iloadN X3.here hx rfl (hb hby d11_62) rfl k_
      refine Go.k 65 [(.int (63 : Int32)), (.int len)] ?_ fun _ k_ => XT.bipushV X3.here hx rfl (63 : Int32) (hb hby d11_63) (by decide) k_
      refine Go.k 66 [(.int (len + (63 : Int32)))] ?_ fun _ k_ => XS.iadd X3.here hx rfl (hb hby d11_65) rfl k_
      refine Go.k 68 [(.int (6 : Int32)), (.int (len + (63 : Int32)))] ?_ fun _ k_ => XT.bipushV X3.here hx rfl (6 : Int32) (hb hby d11_66) (by decide) k_
      refine Go.k 69 [(.int (XT.ushr (len + (63 : Int32)) (6 : Int32)))] ?_ fun _ k_ => XT.iushr X3.here hx rfl (hb hby d11_68) rfl k_
      have l1 := c_iadd len 63
      have l2 : (63 : Int32).toInt = 63 := by decide
      obtain ⟨r1, r2⟩ := rng32 (len + 63)
      have l3 := own_ushr6 (len + 63) (by omega)
      obtain ⟨ln, eln⟩ : ∃ q_ : Int32, q_ = XT.ushr (len + 63) 6 := ⟨_, rfl⟩
      rw [← eln] at l3 ⊢
      refine Go.s (g' := (mkF m 70 #[(sR w), (sI bl), (sI ln), (sI (2 : Int32))] [])) ?_ fun _ k_ => XS.istoreN X3.here hx rfl (hb hby d11_69) rfl (l' := #[(sR w), (sI bl), (sI ln), (sI (2 : Int32))]) rfl k_
      refine Go.s (g' := (mkF m 73 #[(sR w), (sI bl), (sI ln), (sI (3 : Int32))] [])) ?_ fun _ k_ => XT.iincV X3.here hx rfl (1 : Int32) (hb hby d11_70) (by decide) rfl (l' := #[(sR w), (sI bl), (sI ln), (sI (3 : Int32))]) rfl k_
      refine Go.k 30 [] ?_ fun _ k_ => XS.goto X3.here hx rfl (pc0 := 73) (pc' := 30) rfl (hb hby d11_73) (by decide) (by decide) k_
      exact tail3 T3 h _ y0 y1 y2 y3 y4 u0 u1 u2 u3 u4 ln (X3.more (by decide) (by decide)) e3 NL hsz ⟨WE, WF, WA, WO, B0, B1, B2, B3, B4, gl, g0, g1, g2, g3, g4, ne_w_lv, ne_w_x0, ne_w_x1, ne_w_x2, ne_w_x3, ne_w_x4, ne_lv_x0, ne_lv_x1, ne_lv_x2, ne_lv_x3, ne_lv_x4, ne_x0_x1, ne_x0_x2, ne_x0_x3, ne_x0_x4, ne_x1_x2, ne_x1_x3, ne_x1_x4, ne_x2_x3, ne_x2_x4, ne_x3_x4⟩ (by omega)
  have tail1 : ∀ (T : State) (h : Heap) (Lc : List Loc) (y0 y1 y2 y3 y4 : Addr) (u0 u1 u2 u3 u4 len : Int32), Stand p l e ({ frames := 2, cells := 3, slots := 16644, locals := 60 } : Room) s m #[(.ref w), (.int bl)] below meth c T Lc 1 16384 → T.heap = h → Fr n0 Lc → h0.size ≤ h.size → own_WI Z h n0 w lv kL y0 y1 y2 y3 y4 u0 u1 u2 u3 u4 f0 f1 f2 f3 f4 → (1 ≤ u0.toInt ∧ u0.toInt ≤ 16384 ∧ 1 ≤ u1.toInt ∧ u1.toInt ≤ 256 ∧ 1 ≤ u2.toInt ∧ u2.toInt ≤ 4 ∧ 1 ≤ u3.toInt ∧ u3.toInt ≤ 1 ∧ 1 ≤ u4.toInt ∧ u4.toInt ≤ 1 ∧ u1.toInt ≤ 64 * u2.toInt ∧ u2.toInt ≤ 64 * u3.toInt ∧ u3.toInt ≤ 64 * u4.toInt ∧ (u0.toInt ≤ 64 * u1.toInt ∨ u0.toInt ≤ 64 * len.toInt) ∧ bl.toInt < u0.toInt ∧ 1 ≤ len.toInt ∧ len.toInt ≤ 256) → Go p e below (EndP below s (fun v h L => v = none ∧ Fr n0 L ∧ h0.size ≤ h.size ∧ ∃ y0 y1 y2 y3 y4 u0 u1 u2 u3 u4, own_WI Z h n0 w lv kL y0 y1 y2 y3 y4 u0 u1 u2 u3 u4 f0 f1 f2 f3 f4 ∧ own_Ch u0 u1 u2 u3 u4 ∧ bl.toInt < u0.toInt) ({ frames := 2, cells := 3, slots := 16644, locals := 60 } : Room).cells ({ frames := 2, cells := 3, slots := 16644, locals := 60 } : Room).slots) T (mkF m 30 #[(sR w), (sI bl), (sI len), (sI (1 : Int32))] []) := by
    intro T h Lc y0 y1 y2 y3 y4 u0 u1 u2 u3 u4 len X1 eT NL hsz HWk hk
    obtain ⟨WE, WF, WA, WO, B0, B1, B2, B3, B4, gl, g0, g1, g2, g3, g4, ne_w_lv, ne_w_x0, ne_w_x1, ne_w_x2, ne_w_x3, ne_w_x4, ne_lv_x0, ne_lv_x1, ne_lv_x2, ne_lv_x3, ne_lv_x4, ne_x0_x1, ne_x0_x2, ne_x0_x3, ne_x0_x4, ne_x1_x2, ne_x1_x3, ne_x1_x4, ne_x2_x3, ne_x2_x4, ne_x3_x4⟩ := HWk
    refine Go.k 31 [(.int (1 : Int32))] ?_ fun _ k_ => XS.iloadN X1.here hx rfl (hb hby d11_30) rfl k_
    refine Go.k 32 [(.int (5 : Int32)), (.int (1 : Int32))] ?_ fun _ k_ => XT.iconstV X1.here hx rfl (5 : Int32) (hb hby d11_31) (by decide) k_
    refine Go.k 35 [] ?_ fun _ k_ => XS.icmpNo X1.here hx rfl (hb hby d11_32) rfl (by decide) k_
    refine Go.k 36 [(.ref w)] ?_ fun _ k_ => XS.aloadN X1.here hx rfl (hb hby d11_35) rfl rfl k_
    obtain ⟨T9, X9, e9, st9⟩ := getF X1 hx hZ hown (host := "") (Or.inl (wq hw 13 rfl)) Via.refl eT WF (g := (mkF m 36 #[(sR w), (sI bl), (sI len), (sI (1 : Int32))] [(.ref w)])) rfl rfl (hb hby d11_36)
    refine Go.t T9 39 [(.ref lv)] ?_ st9
    refine Go.k 40 [(.int (1 : Int32)), (.ref lv)] ?_ fun _ k_ => XS.iloadN X9.here hx rfl (hb hby d11_39) rfl k_
    refine Go.t T9 41 [(.ref y1)] ?_ (own_aaload X9 hx hZ e9 WA rfl (by decide) (by rw [show (1 : Int32).toNatClampNeg = 1 from by decide]; rfl) (g := (mkF m 40 #[(sR w), (sI bl), (sI len), (sI (1 : Int32))] [(.int (1 : Int32)), (.ref lv)])) rfl rfl (hb hby d11_40))
    refine Go.t T9 42 [(.int u1)] ?_ (own_laN X9 hx hZ e9 B1 (g := (mkF m 41 #[(sR w), (sI bl), (sI len), (sI (1 : Int32))] [(.ref y1)])) rfl rfl (hb hby d11_41))
    refine Go.k 43 [(.int len), (.int u1)] ?_ fun _ k_ => XS.iloadN X9.here hx rfl (hb hby d11_42) rfl k_
    by_cases hc10 : u1 < len
    · refine Go.k 46 [] ?_ fun _ k_ => XS.icmpNo X9.here hx rfl (hb hby d11_43) rfl (tlt hc10).2.1 k_
      refine Go.k 47 [(.ref w)] ?_ fun _ k_ => XS.aloadN X9.here hx rfl (hb hby d11_46) rfl rfl k_
      obtain ⟨T11, X11, e11, st11⟩ := getF X9 hx hZ hown (host := "") (Or.inl (wq hw 13 rfl)) Via.refl e9 WF (g := (mkF m 47 #[(sR w), (sI bl), (sI len), (sI (1 : Int32))] [(.ref w)])) rfl rfl (hb hby d11_47)
      refine Go.t T11 50 [(.ref lv)] ?_ st11
      refine Go.k 51 [(.int (1 : Int32)), (.ref lv)] ?_ fun _ k_ => XS.iloadN X11.here hx rfl (hb hby d11_50) rfl k_
      refine Go.k 52 [(.ref w), (.int (1 : Int32)), (.ref lv)] ?_ fun _ k_ => XS.aloadN X11.here hx rfl (hb hby d11_51) rfl rfl k_
      obtain ⟨T12, X12, e12, st12⟩ := getF X11 hx hZ hown (host := "") (Or.inl (wq hw 13 rfl)) Via.refl e11 WF (g := (mkF m 52 #[(sR w), (sI bl), (sI len), (sI (1 : Int32))] [(.ref w), (.int (1 : Int32)), (.ref lv)])) rfl rfl (hb hby d11_52)
      refine Go.t T12 55 [(.ref lv), (.int (1 : Int32)), (.ref lv)] ?_ st12
      refine Go.k 56 [(.int (1 : Int32)), (.ref lv), (.int (1 : Int32)), (.ref lv)] ?_ fun _ k_ => XS.iloadN X12.here hx rfl (hb hby d11_55) rfl k_
      refine Go.t T12 57 [(.ref y1), (.int (1 : Int32)), (.ref lv)] ?_ (own_aaload X12 hx hZ e12 WA rfl (by decide) (by rw [show (1 : Int32).toNatClampNeg = 1 from by decide]; rfl) (g := (mkF m 56 #[(sR w), (sI bl), (sI len), (sI (1 : Int32))] [(.int (1 : Int32)), (.ref lv), (.int (1 : Int32)), (.ref lv)])) rfl rfl (hb hby d11_56))
      refine Go.k 58 [(.int len), (.ref y1), (.int (1 : Int32)), (.ref lv)] ?_ fun _ k_ => XS.iloadN X12.here hx rfl (hb hby d11_57) rfl k_
      refine Go.callS X12 hx hZ hown (wq hw 69 rfl) (wq hw 70 rfl) (wq hw 71 rfl) (wq hw 72 rfl) (by decide) (copy256 l Z a0 hw [] y1 u1 len f1 h n0 (Nat.le_trans Z0 hsz) B1 (by omega) (Int32.lt_iff_toInt_lt.mp hc10) (by omega)) e12 (by decide) (W := 2) (by decide) (by decide) (by decide) (g := (mkF m 58 #[(sR w), (sI bl), (sI len), (sI (1 : Int32))] [(.int len), (.ref y1), (.int (1 : Int32)), (.ref lv)])) (rest := [(.int (1 : Int32)), (.ref lv)]) rfl (by rw [hml]; rfl) (lenOf pd___JI__J rfl) rfl (by show 2 * 0 + _ ≤ _; exact Nat.le_of_eq rfl) (hb hby d11_58) ?_
      rintro v13 T13 L13 X13 ⟨o13, rfl, N13, K13, g13, A13, C13⟩
      have M13 := Fr.app NL N13
      have G_o13 : n0 ≤ o13 := Nat.le_trans (Nat.le_trans Z0 hsz) g13
      have Q_o13_w : ¬ w = o13 := Nat.ne_of_lt (Nat.lt_of_lt_of_le WE.lt g13)
      have Q_o13_lv : ¬ lv = o13 := Nat.ne_of_lt (Nat.lt_of_lt_of_le WA.lt g13)
      have Q_o13_y0 : ¬ y0 = o13 := Nat.ne_of_lt (Nat.lt_of_lt_of_le B0.lt g13)
      have Q_o13_y1 : ¬ y1 = o13 := Nat.ne_of_lt (Nat.lt_of_lt_of_le B1.lt g13)
      have Q_o13_y2 : ¬ y2 = o13 := Nat.ne_of_lt (Nat.lt_of_lt_of_le B2.lt g13)
      have Q_o13_y3 : ¬ y3 = o13 := Nat.ne_of_lt (Nat.lt_of_lt_of_le B3.lt g13)
      have Q_o13_y4 : ¬ y4 = o13 := Nat.ne_of_lt (Nat.lt_of_lt_of_le B4.lt g13)
      show Go p e below _ T13 (mkF m 61 #[(sR w), (sI bl), (sI len), (sI (1 : Int32))] [(.ref o13), (.int (1 : Int32)), (.ref lv)])
      obtain ⟨T14, h14, X14, e14, W14, V14, st14⟩ := own_aastoreA X13 hx hZ rfl (WA.keep K13 nin0) WO (Ins.self A13) (by decide) (i := 1) (by decide) (by show 1 < 5; decide) (g := (mkF m 61 #[(sR w), (sI bl), (sI len), (sI (1 : Int32))] [(.ref o13), (.int (1 : Int32)), (.ref lv)])) rfl rfl (hb hby d11_61)
      have N14 := Fr.snoc X14 M13 gl
      replace V14 : Arv Z h14 lv kL (.array .long) (5 : Int32) [(.ref y0), (.ref o13), (.ref y2), (.ref y3), (.ref y4)] .null := V14
      refine Go.t T14 62 [] ?_ st14
      have hup : u1.toInt < len.toInt := Int32.lt_iff_toInt_lt.mp hc10
      refine Go.k 63 [(.int len)] ?_ fun _ k_ => XS.iloadN X14.here hx rfl (hb hby d11_62) rfl k_
      refine Go.k 65 [(.int (63 : Int32)), (.int len)] ?_ fun _ k_ => XT.bipushV X14.here hx rfl (63 : Int32) (hb hby d11_63) (by decide) k_
      refine Go.k 66 [(.int (len + (63 : Int32)))] ?_ fun _ k_ => XS.iadd X14.here hx rfl (hb hby d11_65) rfl k_
      refine Go.k 68 [(.int (6 : Int32)), (.int (len + (63 : Int32)))] ?_ fun _ k_ => XT.bipushV X14.here hx rfl (6 : Int32) (hb hby d11_66) (by decide) k_
      refine Go.k 69 [(.int (XT.ushr (len + (63 : Int32)) (6 : Int32)))] ?_ fun _ k_ => XT.iushr X14.here hx rfl (hb hby d11_68) rfl k_
      have l1 := c_iadd len 63
      have l2 : (63 : Int32).toInt = 63 := by decide
      obtain ⟨r1, r2⟩ := rng32 (len + 63)
      have l3 := own_ushr6 (len + 63) (by omega)
      obtain ⟨ln, eln⟩ : ∃ q_ : Int32, q_ = XT.ushr (len + 63) 6 := ⟨_, rfl⟩
      rw [← eln] at l3 ⊢
      refine Go.s (g' := (mkF m 70 #[(sR w), (sI bl), (sI ln), (sI (1 : Int32))] [])) ?_ fun _ k_ => XS.istoreN X14.here hx rfl (hb hby d11_69) rfl (l' := #[(sR w), (sI bl), (sI ln), (sI (1 : Int32))]) rfl k_
      refine Go.s (g' := (mkF m 73 #[(sR w), (sI bl), (sI ln), (sI (2 : Int32))] [])) ?_ fun _ k_ => XT.iincV X14.here hx rfl (1 : Int32) (hb hby d11_70) (by decide) rfl (l' := #[(sR w), (sI bl), (sI ln), (sI (2 : Int32))]) rfl k_
      refine Go.k 30 [] ?_ fun _ k_ => XS.goto X14.here hx rfl (pc0 := 73) (pc' := 30) rfl (hb hby d11_73) (by decide) (by decide) k_
      exact tail2 T14 h14 _ y0 o13 y2 y3 y4 u0 len u2 u3 u4 ln (X14.more (by decide) (by decide)) e14 N14 (Nat.le_trans (Nat.le_trans hsz K13.1) (Nat.le_of_eq W14.size.symm)) ⟨((WE.keep K13).wr W14), ((WF.keep K13 nin0).other W14 (Or.inl ne_w_lv)), V14, WO, ((B0.keep K13 nin0).other W14 (fun q_ => ne_lv_x0 q_.symm)), (C13.other W14 (fun q_ => Q_o13_lv q_.symm)), ((B2.keep K13 nin0).other W14 (fun q_ => ne_lv_x2 q_.symm)), ((B3.keep K13 nin0).other W14 (fun q_ => ne_lv_x3 q_.symm)), ((B4.keep K13 nin0).other W14 (fun q_ => ne_lv_x4 q_.symm)), gl, g0, G_o13, g2, g3, g4, ne_w_lv, ne_w_x0, Q_o13_w, ne_w_x2, ne_w_x3, ne_w_x4, ne_lv_x0, Q_o13_lv, ne_lv_x2, ne_lv_x3, ne_lv_x4, Q_o13_y0, ne_x0_x2, ne_x0_x3, ne_x0_x4, (fun q_ => Q_o13_y2 q_.symm), (fun q_ => Q_o13_y3 q_.symm), (fun q_ => Q_o13_y4 q_.symm), ne_x2_x3, ne_x2_x4, ne_x3_x4⟩ (by omega)
    · refine Go.k 62 [] ?_ fun _ k_ => XS.icmpYes X9.here hx rfl (pc0 := 43) (pc' := 62) rfl (hb hby d11_43) rfl (flt hc10).2.1 (by decide) (by decide) k_
      have hup : ¬ u1.toInt < len.toInt := fun q_ => hc10 (Int32.lt_iff_toInt_lt.mpr q_)
      refine Go.k 63 [(.int len)] ?_ fun _ k_ => XS.iloadN X9.here hx rfl (hb hby d11_62) rfl k_
      refine Go.k 65 [(.int (63 : Int32)), (.int len)] ?_ fun _ k_ => XT.bipushV X9.here hx rfl (63 : Int32) (hb hby d11_63) (by decide) k_
      refine Go.k 66 [(.int (len + (63 : Int32)))] ?_ fun _ k_ => XS.iadd X9.here hx rfl (hb hby d11_65) rfl k_
      refine Go.k 68 [(.int (6 : Int32)), (.int (len + (63 : Int32)))] ?_ fun _ k_ => XT.bipushV X9.here hx rfl (6 : Int32) (hb hby d11_66) (by decide) k_
      refine Go.k 69 [(.int (XT.ushr (len + (63 : Int32)) (6 : Int32)))] ?_ fun _ k_ => XT.iushr X9.here hx rfl (hb hby d11_68) rfl k_
      have l1 := c_iadd len 63
      have l2 : (63 : Int32).toInt = 63 := by decide
      obtain ⟨r1, r2⟩ := rng32 (len + 63)
      have l3 := own_ushr6 (len + 63) (by omega)
      obtain ⟨ln, eln⟩ : ∃ q_ : Int32, q_ = XT.ushr (len + 63) 6 := ⟨_, rfl⟩
      rw [← eln] at l3 ⊢
      refine Go.s (g' := (mkF m 70 #[(sR w), (sI bl), (sI ln), (sI (1 : Int32))] [])) ?_ fun _ k_ => XS.istoreN X9.here hx rfl (hb hby d11_69) rfl (l' := #[(sR w), (sI bl), (sI ln), (sI (1 : Int32))]) rfl k_
      refine Go.s (g' := (mkF m 73 #[(sR w), (sI bl), (sI ln), (sI (2 : Int32))] [])) ?_ fun _ k_ => XT.iincV X9.here hx rfl (1 : Int32) (hb hby d11_70) (by decide) rfl (l' := #[(sR w), (sI bl), (sI ln), (sI (2 : Int32))]) rfl k_
      refine Go.k 30 [] ?_ fun _ k_ => XS.goto X9.here hx rfl (pc0 := 73) (pc' := 30) rfl (hb hby d11_73) (by decide) (by decide) k_
      exact tail2 T9 h _ y0 y1 y2 y3 y4 u0 u1 u2 u3 u4 ln (X9.more (by decide) (by decide)) e9 NL hsz ⟨WE, WF, WA, WO, B0, B1, B2, B3, B4, gl, g0, g1, g2, g3, g4, ne_w_lv, ne_w_x0, ne_w_x1, ne_w_x2, ne_w_x3, ne_w_x4, ne_lv_x0, ne_lv_x1, ne_lv_x2, ne_lv_x3, ne_lv_x4, ne_x0_x1, ne_x0_x2, ne_x0_x3, ne_x0_x4, ne_x1_x2, ne_x1_x3, ne_x1_x4, ne_x2_x3, ne_x2_x4, ne_x3_x4⟩ (by omega)
  have tail0 : ∀ (T : State) (h : Heap) (Lc : List Loc) (y0 y1 y2 y3 y4 : Addr) (u0 u1 u2 u3 u4 len : Int32), Stand p l e ({ frames := 2, cells := 3, slots := 16644, locals := 60 } : Room) s m #[(.ref w), (.int bl)] below meth c T Lc 0 0 → T.heap = h → Fr n0 Lc → h0.size ≤ h.size → own_WI Z h n0 w lv kL y0 y1 y2 y3 y4 u0 u1 u2 u3 u4 f0 f1 f2 f3 f4 → (1 ≤ u0.toInt ∧ u0.toInt ≤ 16384 ∧ 1 ≤ u1.toInt ∧ u1.toInt ≤ 256 ∧ 1 ≤ u2.toInt ∧ u2.toInt ≤ 4 ∧ 1 ≤ u3.toInt ∧ u3.toInt ≤ 1 ∧ 1 ≤ u4.toInt ∧ u4.toInt ≤ 1 ∧ u0.toInt ≤ 64 * u1.toInt ∧ u1.toInt ≤ 64 * u2.toInt ∧ u2.toInt ≤ 64 * u3.toInt ∧ u3.toInt ≤ 64 * u4.toInt ∧ bl.toInt < len.toInt ∧ 1 ≤ len.toInt ∧ len.toInt ≤ 16384) → Go p e below (EndP below s (fun v h L => v = none ∧ Fr n0 L ∧ h0.size ≤ h.size ∧ ∃ y0 y1 y2 y3 y4 u0 u1 u2 u3 u4, own_WI Z h n0 w lv kL y0 y1 y2 y3 y4 u0 u1 u2 u3 u4 f0 f1 f2 f3 f4 ∧ own_Ch u0 u1 u2 u3 u4 ∧ bl.toInt < u0.toInt) ({ frames := 2, cells := 3, slots := 16644, locals := 60 } : Room).cells ({ frames := 2, cells := 3, slots := 16644, locals := 60 } : Room).slots) T (mkF m 30 #[(sR w), (sI bl), (sI len), (sI (0 : Int32))] []) := by
    intro T h Lc y0 y1 y2 y3 y4 u0 u1 u2 u3 u4 len X1 eT NL hsz HWk hk
    obtain ⟨WE, WF, WA, WO, B0, B1, B2, B3, B4, gl, g0, g1, g2, g3, g4, ne_w_lv, ne_w_x0, ne_w_x1, ne_w_x2, ne_w_x3, ne_w_x4, ne_lv_x0, ne_lv_x1, ne_lv_x2, ne_lv_x3, ne_lv_x4, ne_x0_x1, ne_x0_x2, ne_x0_x3, ne_x0_x4, ne_x1_x2, ne_x1_x3, ne_x1_x4, ne_x2_x3, ne_x2_x4, ne_x3_x4⟩ := HWk
    refine Go.k 31 [(.int (0 : Int32))] ?_ fun _ k_ => XS.iloadN X1.here hx rfl (hb hby d11_30) rfl k_
    refine Go.k 32 [(.int (5 : Int32)), (.int (0 : Int32))] ?_ fun _ k_ => XT.iconstV X1.here hx rfl (5 : Int32) (hb hby d11_31) (by decide) k_
    refine Go.k 35 [] ?_ fun _ k_ => XS.icmpNo X1.here hx rfl (hb hby d11_32) rfl (by decide) k_
    refine Go.k 36 [(.ref w)] ?_ fun _ k_ => XS.aloadN X1.here hx rfl (hb hby d11_35) rfl rfl k_
    obtain ⟨T15, X15, e15, st15⟩ := getF X1 hx hZ hown (host := "") (Or.inl (wq hw 13 rfl)) Via.refl eT WF (g := (mkF m 36 #[(sR w), (sI bl), (sI len), (sI (0 : Int32))] [(.ref w)])) rfl rfl (hb hby d11_36)
    refine Go.t T15 39 [(.ref lv)] ?_ st15
    refine Go.k 40 [(.int (0 : Int32)), (.ref lv)] ?_ fun _ k_ => XS.iloadN X15.here hx rfl (hb hby d11_39) rfl k_
    refine Go.t T15 41 [(.ref y0)] ?_ (own_aaload X15 hx hZ e15 WA rfl (by decide) (by rw [show (0 : Int32).toNatClampNeg = 0 from by decide]; rfl) (g := (mkF m 40 #[(sR w), (sI bl), (sI len), (sI (0 : Int32))] [(.int (0 : Int32)), (.ref lv)])) rfl rfl (hb hby d11_40))
    refine Go.t T15 42 [(.int u0)] ?_ (own_laN X15 hx hZ e15 B0 (g := (mkF m 41 #[(sR w), (sI bl), (sI len), (sI (0 : Int32))] [(.ref y0)])) rfl rfl (hb hby d11_41))
    refine Go.k 43 [(.int len), (.int u0)] ?_ fun _ k_ => XS.iloadN X15.here hx rfl (hb hby d11_42) rfl k_
    by_cases hc16 : u0 < len
    · refine Go.k 46 [] ?_ fun _ k_ => XS.icmpNo X15.here hx rfl (hb hby d11_43) rfl (tlt hc16).2.1 k_
      refine Go.k 47 [(.ref w)] ?_ fun _ k_ => XS.aloadN X15.here hx rfl (hb hby d11_46) rfl rfl k_
      obtain ⟨T17, X17, e17, st17⟩ := getF X15 hx hZ hown (host := "") (Or.inl (wq hw 13 rfl)) Via.refl e15 WF (g := (mkF m 47 #[(sR w), (sI bl), (sI len), (sI (0 : Int32))] [(.ref w)])) rfl rfl (hb hby d11_47)
      refine Go.t T17 50 [(.ref lv)] ?_ st17
      refine Go.k 51 [(.int (0 : Int32)), (.ref lv)] ?_ fun _ k_ => XS.iloadN X17.here hx rfl (hb hby d11_50) rfl k_
      refine Go.k 52 [(.ref w), (.int (0 : Int32)), (.ref lv)] ?_ fun _ k_ => XS.aloadN X17.here hx rfl (hb hby d11_51) rfl rfl k_
      obtain ⟨T18, X18, e18, st18⟩ := getF X17 hx hZ hown (host := "") (Or.inl (wq hw 13 rfl)) Via.refl e17 WF (g := (mkF m 52 #[(sR w), (sI bl), (sI len), (sI (0 : Int32))] [(.ref w), (.int (0 : Int32)), (.ref lv)])) rfl rfl (hb hby d11_52)
      refine Go.t T18 55 [(.ref lv), (.int (0 : Int32)), (.ref lv)] ?_ st18
      refine Go.k 56 [(.int (0 : Int32)), (.ref lv), (.int (0 : Int32)), (.ref lv)] ?_ fun _ k_ => XS.iloadN X18.here hx rfl (hb hby d11_55) rfl k_
      refine Go.t T18 57 [(.ref y0), (.int (0 : Int32)), (.ref lv)] ?_ (own_aaload X18 hx hZ e18 WA rfl (by decide) (by rw [show (0 : Int32).toNatClampNeg = 0 from by decide]; rfl) (g := (mkF m 56 #[(sR w), (sI bl), (sI len), (sI (0 : Int32))] [(.int (0 : Int32)), (.ref lv), (.int (0 : Int32)), (.ref lv)])) rfl rfl (hb hby d11_56))
      refine Go.k 58 [(.int len), (.ref y0), (.int (0 : Int32)), (.ref lv)] ?_ fun _ k_ => XS.iloadN X18.here hx rfl (hb hby d11_57) rfl k_
      refine Go.callS X18 hx hZ hown (wq hw 69 rfl) (wq hw 70 rfl) (wq hw 71 rfl) (wq hw 72 rfl) (by decide) (copy16384 l Z a0 hw [] y0 u0 len f0 h n0 (Nat.le_trans Z0 hsz) B0 (by omega) (Int32.lt_iff_toInt_lt.mp hc16) (by omega)) e18 (by decide) (W := 2) (by decide) (by decide) (by decide) (g := (mkF m 58 #[(sR w), (sI bl), (sI len), (sI (0 : Int32))] [(.int len), (.ref y0), (.int (0 : Int32)), (.ref lv)])) (rest := [(.int (0 : Int32)), (.ref lv)]) rfl (by rw [hml]; rfl) (lenOf pd___JI__J rfl) rfl (by show 2 * 0 + _ ≤ _; exact Nat.le_of_eq rfl) (hb hby d11_58) ?_
      rintro v19 T19 L19 X19 ⟨o19, rfl, N19, K19, g19, A19, C19⟩
      have M19 := Fr.app NL N19
      have G_o19 : n0 ≤ o19 := Nat.le_trans (Nat.le_trans Z0 hsz) g19
      have Q_o19_w : ¬ w = o19 := Nat.ne_of_lt (Nat.lt_of_lt_of_le WE.lt g19)
      have Q_o19_lv : ¬ lv = o19 := Nat.ne_of_lt (Nat.lt_of_lt_of_le WA.lt g19)
      have Q_o19_y0 : ¬ y0 = o19 := Nat.ne_of_lt (Nat.lt_of_lt_of_le B0.lt g19)
      have Q_o19_y1 : ¬ y1 = o19 := Nat.ne_of_lt (Nat.lt_of_lt_of_le B1.lt g19)
      have Q_o19_y2 : ¬ y2 = o19 := Nat.ne_of_lt (Nat.lt_of_lt_of_le B2.lt g19)
      have Q_o19_y3 : ¬ y3 = o19 := Nat.ne_of_lt (Nat.lt_of_lt_of_le B3.lt g19)
      have Q_o19_y4 : ¬ y4 = o19 := Nat.ne_of_lt (Nat.lt_of_lt_of_le B4.lt g19)
      show Go p e below _ T19 (mkF m 61 #[(sR w), (sI bl), (sI len), (sI (0 : Int32))] [(.ref o19), (.int (0 : Int32)), (.ref lv)])
      obtain ⟨T20, h20, X20, e20, W20, V20, st20⟩ := own_aastoreA X19 hx hZ rfl (WA.keep K19 nin0) WO (Ins.self A19) (by decide) (i := 0) (by decide) (by show 0 < 5; decide) (g := (mkF m 61 #[(sR w), (sI bl), (sI len), (sI (0 : Int32))] [(.ref o19), (.int (0 : Int32)), (.ref lv)])) rfl rfl (hb hby d11_61)
      have N20 := Fr.snoc X20 M19 gl
      replace V20 : Arv Z h20 lv kL (.array .long) (5 : Int32) [(.ref o19), (.ref y1), (.ref y2), (.ref y3), (.ref y4)] .null := V20
      refine Go.t T20 62 [] ?_ st20
      have hup : u0.toInt < len.toInt := Int32.lt_iff_toInt_lt.mp hc16
      refine Go.k 63 [(.int len)] ?_ fun _ k_ => XS.iloadN X20.here hx rfl (hb hby d11_62) rfl k_
      refine Go.k 65 [(.int (63 : Int32)), (.int len)] ?_ fun _ k_ => XT.bipushV X20.here hx rfl (63 : Int32) (hb hby d11_63) (by decide) k_
      refine Go.k 66 [(.int (len + (63 : Int32)))] ?_ fun _ k_ => XS.iadd X20.here hx rfl (hb hby d11_65) rfl k_
      refine Go.k 68 [(.int (6 : Int32)), (.int (len + (63 : Int32)))] ?_ fun _ k_ => XT.bipushV X20.here hx rfl (6 : Int32) (hb hby d11_66) (by decide) k_
      refine Go.k 69 [(.int (XT.ushr (len + (63 : Int32)) (6 : Int32)))] ?_ fun _ k_ => XT.iushr X20.here hx rfl (hb hby d11_68) rfl k_
      have l1 := c_iadd len 63
      have l2 : (63 : Int32).toInt = 63 := by decide
      obtain ⟨r1, r2⟩ := rng32 (len + 63)
      have l3 := own_ushr6 (len + 63) (by omega)
      obtain ⟨ln, eln⟩ : ∃ q_ : Int32, q_ = XT.ushr (len + 63) 6 := ⟨_, rfl⟩
      rw [← eln] at l3 ⊢
      refine Go.s (g' := (mkF m 70 #[(sR w), (sI bl), (sI ln), (sI (0 : Int32))] [])) ?_ fun _ k_ => XS.istoreN X20.here hx rfl (hb hby d11_69) rfl (l' := #[(sR w), (sI bl), (sI ln), (sI (0 : Int32))]) rfl k_
      refine Go.s (g' := (mkF m 73 #[(sR w), (sI bl), (sI ln), (sI (1 : Int32))] [])) ?_ fun _ k_ => XT.iincV X20.here hx rfl (1 : Int32) (hb hby d11_70) (by decide) rfl (l' := #[(sR w), (sI bl), (sI ln), (sI (1 : Int32))]) rfl k_
      refine Go.k 30 [] ?_ fun _ k_ => XS.goto X20.here hx rfl (pc0 := 73) (pc' := 30) rfl (hb hby d11_73) (by decide) (by decide) k_
      exact tail1 T20 h20 _ o19 y1 y2 y3 y4 len u1 u2 u3 u4 ln (X20.more (by decide) (by decide)) e20 N20 (Nat.le_trans (Nat.le_trans hsz K19.1) (Nat.le_of_eq W20.size.symm)) ⟨((WE.keep K19).wr W20), ((WF.keep K19 nin0).other W20 (Or.inl ne_w_lv)), V20, WO, (C19.other W20 (fun q_ => Q_o19_lv q_.symm)), ((B1.keep K19 nin0).other W20 (fun q_ => ne_lv_x1 q_.symm)), ((B2.keep K19 nin0).other W20 (fun q_ => ne_lv_x2 q_.symm)), ((B3.keep K19 nin0).other W20 (fun q_ => ne_lv_x3 q_.symm)), ((B4.keep K19 nin0).other W20 (fun q_ => ne_lv_x4 q_.symm)), gl, G_o19, g1, g2, g3, g4, ne_w_lv, Q_o19_w, ne_w_x1, ne_w_x2, ne_w_x3, ne_w_x4, Q_o19_lv, ne_lv_x1, ne_lv_x2, ne_lv_x3, ne_lv_x4, (fun q_ => Q_o19_y1 q_.symm), (fun q_ => Q_o19_y2 q_.symm), (fun q_ => Q_o19_y3 q_.symm), (fun q_ => Q_o19_y4 q_.symm), ne_x1_x2, ne_x1_x3, ne_x1_x4, ne_x2_x3, ne_x2_x4, ne_x3_x4⟩ (by omega)
    · refine Go.k 62 [] ?_ fun _ k_ => XS.icmpYes X15.here hx rfl (pc0 := 43) (pc' := 62) rfl (hb hby d11_43) rfl (flt hc16).2.1 (by decide) (by decide) k_
      have hup : ¬ u0.toInt < len.toInt := fun q_ => hc16 (Int32.lt_iff_toInt_lt.mpr q_)
      refine Go.k 63 [(.int len)] ?_ fun _ k_ => XS.iloadN X15.here hx rfl (hb hby d11_62) rfl k_
      refine Go.k 65 [(.int (63 : Int32)), (.int len)] ?_ fun _ k_ => XT.bipushV X15.here hx rfl (63 : Int32) (hb hby d11_63) (by decide) k_
      refine Go.k 66 [(.int (len + (63 : Int32)))] ?_ fun _ k_ => XS.iadd X15.here hx rfl (hb hby d11_65) rfl k_
      refine Go.k 68 [(.int (6 : Int32)), (.int (len + (63 : Int32)))] ?_ fun _ k_ => XT.bipushV X15.here hx rfl (6 : Int32) (hb hby d11_66) (by decide) k_
      refine Go.k 69 [(.int (XT.ushr (len + (63 : Int32)) (6 : Int32)))] ?_ fun _ k_ => XT.iushr X15.here hx rfl (hb hby d11_68) rfl k_
      have l1 := c_iadd len 63
      have l2 : (63 : Int32).toInt = 63 := by decide
      obtain ⟨r1, r2⟩ := rng32 (len + 63)
      have l3 := own_ushr6 (len + 63) (by omega)
      obtain ⟨ln, eln⟩ : ∃ q_ : Int32, q_ = XT.ushr (len + 63) 6 := ⟨_, rfl⟩
      rw [← eln] at l3 ⊢
      refine Go.s (g' := (mkF m 70 #[(sR w), (sI bl), (sI ln), (sI (0 : Int32))] [])) ?_ fun _ k_ => XS.istoreN X15.here hx rfl (hb hby d11_69) rfl (l' := #[(sR w), (sI bl), (sI ln), (sI (0 : Int32))]) rfl k_
      refine Go.s (g' := (mkF m 73 #[(sR w), (sI bl), (sI ln), (sI (1 : Int32))] [])) ?_ fun _ k_ => XT.iincV X15.here hx rfl (1 : Int32) (hb hby d11_70) (by decide) rfl (l' := #[(sR w), (sI bl), (sI ln), (sI (1 : Int32))]) rfl k_
      refine Go.k 30 [] ?_ fun _ k_ => XS.goto X15.here hx rfl (pc0 := 73) (pc' := 30) rfl (hb hby d11_73) (by decide) (by decide) k_
      exact tail1 T15 h _ y0 y1 y2 y3 y4 u0 u1 u2 u3 u4 ln (X15.more (by decide) (by decide)) e15 NL hsz ⟨WE, WF, WA, WO, B0, B1, B2, B3, B4, gl, g0, g1, g2, g3, g4, ne_w_lv, ne_w_x0, ne_w_x1, ne_w_x2, ne_w_x3, ne_w_x4, ne_lv_x0, ne_lv_x1, ne_lv_x2, ne_lv_x3, ne_lv_x4, ne_x0_x1, ne_x0_x2, ne_x0_x3, ne_x0_x4, ne_x1_x2, ne_x1_x3, ne_x1_x4, ne_x2_x3, ne_x2_x4, ne_x3_x4⟩ (by omega)
  obtain ⟨WE, WF, WA, WO, B0, B1, B2, B3, B4, gl, g0, g1, g2, g3, g4, ne_w_lv, ne_w_x0, ne_w_x1, ne_w_x2, ne_w_x3, ne_w_x4, ne_lv_x0, ne_lv_x1, ne_lv_x2, ne_lv_x3, ne_lv_x4, ne_x0_x1, ne_x0_x2, ne_x0_x3, ne_x0_x4, ne_x1_x2, ne_x1_x3, ne_x1_x4, ne_x2_x3, ne_x2_x4, ne_x3_x4⟩ := HW0
  refine Go.cast (g' := (mkF m 0 #[(sR w), (sI bl), .unset, .unset] [])) (by first | (simp [entryFrame, mkF, argsToLocals, Value.category, maxLocals, sI, sR, sJ]; done) | rfl) ?_
  refine Go.k 1 [(.int bl)] ?_ fun _ k_ => XS.iloadN X0.here hx rfl (hb hby d11_0) rfl k_
  refine Go.k 2 [(.ref w), (.int bl)] ?_ fun _ k_ => XS.aloadN X0.here hx rfl (hb hby d11_1) rfl rfl k_
  obtain ⟨T21, X21, e21, st21⟩ := getF X0 hx hZ hown (host := "") (Or.inl (wq hw 13 rfl)) Via.refl e0 WF (g := (mkF m 2 #[(sR w), (sI bl), .unset, .unset] [(.ref w), (.int bl)])) rfl rfl (hb hby d11_2)
  refine Go.t T21 5 [(.ref lv), (.int bl)] ?_ st21
  refine Go.k 6 [(.int (0 : Int32)), (.ref lv), (.int bl)] ?_ fun _ k_ => XT.iconstV X21.here hx rfl (0 : Int32) (hb hby d11_5) (by decide) k_
  refine Go.t T21 7 [(.ref x0), (.int bl)] ?_ (own_aaload X21 hx hZ e21 WA rfl (by decide) (by rw [show (0 : Int32).toNatClampNeg = 0 from by decide]; rfl) (g := (mkF m 6 #[(sR w), (sI bl), .unset, .unset] [(.int (0 : Int32)), (.ref lv), (.int bl)])) rfl rfl (hb hby d11_6))
  refine Go.t T21 8 [(.int z0), (.int bl)] ?_ (own_laN X21 hx hZ e21 B0 (g := (mkF m 7 #[(sR w), (sI bl), .unset, .unset] [(.ref x0), (.int bl)])) rfl rfl (hb hby d11_7))
  by_cases hc22 : bl < z0
  · refine Go.k 11 [] ?_ fun _ k_ => XS.icmpNo X21.here hx rfl (hb hby d11_8) rfl (tlt hc22).2.1 k_
    have hlt : bl.toInt < z0.toInt := Int32.lt_iff_toInt_lt.mp hc22
    exact Go.retU X21 hx hret hlk (by decide) (by decide) (hb hby d11_11) (by rw [e21]; exact ⟨rfl, N0, (Nat.le_refl _), x0, x1, x2, x3, x4, z0, z1, z2, z3, z4, ⟨WE, WF, WA, WO, B0, B1, B2, B3, B4, gl, g0, g1, g2, g3, g4, ne_w_lv, ne_w_x0, ne_w_x1, ne_w_x2, ne_w_x3, ne_w_x4, ne_lv_x0, ne_lv_x1, ne_lv_x2, ne_lv_x3, ne_lv_x4, ne_x0_x1, ne_x0_x2, ne_x0_x3, ne_x0_x4, ne_x1_x2, ne_x1_x3, ne_x1_x4, ne_x2_x3, ne_x2_x4, ne_x3_x4⟩, ⟨by omega, by omega, by omega, by omega, by omega, by omega, by omega, by omega, by omega, by omega, by omega, by omega, by omega, by omega⟩, (by omega)⟩)
  · refine Go.k 12 [] ?_ fun _ k_ => XS.icmpYes X21.here hx rfl (pc0 := 8) (pc' := 12) rfl (hb hby d11_8) rfl (flt hc22).2.1 (by decide) (by decide) k_
    have hge : ¬ bl.toInt < z0.toInt := fun q_ => hc22 (Int32.lt_iff_toInt_lt.mpr q_)
    refine Go.k 13 [(.int bl)] ?_ fun _ k_ => XS.iloadN X21.here hx rfl (hb hby d11_12) rfl k_
    refine Go.k 14 [(.int (1 : Int32)), (.int bl)] ?_ fun _ k_ => XT.iconstV X21.here hx rfl (1 : Int32) (hb hby d11_13) (by decide) k_
    refine Go.k 15 [(.int (bl + (1 : Int32)))] ?_ fun _ k_ => XS.iadd X21.here hx rfl (hb hby d11_14) rfl k_
    refine Go.k 16 [(.int (2 : Int32)), (.int (bl + (1 : Int32)))] ?_ fun _ k_ => XT.iconstV X21.here hx rfl (2 : Int32) (hb hby d11_15) (by decide) k_
    refine Go.k 17 [(.ref w), (.int (2 : Int32)), (.int (bl + (1 : Int32)))] ?_ fun _ k_ => XS.aloadN X21.here hx rfl (hb hby d11_16) rfl rfl k_
    obtain ⟨T23, X23, e23, st23⟩ := getF X21 hx hZ hown (host := "") (Or.inl (wq hw 13 rfl)) Via.refl e21 WF (g := (mkF m 17 #[(sR w), (sI bl), .unset, .unset] [(.ref w), (.int (2 : Int32)), (.int (bl + (1 : Int32)))])) rfl rfl (hb hby d11_17)
    refine Go.t T23 20 [(.ref lv), (.int (2 : Int32)), (.int (bl + (1 : Int32)))] ?_ st23
    refine Go.k 21 [(.int (0 : Int32)), (.ref lv), (.int (2 : Int32)), (.int (bl + (1 : Int32)))] ?_ fun _ k_ => XT.iconstV X23.here hx rfl (0 : Int32) (hb hby d11_20) (by decide) k_
    refine Go.t T23 22 [(.ref x0), (.int (2 : Int32)), (.int (bl + (1 : Int32)))] ?_ (own_aaload X23 hx hZ e23 WA rfl (by decide) (by rw [show (0 : Int32).toNatClampNeg = 0 from by decide]; rfl) (g := (mkF m 21 #[(sR w), (sI bl), .unset, .unset] [(.int (0 : Int32)), (.ref lv), (.int (2 : Int32)), (.int (bl + (1 : Int32)))])) rfl rfl (hb hby d11_21))
    refine Go.t T23 23 [(.int z0), (.int (2 : Int32)), (.int (bl + (1 : Int32)))] ?_ (own_laN X23 hx hZ e23 B0 (g := (mkF m 22 #[(sR w), (sI bl), .unset, .unset] [(.ref x0), (.int (2 : Int32)), (.int (bl + (1 : Int32)))])) rfl rfl (hb hby d11_22))
    refine Go.k 24 [(.int ((2 : Int32) * z0)), (.int (bl + (1 : Int32)))] ?_ fun _ k_ => XS.imul X23.here hx rfl (hb hby d11_23) rfl k_
    refine Go.callS X23 hx hZ hown (wq hw 66 rfl) (wq hw 67 rfl) (wq hw 61 rfl) (wq hw 68 rfl) (by decide) (rmax l Z a0 hw [] (bl + (1 : Int32)) ((2 : Int32) * z0)  h0 n0 Z0 ) e23 (by decide) (W := 0) (by decide) (by decide) (by decide) (g := (mkF m 24 #[(sR w), (sI bl), .unset, .unset] [(.int ((2 : Int32) * z0)), (.int (bl + (1 : Int32)))])) (rest := []) rfl (by rw [hml]; rfl) (lenOf pd__II_I rfl) rfl (by show 2 * 0 + _ ≤ _; exact Nat.le_of_eq rfl) (hb hby d11_24) ?_
    rintro v24 T24 L24 X24 ⟨rfl, N24, e24⟩
    have M24 := Fr.app N0 N24
    show Go p e below _ T24 (mkF m 27 #[(sR w), (sI bl), .unset, .unset] [(.int (own_max (bl + (1 : Int32)) ((2 : Int32) * z0)))])
    have l1 := c_iadd bl 1
    have l2 : (1 : Int32).toInt = 1 := by decide
    obtain ⟨r1, r2⟩ := rng32 (bl + 1)
    have m1 := c_imul 2 z0
    rw [show (2 : Int32).toInt = 2 from by decide] at m1
    obtain ⟨r3, r4⟩ := rng32 (2 * z0)
    have mx := own_max_v (bl + 1) (2 * z0)
    obtain ⟨ln, eln⟩ : ∃ q_ : Int32, q_ = own_max (bl + 1) (2 * z0) := ⟨_, rfl⟩
    rw [← eln] at mx ⊢
    refine Go.s (g' := (mkF m 28 #[(sR w), (sI bl), (sI ln), .unset] [])) ?_ fun _ k_ => XS.istoreN X24.here hx rfl (hb hby d11_27) rfl (l' := #[(sR w), (sI bl), (sI ln), .unset]) rfl k_
    refine Go.k 29 [(.int (0 : Int32))] ?_ fun _ k_ => XT.iconstV X24.here hx rfl (0 : Int32) (hb hby d11_28) (by decide) k_
    refine Go.s (g' := (mkF m 30 #[(sR w), (sI bl), (sI ln), (sI (0 : Int32))] [])) ?_ fun _ k_ => XS.istoreN X24.here hx rfl (hb hby d11_29) rfl (l' := #[(sR w), (sI bl), (sI ln), (sI (0 : Int32))]) rfl k_
    exact tail0 T24 h0 _ x0 x1 x2 x3 x4 z0 z1 z2 z3 z4 ln (X24.more (by decide) (by decide)) e24 M24 (Nat.le_refl _) ⟨WE, WF, WA, WO, B0, B1, B2, B3, B4, gl, g0, g1, g2, g3, g4, ne_w_lv, ne_w_x0, ne_w_x1, ne_w_x2, ne_w_x3, ne_w_x4, ne_lv_x0, ne_lv_x1, ne_lv_x2, ne_lv_x3, ne_lv_x4, ne_x0_x1, ne_x0_x2, ne_x0_x3, ne_x0_x4, ne_x1_x2, ne_x1_x3, ne_x1_x4, ne_x2_x3, ne_x2_x4, ne_x3_x4⟩ (by omega)
theorem own_natle {j n : Int32} (h0 : 0 ≤ j.toInt) (h : ¬ j < n) : n.toNatClampNeg ≤ j.toNatClampNeg := by
  rw [Int32.lt_iff_toInt_lt] at h; simp only [Int32.toNatClampNeg]; omega
theorem d13_0 : decode prog_59_method_2_code 0 = .ok (.aload_n 0, 1) := by decide +kernel
theorem d13_1 : decode prog_59_method_2_code 1 = .ok (.getfield 11, 3) := by decide +kernel
theorem d13_4 : decode prog_59_method_2_code 4 = .ok (.iconst 0, 1) := by decide +kernel
theorem d13_5 : decode prog_59_method_2_code 5 = .ok (.aaload, 1) := by decide +kernel
theorem d13_6 : decode prog_59_method_2_code 6 = .ok (.astore_n 2, 1) := by decide +kernel
theorem d13_7 : decode prog_59_method_2_code 7 = .ok (.iload_n 1, 1) := by decide +kernel
theorem d13_8 : decode prog_59_method_2_code 8 = .ok (.aload_n 2, 1) := by decide +kernel
theorem d13_9 : decode prog_59_method_2_code 9 = .ok (.arraylength, 1) := by decide +kernel
theorem d13_10 : decode prog_59_method_2_code 10 = .ok (.if_icmp .ge 9, 3) := by decide +kernel
theorem d13_13 : decode prog_59_method_2_code 13 = .ok (.aload_n 2, 1) := by decide +kernel
theorem d13_14 : decode prog_59_method_2_code 14 = .ok (.iload_n 1, 1) := by decide +kernel
theorem d13_15 : decode prog_59_method_2_code 15 = .ok (.laload, 1) := by decide +kernel
theorem d13_16 : decode prog_59_method_2_code 16 = .ok (.goto 4, 3) := by decide +kernel
theorem d13_20 : decode prog_59_method_2_code 20 = .ok (.lreturn, 1) := by decide +kernel
theorem d13_19 : decode prog_59_method_2_code 19 = .ok (.lconst 0, 1) := by decide +kernel
set_option maxRecDepth 65536 in
set_option maxHeartbeats 40000000 in
theorem blk (l : Launch) (Z : State) (a0 : Array Value) (hw : ∀ d ∈ tables_1, d.before a0 Z = true) (ws : List Jvm.Cond) (w lv : Addr) (kL : ClassId) (x0 x1 x2 x3 x4 : Addr) (z0 z1 z2 z3 z4 : Int32) (f0 f1 f2 f3 f4 : Nat → Int64) (bl : Int32) (h0 : Heap) (n0 : Nat) (Z0 : n0 ≤ h0.size) (HW : own_WI Z h0 n0 w lv kL x0 x1 x2 x3 x4 z0 z1 z2 z3 z4 f0 f1 f2 f3 f4) (b0 : 0 ≤ bl.toInt) :
    Does l (⟨"com/example/slantwise/slantwise/engine/WordIndex", "block", "(I)J"⟩ : MethodName) prog_59_method_2_code 3 (some .long) ws ({ frames := 0, cells := 0, slots := 0, locals := 0 } : Room) #[(.ref w), (.int bl)] Z h0 (fun v h L => v = some (.long (f0 bl.toNatClampNeg)) ∧ Fr n0 L ∧ h = h0) := by
  refine Does.of (plainFor_of_name pn_com_example_slantwise_slantwise_engine_WordIndex) ?_
  intro p e s m below meth c s₁ hx hby hml hret hlk hown0 hnm hZ X0 e0
  have hown : s.vm.findClass "com/example/slantwise/slantwise/engine/WordIndex" = some m.cls := hown0
  have N0 := Fr.nil n0
  obtain ⟨WE, WF, WA, WO, B0, B1, B2, B3, B4, gl, g0, g1, g2, g3, g4, ne_w_lv, ne_w_x0, ne_w_x1, ne_w_x2, ne_w_x3, ne_w_x4, ne_lv_x0, ne_lv_x1, ne_lv_x2, ne_lv_x3, ne_lv_x4, ne_x0_x1, ne_x0_x2, ne_x0_x3, ne_x0_x4, ne_x1_x2, ne_x1_x3, ne_x1_x4, ne_x2_x3, ne_x2_x4, ne_x3_x4⟩ := HW
  refine Go.cast (g' := (mkF m 0 #[(sR w), (sI bl), .unset] [])) (by first | (simp [entryFrame, mkF, argsToLocals, Value.category, maxLocals, sI, sR, sJ]; done) | rfl) ?_
  refine Go.k 1 [(.ref w)] ?_ fun _ k_ => XS.aloadN X0.here hx rfl (hb hby d13_0) rfl rfl k_
  obtain ⟨T1, X1, e1, st1⟩ := getF X0 hx hZ hown (host := "") (Or.inl (wq hw 13 rfl)) Via.refl e0 WF (g := (mkF m 1 #[(sR w), (sI bl), .unset] [(.ref w)])) rfl rfl (hb hby d13_1)
  refine Go.t T1 4 [(.ref lv)] ?_ st1
  refine Go.k 5 [(.int (0 : Int32)), (.ref lv)] ?_ fun _ k_ => XT.iconstV X1.here hx rfl (0 : Int32) (hb hby d13_4) (by decide) k_
  refine Go.t T1 6 [(.ref x0)] ?_ (own_aaload X1 hx hZ e1 WA rfl (by decide) (by rw [show (0 : Int32).toNatClampNeg = 0 from by decide]; rfl) (g := (mkF m 5 #[(sR w), (sI bl), .unset] [(.int (0 : Int32)), (.ref lv)])) rfl rfl (hb hby d13_5))
  refine Go.s (g' := (mkF m 7 #[(sR w), (sI bl), (sR x0)] [])) ?_ fun _ k_ => XS.astoreN X1.here hx rfl (hb hby d13_6) rfl rfl (l' := #[(sR w), (sI bl), (sR x0)]) rfl k_
  refine Go.k 8 [(.int bl)] ?_ fun _ k_ => XS.iloadN X1.here hx rfl (hb hby d13_7) rfl k_
  refine Go.k 9 [(.ref x0), (.int bl)] ?_ fun _ k_ => XS.aloadN X1.here hx rfl (hb hby d13_8) rfl rfl k_
  refine Go.t T1 10 [(.int z0), (.int bl)] ?_ (own_laN X1 hx hZ e1 B0 (g := (mkF m 9 #[(sR w), (sI bl), (sR x0)] [(.ref x0), (.int bl)])) rfl rfl (hb hby d13_9))
  by_cases hc2 : bl < z0
  · refine Go.k 13 [] ?_ fun _ k_ => XS.icmpNo X1.here hx rfl (hb hby d13_10) rfl (tlt hc2).2.1 k_
    refine Go.k 14 [(.ref x0)] ?_ fun _ k_ => XS.aloadN X1.here hx rfl (hb hby d13_13) rfl rfl k_
    refine Go.k 15 [(.int bl), (.ref x0)] ?_ fun _ k_ => XS.iloadN X1.here hx rfl (hb hby d13_14) rfl k_
    refine Go.t T1 16 [(.long (f0 bl.toNatClampNeg))] ?_ (own_laL X1 hx hZ e1 B0 ⟨own_i_nlt rfl (by decide : (0 : Int32).toInt = 0) (by omega), hc2⟩ (g := (mkF m 15 #[(sR w), (sI bl), (sR x0)] [(.int bl), (.ref x0)])) rfl rfl (hb hby d13_15))
    refine Go.k 20 [(.long (f0 bl.toNatClampNeg))] ?_ fun _ k_ => XS.goto X1.here hx rfl (pc0 := 16) (pc' := 20) rfl (hb hby d13_16) (by decide) (by decide) k_
    exact Go.retV (t := .long) X1 hx hret hlk (by decide) (by decide) rfl (Or.inr (Or.inl ⟨rfl, rfl, _, rfl⟩)) (hb hby d13_20) ⟨rfl, N0, e1⟩
  · refine Go.k 19 [] ?_ fun _ k_ => XS.icmpYes X1.here hx rfl (pc0 := 10) (pc' := 19) rfl (hb hby d13_10) rfl (flt hc2).2.1 (by decide) (by decide) k_
    refine Go.k 20 [(.long (0 : Int64))] ?_ fun _ k_ => XT.lconstV X1.here hx rfl (0 : Int64) (hb hby d13_19) (by decide) k_
    exact Go.retV (t := .long) X1 hx hret hlk (by decide) (by decide) rfl (Or.inr (Or.inl ⟨rfl, rfl, _, rfl⟩)) (hb hby d13_20) ⟨(congrArg (fun q_ : Int64 => some (Value.long q_)) (B0.2 _ (own_natle b0 hc2)).symm), N0, e1⟩
theorem own_arith (n0 w lv : Nat) (h1 : n0 ≤ lv) (h2 : w < lv) (i j : Nat) : n0 ≤ lv + 1 + i ∧ ¬ w = lv + 1 + i ∧ ¬ lv = lv + 1 + i ∧ (i ≠ j → ¬ lv + 1 + i = lv + 1 + j) := by omega
theorem d12_0 : decode prog_59_method_1_code 0 = .ok (.aload_n 0, 1) := by decide +kernel
theorem d12_1 : decode prog_59_method_1_code 1 = .ok (.invokespecial 1, 3) := by decide +kernel
theorem d12_4 : decode prog_59_method_1_code 4 = .ok (.aload_n 0, 1) := by decide +kernel
theorem d12_5 : decode prog_59_method_1_code 5 = .ok (.iconst 5, 1) := by decide +kernel
theorem d12_6 : decode prog_59_method_1_code 6 = .ok (.iconst 1, 1) := by decide +kernel
theorem d12_7 : decode prog_59_method_1_code 7 = .ok (.multianewarray 9 2, 4) := by decide +kernel
theorem d_multi : decode prog_59_method_1_code 7 = .ok (.multianewarray 9 2, 4) := by decide +kernel
theorem d12_11 : decode prog_59_method_1_code 11 = .ok (.putfield 11, 3) := by decide +kernel
theorem d12_14 : decode prog_59_method_1_code 14 = .ok (.return_, 1) := by decide +kernel
set_option maxRecDepth 65536 in
set_option maxHeartbeats 40000000 in
theorem ini (l : Launch) (Z : State) (a0 : Array Value) (hw : ∀ d ∈ tables_1, d.before a0 Z = true) (ws : List Jvm.Cond) (w : Addr) (h0 : Heap) (n0 : Nat) (Z0 : n0 ≤ h0.size) (WE : Exa Z h0 w "com/example/slantwise/slantwise/engine/WordIndex") (WF : Fld Z h0 w "com/example/slantwise/slantwise/engine/WordIndex" "levels" "[[J" .null) (gw : n0 ≤ w) :
    Does l (⟨"com/example/slantwise/slantwise/engine/WordIndex", "<init>", "()V"⟩ : MethodName) prog_59_method_1_code 1 none ws ({ frames := 1, cells := 6, slots := 10, locals := 14 } : Room) #[(.ref w)] Z h0 (fun v h L => v = none ∧ Fr n0 L ∧ h0.size ≤ h.size ∧ ∃ lv kL x0 x1 x2 x3 x4, own_WI Z h n0 w lv kL x0 x1 x2 x3 x4 1 1 1 1 1 own_z own_z own_z own_z own_z) := by
  refine Does.of (plainFor_of_name pn_com_example_slantwise_slantwise_engine_WordIndex) ?_
  intro p e s m below meth c s₁ hx hby hml hret hlk hown0 hnm hZ X0 e0
  have hown : s.vm.findClass "com/example/slantwise/slantwise/engine/WordIndex" = some m.cls := hown0
  have N0 := Fr.nil n0
  refine Go.cast (g' := (mkF m 0 #[(sR w)] [])) (by first | (simp [entryFrame, mkF, argsToLocals, Value.category, maxLocals, sI, sR, sJ]; done) | rfl) ?_
  refine Go.k 1 [(.ref w)] ?_ fun _ k_ => XS.aloadN X0.here hx rfl (hb hby d12_0) rfl rfl k_
  obtain ⟨T1, X1, e1, st1⟩ := initO X0 hx hZ hown (wq hw 7 rfl) (wq hw 8 rfl) (wq hw 9 rfl) e0 (g := (mkF m 1 #[(sR w)] [(.ref w)])) rfl (by rw [hml]; rfl) rfl (hb hby d12_1) (by decide) (W := 0) (by show 2 * 0 + _ ≤ _; exact Nat.le_of_eq rfl) (by decide)
  refine Go.t T1 4 [] ?_ st1
  refine Go.k 5 [(.ref w)] ?_ fun _ k_ => XS.aloadN X1.here hx rfl (hb hby d12_4) rfl rfl k_
  refine Go.k 6 [(.int (5 : Int32)), (.ref w)] ?_ fun _ k_ => XT.iconstV X1.here hx rfl (5 : Int32) (hb hby d12_5) (by decide) k_
  refine Go.k 7 [(.int (1 : Int32)), (.int (5 : Int32)), (.ref w)] ?_ fun _ k_ => XT.iconstV X1.here hx rfl (1 : Int32) (hb hby d12_6) (by decide) k_
  obtain ⟨T2, h2, kL, kI, X2, e2, E2, WA, WO, WX, IX, st2⟩ := gridM X1 hx hZ hown (C := "[J") (ad := "[[J") (ty := .long) (by decide) (by decide) (wq hw 10 rfl) (wq hw 11 rfl) (wq hw 12 rfl) e1 (g := (mkF m 7 #[(sR w)] [(.int (1 : Int32)), (.int (5 : Int32)), (.ref w)])) rfl (hb hby d_multi) (n := 5) (k := 1) rfl (by decide) (by decide) (xs := [h0.size + 1 + 0, h0.size + 1 + 1, h0.size + 1 + 2, h0.size + 1 + 3, h0.size + 1 + 4]) (N := 5) (by decide) rfl (cap := 1) (by decide) (by decide) (by decide) rfl (by decide) (by decide) (by decide)
  have A0_ := (IX 0 _ rfl).1
  have A1_ := (IX 1 _ rfl).1
  have A2_ := (IX 2 _ rfl).1
  have A3_ := (IX 3 _ rfl).1
  have A4_ := (IX 4 _ rfl).1
  obtain ⟨lv, glv⟩ : ∃ q_, q_ = h0.size := ⟨_, rfl⟩
  have szl : n0 ≤ lv := Nat.le_trans Z0 (Nat.le_of_eq glv.symm)
  have wlt : w < lv := by rw [glv]; exact WE.lt
  obtain ⟨x0, gx0⟩ : ∃ q_, q_ = h0.size + 1 + 0 := ⟨_, rfl⟩
  obtain ⟨x1, gx1⟩ : ∃ q_, q_ = h0.size + 1 + 1 := ⟨_, rfl⟩
  obtain ⟨x2, gx2⟩ : ∃ q_, q_ = h0.size + 1 + 2 := ⟨_, rfl⟩
  obtain ⟨x3, gx3⟩ : ∃ q_, q_ = h0.size + 1 + 3 := ⟨_, rfl⟩
  obtain ⟨x4, gx4⟩ : ∃ q_, q_ = h0.size + 1 + 4 := ⟨_, rfl⟩
  rw [← glv] at st2
  have WA1 : Arv Z h2 lv kL (.array .long) (5 : Int32) [(.ref x0), (.ref x1), (.ref x2), (.ref x3), (.ref x4)] .null := by rw [glv, gx0, gx1, gx2, gx3, gx4]; exact WA
  have B0 : LA Z h2 x0 1 own_z := by rw [gx0]; exact LA.new (Arv.new A0_ (by decide))
  have B1 : LA Z h2 x1 1 own_z := by rw [gx1]; exact LA.new (Arv.new A1_ (by decide))
  have B2 : LA Z h2 x2 1 own_z := by rw [gx2]; exact LA.new (Arv.new A2_ (by decide))
  have B3 : LA Z h2 x3 1 own_z := by rw [gx3]; exact LA.new (Arv.new A3_ (by decide))
  have B4 : LA Z h2 x4 1 own_z := by rw [gx4]; exact LA.new (Arv.new A4_ (by decide))
  have ex0 : x0 = lv + 1 + 0 := by rw [gx0, glv]
  have ex1 : x1 = lv + 1 + 1 := by rw [gx1, glv]
  have ex2 : x2 = lv + 1 + 2 := by rw [gx2, glv]
  have ex3 : x3 = lv + 1 + 3 := by rw [gx3, glv]
  have ex4 : x4 = lv + 1 + 4 := by rw [gx4, glv]
  refine Go.t T2 11 [(.ref lv), (.ref w)] ?_ st2
  obtain ⟨T3, h3, X3, e3, W3, st3⟩ := putF X2 hx hZ hown (host := "") (Or.inl (wq hw 13 rfl)) Via.refl e2 (WF.ext E2) (WE.ext E2) (Or.inr ⟨(wq hw 14 rfl), rfl, hnm⟩) (wq hw 2 rfl) (ty := (.array (.array .long))) (by decide) rfl rfl (g := (mkF m 11 #[(sR w)] [(.ref lv), (.ref w)])) rfl rfl (hb hby d12_11)
  have N3 := Fr.snoc X3 N0 gw
  refine Go.t T3 14 [] ?_ st3
  exact Go.retU X3 hx hret hlk (by decide) (by decide) (hb hby d12_14) (by rw [e3]; exact ⟨rfl, N3, (Nat.le_trans (Nat.le_trans (Nat.le_refl _) E2.1) (Nat.le_of_eq W3.size.symm)), lv, kL, x0, x1, x2, x3, x4, ⟨((WE.ext E2).wr W3), ((WF.ext E2).same W3), (WA1.other W3 (fun q_ => (Nat.ne_of_lt wlt : ¬ w = lv) q_.symm)), WO, (B0.other W3 (fun q_ => ((by rw [ex0]; exact (own_arith n0 w lv szl wlt 0 0).2.1) : ¬ w = x0) q_.symm)), (B1.other W3 (fun q_ => ((by rw [ex1]; exact (own_arith n0 w lv szl wlt 1 0).2.1) : ¬ w = x1) q_.symm)), (B2.other W3 (fun q_ => ((by rw [ex2]; exact (own_arith n0 w lv szl wlt 2 0).2.1) : ¬ w = x2) q_.symm)), (B3.other W3 (fun q_ => ((by rw [ex3]; exact (own_arith n0 w lv szl wlt 3 0).2.1) : ¬ w = x3) q_.symm)), (B4.other W3 (fun q_ => ((by rw [ex4]; exact (own_arith n0 w lv szl wlt 4 0).2.1) : ¬ w = x4) q_.symm)), szl, (by rw [ex0]; exact (own_arith n0 w lv szl wlt 0 0).1), (by rw [ex1]; exact (own_arith n0 w lv szl wlt 1 0).1), (by rw [ex2]; exact (own_arith n0 w lv szl wlt 2 0).1), (by rw [ex3]; exact (own_arith n0 w lv szl wlt 3 0).1), (by rw [ex4]; exact (own_arith n0 w lv szl wlt 4 0).1), (Nat.ne_of_lt wlt : ¬ w = lv), ((by rw [ex0]; exact (own_arith n0 w lv szl wlt 0 0).2.1) : ¬ w = x0), ((by rw [ex1]; exact (own_arith n0 w lv szl wlt 1 0).2.1) : ¬ w = x1), ((by rw [ex2]; exact (own_arith n0 w lv szl wlt 2 0).2.1) : ¬ w = x2), ((by rw [ex3]; exact (own_arith n0 w lv szl wlt 3 0).2.1) : ¬ w = x3), ((by rw [ex4]; exact (own_arith n0 w lv szl wlt 4 0).2.1) : ¬ w = x4), ((by rw [ex0]; exact (own_arith n0 w lv szl wlt 0 0).2.2.1) : ¬ lv = x0), ((by rw [ex1]; exact (own_arith n0 w lv szl wlt 1 0).2.2.1) : ¬ lv = x1), ((by rw [ex2]; exact (own_arith n0 w lv szl wlt 2 0).2.2.1) : ¬ lv = x2), ((by rw [ex3]; exact (own_arith n0 w lv szl wlt 3 0).2.2.1) : ¬ lv = x3), ((by rw [ex4]; exact (own_arith n0 w lv szl wlt 4 0).2.2.1) : ¬ lv = x4), ((by rw [ex0, ex1]; exact (own_arith n0 w lv szl wlt 0 1).2.2.2 (by decide)) : ¬ x0 = x1), ((by rw [ex0, ex2]; exact (own_arith n0 w lv szl wlt 0 2).2.2.2 (by decide)) : ¬ x0 = x2), ((by rw [ex0, ex3]; exact (own_arith n0 w lv szl wlt 0 3).2.2.2 (by decide)) : ¬ x0 = x3), ((by rw [ex0, ex4]; exact (own_arith n0 w lv szl wlt 0 4).2.2.2 (by decide)) : ¬ x0 = x4), ((by rw [ex1, ex2]; exact (own_arith n0 w lv szl wlt 1 2).2.2.2 (by decide)) : ¬ x1 = x2), ((by rw [ex1, ex3]; exact (own_arith n0 w lv szl wlt 1 3).2.2.2 (by decide)) : ¬ x1 = x3), ((by rw [ex1, ex4]; exact (own_arith n0 w lv szl wlt 1 4).2.2.2 (by decide)) : ¬ x1 = x4), ((by rw [ex2, ex3]; exact (own_arith n0 w lv szl wlt 2 3).2.2.2 (by decide)) : ¬ x2 = x3), ((by rw [ex2, ex4]; exact (own_arith n0 w lv szl wlt 2 4).2.2.2 (by decide)) : ¬ x2 = x4), ((by rw [ex3, ex4]; exact (own_arith n0 w lv szl wlt 3 4).2.2.2 (by decide)) : ¬ x3 = x4)⟩⟩)
theorem d14_0 : decode prog_59_method_5_code 0 = .ok (.aload_n 0, 1) := by decide +kernel
theorem d14_1 : decode prog_59_method_5_code 1 = .ok (.iload_n 1, 1) := by decide +kernel
theorem d14_2 : decode prog_59_method_5_code 2 = .ok (.invokevirtual 21, 3) := by decide +kernel
theorem pd__I_V : parseMethodDescriptor "(I)V" = some ⟨[.int], none⟩ := by decide +kernel
theorem d14_5 : decode prog_59_method_5_code 5 = .ok (.iload_n 1, 1) := by decide +kernel
theorem d14_6 : decode prog_59_method_5_code 6 = .ok (.istore 4, 2) := by decide +kernel
theorem d14_8 : decode prog_59_method_5_code 8 = .ok (.lload_n 2, 1) := by decide +kernel
theorem d14_9 : decode prog_59_method_5_code 9 = .ok (.lstore 5, 2) := by decide +kernel
theorem d14_11 : decode prog_59_method_5_code 11 = .ok (.iconst 0, 1) := by decide +kernel
theorem d14_12 : decode prog_59_method_5_code 12 = .ok (.istore 7, 2) := by decide +kernel
theorem d14_14 : decode prog_59_method_5_code 14 = .ok (.iload 7, 2) := by decide +kernel
theorem d14_16 : decode prog_59_method_5_code 16 = .ok (.iconst 5, 1) := by decide +kernel
theorem d14_17 : decode prog_59_method_5_code 17 = .ok (.if_icmp .ge 67, 3) := by decide +kernel
theorem d14_20 : decode prog_59_method_5_code 20 = .ok (.lload 5, 2) := by decide +kernel
theorem d14_22 : decode prog_59_method_5_code 22 = .ok (.lconst 0, 1) := by decide +kernel
theorem d14_23 : decode prog_59_method_5_code 23 = .ok (.lcmp, 1) := by decide +kernel
theorem d14_24 : decode prog_59_method_5_code 24 = .ok (.ifCond .eq 60, 3) := by decide +kernel
theorem d14_84 : decode prog_59_method_5_code 84 = .ok (.return_, 1) := by decide +kernel
theorem d14_27 : decode prog_59_method_5_code 27 = .ok (.aload_n 0, 1) := by decide +kernel
theorem d14_28 : decode prog_59_method_5_code 28 = .ok (.getfield 11, 3) := by decide +kernel
theorem d14_31 : decode prog_59_method_5_code 31 = .ok (.iload 7, 2) := by decide +kernel
theorem d14_33 : decode prog_59_method_5_code 33 = .ok (.aaload, 1) := by decide +kernel
theorem d14_34 : decode prog_59_method_5_code 34 = .ok (.iload 4, 2) := by decide +kernel
theorem d14_36 : decode prog_59_method_5_code 36 = .ok (.laload, 1) := by decide +kernel
theorem d14_37 : decode prog_59_method_5_code 37 = .ok (.lstore 8, 2) := by decide +kernel
theorem d14_39 : decode prog_59_method_5_code 39 = .ok (.aload_n 0, 1) := by decide +kernel
theorem d14_40 : decode prog_59_method_5_code 40 = .ok (.getfield 11, 3) := by decide +kernel
theorem d14_43 : decode prog_59_method_5_code 43 = .ok (.iload 7, 2) := by decide +kernel
theorem d14_45 : decode prog_59_method_5_code 45 = .ok (.aaload, 1) := by decide +kernel
theorem d14_46 : decode prog_59_method_5_code 46 = .ok (.iload 4, 2) := by decide +kernel
theorem d14_48 : decode prog_59_method_5_code 48 = .ok (.lload 8, 2) := by decide +kernel
theorem d14_50 : decode prog_59_method_5_code 50 = .ok (.lload 5, 2) := by decide +kernel
theorem d14_52 : decode prog_59_method_5_code 52 = .ok (.lor, 1) := by decide +kernel
theorem d14_53 : decode prog_59_method_5_code 53 = .ok (.lastore, 1) := by decide +kernel
theorem d14_54 : decode prog_59_method_5_code 54 = .ok (.lload 8, 2) := by decide +kernel
theorem d14_56 : decode prog_59_method_5_code 56 = .ok (.lconst 0, 1) := by decide +kernel
theorem d14_57 : decode prog_59_method_5_code 57 = .ok (.lcmp, 1) := by decide +kernel
theorem d14_58 : decode prog_59_method_5_code 58 = .ok (.ifCond .ne 10, 3) := by decide +kernel
theorem d14_61 : decode prog_59_method_5_code 61 = .ok (.lconst 1, 1) := by decide +kernel
theorem d14_62 : decode prog_59_method_5_code 62 = .ok (.iload 4, 2) := by decide +kernel
theorem d14_64 : decode prog_59_method_5_code 64 = .ok (.lshl, 1) := by decide +kernel
theorem d14_65 : decode prog_59_method_5_code 65 = .ok (.goto 4, 3) := by decide +kernel
theorem d14_69 : decode prog_59_method_5_code 69 = .ok (.lstore 5, 2) := by decide +kernel
theorem d14_71 : decode prog_59_method_5_code 71 = .ok (.iload 4, 2) := by decide +kernel
theorem d14_73 : decode prog_59_method_5_code 73 = .ok (.bipush 6, 2) := by decide +kernel
theorem d14_75 : decode prog_59_method_5_code 75 = .ok (.iushr, 1) := by decide +kernel
theorem d14_76 : decode prog_59_method_5_code 76 = .ok (.istore 4, 2) := by decide +kernel
theorem d14_78 : decode prog_59_method_5_code 78 = .ok (.iinc 7 1, 3) := by decide +kernel
theorem d14_81 : decode prog_59_method_5_code 81 = .ok (.goto (-67), 3) := by decide +kernel
theorem d14_68 : decode prog_59_method_5_code 68 = .ok (.lconst 0, 1) := by decide +kernel
set_option maxRecDepth 65536 in
set_option maxHeartbeats 40000000 in
theorem add (l : Launch) (Z : State) (a0 : Array Value) (hw : ∀ d ∈ tables_1, d.before a0 Z = true) (ws : List Jvm.Cond) (w lv : Addr) (kL : ClassId) (x0 x1 x2 x3 x4 : Addr) (z0 z1 z2 z3 z4 : Int32) (f0 f1 f2 f3 f4 : Nat → Int64) (bl : Int32) (bits : Int64) (h0 : Heap) (n0 : Nat) (Z0 : n0 ≤ h0.size) (HW : own_WI Z h0 n0 w lv kL x0 x1 x2 x3 x4 z0 z1 z2 z3 z4 f0 f1 f2 f3 f4) (HC : own_Ch z0 z1 z2 z3 z4) (b0 : 0 ≤ bl.toInt) (b1 : bl.toInt ≤ 8191) (HP : own_P f0 f1 ∧ own_P f1 f2 ∧ own_P f2 f3 ∧ own_P f3 f4) :
    Does l (⟨"com/example/slantwise/slantwise/engine/WordIndex", "addAll", "(IJ)V"⟩ : MethodName) prog_59_method_5_code 10 none ws ({ frames := 3, cells := 3, slots := 16644, locals := 80 } : Room) #[(.ref w), (.int bl), (.long bits)] Z h0 (fun v h L => v = none ∧ Fr n0 L ∧ h0.size ≤ h.size ∧ ∃ y0 y1 y2 y3 y4 u0 u1 u2 u3 u4 g1 g2 g3 g4, own_WI Z h n0 w lv kL y0 y1 y2 y3 y4 u0 u1 u2 u3 u4 (own_or f0 bl.toNatClampNeg bits) g1 g2 g3 g4 ∧ own_Ch u0 u1 u2 u3 u4 ∧ (own_P (own_or f0 bl.toNatClampNeg bits) g1 ∧ own_P g1 g2 ∧ own_P g2 g3 ∧ own_P g3 g4)) := by
  refine Does.of (plainFor_of_name pn_com_example_slantwise_slantwise_engine_WordIndex) ?_
  intro p e s m below meth c s₁ hx hby hml hret hlk hown0 hnm hZ X0 e0
  have hown : s.vm.findClass "com/example/slantwise/slantwise/engine/WordIndex" = some m.cls := hown0
  have N0 := Fr.nil n0
  have HW0 := HW
  obtain ⟨WE, WF, WA, WO, B0, B1, B2, B3, B4, gl, g0, g1, g2, g3, g4, ne_w_lv, ne_w_x0, ne_w_x1, ne_w_x2, ne_w_x3, ne_w_x4, ne_lv_x0, ne_lv_x1, ne_lv_x2, ne_lv_x3, ne_lv_x4, ne_x0_x1, ne_x0_x2, ne_x0_x3, ne_x0_x4, ne_x1_x2, ne_x1_x3, ne_x1_x4, ne_x2_x3, ne_x2_x4, ne_x3_x4⟩ := HW
  obtain ⟨hp0, hp1, hp2, hp3⟩ := HP
  refine Go.cast (g' := (mkF m 0 #[(sR w), (sI bl), (sJ bits), .second, .unset, .unset, .unset, .unset, .unset, .unset] [])) (by first | (simp [entryFrame, mkF, argsToLocals, Value.category, maxLocals, sI, sR, sJ]; done) | rfl) ?_
  refine Go.k 1 [(.ref w)] ?_ fun _ k_ => XS.aloadN X0.here hx rfl (hb hby d14_0) rfl rfl k_
  refine Go.k 2 [(.int bl), (.ref w)] ?_ fun _ k_ => XS.iloadN X0.here hx rfl (hb hby d14_1) rfl k_
  refine Go.callP X0 hx hZ hown (wq hw 20 rfl) (wq hw 22 rfl) (wq hw 2 rfl) (wq hw 21 rfl) (wq hw 3 rfl) (wq hw 23 rfl) (by decide) WE (res l Z a0 hw [] w lv kL x0 x1 x2 x3 x4 z0 z1 z2 z3 z4 f0 f1 f2 f3 f4 bl h0 n0 Z0 HW0 HC b0 b1) e0 (by decide) (W := 0) (by decide) (by decide) (by decide) (g := (mkF m 2 #[(sR w), (sI bl), (sJ bits), .second, .unset, .unset, .unset, .unset, .unset, .unset] [(.int bl), (.ref w)])) (rest := []) rfl (by rw [hml]; rfl) (lenOf pd__I_V rfl) rfl (by show 2 * 0 + _ ≤ _; exact Nat.le_of_eq rfl) (hb hby d14_2) ?_
  rintro v1 T1 L1 X1 ⟨rfl, N1, S1, y0, y1, y2, y3, y4, u0, u1, u2, u3, u4, HWr, HCr, hbl⟩
  have M1 := Fr.app N0 N1
  obtain ⟨WEr, WFr, WAr, WOr, B0r, B1r, B2r, B3r, B4r, glr, g0r, g1r, g2r, g3r, g4r, ne_w_lvr, ne_w_x0r, ne_w_x1r, ne_w_x2r, ne_w_x3r, ne_w_x4r, ne_lv_x0r, ne_lv_x1r, ne_lv_x2r, ne_lv_x3r, ne_lv_x4r, ne_x0_x1r, ne_x0_x2r, ne_x0_x3r, ne_x0_x4r, ne_x1_x2r, ne_x1_x3r, ne_x1_x4r, ne_x2_x3r, ne_x2_x4r, ne_x3_x4r⟩ := HWr
  obtain ⟨c0ar, c0br, c1ar, c1br, c2ar, c2br, c3ar, c3br, c4ar, c4br, d0r, d1r, d2r, d3r⟩ := HCr
  show Go p e below _ T1 (mkF m 5 #[(sR w), (sI bl), (sJ bits), .second, .unset, .unset, .unset, .unset, .unset, .unset] [])
  refine Go.k 6 [(.int bl)] ?_ fun _ k_ => XS.iloadN X1.here hx rfl (hb hby d14_5) rfl k_
  refine Go.s (g' := (mkF m 8 #[(sR w), (sI bl), (sJ bits), .second, (sI bl), .unset, .unset, .unset, .unset, .unset] [])) ?_ fun _ k_ => XS.istore X1.here hx rfl (hb hby d14_6) rfl (l' := #[(sR w), (sI bl), (sJ bits), .second, (sI bl), .unset, .unset, .unset, .unset, .unset]) rfl k_
  refine Go.k 9 [(.long bits)] ?_ fun _ k_ => XT.lloadN X1.here hx rfl (hb hby d14_8) rfl k_
  refine Go.s (g' := (mkF m 11 #[(sR w), (sI bl), (sJ bits), .second, (sI bl), (sJ bits), .second, .unset, .unset, .unset] [])) ?_ fun _ k_ => XT.lstore X1.here hx rfl (hb hby d14_9) rfl (l' := #[(sR w), (sI bl), (sJ bits), .second, (sI bl), (sJ bits), .second, .unset, .unset, .unset]) rfl k_
  refine Go.k 12 [(.int (0 : Int32))] ?_ fun _ k_ => XT.iconstV X1.here hx rfl (0 : Int32) (hb hby d14_11) (by decide) k_
  refine Go.s (g' := (mkF m 14 #[(sR w), (sI bl), (sJ bits), .second, (sI bl), (sJ bits), .second, (sI (0 : Int32)), .unset, .unset] [])) ?_ fun _ k_ => XS.istore X1.here hx rfl (hb hby d14_12) rfl (l' := #[(sR w), (sI bl), (sJ bits), .second, (sI bl), (sJ bits), .second, (sI (0 : Int32)), .unset, .unset]) rfl k_
  refine Go.k 16 [(.int (0 : Int32))] ?_ fun _ k_ => XS.iload X1.here hx rfl (hb hby d14_14) rfl k_
  refine Go.k 17 [(.int (5 : Int32)), (.int (0 : Int32))] ?_ fun _ k_ => XT.iconstV X1.here hx rfl (5 : Int32) (hb hby d14_16) (by decide) k_
  refine Go.k 20 [] ?_ fun _ k_ => XS.icmpNo X1.here hx rfl (hb hby d14_17) rfl (by decide) k_
  refine Go.k 22 [(.long bits)] ?_ fun _ k_ => XT.lload X1.here hx rfl (hb hby d14_20) rfl k_
  refine Go.k 23 [(.long (0 : Int64)), (.long bits)] ?_ fun _ k_ => XT.lconstV X1.here hx rfl (0 : Int64) (hb hby d14_22) (by decide) k_
  refine Go.k 24 [(.int (lcmpW bits (0 : Int64)))] ?_ fun _ k_ => XT.lcmp X1.here hx rfl (hb hby d14_23) rfl k_
  by_cases hc2 : bits = (0 : Int64)
  · refine Go.k 84 [] ?_ fun _ k_ => XS.ifYes X1.here hx rfl (pc0 := 24) (pc' := 84) rfl (hb hby d14_24) rfl ((if0 _ _).trans (teq ((lw_eq _ _).mpr hc2)).1) (by decide) (by decide) k_
    exact Go.retU X1 hx hret hlk (by decide) (by decide) (hb hby d14_84) (by rw [own_or0 _ _ _ hc2]; exact ⟨rfl, M1, (Nat.le_trans (Nat.le_refl _) S1), y0, y1, y2, y3, y4, u0, u1, u2, u3, u4, f1, f2, f3, f4, ⟨WEr, WFr, WAr, WOr, B0r, B1r, B2r, B3r, B4r, glr, g0r, g1r, g2r, g3r, g4r, ne_w_lvr, ne_w_x0r, ne_w_x1r, ne_w_x2r, ne_w_x3r, ne_w_x4r, ne_lv_x0r, ne_lv_x1r, ne_lv_x2r, ne_lv_x3r, ne_lv_x4r, ne_x0_x1r, ne_x0_x2r, ne_x0_x3r, ne_x0_x4r, ne_x1_x2r, ne_x1_x3r, ne_x1_x4r, ne_x2_x3r, ne_x2_x4r, ne_x3_x4r⟩, ⟨by omega, by omega, by omega, by omega, by omega, by omega, by omega, by omega, by omega, by omega, by omega, by omega, by omega, by omega⟩, ⟨hp0, hp1, hp2, hp3⟩⟩)
  · refine Go.k 27 [] ?_ fun _ k_ => XS.ifNo X1.here hx rfl (hb hby d14_24) rfl ((if0 _ _).trans (feq (fun q_ => hc2 ((lw_eq _ _).mp q_))).1) k_
    refine Go.k 28 [(.ref w)] ?_ fun _ k_ => XS.aloadN X1.here hx rfl (hb hby d14_27) rfl rfl k_
    obtain ⟨T3, X3, e3, st3⟩ := getF X1 hx hZ hown (host := "") (Or.inl (wq hw 13 rfl)) Via.refl rfl WFr (g := (mkF m 28 #[(sR w), (sI bl), (sJ bits), .second, (sI bl), (sJ bits), .second, (sI (0 : Int32)), .unset, .unset] [(.ref w)])) rfl rfl (hb hby d14_28)
    refine Go.t T3 31 [(.ref lv)] ?_ st3
    refine Go.k 33 [(.int (0 : Int32)), (.ref lv)] ?_ fun _ k_ => XS.iload X3.here hx rfl (hb hby d14_31) rfl k_
    refine Go.t T3 34 [(.ref y0)] ?_ (own_aaload X3 hx hZ e3 WAr rfl (by decide) (by rw [show (0 : Int32).toNatClampNeg = 0 from by decide]; rfl) (g := (mkF m 33 #[(sR w), (sI bl), (sJ bits), .second, (sI bl), (sJ bits), .second, (sI (0 : Int32)), .unset, .unset] [(.int (0 : Int32)), (.ref lv)])) rfl rfl (hb hby d14_33))
    refine Go.k 36 [(.int bl), (.ref y0)] ?_ fun _ k_ => XS.iload X3.here hx rfl (hb hby d14_34) rfl k_
    refine Go.t T3 37 [(.long (f0 bl.toNatClampNeg))] ?_ (own_laL X3 hx hZ e3 B0r ⟨own_i_nlt rfl (by decide : (0 : Int32).toInt = 0) (by omega), own_i_lt rfl rfl (by omega)⟩ (g := (mkF m 36 #[(sR w), (sI bl), (sJ bits), .second, (sI bl), (sJ bits), .second, (sI (0 : Int32)), .unset, .unset] [(.int bl), (.ref y0)])) rfl rfl (hb hby d14_36))
    refine Go.s (g' := (mkF m 39 #[(sR w), (sI bl), (sJ bits), .second, (sI bl), (sJ bits), .second, (sI (0 : Int32)), (sJ (f0 bl.toNatClampNeg)), .second] [])) ?_ fun _ k_ => XT.lstore X3.here hx rfl (hb hby d14_37) rfl (l' := #[(sR w), (sI bl), (sJ bits), .second, (sI bl), (sJ bits), .second, (sI (0 : Int32)), (sJ (f0 bl.toNatClampNeg)), .second]) rfl k_
    refine Go.k 40 [(.ref w)] ?_ fun _ k_ => XS.aloadN X3.here hx rfl (hb hby d14_39) rfl rfl k_
    obtain ⟨T4, X4, e4, st4⟩ := getF X3 hx hZ hown (host := "") (Or.inl (wq hw 13 rfl)) Via.refl e3 WFr (g := (mkF m 40 #[(sR w), (sI bl), (sJ bits), .second, (sI bl), (sJ bits), .second, (sI (0 : Int32)), (sJ (f0 bl.toNatClampNeg)), .second] [(.ref w)])) rfl rfl (hb hby d14_40)
    refine Go.t T4 43 [(.ref lv)] ?_ st4
    refine Go.k 45 [(.int (0 : Int32)), (.ref lv)] ?_ fun _ k_ => XS.iload X4.here hx rfl (hb hby d14_43) rfl k_
    refine Go.t T4 46 [(.ref y0)] ?_ (own_aaload X4 hx hZ e4 WAr rfl (by decide) (by rw [show (0 : Int32).toNatClampNeg = 0 from by decide]; rfl) (g := (mkF m 45 #[(sR w), (sI bl), (sJ bits), .second, (sI bl), (sJ bits), .second, (sI (0 : Int32)), (sJ (f0 bl.toNatClampNeg)), .second] [(.int (0 : Int32)), (.ref lv)])) rfl rfl (hb hby d14_45))
    refine Go.k 48 [(.int bl), (.ref y0)] ?_ fun _ k_ => XS.iload X4.here hx rfl (hb hby d14_46) rfl k_
    refine Go.k 50 [(.long (f0 bl.toNatClampNeg)), (.int bl), (.ref y0)] ?_ fun _ k_ => XT.lload X4.here hx rfl (hb hby d14_48) rfl k_
    refine Go.k 52 [(.long bits), (.long (f0 bl.toNatClampNeg)), (.int bl), (.ref y0)] ?_ fun _ k_ => XT.lload X4.here hx rfl (hb hby d14_50) rfl k_
    refine Go.k 53 [(.long ((f0 bl.toNatClampNeg) ||| bits)), (.int bl), (.ref y0)] ?_ fun _ k_ => XT.lor X4.here hx rfl (hb hby d14_52) rfl k_
    obtain ⟨T5, h5, X5, e5, W5, V5, st5⟩ := own_laS X4 hx hZ e4 B0r ⟨own_i_nlt rfl (by decide : (0 : Int32).toInt = 0) (by omega), own_i_lt rfl rfl (by omega)⟩ (g := (mkF m 53 #[(sR w), (sI bl), (sJ bits), .second, (sI bl), (sJ bits), .second, (sI (0 : Int32)), (sJ (f0 bl.toNatClampNeg)), .second] [(.long ((f0 bl.toNatClampNeg) ||| bits)), (.int bl), (.ref y0)])) rfl rfl (hb hby d14_53)
    have N5 := Fr.snoc X5 M1 g0r
    refine Go.t T5 54 [] ?_ st5
    refine Go.k 56 [(.long (f0 bl.toNatClampNeg))] ?_ fun _ k_ => XT.lload X5.here hx rfl (hb hby d14_54) rfl k_
    refine Go.k 57 [(.long (0 : Int64)), (.long (f0 bl.toNatClampNeg))] ?_ fun _ k_ => XT.lconstV X5.here hx rfl (0 : Int64) (hb hby d14_56) (by decide) k_
    refine Go.k 58 [(.int (lcmpW (f0 bl.toNatClampNeg) (0 : Int64)))] ?_ fun _ k_ => XT.lcmp X5.here hx rfl (hb hby d14_57) rfl k_
    by_cases hc6 : (f0 bl.toNatClampNeg) = (0 : Int64)
    · refine Go.k 61 [] ?_ fun _ k_ => XS.ifNo X5.here hx rfl (hb hby d14_58) rfl ((if0 _ _).trans (teq ((lw_eq _ _).mpr hc6)).2) k_
      refine Go.k 62 [(.long (1 : Int64))] ?_ fun _ k_ => XT.lconstV X5.here hx rfl (1 : Int64) (hb hby d14_61) (by decide) k_
      refine Go.k 64 [(.int bl), (.long (1 : Int64))] ?_ fun _ k_ => XS.iload X5.here hx rfl (hb hby d14_62) rfl k_
      refine Go.k 65 [(.long ((1 : Int64) <<< (bl.toInt64 &&& 63)))] ?_ fun _ k_ => XT.lshl X5.here hx rfl (hb hby d14_64) rfl k_
      refine Go.k 69 [(.long ((1 : Int64) <<< (bl.toInt64 &&& 63)))] ?_ fun _ k_ => XS.goto X5.here hx rfl (pc0 := 65) (pc' := 69) rfl (hb hby d14_65) (by decide) (by decide) k_
      obtain ⟨mk1, emk1⟩ : ∃ q_ : Int64, q_ = ((1 : Int64) <<< (bl.toInt64 &&& 63)) := ⟨_, rfl⟩
      rw [← emk1]
      have hmk1 : ¬ mk1 = 0 := by rw [emk1]; exact own_shl1 _
      refine Go.s (g' := (mkF m 71 #[(sR w), (sI bl), (sJ bits), .second, (sI bl), (sJ mk1), .second, (sI (0 : Int32)), (sJ (f0 bl.toNatClampNeg)), .second] [])) ?_ fun _ k_ => XT.lstore X5.here hx rfl (hb hby d14_69) rfl (l' := #[(sR w), (sI bl), (sJ bits), .second, (sI bl), (sJ mk1), .second, (sI (0 : Int32)), (sJ (f0 bl.toNatClampNeg)), .second]) rfl k_
      refine Go.k 73 [(.int bl)] ?_ fun _ k_ => XS.iload X5.here hx rfl (hb hby d14_71) rfl k_
      refine Go.k 75 [(.int (6 : Int32)), (.int bl)] ?_ fun _ k_ => XT.bipushV X5.here hx rfl (6 : Int32) (hb hby d14_73) (by decide) k_
      refine Go.k 76 [(.int (XT.ushr bl (6 : Int32)))] ?_ fun _ k_ => XT.iushr X5.here hx rfl (hb hby d14_75) rfl k_
      obtain ⟨wd1, ewd1⟩ : ∃ q_ : Int32, q_ = XT.ushr bl 6 := ⟨_, rfl⟩
      rw [← ewd1]
      have hwd1 : wd1.toInt = bl.toInt / 64 := by rw [ewd1]; exact own_ushr6 _ (by omega)
      have nwd1 : wd1.toNatClampNeg = bl.toNatClampNeg / 64 := by simp only [Int32.toNatClampNeg]; omega
      refine Go.s (g' := (mkF m 78 #[(sR w), (sI bl), (sJ bits), .second, (sI wd1), (sJ mk1), .second, (sI (0 : Int32)), (sJ (f0 bl.toNatClampNeg)), .second] [])) ?_ fun _ k_ => XS.istore X5.here hx rfl (hb hby d14_76) rfl (l' := #[(sR w), (sI bl), (sJ bits), .second, (sI wd1), (sJ mk1), .second, (sI (0 : Int32)), (sJ (f0 bl.toNatClampNeg)), .second]) rfl k_
      refine Go.s (g' := (mkF m 81 #[(sR w), (sI bl), (sJ bits), .second, (sI wd1), (sJ mk1), .second, (sI (1 : Int32)), (sJ (f0 bl.toNatClampNeg)), .second] [])) ?_ fun _ k_ => XT.iincV X5.here hx rfl (1 : Int32) (hb hby d14_78) (by decide) rfl (l' := #[(sR w), (sI bl), (sJ bits), .second, (sI wd1), (sJ mk1), .second, (sI (1 : Int32)), (sJ (f0 bl.toNatClampNeg)), .second]) rfl k_
      refine Go.k 14 [] ?_ fun _ k_ => XS.goto X5.here hx rfl (pc0 := 81) (pc' := 14) rfl (hb hby d14_81) (by decide) (by decide) k_
      refine Go.k 16 [(.int (1 : Int32))] ?_ fun _ k_ => XS.iload X5.here hx rfl (hb hby d14_14) rfl k_
      refine Go.k 17 [(.int (5 : Int32)), (.int (1 : Int32))] ?_ fun _ k_ => XT.iconstV X5.here hx rfl (5 : Int32) (hb hby d14_16) (by decide) k_
      refine Go.k 20 [] ?_ fun _ k_ => XS.icmpNo X5.here hx rfl (hb hby d14_17) rfl (by decide) k_
      refine Go.k 22 [(.long mk1)] ?_ fun _ k_ => XT.lload X5.here hx rfl (hb hby d14_20) rfl k_
      refine Go.k 23 [(.long (0 : Int64)), (.long mk1)] ?_ fun _ k_ => XT.lconstV X5.here hx rfl (0 : Int64) (hb hby d14_22) (by decide) k_
      refine Go.k 24 [(.int (lcmpW mk1 (0 : Int64)))] ?_ fun _ k_ => XT.lcmp X5.here hx rfl (hb hby d14_23) rfl k_
      refine Go.k 27 [] ?_ fun _ k_ => XS.ifNo X5.here hx rfl (hb hby d14_24) rfl ((if0 _ _).trans (feq (fun q_ => (hmk1 : ¬ mk1 = (0 : Int64)) ((lw_eq _ _).mp q_))).1) k_
      refine Go.k 28 [(.ref w)] ?_ fun _ k_ => XS.aloadN X5.here hx rfl (hb hby d14_27) rfl rfl k_
      obtain ⟨T7, X7, e7, st7⟩ := getF X5 hx hZ hown (host := "") (Or.inl (wq hw 13 rfl)) Via.refl e5 (WFr.other W5 (Or.inl ne_w_x0r)) (g := (mkF m 28 #[(sR w), (sI bl), (sJ bits), .second, (sI wd1), (sJ mk1), .second, (sI (1 : Int32)), (sJ (f0 bl.toNatClampNeg)), .second] [(.ref w)])) rfl rfl (hb hby d14_28)
      refine Go.t T7 31 [(.ref lv)] ?_ st7
      refine Go.k 33 [(.int (1 : Int32)), (.ref lv)] ?_ fun _ k_ => XS.iload X7.here hx rfl (hb hby d14_31) rfl k_
      refine Go.t T7 34 [(.ref y1)] ?_ (own_aaload X7 hx hZ e7 (WAr.other W5 ne_lv_x0r) rfl (by decide) (by rw [show (1 : Int32).toNatClampNeg = 1 from by decide]; rfl) (g := (mkF m 33 #[(sR w), (sI bl), (sJ bits), .second, (sI wd1), (sJ mk1), .second, (sI (1 : Int32)), (sJ (f0 bl.toNatClampNeg)), .second] [(.int (1 : Int32)), (.ref lv)])) rfl rfl (hb hby d14_33))
      refine Go.k 36 [(.int wd1), (.ref y1)] ?_ fun _ k_ => XS.iload X7.here hx rfl (hb hby d14_34) rfl k_
      refine Go.t T7 37 [(.long (f1 wd1.toNatClampNeg))] ?_ (own_laL X7 hx hZ e7 (B1r.other W5 (fun q_ => ne_x0_x1r q_.symm)) ⟨own_i_nlt rfl (by decide : (0 : Int32).toInt = 0) (by omega), own_i_lt rfl rfl (by omega)⟩ (g := (mkF m 36 #[(sR w), (sI bl), (sJ bits), .second, (sI wd1), (sJ mk1), .second, (sI (1 : Int32)), (sJ (f0 bl.toNatClampNeg)), .second] [(.int wd1), (.ref y1)])) rfl rfl (hb hby d14_36))
      refine Go.s (g' := (mkF m 39 #[(sR w), (sI bl), (sJ bits), .second, (sI wd1), (sJ mk1), .second, (sI (1 : Int32)), (sJ (f1 wd1.toNatClampNeg)), .second] [])) ?_ fun _ k_ => XT.lstore X7.here hx rfl (hb hby d14_37) rfl (l' := #[(sR w), (sI bl), (sJ bits), .second, (sI wd1), (sJ mk1), .second, (sI (1 : Int32)), (sJ (f1 wd1.toNatClampNeg)), .second]) rfl k_
      refine Go.k 40 [(.ref w)] ?_ fun _ k_ => XS.aloadN X7.here hx rfl (hb hby d14_39) rfl rfl k_
      obtain ⟨T8, X8, e8, st8⟩ := getF X7 hx hZ hown (host := "") (Or.inl (wq hw 13 rfl)) Via.refl e7 (WFr.other W5 (Or.inl ne_w_x0r)) (g := (mkF m 40 #[(sR w), (sI bl), (sJ bits), .second, (sI wd1), (sJ mk1), .second, (sI (1 : Int32)), (sJ (f1 wd1.toNatClampNeg)), .second] [(.ref w)])) rfl rfl (hb hby d14_40)
      refine Go.t T8 43 [(.ref lv)] ?_ st8
      refine Go.k 45 [(.int (1 : Int32)), (.ref lv)] ?_ fun _ k_ => XS.iload X8.here hx rfl (hb hby d14_43) rfl k_
      refine Go.t T8 46 [(.ref y1)] ?_ (own_aaload X8 hx hZ e8 (WAr.other W5 ne_lv_x0r) rfl (by decide) (by rw [show (1 : Int32).toNatClampNeg = 1 from by decide]; rfl) (g := (mkF m 45 #[(sR w), (sI bl), (sJ bits), .second, (sI wd1), (sJ mk1), .second, (sI (1 : Int32)), (sJ (f1 wd1.toNatClampNeg)), .second] [(.int (1 : Int32)), (.ref lv)])) rfl rfl (hb hby d14_45))
      refine Go.k 48 [(.int wd1), (.ref y1)] ?_ fun _ k_ => XS.iload X8.here hx rfl (hb hby d14_46) rfl k_
      refine Go.k 50 [(.long (f1 wd1.toNatClampNeg)), (.int wd1), (.ref y1)] ?_ fun _ k_ => XT.lload X8.here hx rfl (hb hby d14_48) rfl k_
      refine Go.k 52 [(.long mk1), (.long (f1 wd1.toNatClampNeg)), (.int wd1), (.ref y1)] ?_ fun _ k_ => XT.lload X8.here hx rfl (hb hby d14_50) rfl k_
      refine Go.k 53 [(.long ((f1 wd1.toNatClampNeg) ||| mk1)), (.int wd1), (.ref y1)] ?_ fun _ k_ => XT.lor X8.here hx rfl (hb hby d14_52) rfl k_
      obtain ⟨T9, h9, X9, e9, W9, V9, st9⟩ := own_laS X8 hx hZ e8 (B1r.other W5 (fun q_ => ne_x0_x1r q_.symm)) ⟨own_i_nlt rfl (by decide : (0 : Int32).toInt = 0) (by omega), own_i_lt rfl rfl (by omega)⟩ (g := (mkF m 53 #[(sR w), (sI bl), (sJ bits), .second, (sI wd1), (sJ mk1), .second, (sI (1 : Int32)), (sJ (f1 wd1.toNatClampNeg)), .second] [(.long ((f1 wd1.toNatClampNeg) ||| mk1)), (.int wd1), (.ref y1)])) rfl rfl (hb hby d14_53)
      have N9 := Fr.snoc X9 N5 g1r
      refine Go.t T9 54 [] ?_ st9
      refine Go.k 56 [(.long (f1 wd1.toNatClampNeg))] ?_ fun _ k_ => XT.lload X9.here hx rfl (hb hby d14_54) rfl k_
      refine Go.k 57 [(.long (0 : Int64)), (.long (f1 wd1.toNatClampNeg))] ?_ fun _ k_ => XT.lconstV X9.here hx rfl (0 : Int64) (hb hby d14_56) (by decide) k_
      refine Go.k 58 [(.int (lcmpW (f1 wd1.toNatClampNeg) (0 : Int64)))] ?_ fun _ k_ => XT.lcmp X9.here hx rfl (hb hby d14_57) rfl k_
      by_cases hc10 : (f1 wd1.toNatClampNeg) = (0 : Int64)
      · refine Go.k 61 [] ?_ fun _ k_ => XS.ifNo X9.here hx rfl (hb hby d14_58) rfl ((if0 _ _).trans (teq ((lw_eq _ _).mpr hc10)).2) k_
        refine Go.k 62 [(.long (1 : Int64))] ?_ fun _ k_ => XT.lconstV X9.here hx rfl (1 : Int64) (hb hby d14_61) (by decide) k_
        refine Go.k 64 [(.int wd1), (.long (1 : Int64))] ?_ fun _ k_ => XS.iload X9.here hx rfl (hb hby d14_62) rfl k_
        refine Go.k 65 [(.long ((1 : Int64) <<< (wd1.toInt64 &&& 63)))] ?_ fun _ k_ => XT.lshl X9.here hx rfl (hb hby d14_64) rfl k_
        refine Go.k 69 [(.long ((1 : Int64) <<< (wd1.toInt64 &&& 63)))] ?_ fun _ k_ => XS.goto X9.here hx rfl (pc0 := 65) (pc' := 69) rfl (hb hby d14_65) (by decide) (by decide) k_
        obtain ⟨mk2, emk2⟩ : ∃ q_ : Int64, q_ = ((1 : Int64) <<< (wd1.toInt64 &&& 63)) := ⟨_, rfl⟩
        rw [← emk2]
        have hmk2 : ¬ mk2 = 0 := by rw [emk2]; exact own_shl1 _
        refine Go.s (g' := (mkF m 71 #[(sR w), (sI bl), (sJ bits), .second, (sI wd1), (sJ mk2), .second, (sI (1 : Int32)), (sJ (f1 wd1.toNatClampNeg)), .second] [])) ?_ fun _ k_ => XT.lstore X9.here hx rfl (hb hby d14_69) rfl (l' := #[(sR w), (sI bl), (sJ bits), .second, (sI wd1), (sJ mk2), .second, (sI (1 : Int32)), (sJ (f1 wd1.toNatClampNeg)), .second]) rfl k_
        refine Go.k 73 [(.int wd1)] ?_ fun _ k_ => XS.iload X9.here hx rfl (hb hby d14_71) rfl k_
        refine Go.k 75 [(.int (6 : Int32)), (.int wd1)] ?_ fun _ k_ => XT.bipushV X9.here hx rfl (6 : Int32) (hb hby d14_73) (by decide) k_
        refine Go.k 76 [(.int (XT.ushr wd1 (6 : Int32)))] ?_ fun _ k_ => XT.iushr X9.here hx rfl (hb hby d14_75) rfl k_
        obtain ⟨wd2, ewd2⟩ : ∃ q_ : Int32, q_ = XT.ushr wd1 6 := ⟨_, rfl⟩
        rw [← ewd2]
        have hwd2 : wd2.toInt = wd1.toInt / 64 := by rw [ewd2]; exact own_ushr6 _ (by omega)
        have nwd2 : wd2.toNatClampNeg = wd1.toNatClampNeg / 64 := by simp only [Int32.toNatClampNeg]; omega
        refine Go.s (g' := (mkF m 78 #[(sR w), (sI bl), (sJ bits), .second, (sI wd2), (sJ mk2), .second, (sI (1 : Int32)), (sJ (f1 wd1.toNatClampNeg)), .second] [])) ?_ fun _ k_ => XS.istore X9.here hx rfl (hb hby d14_76) rfl (l' := #[(sR w), (sI bl), (sJ bits), .second, (sI wd2), (sJ mk2), .second, (sI (1 : Int32)), (sJ (f1 wd1.toNatClampNeg)), .second]) rfl k_
        refine Go.s (g' := (mkF m 81 #[(sR w), (sI bl), (sJ bits), .second, (sI wd2), (sJ mk2), .second, (sI (2 : Int32)), (sJ (f1 wd1.toNatClampNeg)), .second] [])) ?_ fun _ k_ => XT.iincV X9.here hx rfl (1 : Int32) (hb hby d14_78) (by decide) rfl (l' := #[(sR w), (sI bl), (sJ bits), .second, (sI wd2), (sJ mk2), .second, (sI (2 : Int32)), (sJ (f1 wd1.toNatClampNeg)), .second]) rfl k_
        refine Go.k 14 [] ?_ fun _ k_ => XS.goto X9.here hx rfl (pc0 := 81) (pc' := 14) rfl (hb hby d14_81) (by decide) (by decide) k_
        refine Go.k 16 [(.int (2 : Int32))] ?_ fun _ k_ => XS.iload X9.here hx rfl (hb hby d14_14) rfl k_
        refine Go.k 17 [(.int (5 : Int32)), (.int (2 : Int32))] ?_ fun _ k_ => XT.iconstV X9.here hx rfl (5 : Int32) (hb hby d14_16) (by decide) k_
        refine Go.k 20 [] ?_ fun _ k_ => XS.icmpNo X9.here hx rfl (hb hby d14_17) rfl (by decide) k_
        refine Go.k 22 [(.long mk2)] ?_ fun _ k_ => XT.lload X9.here hx rfl (hb hby d14_20) rfl k_
        refine Go.k 23 [(.long (0 : Int64)), (.long mk2)] ?_ fun _ k_ => XT.lconstV X9.here hx rfl (0 : Int64) (hb hby d14_22) (by decide) k_
        refine Go.k 24 [(.int (lcmpW mk2 (0 : Int64)))] ?_ fun _ k_ => XT.lcmp X9.here hx rfl (hb hby d14_23) rfl k_
        refine Go.k 27 [] ?_ fun _ k_ => XS.ifNo X9.here hx rfl (hb hby d14_24) rfl ((if0 _ _).trans (feq (fun q_ => (hmk2 : ¬ mk2 = (0 : Int64)) ((lw_eq _ _).mp q_))).1) k_
        refine Go.k 28 [(.ref w)] ?_ fun _ k_ => XS.aloadN X9.here hx rfl (hb hby d14_27) rfl rfl k_
        obtain ⟨T11, X11, e11, st11⟩ := getF X9 hx hZ hown (host := "") (Or.inl (wq hw 13 rfl)) Via.refl e9 ((WFr.other W5 (Or.inl ne_w_x0r)).other W9 (Or.inl ne_w_x1r)) (g := (mkF m 28 #[(sR w), (sI bl), (sJ bits), .second, (sI wd2), (sJ mk2), .second, (sI (2 : Int32)), (sJ (f1 wd1.toNatClampNeg)), .second] [(.ref w)])) rfl rfl (hb hby d14_28)
        refine Go.t T11 31 [(.ref lv)] ?_ st11
        refine Go.k 33 [(.int (2 : Int32)), (.ref lv)] ?_ fun _ k_ => XS.iload X11.here hx rfl (hb hby d14_31) rfl k_
        refine Go.t T11 34 [(.ref y2)] ?_ (own_aaload X11 hx hZ e11 ((WAr.other W5 ne_lv_x0r).other W9 ne_lv_x1r) rfl (by decide) (by rw [show (2 : Int32).toNatClampNeg = 2 from by decide]; rfl) (g := (mkF m 33 #[(sR w), (sI bl), (sJ bits), .second, (sI wd2), (sJ mk2), .second, (sI (2 : Int32)), (sJ (f1 wd1.toNatClampNeg)), .second] [(.int (2 : Int32)), (.ref lv)])) rfl rfl (hb hby d14_33))
        refine Go.k 36 [(.int wd2), (.ref y2)] ?_ fun _ k_ => XS.iload X11.here hx rfl (hb hby d14_34) rfl k_
        refine Go.t T11 37 [(.long (f2 wd2.toNatClampNeg))] ?_ (own_laL X11 hx hZ e11 ((B2r.other W5 (fun q_ => ne_x0_x2r q_.symm)).other W9 (fun q_ => ne_x1_x2r q_.symm)) ⟨own_i_nlt rfl (by decide : (0 : Int32).toInt = 0) (by omega), own_i_lt rfl rfl (by omega)⟩ (g := (mkF m 36 #[(sR w), (sI bl), (sJ bits), .second, (sI wd2), (sJ mk2), .second, (sI (2 : Int32)), (sJ (f1 wd1.toNatClampNeg)), .second] [(.int wd2), (.ref y2)])) rfl rfl (hb hby d14_36))
        refine Go.s (g' := (mkF m 39 #[(sR w), (sI bl), (sJ bits), .second, (sI wd2), (sJ mk2), .second, (sI (2 : Int32)), (sJ (f2 wd2.toNatClampNeg)), .second] [])) ?_ fun _ k_ => XT.lstore X11.here hx rfl (hb hby d14_37) rfl (l' := #[(sR w), (sI bl), (sJ bits), .second, (sI wd2), (sJ mk2), .second, (sI (2 : Int32)), (sJ (f2 wd2.toNatClampNeg)), .second]) rfl k_
        refine Go.k 40 [(.ref w)] ?_ fun _ k_ => XS.aloadN X11.here hx rfl (hb hby d14_39) rfl rfl k_
        obtain ⟨T12, X12, e12, st12⟩ := getF X11 hx hZ hown (host := "") (Or.inl (wq hw 13 rfl)) Via.refl e11 ((WFr.other W5 (Or.inl ne_w_x0r)).other W9 (Or.inl ne_w_x1r)) (g := (mkF m 40 #[(sR w), (sI bl), (sJ bits), .second, (sI wd2), (sJ mk2), .second, (sI (2 : Int32)), (sJ (f2 wd2.toNatClampNeg)), .second] [(.ref w)])) rfl rfl (hb hby d14_40)
        refine Go.t T12 43 [(.ref lv)] ?_ st12
        refine Go.k 45 [(.int (2 : Int32)), (.ref lv)] ?_ fun _ k_ => XS.iload X12.here hx rfl (hb hby d14_43) rfl k_
        refine Go.t T12 46 [(.ref y2)] ?_ (own_aaload X12 hx hZ e12 ((WAr.other W5 ne_lv_x0r).other W9 ne_lv_x1r) rfl (by decide) (by rw [show (2 : Int32).toNatClampNeg = 2 from by decide]; rfl) (g := (mkF m 45 #[(sR w), (sI bl), (sJ bits), .second, (sI wd2), (sJ mk2), .second, (sI (2 : Int32)), (sJ (f2 wd2.toNatClampNeg)), .second] [(.int (2 : Int32)), (.ref lv)])) rfl rfl (hb hby d14_45))
        refine Go.k 48 [(.int wd2), (.ref y2)] ?_ fun _ k_ => XS.iload X12.here hx rfl (hb hby d14_46) rfl k_
        refine Go.k 50 [(.long (f2 wd2.toNatClampNeg)), (.int wd2), (.ref y2)] ?_ fun _ k_ => XT.lload X12.here hx rfl (hb hby d14_48) rfl k_
        refine Go.k 52 [(.long mk2), (.long (f2 wd2.toNatClampNeg)), (.int wd2), (.ref y2)] ?_ fun _ k_ => XT.lload X12.here hx rfl (hb hby d14_50) rfl k_
        refine Go.k 53 [(.long ((f2 wd2.toNatClampNeg) ||| mk2)), (.int wd2), (.ref y2)] ?_ fun _ k_ => XT.lor X12.here hx rfl (hb hby d14_52) rfl k_
        obtain ⟨T13, h13, X13, e13, W13, V13, st13⟩ := own_laS X12 hx hZ e12 ((B2r.other W5 (fun q_ => ne_x0_x2r q_.symm)).other W9 (fun q_ => ne_x1_x2r q_.symm)) ⟨own_i_nlt rfl (by decide : (0 : Int32).toInt = 0) (by omega), own_i_lt rfl rfl (by omega)⟩ (g := (mkF m 53 #[(sR w), (sI bl), (sJ bits), .second, (sI wd2), (sJ mk2), .second, (sI (2 : Int32)), (sJ (f2 wd2.toNatClampNeg)), .second] [(.long ((f2 wd2.toNatClampNeg) ||| mk2)), (.int wd2), (.ref y2)])) rfl rfl (hb hby d14_53)
        have N13 := Fr.snoc X13 N9 g2r
        refine Go.t T13 54 [] ?_ st13
        refine Go.k 56 [(.long (f2 wd2.toNatClampNeg))] ?_ fun _ k_ => XT.lload X13.here hx rfl (hb hby d14_54) rfl k_
        refine Go.k 57 [(.long (0 : Int64)), (.long (f2 wd2.toNatClampNeg))] ?_ fun _ k_ => XT.lconstV X13.here hx rfl (0 : Int64) (hb hby d14_56) (by decide) k_
        refine Go.k 58 [(.int (lcmpW (f2 wd2.toNatClampNeg) (0 : Int64)))] ?_ fun _ k_ => XT.lcmp X13.here hx rfl (hb hby d14_57) rfl k_
        by_cases hc14 : (f2 wd2.toNatClampNeg) = (0 : Int64)
        · refine Go.k 61 [] ?_ fun _ k_ => XS.ifNo X13.here hx rfl (hb hby d14_58) rfl ((if0 _ _).trans (teq ((lw_eq _ _).mpr hc14)).2) k_
          refine Go.k 62 [(.long (1 : Int64))] ?_ fun _ k_ => XT.lconstV X13.here hx rfl (1 : Int64) (hb hby d14_61) (by decide) k_
          refine Go.k 64 [(.int wd2), (.long (1 : Int64))] ?_ fun _ k_ => XS.iload X13.here hx rfl (hb hby d14_62) rfl k_
          refine Go.k 65 [(.long ((1 : Int64) <<< (wd2.toInt64 &&& 63)))] ?_ fun _ k_ => XT.lshl X13.here hx rfl (hb hby d14_64) rfl k_
          refine Go.k 69 [(.long ((1 : Int64) <<< (wd2.toInt64 &&& 63)))] ?_ fun _ k_ => XS.goto X13.here hx rfl (pc0 := 65) (pc' := 69) rfl (hb hby d14_65) (by decide) (by decide) k_
          obtain ⟨mk3, emk3⟩ : ∃ q_ : Int64, q_ = ((1 : Int64) <<< (wd2.toInt64 &&& 63)) := ⟨_, rfl⟩
          rw [← emk3]
          have hmk3 : ¬ mk3 = 0 := by rw [emk3]; exact own_shl1 _
          refine Go.s (g' := (mkF m 71 #[(sR w), (sI bl), (sJ bits), .second, (sI wd2), (sJ mk3), .second, (sI (2 : Int32)), (sJ (f2 wd2.toNatClampNeg)), .second] [])) ?_ fun _ k_ => XT.lstore X13.here hx rfl (hb hby d14_69) rfl (l' := #[(sR w), (sI bl), (sJ bits), .second, (sI wd2), (sJ mk3), .second, (sI (2 : Int32)), (sJ (f2 wd2.toNatClampNeg)), .second]) rfl k_
          refine Go.k 73 [(.int wd2)] ?_ fun _ k_ => XS.iload X13.here hx rfl (hb hby d14_71) rfl k_
          refine Go.k 75 [(.int (6 : Int32)), (.int wd2)] ?_ fun _ k_ => XT.bipushV X13.here hx rfl (6 : Int32) (hb hby d14_73) (by decide) k_
          refine Go.k 76 [(.int (XT.ushr wd2 (6 : Int32)))] ?_ fun _ k_ => XT.iushr X13.here hx rfl (hb hby d14_75) rfl k_
          obtain ⟨wd3, ewd3⟩ : ∃ q_ : Int32, q_ = XT.ushr wd2 6 := ⟨_, rfl⟩
          rw [← ewd3]
          have hwd3 : wd3.toInt = wd2.toInt / 64 := by rw [ewd3]; exact own_ushr6 _ (by omega)
          have nwd3 : wd3.toNatClampNeg = wd2.toNatClampNeg / 64 := by simp only [Int32.toNatClampNeg]; omega
          refine Go.s (g' := (mkF m 78 #[(sR w), (sI bl), (sJ bits), .second, (sI wd3), (sJ mk3), .second, (sI (2 : Int32)), (sJ (f2 wd2.toNatClampNeg)), .second] [])) ?_ fun _ k_ => XS.istore X13.here hx rfl (hb hby d14_76) rfl (l' := #[(sR w), (sI bl), (sJ bits), .second, (sI wd3), (sJ mk3), .second, (sI (2 : Int32)), (sJ (f2 wd2.toNatClampNeg)), .second]) rfl k_
          refine Go.s (g' := (mkF m 81 #[(sR w), (sI bl), (sJ bits), .second, (sI wd3), (sJ mk3), .second, (sI (3 : Int32)), (sJ (f2 wd2.toNatClampNeg)), .second] [])) ?_ fun _ k_ => XT.iincV X13.here hx rfl (1 : Int32) (hb hby d14_78) (by decide) rfl (l' := #[(sR w), (sI bl), (sJ bits), .second, (sI wd3), (sJ mk3), .second, (sI (3 : Int32)), (sJ (f2 wd2.toNatClampNeg)), .second]) rfl k_
          refine Go.k 14 [] ?_ fun _ k_ => XS.goto X13.here hx rfl (pc0 := 81) (pc' := 14) rfl (hb hby d14_81) (by decide) (by decide) k_
          refine Go.k 16 [(.int (3 : Int32))] ?_ fun _ k_ => XS.iload X13.here hx rfl (hb hby d14_14) rfl k_
          refine Go.k 17 [(.int (5 : Int32)), (.int (3 : Int32))] ?_ fun _ k_ => XT.iconstV X13.here hx rfl (5 : Int32) (hb hby d14_16) (by decide) k_
          refine Go.k 20 [] ?_ fun _ k_ => XS.icmpNo X13.here hx rfl (hb hby d14_17) rfl (by decide) k_
          refine Go.k 22 [(.long mk3)] ?_ fun _ k_ => XT.lload X13.here hx rfl (hb hby d14_20) rfl k_
          refine Go.k 23 [(.long (0 : Int64)), (.long mk3)] ?_ fun _ k_ => XT.lconstV X13.here hx rfl (0 : Int64) (hb hby d14_22) (by decide) k_
          refine Go.k 24 [(.int (lcmpW mk3 (0 : Int64)))] ?_ fun _ k_ => XT.lcmp X13.here hx rfl (hb hby d14_23) rfl k_
          refine Go.k 27 [] ?_ fun _ k_ => XS.ifNo X13.here hx rfl (hb hby d14_24) rfl ((if0 _ _).trans (feq (fun q_ => (hmk3 : ¬ mk3 = (0 : Int64)) ((lw_eq _ _).mp q_))).1) k_
          refine Go.k 28 [(.ref w)] ?_ fun _ k_ => XS.aloadN X13.here hx rfl (hb hby d14_27) rfl rfl k_
          obtain ⟨T15, X15, e15, st15⟩ := getF X13 hx hZ hown (host := "") (Or.inl (wq hw 13 rfl)) Via.refl e13 (((WFr.other W5 (Or.inl ne_w_x0r)).other W9 (Or.inl ne_w_x1r)).other W13 (Or.inl ne_w_x2r)) (g := (mkF m 28 #[(sR w), (sI bl), (sJ bits), .second, (sI wd3), (sJ mk3), .second, (sI (3 : Int32)), (sJ (f2 wd2.toNatClampNeg)), .second] [(.ref w)])) rfl rfl (hb hby d14_28)
          refine Go.t T15 31 [(.ref lv)] ?_ st15
          refine Go.k 33 [(.int (3 : Int32)), (.ref lv)] ?_ fun _ k_ => XS.iload X15.here hx rfl (hb hby d14_31) rfl k_
          refine Go.t T15 34 [(.ref y3)] ?_ (own_aaload X15 hx hZ e15 (((WAr.other W5 ne_lv_x0r).other W9 ne_lv_x1r).other W13 ne_lv_x2r) rfl (by decide) (by rw [show (3 : Int32).toNatClampNeg = 3 from by decide]; rfl) (g := (mkF m 33 #[(sR w), (sI bl), (sJ bits), .second, (sI wd3), (sJ mk3), .second, (sI (3 : Int32)), (sJ (f2 wd2.toNatClampNeg)), .second] [(.int (3 : Int32)), (.ref lv)])) rfl rfl (hb hby d14_33))
          refine Go.k 36 [(.int wd3), (.ref y3)] ?_ fun _ k_ => XS.iload X15.here hx rfl (hb hby d14_34) rfl k_
          refine Go.t T15 37 [(.long (f3 wd3.toNatClampNeg))] ?_ (own_laL X15 hx hZ e15 (((B3r.other W5 (fun q_ => ne_x0_x3r q_.symm)).other W9 (fun q_ => ne_x1_x3r q_.symm)).other W13 (fun q_ => ne_x2_x3r q_.symm)) ⟨own_i_nlt rfl (by decide : (0 : Int32).toInt = 0) (by omega), own_i_lt rfl rfl (by omega)⟩ (g := (mkF m 36 #[(sR w), (sI bl), (sJ bits), .second, (sI wd3), (sJ mk3), .second, (sI (3 : Int32)), (sJ (f2 wd2.toNatClampNeg)), .second] [(.int wd3), (.ref y3)])) rfl rfl (hb hby d14_36))
          refine Go.s (g' := (mkF m 39 #[(sR w), (sI bl), (sJ bits), .second, (sI wd3), (sJ mk3), .second, (sI (3 : Int32)), (sJ (f3 wd3.toNatClampNeg)), .second] [])) ?_ fun _ k_ => XT.lstore X15.here hx rfl (hb hby d14_37) rfl (l' := #[(sR w), (sI bl), (sJ bits), .second, (sI wd3), (sJ mk3), .second, (sI (3 : Int32)), (sJ (f3 wd3.toNatClampNeg)), .second]) rfl k_
          refine Go.k 40 [(.ref w)] ?_ fun _ k_ => XS.aloadN X15.here hx rfl (hb hby d14_39) rfl rfl k_
          obtain ⟨T16, X16, e16, st16⟩ := getF X15 hx hZ hown (host := "") (Or.inl (wq hw 13 rfl)) Via.refl e15 (((WFr.other W5 (Or.inl ne_w_x0r)).other W9 (Or.inl ne_w_x1r)).other W13 (Or.inl ne_w_x2r)) (g := (mkF m 40 #[(sR w), (sI bl), (sJ bits), .second, (sI wd3), (sJ mk3), .second, (sI (3 : Int32)), (sJ (f3 wd3.toNatClampNeg)), .second] [(.ref w)])) rfl rfl (hb hby d14_40)
          refine Go.t T16 43 [(.ref lv)] ?_ st16
          refine Go.k 45 [(.int (3 : Int32)), (.ref lv)] ?_ fun _ k_ => XS.iload X16.here hx rfl (hb hby d14_43) rfl k_
          refine Go.t T16 46 [(.ref y3)] ?_ (own_aaload X16 hx hZ e16 (((WAr.other W5 ne_lv_x0r).other W9 ne_lv_x1r).other W13 ne_lv_x2r) rfl (by decide) (by rw [show (3 : Int32).toNatClampNeg = 3 from by decide]; rfl) (g := (mkF m 45 #[(sR w), (sI bl), (sJ bits), .second, (sI wd3), (sJ mk3), .second, (sI (3 : Int32)), (sJ (f3 wd3.toNatClampNeg)), .second] [(.int (3 : Int32)), (.ref lv)])) rfl rfl (hb hby d14_45))
          refine Go.k 48 [(.int wd3), (.ref y3)] ?_ fun _ k_ => XS.iload X16.here hx rfl (hb hby d14_46) rfl k_
          refine Go.k 50 [(.long (f3 wd3.toNatClampNeg)), (.int wd3), (.ref y3)] ?_ fun _ k_ => XT.lload X16.here hx rfl (hb hby d14_48) rfl k_
          refine Go.k 52 [(.long mk3), (.long (f3 wd3.toNatClampNeg)), (.int wd3), (.ref y3)] ?_ fun _ k_ => XT.lload X16.here hx rfl (hb hby d14_50) rfl k_
          refine Go.k 53 [(.long ((f3 wd3.toNatClampNeg) ||| mk3)), (.int wd3), (.ref y3)] ?_ fun _ k_ => XT.lor X16.here hx rfl (hb hby d14_52) rfl k_
          obtain ⟨T17, h17, X17, e17, W17, V17, st17⟩ := own_laS X16 hx hZ e16 (((B3r.other W5 (fun q_ => ne_x0_x3r q_.symm)).other W9 (fun q_ => ne_x1_x3r q_.symm)).other W13 (fun q_ => ne_x2_x3r q_.symm)) ⟨own_i_nlt rfl (by decide : (0 : Int32).toInt = 0) (by omega), own_i_lt rfl rfl (by omega)⟩ (g := (mkF m 53 #[(sR w), (sI bl), (sJ bits), .second, (sI wd3), (sJ mk3), .second, (sI (3 : Int32)), (sJ (f3 wd3.toNatClampNeg)), .second] [(.long ((f3 wd3.toNatClampNeg) ||| mk3)), (.int wd3), (.ref y3)])) rfl rfl (hb hby d14_53)
          have N17 := Fr.snoc X17 N13 g3r
          refine Go.t T17 54 [] ?_ st17
          refine Go.k 56 [(.long (f3 wd3.toNatClampNeg))] ?_ fun _ k_ => XT.lload X17.here hx rfl (hb hby d14_54) rfl k_
          refine Go.k 57 [(.long (0 : Int64)), (.long (f3 wd3.toNatClampNeg))] ?_ fun _ k_ => XT.lconstV X17.here hx rfl (0 : Int64) (hb hby d14_56) (by decide) k_
          refine Go.k 58 [(.int (lcmpW (f3 wd3.toNatClampNeg) (0 : Int64)))] ?_ fun _ k_ => XT.lcmp X17.here hx rfl (hb hby d14_57) rfl k_
          by_cases hc18 : (f3 wd3.toNatClampNeg) = (0 : Int64)
          · refine Go.k 61 [] ?_ fun _ k_ => XS.ifNo X17.here hx rfl (hb hby d14_58) rfl ((if0 _ _).trans (teq ((lw_eq _ _).mpr hc18)).2) k_
            refine Go.k 62 [(.long (1 : Int64))] ?_ fun _ k_ => XT.lconstV X17.here hx rfl (1 : Int64) (hb hby d14_61) (by decide) k_
            refine Go.k 64 [(.int wd3), (.long (1 : Int64))] ?_ fun _ k_ => XS.iload X17.here hx rfl (hb hby d14_62) rfl k_
            refine Go.k 65 [(.long ((1 : Int64) <<< (wd3.toInt64 &&& 63)))] ?_ fun _ k_ => XT.lshl X17.here hx rfl (hb hby d14_64) rfl k_
            refine Go.k 69 [(.long ((1 : Int64) <<< (wd3.toInt64 &&& 63)))] ?_ fun _ k_ => XS.goto X17.here hx rfl (pc0 := 65) (pc' := 69) rfl (hb hby d14_65) (by decide) (by decide) k_
            obtain ⟨mk4, emk4⟩ : ∃ q_ : Int64, q_ = ((1 : Int64) <<< (wd3.toInt64 &&& 63)) := ⟨_, rfl⟩
            rw [← emk4]
            have hmk4 : ¬ mk4 = 0 := by rw [emk4]; exact own_shl1 _
            refine Go.s (g' := (mkF m 71 #[(sR w), (sI bl), (sJ bits), .second, (sI wd3), (sJ mk4), .second, (sI (3 : Int32)), (sJ (f3 wd3.toNatClampNeg)), .second] [])) ?_ fun _ k_ => XT.lstore X17.here hx rfl (hb hby d14_69) rfl (l' := #[(sR w), (sI bl), (sJ bits), .second, (sI wd3), (sJ mk4), .second, (sI (3 : Int32)), (sJ (f3 wd3.toNatClampNeg)), .second]) rfl k_
            refine Go.k 73 [(.int wd3)] ?_ fun _ k_ => XS.iload X17.here hx rfl (hb hby d14_71) rfl k_
            refine Go.k 75 [(.int (6 : Int32)), (.int wd3)] ?_ fun _ k_ => XT.bipushV X17.here hx rfl (6 : Int32) (hb hby d14_73) (by decide) k_
            refine Go.k 76 [(.int (XT.ushr wd3 (6 : Int32)))] ?_ fun _ k_ => XT.iushr X17.here hx rfl (hb hby d14_75) rfl k_
            obtain ⟨wd4, ewd4⟩ : ∃ q_ : Int32, q_ = XT.ushr wd3 6 := ⟨_, rfl⟩
            rw [← ewd4]
            have hwd4 : wd4.toInt = wd3.toInt / 64 := by rw [ewd4]; exact own_ushr6 _ (by omega)
            have nwd4 : wd4.toNatClampNeg = wd3.toNatClampNeg / 64 := by simp only [Int32.toNatClampNeg]; omega
            refine Go.s (g' := (mkF m 78 #[(sR w), (sI bl), (sJ bits), .second, (sI wd4), (sJ mk4), .second, (sI (3 : Int32)), (sJ (f3 wd3.toNatClampNeg)), .second] [])) ?_ fun _ k_ => XS.istore X17.here hx rfl (hb hby d14_76) rfl (l' := #[(sR w), (sI bl), (sJ bits), .second, (sI wd4), (sJ mk4), .second, (sI (3 : Int32)), (sJ (f3 wd3.toNatClampNeg)), .second]) rfl k_
            refine Go.s (g' := (mkF m 81 #[(sR w), (sI bl), (sJ bits), .second, (sI wd4), (sJ mk4), .second, (sI (4 : Int32)), (sJ (f3 wd3.toNatClampNeg)), .second] [])) ?_ fun _ k_ => XT.iincV X17.here hx rfl (1 : Int32) (hb hby d14_78) (by decide) rfl (l' := #[(sR w), (sI bl), (sJ bits), .second, (sI wd4), (sJ mk4), .second, (sI (4 : Int32)), (sJ (f3 wd3.toNatClampNeg)), .second]) rfl k_
            refine Go.k 14 [] ?_ fun _ k_ => XS.goto X17.here hx rfl (pc0 := 81) (pc' := 14) rfl (hb hby d14_81) (by decide) (by decide) k_
            refine Go.k 16 [(.int (4 : Int32))] ?_ fun _ k_ => XS.iload X17.here hx rfl (hb hby d14_14) rfl k_
            refine Go.k 17 [(.int (5 : Int32)), (.int (4 : Int32))] ?_ fun _ k_ => XT.iconstV X17.here hx rfl (5 : Int32) (hb hby d14_16) (by decide) k_
            refine Go.k 20 [] ?_ fun _ k_ => XS.icmpNo X17.here hx rfl (hb hby d14_17) rfl (by decide) k_
            refine Go.k 22 [(.long mk4)] ?_ fun _ k_ => XT.lload X17.here hx rfl (hb hby d14_20) rfl k_
            refine Go.k 23 [(.long (0 : Int64)), (.long mk4)] ?_ fun _ k_ => XT.lconstV X17.here hx rfl (0 : Int64) (hb hby d14_22) (by decide) k_
            refine Go.k 24 [(.int (lcmpW mk4 (0 : Int64)))] ?_ fun _ k_ => XT.lcmp X17.here hx rfl (hb hby d14_23) rfl k_
            refine Go.k 27 [] ?_ fun _ k_ => XS.ifNo X17.here hx rfl (hb hby d14_24) rfl ((if0 _ _).trans (feq (fun q_ => (hmk4 : ¬ mk4 = (0 : Int64)) ((lw_eq _ _).mp q_))).1) k_
            refine Go.k 28 [(.ref w)] ?_ fun _ k_ => XS.aloadN X17.here hx rfl (hb hby d14_27) rfl rfl k_
            obtain ⟨T19, X19, e19, st19⟩ := getF X17 hx hZ hown (host := "") (Or.inl (wq hw 13 rfl)) Via.refl e17 ((((WFr.other W5 (Or.inl ne_w_x0r)).other W9 (Or.inl ne_w_x1r)).other W13 (Or.inl ne_w_x2r)).other W17 (Or.inl ne_w_x3r)) (g := (mkF m 28 #[(sR w), (sI bl), (sJ bits), .second, (sI wd4), (sJ mk4), .second, (sI (4 : Int32)), (sJ (f3 wd3.toNatClampNeg)), .second] [(.ref w)])) rfl rfl (hb hby d14_28)
            refine Go.t T19 31 [(.ref lv)] ?_ st19
            refine Go.k 33 [(.int (4 : Int32)), (.ref lv)] ?_ fun _ k_ => XS.iload X19.here hx rfl (hb hby d14_31) rfl k_
            refine Go.t T19 34 [(.ref y4)] ?_ (own_aaload X19 hx hZ e19 ((((WAr.other W5 ne_lv_x0r).other W9 ne_lv_x1r).other W13 ne_lv_x2r).other W17 ne_lv_x3r) rfl (by decide) (by rw [show (4 : Int32).toNatClampNeg = 4 from by decide]; rfl) (g := (mkF m 33 #[(sR w), (sI bl), (sJ bits), .second, (sI wd4), (sJ mk4), .second, (sI (4 : Int32)), (sJ (f3 wd3.toNatClampNeg)), .second] [(.int (4 : Int32)), (.ref lv)])) rfl rfl (hb hby d14_33))
            refine Go.k 36 [(.int wd4), (.ref y4)] ?_ fun _ k_ => XS.iload X19.here hx rfl (hb hby d14_34) rfl k_
            refine Go.t T19 37 [(.long (f4 wd4.toNatClampNeg))] ?_ (own_laL X19 hx hZ e19 ((((B4r.other W5 (fun q_ => ne_x0_x4r q_.symm)).other W9 (fun q_ => ne_x1_x4r q_.symm)).other W13 (fun q_ => ne_x2_x4r q_.symm)).other W17 (fun q_ => ne_x3_x4r q_.symm)) ⟨own_i_nlt rfl (by decide : (0 : Int32).toInt = 0) (by omega), own_i_lt rfl rfl (by omega)⟩ (g := (mkF m 36 #[(sR w), (sI bl), (sJ bits), .second, (sI wd4), (sJ mk4), .second, (sI (4 : Int32)), (sJ (f3 wd3.toNatClampNeg)), .second] [(.int wd4), (.ref y4)])) rfl rfl (hb hby d14_36))
            refine Go.s (g' := (mkF m 39 #[(sR w), (sI bl), (sJ bits), .second, (sI wd4), (sJ mk4), .second, (sI (4 : Int32)), (sJ (f4 wd4.toNatClampNeg)), .second] [])) ?_ fun _ k_ => XT.lstore X19.here hx rfl (hb hby d14_37) rfl (l' := #[(sR w), (sI bl), (sJ bits), .second, (sI wd4), (sJ mk4), .second, (sI (4 : Int32)), (sJ (f4 wd4.toNatClampNeg)), .second]) rfl k_
            refine Go.k 40 [(.ref w)] ?_ fun _ k_ => XS.aloadN X19.here hx rfl (hb hby d14_39) rfl rfl k_
            obtain ⟨T20, X20, e20, st20⟩ := getF X19 hx hZ hown (host := "") (Or.inl (wq hw 13 rfl)) Via.refl e19 ((((WFr.other W5 (Or.inl ne_w_x0r)).other W9 (Or.inl ne_w_x1r)).other W13 (Or.inl ne_w_x2r)).other W17 (Or.inl ne_w_x3r)) (g := (mkF m 40 #[(sR w), (sI bl), (sJ bits), .second, (sI wd4), (sJ mk4), .second, (sI (4 : Int32)), (sJ (f4 wd4.toNatClampNeg)), .second] [(.ref w)])) rfl rfl (hb hby d14_40)
            refine Go.t T20 43 [(.ref lv)] ?_ st20
            refine Go.k 45 [(.int (4 : Int32)), (.ref lv)] ?_ fun _ k_ => XS.iload X20.here hx rfl (hb hby d14_43) rfl k_
            refine Go.t T20 46 [(.ref y4)] ?_ (own_aaload X20 hx hZ e20 ((((WAr.other W5 ne_lv_x0r).other W9 ne_lv_x1r).other W13 ne_lv_x2r).other W17 ne_lv_x3r) rfl (by decide) (by rw [show (4 : Int32).toNatClampNeg = 4 from by decide]; rfl) (g := (mkF m 45 #[(sR w), (sI bl), (sJ bits), .second, (sI wd4), (sJ mk4), .second, (sI (4 : Int32)), (sJ (f4 wd4.toNatClampNeg)), .second] [(.int (4 : Int32)), (.ref lv)])) rfl rfl (hb hby d14_45))
            refine Go.k 48 [(.int wd4), (.ref y4)] ?_ fun _ k_ => XS.iload X20.here hx rfl (hb hby d14_46) rfl k_
            refine Go.k 50 [(.long (f4 wd4.toNatClampNeg)), (.int wd4), (.ref y4)] ?_ fun _ k_ => XT.lload X20.here hx rfl (hb hby d14_48) rfl k_
            refine Go.k 52 [(.long mk4), (.long (f4 wd4.toNatClampNeg)), (.int wd4), (.ref y4)] ?_ fun _ k_ => XT.lload X20.here hx rfl (hb hby d14_50) rfl k_
            refine Go.k 53 [(.long ((f4 wd4.toNatClampNeg) ||| mk4)), (.int wd4), (.ref y4)] ?_ fun _ k_ => XT.lor X20.here hx rfl (hb hby d14_52) rfl k_
            obtain ⟨T21, h21, X21, e21, W21, V21, st21⟩ := own_laS X20 hx hZ e20 ((((B4r.other W5 (fun q_ => ne_x0_x4r q_.symm)).other W9 (fun q_ => ne_x1_x4r q_.symm)).other W13 (fun q_ => ne_x2_x4r q_.symm)).other W17 (fun q_ => ne_x3_x4r q_.symm)) ⟨own_i_nlt rfl (by decide : (0 : Int32).toInt = 0) (by omega), own_i_lt rfl rfl (by omega)⟩ (g := (mkF m 53 #[(sR w), (sI bl), (sJ bits), .second, (sI wd4), (sJ mk4), .second, (sI (4 : Int32)), (sJ (f4 wd4.toNatClampNeg)), .second] [(.long ((f4 wd4.toNatClampNeg) ||| mk4)), (.int wd4), (.ref y4)])) rfl rfl (hb hby d14_53)
            have N21 := Fr.snoc X21 N17 g4r
            refine Go.t T21 54 [] ?_ st21
            refine Go.k 56 [(.long (f4 wd4.toNatClampNeg))] ?_ fun _ k_ => XT.lload X21.here hx rfl (hb hby d14_54) rfl k_
            refine Go.k 57 [(.long (0 : Int64)), (.long (f4 wd4.toNatClampNeg))] ?_ fun _ k_ => XT.lconstV X21.here hx rfl (0 : Int64) (hb hby d14_56) (by decide) k_
            refine Go.k 58 [(.int (lcmpW (f4 wd4.toNatClampNeg) (0 : Int64)))] ?_ fun _ k_ => XT.lcmp X21.here hx rfl (hb hby d14_57) rfl k_
            by_cases hc22 : (f4 wd4.toNatClampNeg) = (0 : Int64)
            · refine Go.k 61 [] ?_ fun _ k_ => XS.ifNo X21.here hx rfl (hb hby d14_58) rfl ((if0 _ _).trans (teq ((lw_eq _ _).mpr hc22)).2) k_
              refine Go.k 62 [(.long (1 : Int64))] ?_ fun _ k_ => XT.lconstV X21.here hx rfl (1 : Int64) (hb hby d14_61) (by decide) k_
              refine Go.k 64 [(.int wd4), (.long (1 : Int64))] ?_ fun _ k_ => XS.iload X21.here hx rfl (hb hby d14_62) rfl k_
              refine Go.k 65 [(.long ((1 : Int64) <<< (wd4.toInt64 &&& 63)))] ?_ fun _ k_ => XT.lshl X21.here hx rfl (hb hby d14_64) rfl k_
              refine Go.k 69 [(.long ((1 : Int64) <<< (wd4.toInt64 &&& 63)))] ?_ fun _ k_ => XS.goto X21.here hx rfl (pc0 := 65) (pc' := 69) rfl (hb hby d14_65) (by decide) (by decide) k_
              obtain ⟨mk5, emk5⟩ : ∃ q_ : Int64, q_ = ((1 : Int64) <<< (wd4.toInt64 &&& 63)) := ⟨_, rfl⟩
              rw [← emk5]
              have hmk5 : ¬ mk5 = 0 := by rw [emk5]; exact own_shl1 _
              refine Go.s (g' := (mkF m 71 #[(sR w), (sI bl), (sJ bits), .second, (sI wd4), (sJ mk5), .second, (sI (4 : Int32)), (sJ (f4 wd4.toNatClampNeg)), .second] [])) ?_ fun _ k_ => XT.lstore X21.here hx rfl (hb hby d14_69) rfl (l' := #[(sR w), (sI bl), (sJ bits), .second, (sI wd4), (sJ mk5), .second, (sI (4 : Int32)), (sJ (f4 wd4.toNatClampNeg)), .second]) rfl k_
              refine Go.k 73 [(.int wd4)] ?_ fun _ k_ => XS.iload X21.here hx rfl (hb hby d14_71) rfl k_
              refine Go.k 75 [(.int (6 : Int32)), (.int wd4)] ?_ fun _ k_ => XT.bipushV X21.here hx rfl (6 : Int32) (hb hby d14_73) (by decide) k_
              refine Go.k 76 [(.int (XT.ushr wd4 (6 : Int32)))] ?_ fun _ k_ => XT.iushr X21.here hx rfl (hb hby d14_75) rfl k_
              obtain ⟨wd5, ewd5⟩ : ∃ q_ : Int32, q_ = XT.ushr wd4 6 := ⟨_, rfl⟩
              rw [← ewd5]
              have hwd5 : wd5.toInt = wd4.toInt / 64 := by rw [ewd5]; exact own_ushr6 _ (by omega)
              have nwd5 : wd5.toNatClampNeg = wd4.toNatClampNeg / 64 := by simp only [Int32.toNatClampNeg]; omega
              refine Go.s (g' := (mkF m 78 #[(sR w), (sI bl), (sJ bits), .second, (sI wd5), (sJ mk5), .second, (sI (4 : Int32)), (sJ (f4 wd4.toNatClampNeg)), .second] [])) ?_ fun _ k_ => XS.istore X21.here hx rfl (hb hby d14_76) rfl (l' := #[(sR w), (sI bl), (sJ bits), .second, (sI wd5), (sJ mk5), .second, (sI (4 : Int32)), (sJ (f4 wd4.toNatClampNeg)), .second]) rfl k_
              refine Go.s (g' := (mkF m 81 #[(sR w), (sI bl), (sJ bits), .second, (sI wd5), (sJ mk5), .second, (sI (5 : Int32)), (sJ (f4 wd4.toNatClampNeg)), .second] [])) ?_ fun _ k_ => XT.iincV X21.here hx rfl (1 : Int32) (hb hby d14_78) (by decide) rfl (l' := #[(sR w), (sI bl), (sJ bits), .second, (sI wd5), (sJ mk5), .second, (sI (5 : Int32)), (sJ (f4 wd4.toNatClampNeg)), .second]) rfl k_
              refine Go.k 14 [] ?_ fun _ k_ => XS.goto X21.here hx rfl (pc0 := 81) (pc' := 14) rfl (hb hby d14_81) (by decide) (by decide) k_
              refine Go.k 16 [(.int (5 : Int32))] ?_ fun _ k_ => XS.iload X21.here hx rfl (hb hby d14_14) rfl k_
              refine Go.k 17 [(.int (5 : Int32)), (.int (5 : Int32))] ?_ fun _ k_ => XT.iconstV X21.here hx rfl (5 : Int32) (hb hby d14_16) (by decide) k_
              refine Go.k 84 [] ?_ fun _ k_ => XS.icmpYes X21.here hx rfl (pc0 := 17) (pc' := 84) rfl (hb hby d14_17) rfl (by decide) (by decide) (by decide) k_
              exact Go.retU X21 hx hret hlk (by decide) (by decide) (hb hby d14_84) (by rw [e21]; exact ⟨rfl, N21, (Nat.le_trans (Nat.le_trans (Nat.le_trans (Nat.le_trans (Nat.le_trans (Nat.le_trans (Nat.le_refl _) S1) (Nat.le_of_eq W5.size.symm)) (Nat.le_of_eq W9.size.symm)) (Nat.le_of_eq W13.size.symm)) (Nat.le_of_eq W17.size.symm)) (Nat.le_of_eq W21.size.symm)), y0, y1, y2, y3, y4, u0, u1, u2, u3, u4, (own_set f1 wd1.toNatClampNeg ((f1 wd1.toNatClampNeg) ||| mk1)), (own_set f2 wd2.toNatClampNeg ((f2 wd2.toNatClampNeg) ||| mk2)), (own_set f3 wd3.toNatClampNeg ((f3 wd3.toNatClampNeg) ||| mk3)), (own_set f4 wd4.toNatClampNeg ((f4 wd4.toNatClampNeg) ||| mk4)), ⟨(((((WEr.wr W5).wr W9).wr W13).wr W17).wr W21), (((((WFr.other W5 (Or.inl ne_w_x0r)).other W9 (Or.inl ne_w_x1r)).other W13 (Or.inl ne_w_x2r)).other W17 (Or.inl ne_w_x3r)).other W21 (Or.inl ne_w_x4r)), (((((WAr.other W5 ne_lv_x0r).other W9 ne_lv_x1r).other W13 ne_lv_x2r).other W17 ne_lv_x3r).other W21 ne_lv_x4r), WOr, ((((V5.other W9 ne_x0_x1r).other W13 ne_x0_x2r).other W17 ne_x0_x3r).other W21 ne_x0_x4r), (((V9.other W13 ne_x1_x2r).other W17 ne_x1_x3r).other W21 ne_x1_x4r), ((V13.other W17 ne_x2_x3r).other W21 ne_x2_x4r), (V17.other W21 ne_x3_x4r), V21, glr, g0r, g1r, g2r, g3r, g4r, ne_w_lvr, ne_w_x0r, ne_w_x1r, ne_w_x2r, ne_w_x3r, ne_w_x4r, ne_lv_x0r, ne_lv_x1r, ne_lv_x2r, ne_lv_x3r, ne_lv_x4r, ne_x0_x1r, ne_x0_x2r, ne_x0_x3r, ne_x0_x4r, ne_x1_x2r, ne_x1_x3r, ne_x1_x4r, ne_x2_x3r, ne_x2_x4r, ne_x3_x4r⟩, ⟨by omega, by omega, by omega, by omega, by omega, by omega, by omega, by omega, by omega, by omega, by omega, by omega, by omega, by omega⟩, ⟨(by rw [emk1, nwd1]; exact own_P_B hp0 (own_or_ne' hc2) (by omega) rfl), (by rw [emk2, nwd2]; exact own_P_B hp1 (own_or_ne' hmk1) (by omega) rfl), (by rw [emk3, nwd3]; exact own_P_B hp2 (own_or_ne' hmk2) (by omega) rfl), (by rw [emk4, nwd4]; exact own_P_B hp3 (own_or_ne' hmk3) (by omega) rfl)⟩⟩)
            · refine Go.k 68 [] ?_ fun _ k_ => XS.ifYes X21.here hx rfl (pc0 := 58) (pc' := 68) rfl (hb hby d14_58) rfl ((if0 _ _).trans (feq (fun q_ => hc22 ((lw_eq _ _).mp q_))).2) (by decide) (by decide) k_
              refine Go.k 69 [(.long (0 : Int64))] ?_ fun _ k_ => XT.lconstV X21.here hx rfl (0 : Int64) (hb hby d14_68) (by decide) k_
              refine Go.s (g' := (mkF m 71 #[(sR w), (sI bl), (sJ bits), .second, (sI wd4), (sJ (0 : Int64)), .second, (sI (4 : Int32)), (sJ (f4 wd4.toNatClampNeg)), .second] [])) ?_ fun _ k_ => XT.lstore X21.here hx rfl (hb hby d14_69) rfl (l' := #[(sR w), (sI bl), (sJ bits), .second, (sI wd4), (sJ (0 : Int64)), .second, (sI (4 : Int32)), (sJ (f4 wd4.toNatClampNeg)), .second]) rfl k_
              refine Go.k 73 [(.int wd4)] ?_ fun _ k_ => XS.iload X21.here hx rfl (hb hby d14_71) rfl k_
              refine Go.k 75 [(.int (6 : Int32)), (.int wd4)] ?_ fun _ k_ => XT.bipushV X21.here hx rfl (6 : Int32) (hb hby d14_73) (by decide) k_
              refine Go.k 76 [(.int (XT.ushr wd4 (6 : Int32)))] ?_ fun _ k_ => XT.iushr X21.here hx rfl (hb hby d14_75) rfl k_
              obtain ⟨wd5, ewd5⟩ : ∃ q_ : Int32, q_ = XT.ushr wd4 6 := ⟨_, rfl⟩
              rw [← ewd5]
              have hwd5 : wd5.toInt = wd4.toInt / 64 := by rw [ewd5]; exact own_ushr6 _ (by omega)
              have nwd5 : wd5.toNatClampNeg = wd4.toNatClampNeg / 64 := by simp only [Int32.toNatClampNeg]; omega
              refine Go.s (g' := (mkF m 78 #[(sR w), (sI bl), (sJ bits), .second, (sI wd5), (sJ (0 : Int64)), .second, (sI (4 : Int32)), (sJ (f4 wd4.toNatClampNeg)), .second] [])) ?_ fun _ k_ => XS.istore X21.here hx rfl (hb hby d14_76) rfl (l' := #[(sR w), (sI bl), (sJ bits), .second, (sI wd5), (sJ (0 : Int64)), .second, (sI (4 : Int32)), (sJ (f4 wd4.toNatClampNeg)), .second]) rfl k_
              refine Go.s (g' := (mkF m 81 #[(sR w), (sI bl), (sJ bits), .second, (sI wd5), (sJ (0 : Int64)), .second, (sI (5 : Int32)), (sJ (f4 wd4.toNatClampNeg)), .second] [])) ?_ fun _ k_ => XT.iincV X21.here hx rfl (1 : Int32) (hb hby d14_78) (by decide) rfl (l' := #[(sR w), (sI bl), (sJ bits), .second, (sI wd5), (sJ (0 : Int64)), .second, (sI (5 : Int32)), (sJ (f4 wd4.toNatClampNeg)), .second]) rfl k_
              refine Go.k 14 [] ?_ fun _ k_ => XS.goto X21.here hx rfl (pc0 := 81) (pc' := 14) rfl (hb hby d14_81) (by decide) (by decide) k_
              refine Go.k 16 [(.int (5 : Int32))] ?_ fun _ k_ => XS.iload X21.here hx rfl (hb hby d14_14) rfl k_
              refine Go.k 17 [(.int (5 : Int32)), (.int (5 : Int32))] ?_ fun _ k_ => XT.iconstV X21.here hx rfl (5 : Int32) (hb hby d14_16) (by decide) k_
              refine Go.k 84 [] ?_ fun _ k_ => XS.icmpYes X21.here hx rfl (pc0 := 17) (pc' := 84) rfl (hb hby d14_17) rfl (by decide) (by decide) (by decide) k_
              exact Go.retU X21 hx hret hlk (by decide) (by decide) (hb hby d14_84) (by rw [e21]; exact ⟨rfl, N21, (Nat.le_trans (Nat.le_trans (Nat.le_trans (Nat.le_trans (Nat.le_trans (Nat.le_trans (Nat.le_refl _) S1) (Nat.le_of_eq W5.size.symm)) (Nat.le_of_eq W9.size.symm)) (Nat.le_of_eq W13.size.symm)) (Nat.le_of_eq W17.size.symm)) (Nat.le_of_eq W21.size.symm)), y0, y1, y2, y3, y4, u0, u1, u2, u3, u4, (own_set f1 wd1.toNatClampNeg ((f1 wd1.toNatClampNeg) ||| mk1)), (own_set f2 wd2.toNatClampNeg ((f2 wd2.toNatClampNeg) ||| mk2)), (own_set f3 wd3.toNatClampNeg ((f3 wd3.toNatClampNeg) ||| mk3)), (own_set f4 wd4.toNatClampNeg ((f4 wd4.toNatClampNeg) ||| mk4)), ⟨(((((WEr.wr W5).wr W9).wr W13).wr W17).wr W21), (((((WFr.other W5 (Or.inl ne_w_x0r)).other W9 (Or.inl ne_w_x1r)).other W13 (Or.inl ne_w_x2r)).other W17 (Or.inl ne_w_x3r)).other W21 (Or.inl ne_w_x4r)), (((((WAr.other W5 ne_lv_x0r).other W9 ne_lv_x1r).other W13 ne_lv_x2r).other W17 ne_lv_x3r).other W21 ne_lv_x4r), WOr, ((((V5.other W9 ne_x0_x1r).other W13 ne_x0_x2r).other W17 ne_x0_x3r).other W21 ne_x0_x4r), (((V9.other W13 ne_x1_x2r).other W17 ne_x1_x3r).other W21 ne_x1_x4r), ((V13.other W17 ne_x2_x3r).other W21 ne_x2_x4r), (V17.other W21 ne_x3_x4r), V21, glr, g0r, g1r, g2r, g3r, g4r, ne_w_lvr, ne_w_x0r, ne_w_x1r, ne_w_x2r, ne_w_x3r, ne_w_x4r, ne_lv_x0r, ne_lv_x1r, ne_lv_x2r, ne_lv_x3r, ne_lv_x4r, ne_x0_x1r, ne_x0_x2r, ne_x0_x3r, ne_x0_x4r, ne_x1_x2r, ne_x1_x3r, ne_x1_x4r, ne_x2_x3r, ne_x2_x4r, ne_x3_x4r⟩, ⟨by omega, by omega, by omega, by omega, by omega, by omega, by omega, by omega, by omega, by omega, by omega, by omega, by omega, by omega⟩, ⟨(by rw [emk1, nwd1]; exact own_P_B hp0 (own_or_ne' hc2) (by omega) rfl), (by rw [emk2, nwd2]; exact own_P_B hp1 (own_or_ne' hmk1) (by omega) rfl), (by rw [emk3, nwd3]; exact own_P_B hp2 (own_or_ne' hmk2) (by omega) rfl), (by rw [emk4, nwd4]; exact own_P_B hp3 (own_or_ne' hmk3) (by omega) rfl)⟩⟩)
          · refine Go.k 68 [] ?_ fun _ k_ => XS.ifYes X17.here hx rfl (pc0 := 58) (pc' := 68) rfl (hb hby d14_58) rfl ((if0 _ _).trans (feq (fun q_ => hc18 ((lw_eq _ _).mp q_))).2) (by decide) (by decide) k_
            refine Go.k 69 [(.long (0 : Int64))] ?_ fun _ k_ => XT.lconstV X17.here hx rfl (0 : Int64) (hb hby d14_68) (by decide) k_
            refine Go.s (g' := (mkF m 71 #[(sR w), (sI bl), (sJ bits), .second, (sI wd3), (sJ (0 : Int64)), .second, (sI (3 : Int32)), (sJ (f3 wd3.toNatClampNeg)), .second] [])) ?_ fun _ k_ => XT.lstore X17.here hx rfl (hb hby d14_69) rfl (l' := #[(sR w), (sI bl), (sJ bits), .second, (sI wd3), (sJ (0 : Int64)), .second, (sI (3 : Int32)), (sJ (f3 wd3.toNatClampNeg)), .second]) rfl k_
            refine Go.k 73 [(.int wd3)] ?_ fun _ k_ => XS.iload X17.here hx rfl (hb hby d14_71) rfl k_
            refine Go.k 75 [(.int (6 : Int32)), (.int wd3)] ?_ fun _ k_ => XT.bipushV X17.here hx rfl (6 : Int32) (hb hby d14_73) (by decide) k_
            refine Go.k 76 [(.int (XT.ushr wd3 (6 : Int32)))] ?_ fun _ k_ => XT.iushr X17.here hx rfl (hb hby d14_75) rfl k_
            obtain ⟨wd4, ewd4⟩ : ∃ q_ : Int32, q_ = XT.ushr wd3 6 := ⟨_, rfl⟩
            rw [← ewd4]
            have hwd4 : wd4.toInt = wd3.toInt / 64 := by rw [ewd4]; exact own_ushr6 _ (by omega)
            have nwd4 : wd4.toNatClampNeg = wd3.toNatClampNeg / 64 := by simp only [Int32.toNatClampNeg]; omega
            refine Go.s (g' := (mkF m 78 #[(sR w), (sI bl), (sJ bits), .second, (sI wd4), (sJ (0 : Int64)), .second, (sI (3 : Int32)), (sJ (f3 wd3.toNatClampNeg)), .second] [])) ?_ fun _ k_ => XS.istore X17.here hx rfl (hb hby d14_76) rfl (l' := #[(sR w), (sI bl), (sJ bits), .second, (sI wd4), (sJ (0 : Int64)), .second, (sI (3 : Int32)), (sJ (f3 wd3.toNatClampNeg)), .second]) rfl k_
            refine Go.s (g' := (mkF m 81 #[(sR w), (sI bl), (sJ bits), .second, (sI wd4), (sJ (0 : Int64)), .second, (sI (4 : Int32)), (sJ (f3 wd3.toNatClampNeg)), .second] [])) ?_ fun _ k_ => XT.iincV X17.here hx rfl (1 : Int32) (hb hby d14_78) (by decide) rfl (l' := #[(sR w), (sI bl), (sJ bits), .second, (sI wd4), (sJ (0 : Int64)), .second, (sI (4 : Int32)), (sJ (f3 wd3.toNatClampNeg)), .second]) rfl k_
            refine Go.k 14 [] ?_ fun _ k_ => XS.goto X17.here hx rfl (pc0 := 81) (pc' := 14) rfl (hb hby d14_81) (by decide) (by decide) k_
            refine Go.k 16 [(.int (4 : Int32))] ?_ fun _ k_ => XS.iload X17.here hx rfl (hb hby d14_14) rfl k_
            refine Go.k 17 [(.int (5 : Int32)), (.int (4 : Int32))] ?_ fun _ k_ => XT.iconstV X17.here hx rfl (5 : Int32) (hb hby d14_16) (by decide) k_
            refine Go.k 20 [] ?_ fun _ k_ => XS.icmpNo X17.here hx rfl (hb hby d14_17) rfl (by decide) k_
            refine Go.k 22 [(.long (0 : Int64))] ?_ fun _ k_ => XT.lload X17.here hx rfl (hb hby d14_20) rfl k_
            refine Go.k 23 [(.long (0 : Int64)), (.long (0 : Int64))] ?_ fun _ k_ => XT.lconstV X17.here hx rfl (0 : Int64) (hb hby d14_22) (by decide) k_
            refine Go.k 24 [(.int (lcmpW (0 : Int64) (0 : Int64)))] ?_ fun _ k_ => XT.lcmp X17.here hx rfl (hb hby d14_23) rfl k_
            refine Go.k 84 [] ?_ fun _ k_ => XS.ifYes X17.here hx rfl (pc0 := 24) (pc' := 84) rfl (hb hby d14_24) rfl ((if0 _ _).trans (teq ((lw_eq _ _).mpr (rfl : (0 : Int64) = (0 : Int64)))).1) (by decide) (by decide) k_
            exact Go.retU X17 hx hret hlk (by decide) (by decide) (hb hby d14_84) (by rw [e17]; exact ⟨rfl, N17, (Nat.le_trans (Nat.le_trans (Nat.le_trans (Nat.le_trans (Nat.le_trans (Nat.le_refl _) S1) (Nat.le_of_eq W5.size.symm)) (Nat.le_of_eq W9.size.symm)) (Nat.le_of_eq W13.size.symm)) (Nat.le_of_eq W17.size.symm)), y0, y1, y2, y3, y4, u0, u1, u2, u3, u4, (own_set f1 wd1.toNatClampNeg ((f1 wd1.toNatClampNeg) ||| mk1)), (own_set f2 wd2.toNatClampNeg ((f2 wd2.toNatClampNeg) ||| mk2)), (own_set f3 wd3.toNatClampNeg ((f3 wd3.toNatClampNeg) ||| mk3)), f4, ⟨((((WEr.wr W5).wr W9).wr W13).wr W17), ((((WFr.other W5 (Or.inl ne_w_x0r)).other W9 (Or.inl ne_w_x1r)).other W13 (Or.inl ne_w_x2r)).other W17 (Or.inl ne_w_x3r)), ((((WAr.other W5 ne_lv_x0r).other W9 ne_lv_x1r).other W13 ne_lv_x2r).other W17 ne_lv_x3r), WOr, (((V5.other W9 ne_x0_x1r).other W13 ne_x0_x2r).other W17 ne_x0_x3r), ((V9.other W13 ne_x1_x2r).other W17 ne_x1_x3r), (V13.other W17 ne_x2_x3r), V17, ((((B4r.other W5 (fun q_ => ne_x0_x4r q_.symm)).other W9 (fun q_ => ne_x1_x4r q_.symm)).other W13 (fun q_ => ne_x2_x4r q_.symm)).other W17 (fun q_ => ne_x3_x4r q_.symm)), glr, g0r, g1r, g2r, g3r, g4r, ne_w_lvr, ne_w_x0r, ne_w_x1r, ne_w_x2r, ne_w_x3r, ne_w_x4r, ne_lv_x0r, ne_lv_x1r, ne_lv_x2r, ne_lv_x3r, ne_lv_x4r, ne_x0_x1r, ne_x0_x2r, ne_x0_x3r, ne_x0_x4r, ne_x1_x2r, ne_x1_x3r, ne_x1_x4r, ne_x2_x3r, ne_x2_x4r, ne_x3_x4r⟩, ⟨by omega, by omega, by omega, by omega, by omega, by omega, by omega, by omega, by omega, by omega, by omega, by omega, by omega, by omega⟩, ⟨(by rw [emk1, nwd1]; exact own_P_B hp0 (own_or_ne' hc2) (by omega) rfl), (by rw [emk2, nwd2]; exact own_P_B hp1 (own_or_ne' hmk1) (by omega) rfl), (by rw [emk3, nwd3]; exact own_P_B hp2 (own_or_ne' hmk2) (by omega) rfl), own_P_A hp3 hc18 (own_or_ne hc18)⟩⟩)
        · refine Go.k 68 [] ?_ fun _ k_ => XS.ifYes X13.here hx rfl (pc0 := 58) (pc' := 68) rfl (hb hby d14_58) rfl ((if0 _ _).trans (feq (fun q_ => hc14 ((lw_eq _ _).mp q_))).2) (by decide) (by decide) k_
          refine Go.k 69 [(.long (0 : Int64))] ?_ fun _ k_ => XT.lconstV X13.here hx rfl (0 : Int64) (hb hby d14_68) (by decide) k_
          refine Go.s (g' := (mkF m 71 #[(sR w), (sI bl), (sJ bits), .second, (sI wd2), (sJ (0 : Int64)), .second, (sI (2 : Int32)), (sJ (f2 wd2.toNatClampNeg)), .second] [])) ?_ fun _ k_ => XT.lstore X13.here hx rfl (hb hby d14_69) rfl (l' := #[(sR w), (sI bl), (sJ bits), .second, (sI wd2), (sJ (0 : Int64)), .second, (sI (2 : Int32)), (sJ (f2 wd2.toNatClampNeg)), .second]) rfl k_
          refine Go.k 73 [(.int wd2)] ?_ fun _ k_ => XS.iload X13.here hx rfl (hb hby d14_71) rfl k_
          refine Go.k 75 [(.int (6 : Int32)), (.int wd2)] ?_ fun _ k_ => XT.bipushV X13.here hx rfl (6 : Int32) (hb hby d14_73) (by decide) k_
          refine Go.k 76 [(.int (XT.ushr wd2 (6 : Int32)))] ?_ fun _ k_ => XT.iushr X13.here hx rfl (hb hby d14_75) rfl k_
          obtain ⟨wd3, ewd3⟩ : ∃ q_ : Int32, q_ = XT.ushr wd2 6 := ⟨_, rfl⟩
          rw [← ewd3]
          have hwd3 : wd3.toInt = wd2.toInt / 64 := by rw [ewd3]; exact own_ushr6 _ (by omega)
          have nwd3 : wd3.toNatClampNeg = wd2.toNatClampNeg / 64 := by simp only [Int32.toNatClampNeg]; omega
          refine Go.s (g' := (mkF m 78 #[(sR w), (sI bl), (sJ bits), .second, (sI wd3), (sJ (0 : Int64)), .second, (sI (2 : Int32)), (sJ (f2 wd2.toNatClampNeg)), .second] [])) ?_ fun _ k_ => XS.istore X13.here hx rfl (hb hby d14_76) rfl (l' := #[(sR w), (sI bl), (sJ bits), .second, (sI wd3), (sJ (0 : Int64)), .second, (sI (2 : Int32)), (sJ (f2 wd2.toNatClampNeg)), .second]) rfl k_
          refine Go.s (g' := (mkF m 81 #[(sR w), (sI bl), (sJ bits), .second, (sI wd3), (sJ (0 : Int64)), .second, (sI (3 : Int32)), (sJ (f2 wd2.toNatClampNeg)), .second] [])) ?_ fun _ k_ => XT.iincV X13.here hx rfl (1 : Int32) (hb hby d14_78) (by decide) rfl (l' := #[(sR w), (sI bl), (sJ bits), .second, (sI wd3), (sJ (0 : Int64)), .second, (sI (3 : Int32)), (sJ (f2 wd2.toNatClampNeg)), .second]) rfl k_
          refine Go.k 14 [] ?_ fun _ k_ => XS.goto X13.here hx rfl (pc0 := 81) (pc' := 14) rfl (hb hby d14_81) (by decide) (by decide) k_
          refine Go.k 16 [(.int (3 : Int32))] ?_ fun _ k_ => XS.iload X13.here hx rfl (hb hby d14_14) rfl k_
          refine Go.k 17 [(.int (5 : Int32)), (.int (3 : Int32))] ?_ fun _ k_ => XT.iconstV X13.here hx rfl (5 : Int32) (hb hby d14_16) (by decide) k_
          refine Go.k 20 [] ?_ fun _ k_ => XS.icmpNo X13.here hx rfl (hb hby d14_17) rfl (by decide) k_
          refine Go.k 22 [(.long (0 : Int64))] ?_ fun _ k_ => XT.lload X13.here hx rfl (hb hby d14_20) rfl k_
          refine Go.k 23 [(.long (0 : Int64)), (.long (0 : Int64))] ?_ fun _ k_ => XT.lconstV X13.here hx rfl (0 : Int64) (hb hby d14_22) (by decide) k_
          refine Go.k 24 [(.int (lcmpW (0 : Int64) (0 : Int64)))] ?_ fun _ k_ => XT.lcmp X13.here hx rfl (hb hby d14_23) rfl k_
          refine Go.k 84 [] ?_ fun _ k_ => XS.ifYes X13.here hx rfl (pc0 := 24) (pc' := 84) rfl (hb hby d14_24) rfl ((if0 _ _).trans (teq ((lw_eq _ _).mpr (rfl : (0 : Int64) = (0 : Int64)))).1) (by decide) (by decide) k_
          exact Go.retU X13 hx hret hlk (by decide) (by decide) (hb hby d14_84) (by rw [e13]; exact ⟨rfl, N13, (Nat.le_trans (Nat.le_trans (Nat.le_trans (Nat.le_trans (Nat.le_refl _) S1) (Nat.le_of_eq W5.size.symm)) (Nat.le_of_eq W9.size.symm)) (Nat.le_of_eq W13.size.symm)), y0, y1, y2, y3, y4, u0, u1, u2, u3, u4, (own_set f1 wd1.toNatClampNeg ((f1 wd1.toNatClampNeg) ||| mk1)), (own_set f2 wd2.toNatClampNeg ((f2 wd2.toNatClampNeg) ||| mk2)), f3, f4, ⟨(((WEr.wr W5).wr W9).wr W13), (((WFr.other W5 (Or.inl ne_w_x0r)).other W9 (Or.inl ne_w_x1r)).other W13 (Or.inl ne_w_x2r)), (((WAr.other W5 ne_lv_x0r).other W9 ne_lv_x1r).other W13 ne_lv_x2r), WOr, ((V5.other W9 ne_x0_x1r).other W13 ne_x0_x2r), (V9.other W13 ne_x1_x2r), V13, (((B3r.other W5 (fun q_ => ne_x0_x3r q_.symm)).other W9 (fun q_ => ne_x1_x3r q_.symm)).other W13 (fun q_ => ne_x2_x3r q_.symm)), (((B4r.other W5 (fun q_ => ne_x0_x4r q_.symm)).other W9 (fun q_ => ne_x1_x4r q_.symm)).other W13 (fun q_ => ne_x2_x4r q_.symm)), glr, g0r, g1r, g2r, g3r, g4r, ne_w_lvr, ne_w_x0r, ne_w_x1r, ne_w_x2r, ne_w_x3r, ne_w_x4r, ne_lv_x0r, ne_lv_x1r, ne_lv_x2r, ne_lv_x3r, ne_lv_x4r, ne_x0_x1r, ne_x0_x2r, ne_x0_x3r, ne_x0_x4r, ne_x1_x2r, ne_x1_x3r, ne_x1_x4r, ne_x2_x3r, ne_x2_x4r, ne_x3_x4r⟩, ⟨by omega, by omega, by omega, by omega, by omega, by omega, by omega, by omega, by omega, by omega, by omega, by omega, by omega, by omega⟩, ⟨(by rw [emk1, nwd1]; exact own_P_B hp0 (own_or_ne' hc2) (by omega) rfl), (by rw [emk2, nwd2]; exact own_P_B hp1 (own_or_ne' hmk1) (by omega) rfl), own_P_A hp2 hc14 (own_or_ne hc14), hp3⟩⟩)
      · refine Go.k 68 [] ?_ fun _ k_ => XS.ifYes X9.here hx rfl (pc0 := 58) (pc' := 68) rfl (hb hby d14_58) rfl ((if0 _ _).trans (feq (fun q_ => hc10 ((lw_eq _ _).mp q_))).2) (by decide) (by decide) k_
        refine Go.k 69 [(.long (0 : Int64))] ?_ fun _ k_ => XT.lconstV X9.here hx rfl (0 : Int64) (hb hby d14_68) (by decide) k_
        refine Go.s (g' := (mkF m 71 #[(sR w), (sI bl), (sJ bits), .second, (sI wd1), (sJ (0 : Int64)), .second, (sI (1 : Int32)), (sJ (f1 wd1.toNatClampNeg)), .second] [])) ?_ fun _ k_ => XT.lstore X9.here hx rfl (hb hby d14_69) rfl (l' := #[(sR w), (sI bl), (sJ bits), .second, (sI wd1), (sJ (0 : Int64)), .second, (sI (1 : Int32)), (sJ (f1 wd1.toNatClampNeg)), .second]) rfl k_
        refine Go.k 73 [(.int wd1)] ?_ fun _ k_ => XS.iload X9.here hx rfl (hb hby d14_71) rfl k_
        refine Go.k 75 [(.int (6 : Int32)), (.int wd1)] ?_ fun _ k_ => XT.bipushV X9.here hx rfl (6 : Int32) (hb hby d14_73) (by decide) k_
        refine Go.k 76 [(.int (XT.ushr wd1 (6 : Int32)))] ?_ fun _ k_ => XT.iushr X9.here hx rfl (hb hby d14_75) rfl k_
        obtain ⟨wd2, ewd2⟩ : ∃ q_ : Int32, q_ = XT.ushr wd1 6 := ⟨_, rfl⟩
        rw [← ewd2]
        have hwd2 : wd2.toInt = wd1.toInt / 64 := by rw [ewd2]; exact own_ushr6 _ (by omega)
        have nwd2 : wd2.toNatClampNeg = wd1.toNatClampNeg / 64 := by simp only [Int32.toNatClampNeg]; omega
        refine Go.s (g' := (mkF m 78 #[(sR w), (sI bl), (sJ bits), .second, (sI wd2), (sJ (0 : Int64)), .second, (sI (1 : Int32)), (sJ (f1 wd1.toNatClampNeg)), .second] [])) ?_ fun _ k_ => XS.istore X9.here hx rfl (hb hby d14_76) rfl (l' := #[(sR w), (sI bl), (sJ bits), .second, (sI wd2), (sJ (0 : Int64)), .second, (sI (1 : Int32)), (sJ (f1 wd1.toNatClampNeg)), .second]) rfl k_
        refine Go.s (g' := (mkF m 81 #[(sR w), (sI bl), (sJ bits), .second, (sI wd2), (sJ (0 : Int64)), .second, (sI (2 : Int32)), (sJ (f1 wd1.toNatClampNeg)), .second] [])) ?_ fun _ k_ => XT.iincV X9.here hx rfl (1 : Int32) (hb hby d14_78) (by decide) rfl (l' := #[(sR w), (sI bl), (sJ bits), .second, (sI wd2), (sJ (0 : Int64)), .second, (sI (2 : Int32)), (sJ (f1 wd1.toNatClampNeg)), .second]) rfl k_
        refine Go.k 14 [] ?_ fun _ k_ => XS.goto X9.here hx rfl (pc0 := 81) (pc' := 14) rfl (hb hby d14_81) (by decide) (by decide) k_
        refine Go.k 16 [(.int (2 : Int32))] ?_ fun _ k_ => XS.iload X9.here hx rfl (hb hby d14_14) rfl k_
        refine Go.k 17 [(.int (5 : Int32)), (.int (2 : Int32))] ?_ fun _ k_ => XT.iconstV X9.here hx rfl (5 : Int32) (hb hby d14_16) (by decide) k_
        refine Go.k 20 [] ?_ fun _ k_ => XS.icmpNo X9.here hx rfl (hb hby d14_17) rfl (by decide) k_
        refine Go.k 22 [(.long (0 : Int64))] ?_ fun _ k_ => XT.lload X9.here hx rfl (hb hby d14_20) rfl k_
        refine Go.k 23 [(.long (0 : Int64)), (.long (0 : Int64))] ?_ fun _ k_ => XT.lconstV X9.here hx rfl (0 : Int64) (hb hby d14_22) (by decide) k_
        refine Go.k 24 [(.int (lcmpW (0 : Int64) (0 : Int64)))] ?_ fun _ k_ => XT.lcmp X9.here hx rfl (hb hby d14_23) rfl k_
        refine Go.k 84 [] ?_ fun _ k_ => XS.ifYes X9.here hx rfl (pc0 := 24) (pc' := 84) rfl (hb hby d14_24) rfl ((if0 _ _).trans (teq ((lw_eq _ _).mpr (rfl : (0 : Int64) = (0 : Int64)))).1) (by decide) (by decide) k_
        exact Go.retU X9 hx hret hlk (by decide) (by decide) (hb hby d14_84) (by rw [e9]; exact ⟨rfl, N9, (Nat.le_trans (Nat.le_trans (Nat.le_trans (Nat.le_refl _) S1) (Nat.le_of_eq W5.size.symm)) (Nat.le_of_eq W9.size.symm)), y0, y1, y2, y3, y4, u0, u1, u2, u3, u4, (own_set f1 wd1.toNatClampNeg ((f1 wd1.toNatClampNeg) ||| mk1)), f2, f3, f4, ⟨((WEr.wr W5).wr W9), ((WFr.other W5 (Or.inl ne_w_x0r)).other W9 (Or.inl ne_w_x1r)), ((WAr.other W5 ne_lv_x0r).other W9 ne_lv_x1r), WOr, (V5.other W9 ne_x0_x1r), V9, ((B2r.other W5 (fun q_ => ne_x0_x2r q_.symm)).other W9 (fun q_ => ne_x1_x2r q_.symm)), ((B3r.other W5 (fun q_ => ne_x0_x3r q_.symm)).other W9 (fun q_ => ne_x1_x3r q_.symm)), ((B4r.other W5 (fun q_ => ne_x0_x4r q_.symm)).other W9 (fun q_ => ne_x1_x4r q_.symm)), glr, g0r, g1r, g2r, g3r, g4r, ne_w_lvr, ne_w_x0r, ne_w_x1r, ne_w_x2r, ne_w_x3r, ne_w_x4r, ne_lv_x0r, ne_lv_x1r, ne_lv_x2r, ne_lv_x3r, ne_lv_x4r, ne_x0_x1r, ne_x0_x2r, ne_x0_x3r, ne_x0_x4r, ne_x1_x2r, ne_x1_x3r, ne_x1_x4r, ne_x2_x3r, ne_x2_x4r, ne_x3_x4r⟩, ⟨by omega, by omega, by omega, by omega, by omega, by omega, by omega, by omega, by omega, by omega, by omega, by omega, by omega, by omega⟩, ⟨(by rw [emk1, nwd1]; exact own_P_B hp0 (own_or_ne' hc2) (by omega) rfl), own_P_A hp1 hc10 (own_or_ne hc10), hp2, hp3⟩⟩)
    · refine Go.k 68 [] ?_ fun _ k_ => XS.ifYes X5.here hx rfl (pc0 := 58) (pc' := 68) rfl (hb hby d14_58) rfl ((if0 _ _).trans (feq (fun q_ => hc6 ((lw_eq _ _).mp q_))).2) (by decide) (by decide) k_
      refine Go.k 69 [(.long (0 : Int64))] ?_ fun _ k_ => XT.lconstV X5.here hx rfl (0 : Int64) (hb hby d14_68) (by decide) k_
      refine Go.s (g' := (mkF m 71 #[(sR w), (sI bl), (sJ bits), .second, (sI bl), (sJ (0 : Int64)), .second, (sI (0 : Int32)), (sJ (f0 bl.toNatClampNeg)), .second] [])) ?_ fun _ k_ => XT.lstore X5.here hx rfl (hb hby d14_69) rfl (l' := #[(sR w), (sI bl), (sJ bits), .second, (sI bl), (sJ (0 : Int64)), .second, (sI (0 : Int32)), (sJ (f0 bl.toNatClampNeg)), .second]) rfl k_
      refine Go.k 73 [(.int bl)] ?_ fun _ k_ => XS.iload X5.here hx rfl (hb hby d14_71) rfl k_
      refine Go.k 75 [(.int (6 : Int32)), (.int bl)] ?_ fun _ k_ => XT.bipushV X5.here hx rfl (6 : Int32) (hb hby d14_73) (by decide) k_
      refine Go.k 76 [(.int (XT.ushr bl (6 : Int32)))] ?_ fun _ k_ => XT.iushr X5.here hx rfl (hb hby d14_75) rfl k_
      obtain ⟨wd1, ewd1⟩ : ∃ q_ : Int32, q_ = XT.ushr bl 6 := ⟨_, rfl⟩
      rw [← ewd1]
      have hwd1 : wd1.toInt = bl.toInt / 64 := by rw [ewd1]; exact own_ushr6 _ (by omega)
      have nwd1 : wd1.toNatClampNeg = bl.toNatClampNeg / 64 := by simp only [Int32.toNatClampNeg]; omega
      refine Go.s (g' := (mkF m 78 #[(sR w), (sI bl), (sJ bits), .second, (sI wd1), (sJ (0 : Int64)), .second, (sI (0 : Int32)), (sJ (f0 bl.toNatClampNeg)), .second] [])) ?_ fun _ k_ => XS.istore X5.here hx rfl (hb hby d14_76) rfl (l' := #[(sR w), (sI bl), (sJ bits), .second, (sI wd1), (sJ (0 : Int64)), .second, (sI (0 : Int32)), (sJ (f0 bl.toNatClampNeg)), .second]) rfl k_
      refine Go.s (g' := (mkF m 81 #[(sR w), (sI bl), (sJ bits), .second, (sI wd1), (sJ (0 : Int64)), .second, (sI (1 : Int32)), (sJ (f0 bl.toNatClampNeg)), .second] [])) ?_ fun _ k_ => XT.iincV X5.here hx rfl (1 : Int32) (hb hby d14_78) (by decide) rfl (l' := #[(sR w), (sI bl), (sJ bits), .second, (sI wd1), (sJ (0 : Int64)), .second, (sI (1 : Int32)), (sJ (f0 bl.toNatClampNeg)), .second]) rfl k_
      refine Go.k 14 [] ?_ fun _ k_ => XS.goto X5.here hx rfl (pc0 := 81) (pc' := 14) rfl (hb hby d14_81) (by decide) (by decide) k_
      refine Go.k 16 [(.int (1 : Int32))] ?_ fun _ k_ => XS.iload X5.here hx rfl (hb hby d14_14) rfl k_
      refine Go.k 17 [(.int (5 : Int32)), (.int (1 : Int32))] ?_ fun _ k_ => XT.iconstV X5.here hx rfl (5 : Int32) (hb hby d14_16) (by decide) k_
      refine Go.k 20 [] ?_ fun _ k_ => XS.icmpNo X5.here hx rfl (hb hby d14_17) rfl (by decide) k_
      refine Go.k 22 [(.long (0 : Int64))] ?_ fun _ k_ => XT.lload X5.here hx rfl (hb hby d14_20) rfl k_
      refine Go.k 23 [(.long (0 : Int64)), (.long (0 : Int64))] ?_ fun _ k_ => XT.lconstV X5.here hx rfl (0 : Int64) (hb hby d14_22) (by decide) k_
      refine Go.k 24 [(.int (lcmpW (0 : Int64) (0 : Int64)))] ?_ fun _ k_ => XT.lcmp X5.here hx rfl (hb hby d14_23) rfl k_
      refine Go.k 84 [] ?_ fun _ k_ => XS.ifYes X5.here hx rfl (pc0 := 24) (pc' := 84) rfl (hb hby d14_24) rfl ((if0 _ _).trans (teq ((lw_eq _ _).mpr (rfl : (0 : Int64) = (0 : Int64)))).1) (by decide) (by decide) k_
      exact Go.retU X5 hx hret hlk (by decide) (by decide) (hb hby d14_84) (by rw [e5]; exact ⟨rfl, N5, (Nat.le_trans (Nat.le_trans (Nat.le_refl _) S1) (Nat.le_of_eq W5.size.symm)), y0, y1, y2, y3, y4, u0, u1, u2, u3, u4, f1, f2, f3, f4, ⟨(WEr.wr W5), (WFr.other W5 (Or.inl ne_w_x0r)), (WAr.other W5 ne_lv_x0r), WOr, V5, (B1r.other W5 (fun q_ => ne_x0_x1r q_.symm)), (B2r.other W5 (fun q_ => ne_x0_x2r q_.symm)), (B3r.other W5 (fun q_ => ne_x0_x3r q_.symm)), (B4r.other W5 (fun q_ => ne_x0_x4r q_.symm)), glr, g0r, g1r, g2r, g3r, g4r, ne_w_lvr, ne_w_x0r, ne_w_x1r, ne_w_x2r, ne_w_x3r, ne_w_x4r, ne_lv_x0r, ne_lv_x1r, ne_lv_x2r, ne_lv_x3r, ne_lv_x4r, ne_x0_x1r, ne_x0_x2r, ne_x0_x3r, ne_x0_x4r, ne_x1_x2r, ne_x1_x3r, ne_x1_x4r, ne_x2_x3r, ne_x2_x4r, ne_x3_x4r⟩, ⟨by omega, by omega, by omega, by omega, by omega, by omega, by omega, by omega, by omega, by omega, by omega, by omega, by omega, by omega⟩, ⟨own_P_A hp0 hc6 (own_or_ne hc6), hp1, hp2, hp3⟩⟩)
theorem d15_0 : decode prog_59_method_6_code 0 = .ok (.iload_n 1, 1) := by decide +kernel
theorem d15_1 : decode prog_59_method_6_code 1 = .ok (.istore 4, 2) := by decide +kernel
theorem d15_3 : decode prog_59_method_6_code 3 = .ok (.iload_n 1, 1) := by decide +kernel
theorem d15_4 : decode prog_59_method_6_code 4 = .ok (.aload_n 0, 1) := by decide +kernel
theorem d15_5 : decode prog_59_method_6_code 5 = .ok (.getfield 11, 3) := by decide +kernel
theorem d15_8 : decode prog_59_method_6_code 8 = .ok (.iconst 0, 1) := by decide +kernel
theorem d15_9 : decode prog_59_method_6_code 9 = .ok (.aaload, 1) := by decide +kernel
theorem d15_10 : decode prog_59_method_6_code 10 = .ok (.arraylength, 1) := by decide +kernel
theorem d15_11 : decode prog_59_method_6_code 11 = .ok (.if_icmp .ge 7, 3) := by decide +kernel
theorem d15_14 : decode prog_59_method_6_code 14 = .ok (.lload_n 2, 1) := by decide +kernel
theorem d15_15 : decode prog_59_method_6_code 15 = .ok (.goto 4, 3) := by decide +kernel
theorem d15_19 : decode prog_59_method_6_code 19 = .ok (.lstore 5, 2) := by decide +kernel
theorem d15_21 : decode prog_59_method_6_code 21 = .ok (.iconst 0, 1) := by decide +kernel
theorem d15_22 : decode prog_59_method_6_code 22 = .ok (.istore 7, 2) := by decide +kernel
theorem d15_24 : decode prog_59_method_6_code 24 = .ok (.iload 7, 2) := by decide +kernel
theorem d15_26 : decode prog_59_method_6_code 26 = .ok (.iconst 5, 1) := by decide +kernel
theorem d15_27 : decode prog_59_method_6_code 27 = .ok (.if_icmp .ge 82, 3) := by decide +kernel
theorem d15_30 : decode prog_59_method_6_code 30 = .ok (.lload 5, 2) := by decide +kernel
theorem d15_32 : decode prog_59_method_6_code 32 = .ok (.lconst 0, 1) := by decide +kernel
theorem d15_33 : decode prog_59_method_6_code 33 = .ok (.lcmp, 1) := by decide +kernel
theorem d15_34 : decode prog_59_method_6_code 34 = .ok (.ifCond .eq 75, 3) := by decide +kernel
theorem d15_109 : decode prog_59_method_6_code 109 = .ok (.return_, 1) := by decide +kernel
theorem d15_37 : decode prog_59_method_6_code 37 = .ok (.aload_n 0, 1) := by decide +kernel
theorem d15_38 : decode prog_59_method_6_code 38 = .ok (.getfield 11, 3) := by decide +kernel
theorem d15_41 : decode prog_59_method_6_code 41 = .ok (.iload 7, 2) := by decide +kernel
theorem d15_43 : decode prog_59_method_6_code 43 = .ok (.aaload, 1) := by decide +kernel
theorem d15_44 : decode prog_59_method_6_code 44 = .ok (.iload 4, 2) := by decide +kernel
theorem d15_46 : decode prog_59_method_6_code 46 = .ok (.laload, 1) := by decide +kernel
theorem d15_47 : decode prog_59_method_6_code 47 = .ok (.lstore 8, 2) := by decide +kernel
theorem d15_49 : decode prog_59_method_6_code 49 = .ok (.lload 8, 2) := by decide +kernel
theorem d15_51 : decode prog_59_method_6_code 51 = .ok (.lload 5, 2) := by decide +kernel
theorem d15_53 : decode prog_59_method_6_code 53 = .ok (.ldc2_w 25, 3) := by decide +kernel
theorem d15_56 : decode prog_59_method_6_code 56 = .ok (.lxor, 1) := by decide +kernel
theorem d15_57 : decode prog_59_method_6_code 57 = .ok (.land, 1) := by decide +kernel
theorem d15_58 : decode prog_59_method_6_code 58 = .ok (.lstore 10, 2) := by decide +kernel
theorem d15_60 : decode prog_59_method_6_code 60 = .ok (.aload_n 0, 1) := by decide +kernel
theorem d15_61 : decode prog_59_method_6_code 61 = .ok (.getfield 11, 3) := by decide +kernel
theorem d15_64 : decode prog_59_method_6_code 64 = .ok (.iload 7, 2) := by decide +kernel
theorem d15_66 : decode prog_59_method_6_code 66 = .ok (.aaload, 1) := by decide +kernel
theorem d15_67 : decode prog_59_method_6_code 67 = .ok (.iload 4, 2) := by decide +kernel
theorem d15_69 : decode prog_59_method_6_code 69 = .ok (.lload 10, 2) := by decide +kernel
theorem d15_71 : decode prog_59_method_6_code 71 = .ok (.lastore, 1) := by decide +kernel
theorem d15_72 : decode prog_59_method_6_code 72 = .ok (.lload 10, 2) := by decide +kernel
theorem d15_74 : decode prog_59_method_6_code 74 = .ok (.lconst 0, 1) := by decide +kernel
theorem d15_75 : decode prog_59_method_6_code 75 = .ok (.lcmp, 1) := by decide +kernel
theorem d15_76 : decode prog_59_method_6_code 76 = .ok (.ifCond .ne 17, 3) := by decide +kernel
theorem d15_79 : decode prog_59_method_6_code 79 = .ok (.lload 8, 2) := by decide +kernel
theorem d15_81 : decode prog_59_method_6_code 81 = .ok (.lconst 0, 1) := by decide +kernel
theorem d15_82 : decode prog_59_method_6_code 82 = .ok (.lcmp, 1) := by decide +kernel
theorem d15_83 : decode prog_59_method_6_code 83 = .ok (.ifCond .eq 10, 3) := by decide +kernel
theorem d15_93 : decode prog_59_method_6_code 93 = .ok (.lconst 0, 1) := by decide +kernel
theorem d15_94 : decode prog_59_method_6_code 94 = .ok (.lstore 5, 2) := by decide +kernel
theorem d15_96 : decode prog_59_method_6_code 96 = .ok (.iload 4, 2) := by decide +kernel
theorem d15_98 : decode prog_59_method_6_code 98 = .ok (.bipush 6, 2) := by decide +kernel
theorem d15_100 : decode prog_59_method_6_code 100 = .ok (.iushr, 1) := by decide +kernel
theorem d15_101 : decode prog_59_method_6_code 101 = .ok (.istore 4, 2) := by decide +kernel
theorem d15_103 : decode prog_59_method_6_code 103 = .ok (.iinc 7 1, 3) := by decide +kernel
theorem d15_106 : decode prog_59_method_6_code 106 = .ok (.goto (-82), 3) := by decide +kernel
theorem d15_86 : decode prog_59_method_6_code 86 = .ok (.lconst 1, 1) := by decide +kernel
theorem d15_87 : decode prog_59_method_6_code 87 = .ok (.iload 4, 2) := by decide +kernel
theorem d15_89 : decode prog_59_method_6_code 89 = .ok (.lshl, 1) := by decide +kernel
theorem d15_90 : decode prog_59_method_6_code 90 = .ok (.goto 4, 3) := by decide +kernel
theorem d15_18 : decode prog_59_method_6_code 18 = .ok (.lconst 0, 1) := by decide +kernel
set_option maxRecDepth 65536 in
set_option maxHeartbeats 40000000 in
theorem rem (l : Launch) (Z : State) (a0 : Array Value) (hw : ∀ d ∈ tables_1, d.before a0 Z = true) (ws : List Jvm.Cond) (w lv : Addr) (kL : ClassId) (x0 x1 x2 x3 x4 : Addr) (z0 z1 z2 z3 z4 : Int32) (f0 f1 f2 f3 f4 : Nat → Int64) (bl : Int32) (bits : Int64) (h0 : Heap) (n0 : Nat) (Z0 : n0 ≤ h0.size) (HW : own_WI Z h0 n0 w lv kL x0 x1 x2 x3 x4 z0 z1 z2 z3 z4 f0 f1 f2 f3 f4) (HC : own_Ch z0 z1 z2 z3 z4) (b0 : 0 ≤ bl.toInt) (HP : own_P f0 f1 ∧ own_P f1 f2 ∧ own_P f2 f3 ∧ own_P f3 f4) :
    Does l (⟨"com/example/slantwise/slantwise/engine/WordIndex", "removeAll", "(IJ)V"⟩ : MethodName) prog_59_method_6_code 12 none ws ({ frames := 0, cells := 0, slots := 0, locals := 0 } : Room) #[(.ref w), (.int bl), (.long bits)] Z h0 (fun v h L => v = none ∧ Fr n0 L ∧ h0.size ≤ h.size ∧ ∃ g1 g2 g3 g4, own_WI Z h n0 w lv kL x0 x1 x2 x3 x4 z0 z1 z2 z3 z4 (own_an f0 bl.toNatClampNeg bits) g1 g2 g3 g4 ∧ (own_P (own_an f0 bl.toNatClampNeg bits) g1 ∧ own_P g1 g2 ∧ own_P g2 g3 ∧ own_P g3 g4)) := by
  refine Does.of (plainFor_of_name pn_com_example_slantwise_slantwise_engine_WordIndex) ?_
  intro p e s m below meth c s₁ hx hby hml hret hlk hown0 hnm hZ X0 e0
  have hown : s.vm.findClass "com/example/slantwise/slantwise/engine/WordIndex" = some m.cls := hown0
  have N0 := Fr.nil n0
  obtain ⟨WE, WF, WA, WO, B0, B1, B2, B3, B4, gl, g0, g1, g2, g3, g4, ne_w_lv, ne_w_x0, ne_w_x1, ne_w_x2, ne_w_x3, ne_w_x4, ne_lv_x0, ne_lv_x1, ne_lv_x2, ne_lv_x3, ne_lv_x4, ne_x0_x1, ne_x0_x2, ne_x0_x3, ne_x0_x4, ne_x1_x2, ne_x1_x3, ne_x1_x4, ne_x2_x3, ne_x2_x4, ne_x3_x4⟩ := HW
  obtain ⟨c0a, c0b, c1a, c1b, c2a, c2b, c3a, c3b, c4a, c4b, d0, d1, d2, d3⟩ := HC
  obtain ⟨hp0, hp1, hp2, hp3⟩ := HP
  refine Go.cast (g' := (mkF m 0 #[(sR w), (sI bl), (sJ bits), .second, .unset, .unset, .unset, .unset, .unset, .unset, .unset, .unset] [])) (by first | (simp [entryFrame, mkF, argsToLocals, Value.category, maxLocals, sI, sR, sJ]; done) | rfl) ?_
  refine Go.k 1 [(.int bl)] ?_ fun _ k_ => XS.iloadN X0.here hx rfl (hb hby d15_0) rfl k_
  refine Go.s (g' := (mkF m 3 #[(sR w), (sI bl), (sJ bits), .second, (sI bl), .unset, .unset, .unset, .unset, .unset, .unset, .unset] [])) ?_ fun _ k_ => XS.istore X0.here hx rfl (hb hby d15_1) rfl (l' := #[(sR w), (sI bl), (sJ bits), .second, (sI bl), .unset, .unset, .unset, .unset, .unset, .unset, .unset]) rfl k_
  refine Go.k 4 [(.int bl)] ?_ fun _ k_ => XS.iloadN X0.here hx rfl (hb hby d15_3) rfl k_
  refine Go.k 5 [(.ref w), (.int bl)] ?_ fun _ k_ => XS.aloadN X0.here hx rfl (hb hby d15_4) rfl rfl k_
  obtain ⟨T1, X1, e1, st1⟩ := getF X0 hx hZ hown (host := "") (Or.inl (wq hw 13 rfl)) Via.refl e0 WF (g := (mkF m 5 #[(sR w), (sI bl), (sJ bits), .second, (sI bl), .unset, .unset, .unset, .unset, .unset, .unset, .unset] [(.ref w), (.int bl)])) rfl rfl (hb hby d15_5)
  refine Go.t T1 8 [(.ref lv), (.int bl)] ?_ st1
  refine Go.k 9 [(.int (0 : Int32)), (.ref lv), (.int bl)] ?_ fun _ k_ => XT.iconstV X1.here hx rfl (0 : Int32) (hb hby d15_8) (by decide) k_
  refine Go.t T1 10 [(.ref x0), (.int bl)] ?_ (own_aaload X1 hx hZ e1 WA rfl (by decide) (by rw [show (0 : Int32).toNatClampNeg = 0 from by decide]; rfl) (g := (mkF m 9 #[(sR w), (sI bl), (sJ bits), .second, (sI bl), .unset, .unset, .unset, .unset, .unset, .unset, .unset] [(.int (0 : Int32)), (.ref lv), (.int bl)])) rfl rfl (hb hby d15_9))
  refine Go.t T1 11 [(.int z0), (.int bl)] ?_ (own_laN X1 hx hZ e1 B0 (g := (mkF m 10 #[(sR w), (sI bl), (sJ bits), .second, (sI bl), .unset, .unset, .unset, .unset, .unset, .unset, .unset] [(.ref x0), (.int bl)])) rfl rfl (hb hby d15_10))
  by_cases hc2 : bl < z0
  · refine Go.k 14 [] ?_ fun _ k_ => XS.icmpNo X1.here hx rfl (hb hby d15_11) rfl (tlt hc2).2.1 k_
    have hlt : bl.toInt < z0.toInt := Int32.lt_iff_toInt_lt.mp hc2
    refine Go.k 15 [(.long bits)] ?_ fun _ k_ => XT.lloadN X1.here hx rfl (hb hby d15_14) rfl k_
    refine Go.k 19 [(.long bits)] ?_ fun _ k_ => XS.goto X1.here hx rfl (pc0 := 15) (pc' := 19) rfl (hb hby d15_15) (by decide) (by decide) k_
    refine Go.s (g' := (mkF m 21 #[(sR w), (sI bl), (sJ bits), .second, (sI bl), (sJ bits), .second, .unset, .unset, .unset, .unset, .unset] [])) ?_ fun _ k_ => XT.lstore X1.here hx rfl (hb hby d15_19) rfl (l' := #[(sR w), (sI bl), (sJ bits), .second, (sI bl), (sJ bits), .second, .unset, .unset, .unset, .unset, .unset]) rfl k_
    refine Go.k 22 [(.int (0 : Int32))] ?_ fun _ k_ => XT.iconstV X1.here hx rfl (0 : Int32) (hb hby d15_21) (by decide) k_
    refine Go.s (g' := (mkF m 24 #[(sR w), (sI bl), (sJ bits), .second, (sI bl), (sJ bits), .second, (sI (0 : Int32)), .unset, .unset, .unset, .unset] [])) ?_ fun _ k_ => XS.istore X1.here hx rfl (hb hby d15_22) rfl (l' := #[(sR w), (sI bl), (sJ bits), .second, (sI bl), (sJ bits), .second, (sI (0 : Int32)), .unset, .unset, .unset, .unset]) rfl k_
    refine Go.k 26 [(.int (0 : Int32))] ?_ fun _ k_ => XS.iload X1.here hx rfl (hb hby d15_24) rfl k_
    refine Go.k 27 [(.int (5 : Int32)), (.int (0 : Int32))] ?_ fun _ k_ => XT.iconstV X1.here hx rfl (5 : Int32) (hb hby d15_26) (by decide) k_
    refine Go.k 30 [] ?_ fun _ k_ => XS.icmpNo X1.here hx rfl (hb hby d15_27) rfl (by decide) k_
    refine Go.k 32 [(.long bits)] ?_ fun _ k_ => XT.lload X1.here hx rfl (hb hby d15_30) rfl k_
    refine Go.k 33 [(.long (0 : Int64)), (.long bits)] ?_ fun _ k_ => XT.lconstV X1.here hx rfl (0 : Int64) (hb hby d15_32) (by decide) k_
    refine Go.k 34 [(.int (lcmpW bits (0 : Int64)))] ?_ fun _ k_ => XT.lcmp X1.here hx rfl (hb hby d15_33) rfl k_
    by_cases hc3 : bits = (0 : Int64)
    · refine Go.k 109 [] ?_ fun _ k_ => XS.ifYes X1.here hx rfl (pc0 := 34) (pc' := 109) rfl (hb hby d15_34) rfl ((if0 _ _).trans (teq ((lw_eq _ _).mpr hc3)).1) (by decide) (by decide) k_
      exact Go.retU X1 hx hret hlk (by decide) (by decide) (hb hby d15_109) (by rw [e1]; rw [own_an0 f0 bl.toNatClampNeg bits (Or.inl hc3)]; exact ⟨rfl, N0, (Nat.le_refl _), f1, f2, f3, f4, ⟨WE, WF, WA, WO, B0, B1, B2, B3, B4, gl, g0, g1, g2, g3, g4, ne_w_lv, ne_w_x0, ne_w_x1, ne_w_x2, ne_w_x3, ne_w_x4, ne_lv_x0, ne_lv_x1, ne_lv_x2, ne_lv_x3, ne_lv_x4, ne_x0_x1, ne_x0_x2, ne_x0_x3, ne_x0_x4, ne_x1_x2, ne_x1_x3, ne_x1_x4, ne_x2_x3, ne_x2_x4, ne_x3_x4⟩, ⟨hp0, hp1, hp2, hp3⟩⟩)
    · refine Go.k 37 [] ?_ fun _ k_ => XS.ifNo X1.here hx rfl (hb hby d15_34) rfl ((if0 _ _).trans (feq (fun q_ => hc3 ((lw_eq _ _).mp q_))).1) k_
      refine Go.k 38 [(.ref w)] ?_ fun _ k_ => XS.aloadN X1.here hx rfl (hb hby d15_37) rfl rfl k_
      obtain ⟨T4, X4, e4, st4⟩ := getF X1 hx hZ hown (host := "") (Or.inl (wq hw 13 rfl)) Via.refl e1 WF (g := (mkF m 38 #[(sR w), (sI bl), (sJ bits), .second, (sI bl), (sJ bits), .second, (sI (0 : Int32)), .unset, .unset, .unset, .unset] [(.ref w)])) rfl rfl (hb hby d15_38)
      refine Go.t T4 41 [(.ref lv)] ?_ st4
      refine Go.k 43 [(.int (0 : Int32)), (.ref lv)] ?_ fun _ k_ => XS.iload X4.here hx rfl (hb hby d15_41) rfl k_
      refine Go.t T4 44 [(.ref x0)] ?_ (own_aaload X4 hx hZ e4 WA rfl (by decide) (by rw [show (0 : Int32).toNatClampNeg = 0 from by decide]; rfl) (g := (mkF m 43 #[(sR w), (sI bl), (sJ bits), .second, (sI bl), (sJ bits), .second, (sI (0 : Int32)), .unset, .unset, .unset, .unset] [(.int (0 : Int32)), (.ref lv)])) rfl rfl (hb hby d15_43))
      refine Go.k 46 [(.int bl), (.ref x0)] ?_ fun _ k_ => XS.iload X4.here hx rfl (hb hby d15_44) rfl k_
      refine Go.t T4 47 [(.long (f0 bl.toNatClampNeg))] ?_ (own_laL X4 hx hZ e4 B0 ⟨own_i_nlt rfl (by decide : (0 : Int32).toInt = 0) (by omega), own_i_lt rfl rfl (by omega)⟩ (g := (mkF m 46 #[(sR w), (sI bl), (sJ bits), .second, (sI bl), (sJ bits), .second, (sI (0 : Int32)), .unset, .unset, .unset, .unset] [(.int bl), (.ref x0)])) rfl rfl (hb hby d15_46))
      refine Go.s (g' := (mkF m 49 #[(sR w), (sI bl), (sJ bits), .second, (sI bl), (sJ bits), .second, (sI (0 : Int32)), (sJ (f0 bl.toNatClampNeg)), .second, .unset, .unset] [])) ?_ fun _ k_ => XT.lstore X4.here hx rfl (hb hby d15_47) rfl (l' := #[(sR w), (sI bl), (sJ bits), .second, (sI bl), (sJ bits), .second, (sI (0 : Int32)), (sJ (f0 bl.toNatClampNeg)), .second, .unset, .unset]) rfl k_
      refine Go.k 51 [(.long (f0 bl.toNatClampNeg))] ?_ fun _ k_ => XT.lload X4.here hx rfl (hb hby d15_49) rfl k_
      refine Go.k 53 [(.long bits), (.long (f0 bl.toNatClampNeg))] ?_ fun _ k_ => XT.lload X4.here hx rfl (hb hby d15_51) rfl k_
      refine Go.k 56 [(.long (-1 : Int64)), (.long bits), (.long (f0 bl.toNatClampNeg))] ?_ fun _ k_ => X4.ldc2J hx hown (mvT hZ (wq hw 29 rfl)) rfl (hb hby d15_53) k_
      refine Go.k 57 [(.long (bits ^^^ (-1 : Int64))), (.long (f0 bl.toNatClampNeg))] ?_ fun _ k_ => XT.lxor X4.here hx rfl (hb hby d15_56) rfl k_
      refine Go.k 58 [(.long ((f0 bl.toNatClampNeg) &&& (bits ^^^ (-1 : Int64))))] ?_ fun _ k_ => XT.land X4.here hx rfl (hb hby d15_57) rfl k_
      refine Go.s (g' := (mkF m 60 #[(sR w), (sI bl), (sJ bits), .second, (sI bl), (sJ bits), .second, (sI (0 : Int32)), (sJ (f0 bl.toNatClampNeg)), .second, (sJ ((f0 bl.toNatClampNeg) &&& (bits ^^^ (-1 : Int64)))), .second] [])) ?_ fun _ k_ => XT.lstore X4.here hx rfl (hb hby d15_58) rfl (l' := #[(sR w), (sI bl), (sJ bits), .second, (sI bl), (sJ bits), .second, (sI (0 : Int32)), (sJ (f0 bl.toNatClampNeg)), .second, (sJ ((f0 bl.toNatClampNeg) &&& (bits ^^^ (-1 : Int64)))), .second]) rfl k_
      refine Go.k 61 [(.ref w)] ?_ fun _ k_ => XS.aloadN X4.here hx rfl (hb hby d15_60) rfl rfl k_
      obtain ⟨T5, X5, e5, st5⟩ := getF X4 hx hZ hown (host := "") (Or.inl (wq hw 13 rfl)) Via.refl e4 WF (g := (mkF m 61 #[(sR w), (sI bl), (sJ bits), .second, (sI bl), (sJ bits), .second, (sI (0 : Int32)), (sJ (f0 bl.toNatClampNeg)), .second, (sJ ((f0 bl.toNatClampNeg) &&& (bits ^^^ (-1 : Int64)))), .second] [(.ref w)])) rfl rfl (hb hby d15_61)
      refine Go.t T5 64 [(.ref lv)] ?_ st5
      refine Go.k 66 [(.int (0 : Int32)), (.ref lv)] ?_ fun _ k_ => XS.iload X5.here hx rfl (hb hby d15_64) rfl k_
      refine Go.t T5 67 [(.ref x0)] ?_ (own_aaload X5 hx hZ e5 WA rfl (by decide) (by rw [show (0 : Int32).toNatClampNeg = 0 from by decide]; rfl) (g := (mkF m 66 #[(sR w), (sI bl), (sJ bits), .second, (sI bl), (sJ bits), .second, (sI (0 : Int32)), (sJ (f0 bl.toNatClampNeg)), .second, (sJ ((f0 bl.toNatClampNeg) &&& (bits ^^^ (-1 : Int64)))), .second] [(.int (0 : Int32)), (.ref lv)])) rfl rfl (hb hby d15_66))
      refine Go.k 69 [(.int bl), (.ref x0)] ?_ fun _ k_ => XS.iload X5.here hx rfl (hb hby d15_67) rfl k_
      refine Go.k 71 [(.long ((f0 bl.toNatClampNeg) &&& (bits ^^^ (-1 : Int64)))), (.int bl), (.ref x0)] ?_ fun _ k_ => XT.lload X5.here hx rfl (hb hby d15_69) rfl k_
      obtain ⟨T6, h6, X6, e6, W6, V6, st6⟩ := own_laS X5 hx hZ e5 B0 ⟨own_i_nlt rfl (by decide : (0 : Int32).toInt = 0) (by omega), own_i_lt rfl rfl (by omega)⟩ (g := (mkF m 71 #[(sR w), (sI bl), (sJ bits), .second, (sI bl), (sJ bits), .second, (sI (0 : Int32)), (sJ (f0 bl.toNatClampNeg)), .second, (sJ ((f0 bl.toNatClampNeg) &&& (bits ^^^ (-1 : Int64)))), .second] [(.long ((f0 bl.toNatClampNeg) &&& (bits ^^^ (-1 : Int64)))), (.int bl), (.ref x0)])) rfl rfl (hb hby d15_71)
      have N6 := Fr.snoc X6 N0 g0
      refine Go.t T6 72 [] ?_ st6
      refine Go.k 74 [(.long ((f0 bl.toNatClampNeg) &&& (bits ^^^ (-1 : Int64))))] ?_ fun _ k_ => XT.lload X6.here hx rfl (hb hby d15_72) rfl k_
      refine Go.k 75 [(.long (0 : Int64)), (.long ((f0 bl.toNatClampNeg) &&& (bits ^^^ (-1 : Int64))))] ?_ fun _ k_ => XT.lconstV X6.here hx rfl (0 : Int64) (hb hby d15_74) (by decide) k_
      refine Go.k 76 [(.int (lcmpW ((f0 bl.toNatClampNeg) &&& (bits ^^^ (-1 : Int64))) (0 : Int64)))] ?_ fun _ k_ => XT.lcmp X6.here hx rfl (hb hby d15_75) rfl k_
      by_cases hc7 : ((f0 bl.toNatClampNeg) &&& (bits ^^^ (-1 : Int64))) = (0 : Int64)
      · refine Go.k 79 [] ?_ fun _ k_ => XS.ifNo X6.here hx rfl (hb hby d15_76) rfl ((if0 _ _).trans (teq ((lw_eq _ _).mpr hc7)).2) k_
        refine Go.k 81 [(.long (f0 bl.toNatClampNeg))] ?_ fun _ k_ => XT.lload X6.here hx rfl (hb hby d15_79) rfl k_
        refine Go.k 82 [(.long (0 : Int64)), (.long (f0 bl.toNatClampNeg))] ?_ fun _ k_ => XT.lconstV X6.here hx rfl (0 : Int64) (hb hby d15_81) (by decide) k_
        refine Go.k 83 [(.int (lcmpW (f0 bl.toNatClampNeg) (0 : Int64)))] ?_ fun _ k_ => XT.lcmp X6.here hx rfl (hb hby d15_82) rfl k_
        by_cases hc8 : (f0 bl.toNatClampNeg) = (0 : Int64)
        · refine Go.k 93 [] ?_ fun _ k_ => XS.ifYes X6.here hx rfl (pc0 := 83) (pc' := 93) rfl (hb hby d15_83) rfl ((if0 _ _).trans (teq ((lw_eq _ _).mpr hc8)).1) (by decide) (by decide) k_
          refine Go.k 94 [(.long (0 : Int64))] ?_ fun _ k_ => XT.lconstV X6.here hx rfl (0 : Int64) (hb hby d15_93) (by decide) k_
          refine Go.s (g' := (mkF m 96 #[(sR w), (sI bl), (sJ bits), .second, (sI bl), (sJ (0 : Int64)), .second, (sI (0 : Int32)), (sJ (f0 bl.toNatClampNeg)), .second, (sJ ((f0 bl.toNatClampNeg) &&& (bits ^^^ (-1 : Int64)))), .second] [])) ?_ fun _ k_ => XT.lstore X6.here hx rfl (hb hby d15_94) rfl (l' := #[(sR w), (sI bl), (sJ bits), .second, (sI bl), (sJ (0 : Int64)), .second, (sI (0 : Int32)), (sJ (f0 bl.toNatClampNeg)), .second, (sJ ((f0 bl.toNatClampNeg) &&& (bits ^^^ (-1 : Int64)))), .second]) rfl k_
          refine Go.k 98 [(.int bl)] ?_ fun _ k_ => XS.iload X6.here hx rfl (hb hby d15_96) rfl k_
          refine Go.k 100 [(.int (6 : Int32)), (.int bl)] ?_ fun _ k_ => XT.bipushV X6.here hx rfl (6 : Int32) (hb hby d15_98) (by decide) k_
          refine Go.k 101 [(.int (XT.ushr bl (6 : Int32)))] ?_ fun _ k_ => XT.iushr X6.here hx rfl (hb hby d15_100) rfl k_
          obtain ⟨wd1, ewd1⟩ : ∃ q_ : Int32, q_ = XT.ushr bl 6 := ⟨_, rfl⟩
          rw [← ewd1]
          have hwd1 : wd1.toInt = bl.toInt / 64 := by rw [ewd1]; exact own_ushr6 _ (by omega)
          have nwd1 : wd1.toNatClampNeg = bl.toNatClampNeg / 64 := by simp only [Int32.toNatClampNeg]; omega
          refine Go.s (g' := (mkF m 103 #[(sR w), (sI bl), (sJ bits), .second, (sI wd1), (sJ (0 : Int64)), .second, (sI (0 : Int32)), (sJ (f0 bl.toNatClampNeg)), .second, (sJ ((f0 bl.toNatClampNeg) &&& (bits ^^^ (-1 : Int64)))), .second] [])) ?_ fun _ k_ => XS.istore X6.here hx rfl (hb hby d15_101) rfl (l' := #[(sR w), (sI bl), (sJ bits), .second, (sI wd1), (sJ (0 : Int64)), .second, (sI (0 : Int32)), (sJ (f0 bl.toNatClampNeg)), .second, (sJ ((f0 bl.toNatClampNeg) &&& (bits ^^^ (-1 : Int64)))), .second]) rfl k_
          refine Go.s (g' := (mkF m 106 #[(sR w), (sI bl), (sJ bits), .second, (sI wd1), (sJ (0 : Int64)), .second, (sI (1 : Int32)), (sJ (f0 bl.toNatClampNeg)), .second, (sJ ((f0 bl.toNatClampNeg) &&& (bits ^^^ (-1 : Int64)))), .second] [])) ?_ fun _ k_ => XT.iincV X6.here hx rfl (1 : Int32) (hb hby d15_103) (by decide) rfl (l' := #[(sR w), (sI bl), (sJ bits), .second, (sI wd1), (sJ (0 : Int64)), .second, (sI (1 : Int32)), (sJ (f0 bl.toNatClampNeg)), .second, (sJ ((f0 bl.toNatClampNeg) &&& (bits ^^^ (-1 : Int64)))), .second]) rfl k_
          refine Go.k 24 [] ?_ fun _ k_ => XS.goto X6.here hx rfl (pc0 := 106) (pc' := 24) rfl (hb hby d15_106) (by decide) (by decide) k_
          refine Go.k 26 [(.int (1 : Int32))] ?_ fun _ k_ => XS.iload X6.here hx rfl (hb hby d15_24) rfl k_
          refine Go.k 27 [(.int (5 : Int32)), (.int (1 : Int32))] ?_ fun _ k_ => XT.iconstV X6.here hx rfl (5 : Int32) (hb hby d15_26) (by decide) k_
          refine Go.k 30 [] ?_ fun _ k_ => XS.icmpNo X6.here hx rfl (hb hby d15_27) rfl (by decide) k_
          refine Go.k 32 [(.long (0 : Int64))] ?_ fun _ k_ => XT.lload X6.here hx rfl (hb hby d15_30) rfl k_
          refine Go.k 33 [(.long (0 : Int64)), (.long (0 : Int64))] ?_ fun _ k_ => XT.lconstV X6.here hx rfl (0 : Int64) (hb hby d15_32) (by decide) k_
          refine Go.k 34 [(.int (lcmpW (0 : Int64) (0 : Int64)))] ?_ fun _ k_ => XT.lcmp X6.here hx rfl (hb hby d15_33) rfl k_
          refine Go.k 109 [] ?_ fun _ k_ => XS.ifYes X6.here hx rfl (pc0 := 34) (pc' := 109) rfl (hb hby d15_34) rfl ((if0 _ _).trans (teq ((lw_eq _ _).mpr (rfl : (0 : Int64) = (0 : Int64)))).1) (by decide) (by decide) k_
          exact Go.retU X6 hx hret hlk (by decide) (by decide) (hb hby d15_109) (by rw [e6]; exact ⟨rfl, N6, (Nat.le_trans (Nat.le_refl _) (Nat.le_of_eq W6.size.symm)), f1, f2, f3, f4, ⟨(WE.wr W6), (WF.other W6 (Or.inl ne_w_x0)), (WA.other W6 ne_lv_x0), WO, V6, (B1.other W6 (fun q_ => ne_x0_x1 q_.symm)), (B2.other W6 (fun q_ => ne_x0_x2 q_.symm)), (B3.other W6 (fun q_ => ne_x0_x3 q_.symm)), (B4.other W6 (fun q_ => ne_x0_x4 q_.symm)), gl, g0, g1, g2, g3, g4, ne_w_lv, ne_w_x0, ne_w_x1, ne_w_x2, ne_w_x3, ne_w_x4, ne_lv_x0, ne_lv_x1, ne_lv_x2, ne_lv_x3, ne_lv_x4, ne_x0_x1, ne_x0_x2, ne_x0_x3, ne_x0_x4, ne_x1_x2, ne_x1_x3, ne_x1_x4, ne_x2_x3, ne_x2_x4, ne_x3_x4⟩, ⟨own_P_Z hp0 hc8 hc7, hp1, hp2, hp3⟩⟩)
        · refine Go.k 86 [] ?_ fun _ k_ => XS.ifNo X6.here hx rfl (hb hby d15_83) rfl ((if0 _ _).trans (feq (fun q_ => hc8 ((lw_eq _ _).mp q_))).1) k_
          refine Go.k 87 [(.long (1 : Int64))] ?_ fun _ k_ => XT.lconstV X6.here hx rfl (1 : Int64) (hb hby d15_86) (by decide) k_
          refine Go.k 89 [(.int bl), (.long (1 : Int64))] ?_ fun _ k_ => XS.iload X6.here hx rfl (hb hby d15_87) rfl k_
          refine Go.k 90 [(.long ((1 : Int64) <<< (bl.toInt64 &&& 63)))] ?_ fun _ k_ => XT.lshl X6.here hx rfl (hb hby d15_89) rfl k_
          refine Go.k 94 [(.long ((1 : Int64) <<< (bl.toInt64 &&& 63)))] ?_ fun _ k_ => XS.goto X6.here hx rfl (pc0 := 90) (pc' := 94) rfl (hb hby d15_90) (by decide) (by decide) k_
          obtain ⟨mk1, emk1⟩ : ∃ q_ : Int64, q_ = ((1 : Int64) <<< (bl.toInt64 &&& 63)) := ⟨_, rfl⟩
          rw [← emk1]
          have hmk1 : ¬ mk1 = 0 := by rw [emk1]; exact own_shl1 _
          refine Go.s (g' := (mkF m 96 #[(sR w), (sI bl), (sJ bits), .second, (sI bl), (sJ mk1), .second, (sI (0 : Int32)), (sJ (f0 bl.toNatClampNeg)), .second, (sJ ((f0 bl.toNatClampNeg) &&& (bits ^^^ (-1 : Int64)))), .second] [])) ?_ fun _ k_ => XT.lstore X6.here hx rfl (hb hby d15_94) rfl (l' := #[(sR w), (sI bl), (sJ bits), .second, (sI bl), (sJ mk1), .second, (sI (0 : Int32)), (sJ (f0 bl.toNatClampNeg)), .second, (sJ ((f0 bl.toNatClampNeg) &&& (bits ^^^ (-1 : Int64)))), .second]) rfl k_
          refine Go.k 98 [(.int bl)] ?_ fun _ k_ => XS.iload X6.here hx rfl (hb hby d15_96) rfl k_
          refine Go.k 100 [(.int (6 : Int32)), (.int bl)] ?_ fun _ k_ => XT.bipushV X6.here hx rfl (6 : Int32) (hb hby d15_98) (by decide) k_
          refine Go.k 101 [(.int (XT.ushr bl (6 : Int32)))] ?_ fun _ k_ => XT.iushr X6.here hx rfl (hb hby d15_100) rfl k_
          obtain ⟨wd1, ewd1⟩ : ∃ q_ : Int32, q_ = XT.ushr bl 6 := ⟨_, rfl⟩
          rw [← ewd1]
          have hwd1 : wd1.toInt = bl.toInt / 64 := by rw [ewd1]; exact own_ushr6 _ (by omega)
          have nwd1 : wd1.toNatClampNeg = bl.toNatClampNeg / 64 := by simp only [Int32.toNatClampNeg]; omega
          refine Go.s (g' := (mkF m 103 #[(sR w), (sI bl), (sJ bits), .second, (sI wd1), (sJ mk1), .second, (sI (0 : Int32)), (sJ (f0 bl.toNatClampNeg)), .second, (sJ ((f0 bl.toNatClampNeg) &&& (bits ^^^ (-1 : Int64)))), .second] [])) ?_ fun _ k_ => XS.istore X6.here hx rfl (hb hby d15_101) rfl (l' := #[(sR w), (sI bl), (sJ bits), .second, (sI wd1), (sJ mk1), .second, (sI (0 : Int32)), (sJ (f0 bl.toNatClampNeg)), .second, (sJ ((f0 bl.toNatClampNeg) &&& (bits ^^^ (-1 : Int64)))), .second]) rfl k_
          refine Go.s (g' := (mkF m 106 #[(sR w), (sI bl), (sJ bits), .second, (sI wd1), (sJ mk1), .second, (sI (1 : Int32)), (sJ (f0 bl.toNatClampNeg)), .second, (sJ ((f0 bl.toNatClampNeg) &&& (bits ^^^ (-1 : Int64)))), .second] [])) ?_ fun _ k_ => XT.iincV X6.here hx rfl (1 : Int32) (hb hby d15_103) (by decide) rfl (l' := #[(sR w), (sI bl), (sJ bits), .second, (sI wd1), (sJ mk1), .second, (sI (1 : Int32)), (sJ (f0 bl.toNatClampNeg)), .second, (sJ ((f0 bl.toNatClampNeg) &&& (bits ^^^ (-1 : Int64)))), .second]) rfl k_
          refine Go.k 24 [] ?_ fun _ k_ => XS.goto X6.here hx rfl (pc0 := 106) (pc' := 24) rfl (hb hby d15_106) (by decide) (by decide) k_
          refine Go.k 26 [(.int (1 : Int32))] ?_ fun _ k_ => XS.iload X6.here hx rfl (hb hby d15_24) rfl k_
          refine Go.k 27 [(.int (5 : Int32)), (.int (1 : Int32))] ?_ fun _ k_ => XT.iconstV X6.here hx rfl (5 : Int32) (hb hby d15_26) (by decide) k_
          refine Go.k 30 [] ?_ fun _ k_ => XS.icmpNo X6.here hx rfl (hb hby d15_27) rfl (by decide) k_
          refine Go.k 32 [(.long mk1)] ?_ fun _ k_ => XT.lload X6.here hx rfl (hb hby d15_30) rfl k_
          refine Go.k 33 [(.long (0 : Int64)), (.long mk1)] ?_ fun _ k_ => XT.lconstV X6.here hx rfl (0 : Int64) (hb hby d15_32) (by decide) k_
          refine Go.k 34 [(.int (lcmpW mk1 (0 : Int64)))] ?_ fun _ k_ => XT.lcmp X6.here hx rfl (hb hby d15_33) rfl k_
          refine Go.k 37 [] ?_ fun _ k_ => XS.ifNo X6.here hx rfl (hb hby d15_34) rfl ((if0 _ _).trans (feq (fun q_ => (hmk1 : ¬ mk1 = (0 : Int64)) ((lw_eq _ _).mp q_))).1) k_
          refine Go.k 38 [(.ref w)] ?_ fun _ k_ => XS.aloadN X6.here hx rfl (hb hby d15_37) rfl rfl k_
          obtain ⟨T9, X9, e9, st9⟩ := getF X6 hx hZ hown (host := "") (Or.inl (wq hw 13 rfl)) Via.refl e6 (WF.other W6 (Or.inl ne_w_x0)) (g := (mkF m 38 #[(sR w), (sI bl), (sJ bits), .second, (sI wd1), (sJ mk1), .second, (sI (1 : Int32)), (sJ (f0 bl.toNatClampNeg)), .second, (sJ ((f0 bl.toNatClampNeg) &&& (bits ^^^ (-1 : Int64)))), .second] [(.ref w)])) rfl rfl (hb hby d15_38)
          refine Go.t T9 41 [(.ref lv)] ?_ st9
          refine Go.k 43 [(.int (1 : Int32)), (.ref lv)] ?_ fun _ k_ => XS.iload X9.here hx rfl (hb hby d15_41) rfl k_
          refine Go.t T9 44 [(.ref x1)] ?_ (own_aaload X9 hx hZ e9 (WA.other W6 ne_lv_x0) rfl (by decide) (by rw [show (1 : Int32).toNatClampNeg = 1 from by decide]; rfl) (g := (mkF m 43 #[(sR w), (sI bl), (sJ bits), .second, (sI wd1), (sJ mk1), .second, (sI (1 : Int32)), (sJ (f0 bl.toNatClampNeg)), .second, (sJ ((f0 bl.toNatClampNeg) &&& (bits ^^^ (-1 : Int64)))), .second] [(.int (1 : Int32)), (.ref lv)])) rfl rfl (hb hby d15_43))
          refine Go.k 46 [(.int wd1), (.ref x1)] ?_ fun _ k_ => XS.iload X9.here hx rfl (hb hby d15_44) rfl k_
          refine Go.t T9 47 [(.long (f1 wd1.toNatClampNeg))] ?_ (own_laL X9 hx hZ e9 (B1.other W6 (fun q_ => ne_x0_x1 q_.symm)) ⟨own_i_nlt rfl (by decide : (0 : Int32).toInt = 0) (by omega), own_i_lt rfl rfl (by omega)⟩ (g := (mkF m 46 #[(sR w), (sI bl), (sJ bits), .second, (sI wd1), (sJ mk1), .second, (sI (1 : Int32)), (sJ (f0 bl.toNatClampNeg)), .second, (sJ ((f0 bl.toNatClampNeg) &&& (bits ^^^ (-1 : Int64)))), .second] [(.int wd1), (.ref x1)])) rfl rfl (hb hby d15_46))
          refine Go.s (g' := (mkF m 49 #[(sR w), (sI bl), (sJ bits), .second, (sI wd1), (sJ mk1), .second, (sI (1 : Int32)), (sJ (f1 wd1.toNatClampNeg)), .second, (sJ ((f0 bl.toNatClampNeg) &&& (bits ^^^ (-1 : Int64)))), .second] [])) ?_ fun _ k_ => XT.lstore X9.here hx rfl (hb hby d15_47) rfl (l' := #[(sR w), (sI bl), (sJ bits), .second, (sI wd1), (sJ mk1), .second, (sI (1 : Int32)), (sJ (f1 wd1.toNatClampNeg)), .second, (sJ ((f0 bl.toNatClampNeg) &&& (bits ^^^ (-1 : Int64)))), .second]) rfl k_
          refine Go.k 51 [(.long (f1 wd1.toNatClampNeg))] ?_ fun _ k_ => XT.lload X9.here hx rfl (hb hby d15_49) rfl k_
          refine Go.k 53 [(.long mk1), (.long (f1 wd1.toNatClampNeg))] ?_ fun _ k_ => XT.lload X9.here hx rfl (hb hby d15_51) rfl k_
          refine Go.k 56 [(.long (-1 : Int64)), (.long mk1), (.long (f1 wd1.toNatClampNeg))] ?_ fun _ k_ => X9.ldc2J hx hown (mvT hZ (wq hw 29 rfl)) rfl (hb hby d15_53) k_
          refine Go.k 57 [(.long (mk1 ^^^ (-1 : Int64))), (.long (f1 wd1.toNatClampNeg))] ?_ fun _ k_ => XT.lxor X9.here hx rfl (hb hby d15_56) rfl k_
          refine Go.k 58 [(.long ((f1 wd1.toNatClampNeg) &&& (mk1 ^^^ (-1 : Int64))))] ?_ fun _ k_ => XT.land X9.here hx rfl (hb hby d15_57) rfl k_
          refine Go.s (g' := (mkF m 60 #[(sR w), (sI bl), (sJ bits), .second, (sI wd1), (sJ mk1), .second, (sI (1 : Int32)), (sJ (f1 wd1.toNatClampNeg)), .second, (sJ ((f1 wd1.toNatClampNeg) &&& (mk1 ^^^ (-1 : Int64)))), .second] [])) ?_ fun _ k_ => XT.lstore X9.here hx rfl (hb hby d15_58) rfl (l' := #[(sR w), (sI bl), (sJ bits), .second, (sI wd1), (sJ mk1), .second, (sI (1 : Int32)), (sJ (f1 wd1.toNatClampNeg)), .second, (sJ ((f1 wd1.toNatClampNeg) &&& (mk1 ^^^ (-1 : Int64)))), .second]) rfl k_
          refine Go.k 61 [(.ref w)] ?_ fun _ k_ => XS.aloadN X9.here hx rfl (hb hby d15_60) rfl rfl k_
          obtain ⟨T10, X10, e10, st10⟩ := getF X9 hx hZ hown (host := "") (Or.inl (wq hw 13 rfl)) Via.refl e9 (WF.other W6 (Or.inl ne_w_x0)) (g := (mkF m 61 #[(sR w), (sI bl), (sJ bits), .second, (sI wd1), (sJ mk1), .second, (sI (1 : Int32)), (sJ (f1 wd1.toNatClampNeg)), .second, (sJ ((f1 wd1.toNatClampNeg) &&& (mk1 ^^^ (-1 : Int64)))), .second] [(.ref w)])) rfl rfl (hb hby d15_61)
          refine Go.t T10 64 [(.ref lv)] ?_ st10
          refine Go.k 66 [(.int (1 : Int32)), (.ref lv)] ?_ fun _ k_ => XS.iload X10.here hx rfl (hb hby d15_64) rfl k_
          refine Go.t T10 67 [(.ref x1)] ?_ (own_aaload X10 hx hZ e10 (WA.other W6 ne_lv_x0) rfl (by decide) (by rw [show (1 : Int32).toNatClampNeg = 1 from by decide]; rfl) (g := (mkF m 66 #[(sR w), (sI bl), (sJ bits), .second, (sI wd1), (sJ mk1), .second, (sI (1 : Int32)), (sJ (f1 wd1.toNatClampNeg)), .second, (sJ ((f1 wd1.toNatClampNeg) &&& (mk1 ^^^ (-1 : Int64)))), .second] [(.int (1 : Int32)), (.ref lv)])) rfl rfl (hb hby d15_66))
          refine Go.k 69 [(.int wd1), (.ref x1)] ?_ fun _ k_ => XS.iload X10.here hx rfl (hb hby d15_67) rfl k_
          refine Go.k 71 [(.long ((f1 wd1.toNatClampNeg) &&& (mk1 ^^^ (-1 : Int64)))), (.int wd1), (.ref x1)] ?_ fun _ k_ => XT.lload X10.here hx rfl (hb hby d15_69) rfl k_
          obtain ⟨T11, h11, X11, e11, W11, V11, st11⟩ := own_laS X10 hx hZ e10 (B1.other W6 (fun q_ => ne_x0_x1 q_.symm)) ⟨own_i_nlt rfl (by decide : (0 : Int32).toInt = 0) (by omega), own_i_lt rfl rfl (by omega)⟩ (g := (mkF m 71 #[(sR w), (sI bl), (sJ bits), .second, (sI wd1), (sJ mk1), .second, (sI (1 : Int32)), (sJ (f1 wd1.toNatClampNeg)), .second, (sJ ((f1 wd1.toNatClampNeg) &&& (mk1 ^^^ (-1 : Int64)))), .second] [(.long ((f1 wd1.toNatClampNeg) &&& (mk1 ^^^ (-1 : Int64)))), (.int wd1), (.ref x1)])) rfl rfl (hb hby d15_71)
          have N11 := Fr.snoc X11 N6 g1
          refine Go.t T11 72 [] ?_ st11
          refine Go.k 74 [(.long ((f1 wd1.toNatClampNeg) &&& (mk1 ^^^ (-1 : Int64))))] ?_ fun _ k_ => XT.lload X11.here hx rfl (hb hby d15_72) rfl k_
          refine Go.k 75 [(.long (0 : Int64)), (.long ((f1 wd1.toNatClampNeg) &&& (mk1 ^^^ (-1 : Int64))))] ?_ fun _ k_ => XT.lconstV X11.here hx rfl (0 : Int64) (hb hby d15_74) (by decide) k_
          refine Go.k 76 [(.int (lcmpW ((f1 wd1.toNatClampNeg) &&& (mk1 ^^^ (-1 : Int64))) (0 : Int64)))] ?_ fun _ k_ => XT.lcmp X11.here hx rfl (hb hby d15_75) rfl k_
          by_cases hc12 : ((f1 wd1.toNatClampNeg) &&& (mk1 ^^^ (-1 : Int64))) = (0 : Int64)
          · refine Go.k 79 [] ?_ fun _ k_ => XS.ifNo X11.here hx rfl (hb hby d15_76) rfl ((if0 _ _).trans (teq ((lw_eq _ _).mpr hc12)).2) k_
            refine Go.k 81 [(.long (f1 wd1.toNatClampNeg))] ?_ fun _ k_ => XT.lload X11.here hx rfl (hb hby d15_79) rfl k_
            refine Go.k 82 [(.long (0 : Int64)), (.long (f1 wd1.toNatClampNeg))] ?_ fun _ k_ => XT.lconstV X11.here hx rfl (0 : Int64) (hb hby d15_81) (by decide) k_
            refine Go.k 83 [(.int (lcmpW (f1 wd1.toNatClampNeg) (0 : Int64)))] ?_ fun _ k_ => XT.lcmp X11.here hx rfl (hb hby d15_82) rfl k_
            by_cases hc13 : (f1 wd1.toNatClampNeg) = (0 : Int64)
            · refine Go.k 93 [] ?_ fun _ k_ => XS.ifYes X11.here hx rfl (pc0 := 83) (pc' := 93) rfl (hb hby d15_83) rfl ((if0 _ _).trans (teq ((lw_eq _ _).mpr hc13)).1) (by decide) (by decide) k_
              refine Go.k 94 [(.long (0 : Int64))] ?_ fun _ k_ => XT.lconstV X11.here hx rfl (0 : Int64) (hb hby d15_93) (by decide) k_
              refine Go.s (g' := (mkF m 96 #[(sR w), (sI bl), (sJ bits), .second, (sI wd1), (sJ (0 : Int64)), .second, (sI (1 : Int32)), (sJ (f1 wd1.toNatClampNeg)), .second, (sJ ((f1 wd1.toNatClampNeg) &&& (mk1 ^^^ (-1 : Int64)))), .second] [])) ?_ fun _ k_ => XT.lstore X11.here hx rfl (hb hby d15_94) rfl (l' := #[(sR w), (sI bl), (sJ bits), .second, (sI wd1), (sJ (0 : Int64)), .second, (sI (1 : Int32)), (sJ (f1 wd1.toNatClampNeg)), .second, (sJ ((f1 wd1.toNatClampNeg) &&& (mk1 ^^^ (-1 : Int64)))), .second]) rfl k_
              refine Go.k 98 [(.int wd1)] ?_ fun _ k_ => XS.iload X11.here hx rfl (hb hby d15_96) rfl k_
              refine Go.k 100 [(.int (6 : Int32)), (.int wd1)] ?_ fun _ k_ => XT.bipushV X11.here hx rfl (6 : Int32) (hb hby d15_98) (by decide) k_
              refine Go.k 101 [(.int (XT.ushr wd1 (6 : Int32)))] ?_ fun _ k_ => XT.iushr X11.here hx rfl (hb hby d15_100) rfl k_
              obtain ⟨wd2, ewd2⟩ : ∃ q_ : Int32, q_ = XT.ushr wd1 6 := ⟨_, rfl⟩
              rw [← ewd2]
              have hwd2 : wd2.toInt = wd1.toInt / 64 := by rw [ewd2]; exact own_ushr6 _ (by omega)
              have nwd2 : wd2.toNatClampNeg = wd1.toNatClampNeg / 64 := by simp only [Int32.toNatClampNeg]; omega
              refine Go.s (g' := (mkF m 103 #[(sR w), (sI bl), (sJ bits), .second, (sI wd2), (sJ (0 : Int64)), .second, (sI (1 : Int32)), (sJ (f1 wd1.toNatClampNeg)), .second, (sJ ((f1 wd1.toNatClampNeg) &&& (mk1 ^^^ (-1 : Int64)))), .second] [])) ?_ fun _ k_ => XS.istore X11.here hx rfl (hb hby d15_101) rfl (l' := #[(sR w), (sI bl), (sJ bits), .second, (sI wd2), (sJ (0 : Int64)), .second, (sI (1 : Int32)), (sJ (f1 wd1.toNatClampNeg)), .second, (sJ ((f1 wd1.toNatClampNeg) &&& (mk1 ^^^ (-1 : Int64)))), .second]) rfl k_
              refine Go.s (g' := (mkF m 106 #[(sR w), (sI bl), (sJ bits), .second, (sI wd2), (sJ (0 : Int64)), .second, (sI (2 : Int32)), (sJ (f1 wd1.toNatClampNeg)), .second, (sJ ((f1 wd1.toNatClampNeg) &&& (mk1 ^^^ (-1 : Int64)))), .second] [])) ?_ fun _ k_ => XT.iincV X11.here hx rfl (1 : Int32) (hb hby d15_103) (by decide) rfl (l' := #[(sR w), (sI bl), (sJ bits), .second, (sI wd2), (sJ (0 : Int64)), .second, (sI (2 : Int32)), (sJ (f1 wd1.toNatClampNeg)), .second, (sJ ((f1 wd1.toNatClampNeg) &&& (mk1 ^^^ (-1 : Int64)))), .second]) rfl k_
              refine Go.k 24 [] ?_ fun _ k_ => XS.goto X11.here hx rfl (pc0 := 106) (pc' := 24) rfl (hb hby d15_106) (by decide) (by decide) k_
              refine Go.k 26 [(.int (2 : Int32))] ?_ fun _ k_ => XS.iload X11.here hx rfl (hb hby d15_24) rfl k_
              refine Go.k 27 [(.int (5 : Int32)), (.int (2 : Int32))] ?_ fun _ k_ => XT.iconstV X11.here hx rfl (5 : Int32) (hb hby d15_26) (by decide) k_
              refine Go.k 30 [] ?_ fun _ k_ => XS.icmpNo X11.here hx rfl (hb hby d15_27) rfl (by decide) k_
              refine Go.k 32 [(.long (0 : Int64))] ?_ fun _ k_ => XT.lload X11.here hx rfl (hb hby d15_30) rfl k_
              refine Go.k 33 [(.long (0 : Int64)), (.long (0 : Int64))] ?_ fun _ k_ => XT.lconstV X11.here hx rfl (0 : Int64) (hb hby d15_32) (by decide) k_
              refine Go.k 34 [(.int (lcmpW (0 : Int64) (0 : Int64)))] ?_ fun _ k_ => XT.lcmp X11.here hx rfl (hb hby d15_33) rfl k_
              refine Go.k 109 [] ?_ fun _ k_ => XS.ifYes X11.here hx rfl (pc0 := 34) (pc' := 109) rfl (hb hby d15_34) rfl ((if0 _ _).trans (teq ((lw_eq _ _).mpr (rfl : (0 : Int64) = (0 : Int64)))).1) (by decide) (by decide) k_
              exact Go.retU X11 hx hret hlk (by decide) (by decide) (hb hby d15_109) (by rw [e11]; exact ⟨rfl, N11, (Nat.le_trans (Nat.le_trans (Nat.le_refl _) (Nat.le_of_eq W6.size.symm)) (Nat.le_of_eq W11.size.symm)), (own_set f1 wd1.toNatClampNeg ((f1 wd1.toNatClampNeg) &&& (mk1 ^^^ (-1 : Int64)))), f2, f3, f4, ⟨((WE.wr W6).wr W11), ((WF.other W6 (Or.inl ne_w_x0)).other W11 (Or.inl ne_w_x1)), ((WA.other W6 ne_lv_x0).other W11 ne_lv_x1), WO, (V6.other W11 ne_x0_x1), V11, ((B2.other W6 (fun q_ => ne_x0_x2 q_.symm)).other W11 (fun q_ => ne_x1_x2 q_.symm)), ((B3.other W6 (fun q_ => ne_x0_x3 q_.symm)).other W11 (fun q_ => ne_x1_x3 q_.symm)), ((B4.other W6 (fun q_ => ne_x0_x4 q_.symm)).other W11 (fun q_ => ne_x1_x4 q_.symm)), gl, g0, g1, g2, g3, g4, ne_w_lv, ne_w_x0, ne_w_x1, ne_w_x2, ne_w_x3, ne_w_x4, ne_lv_x0, ne_lv_x1, ne_lv_x2, ne_lv_x3, ne_lv_x4, ne_x0_x1, ne_x0_x2, ne_x0_x3, ne_x0_x4, ne_x1_x2, ne_x1_x3, ne_x1_x4, ne_x2_x3, ne_x2_x4, ne_x3_x4⟩, ⟨(by rw [emk1, nwd1]; exact own_P_D hp0 (by omega) rfl hc7), own_P_Z hp1 hc13 hc12, hp2, hp3⟩⟩)
            · refine Go.k 86 [] ?_ fun _ k_ => XS.ifNo X11.here hx rfl (hb hby d15_83) rfl ((if0 _ _).trans (feq (fun q_ => hc13 ((lw_eq _ _).mp q_))).1) k_
              refine Go.k 87 [(.long (1 : Int64))] ?_ fun _ k_ => XT.lconstV X11.here hx rfl (1 : Int64) (hb hby d15_86) (by decide) k_
              refine Go.k 89 [(.int wd1), (.long (1 : Int64))] ?_ fun _ k_ => XS.iload X11.here hx rfl (hb hby d15_87) rfl k_
              refine Go.k 90 [(.long ((1 : Int64) <<< (wd1.toInt64 &&& 63)))] ?_ fun _ k_ => XT.lshl X11.here hx rfl (hb hby d15_89) rfl k_
              refine Go.k 94 [(.long ((1 : Int64) <<< (wd1.toInt64 &&& 63)))] ?_ fun _ k_ => XS.goto X11.here hx rfl (pc0 := 90) (pc' := 94) rfl (hb hby d15_90) (by decide) (by decide) k_
              obtain ⟨mk2, emk2⟩ : ∃ q_ : Int64, q_ = ((1 : Int64) <<< (wd1.toInt64 &&& 63)) := ⟨_, rfl⟩
              rw [← emk2]
              have hmk2 : ¬ mk2 = 0 := by rw [emk2]; exact own_shl1 _
              refine Go.s (g' := (mkF m 96 #[(sR w), (sI bl), (sJ bits), .second, (sI wd1), (sJ mk2), .second, (sI (1 : Int32)), (sJ (f1 wd1.toNatClampNeg)), .second, (sJ ((f1 wd1.toNatClampNeg) &&& (mk1 ^^^ (-1 : Int64)))), .second] [])) ?_ fun _ k_ => XT.lstore X11.here hx rfl (hb hby d15_94) rfl (l' := #[(sR w), (sI bl), (sJ bits), .second, (sI wd1), (sJ mk2), .second, (sI (1 : Int32)), (sJ (f1 wd1.toNatClampNeg)), .second, (sJ ((f1 wd1.toNatClampNeg) &&& (mk1 ^^^ (-1 : Int64)))), .second]) rfl k_
              refine Go.k 98 [(.int wd1)] ?_ fun _ k_ => XS.iload X11.here hx rfl (hb hby d15_96) rfl k_
              refine Go.k 100 [(.int (6 : Int32)), (.int wd1)] ?_ fun _ k_ => XT.bipushV X11.here hx rfl (6 : Int32) (hb hby d15_98) (by decide) k_
              refine Go.k 101 [(.int (XT.ushr wd1 (6 : Int32)))] ?_ fun _ k_ => XT.iushr X11.here hx rfl (hb hby d15_100) rfl k_
              obtain ⟨wd2, ewd2⟩ : ∃ q_ : Int32, q_ = XT.ushr wd1 6 := ⟨_, rfl⟩
              rw [← ewd2]
              have hwd2 : wd2.toInt = wd1.toInt / 64 := by rw [ewd2]; exact own_ushr6 _ (by omega)
              have nwd2 : wd2.toNatClampNeg = wd1.toNatClampNeg / 64 := by simp only [Int32.toNatClampNeg]; omega
              refine Go.s (g' := (mkF m 103 #[(sR w), (sI bl), (sJ bits), .second, (sI wd2), (sJ mk2), .second, (sI (1 : Int32)), (sJ (f1 wd1.toNatClampNeg)), .second, (sJ ((f1 wd1.toNatClampNeg) &&& (mk1 ^^^ (-1 : Int64)))), .second] [])) ?_ fun _ k_ => XS.istore X11.here hx rfl (hb hby d15_101) rfl (l' := #[(sR w), (sI bl), (sJ bits), .second, (sI wd2), (sJ mk2), .second, (sI (1 : Int32)), (sJ (f1 wd1.toNatClampNeg)), .second, (sJ ((f1 wd1.toNatClampNeg) &&& (mk1 ^^^ (-1 : Int64)))), .second]) rfl k_
              refine Go.s (g' := (mkF m 106 #[(sR w), (sI bl), (sJ bits), .second, (sI wd2), (sJ mk2), .second, (sI (2 : Int32)), (sJ (f1 wd1.toNatClampNeg)), .second, (sJ ((f1 wd1.toNatClampNeg) &&& (mk1 ^^^ (-1 : Int64)))), .second] [])) ?_ fun _ k_ => XT.iincV X11.here hx rfl (1 : Int32) (hb hby d15_103) (by decide) rfl (l' := #[(sR w), (sI bl), (sJ bits), .second, (sI wd2), (sJ mk2), .second, (sI (2 : Int32)), (sJ (f1 wd1.toNatClampNeg)), .second, (sJ ((f1 wd1.toNatClampNeg) &&& (mk1 ^^^ (-1 : Int64)))), .second]) rfl k_
              refine Go.k 24 [] ?_ fun _ k_ => XS.goto X11.here hx rfl (pc0 := 106) (pc' := 24) rfl (hb hby d15_106) (by decide) (by decide) k_
              refine Go.k 26 [(.int (2 : Int32))] ?_ fun _ k_ => XS.iload X11.here hx rfl (hb hby d15_24) rfl k_
              refine Go.k 27 [(.int (5 : Int32)), (.int (2 : Int32))] ?_ fun _ k_ => XT.iconstV X11.here hx rfl (5 : Int32) (hb hby d15_26) (by decide) k_
              refine Go.k 30 [] ?_ fun _ k_ => XS.icmpNo X11.here hx rfl (hb hby d15_27) rfl (by decide) k_
              refine Go.k 32 [(.long mk2)] ?_ fun _ k_ => XT.lload X11.here hx rfl (hb hby d15_30) rfl k_
              refine Go.k 33 [(.long (0 : Int64)), (.long mk2)] ?_ fun _ k_ => XT.lconstV X11.here hx rfl (0 : Int64) (hb hby d15_32) (by decide) k_
              refine Go.k 34 [(.int (lcmpW mk2 (0 : Int64)))] ?_ fun _ k_ => XT.lcmp X11.here hx rfl (hb hby d15_33) rfl k_
              refine Go.k 37 [] ?_ fun _ k_ => XS.ifNo X11.here hx rfl (hb hby d15_34) rfl ((if0 _ _).trans (feq (fun q_ => (hmk2 : ¬ mk2 = (0 : Int64)) ((lw_eq _ _).mp q_))).1) k_
              refine Go.k 38 [(.ref w)] ?_ fun _ k_ => XS.aloadN X11.here hx rfl (hb hby d15_37) rfl rfl k_
              obtain ⟨T14, X14, e14, st14⟩ := getF X11 hx hZ hown (host := "") (Or.inl (wq hw 13 rfl)) Via.refl e11 ((WF.other W6 (Or.inl ne_w_x0)).other W11 (Or.inl ne_w_x1)) (g := (mkF m 38 #[(sR w), (sI bl), (sJ bits), .second, (sI wd2), (sJ mk2), .second, (sI (2 : Int32)), (sJ (f1 wd1.toNatClampNeg)), .second, (sJ ((f1 wd1.toNatClampNeg) &&& (mk1 ^^^ (-1 : Int64)))), .second] [(.ref w)])) rfl rfl (hb hby d15_38)
              refine Go.t T14 41 [(.ref lv)] ?_ st14
              refine Go.k 43 [(.int (2 : Int32)), (.ref lv)] ?_ fun _ k_ => XS.iload X14.here hx rfl (hb hby d15_41) rfl k_
              refine Go.t T14 44 [(.ref x2)] ?_ (own_aaload X14 hx hZ e14 ((WA.other W6 ne_lv_x0).other W11 ne_lv_x1) rfl (by decide) (by rw [show (2 : Int32).toNatClampNeg = 2 from by decide]; rfl) (g := (mkF m 43 #[(sR w), (sI bl), (sJ bits), .second, (sI wd2), (sJ mk2), .second, (sI (2 : Int32)), (sJ (f1 wd1.toNatClampNeg)), .second, (sJ ((f1 wd1.toNatClampNeg) &&& (mk1 ^^^ (-1 : Int64)))), .second] [(.int (2 : Int32)), (.ref lv)])) rfl rfl (hb hby d15_43))
              refine Go.k 46 [(.int wd2), (.ref x2)] ?_ fun _ k_ => XS.iload X14.here hx rfl (hb hby d15_44) rfl k_
              refine Go.t T14 47 [(.long (f2 wd2.toNatClampNeg))] ?_ (own_laL X14 hx hZ e14 ((B2.other W6 (fun q_ => ne_x0_x2 q_.symm)).other W11 (fun q_ => ne_x1_x2 q_.symm)) ⟨own_i_nlt rfl (by decide : (0 : Int32).toInt = 0) (by omega), own_i_lt rfl rfl (by omega)⟩ (g := (mkF m 46 #[(sR w), (sI bl), (sJ bits), .second, (sI wd2), (sJ mk2), .second, (sI (2 : Int32)), (sJ (f1 wd1.toNatClampNeg)), .second, (sJ ((f1 wd1.toNatClampNeg) &&& (mk1 ^^^ (-1 : Int64)))), .second] [(.int wd2), (.ref x2)])) rfl rfl (hb hby d15_46))
              refine Go.s (g' := (mkF m 49 #[(sR w), (sI bl), (sJ bits), .second, (sI wd2), (sJ mk2), .second, (sI (2 : Int32)), (sJ (f2 wd2.toNatClampNeg)), .second, (sJ ((f1 wd1.toNatClampNeg) &&& (mk1 ^^^ (-1 : Int64)))), .second] [])) ?_ fun _ k_ => XT.lstore X14.here hx rfl (hb hby d15_47) rfl (l' := #[(sR w), (sI bl), (sJ bits), .second, (sI wd2), (sJ mk2), .second, (sI (2 : Int32)), (sJ (f2 wd2.toNatClampNeg)), .second, (sJ ((f1 wd1.toNatClampNeg) &&& (mk1 ^^^ (-1 : Int64)))), .second]) rfl k_
              refine Go.k 51 [(.long (f2 wd2.toNatClampNeg))] ?_ fun _ k_ => XT.lload X14.here hx rfl (hb hby d15_49) rfl k_
              refine Go.k 53 [(.long mk2), (.long (f2 wd2.toNatClampNeg))] ?_ fun _ k_ => XT.lload X14.here hx rfl (hb hby d15_51) rfl k_
              refine Go.k 56 [(.long (-1 : Int64)), (.long mk2), (.long (f2 wd2.toNatClampNeg))] ?_ fun _ k_ => X14.ldc2J hx hown (mvT hZ (wq hw 29 rfl)) rfl (hb hby d15_53) k_
              refine Go.k 57 [(.long (mk2 ^^^ (-1 : Int64))), (.long (f2 wd2.toNatClampNeg))] ?_ fun _ k_ => XT.lxor X14.here hx rfl (hb hby d15_56) rfl k_
              refine Go.k 58 [(.long ((f2 wd2.toNatClampNeg) &&& (mk2 ^^^ (-1 : Int64))))] ?_ fun _ k_ => XT.land X14.here hx rfl (hb hby d15_57) rfl k_
              refine Go.s (g' := (mkF m 60 #[(sR w), (sI bl), (sJ bits), .second, (sI wd2), (sJ mk2), .second, (sI (2 : Int32)), (sJ (f2 wd2.toNatClampNeg)), .second, (sJ ((f2 wd2.toNatClampNeg) &&& (mk2 ^^^ (-1 : Int64)))), .second] [])) ?_ fun _ k_ => XT.lstore X14.here hx rfl (hb hby d15_58) rfl (l' := #[(sR w), (sI bl), (sJ bits), .second, (sI wd2), (sJ mk2), .second, (sI (2 : Int32)), (sJ (f2 wd2.toNatClampNeg)), .second, (sJ ((f2 wd2.toNatClampNeg) &&& (mk2 ^^^ (-1 : Int64)))), .second]) rfl k_
              refine Go.k 61 [(.ref w)] ?_ fun _ k_ => XS.aloadN X14.here hx rfl (hb hby d15_60) rfl rfl k_
              obtain ⟨T15, X15, e15, st15⟩ := getF X14 hx hZ hown (host := "") (Or.inl (wq hw 13 rfl)) Via.refl e14 ((WF.other W6 (Or.inl ne_w_x0)).other W11 (Or.inl ne_w_x1)) (g := (mkF m 61 #[(sR w), (sI bl), (sJ bits), .second, (sI wd2), (sJ mk2), .second, (sI (2 : Int32)), (sJ (f2 wd2.toNatClampNeg)), .second, (sJ ((f2 wd2.toNatClampNeg) &&& (mk2 ^^^ (-1 : Int64)))), .second] [(.ref w)])) rfl rfl (hb hby d15_61)
              refine Go.t T15 64 [(.ref lv)] ?_ st15
              refine Go.k 66 [(.int (2 : Int32)), (.ref lv)] ?_ fun _ k_ => XS.iload X15.here hx rfl (hb hby d15_64) rfl k_
              refine Go.t T15 67 [(.ref x2)] ?_ (own_aaload X15 hx hZ e15 ((WA.other W6 ne_lv_x0).other W11 ne_lv_x1) rfl (by decide) (by rw [show (2 : Int32).toNatClampNeg = 2 from by decide]; rfl) (g := (mkF m 66 #[(sR w), (sI bl), (sJ bits), .second, (sI wd2), (sJ mk2), .second, (sI (2 : Int32)), (sJ (f2 wd2.toNatClampNeg)), .second, (sJ ((f2 wd2.toNatClampNeg) &&& (mk2 ^^^ (-1 : Int64)))), .second] [(.int (2 : Int32)), (.ref lv)])) rfl rfl (hb hby d15_66))
              refine Go.k 69 [(.int wd2), (.ref x2)] ?_ fun _ k_ => XS.iload X15.here hx rfl (hb hby d15_67) rfl k_
              refine Go.k 71 [(.long ((f2 wd2.toNatClampNeg) &&& (mk2 ^^^ (-1 : Int64)))), (.int wd2), (.ref x2)] ?_ fun _ k_ => XT.lload X15.here hx rfl (hb hby d15_69) rfl k_
              obtain ⟨T16, h16, X16, e16, W16, V16, st16⟩ := own_laS X15 hx hZ e15 ((B2.other W6 (fun q_ => ne_x0_x2 q_.symm)).other W11 (fun q_ => ne_x1_x2 q_.symm)) ⟨own_i_nlt rfl (by decide : (0 : Int32).toInt = 0) (by omega), own_i_lt rfl rfl (by omega)⟩ (g := (mkF m 71 #[(sR w), (sI bl), (sJ bits), .second, (sI wd2), (sJ mk2), .second, (sI (2 : Int32)), (sJ (f2 wd2.toNatClampNeg)), .second, (sJ ((f2 wd2.toNatClampNeg) &&& (mk2 ^^^ (-1 : Int64)))), .second] [(.long ((f2 wd2.toNatClampNeg) &&& (mk2 ^^^ (-1 : Int64)))), (.int wd2), (.ref x2)])) rfl rfl (hb hby d15_71)
              have N16 := Fr.snoc X16 N11 g2
              refine Go.t T16 72 [] ?_ st16
              refine Go.k 74 [(.long ((f2 wd2.toNatClampNeg) &&& (mk2 ^^^ (-1 : Int64))))] ?_ fun _ k_ => XT.lload X16.here hx rfl (hb hby d15_72) rfl k_
              refine Go.k 75 [(.long (0 : Int64)), (.long ((f2 wd2.toNatClampNeg) &&& (mk2 ^^^ (-1 : Int64))))] ?_ fun _ k_ => XT.lconstV X16.here hx rfl (0 : Int64) (hb hby d15_74) (by decide) k_
              refine Go.k 76 [(.int (lcmpW ((f2 wd2.toNatClampNeg) &&& (mk2 ^^^ (-1 : Int64))) (0 : Int64)))] ?_ fun _ k_ => XT.lcmp X16.here hx rfl (hb hby d15_75) rfl k_
              by_cases hc17 : ((f2 wd2.toNatClampNeg) &&& (mk2 ^^^ (-1 : Int64))) = (0 : Int64)
              · refine Go.k 79 [] ?_ fun _ k_ => XS.ifNo X16.here hx rfl (hb hby d15_76) rfl ((if0 _ _).trans (teq ((lw_eq _ _).mpr hc17)).2) k_
                refine Go.k 81 [(.long (f2 wd2.toNatClampNeg))] ?_ fun _ k_ => XT.lload X16.here hx rfl (hb hby d15_79) rfl k_
                refine Go.k 82 [(.long (0 : Int64)), (.long (f2 wd2.toNatClampNeg))] ?_ fun _ k_ => XT.lconstV X16.here hx rfl (0 : Int64) (hb hby d15_81) (by decide) k_
                refine Go.k 83 [(.int (lcmpW (f2 wd2.toNatClampNeg) (0 : Int64)))] ?_ fun _ k_ => XT.lcmp X16.here hx rfl (hb hby d15_82) rfl k_
                by_cases hc18 : (f2 wd2.toNatClampNeg) = (0 : Int64)
                · refine Go.k 93 [] ?_ fun _ k_ => XS.ifYes X16.here hx rfl (pc0 := 83) (pc' := 93) rfl (hb hby d15_83) rfl ((if0 _ _).trans (teq ((lw_eq _ _).mpr hc18)).1) (by decide) (by decide) k_
                  refine Go.k 94 [(.long (0 : Int64))] ?_ fun _ k_ => XT.lconstV X16.here hx rfl (0 : Int64) (hb hby d15_93) (by decide) k_
                  refine Go.s (g' := (mkF m 96 #[(sR w), (sI bl), (sJ bits), .second, (sI wd2), (sJ (0 : Int64)), .second, (sI (2 : Int32)), (sJ (f2 wd2.toNatClampNeg)), .second, (sJ ((f2 wd2.toNatClampNeg) &&& (mk2 ^^^ (-1 : Int64)))), .second] [])) ?_ fun _ k_ => XT.lstore X16.here hx rfl (hb hby d15_94) rfl (l' := #[(sR w), (sI bl), (sJ bits), .second, (sI wd2), (sJ (0 : Int64)), .second, (sI (2 : Int32)), (sJ (f2 wd2.toNatClampNeg)), .second, (sJ ((f2 wd2.toNatClampNeg) &&& (mk2 ^^^ (-1 : Int64)))), .second]) rfl k_
                  refine Go.k 98 [(.int wd2)] ?_ fun _ k_ => XS.iload X16.here hx rfl (hb hby d15_96) rfl k_
                  refine Go.k 100 [(.int (6 : Int32)), (.int wd2)] ?_ fun _ k_ => XT.bipushV X16.here hx rfl (6 : Int32) (hb hby d15_98) (by decide) k_
                  refine Go.k 101 [(.int (XT.ushr wd2 (6 : Int32)))] ?_ fun _ k_ => XT.iushr X16.here hx rfl (hb hby d15_100) rfl k_
                  obtain ⟨wd3, ewd3⟩ : ∃ q_ : Int32, q_ = XT.ushr wd2 6 := ⟨_, rfl⟩
                  rw [← ewd3]
                  have hwd3 : wd3.toInt = wd2.toInt / 64 := by rw [ewd3]; exact own_ushr6 _ (by omega)
                  have nwd3 : wd3.toNatClampNeg = wd2.toNatClampNeg / 64 := by simp only [Int32.toNatClampNeg]; omega
                  refine Go.s (g' := (mkF m 103 #[(sR w), (sI bl), (sJ bits), .second, (sI wd3), (sJ (0 : Int64)), .second, (sI (2 : Int32)), (sJ (f2 wd2.toNatClampNeg)), .second, (sJ ((f2 wd2.toNatClampNeg) &&& (mk2 ^^^ (-1 : Int64)))), .second] [])) ?_ fun _ k_ => XS.istore X16.here hx rfl (hb hby d15_101) rfl (l' := #[(sR w), (sI bl), (sJ bits), .second, (sI wd3), (sJ (0 : Int64)), .second, (sI (2 : Int32)), (sJ (f2 wd2.toNatClampNeg)), .second, (sJ ((f2 wd2.toNatClampNeg) &&& (mk2 ^^^ (-1 : Int64)))), .second]) rfl k_
                  refine Go.s (g' := (mkF m 106 #[(sR w), (sI bl), (sJ bits), .second, (sI wd3), (sJ (0 : Int64)), .second, (sI (3 : Int32)), (sJ (f2 wd2.toNatClampNeg)), .second, (sJ ((f2 wd2.toNatClampNeg) &&& (mk2 ^^^ (-1 : Int64)))), .second] [])) ?_ fun _ k_ => XT.iincV X16.here hx rfl (1 : Int32) (hb hby d15_103) (by decide) rfl (l' := #[(sR w), (sI bl), (sJ bits), .second, (sI wd3), (sJ (0 : Int64)), .second, (sI (3 : Int32)), (sJ (f2 wd2.toNatClampNeg)), .second, (sJ ((f2 wd2.toNatClampNeg) &&& (mk2 ^^^ (-1 : Int64)))), .second]) rfl k_
                  refine Go.k 24 [] ?_ fun _ k_ => XS.goto X16.here hx rfl (pc0 := 106) (pc' := 24) rfl (hb hby d15_106) (by decide) (by decide) k_
                  refine Go.k 26 [(.int (3 : Int32))] ?_ fun _ k_ => XS.iload X16.here hx rfl (hb hby d15_24) rfl k_
                  refine Go.k 27 [(.int (5 : Int32)), (.int (3 : Int32))] ?_ fun _ k_ => XT.iconstV X16.here hx rfl (5 : Int32) (hb hby d15_26) (by decide) k_
                  refine Go.k 30 [] ?_ fun _ k_ => XS.icmpNo X16.here hx rfl (hb hby d15_27) rfl (by decide) k_
                  refine Go.k 32 [(.long (0 : Int64))] ?_ fun _ k_ => XT.lload X16.here hx rfl (hb hby d15_30) rfl k_
                  refine Go.k 33 [(.long (0 : Int64)), (.long (0 : Int64))] ?_ fun _ k_ => XT.lconstV X16.here hx rfl (0 : Int64) (hb hby d15_32) (by decide) k_
                  refine Go.k 34 [(.int (lcmpW (0 : Int64) (0 : Int64)))] ?_ fun _ k_ => XT.lcmp X16.here hx rfl (hb hby d15_33) rfl k_
                  refine Go.k 109 [] ?_ fun _ k_ => XS.ifYes X16.here hx rfl (pc0 := 34) (pc' := 109) rfl (hb hby d15_34) rfl ((if0 _ _).trans (teq ((lw_eq _ _).mpr (rfl : (0 : Int64) = (0 : Int64)))).1) (by decide) (by decide) k_
                  exact Go.retU X16 hx hret hlk (by decide) (by decide) (hb hby d15_109) (by rw [e16]; exact ⟨rfl, N16, (Nat.le_trans (Nat.le_trans (Nat.le_trans (Nat.le_refl _) (Nat.le_of_eq W6.size.symm)) (Nat.le_of_eq W11.size.symm)) (Nat.le_of_eq W16.size.symm)), (own_set f1 wd1.toNatClampNeg ((f1 wd1.toNatClampNeg) &&& (mk1 ^^^ (-1 : Int64)))), (own_set f2 wd2.toNatClampNeg ((f2 wd2.toNatClampNeg) &&& (mk2 ^^^ (-1 : Int64)))), f3, f4, ⟨(((WE.wr W6).wr W11).wr W16), (((WF.other W6 (Or.inl ne_w_x0)).other W11 (Or.inl ne_w_x1)).other W16 (Or.inl ne_w_x2)), (((WA.other W6 ne_lv_x0).other W11 ne_lv_x1).other W16 ne_lv_x2), WO, ((V6.other W11 ne_x0_x1).other W16 ne_x0_x2), (V11.other W16 ne_x1_x2), V16, (((B3.other W6 (fun q_ => ne_x0_x3 q_.symm)).other W11 (fun q_ => ne_x1_x3 q_.symm)).other W16 (fun q_ => ne_x2_x3 q_.symm)), (((B4.other W6 (fun q_ => ne_x0_x4 q_.symm)).other W11 (fun q_ => ne_x1_x4 q_.symm)).other W16 (fun q_ => ne_x2_x4 q_.symm)), gl, g0, g1, g2, g3, g4, ne_w_lv, ne_w_x0, ne_w_x1, ne_w_x2, ne_w_x3, ne_w_x4, ne_lv_x0, ne_lv_x1, ne_lv_x2, ne_lv_x3, ne_lv_x4, ne_x0_x1, ne_x0_x2, ne_x0_x3, ne_x0_x4, ne_x1_x2, ne_x1_x3, ne_x1_x4, ne_x2_x3, ne_x2_x4, ne_x3_x4⟩, ⟨(by rw [emk1, nwd1]; exact own_P_D hp0 (by omega) rfl hc7), (by rw [emk2, nwd2]; exact own_P_D hp1 (by omega) rfl hc12), own_P_Z hp2 hc18 hc17, hp3⟩⟩)
                · refine Go.k 86 [] ?_ fun _ k_ => XS.ifNo X16.here hx rfl (hb hby d15_83) rfl ((if0 _ _).trans (feq (fun q_ => hc18 ((lw_eq _ _).mp q_))).1) k_
                  refine Go.k 87 [(.long (1 : Int64))] ?_ fun _ k_ => XT.lconstV X16.here hx rfl (1 : Int64) (hb hby d15_86) (by decide) k_
                  refine Go.k 89 [(.int wd2), (.long (1 : Int64))] ?_ fun _ k_ => XS.iload X16.here hx rfl (hb hby d15_87) rfl k_
                  refine Go.k 90 [(.long ((1 : Int64) <<< (wd2.toInt64 &&& 63)))] ?_ fun _ k_ => XT.lshl X16.here hx rfl (hb hby d15_89) rfl k_
                  refine Go.k 94 [(.long ((1 : Int64) <<< (wd2.toInt64 &&& 63)))] ?_ fun _ k_ => XS.goto X16.here hx rfl (pc0 := 90) (pc' := 94) rfl (hb hby d15_90) (by decide) (by decide) k_
                  obtain ⟨mk3, emk3⟩ : ∃ q_ : Int64, q_ = ((1 : Int64) <<< (wd2.toInt64 &&& 63)) := ⟨_, rfl⟩
                  rw [← emk3]
                  have hmk3 : ¬ mk3 = 0 := by rw [emk3]; exact own_shl1 _
                  refine Go.s (g' := (mkF m 96 #[(sR w), (sI bl), (sJ bits), .second, (sI wd2), (sJ mk3), .second, (sI (2 : Int32)), (sJ (f2 wd2.toNatClampNeg)), .second, (sJ ((f2 wd2.toNatClampNeg) &&& (mk2 ^^^ (-1 : Int64)))), .second] [])) ?_ fun _ k_ => XT.lstore X16.here hx rfl (hb hby d15_94) rfl (l' := #[(sR w), (sI bl), (sJ bits), .second, (sI wd2), (sJ mk3), .second, (sI (2 : Int32)), (sJ (f2 wd2.toNatClampNeg)), .second, (sJ ((f2 wd2.toNatClampNeg) &&& (mk2 ^^^ (-1 : Int64)))), .second]) rfl k_
                  refine Go.k 98 [(.int wd2)] ?_ fun _ k_ => XS.iload X16.here hx rfl (hb hby d15_96) rfl k_
                  refine Go.k 100 [(.int (6 : Int32)), (.int wd2)] ?_ fun _ k_ => XT.bipushV X16.here hx rfl (6 : Int32) (hb hby d15_98) (by decide) k_
                  refine Go.k 101 [(.int (XT.ushr wd2 (6 : Int32)))] ?_ fun _ k_ => XT.iushr X16.here hx rfl (hb hby d15_100) rfl k_
                  obtain ⟨wd3, ewd3⟩ : ∃ q_ : Int32, q_ = XT.ushr wd2 6 := ⟨_, rfl⟩
                  rw [← ewd3]
                  have hwd3 : wd3.toInt = wd2.toInt / 64 := by rw [ewd3]; exact own_ushr6 _ (by omega)
                  have nwd3 : wd3.toNatClampNeg = wd2.toNatClampNeg / 64 := by simp only [Int32.toNatClampNeg]; omega
                  refine Go.s (g' := (mkF m 103 #[(sR w), (sI bl), (sJ bits), .second, (sI wd3), (sJ mk3), .second, (sI (2 : Int32)), (sJ (f2 wd2.toNatClampNeg)), .second, (sJ ((f2 wd2.toNatClampNeg) &&& (mk2 ^^^ (-1 : Int64)))), .second] [])) ?_ fun _ k_ => XS.istore X16.here hx rfl (hb hby d15_101) rfl (l' := #[(sR w), (sI bl), (sJ bits), .second, (sI wd3), (sJ mk3), .second, (sI (2 : Int32)), (sJ (f2 wd2.toNatClampNeg)), .second, (sJ ((f2 wd2.toNatClampNeg) &&& (mk2 ^^^ (-1 : Int64)))), .second]) rfl k_
                  refine Go.s (g' := (mkF m 106 #[(sR w), (sI bl), (sJ bits), .second, (sI wd3), (sJ mk3), .second, (sI (3 : Int32)), (sJ (f2 wd2.toNatClampNeg)), .second, (sJ ((f2 wd2.toNatClampNeg) &&& (mk2 ^^^ (-1 : Int64)))), .second] [])) ?_ fun _ k_ => XT.iincV X16.here hx rfl (1 : Int32) (hb hby d15_103) (by decide) rfl (l' := #[(sR w), (sI bl), (sJ bits), .second, (sI wd3), (sJ mk3), .second, (sI (3 : Int32)), (sJ (f2 wd2.toNatClampNeg)), .second, (sJ ((f2 wd2.toNatClampNeg) &&& (mk2 ^^^ (-1 : Int64)))), .second]) rfl k_
                  refine Go.k 24 [] ?_ fun _ k_ => XS.goto X16.here hx rfl (pc0 := 106) (pc' := 24) rfl (hb hby d15_106) (by decide) (by decide) k_
                  refine Go.k 26 [(.int (3 : Int32))] ?_ fun _ k_ => XS.iload X16.here hx rfl (hb hby d15_24) rfl k_
                  refine Go.k 27 [(.int (5 : Int32)), (.int (3 : Int32))] ?_ fun _ k_ => XT.iconstV X16.here hx rfl (5 : Int32) (hb hby d15_26) (by decide) k_
                  refine Go.k 30 [] ?_ fun _ k_ => XS.icmpNo X16.here hx rfl (hb hby d15_27) rfl (by decide) k_
                  refine Go.k 32 [(.long mk3)] ?_ fun _ k_ => XT.lload X16.here hx rfl (hb hby d15_30) rfl k_
                  refine Go.k 33 [(.long (0 : Int64)), (.long mk3)] ?_ fun _ k_ => XT.lconstV X16.here hx rfl (0 : Int64) (hb hby d15_32) (by decide) k_
                  refine Go.k 34 [(.int (lcmpW mk3 (0 : Int64)))] ?_ fun _ k_ => XT.lcmp X16.here hx rfl (hb hby d15_33) rfl k_
                  refine Go.k 37 [] ?_ fun _ k_ => XS.ifNo X16.here hx rfl (hb hby d15_34) rfl ((if0 _ _).trans (feq (fun q_ => (hmk3 : ¬ mk3 = (0 : Int64)) ((lw_eq _ _).mp q_))).1) k_
                  refine Go.k 38 [(.ref w)] ?_ fun _ k_ => XS.aloadN X16.here hx rfl (hb hby d15_37) rfl rfl k_
                  obtain ⟨T19, X19, e19, st19⟩ := getF X16 hx hZ hown (host := "") (Or.inl (wq hw 13 rfl)) Via.refl e16 (((WF.other W6 (Or.inl ne_w_x0)).other W11 (Or.inl ne_w_x1)).other W16 (Or.inl ne_w_x2)) (g := (mkF m 38 #[(sR w), (sI bl), (sJ bits), .second, (sI wd3), (sJ mk3), .second, (sI (3 : Int32)), (sJ (f2 wd2.toNatClampNeg)), .second, (sJ ((f2 wd2.toNatClampNeg) &&& (mk2 ^^^ (-1 : Int64)))), .second] [(.ref w)])) rfl rfl (hb hby d15_38)
                  refine Go.t T19 41 [(.ref lv)] ?_ st19
                  refine Go.k 43 [(.int (3 : Int32)), (.ref lv)] ?_ fun _ k_ => XS.iload X19.here hx rfl (hb hby d15_41) rfl k_
                  refine Go.t T19 44 [(.ref x3)] ?_ (own_aaload X19 hx hZ e19 (((WA.other W6 ne_lv_x0).other W11 ne_lv_x1).other W16 ne_lv_x2) rfl (by decide) (by rw [show (3 : Int32).toNatClampNeg = 3 from by decide]; rfl) (g := (mkF m 43 #[(sR w), (sI bl), (sJ bits), .second, (sI wd3), (sJ mk3), .second, (sI (3 : Int32)), (sJ (f2 wd2.toNatClampNeg)), .second, (sJ ((f2 wd2.toNatClampNeg) &&& (mk2 ^^^ (-1 : Int64)))), .second] [(.int (3 : Int32)), (.ref lv)])) rfl rfl (hb hby d15_43))
                  refine Go.k 46 [(.int wd3), (.ref x3)] ?_ fun _ k_ => XS.iload X19.here hx rfl (hb hby d15_44) rfl k_
                  refine Go.t T19 47 [(.long (f3 wd3.toNatClampNeg))] ?_ (own_laL X19 hx hZ e19 (((B3.other W6 (fun q_ => ne_x0_x3 q_.symm)).other W11 (fun q_ => ne_x1_x3 q_.symm)).other W16 (fun q_ => ne_x2_x3 q_.symm)) ⟨own_i_nlt rfl (by decide : (0 : Int32).toInt = 0) (by omega), own_i_lt rfl rfl (by omega)⟩ (g := (mkF m 46 #[(sR w), (sI bl), (sJ bits), .second, (sI wd3), (sJ mk3), .second, (sI (3 : Int32)), (sJ (f2 wd2.toNatClampNeg)), .second, (sJ ((f2 wd2.toNatClampNeg) &&& (mk2 ^^^ (-1 : Int64)))), .second] [(.int wd3), (.ref x3)])) rfl rfl (hb hby d15_46))
                  refine Go.s (g' := (mkF m 49 #[(sR w), (sI bl), (sJ bits), .second, (sI wd3), (sJ mk3), .second, (sI (3 : Int32)), (sJ (f3 wd3.toNatClampNeg)), .second, (sJ ((f2 wd2.toNatClampNeg) &&& (mk2 ^^^ (-1 : Int64)))), .second] [])) ?_ fun _ k_ => XT.lstore X19.here hx rfl (hb hby d15_47) rfl (l' := #[(sR w), (sI bl), (sJ bits), .second, (sI wd3), (sJ mk3), .second, (sI (3 : Int32)), (sJ (f3 wd3.toNatClampNeg)), .second, (sJ ((f2 wd2.toNatClampNeg) &&& (mk2 ^^^ (-1 : Int64)))), .second]) rfl k_
                  refine Go.k 51 [(.long (f3 wd3.toNatClampNeg))] ?_ fun _ k_ => XT.lload X19.here hx rfl (hb hby d15_49) rfl k_
                  refine Go.k 53 [(.long mk3), (.long (f3 wd3.toNatClampNeg))] ?_ fun _ k_ => XT.lload X19.here hx rfl (hb hby d15_51) rfl k_
                  refine Go.k 56 [(.long (-1 : Int64)), (.long mk3), (.long (f3 wd3.toNatClampNeg))] ?_ fun _ k_ => X19.ldc2J hx hown (mvT hZ (wq hw 29 rfl)) rfl (hb hby d15_53) k_
                  refine Go.k 57 [(.long (mk3 ^^^ (-1 : Int64))), (.long (f3 wd3.toNatClampNeg))] ?_ fun _ k_ => XT.lxor X19.here hx rfl (hb hby d15_56) rfl k_
                  refine Go.k 58 [(.long ((f3 wd3.toNatClampNeg) &&& (mk3 ^^^ (-1 : Int64))))] ?_ fun _ k_ => XT.land X19.here hx rfl (hb hby d15_57) rfl k_
                  refine Go.s (g' := (mkF m 60 #[(sR w), (sI bl), (sJ bits), .second, (sI wd3), (sJ mk3), .second, (sI (3 : Int32)), (sJ (f3 wd3.toNatClampNeg)), .second, (sJ ((f3 wd3.toNatClampNeg) &&& (mk3 ^^^ (-1 : Int64)))), .second] [])) ?_ fun _ k_ => XT.lstore X19.here hx rfl (hb hby d15_58) rfl (l' := #[(sR w), (sI bl), (sJ bits), .second, (sI wd3), (sJ mk3), .second, (sI (3 : Int32)), (sJ (f3 wd3.toNatClampNeg)), .second, (sJ ((f3 wd3.toNatClampNeg) &&& (mk3 ^^^ (-1 : Int64)))), .second]) rfl k_
                  refine Go.k 61 [(.ref w)] ?_ fun _ k_ => XS.aloadN X19.here hx rfl (hb hby d15_60) rfl rfl k_
                  obtain ⟨T20, X20, e20, st20⟩ := getF X19 hx hZ hown (host := "") (Or.inl (wq hw 13 rfl)) Via.refl e19 (((WF.other W6 (Or.inl ne_w_x0)).other W11 (Or.inl ne_w_x1)).other W16 (Or.inl ne_w_x2)) (g := (mkF m 61 #[(sR w), (sI bl), (sJ bits), .second, (sI wd3), (sJ mk3), .second, (sI (3 : Int32)), (sJ (f3 wd3.toNatClampNeg)), .second, (sJ ((f3 wd3.toNatClampNeg) &&& (mk3 ^^^ (-1 : Int64)))), .second] [(.ref w)])) rfl rfl (hb hby d15_61)
                  refine Go.t T20 64 [(.ref lv)] ?_ st20
                  refine Go.k 66 [(.int (3 : Int32)), (.ref lv)] ?_ fun _ k_ => XS.iload X20.here hx rfl (hb hby d15_64) rfl k_
                  refine Go.t T20 67 [(.ref x3)] ?_ (own_aaload X20 hx hZ e20 (((WA.other W6 ne_lv_x0).other W11 ne_lv_x1).other W16 ne_lv_x2) rfl (by decide) (by rw [show (3 : Int32).toNatClampNeg = 3 from by decide]; rfl) (g := (mkF m 66 #[(sR w), (sI bl), (sJ bits), .second, (sI wd3), (sJ mk3), .second, (sI (3 : Int32)), (sJ (f3 wd3.toNatClampNeg)), .second, (sJ ((f3 wd3.toNatClampNeg) &&& (mk3 ^^^ (-1 : Int64)))), .second] [(.int (3 : Int32)), (.ref lv)])) rfl rfl (hb hby d15_66))
                  refine Go.k 69 [(.int wd3), (.ref x3)] ?_ fun _ k_ => XS.iload X20.here hx rfl (hb hby d15_67) rfl k_
                  refine Go.k 71 [(.long ((f3 wd3.toNatClampNeg) &&& (mk3 ^^^ (-1 : Int64)))), (.int wd3), (.ref x3)] ?_ fun _ k_ => XT.lload X20.here hx rfl (hb hby d15_69) rfl k_
                  obtain ⟨T21, h21, X21, e21, W21, V21, st21⟩ := own_laS X20 hx hZ e20 (((B3.other W6 (fun q_ => ne_x0_x3 q_.symm)).other W11 (fun q_ => ne_x1_x3 q_.symm)).other W16 (fun q_ => ne_x2_x3 q_.symm)) ⟨own_i_nlt rfl (by decide : (0 : Int32).toInt = 0) (by omega), own_i_lt rfl rfl (by omega)⟩ (g := (mkF m 71 #[(sR w), (sI bl), (sJ bits), .second, (sI wd3), (sJ mk3), .second, (sI (3 : Int32)), (sJ (f3 wd3.toNatClampNeg)), .second, (sJ ((f3 wd3.toNatClampNeg) &&& (mk3 ^^^ (-1 : Int64)))), .second] [(.long ((f3 wd3.toNatClampNeg) &&& (mk3 ^^^ (-1 : Int64)))), (.int wd3), (.ref x3)])) rfl rfl (hb hby d15_71)
                  have N21 := Fr.snoc X21 N16 g3
                  refine Go.t T21 72 [] ?_ st21
                  refine Go.k 74 [(.long ((f3 wd3.toNatClampNeg) &&& (mk3 ^^^ (-1 : Int64))))] ?_ fun _ k_ => XT.lload X21.here hx rfl (hb hby d15_72) rfl k_
                  refine Go.k 75 [(.long (0 : Int64)), (.long ((f3 wd3.toNatClampNeg) &&& (mk3 ^^^ (-1 : Int64))))] ?_ fun _ k_ => XT.lconstV X21.here hx rfl (0 : Int64) (hb hby d15_74) (by decide) k_
                  refine Go.k 76 [(.int (lcmpW ((f3 wd3.toNatClampNeg) &&& (mk3 ^^^ (-1 : Int64))) (0 : Int64)))] ?_ fun _ k_ => XT.lcmp X21.here hx rfl (hb hby d15_75) rfl k_
                  by_cases hc22 : ((f3 wd3.toNatClampNeg) &&& (mk3 ^^^ (-1 : Int64))) = (0 : Int64)
                  · refine Go.k 79 [] ?_ fun _ k_ => XS.ifNo X21.here hx rfl (hb hby d15_76) rfl ((if0 _ _).trans (teq ((lw_eq _ _).mpr hc22)).2) k_
                    refine Go.k 81 [(.long (f3 wd3.toNatClampNeg))] ?_ fun _ k_ => XT.lload X21.here hx rfl (hb hby d15_79) rfl k_
                    refine Go.k 82 [(.long (0 : Int64)), (.long (f3 wd3.toNatClampNeg))] ?_ fun _ k_ => XT.lconstV X21.here hx rfl (0 : Int64) (hb hby d15_81) (by decide) k_
                    refine Go.k 83 [(.int (lcmpW (f3 wd3.toNatClampNeg) (0 : Int64)))] ?_ fun _ k_ => XT.lcmp X21.here hx rfl (hb hby d15_82) rfl k_
                    by_cases hc23 : (f3 wd3.toNatClampNeg) = (0 : Int64)
                    · refine Go.k 93 [] ?_ fun _ k_ => XS.ifYes X21.here hx rfl (pc0 := 83) (pc' := 93) rfl (hb hby d15_83) rfl ((if0 _ _).trans (teq ((lw_eq _ _).mpr hc23)).1) (by decide) (by decide) k_
                      refine Go.k 94 [(.long (0 : Int64))] ?_ fun _ k_ => XT.lconstV X21.here hx rfl (0 : Int64) (hb hby d15_93) (by decide) k_
                      refine Go.s (g' := (mkF m 96 #[(sR w), (sI bl), (sJ bits), .second, (sI wd3), (sJ (0 : Int64)), .second, (sI (3 : Int32)), (sJ (f3 wd3.toNatClampNeg)), .second, (sJ ((f3 wd3.toNatClampNeg) &&& (mk3 ^^^ (-1 : Int64)))), .second] [])) ?_ fun _ k_ => XT.lstore X21.here hx rfl (hb hby d15_94) rfl (l' := #[(sR w), (sI bl), (sJ bits), .second, (sI wd3), (sJ (0 : Int64)), .second, (sI (3 : Int32)), (sJ (f3 wd3.toNatClampNeg)), .second, (sJ ((f3 wd3.toNatClampNeg) &&& (mk3 ^^^ (-1 : Int64)))), .second]) rfl k_
                      refine Go.k 98 [(.int wd3)] ?_ fun _ k_ => XS.iload X21.here hx rfl (hb hby d15_96) rfl k_
                      refine Go.k 100 [(.int (6 : Int32)), (.int wd3)] ?_ fun _ k_ => XT.bipushV X21.here hx rfl (6 : Int32) (hb hby d15_98) (by decide) k_
                      refine Go.k 101 [(.int (XT.ushr wd3 (6 : Int32)))] ?_ fun _ k_ => XT.iushr X21.here hx rfl (hb hby d15_100) rfl k_
                      obtain ⟨wd4, ewd4⟩ : ∃ q_ : Int32, q_ = XT.ushr wd3 6 := ⟨_, rfl⟩
                      rw [← ewd4]
                      have hwd4 : wd4.toInt = wd3.toInt / 64 := by rw [ewd4]; exact own_ushr6 _ (by omega)
                      have nwd4 : wd4.toNatClampNeg = wd3.toNatClampNeg / 64 := by simp only [Int32.toNatClampNeg]; omega
                      refine Go.s (g' := (mkF m 103 #[(sR w), (sI bl), (sJ bits), .second, (sI wd4), (sJ (0 : Int64)), .second, (sI (3 : Int32)), (sJ (f3 wd3.toNatClampNeg)), .second, (sJ ((f3 wd3.toNatClampNeg) &&& (mk3 ^^^ (-1 : Int64)))), .second] [])) ?_ fun _ k_ => XS.istore X21.here hx rfl (hb hby d15_101) rfl (l' := #[(sR w), (sI bl), (sJ bits), .second, (sI wd4), (sJ (0 : Int64)), .second, (sI (3 : Int32)), (sJ (f3 wd3.toNatClampNeg)), .second, (sJ ((f3 wd3.toNatClampNeg) &&& (mk3 ^^^ (-1 : Int64)))), .second]) rfl k_
                      refine Go.s (g' := (mkF m 106 #[(sR w), (sI bl), (sJ bits), .second, (sI wd4), (sJ (0 : Int64)), .second, (sI (4 : Int32)), (sJ (f3 wd3.toNatClampNeg)), .second, (sJ ((f3 wd3.toNatClampNeg) &&& (mk3 ^^^ (-1 : Int64)))), .second] [])) ?_ fun _ k_ => XT.iincV X21.here hx rfl (1 : Int32) (hb hby d15_103) (by decide) rfl (l' := #[(sR w), (sI bl), (sJ bits), .second, (sI wd4), (sJ (0 : Int64)), .second, (sI (4 : Int32)), (sJ (f3 wd3.toNatClampNeg)), .second, (sJ ((f3 wd3.toNatClampNeg) &&& (mk3 ^^^ (-1 : Int64)))), .second]) rfl k_
                      refine Go.k 24 [] ?_ fun _ k_ => XS.goto X21.here hx rfl (pc0 := 106) (pc' := 24) rfl (hb hby d15_106) (by decide) (by decide) k_
                      refine Go.k 26 [(.int (4 : Int32))] ?_ fun _ k_ => XS.iload X21.here hx rfl (hb hby d15_24) rfl k_
                      refine Go.k 27 [(.int (5 : Int32)), (.int (4 : Int32))] ?_ fun _ k_ => XT.iconstV X21.here hx rfl (5 : Int32) (hb hby d15_26) (by decide) k_
                      refine Go.k 30 [] ?_ fun _ k_ => XS.icmpNo X21.here hx rfl (hb hby d15_27) rfl (by decide) k_
                      refine Go.k 32 [(.long (0 : Int64))] ?_ fun _ k_ => XT.lload X21.here hx rfl (hb hby d15_30) rfl k_
                      refine Go.k 33 [(.long (0 : Int64)), (.long (0 : Int64))] ?_ fun _ k_ => XT.lconstV X21.here hx rfl (0 : Int64) (hb hby d15_32) (by decide) k_
                      refine Go.k 34 [(.int (lcmpW (0 : Int64) (0 : Int64)))] ?_ fun _ k_ => XT.lcmp X21.here hx rfl (hb hby d15_33) rfl k_
                      refine Go.k 109 [] ?_ fun _ k_ => XS.ifYes X21.here hx rfl (pc0 := 34) (pc' := 109) rfl (hb hby d15_34) rfl ((if0 _ _).trans (teq ((lw_eq _ _).mpr (rfl : (0 : Int64) = (0 : Int64)))).1) (by decide) (by decide) k_
                      exact Go.retU X21 hx hret hlk (by decide) (by decide) (hb hby d15_109) (by rw [e21]; exact ⟨rfl, N21, (Nat.le_trans (Nat.le_trans (Nat.le_trans (Nat.le_trans (Nat.le_refl _) (Nat.le_of_eq W6.size.symm)) (Nat.le_of_eq W11.size.symm)) (Nat.le_of_eq W16.size.symm)) (Nat.le_of_eq W21.size.symm)), (own_set f1 wd1.toNatClampNeg ((f1 wd1.toNatClampNeg) &&& (mk1 ^^^ (-1 : Int64)))), (own_set f2 wd2.toNatClampNeg ((f2 wd2.toNatClampNeg) &&& (mk2 ^^^ (-1 : Int64)))), (own_set f3 wd3.toNatClampNeg ((f3 wd3.toNatClampNeg) &&& (mk3 ^^^ (-1 : Int64)))), f4, ⟨((((WE.wr W6).wr W11).wr W16).wr W21), ((((WF.other W6 (Or.inl ne_w_x0)).other W11 (Or.inl ne_w_x1)).other W16 (Or.inl ne_w_x2)).other W21 (Or.inl ne_w_x3)), ((((WA.other W6 ne_lv_x0).other W11 ne_lv_x1).other W16 ne_lv_x2).other W21 ne_lv_x3), WO, (((V6.other W11 ne_x0_x1).other W16 ne_x0_x2).other W21 ne_x0_x3), ((V11.other W16 ne_x1_x2).other W21 ne_x1_x3), (V16.other W21 ne_x2_x3), V21, ((((B4.other W6 (fun q_ => ne_x0_x4 q_.symm)).other W11 (fun q_ => ne_x1_x4 q_.symm)).other W16 (fun q_ => ne_x2_x4 q_.symm)).other W21 (fun q_ => ne_x3_x4 q_.symm)), gl, g0, g1, g2, g3, g4, ne_w_lv, ne_w_x0, ne_w_x1, ne_w_x2, ne_w_x3, ne_w_x4, ne_lv_x0, ne_lv_x1, ne_lv_x2, ne_lv_x3, ne_lv_x4, ne_x0_x1, ne_x0_x2, ne_x0_x3, ne_x0_x4, ne_x1_x2, ne_x1_x3, ne_x1_x4, ne_x2_x3, ne_x2_x4, ne_x3_x4⟩, ⟨(by rw [emk1, nwd1]; exact own_P_D hp0 (by omega) rfl hc7), (by rw [emk2, nwd2]; exact own_P_D hp1 (by omega) rfl hc12), (by rw [emk3, nwd3]; exact own_P_D hp2 (by omega) rfl hc17), own_P_Z hp3 hc23 hc22⟩⟩)
                    · refine Go.k 86 [] ?_ fun _ k_ => XS.ifNo X21.here hx rfl (hb hby d15_83) rfl ((if0 _ _).trans (feq (fun q_ => hc23 ((lw_eq _ _).mp q_))).1) k_
                      refine Go.k 87 [(.long (1 : Int64))] ?_ fun _ k_ => XT.lconstV X21.here hx rfl (1 : Int64) (hb hby d15_86) (by decide) k_
                      refine Go.k 89 [(.int wd3), (.long (1 : Int64))] ?_ fun _ k_ => XS.iload X21.here hx rfl (hb hby d15_87) rfl k_
                      refine Go.k 90 [(.long ((1 : Int64) <<< (wd3.toInt64 &&& 63)))] ?_ fun _ k_ => XT.lshl X21.here hx rfl (hb hby d15_89) rfl k_
                      refine Go.k 94 [(.long ((1 : Int64) <<< (wd3.toInt64 &&& 63)))] ?_ fun _ k_ => XS.goto X21.here hx rfl (pc0 := 90) (pc' := 94) rfl (hb hby d15_90) (by decide) (by decide) k_
                      obtain ⟨mk4, emk4⟩ : ∃ q_ : Int64, q_ = ((1 : Int64) <<< (wd3.toInt64 &&& 63)) := ⟨_, rfl⟩
                      rw [← emk4]
                      have hmk4 : ¬ mk4 = 0 := by rw [emk4]; exact own_shl1 _
                      refine Go.s (g' := (mkF m 96 #[(sR w), (sI bl), (sJ bits), .second, (sI wd3), (sJ mk4), .second, (sI (3 : Int32)), (sJ (f3 wd3.toNatClampNeg)), .second, (sJ ((f3 wd3.toNatClampNeg) &&& (mk3 ^^^ (-1 : Int64)))), .second] [])) ?_ fun _ k_ => XT.lstore X21.here hx rfl (hb hby d15_94) rfl (l' := #[(sR w), (sI bl), (sJ bits), .second, (sI wd3), (sJ mk4), .second, (sI (3 : Int32)), (sJ (f3 wd3.toNatClampNeg)), .second, (sJ ((f3 wd3.toNatClampNeg) &&& (mk3 ^^^ (-1 : Int64)))), .second]) rfl k_
                      refine Go.k 98 [(.int wd3)] ?_ fun _ k_ => XS.iload X21.here hx rfl (hb hby d15_96) rfl k_
                      refine Go.k 100 [(.int (6 : Int32)), (.int wd3)] ?_ fun _ k_ => XT.bipushV X21.here hx rfl (6 : Int32) (hb hby d15_98) (by decide) k_
                      refine Go.k 101 [(.int (XT.ushr wd3 (6 : Int32)))] ?_ fun _ k_ => XT.iushr X21.here hx rfl (hb hby d15_100) rfl k_
                      obtain ⟨wd4, ewd4⟩ : ∃ q_ : Int32, q_ = XT.ushr wd3 6 := ⟨_, rfl⟩
                      rw [← ewd4]
                      have hwd4 : wd4.toInt = wd3.toInt / 64 := by rw [ewd4]; exact own_ushr6 _ (by omega)
                      have nwd4 : wd4.toNatClampNeg = wd3.toNatClampNeg / 64 := by simp only [Int32.toNatClampNeg]; omega
                      refine Go.s (g' := (mkF m 103 #[(sR w), (sI bl), (sJ bits), .second, (sI wd4), (sJ mk4), .second, (sI (3 : Int32)), (sJ (f3 wd3.toNatClampNeg)), .second, (sJ ((f3 wd3.toNatClampNeg) &&& (mk3 ^^^ (-1 : Int64)))), .second] [])) ?_ fun _ k_ => XS.istore X21.here hx rfl (hb hby d15_101) rfl (l' := #[(sR w), (sI bl), (sJ bits), .second, (sI wd4), (sJ mk4), .second, (sI (3 : Int32)), (sJ (f3 wd3.toNatClampNeg)), .second, (sJ ((f3 wd3.toNatClampNeg) &&& (mk3 ^^^ (-1 : Int64)))), .second]) rfl k_
                      refine Go.s (g' := (mkF m 106 #[(sR w), (sI bl), (sJ bits), .second, (sI wd4), (sJ mk4), .second, (sI (4 : Int32)), (sJ (f3 wd3.toNatClampNeg)), .second, (sJ ((f3 wd3.toNatClampNeg) &&& (mk3 ^^^ (-1 : Int64)))), .second] [])) ?_ fun _ k_ => XT.iincV X21.here hx rfl (1 : Int32) (hb hby d15_103) (by decide) rfl (l' := #[(sR w), (sI bl), (sJ bits), .second, (sI wd4), (sJ mk4), .second, (sI (4 : Int32)), (sJ (f3 wd3.toNatClampNeg)), .second, (sJ ((f3 wd3.toNatClampNeg) &&& (mk3 ^^^ (-1 : Int64)))), .second]) rfl k_
                      refine Go.k 24 [] ?_ fun _ k_ => XS.goto X21.here hx rfl (pc0 := 106) (pc' := 24) rfl (hb hby d15_106) (by decide) (by decide) k_
                      refine Go.k 26 [(.int (4 : Int32))] ?_ fun _ k_ => XS.iload X21.here hx rfl (hb hby d15_24) rfl k_
                      refine Go.k 27 [(.int (5 : Int32)), (.int (4 : Int32))] ?_ fun _ k_ => XT.iconstV X21.here hx rfl (5 : Int32) (hb hby d15_26) (by decide) k_
                      refine Go.k 30 [] ?_ fun _ k_ => XS.icmpNo X21.here hx rfl (hb hby d15_27) rfl (by decide) k_
                      refine Go.k 32 [(.long mk4)] ?_ fun _ k_ => XT.lload X21.here hx rfl (hb hby d15_30) rfl k_
                      refine Go.k 33 [(.long (0 : Int64)), (.long mk4)] ?_ fun _ k_ => XT.lconstV X21.here hx rfl (0 : Int64) (hb hby d15_32) (by decide) k_
                      refine Go.k 34 [(.int (lcmpW mk4 (0 : Int64)))] ?_ fun _ k_ => XT.lcmp X21.here hx rfl (hb hby d15_33) rfl k_
                      refine Go.k 37 [] ?_ fun _ k_ => XS.ifNo X21.here hx rfl (hb hby d15_34) rfl ((if0 _ _).trans (feq (fun q_ => (hmk4 : ¬ mk4 = (0 : Int64)) ((lw_eq _ _).mp q_))).1) k_
                      refine Go.k 38 [(.ref w)] ?_ fun _ k_ => XS.aloadN X21.here hx rfl (hb hby d15_37) rfl rfl k_
                      obtain ⟨T24, X24, e24, st24⟩ := getF X21 hx hZ hown (host := "") (Or.inl (wq hw 13 rfl)) Via.refl e21 ((((WF.other W6 (Or.inl ne_w_x0)).other W11 (Or.inl ne_w_x1)).other W16 (Or.inl ne_w_x2)).other W21 (Or.inl ne_w_x3)) (g := (mkF m 38 #[(sR w), (sI bl), (sJ bits), .second, (sI wd4), (sJ mk4), .second, (sI (4 : Int32)), (sJ (f3 wd3.toNatClampNeg)), .second, (sJ ((f3 wd3.toNatClampNeg) &&& (mk3 ^^^ (-1 : Int64)))), .second] [(.ref w)])) rfl rfl (hb hby d15_38)
                      refine Go.t T24 41 [(.ref lv)] ?_ st24
                      refine Go.k 43 [(.int (4 : Int32)), (.ref lv)] ?_ fun _ k_ => XS.iload X24.here hx rfl (hb hby d15_41) rfl k_
                      refine Go.t T24 44 [(.ref x4)] ?_ (own_aaload X24 hx hZ e24 ((((WA.other W6 ne_lv_x0).other W11 ne_lv_x1).other W16 ne_lv_x2).other W21 ne_lv_x3) rfl (by decide) (by rw [show (4 : Int32).toNatClampNeg = 4 from by decide]; rfl) (g := (mkF m 43 #[(sR w), (sI bl), (sJ bits), .second, (sI wd4), (sJ mk4), .second, (sI (4 : Int32)), (sJ (f3 wd3.toNatClampNeg)), .second, (sJ ((f3 wd3.toNatClampNeg) &&& (mk3 ^^^ (-1 : Int64)))), .second] [(.int (4 : Int32)), (.ref lv)])) rfl rfl (hb hby d15_43))
                      refine Go.k 46 [(.int wd4), (.ref x4)] ?_ fun _ k_ => XS.iload X24.here hx rfl (hb hby d15_44) rfl k_
                      refine Go.t T24 47 [(.long (f4 wd4.toNatClampNeg))] ?_ (own_laL X24 hx hZ e24 ((((B4.other W6 (fun q_ => ne_x0_x4 q_.symm)).other W11 (fun q_ => ne_x1_x4 q_.symm)).other W16 (fun q_ => ne_x2_x4 q_.symm)).other W21 (fun q_ => ne_x3_x4 q_.symm)) ⟨own_i_nlt rfl (by decide : (0 : Int32).toInt = 0) (by omega), own_i_lt rfl rfl (by omega)⟩ (g := (mkF m 46 #[(sR w), (sI bl), (sJ bits), .second, (sI wd4), (sJ mk4), .second, (sI (4 : Int32)), (sJ (f3 wd3.toNatClampNeg)), .second, (sJ ((f3 wd3.toNatClampNeg) &&& (mk3 ^^^ (-1 : Int64)))), .second] [(.int wd4), (.ref x4)])) rfl rfl (hb hby d15_46))
                      refine Go.s (g' := (mkF m 49 #[(sR w), (sI bl), (sJ bits), .second, (sI wd4), (sJ mk4), .second, (sI (4 : Int32)), (sJ (f4 wd4.toNatClampNeg)), .second, (sJ ((f3 wd3.toNatClampNeg) &&& (mk3 ^^^ (-1 : Int64)))), .second] [])) ?_ fun _ k_ => XT.lstore X24.here hx rfl (hb hby d15_47) rfl (l' := #[(sR w), (sI bl), (sJ bits), .second, (sI wd4), (sJ mk4), .second, (sI (4 : Int32)), (sJ (f4 wd4.toNatClampNeg)), .second, (sJ ((f3 wd3.toNatClampNeg) &&& (mk3 ^^^ (-1 : Int64)))), .second]) rfl k_
                      refine Go.k 51 [(.long (f4 wd4.toNatClampNeg))] ?_ fun _ k_ => XT.lload X24.here hx rfl (hb hby d15_49) rfl k_
                      refine Go.k 53 [(.long mk4), (.long (f4 wd4.toNatClampNeg))] ?_ fun _ k_ => XT.lload X24.here hx rfl (hb hby d15_51) rfl k_
                      refine Go.k 56 [(.long (-1 : Int64)), (.long mk4), (.long (f4 wd4.toNatClampNeg))] ?_ fun _ k_ => X24.ldc2J hx hown (mvT hZ (wq hw 29 rfl)) rfl (hb hby d15_53) k_
                      refine Go.k 57 [(.long (mk4 ^^^ (-1 : Int64))), (.long (f4 wd4.toNatClampNeg))] ?_ fun _ k_ => XT.lxor X24.here hx rfl (hb hby d15_56) rfl k_
                      refine Go.k 58 [(.long ((f4 wd4.toNatClampNeg) &&& (mk4 ^^^ (-1 : Int64))))] ?_ fun _ k_ => XT.land X24.here hx rfl (hb hby d15_57) rfl k_
                      refine Go.s (g' := (mkF m 60 #[(sR w), (sI bl), (sJ bits), .second, (sI wd4), (sJ mk4), .second, (sI (4 : Int32)), (sJ (f4 wd4.toNatClampNeg)), .second, (sJ ((f4 wd4.toNatClampNeg) &&& (mk4 ^^^ (-1 : Int64)))), .second] [])) ?_ fun _ k_ => XT.lstore X24.here hx rfl (hb hby d15_58) rfl (l' := #[(sR w), (sI bl), (sJ bits), .second, (sI wd4), (sJ mk4), .second, (sI (4 : Int32)), (sJ (f4 wd4.toNatClampNeg)), .second, (sJ ((f4 wd4.toNatClampNeg) &&& (mk4 ^^^ (-1 : Int64)))), .second]) rfl k_
                      refine Go.k 61 [(.ref w)] ?_ fun _ k_ => XS.aloadN X24.here hx rfl (hb hby d15_60) rfl rfl k_
                      obtain ⟨T25, X25, e25, st25⟩ := getF X24 hx hZ hown (host := "") (Or.inl (wq hw 13 rfl)) Via.refl e24 ((((WF.other W6 (Or.inl ne_w_x0)).other W11 (Or.inl ne_w_x1)).other W16 (Or.inl ne_w_x2)).other W21 (Or.inl ne_w_x3)) (g := (mkF m 61 #[(sR w), (sI bl), (sJ bits), .second, (sI wd4), (sJ mk4), .second, (sI (4 : Int32)), (sJ (f4 wd4.toNatClampNeg)), .second, (sJ ((f4 wd4.toNatClampNeg) &&& (mk4 ^^^ (-1 : Int64)))), .second] [(.ref w)])) rfl rfl (hb hby d15_61)
                      refine Go.t T25 64 [(.ref lv)] ?_ st25
                      refine Go.k 66 [(.int (4 : Int32)), (.ref lv)] ?_ fun _ k_ => XS.iload X25.here hx rfl (hb hby d15_64) rfl k_
                      refine Go.t T25 67 [(.ref x4)] ?_ (own_aaload X25 hx hZ e25 ((((WA.other W6 ne_lv_x0).other W11 ne_lv_x1).other W16 ne_lv_x2).other W21 ne_lv_x3) rfl (by decide) (by rw [show (4 : Int32).toNatClampNeg = 4 from by decide]; rfl) (g := (mkF m 66 #[(sR w), (sI bl), (sJ bits), .second, (sI wd4), (sJ mk4), .second, (sI (4 : Int32)), (sJ (f4 wd4.toNatClampNeg)), .second, (sJ ((f4 wd4.toNatClampNeg) &&& (mk4 ^^^ (-1 : Int64)))), .second] [(.int (4 : Int32)), (.ref lv)])) rfl rfl (hb hby d15_66))
                      refine Go.k 69 [(.int wd4), (.ref x4)] ?_ fun _ k_ => XS.iload X25.here hx rfl (hb hby d15_67) rfl k_
                      refine Go.k 71 [(.long ((f4 wd4.toNatClampNeg) &&& (mk4 ^^^ (-1 : Int64)))), (.int wd4), (.ref x4)] ?_ fun _ k_ => XT.lload X25.here hx rfl (hb hby d15_69) rfl k_
                      obtain ⟨T26, h26, X26, e26, W26, V26, st26⟩ := own_laS X25 hx hZ e25 ((((B4.other W6 (fun q_ => ne_x0_x4 q_.symm)).other W11 (fun q_ => ne_x1_x4 q_.symm)).other W16 (fun q_ => ne_x2_x4 q_.symm)).other W21 (fun q_ => ne_x3_x4 q_.symm)) ⟨own_i_nlt rfl (by decide : (0 : Int32).toInt = 0) (by omega), own_i_lt rfl rfl (by omega)⟩ (g := (mkF m 71 #[(sR w), (sI bl), (sJ bits), .second, (sI wd4), (sJ mk4), .second, (sI (4 : Int32)), (sJ (f4 wd4.toNatClampNeg)), .second, (sJ ((f4 wd4.toNatClampNeg) &&& (mk4 ^^^ (-1 : Int64)))), .second] [(.long ((f4 wd4.toNatClampNeg) &&& (mk4 ^^^ (-1 : Int64)))), (.int wd4), (.ref x4)])) rfl rfl (hb hby d15_71)
                      have N26 := Fr.snoc X26 N21 g4
                      refine Go.t T26 72 [] ?_ st26
                      refine Go.k 74 [(.long ((f4 wd4.toNatClampNeg) &&& (mk4 ^^^ (-1 : Int64))))] ?_ fun _ k_ => XT.lload X26.here hx rfl (hb hby d15_72) rfl k_
                      refine Go.k 75 [(.long (0 : Int64)), (.long ((f4 wd4.toNatClampNeg) &&& (mk4 ^^^ (-1 : Int64))))] ?_ fun _ k_ => XT.lconstV X26.here hx rfl (0 : Int64) (hb hby d15_74) (by decide) k_
                      refine Go.k 76 [(.int (lcmpW ((f4 wd4.toNatClampNeg) &&& (mk4 ^^^ (-1 : Int64))) (0 : Int64)))] ?_ fun _ k_ => XT.lcmp X26.here hx rfl (hb hby d15_75) rfl k_
                      by_cases hc27 : ((f4 wd4.toNatClampNeg) &&& (mk4 ^^^ (-1 : Int64))) = (0 : Int64)
                      · refine Go.k 79 [] ?_ fun _ k_ => XS.ifNo X26.here hx rfl (hb hby d15_76) rfl ((if0 _ _).trans (teq ((lw_eq _ _).mpr hc27)).2) k_
                        refine Go.k 81 [(.long (f4 wd4.toNatClampNeg))] ?_ fun _ k_ => XT.lload X26.here hx rfl (hb hby d15_79) rfl k_
                        refine Go.k 82 [(.long (0 : Int64)), (.long (f4 wd4.toNatClampNeg))] ?_ fun _ k_ => XT.lconstV X26.here hx rfl (0 : Int64) (hb hby d15_81) (by decide) k_
                        refine Go.k 83 [(.int (lcmpW (f4 wd4.toNatClampNeg) (0 : Int64)))] ?_ fun _ k_ => XT.lcmp X26.here hx rfl (hb hby d15_82) rfl k_
                        by_cases hc28 : (f4 wd4.toNatClampNeg) = (0 : Int64)
                        · refine Go.k 93 [] ?_ fun _ k_ => XS.ifYes X26.here hx rfl (pc0 := 83) (pc' := 93) rfl (hb hby d15_83) rfl ((if0 _ _).trans (teq ((lw_eq _ _).mpr hc28)).1) (by decide) (by decide) k_
                          refine Go.k 94 [(.long (0 : Int64))] ?_ fun _ k_ => XT.lconstV X26.here hx rfl (0 : Int64) (hb hby d15_93) (by decide) k_
                          refine Go.s (g' := (mkF m 96 #[(sR w), (sI bl), (sJ bits), .second, (sI wd4), (sJ (0 : Int64)), .second, (sI (4 : Int32)), (sJ (f4 wd4.toNatClampNeg)), .second, (sJ ((f4 wd4.toNatClampNeg) &&& (mk4 ^^^ (-1 : Int64)))), .second] [])) ?_ fun _ k_ => XT.lstore X26.here hx rfl (hb hby d15_94) rfl (l' := #[(sR w), (sI bl), (sJ bits), .second, (sI wd4), (sJ (0 : Int64)), .second, (sI (4 : Int32)), (sJ (f4 wd4.toNatClampNeg)), .second, (sJ ((f4 wd4.toNatClampNeg) &&& (mk4 ^^^ (-1 : Int64)))), .second]) rfl k_
                          refine Go.k 98 [(.int wd4)] ?_ fun _ k_ => XS.iload X26.here hx rfl (hb hby d15_96) rfl k_
                          refine Go.k 100 [(.int (6 : Int32)), (.int wd4)] ?_ fun _ k_ => XT.bipushV X26.here hx rfl (6 : Int32) (hb hby d15_98) (by decide) k_
                          refine Go.k 101 [(.int (XT.ushr wd4 (6 : Int32)))] ?_ fun _ k_ => XT.iushr X26.here hx rfl (hb hby d15_100) rfl k_
                          obtain ⟨wd5, ewd5⟩ : ∃ q_ : Int32, q_ = XT.ushr wd4 6 := ⟨_, rfl⟩
                          rw [← ewd5]
                          have hwd5 : wd5.toInt = wd4.toInt / 64 := by rw [ewd5]; exact own_ushr6 _ (by omega)
                          have nwd5 : wd5.toNatClampNeg = wd4.toNatClampNeg / 64 := by simp only [Int32.toNatClampNeg]; omega
                          refine Go.s (g' := (mkF m 103 #[(sR w), (sI bl), (sJ bits), .second, (sI wd5), (sJ (0 : Int64)), .second, (sI (4 : Int32)), (sJ (f4 wd4.toNatClampNeg)), .second, (sJ ((f4 wd4.toNatClampNeg) &&& (mk4 ^^^ (-1 : Int64)))), .second] [])) ?_ fun _ k_ => XS.istore X26.here hx rfl (hb hby d15_101) rfl (l' := #[(sR w), (sI bl), (sJ bits), .second, (sI wd5), (sJ (0 : Int64)), .second, (sI (4 : Int32)), (sJ (f4 wd4.toNatClampNeg)), .second, (sJ ((f4 wd4.toNatClampNeg) &&& (mk4 ^^^ (-1 : Int64)))), .second]) rfl k_
                          refine Go.s (g' := (mkF m 106 #[(sR w), (sI bl), (sJ bits), .second, (sI wd5), (sJ (0 : Int64)), .second, (sI (5 : Int32)), (sJ (f4 wd4.toNatClampNeg)), .second, (sJ ((f4 wd4.toNatClampNeg) &&& (mk4 ^^^ (-1 : Int64)))), .second] [])) ?_ fun _ k_ => XT.iincV X26.here hx rfl (1 : Int32) (hb hby d15_103) (by decide) rfl (l' := #[(sR w), (sI bl), (sJ bits), .second, (sI wd5), (sJ (0 : Int64)), .second, (sI (5 : Int32)), (sJ (f4 wd4.toNatClampNeg)), .second, (sJ ((f4 wd4.toNatClampNeg) &&& (mk4 ^^^ (-1 : Int64)))), .second]) rfl k_
                          refine Go.k 24 [] ?_ fun _ k_ => XS.goto X26.here hx rfl (pc0 := 106) (pc' := 24) rfl (hb hby d15_106) (by decide) (by decide) k_
                          refine Go.k 26 [(.int (5 : Int32))] ?_ fun _ k_ => XS.iload X26.here hx rfl (hb hby d15_24) rfl k_
                          refine Go.k 27 [(.int (5 : Int32)), (.int (5 : Int32))] ?_ fun _ k_ => XT.iconstV X26.here hx rfl (5 : Int32) (hb hby d15_26) (by decide) k_
                          refine Go.k 109 [] ?_ fun _ k_ => XS.icmpYes X26.here hx rfl (pc0 := 27) (pc' := 109) rfl (hb hby d15_27) rfl (by decide) (by decide) (by decide) k_
                          exact Go.retU X26 hx hret hlk (by decide) (by decide) (hb hby d15_109) (by rw [e26]; exact ⟨rfl, N26, (Nat.le_trans (Nat.le_trans (Nat.le_trans (Nat.le_trans (Nat.le_trans (Nat.le_refl _) (Nat.le_of_eq W6.size.symm)) (Nat.le_of_eq W11.size.symm)) (Nat.le_of_eq W16.size.symm)) (Nat.le_of_eq W21.size.symm)) (Nat.le_of_eq W26.size.symm)), (own_set f1 wd1.toNatClampNeg ((f1 wd1.toNatClampNeg) &&& (mk1 ^^^ (-1 : Int64)))), (own_set f2 wd2.toNatClampNeg ((f2 wd2.toNatClampNeg) &&& (mk2 ^^^ (-1 : Int64)))), (own_set f3 wd3.toNatClampNeg ((f3 wd3.toNatClampNeg) &&& (mk3 ^^^ (-1 : Int64)))), (own_set f4 wd4.toNatClampNeg ((f4 wd4.toNatClampNeg) &&& (mk4 ^^^ (-1 : Int64)))), ⟨(((((WE.wr W6).wr W11).wr W16).wr W21).wr W26), (((((WF.other W6 (Or.inl ne_w_x0)).other W11 (Or.inl ne_w_x1)).other W16 (Or.inl ne_w_x2)).other W21 (Or.inl ne_w_x3)).other W26 (Or.inl ne_w_x4)), (((((WA.other W6 ne_lv_x0).other W11 ne_lv_x1).other W16 ne_lv_x2).other W21 ne_lv_x3).other W26 ne_lv_x4), WO, ((((V6.other W11 ne_x0_x1).other W16 ne_x0_x2).other W21 ne_x0_x3).other W26 ne_x0_x4), (((V11.other W16 ne_x1_x2).other W21 ne_x1_x3).other W26 ne_x1_x4), ((V16.other W21 ne_x2_x3).other W26 ne_x2_x4), (V21.other W26 ne_x3_x4), V26, gl, g0, g1, g2, g3, g4, ne_w_lv, ne_w_x0, ne_w_x1, ne_w_x2, ne_w_x3, ne_w_x4, ne_lv_x0, ne_lv_x1, ne_lv_x2, ne_lv_x3, ne_lv_x4, ne_x0_x1, ne_x0_x2, ne_x0_x3, ne_x0_x4, ne_x1_x2, ne_x1_x3, ne_x1_x4, ne_x2_x3, ne_x2_x4, ne_x3_x4⟩, ⟨(by rw [emk1, nwd1]; exact own_P_D hp0 (by omega) rfl hc7), (by rw [emk2, nwd2]; exact own_P_D hp1 (by omega) rfl hc12), (by rw [emk3, nwd3]; exact own_P_D hp2 (by omega) rfl hc17), (by rw [emk4, nwd4]; exact own_P_D hp3 (by omega) rfl hc22)⟩⟩)
                        · refine Go.k 86 [] ?_ fun _ k_ => XS.ifNo X26.here hx rfl (hb hby d15_83) rfl ((if0 _ _).trans (feq (fun q_ => hc28 ((lw_eq _ _).mp q_))).1) k_
                          refine Go.k 87 [(.long (1 : Int64))] ?_ fun _ k_ => XT.lconstV X26.here hx rfl (1 : Int64) (hb hby d15_86) (by decide) k_
                          refine Go.k 89 [(.int wd4), (.long (1 : Int64))] ?_ fun _ k_ => XS.iload X26.here hx rfl (hb hby d15_87) rfl k_
                          refine Go.k 90 [(.long ((1 : Int64) <<< (wd4.toInt64 &&& 63)))] ?_ fun _ k_ => XT.lshl X26.here hx rfl (hb hby d15_89) rfl k_
                          refine Go.k 94 [(.long ((1 : Int64) <<< (wd4.toInt64 &&& 63)))] ?_ fun _ k_ => XS.goto X26.here hx rfl (pc0 := 90) (pc' := 94) rfl (hb hby d15_90) (by decide) (by decide) k_
                          obtain ⟨mk5, emk5⟩ : ∃ q_ : Int64, q_ = ((1 : Int64) <<< (wd4.toInt64 &&& 63)) := ⟨_, rfl⟩
                          rw [← emk5]
                          have hmk5 : ¬ mk5 = 0 := by rw [emk5]; exact own_shl1 _
                          refine Go.s (g' := (mkF m 96 #[(sR w), (sI bl), (sJ bits), .second, (sI wd4), (sJ mk5), .second, (sI (4 : Int32)), (sJ (f4 wd4.toNatClampNeg)), .second, (sJ ((f4 wd4.toNatClampNeg) &&& (mk4 ^^^ (-1 : Int64)))), .second] [])) ?_ fun _ k_ => XT.lstore X26.here hx rfl (hb hby d15_94) rfl (l' := #[(sR w), (sI bl), (sJ bits), .second, (sI wd4), (sJ mk5), .second, (sI (4 : Int32)), (sJ (f4 wd4.toNatClampNeg)), .second, (sJ ((f4 wd4.toNatClampNeg) &&& (mk4 ^^^ (-1 : Int64)))), .second]) rfl k_
                          refine Go.k 98 [(.int wd4)] ?_ fun _ k_ => XS.iload X26.here hx rfl (hb hby d15_96) rfl k_
                          refine Go.k 100 [(.int (6 : Int32)), (.int wd4)] ?_ fun _ k_ => XT.bipushV X26.here hx rfl (6 : Int32) (hb hby d15_98) (by decide) k_
                          refine Go.k 101 [(.int (XT.ushr wd4 (6 : Int32)))] ?_ fun _ k_ => XT.iushr X26.here hx rfl (hb hby d15_100) rfl k_
                          obtain ⟨wd5, ewd5⟩ : ∃ q_ : Int32, q_ = XT.ushr wd4 6 := ⟨_, rfl⟩
                          rw [← ewd5]
                          have hwd5 : wd5.toInt = wd4.toInt / 64 := by rw [ewd5]; exact own_ushr6 _ (by omega)
                          have nwd5 : wd5.toNatClampNeg = wd4.toNatClampNeg / 64 := by simp only [Int32.toNatClampNeg]; omega
                          refine Go.s (g' := (mkF m 103 #[(sR w), (sI bl), (sJ bits), .second, (sI wd5), (sJ mk5), .second, (sI (4 : Int32)), (sJ (f4 wd4.toNatClampNeg)), .second, (sJ ((f4 wd4.toNatClampNeg) &&& (mk4 ^^^ (-1 : Int64)))), .second] [])) ?_ fun _ k_ => XS.istore X26.here hx rfl (hb hby d15_101) rfl (l' := #[(sR w), (sI bl), (sJ bits), .second, (sI wd5), (sJ mk5), .second, (sI (4 : Int32)), (sJ (f4 wd4.toNatClampNeg)), .second, (sJ ((f4 wd4.toNatClampNeg) &&& (mk4 ^^^ (-1 : Int64)))), .second]) rfl k_
                          refine Go.s (g' := (mkF m 106 #[(sR w), (sI bl), (sJ bits), .second, (sI wd5), (sJ mk5), .second, (sI (5 : Int32)), (sJ (f4 wd4.toNatClampNeg)), .second, (sJ ((f4 wd4.toNatClampNeg) &&& (mk4 ^^^ (-1 : Int64)))), .second] [])) ?_ fun _ k_ => XT.iincV X26.here hx rfl (1 : Int32) (hb hby d15_103) (by decide) rfl (l' := #[(sR w), (sI bl), (sJ bits), .second, (sI wd5), (sJ mk5), .second, (sI (5 : Int32)), (sJ (f4 wd4.toNatClampNeg)), .second, (sJ ((f4 wd4.toNatClampNeg) &&& (mk4 ^^^ (-1 : Int64)))), .second]) rfl k_
                          refine Go.k 24 [] ?_ fun _ k_ => XS.goto X26.here hx rfl (pc0 := 106) (pc' := 24) rfl (hb hby d15_106) (by decide) (by decide) k_
                          refine Go.k 26 [(.int (5 : Int32))] ?_ fun _ k_ => XS.iload X26.here hx rfl (hb hby d15_24) rfl k_
                          refine Go.k 27 [(.int (5 : Int32)), (.int (5 : Int32))] ?_ fun _ k_ => XT.iconstV X26.here hx rfl (5 : Int32) (hb hby d15_26) (by decide) k_
                          refine Go.k 109 [] ?_ fun _ k_ => XS.icmpYes X26.here hx rfl (pc0 := 27) (pc' := 109) rfl (hb hby d15_27) rfl (by decide) (by decide) (by decide) k_
                          exact Go.retU X26 hx hret hlk (by decide) (by decide) (hb hby d15_109) (by rw [e26]; exact ⟨rfl, N26, (Nat.le_trans (Nat.le_trans (Nat.le_trans (Nat.le_trans (Nat.le_trans (Nat.le_refl _) (Nat.le_of_eq W6.size.symm)) (Nat.le_of_eq W11.size.symm)) (Nat.le_of_eq W16.size.symm)) (Nat.le_of_eq W21.size.symm)) (Nat.le_of_eq W26.size.symm)), (own_set f1 wd1.toNatClampNeg ((f1 wd1.toNatClampNeg) &&& (mk1 ^^^ (-1 : Int64)))), (own_set f2 wd2.toNatClampNeg ((f2 wd2.toNatClampNeg) &&& (mk2 ^^^ (-1 : Int64)))), (own_set f3 wd3.toNatClampNeg ((f3 wd3.toNatClampNeg) &&& (mk3 ^^^ (-1 : Int64)))), (own_set f4 wd4.toNatClampNeg ((f4 wd4.toNatClampNeg) &&& (mk4 ^^^ (-1 : Int64)))), ⟨(((((WE.wr W6).wr W11).wr W16).wr W21).wr W26), (((((WF.other W6 (Or.inl ne_w_x0)).other W11 (Or.inl ne_w_x1)).other W16 (Or.inl ne_w_x2)).other W21 (Or.inl ne_w_x3)).other W26 (Or.inl ne_w_x4)), (((((WA.other W6 ne_lv_x0).other W11 ne_lv_x1).other W16 ne_lv_x2).other W21 ne_lv_x3).other W26 ne_lv_x4), WO, ((((V6.other W11 ne_x0_x1).other W16 ne_x0_x2).other W21 ne_x0_x3).other W26 ne_x0_x4), (((V11.other W16 ne_x1_x2).other W21 ne_x1_x3).other W26 ne_x1_x4), ((V16.other W21 ne_x2_x3).other W26 ne_x2_x4), (V21.other W26 ne_x3_x4), V26, gl, g0, g1, g2, g3, g4, ne_w_lv, ne_w_x0, ne_w_x1, ne_w_x2, ne_w_x3, ne_w_x4, ne_lv_x0, ne_lv_x1, ne_lv_x2, ne_lv_x3, ne_lv_x4, ne_x0_x1, ne_x0_x2, ne_x0_x3, ne_x0_x4, ne_x1_x2, ne_x1_x3, ne_x1_x4, ne_x2_x3, ne_x2_x4, ne_x3_x4⟩, ⟨(by rw [emk1, nwd1]; exact own_P_D hp0 (by omega) rfl hc7), (by rw [emk2, nwd2]; exact own_P_D hp1 (by omega) rfl hc12), (by rw [emk3, nwd3]; exact own_P_D hp2 (by omega) rfl hc17), (by rw [emk4, nwd4]; exact own_P_D hp3 (by omega) rfl hc22)⟩⟩)
                      · refine Go.k 93 [] ?_ fun _ k_ => XS.ifYes X26.here hx rfl (pc0 := 76) (pc' := 93) rfl (hb hby d15_76) rfl ((if0 _ _).trans (feq (fun q_ => hc27 ((lw_eq _ _).mp q_))).2) (by decide) (by decide) k_
                        refine Go.k 94 [(.long (0 : Int64))] ?_ fun _ k_ => XT.lconstV X26.here hx rfl (0 : Int64) (hb hby d15_93) (by decide) k_
                        refine Go.s (g' := (mkF m 96 #[(sR w), (sI bl), (sJ bits), .second, (sI wd4), (sJ (0 : Int64)), .second, (sI (4 : Int32)), (sJ (f4 wd4.toNatClampNeg)), .second, (sJ ((f4 wd4.toNatClampNeg) &&& (mk4 ^^^ (-1 : Int64)))), .second] [])) ?_ fun _ k_ => XT.lstore X26.here hx rfl (hb hby d15_94) rfl (l' := #[(sR w), (sI bl), (sJ bits), .second, (sI wd4), (sJ (0 : Int64)), .second, (sI (4 : Int32)), (sJ (f4 wd4.toNatClampNeg)), .second, (sJ ((f4 wd4.toNatClampNeg) &&& (mk4 ^^^ (-1 : Int64)))), .second]) rfl k_
                        refine Go.k 98 [(.int wd4)] ?_ fun _ k_ => XS.iload X26.here hx rfl (hb hby d15_96) rfl k_
                        refine Go.k 100 [(.int (6 : Int32)), (.int wd4)] ?_ fun _ k_ => XT.bipushV X26.here hx rfl (6 : Int32) (hb hby d15_98) (by decide) k_
                        refine Go.k 101 [(.int (XT.ushr wd4 (6 : Int32)))] ?_ fun _ k_ => XT.iushr X26.here hx rfl (hb hby d15_100) rfl k_
                        obtain ⟨wd5, ewd5⟩ : ∃ q_ : Int32, q_ = XT.ushr wd4 6 := ⟨_, rfl⟩
                        rw [← ewd5]
                        have hwd5 : wd5.toInt = wd4.toInt / 64 := by rw [ewd5]; exact own_ushr6 _ (by omega)
                        have nwd5 : wd5.toNatClampNeg = wd4.toNatClampNeg / 64 := by simp only [Int32.toNatClampNeg]; omega
                        refine Go.s (g' := (mkF m 103 #[(sR w), (sI bl), (sJ bits), .second, (sI wd5), (sJ (0 : Int64)), .second, (sI (4 : Int32)), (sJ (f4 wd4.toNatClampNeg)), .second, (sJ ((f4 wd4.toNatClampNeg) &&& (mk4 ^^^ (-1 : Int64)))), .second] [])) ?_ fun _ k_ => XS.istore X26.here hx rfl (hb hby d15_101) rfl (l' := #[(sR w), (sI bl), (sJ bits), .second, (sI wd5), (sJ (0 : Int64)), .second, (sI (4 : Int32)), (sJ (f4 wd4.toNatClampNeg)), .second, (sJ ((f4 wd4.toNatClampNeg) &&& (mk4 ^^^ (-1 : Int64)))), .second]) rfl k_
                        refine Go.s (g' := (mkF m 106 #[(sR w), (sI bl), (sJ bits), .second, (sI wd5), (sJ (0 : Int64)), .second, (sI (5 : Int32)), (sJ (f4 wd4.toNatClampNeg)), .second, (sJ ((f4 wd4.toNatClampNeg) &&& (mk4 ^^^ (-1 : Int64)))), .second] [])) ?_ fun _ k_ => XT.iincV X26.here hx rfl (1 : Int32) (hb hby d15_103) (by decide) rfl (l' := #[(sR w), (sI bl), (sJ bits), .second, (sI wd5), (sJ (0 : Int64)), .second, (sI (5 : Int32)), (sJ (f4 wd4.toNatClampNeg)), .second, (sJ ((f4 wd4.toNatClampNeg) &&& (mk4 ^^^ (-1 : Int64)))), .second]) rfl k_
                        refine Go.k 24 [] ?_ fun _ k_ => XS.goto X26.here hx rfl (pc0 := 106) (pc' := 24) rfl (hb hby d15_106) (by decide) (by decide) k_
                        refine Go.k 26 [(.int (5 : Int32))] ?_ fun _ k_ => XS.iload X26.here hx rfl (hb hby d15_24) rfl k_
                        refine Go.k 27 [(.int (5 : Int32)), (.int (5 : Int32))] ?_ fun _ k_ => XT.iconstV X26.here hx rfl (5 : Int32) (hb hby d15_26) (by decide) k_
                        refine Go.k 109 [] ?_ fun _ k_ => XS.icmpYes X26.here hx rfl (pc0 := 27) (pc' := 109) rfl (hb hby d15_27) rfl (by decide) (by decide) (by decide) k_
                        exact Go.retU X26 hx hret hlk (by decide) (by decide) (hb hby d15_109) (by rw [e26]; exact ⟨rfl, N26, (Nat.le_trans (Nat.le_trans (Nat.le_trans (Nat.le_trans (Nat.le_trans (Nat.le_refl _) (Nat.le_of_eq W6.size.symm)) (Nat.le_of_eq W11.size.symm)) (Nat.le_of_eq W16.size.symm)) (Nat.le_of_eq W21.size.symm)) (Nat.le_of_eq W26.size.symm)), (own_set f1 wd1.toNatClampNeg ((f1 wd1.toNatClampNeg) &&& (mk1 ^^^ (-1 : Int64)))), (own_set f2 wd2.toNatClampNeg ((f2 wd2.toNatClampNeg) &&& (mk2 ^^^ (-1 : Int64)))), (own_set f3 wd3.toNatClampNeg ((f3 wd3.toNatClampNeg) &&& (mk3 ^^^ (-1 : Int64)))), (own_set f4 wd4.toNatClampNeg ((f4 wd4.toNatClampNeg) &&& (mk4 ^^^ (-1 : Int64)))), ⟨(((((WE.wr W6).wr W11).wr W16).wr W21).wr W26), (((((WF.other W6 (Or.inl ne_w_x0)).other W11 (Or.inl ne_w_x1)).other W16 (Or.inl ne_w_x2)).other W21 (Or.inl ne_w_x3)).other W26 (Or.inl ne_w_x4)), (((((WA.other W6 ne_lv_x0).other W11 ne_lv_x1).other W16 ne_lv_x2).other W21 ne_lv_x3).other W26 ne_lv_x4), WO, ((((V6.other W11 ne_x0_x1).other W16 ne_x0_x2).other W21 ne_x0_x3).other W26 ne_x0_x4), (((V11.other W16 ne_x1_x2).other W21 ne_x1_x3).other W26 ne_x1_x4), ((V16.other W21 ne_x2_x3).other W26 ne_x2_x4), (V21.other W26 ne_x3_x4), V26, gl, g0, g1, g2, g3, g4, ne_w_lv, ne_w_x0, ne_w_x1, ne_w_x2, ne_w_x3, ne_w_x4, ne_lv_x0, ne_lv_x1, ne_lv_x2, ne_lv_x3, ne_lv_x4, ne_x0_x1, ne_x0_x2, ne_x0_x3, ne_x0_x4, ne_x1_x2, ne_x1_x3, ne_x1_x4, ne_x2_x3, ne_x2_x4, ne_x3_x4⟩, ⟨(by rw [emk1, nwd1]; exact own_P_D hp0 (by omega) rfl hc7), (by rw [emk2, nwd2]; exact own_P_D hp1 (by omega) rfl hc12), (by rw [emk3, nwd3]; exact own_P_D hp2 (by omega) rfl hc17), (by rw [emk4, nwd4]; exact own_P_D hp3 (by omega) rfl hc22)⟩⟩)
                  · refine Go.k 93 [] ?_ fun _ k_ => XS.ifYes X21.here hx rfl (pc0 := 76) (pc' := 93) rfl (hb hby d15_76) rfl ((if0 _ _).trans (feq (fun q_ => hc22 ((lw_eq _ _).mp q_))).2) (by decide) (by decide) k_
                    refine Go.k 94 [(.long (0 : Int64))] ?_ fun _ k_ => XT.lconstV X21.here hx rfl (0 : Int64) (hb hby d15_93) (by decide) k_
                    refine Go.s (g' := (mkF m 96 #[(sR w), (sI bl), (sJ bits), .second, (sI wd3), (sJ (0 : Int64)), .second, (sI (3 : Int32)), (sJ (f3 wd3.toNatClampNeg)), .second, (sJ ((f3 wd3.toNatClampNeg) &&& (mk3 ^^^ (-1 : Int64)))), .second] [])) ?_ fun _ k_ => XT.lstore X21.here hx rfl (hb hby d15_94) rfl (l' := #[(sR w), (sI bl), (sJ bits), .second, (sI wd3), (sJ (0 : Int64)), .second, (sI (3 : Int32)), (sJ (f3 wd3.toNatClampNeg)), .second, (sJ ((f3 wd3.toNatClampNeg) &&& (mk3 ^^^ (-1 : Int64)))), .second]) rfl k_
                    refine Go.k 98 [(.int wd3)] ?_ fun _ k_ => XS.iload X21.here hx rfl (hb hby d15_96) rfl k_
                    refine Go.k 100 [(.int (6 : Int32)), (.int wd3)] ?_ fun _ k_ => XT.bipushV X21.here hx rfl (6 : Int32) (hb hby d15_98) (by decide) k_
                    refine Go.k 101 [(.int (XT.ushr wd3 (6 : Int32)))] ?_ fun _ k_ => XT.iushr X21.here hx rfl (hb hby d15_100) rfl k_
                    obtain ⟨wd4, ewd4⟩ : ∃ q_ : Int32, q_ = XT.ushr wd3 6 := ⟨_, rfl⟩
                    rw [← ewd4]
                    have hwd4 : wd4.toInt = wd3.toInt / 64 := by rw [ewd4]; exact own_ushr6 _ (by omega)
                    have nwd4 : wd4.toNatClampNeg = wd3.toNatClampNeg / 64 := by simp only [Int32.toNatClampNeg]; omega
                    refine Go.s (g' := (mkF m 103 #[(sR w), (sI bl), (sJ bits), .second, (sI wd4), (sJ (0 : Int64)), .second, (sI (3 : Int32)), (sJ (f3 wd3.toNatClampNeg)), .second, (sJ ((f3 wd3.toNatClampNeg) &&& (mk3 ^^^ (-1 : Int64)))), .second] [])) ?_ fun _ k_ => XS.istore X21.here hx rfl (hb hby d15_101) rfl (l' := #[(sR w), (sI bl), (sJ bits), .second, (sI wd4), (sJ (0 : Int64)), .second, (sI (3 : Int32)), (sJ (f3 wd3.toNatClampNeg)), .second, (sJ ((f3 wd3.toNatClampNeg) &&& (mk3 ^^^ (-1 : Int64)))), .second]) rfl k_
                    refine Go.s (g' := (mkF m 106 #[(sR w), (sI bl), (sJ bits), .second, (sI wd4), (sJ (0 : Int64)), .second, (sI (4 : Int32)), (sJ (f3 wd3.toNatClampNeg)), .second, (sJ ((f3 wd3.toNatClampNeg) &&& (mk3 ^^^ (-1 : Int64)))), .second] [])) ?_ fun _ k_ => XT.iincV X21.here hx rfl (1 : Int32) (hb hby d15_103) (by decide) rfl (l' := #[(sR w), (sI bl), (sJ bits), .second, (sI wd4), (sJ (0 : Int64)), .second, (sI (4 : Int32)), (sJ (f3 wd3.toNatClampNeg)), .second, (sJ ((f3 wd3.toNatClampNeg) &&& (mk3 ^^^ (-1 : Int64)))), .second]) rfl k_
                    refine Go.k 24 [] ?_ fun _ k_ => XS.goto X21.here hx rfl (pc0 := 106) (pc' := 24) rfl (hb hby d15_106) (by decide) (by decide) k_
                    refine Go.k 26 [(.int (4 : Int32))] ?_ fun _ k_ => XS.iload X21.here hx rfl (hb hby d15_24) rfl k_
                    refine Go.k 27 [(.int (5 : Int32)), (.int (4 : Int32))] ?_ fun _ k_ => XT.iconstV X21.here hx rfl (5 : Int32) (hb hby d15_26) (by decide) k_
                    refine Go.k 30 [] ?_ fun _ k_ => XS.icmpNo X21.here hx rfl (hb hby d15_27) rfl (by decide) k_
                    refine Go.k 32 [(.long (0 : Int64))] ?_ fun _ k_ => XT.lload X21.here hx rfl (hb hby d15_30) rfl k_
                    refine Go.k 33 [(.long (0 : Int64)), (.long (0 : Int64))] ?_ fun _ k_ => XT.lconstV X21.here hx rfl (0 : Int64) (hb hby d15_32) (by decide) k_
                    refine Go.k 34 [(.int (lcmpW (0 : Int64) (0 : Int64)))] ?_ fun _ k_ => XT.lcmp X21.here hx rfl (hb hby d15_33) rfl k_
                    refine Go.k 109 [] ?_ fun _ k_ => XS.ifYes X21.here hx rfl (pc0 := 34) (pc' := 109) rfl (hb hby d15_34) rfl ((if0 _ _).trans (teq ((lw_eq _ _).mpr (rfl : (0 : Int64) = (0 : Int64)))).1) (by decide) (by decide) k_
                    exact Go.retU X21 hx hret hlk (by decide) (by decide) (hb hby d15_109) (by rw [e21]; exact ⟨rfl, N21, (Nat.le_trans (Nat.le_trans (Nat.le_trans (Nat.le_trans (Nat.le_refl _) (Nat.le_of_eq W6.size.symm)) (Nat.le_of_eq W11.size.symm)) (Nat.le_of_eq W16.size.symm)) (Nat.le_of_eq W21.size.symm)), (own_set f1 wd1.toNatClampNeg ((f1 wd1.toNatClampNeg) &&& (mk1 ^^^ (-1 : Int64)))), (own_set f2 wd2.toNatClampNeg ((f2 wd2.toNatClampNeg) &&& (mk2 ^^^ (-1 : Int64)))), (own_set f3 wd3.toNatClampNeg ((f3 wd3.toNatClampNeg) &&& (mk3 ^^^ (-1 : Int64)))), f4, ⟨((((WE.wr W6).wr W11).wr W16).wr W21), ((((WF.other W6 (Or.inl ne_w_x0)).other W11 (Or.inl ne_w_x1)).other W16 (Or.inl ne_w_x2)).other W21 (Or.inl ne_w_x3)), ((((WA.other W6 ne_lv_x0).other W11 ne_lv_x1).other W16 ne_lv_x2).other W21 ne_lv_x3), WO, (((V6.other W11 ne_x0_x1).other W16 ne_x0_x2).other W21 ne_x0_x3), ((V11.other W16 ne_x1_x2).other W21 ne_x1_x3), (V16.other W21 ne_x2_x3), V21, ((((B4.other W6 (fun q_ => ne_x0_x4 q_.symm)).other W11 (fun q_ => ne_x1_x4 q_.symm)).other W16 (fun q_ => ne_x2_x4 q_.symm)).other W21 (fun q_ => ne_x3_x4 q_.symm)), gl, g0, g1, g2, g3, g4, ne_w_lv, ne_w_x0, ne_w_x1, ne_w_x2, ne_w_x3, ne_w_x4, ne_lv_x0, ne_lv_x1, ne_lv_x2, ne_lv_x3, ne_lv_x4, ne_x0_x1, ne_x0_x2, ne_x0_x3, ne_x0_x4, ne_x1_x2, ne_x1_x3, ne_x1_x4, ne_x2_x3, ne_x2_x4, ne_x3_x4⟩, ⟨(by rw [emk1, nwd1]; exact own_P_D hp0 (by omega) rfl hc7), (by rw [emk2, nwd2]; exact own_P_D hp1 (by omega) rfl hc12), (by rw [emk3, nwd3]; exact own_P_D hp2 (by omega) rfl hc17), own_P_A hp3 (own_and_ne hc22) hc22⟩⟩)
              · refine Go.k 93 [] ?_ fun _ k_ => XS.ifYes X16.here hx rfl (pc0 := 76) (pc' := 93) rfl (hb hby d15_76) rfl ((if0 _ _).trans (feq (fun q_ => hc17 ((lw_eq _ _).mp q_))).2) (by decide) (by decide) k_
                refine Go.k 94 [(.long (0 : Int64))] ?_ fun _ k_ => XT.lconstV X16.here hx rfl (0 : Int64) (hb hby d15_93) (by decide) k_
                refine Go.s (g' := (mkF m 96 #[(sR w), (sI bl), (sJ bits), .second, (sI wd2), (sJ (0 : Int64)), .second, (sI (2 : Int32)), (sJ (f2 wd2.toNatClampNeg)), .second, (sJ ((f2 wd2.toNatClampNeg) &&& (mk2 ^^^ (-1 : Int64)))), .second] [])) ?_ fun _ k_ => XT.lstore X16.here hx rfl (hb hby d15_94) rfl (l' := #[(sR w), (sI bl), (sJ bits), .second, (sI wd2), (sJ (0 : Int64)), .second, (sI (2 : Int32)), (sJ (f2 wd2.toNatClampNeg)), .second, (sJ ((f2 wd2.toNatClampNeg) &&& (mk2 ^^^ (-1 : Int64)))), .second]) rfl k_
                refine Go.k 98 [(.int wd2)] ?_ fun _ k_ => XS.iload X16.here hx rfl (hb hby d15_96) rfl k_
                refine Go.k 100 [(.int (6 : Int32)), (.int wd2)] ?_ fun _ k_ => XT.bipushV X16.here hx rfl (6 : Int32) (hb hby d15_98) (by decide) k_
                refine Go.k 101 [(.int (XT.ushr wd2 (6 : Int32)))] ?_ fun _ k_ => XT.iushr X16.here hx rfl (hb hby d15_100) rfl k_
                obtain ⟨wd3, ewd3⟩ : ∃ q_ : Int32, q_ = XT.ushr wd2 6 := ⟨_, rfl⟩
                rw [← ewd3]
                have hwd3 : wd3.toInt = wd2.toInt / 64 := by rw [ewd3]; exact own_ushr6 _ (by omega)
                have nwd3 : wd3.toNatClampNeg = wd2.toNatClampNeg / 64 := by simp only [Int32.toNatClampNeg]; omega
                refine Go.s (g' := (mkF m 103 #[(sR w), (sI bl), (sJ bits), .second, (sI wd3), (sJ (0 : Int64)), .second, (sI (2 : Int32)), (sJ (f2 wd2.toNatClampNeg)), .second, (sJ ((f2 wd2.toNatClampNeg) &&& (mk2 ^^^ (-1 : Int64)))), .second] [])) ?_ fun _ k_ => XS.istore X16.here hx rfl (hb hby d15_101) rfl (l' := #[(sR w), (sI bl), (sJ bits), .second, (sI wd3), (sJ (0 : Int64)), .second, (sI (2 : Int32)), (sJ (f2 wd2.toNatClampNeg)), .second, (sJ ((f2 wd2.toNatClampNeg) &&& (mk2 ^^^ (-1 : Int64)))), .second]) rfl k_
                refine Go.s (g' := (mkF m 106 #[(sR w), (sI bl), (sJ bits), .second, (sI wd3), (sJ (0 : Int64)), .second, (sI (3 : Int32)), (sJ (f2 wd2.toNatClampNeg)), .second, (sJ ((f2 wd2.toNatClampNeg) &&& (mk2 ^^^ (-1 : Int64)))), .second] [])) ?_ fun _ k_ => XT.iincV X16.here hx rfl (1 : Int32) (hb hby d15_103) (by decide) rfl (l' := #[(sR w), (sI bl), (sJ bits), .second, (sI wd3), (sJ (0 : Int64)), .second, (sI (3 : Int32)), (sJ (f2 wd2.toNatClampNeg)), .second, (sJ ((f2 wd2.toNatClampNeg) &&& (mk2 ^^^ (-1 : Int64)))), .second]) rfl k_
                refine Go.k 24 [] ?_ fun _ k_ => XS.goto X16.here hx rfl (pc0 := 106) (pc' := 24) rfl (hb hby d15_106) (by decide) (by decide) k_
                refine Go.k 26 [(.int (3 : Int32))] ?_ fun _ k_ => XS.iload X16.here hx rfl (hb hby d15_24) rfl k_
                refine Go.k 27 [(.int (5 : Int32)), (.int (3 : Int32))] ?_ fun _ k_ => XT.iconstV X16.here hx rfl (5 : Int32) (hb hby d15_26) (by decide) k_
                refine Go.k 30 [] ?_ fun _ k_ => XS.icmpNo X16.here hx rfl (hb hby d15_27) rfl (by decide) k_
                refine Go.k 32 [(.long (0 : Int64))] ?_ fun _ k_ => XT.lload X16.here hx rfl (hb hby d15_30) rfl k_
                refine Go.k 33 [(.long (0 : Int64)), (.long (0 : Int64))] ?_ fun _ k_ => XT.lconstV X16.here hx rfl (0 : Int64) (hb hby d15_32) (by decide) k_
                refine Go.k 34 [(.int (lcmpW (0 : Int64) (0 : Int64)))] ?_ fun _ k_ => XT.lcmp X16.here hx rfl (hb hby d15_33) rfl k_
                refine Go.k 109 [] ?_ fun _ k_ => XS.ifYes X16.here hx rfl (pc0 := 34) (pc' := 109) rfl (hb hby d15_34) rfl ((if0 _ _).trans (teq ((lw_eq _ _).mpr (rfl : (0 : Int64) = (0 : Int64)))).1) (by decide) (by decide) k_
                exact Go.retU X16 hx hret hlk (by decide) (by decide) (hb hby d15_109) (by rw [e16]; exact ⟨rfl, N16, (Nat.le_trans (Nat.le_trans (Nat.le_trans (Nat.le_refl _) (Nat.le_of_eq W6.size.symm)) (Nat.le_of_eq W11.size.symm)) (Nat.le_of_eq W16.size.symm)), (own_set f1 wd1.toNatClampNeg ((f1 wd1.toNatClampNeg) &&& (mk1 ^^^ (-1 : Int64)))), (own_set f2 wd2.toNatClampNeg ((f2 wd2.toNatClampNeg) &&& (mk2 ^^^ (-1 : Int64)))), f3, f4, ⟨(((WE.wr W6).wr W11).wr W16), (((WF.other W6 (Or.inl ne_w_x0)).other W11 (Or.inl ne_w_x1)).other W16 (Or.inl ne_w_x2)), (((WA.other W6 ne_lv_x0).other W11 ne_lv_x1).other W16 ne_lv_x2), WO, ((V6.other W11 ne_x0_x1).other W16 ne_x0_x2), (V11.other W16 ne_x1_x2), V16, (((B3.other W6 (fun q_ => ne_x0_x3 q_.symm)).other W11 (fun q_ => ne_x1_x3 q_.symm)).other W16 (fun q_ => ne_x2_x3 q_.symm)), (((B4.other W6 (fun q_ => ne_x0_x4 q_.symm)).other W11 (fun q_ => ne_x1_x4 q_.symm)).other W16 (fun q_ => ne_x2_x4 q_.symm)), gl, g0, g1, g2, g3, g4, ne_w_lv, ne_w_x0, ne_w_x1, ne_w_x2, ne_w_x3, ne_w_x4, ne_lv_x0, ne_lv_x1, ne_lv_x2, ne_lv_x3, ne_lv_x4, ne_x0_x1, ne_x0_x2, ne_x0_x3, ne_x0_x4, ne_x1_x2, ne_x1_x3, ne_x1_x4, ne_x2_x3, ne_x2_x4, ne_x3_x4⟩, ⟨(by rw [emk1, nwd1]; exact own_P_D hp0 (by omega) rfl hc7), (by rw [emk2, nwd2]; exact own_P_D hp1 (by omega) rfl hc12), own_P_A hp2 (own_and_ne hc17) hc17, hp3⟩⟩)
          · refine Go.k 93 [] ?_ fun _ k_ => XS.ifYes X11.here hx rfl (pc0 := 76) (pc' := 93) rfl (hb hby d15_76) rfl ((if0 _ _).trans (feq (fun q_ => hc12 ((lw_eq _ _).mp q_))).2) (by decide) (by decide) k_
            refine Go.k 94 [(.long (0 : Int64))] ?_ fun _ k_ => XT.lconstV X11.here hx rfl (0 : Int64) (hb hby d15_93) (by decide) k_
            refine Go.s (g' := (mkF m 96 #[(sR w), (sI bl), (sJ bits), .second, (sI wd1), (sJ (0 : Int64)), .second, (sI (1 : Int32)), (sJ (f1 wd1.toNatClampNeg)), .second, (sJ ((f1 wd1.toNatClampNeg) &&& (mk1 ^^^ (-1 : Int64)))), .second] [])) ?_ fun _ k_ => XT.lstore X11.here hx rfl (hb hby d15_94) rfl (l' := #[(sR w), (sI bl), (sJ bits), .second, (sI wd1), (sJ (0 : Int64)), .second, (sI (1 : Int32)), (sJ (f1 wd1.toNatClampNeg)), .second, (sJ ((f1 wd1.toNatClampNeg) &&& (mk1 ^^^ (-1 : Int64)))), .second]) rfl k_
            refine Go.k 98 [(.int wd1)] ?_ fun _ k_ => XS.iload X11.here hx rfl (hb hby d15_96) rfl k_
            refine Go.k 100 [(.int (6 : Int32)), (.int wd1)] ?_ fun _ k_ => XT.bipushV X11.here hx rfl (6 : Int32) (hb hby d15_98) (by decide) k_
            refine Go.k 101 [(.int (XT.ushr wd1 (6 : Int32)))] ?_ fun _ k_ => XT.iushr X11.here hx rfl (hb hby d15_100) rfl k_
            obtain ⟨wd2, ewd2⟩ : ∃ q_ : Int32, q_ = XT.ushr wd1 6 := ⟨_, rfl⟩
            rw [← ewd2]
            have hwd2 : wd2.toInt = wd1.toInt / 64 := by rw [ewd2]; exact own_ushr6 _ (by omega)
            have nwd2 : wd2.toNatClampNeg = wd1.toNatClampNeg / 64 := by simp only [Int32.toNatClampNeg]; omega
            refine Go.s (g' := (mkF m 103 #[(sR w), (sI bl), (sJ bits), .second, (sI wd2), (sJ (0 : Int64)), .second, (sI (1 : Int32)), (sJ (f1 wd1.toNatClampNeg)), .second, (sJ ((f1 wd1.toNatClampNeg) &&& (mk1 ^^^ (-1 : Int64)))), .second] [])) ?_ fun _ k_ => XS.istore X11.here hx rfl (hb hby d15_101) rfl (l' := #[(sR w), (sI bl), (sJ bits), .second, (sI wd2), (sJ (0 : Int64)), .second, (sI (1 : Int32)), (sJ (f1 wd1.toNatClampNeg)), .second, (sJ ((f1 wd1.toNatClampNeg) &&& (mk1 ^^^ (-1 : Int64)))), .second]) rfl k_
            refine Go.s (g' := (mkF m 106 #[(sR w), (sI bl), (sJ bits), .second, (sI wd2), (sJ (0 : Int64)), .second, (sI (2 : Int32)), (sJ (f1 wd1.toNatClampNeg)), .second, (sJ ((f1 wd1.toNatClampNeg) &&& (mk1 ^^^ (-1 : Int64)))), .second] [])) ?_ fun _ k_ => XT.iincV X11.here hx rfl (1 : Int32) (hb hby d15_103) (by decide) rfl (l' := #[(sR w), (sI bl), (sJ bits), .second, (sI wd2), (sJ (0 : Int64)), .second, (sI (2 : Int32)), (sJ (f1 wd1.toNatClampNeg)), .second, (sJ ((f1 wd1.toNatClampNeg) &&& (mk1 ^^^ (-1 : Int64)))), .second]) rfl k_
            refine Go.k 24 [] ?_ fun _ k_ => XS.goto X11.here hx rfl (pc0 := 106) (pc' := 24) rfl (hb hby d15_106) (by decide) (by decide) k_
            refine Go.k 26 [(.int (2 : Int32))] ?_ fun _ k_ => XS.iload X11.here hx rfl (hb hby d15_24) rfl k_
            refine Go.k 27 [(.int (5 : Int32)), (.int (2 : Int32))] ?_ fun _ k_ => XT.iconstV X11.here hx rfl (5 : Int32) (hb hby d15_26) (by decide) k_
            refine Go.k 30 [] ?_ fun _ k_ => XS.icmpNo X11.here hx rfl (hb hby d15_27) rfl (by decide) k_
            refine Go.k 32 [(.long (0 : Int64))] ?_ fun _ k_ => XT.lload X11.here hx rfl (hb hby d15_30) rfl k_
            refine Go.k 33 [(.long (0 : Int64)), (.long (0 : Int64))] ?_ fun _ k_ => XT.lconstV X11.here hx rfl (0 : Int64) (hb hby d15_32) (by decide) k_
            refine Go.k 34 [(.int (lcmpW (0 : Int64) (0 : Int64)))] ?_ fun _ k_ => XT.lcmp X11.here hx rfl (hb hby d15_33) rfl k_
            refine Go.k 109 [] ?_ fun _ k_ => XS.ifYes X11.here hx rfl (pc0 := 34) (pc' := 109) rfl (hb hby d15_34) rfl ((if0 _ _).trans (teq ((lw_eq _ _).mpr (rfl : (0 : Int64) = (0 : Int64)))).1) (by decide) (by decide) k_
            exact Go.retU X11 hx hret hlk (by decide) (by decide) (hb hby d15_109) (by rw [e11]; exact ⟨rfl, N11, (Nat.le_trans (Nat.le_trans (Nat.le_refl _) (Nat.le_of_eq W6.size.symm)) (Nat.le_of_eq W11.size.symm)), (own_set f1 wd1.toNatClampNeg ((f1 wd1.toNatClampNeg) &&& (mk1 ^^^ (-1 : Int64)))), f2, f3, f4, ⟨((WE.wr W6).wr W11), ((WF.other W6 (Or.inl ne_w_x0)).other W11 (Or.inl ne_w_x1)), ((WA.other W6 ne_lv_x0).other W11 ne_lv_x1), WO, (V6.other W11 ne_x0_x1), V11, ((B2.other W6 (fun q_ => ne_x0_x2 q_.symm)).other W11 (fun q_ => ne_x1_x2 q_.symm)), ((B3.other W6 (fun q_ => ne_x0_x3 q_.symm)).other W11 (fun q_ => ne_x1_x3 q_.symm)), ((B4.other W6 (fun q_ => ne_x0_x4 q_.symm)).other W11 (fun q_ => ne_x1_x4 q_.symm)), gl, g0, g1, g2, g3, g4, ne_w_lv, ne_w_x0, ne_w_x1, ne_w_x2, ne_w_x3, ne_w_x4, ne_lv_x0, ne_lv_x1, ne_lv_x2, ne_lv_x3, ne_lv_x4, ne_x0_x1, ne_x0_x2, ne_x0_x3, ne_x0_x4, ne_x1_x2, ne_x1_x3, ne_x1_x4, ne_x2_x3, ne_x2_x4, ne_x3_x4⟩, ⟨(by rw [emk1, nwd1]; exact own_P_D hp0 (by omega) rfl hc7), own_P_A hp1 (own_and_ne hc12) hc12, hp2, hp3⟩⟩)
      · refine Go.k 93 [] ?_ fun _ k_ => XS.ifYes X6.here hx rfl (pc0 := 76) (pc' := 93) rfl (hb hby d15_76) rfl ((if0 _ _).trans (feq (fun q_ => hc7 ((lw_eq _ _).mp q_))).2) (by decide) (by decide) k_
        refine Go.k 94 [(.long (0 : Int64))] ?_ fun _ k_ => XT.lconstV X6.here hx rfl (0 : Int64) (hb hby d15_93) (by decide) k_
        refine Go.s (g' := (mkF m 96 #[(sR w), (sI bl), (sJ bits), .second, (sI bl), (sJ (0 : Int64)), .second, (sI (0 : Int32)), (sJ (f0 bl.toNatClampNeg)), .second, (sJ ((f0 bl.toNatClampNeg) &&& (bits ^^^ (-1 : Int64)))), .second] [])) ?_ fun _ k_ => XT.lstore X6.here hx rfl (hb hby d15_94) rfl (l' := #[(sR w), (sI bl), (sJ bits), .second, (sI bl), (sJ (0 : Int64)), .second, (sI (0 : Int32)), (sJ (f0 bl.toNatClampNeg)), .second, (sJ ((f0 bl.toNatClampNeg) &&& (bits ^^^ (-1 : Int64)))), .second]) rfl k_
        refine Go.k 98 [(.int bl)] ?_ fun _ k_ => XS.iload X6.here hx rfl (hb hby d15_96) rfl k_
        refine Go.k 100 [(.int (6 : Int32)), (.int bl)] ?_ fun _ k_ => XT.bipushV X6.here hx rfl (6 : Int32) (hb hby d15_98) (by decide) k_
        refine Go.k 101 [(.int (XT.ushr bl (6 : Int32)))] ?_ fun _ k_ => XT.iushr X6.here hx rfl (hb hby d15_100) rfl k_
        obtain ⟨wd1, ewd1⟩ : ∃ q_ : Int32, q_ = XT.ushr bl 6 := ⟨_, rfl⟩
        rw [← ewd1]
        have hwd1 : wd1.toInt = bl.toInt / 64 := by rw [ewd1]; exact own_ushr6 _ (by omega)
        have nwd1 : wd1.toNatClampNeg = bl.toNatClampNeg / 64 := by simp only [Int32.toNatClampNeg]; omega
        refine Go.s (g' := (mkF m 103 #[(sR w), (sI bl), (sJ bits), .second, (sI wd1), (sJ (0 : Int64)), .second, (sI (0 : Int32)), (sJ (f0 bl.toNatClampNeg)), .second, (sJ ((f0 bl.toNatClampNeg) &&& (bits ^^^ (-1 : Int64)))), .second] [])) ?_ fun _ k_ => XS.istore X6.here hx rfl (hb hby d15_101) rfl (l' := #[(sR w), (sI bl), (sJ bits), .second, (sI wd1), (sJ (0 : Int64)), .second, (sI (0 : Int32)), (sJ (f0 bl.toNatClampNeg)), .second, (sJ ((f0 bl.toNatClampNeg) &&& (bits ^^^ (-1 : Int64)))), .second]) rfl k_
        refine Go.s (g' := (mkF m 106 #[(sR w), (sI bl), (sJ bits), .second, (sI wd1), (sJ (0 : Int64)), .second, (sI (1 : Int32)), (sJ (f0 bl.toNatClampNeg)), .second, (sJ ((f0 bl.toNatClampNeg) &&& (bits ^^^ (-1 : Int64)))), .second] [])) ?_ fun _ k_ => XT.iincV X6.here hx rfl (1 : Int32) (hb hby d15_103) (by decide) rfl (l' := #[(sR w), (sI bl), (sJ bits), .second, (sI wd1), (sJ (0 : Int64)), .second, (sI (1 : Int32)), (sJ (f0 bl.toNatClampNeg)), .second, (sJ ((f0 bl.toNatClampNeg) &&& (bits ^^^ (-1 : Int64)))), .second]) rfl k_
        refine Go.k 24 [] ?_ fun _ k_ => XS.goto X6.here hx rfl (pc0 := 106) (pc' := 24) rfl (hb hby d15_106) (by decide) (by decide) k_
        refine Go.k 26 [(.int (1 : Int32))] ?_ fun _ k_ => XS.iload X6.here hx rfl (hb hby d15_24) rfl k_
        refine Go.k 27 [(.int (5 : Int32)), (.int (1 : Int32))] ?_ fun _ k_ => XT.iconstV X6.here hx rfl (5 : Int32) (hb hby d15_26) (by decide) k_
        refine Go.k 30 [] ?_ fun _ k_ => XS.icmpNo X6.here hx rfl (hb hby d15_27) rfl (by decide) k_
        refine Go.k 32 [(.long (0 : Int64))] ?_ fun _ k_ => XT.lload X6.here hx rfl (hb hby d15_30) rfl k_
        refine Go.k 33 [(.long (0 : Int64)), (.long (0 : Int64))] ?_ fun _ k_ => XT.lconstV X6.here hx rfl (0 : Int64) (hb hby d15_32) (by decide) k_
        refine Go.k 34 [(.int (lcmpW (0 : Int64) (0 : Int64)))] ?_ fun _ k_ => XT.lcmp X6.here hx rfl (hb hby d15_33) rfl k_
        refine Go.k 109 [] ?_ fun _ k_ => XS.ifYes X6.here hx rfl (pc0 := 34) (pc' := 109) rfl (hb hby d15_34) rfl ((if0 _ _).trans (teq ((lw_eq _ _).mpr (rfl : (0 : Int64) = (0 : Int64)))).1) (by decide) (by decide) k_
        exact Go.retU X6 hx hret hlk (by decide) (by decide) (hb hby d15_109) (by rw [e6]; exact ⟨rfl, N6, (Nat.le_trans (Nat.le_refl _) (Nat.le_of_eq W6.size.symm)), f1, f2, f3, f4, ⟨(WE.wr W6), (WF.other W6 (Or.inl ne_w_x0)), (WA.other W6 ne_lv_x0), WO, V6, (B1.other W6 (fun q_ => ne_x0_x1 q_.symm)), (B2.other W6 (fun q_ => ne_x0_x2 q_.symm)), (B3.other W6 (fun q_ => ne_x0_x3 q_.symm)), (B4.other W6 (fun q_ => ne_x0_x4 q_.symm)), gl, g0, g1, g2, g3, g4, ne_w_lv, ne_w_x0, ne_w_x1, ne_w_x2, ne_w_x3, ne_w_x4, ne_lv_x0, ne_lv_x1, ne_lv_x2, ne_lv_x3, ne_lv_x4, ne_x0_x1, ne_x0_x2, ne_x0_x3, ne_x0_x4, ne_x1_x2, ne_x1_x3, ne_x1_x4, ne_x2_x3, ne_x2_x4, ne_x3_x4⟩, ⟨own_P_A hp0 (own_and_ne hc7) hc7, hp1, hp2, hp3⟩⟩)
  · refine Go.k 18 [] ?_ fun _ k_ => XS.icmpYes X1.here hx rfl (pc0 := 11) (pc' := 18) rfl (hb hby d15_11) rfl (flt hc2).2.1 (by decide) (by decide) k_
    refine Go.k 19 [(.long (0 : Int64))] ?_ fun _ k_ => XT.lconstV X1.here hx rfl (0 : Int64) (hb hby d15_18) (by decide) k_
    refine Go.s (g' := (mkF m 21 #[(sR w), (sI bl), (sJ bits), .second, (sI bl), (sJ (0 : Int64)), .second, .unset, .unset, .unset, .unset, .unset] [])) ?_ fun _ k_ => XT.lstore X1.here hx rfl (hb hby d15_19) rfl (l' := #[(sR w), (sI bl), (sJ bits), .second, (sI bl), (sJ (0 : Int64)), .second, .unset, .unset, .unset, .unset, .unset]) rfl k_
    refine Go.k 22 [(.int (0 : Int32))] ?_ fun _ k_ => XT.iconstV X1.here hx rfl (0 : Int32) (hb hby d15_21) (by decide) k_
    refine Go.s (g' := (mkF m 24 #[(sR w), (sI bl), (sJ bits), .second, (sI bl), (sJ (0 : Int64)), .second, (sI (0 : Int32)), .unset, .unset, .unset, .unset] [])) ?_ fun _ k_ => XS.istore X1.here hx rfl (hb hby d15_22) rfl (l' := #[(sR w), (sI bl), (sJ bits), .second, (sI bl), (sJ (0 : Int64)), .second, (sI (0 : Int32)), .unset, .unset, .unset, .unset]) rfl k_
    refine Go.k 26 [(.int (0 : Int32))] ?_ fun _ k_ => XS.iload X1.here hx rfl (hb hby d15_24) rfl k_
    refine Go.k 27 [(.int (5 : Int32)), (.int (0 : Int32))] ?_ fun _ k_ => XT.iconstV X1.here hx rfl (5 : Int32) (hb hby d15_26) (by decide) k_
    refine Go.k 30 [] ?_ fun _ k_ => XS.icmpNo X1.here hx rfl (hb hby d15_27) rfl (by decide) k_
    refine Go.k 32 [(.long (0 : Int64))] ?_ fun _ k_ => XT.lload X1.here hx rfl (hb hby d15_30) rfl k_
    refine Go.k 33 [(.long (0 : Int64)), (.long (0 : Int64))] ?_ fun _ k_ => XT.lconstV X1.here hx rfl (0 : Int64) (hb hby d15_32) (by decide) k_
    refine Go.k 34 [(.int (lcmpW (0 : Int64) (0 : Int64)))] ?_ fun _ k_ => XT.lcmp X1.here hx rfl (hb hby d15_33) rfl k_
    refine Go.k 109 [] ?_ fun _ k_ => XS.ifYes X1.here hx rfl (pc0 := 34) (pc' := 109) rfl (hb hby d15_34) rfl ((if0 _ _).trans (teq ((lw_eq _ _).mpr (rfl : (0 : Int64) = (0 : Int64)))).1) (by decide) (by decide) k_
    exact Go.retU X1 hx hret hlk (by decide) (by decide) (hb hby d15_109) (by rw [e1]; rw [own_an0 f0 bl.toNatClampNeg bits (Or.inr (B0.2 _ (own_natle b0 hc2)))]; exact ⟨rfl, N0, (Nat.le_refl _), f1, f2, f3, f4, ⟨WE, WF, WA, WO, B0, B1, B2, B3, B4, gl, g0, g1, g2, g3, g4, ne_w_lv, ne_w_x0, ne_w_x1, ne_w_x2, ne_w_x3, ne_w_x4, ne_lv_x0, ne_lv_x1, ne_lv_x2, ne_lv_x3, ne_lv_x4, ne_x0_x1, ne_x0_x2, ne_x0_x3, ne_x0_x4, ne_x1_x2, ne_x1_x3, ne_x1_x4, ne_x2_x3, ne_x2_x4, ne_x3_x4⟩, ⟨hp0, hp1, hp2, hp3⟩⟩)
theorem own_none {f : Nat → Int64} {n fr pos : Nat} (N : own_N f fr 5 pos) (hp : 1 ≤ pos) (zf : ∀ i, n ≤ i → f i = 0) (hn : n ≤ 16384) : ∀ i, fr ≤ i → own_b f i = false := fun i hi => by
  rcases Nat.lt_or_ge (i / 64) n with q | q
  · exact N.1 i hi (show i / 64 / 64 / 64 / 64 / 64 < pos by omega)
  · unfold own_b; rw [zf _ q, own_bit0]
theorem own_scanZ {f : Nat → Int64} {a : Nat} (h : f (a / 64) = 0) : ∀ p, a ≤ p → p / 64 = a / 64 → own_b f p = false := fun p h1 h2 => by unfold own_b; rw [h2, h, own_bit0]
theorem own_scan0 {f : Nat → Int64} {pos : Int32} (h0 : 0 ≤ pos.toInt) (e : f (pos.toNatClampNeg / 64) &&& ((-1 : Int64) <<< (pos.toInt64 &&& 63)) = 0) : ∀ p, pos.toNatClampNeg ≤ p → p / 64 = pos.toNatClampNeg / 64 → own_b f p = false := fun p h1 h2 => by
  have q := own_bit_and (f (pos.toNatClampNeg / 64)) ((-1 : Int64) <<< (pos.toInt64 &&& 63)) (p % 64)
  rw [e, own_bit0, own_bit_hi pos h0 _ (Nat.mod_lt _ (by decide)), decide_eq_true (by omega), Bool.and_true] at q
  unfold own_b; rw [h2]; exact q.symm
theorem own_scan1 {f : Nat → Int64} {pos : Int32} {n : Nat} (h0 : 0 ≤ pos.toInt) (hn : n < 64) (h1 : own_bit (f (pos.toNatClampNeg / 64) &&& ((-1 : Int64) <<< (pos.toInt64 &&& 63))) n = true) (h2 : ∀ j, j < n → own_bit (f (pos.toNatClampNeg / 64) &&& ((-1 : Int64) <<< (pos.toInt64 &&& 63))) j = false) :
    pos.toNatClampNeg ≤ 64 * (pos.toNatClampNeg / 64) + n ∧ own_b f (64 * (pos.toNatClampNeg / 64) + n) = true ∧ ∀ q, pos.toNatClampNeg ≤ q → q < 64 * (pos.toNatClampNeg / 64) + n → own_b f q = false := by
  rw [own_bit_and, own_bit_hi pos h0 n hn, Bool.and_eq_true, decide_eq_true_eq] at h1
  refine ⟨by omega, ?_, fun q a b => ?_⟩
  · unfold own_b; rw [show (64 * (pos.toNatClampNeg / 64) + n) / 64 = pos.toNatClampNeg / 64 by omega, show (64 * (pos.toNatClampNeg / 64) + n) % 64 = n by omega]; exact h1.1
  · have e : q / 64 = pos.toNatClampNeg / 64 := by omega
    have r := h2 (q % 64) (by omega)
    rw [own_bit_and, own_bit_hi pos h0 _ (Nat.mod_lt _ (by decide)), decide_eq_true (by omega), Bool.and_true] at r
    unfold own_b; rw [e]; exact r
theorem own_shl6 (w : Int32) (x : Int64) (n : Nat) (h0 : 0 ≤ w.toInt) (h1 : w.toInt ≤ 16384) (e : (own_ntzL x).toInt = n) (hn : n < 64) : ((w <<< ((6 : Int32) &&& 31)) + (own_ntzL x)).toInt = 64 * w.toInt + n ∧ ((w <<< ((6 : Int32) &&& 31)) + (own_ntzL x)).toNatClampNeg = 64 * w.toNatClampNeg + n := by
  have a1 := c_ishl w 6 6 (by decide)
  have a0_ : ((2 ^ 6 : Nat) : Int) = 64 := rfl
  have a2 := c_iadd (w <<< ((6 : Int32) &&& 31)) (own_ntzL x)
  have a3 := rng32 (w <<< ((6 : Int32) &&& 31))
  have a5 := rng32 ((w <<< ((6 : Int32) &&& 31)) + (own_ntzL x))
  have k : ((w <<< ((6 : Int32) &&& 31)) + (own_ntzL x)).toInt = 64 * w.toInt + n := by omega
  refine ⟨k, ?_⟩
  simp only [Int32.toNatClampNeg]; omega
theorem d16_7 : decode prog_59_method_7_code 7 = .ok (.iload_n 2, 1) := by decide +kernel
theorem d16_8 : decode prog_59_method_7_code 8 = .ok (.iconst 5, 1) := by decide +kernel
theorem d16_9 : decode prog_59_method_7_code 9 = .ok (.if_icmp .ge 81, 3) := by decide +kernel
theorem d16_90 : decode prog_59_method_7_code 90 = .ok (.iconst (-1), 1) := by decide +kernel
theorem d16_91 : decode prog_59_method_7_code 91 = .ok (.istore 6, 2) := by decide +kernel
theorem d16_93 : decode prog_59_method_7_code 93 = .ok (.lload 4, 2) := by decide +kernel
theorem d16_95 : decode prog_59_method_7_code 95 = .ok (.lconst 0, 1) := by decide +kernel
theorem d16_96 : decode prog_59_method_7_code 96 = .ok (.lcmp, 1) := by decide +kernel
theorem d16_97 : decode prog_59_method_7_code 97 = .ok (.ifCond .eq 40, 3) := by decide +kernel
theorem d16_137 : decode prog_59_method_7_code 137 = .ok (.iload 6, 2) := by decide +kernel
theorem d16_139 : decode prog_59_method_7_code 139 = .ok (.ireturn, 1) := by decide +kernel
set_option maxRecDepth 65536 in
set_option maxHeartbeats 40000000 in
theorem nxt_5 (l : Launch) (Z : State) (a0 : Array Value) (hw : ∀ d ∈ tables_1, d.before a0 Z = true) (w lv : Addr) (kL : ClassId) (x0 x1 x2 x3 x4 : Addr) (z0 z1 z2 z3 z4 : Int32) (f0 f1 f2 f3 f4 : Nat → Int64) (fr : Int32) (h0 : Heap) (n0 : Nat) (Z0 : n0 ≤ h0.size) (HW : own_WI Z h0 n0 w lv kL x0 x1 x2 x3 x4 z0 z1 z2 z3 z4 f0 f1 f2 f3 f4) (HC : own_Ch z0 z1 z2 z3 z4) (b0 : 0 ≤ fr.toInt) (b1 : fr.toInt ≤ 524287) (HP : own_P f0 f1 ∧ own_P f1 f2 ∧ own_P f2 f3 ∧ own_P f3 f4) (p : Program) (e : Env) (s : State) (m : MethodId) (below : List Frame) (meth : Method) (c : Code) (hx : p.tables.exec = Jvm.exec) (hby : c.code = prog_59_method_7_code) (hml : c.maxLocals = 8) (hret : meth.sig.returnType = some .int) (hlk : meth.locks = false) (hown : s.vm.findClass "com/example/slantwise/slantwise/engine/WordIndex" = some m.cls) (hZ : Z.Warmed39 s.vm) : ∀ (T : State) (pos : Int32), Stand p l e ({ frames := 2, cells := 0, slots := 0, locals := 32 } : Room) s m #[(.ref w), (.int fr)] below meth c T [] 0 0 → T.heap = h0 → ∀ (xa : Addr) (wa : Int32), (0 ≤ pos.toInt ∧ pos.toInt ≤ 1048576 ∧ 1 ≤ pos.toInt) → own_N f0 fr.toNatClampNeg 5 pos.toNatClampNeg → Go p e below (EndP below s (fun v h L => ∃ r : Int32, v = some (.int r) ∧ Fr n0 L ∧ h = h0 ∧ ((r = -1 ∧ ∀ i, fr.toNatClampNeg ≤ i → own_b f0 i = false) ∨ (fr.toNatClampNeg ≤ r.toNatClampNeg ∧ 0 ≤ r.toInt ∧ r.toInt ≤ 1048640 ∧ own_b f0 r.toNatClampNeg = true ∧ ∀ i, fr.toNatClampNeg ≤ i → i < r.toNatClampNeg → own_b f0 i = false))) ({ frames := 2, cells := 0, slots := 0, locals := 32 } : Room).cells ({ frames := 2, cells := 0, slots := 0, locals := 32 } : Room).slots) T (mkF m 7 #[(sR w), (sI fr), (sI (5 : Int32)), (sI pos), (sJ (0 : Int64)), .second, (sR xa), (sI wa)] []) := by
  have N0 := Fr.nil n0
  obtain ⟨WE, WF, WA, WO, B0, B1, B2, B3, B4, gl, g0, g1, g2, g3, g4, ne_w_lv, ne_w_x0, ne_w_x1, ne_w_x2, ne_w_x3, ne_w_x4, ne_lv_x0, ne_lv_x1, ne_lv_x2, ne_lv_x3, ne_lv_x4, ne_x0_x1, ne_x0_x2, ne_x0_x3, ne_x0_x4, ne_x1_x2, ne_x1_x3, ne_x1_x4, ne_x2_x3, ne_x2_x4, ne_x3_x4⟩ := HW
  obtain ⟨c0a, c0b, c1a, c1b, c2a, c2b, c3a, c3b, c4a, c4b, d0, d1, d2, d3⟩ := HC
  obtain ⟨hp0, hp1, hp2, hp3⟩ := HP
  have U0 := own_U0 f0
  have U1 := own_US U0 hp0
  have U2 := own_US U1 hp1
  have U3 := own_US U2 hp2
  have U4 := own_US U3 hp3
  intro T pos X1 eT xa wa hpos hN
  refine Go.k 8 [(.int (5 : Int32))] ?_ fun _ k_ => XS.iloadN X1.here hx rfl (hb hby d16_7) rfl k_
  refine Go.k 9 [(.int (5 : Int32)), (.int (5 : Int32))] ?_ fun _ k_ => XT.iconstV X1.here hx rfl (5 : Int32) (hb hby d16_8) (by decide) k_
  refine Go.k 90 [] ?_ fun _ k_ => XS.icmpYes X1.here hx rfl (pc0 := 9) (pc' := 90) rfl (hb hby d16_9) rfl (by decide) (by decide) (by decide) k_
  refine Go.k 91 [(.int (-1 : Int32))] ?_ fun _ k_ => XT.iconstV X1.here hx rfl (-1 : Int32) (hb hby d16_90) (by decide) k_
  refine Go.s (g' := (mkF m 93 #[(sR w), (sI fr), (sI (5 : Int32)), (sI pos), (sJ (0 : Int64)), .second, (sI (-1 : Int32)), (sI wa)] [])) ?_ fun _ k_ => XS.istore X1.here hx rfl (hb hby d16_91) rfl (l' := #[(sR w), (sI fr), (sI (5 : Int32)), (sI pos), (sJ (0 : Int64)), .second, (sI (-1 : Int32)), (sI wa)]) rfl k_
  refine Go.k 95 [(.long (0 : Int64))] ?_ fun _ k_ => XT.lload X1.here hx rfl (hb hby d16_93) rfl k_
  refine Go.k 96 [(.long (0 : Int64)), (.long (0 : Int64))] ?_ fun _ k_ => XT.lconstV X1.here hx rfl (0 : Int64) (hb hby d16_95) (by decide) k_
  refine Go.k 97 [(.int (lcmpW (0 : Int64) (0 : Int64)))] ?_ fun _ k_ => XT.lcmp X1.here hx rfl (hb hby d16_96) rfl k_
  refine Go.k 137 [] ?_ fun _ k_ => XS.ifYes X1.here hx rfl (pc0 := 97) (pc' := 137) rfl (hb hby d16_97) rfl ((if0 _ _).trans (teq ((lw_eq _ _).mpr (rfl : (0 : Int64) = (0 : Int64)))).1) (by decide) (by decide) k_
  refine Go.k 139 [(.int (-1 : Int32))] ?_ fun _ k_ => XS.iload X1.here hx rfl (hb hby d16_137) rfl k_
  exact Go.retV (t := .int) X1 hx hret hlk (by decide) (by decide) rfl (Or.inl ⟨rfl, Or.inl rfl, _, rfl⟩) (hb hby d16_139) ⟨_, rfl, N0, eT, Or.inl ⟨rfl, own_none hN (by simp only [Int32.toNatClampNeg]; omega) B0.2 (by simp only [Int32.toNatClampNeg]; omega)⟩⟩
theorem d16_12 : decode prog_59_method_7_code 12 = .ok (.lload 4, 2) := by decide +kernel
theorem d16_14 : decode prog_59_method_7_code 14 = .ok (.lconst 0, 1) := by decide +kernel
theorem d16_15 : decode prog_59_method_7_code 15 = .ok (.lcmp, 1) := by decide +kernel
theorem d16_16 : decode prog_59_method_7_code 16 = .ok (.ifCond .ne 74, 3) := by decide +kernel
theorem d16_19 : decode prog_59_method_7_code 19 = .ok (.aload_n 0, 1) := by decide +kernel
theorem d16_20 : decode prog_59_method_7_code 20 = .ok (.getfield 11, 3) := by decide +kernel
theorem d16_23 : decode prog_59_method_7_code 23 = .ok (.iload_n 2, 1) := by decide +kernel
theorem d16_24 : decode prog_59_method_7_code 24 = .ok (.aaload, 1) := by decide +kernel
theorem d16_25 : decode prog_59_method_7_code 25 = .ok (.astore 6, 2) := by decide +kernel
theorem d16_27 : decode prog_59_method_7_code 27 = .ok (.iload_n 3, 1) := by decide +kernel
theorem d16_28 : decode prog_59_method_7_code 28 = .ok (.bipush 6, 2) := by decide +kernel
theorem d16_30 : decode prog_59_method_7_code 30 = .ok (.iushr, 1) := by decide +kernel
theorem d16_31 : decode prog_59_method_7_code 31 = .ok (.istore 7, 2) := by decide +kernel
theorem d16_33 : decode prog_59_method_7_code 33 = .ok (.iload 7, 2) := by decide +kernel
theorem d16_35 : decode prog_59_method_7_code 35 = .ok (.aload 6, 2) := by decide +kernel
theorem d16_37 : decode prog_59_method_7_code 37 = .ok (.arraylength, 1) := by decide +kernel
theorem d16_38 : decode prog_59_method_7_code 38 = .ok (.if_icmp .ge 17, 3) := by decide +kernel
theorem d16_41 : decode prog_59_method_7_code 41 = .ok (.aload 6, 2) := by decide +kernel
theorem d16_43 : decode prog_59_method_7_code 43 = .ok (.iload 7, 2) := by decide +kernel
theorem d16_45 : decode prog_59_method_7_code 45 = .ok (.laload, 1) := by decide +kernel
theorem d16_46 : decode prog_59_method_7_code 46 = .ok (.ldc2_w 25, 3) := by decide +kernel
theorem d16_49 : decode prog_59_method_7_code 49 = .ok (.iload_n 3, 1) := by decide +kernel
theorem d16_50 : decode prog_59_method_7_code 50 = .ok (.lshl, 1) := by decide +kernel
theorem d16_51 : decode prog_59_method_7_code 51 = .ok (.land, 1) := by decide +kernel
theorem d16_52 : decode prog_59_method_7_code 52 = .ok (.goto 4, 3) := by decide +kernel
theorem d16_56 : decode prog_59_method_7_code 56 = .ok (.lstore 4, 2) := by decide +kernel
theorem d16_58 : decode prog_59_method_7_code 58 = .ok (.lload 4, 2) := by decide +kernel
theorem d16_60 : decode prog_59_method_7_code 60 = .ok (.lconst 0, 1) := by decide +kernel
theorem d16_61 : decode prog_59_method_7_code 61 = .ok (.lcmp, 1) := by decide +kernel
theorem d16_62 : decode prog_59_method_7_code 62 = .ok (.ifCond .ne 10, 3) := by decide +kernel
theorem d16_65 : decode prog_59_method_7_code 65 = .ok (.iload 7, 2) := by decide +kernel
theorem d16_67 : decode prog_59_method_7_code 67 = .ok (.iconst 1, 1) := by decide +kernel
theorem d16_68 : decode prog_59_method_7_code 68 = .ok (.iadd, 1) := by decide +kernel
theorem d16_69 : decode prog_59_method_7_code 69 = .ok (.goto 14, 3) := by decide +kernel
theorem d16_83 : decode prog_59_method_7_code 83 = .ok (.istore_n 3, 1) := by decide +kernel
theorem d16_84 : decode prog_59_method_7_code 84 = .ok (.iinc 2 1, 3) := by decide +kernel
theorem d16_87 : decode prog_59_method_7_code 87 = .ok (.goto (-80), 3) := by decide +kernel
theorem d16_72 : decode prog_59_method_7_code 72 = .ok (.iload 7, 2) := by decide +kernel
theorem d16_74 : decode prog_59_method_7_code 74 = .ok (.bipush 6, 2) := by decide +kernel
theorem d16_76 : decode prog_59_method_7_code 76 = .ok (.ishl, 1) := by decide +kernel
theorem d16_77 : decode prog_59_method_7_code 77 = .ok (.lload 4, 2) := by decide +kernel
theorem d16_79 : decode prog_59_method_7_code 79 = .ok (.invokestatic 27, 3) := by decide +kernel
theorem pd__J_I : parseMethodDescriptor "(J)I" = some ⟨[.long], some .int⟩ := by decide +kernel
theorem d16_82 : decode prog_59_method_7_code 82 = .ok (.iadd, 1) := by decide +kernel
theorem d16_100 : decode prog_59_method_7_code 100 = .ok (.iload_n 2, 1) := by decide +kernel
theorem d16_101 : decode prog_59_method_7_code 101 = .ok (.iconst 2, 1) := by decide +kernel
theorem d16_102 : decode prog_59_method_7_code 102 = .ok (.isub, 1) := by decide +kernel
theorem d16_103 : decode prog_59_method_7_code 103 = .ok (.istore 7, 2) := by decide +kernel
theorem d16_105 : decode prog_59_method_7_code 105 = .ok (.iload 7, 2) := by decide +kernel
theorem d16_107 : decode prog_59_method_7_code 107 = .ok (.ifCond .lt 27, 3) := by decide +kernel
theorem d16_110 : decode prog_59_method_7_code 110 = .ok (.iload_n 3, 1) := by decide +kernel
theorem d16_111 : decode prog_59_method_7_code 111 = .ok (.bipush 6, 2) := by decide +kernel
theorem d16_113 : decode prog_59_method_7_code 113 = .ok (.ishl, 1) := by decide +kernel
theorem d16_114 : decode prog_59_method_7_code 114 = .ok (.aload_n 0, 1) := by decide +kernel
theorem d16_115 : decode prog_59_method_7_code 115 = .ok (.getfield 11, 3) := by decide +kernel
theorem d16_118 : decode prog_59_method_7_code 118 = .ok (.iload 7, 2) := by decide +kernel
theorem d16_120 : decode prog_59_method_7_code 120 = .ok (.aaload, 1) := by decide +kernel
theorem d16_121 : decode prog_59_method_7_code 121 = .ok (.iload_n 3, 1) := by decide +kernel
theorem d16_122 : decode prog_59_method_7_code 122 = .ok (.laload, 1) := by decide +kernel
theorem d16_123 : decode prog_59_method_7_code 123 = .ok (.invokestatic 27, 3) := by decide +kernel
theorem d16_126 : decode prog_59_method_7_code 126 = .ok (.iadd, 1) := by decide +kernel
theorem d16_127 : decode prog_59_method_7_code 127 = .ok (.istore_n 3, 1) := by decide +kernel
theorem d16_128 : decode prog_59_method_7_code 128 = .ok (.iinc 7 (-1), 3) := by decide +kernel
theorem d16_131 : decode prog_59_method_7_code 131 = .ok (.goto (-26), 3) := by decide +kernel
theorem d16_134 : decode prog_59_method_7_code 134 = .ok (.iload_n 3, 1) := by decide +kernel
theorem d16_135 : decode prog_59_method_7_code 135 = .ok (.istore 6, 2) := by decide +kernel
theorem d16_55 : decode prog_59_method_7_code 55 = .ok (.lconst 0, 1) := by decide +kernel
set_option maxRecDepth 65536 in
set_option maxHeartbeats 40000000 in
theorem nxt_4 (l : Launch) (Z : State) (a0 : Array Value) (hw : ∀ d ∈ tables_1, d.before a0 Z = true) (w lv : Addr) (kL : ClassId) (x0 x1 x2 x3 x4 : Addr) (z0 z1 z2 z3 z4 : Int32) (f0 f1 f2 f3 f4 : Nat → Int64) (fr : Int32) (h0 : Heap) (n0 : Nat) (Z0 : n0 ≤ h0.size) (HW : own_WI Z h0 n0 w lv kL x0 x1 x2 x3 x4 z0 z1 z2 z3 z4 f0 f1 f2 f3 f4) (HC : own_Ch z0 z1 z2 z3 z4) (b0 : 0 ≤ fr.toInt) (b1 : fr.toInt ≤ 524287) (HP : own_P f0 f1 ∧ own_P f1 f2 ∧ own_P f2 f3 ∧ own_P f3 f4) (p : Program) (e : Env) (s : State) (m : MethodId) (below : List Frame) (meth : Method) (c : Code) (hx : p.tables.exec = Jvm.exec) (hby : c.code = prog_59_method_7_code) (hml : c.maxLocals = 8) (hret : meth.sig.returnType = some .int) (hlk : meth.locks = false) (hown : s.vm.findClass "com/example/slantwise/slantwise/engine/WordIndex" = some m.cls) (hZ : Z.Warmed39 s.vm) : ∀ (T : State) (pos : Int32), Stand p l e ({ frames := 2, cells := 0, slots := 0, locals := 32 } : Room) s m #[(.ref w), (.int fr)] below meth c T [] 0 0 → T.heap = h0 → ∀ (xa : Addr) (wa : Int32), (0 ≤ pos.toInt ∧ pos.toInt ≤ 1048576 ∧ 1 ≤ pos.toInt) → own_N f0 fr.toNatClampNeg 4 pos.toNatClampNeg → Go p e below (EndP below s (fun v h L => ∃ r : Int32, v = some (.int r) ∧ Fr n0 L ∧ h = h0 ∧ ((r = -1 ∧ ∀ i, fr.toNatClampNeg ≤ i → own_b f0 i = false) ∨ (fr.toNatClampNeg ≤ r.toNatClampNeg ∧ 0 ≤ r.toInt ∧ r.toInt ≤ 1048640 ∧ own_b f0 r.toNatClampNeg = true ∧ ∀ i, fr.toNatClampNeg ≤ i → i < r.toNatClampNeg → own_b f0 i = false))) ({ frames := 2, cells := 0, slots := 0, locals := 32 } : Room).cells ({ frames := 2, cells := 0, slots := 0, locals := 32 } : Room).slots) T (mkF m 7 #[(sR w), (sI fr), (sI (4 : Int32)), (sI pos), (sJ (0 : Int64)), .second, (sR xa), (sI wa)] []) := by
  have climb5 := nxt_5 l Z a0 hw w lv kL x0 x1 x2 x3 x4 z0 z1 z2 z3 z4 f0 f1 f2 f3 f4 fr h0 n0 Z0 HW HC b0 b1 HP p e s m below meth c hx hby hml hret hlk hown hZ
  have N0 := Fr.nil n0
  obtain ⟨WE, WF, WA, WO, B0, B1, B2, B3, B4, gl, g0, g1, g2, g3, g4, ne_w_lv, ne_w_x0, ne_w_x1, ne_w_x2, ne_w_x3, ne_w_x4, ne_lv_x0, ne_lv_x1, ne_lv_x2, ne_lv_x3, ne_lv_x4, ne_x0_x1, ne_x0_x2, ne_x0_x3, ne_x0_x4, ne_x1_x2, ne_x1_x3, ne_x1_x4, ne_x2_x3, ne_x2_x4, ne_x3_x4⟩ := HW
  obtain ⟨c0a, c0b, c1a, c1b, c2a, c2b, c3a, c3b, c4a, c4b, d0, d1, d2, d3⟩ := HC
  obtain ⟨hp0, hp1, hp2, hp3⟩ := HP
  have U0 := own_U0 f0
  have U1 := own_US U0 hp0
  have U2 := own_US U1 hp1
  have U3 := own_US U2 hp2
  have U4 := own_US U3 hp3
  intro T pos X1 eT xa wa hpos hN
  refine Go.k 8 [(.int (4 : Int32))] ?_ fun _ k_ => XS.iloadN X1.here hx rfl (hb hby d16_7) rfl k_
  refine Go.k 9 [(.int (5 : Int32)), (.int (4 : Int32))] ?_ fun _ k_ => XT.iconstV X1.here hx rfl (5 : Int32) (hb hby d16_8) (by decide) k_
  refine Go.k 12 [] ?_ fun _ k_ => XS.icmpNo X1.here hx rfl (hb hby d16_9) rfl (by decide) k_
  refine Go.k 14 [(.long (0 : Int64))] ?_ fun _ k_ => XT.lload X1.here hx rfl (hb hby d16_12) rfl k_
  refine Go.k 15 [(.long (0 : Int64)), (.long (0 : Int64))] ?_ fun _ k_ => XT.lconstV X1.here hx rfl (0 : Int64) (hb hby d16_14) (by decide) k_
  refine Go.k 16 [(.int (lcmpW (0 : Int64) (0 : Int64)))] ?_ fun _ k_ => XT.lcmp X1.here hx rfl (hb hby d16_15) rfl k_
  refine Go.k 19 [] ?_ fun _ k_ => XS.ifNo X1.here hx rfl (hb hby d16_16) rfl ((if0 _ _).trans (teq ((lw_eq _ _).mpr (rfl : (0 : Int64) = (0 : Int64)))).2) k_
  refine Go.k 20 [(.ref w)] ?_ fun _ k_ => XS.aloadN X1.here hx rfl (hb hby d16_19) rfl rfl k_
  obtain ⟨T1, X1, e1, st1⟩ := getF X1 hx hZ hown (host := "") (Or.inl (wq hw 13 rfl)) Via.refl eT WF (g := (mkF m 20 #[(sR w), (sI fr), (sI (4 : Int32)), (sI pos), (sJ (0 : Int64)), .second, (sR xa), (sI wa)] [(.ref w)])) rfl rfl (hb hby d16_20)
  refine Go.t T1 23 [(.ref lv)] ?_ st1
  refine Go.k 24 [(.int (4 : Int32)), (.ref lv)] ?_ fun _ k_ => XS.iloadN X1.here hx rfl (hb hby d16_23) rfl k_
  refine Go.t T1 25 [(.ref x4)] ?_ (own_aaload X1 hx hZ e1 WA rfl (by decide) (by rw [show (4 : Int32).toNatClampNeg = 4 from by decide]; rfl) (g := (mkF m 24 #[(sR w), (sI fr), (sI (4 : Int32)), (sI pos), (sJ (0 : Int64)), .second, (sR xa), (sI wa)] [(.int (4 : Int32)), (.ref lv)])) rfl rfl (hb hby d16_24))
  refine Go.s (g' := (mkF m 27 #[(sR w), (sI fr), (sI (4 : Int32)), (sI pos), (sJ (0 : Int64)), .second, (sR x4), (sI wa)] [])) ?_ fun _ k_ => XS.astore X1.here hx rfl (hb hby d16_25) rfl rfl (l' := #[(sR w), (sI fr), (sI (4 : Int32)), (sI pos), (sJ (0 : Int64)), .second, (sR x4), (sI wa)]) rfl k_
  refine Go.k 28 [(.int pos)] ?_ fun _ k_ => XS.iloadN X1.here hx rfl (hb hby d16_27) rfl k_
  refine Go.k 30 [(.int (6 : Int32)), (.int pos)] ?_ fun _ k_ => XT.bipushV X1.here hx rfl (6 : Int32) (hb hby d16_28) (by decide) k_
  refine Go.k 31 [(.int (XT.ushr pos (6 : Int32)))] ?_ fun _ k_ => XT.iushr X1.here hx rfl (hb hby d16_30) rfl k_
  obtain ⟨wd, ewd⟩ : ∃ q_ : Int32, q_ = XT.ushr pos 6 := ⟨_, rfl⟩
  rw [← ewd]
  have hwd : wd.toInt = pos.toInt / 64 := by rw [ewd]; exact own_ushr6 _ (by omega)
  have nwd : wd.toNatClampNeg = pos.toNatClampNeg / 64 := by simp only [Int32.toNatClampNeg]; omega
  refine Go.s (g' := (mkF m 33 #[(sR w), (sI fr), (sI (4 : Int32)), (sI pos), (sJ (0 : Int64)), .second, (sR x4), (sI wd)] [])) ?_ fun _ k_ => XS.istore X1.here hx rfl (hb hby d16_31) rfl (l' := #[(sR w), (sI fr), (sI (4 : Int32)), (sI pos), (sJ (0 : Int64)), .second, (sR x4), (sI wd)]) rfl k_
  refine Go.k 35 [(.int wd)] ?_ fun _ k_ => XS.iload X1.here hx rfl (hb hby d16_33) rfl k_
  refine Go.k 37 [(.ref x4), (.int wd)] ?_ fun _ k_ => XS.aload X1.here hx rfl (hb hby d16_35) rfl rfl k_
  refine Go.t T1 38 [(.int z4), (.int wd)] ?_ (own_laN X1 hx hZ e1 B4 (g := (mkF m 37 #[(sR w), (sI fr), (sI (4 : Int32)), (sI pos), (sJ (0 : Int64)), .second, (sR x4), (sI wd)] [(.ref x4), (.int wd)])) rfl rfl (hb hby d16_37))
  by_cases hc2 : wd < z4
  · refine Go.k 41 [] ?_ fun _ k_ => XS.icmpNo X1.here hx rfl (hb hby d16_38) rfl (tlt hc2).2.1 k_
    refine Go.k 43 [(.ref x4)] ?_ fun _ k_ => XS.aload X1.here hx rfl (hb hby d16_41) rfl rfl k_
    refine Go.k 45 [(.int wd), (.ref x4)] ?_ fun _ k_ => XS.iload X1.here hx rfl (hb hby d16_43) rfl k_
    refine Go.t T1 46 [(.long (f4 wd.toNatClampNeg))] ?_ (own_laL X1 hx hZ e1 B4 ⟨own_i_nlt rfl (by decide : (0 : Int32).toInt = 0) (by omega), hc2⟩ (g := (mkF m 45 #[(sR w), (sI fr), (sI (4 : Int32)), (sI pos), (sJ (0 : Int64)), .second, (sR x4), (sI wd)] [(.int wd), (.ref x4)])) rfl rfl (hb hby d16_45))
    refine Go.k 49 [(.long (-1 : Int64)), (.long (f4 wd.toNatClampNeg))] ?_ fun _ k_ => X1.ldc2J hx hown (mvT hZ (wq hw 29 rfl)) rfl (hb hby d16_46) k_
    refine Go.k 50 [(.int pos), (.long (-1 : Int64)), (.long (f4 wd.toNatClampNeg))] ?_ fun _ k_ => XS.iloadN X1.here hx rfl (hb hby d16_49) rfl k_
    refine Go.k 51 [(.long ((-1 : Int64) <<< (pos.toInt64 &&& 63))), (.long (f4 wd.toNatClampNeg))] ?_ fun _ k_ => XT.lshl X1.here hx rfl (hb hby d16_50) rfl k_
    refine Go.k 52 [(.long ((f4 wd.toNatClampNeg) &&& ((-1 : Int64) <<< (pos.toInt64 &&& 63))))] ?_ fun _ k_ => XT.land X1.here hx rfl (hb hby d16_51) rfl k_
    refine Go.k 56 [(.long ((f4 wd.toNatClampNeg) &&& ((-1 : Int64) <<< (pos.toInt64 &&& 63))))] ?_ fun _ k_ => XS.goto X1.here hx rfl (pc0 := 52) (pc' := 56) rfl (hb hby d16_52) (by decide) (by decide) k_
    obtain ⟨bt, ebt⟩ : ∃ q_ : Int64, q_ = ((f4 wd.toNatClampNeg) &&& ((-1 : Int64) <<< (pos.toInt64 &&& 63))) := ⟨_, rfl⟩
    rw [← ebt]
    rw [nwd] at ebt
    have hin := Int32.lt_iff_toInt_lt.mp hc2
    refine Go.s (g' := (mkF m 58 #[(sR w), (sI fr), (sI (4 : Int32)), (sI pos), (sJ bt), .second, (sR x4), (sI wd)] [])) ?_ fun _ k_ => XT.lstore X1.here hx rfl (hb hby d16_56) rfl (l' := #[(sR w), (sI fr), (sI (4 : Int32)), (sI pos), (sJ bt), .second, (sR x4), (sI wd)]) rfl k_
    refine Go.k 60 [(.long bt)] ?_ fun _ k_ => XT.lload X1.here hx rfl (hb hby d16_58) rfl k_
    refine Go.k 61 [(.long (0 : Int64)), (.long bt)] ?_ fun _ k_ => XT.lconstV X1.here hx rfl (0 : Int64) (hb hby d16_60) (by decide) k_
    refine Go.k 62 [(.int (lcmpW bt (0 : Int64)))] ?_ fun _ k_ => XT.lcmp X1.here hx rfl (hb hby d16_61) rfl k_
    by_cases hc3 : bt = (0 : Int64)
    · refine Go.k 65 [] ?_ fun _ k_ => XS.ifNo X1.here hx rfl (hb hby d16_62) rfl ((if0 _ _).trans (teq ((lw_eq _ _).mpr hc3)).2) k_
      refine Go.k 67 [(.int wd)] ?_ fun _ k_ => XS.iload X1.here hx rfl (hb hby d16_65) rfl k_
      refine Go.k 68 [(.int (1 : Int32)), (.int wd)] ?_ fun _ k_ => XT.iconstV X1.here hx rfl (1 : Int32) (hb hby d16_67) (by decide) k_
      refine Go.k 69 [(.int (wd + (1 : Int32)))] ?_ fun _ k_ => XS.iadd X1.here hx rfl (hb hby d16_68) rfl k_
      refine Go.k 83 [(.int (wd + (1 : Int32)))] ?_ fun _ k_ => XS.goto X1.here hx rfl (pc0 := 69) (pc' := 83) rfl (hb hby d16_69) (by decide) (by decide) k_
      have a1 := c_iadd wd 1
      have a2 : (1 : Int32).toInt = 1 := by decide
      obtain ⟨a3, a4⟩ := rng32 (wd + 1)
      obtain ⟨ps, eps⟩ : ∃ q_ : Int32, q_ = wd + 1 := ⟨_, rfl⟩
      rw [← eps] at a1 a3 a4 ⊢
      have hps : ps.toInt = wd.toInt + 1 := by omega
      have nps : ps.toNatClampNeg = pos.toNatClampNeg / 64 + 1 := by simp only [Int32.toNatClampNeg]; omega
      rw [hc3]
      refine Go.s (g' := (mkF m 84 #[(sR w), (sI fr), (sI (4 : Int32)), (sI ps), (sJ (0 : Int64)), .second, (sR x4), (sI wd)] [])) ?_ fun _ k_ => XS.istoreN X1.here hx rfl (hb hby d16_83) rfl (l' := #[(sR w), (sI fr), (sI (4 : Int32)), (sI ps), (sJ (0 : Int64)), .second, (sR x4), (sI wd)]) rfl k_
      refine Go.s (g' := (mkF m 87 #[(sR w), (sI fr), (sI (5 : Int32)), (sI ps), (sJ (0 : Int64)), .second, (sR x4), (sI wd)] [])) ?_ fun _ k_ => XT.iincV X1.here hx rfl (1 : Int32) (hb hby d16_84) (by decide) rfl (l' := #[(sR w), (sI fr), (sI (5 : Int32)), (sI ps), (sJ (0 : Int64)), .second, (sR x4), (sI wd)]) rfl k_
      refine Go.k 7 [] ?_ fun _ k_ => XS.goto X1.here hx rfl (pc0 := 87) (pc' := 7) rfl (hb hby d16_87) (by decide) (by decide) k_
      exact climb5 T1 ps X1 e1 x4 wd (by omega) (by rw [nps]; exact hN.step U4 (own_scan0 (by omega) (ebt.symm.trans hc3)))
    · refine Go.k 72 [] ?_ fun _ k_ => XS.ifYes X1.here hx rfl (pc0 := 62) (pc' := 72) rfl (hb hby d16_62) rfl ((if0 _ _).trans (feq (fun q_ => hc3 ((lw_eq _ _).mp q_))).2) (by decide) (by decide) k_
      refine Go.k 74 [(.int wd)] ?_ fun _ k_ => XS.iload X1.here hx rfl (hb hby d16_72) rfl k_
      refine Go.k 76 [(.int (6 : Int32)), (.int wd)] ?_ fun _ k_ => XT.bipushV X1.here hx rfl (6 : Int32) (hb hby d16_74) (by decide) k_
      refine Go.k 77 [(.int (wd <<< ((6 : Int32) &&& 31)))] ?_ fun _ k_ => XT.ishl X1.here hx rfl (hb hby d16_76) rfl k_
      refine Go.k 79 [(.long bt), (.int (wd <<< ((6 : Int32) &&& 31)))] ?_ fun _ k_ => XT.lload X1.here hx rfl (hb hby d16_77) rfl k_
      refine Go.callS X1 hx hZ hown (wq hw 45 rfl) (wq hw 46 rfl) (wq hw 47 rfl) (wq hw 48 rfl) (by decide) (rntl l Z a0 hw [] bt  h0 n0 Z0 ) e1 (by decide) (W := 1) (by decide) (by decide) (by decide) (g := (mkF m 79 #[(sR w), (sI fr), (sI (4 : Int32)), (sI pos), (sJ bt), .second, (sR x4), (sI wd)] [(.long bt), (.int (wd <<< ((6 : Int32) &&& 31)))])) (rest := [(.int (wd <<< ((6 : Int32) &&& 31)))]) rfl (by rw [hml]; rfl) (lenOf pd__J_I rfl) rfl (by show 2 * 0 + _ ≤ _; exact Nat.le_of_eq rfl) (hb hby d16_79) ?_
      rintro v4 T4 L4 X4 ⟨rfl, N4, e4⟩
      have M4 := Fr.app N0 N4
      show Go p e below _ T4 (mkF m 82 #[(sR w), (sI fr), (sI (4 : Int32)), (sI pos), (sJ bt), .second, (sR x4), (sI wd)] [(.int (own_ntzL bt)), (.int (wd <<< ((6 : Int32) &&& 31)))])
      refine Go.k 83 [(.int ((wd <<< ((6 : Int32) &&& 31)) + (own_ntzL bt)))] ?_ fun _ k_ => XS.iadd X4.here hx rfl (hb hby d16_82) rfl k_
      obtain ⟨nt, hnt, ent, bnt, lnt⟩ := own_ntz bt hc3
      obtain ⟨hps4, nps⟩ := own_shl6 wd bt nt (by omega) (by omega) ent hnt
      obtain ⟨ps4, eps⟩ : ∃ q_ : Int32, q_ = (wd <<< ((6 : Int32) &&& 31)) + (own_ntzL bt) := ⟨_, rfl⟩
      rw [← eps] at hps4 nps ⊢
      rw [nwd] at nps
      rw [ebt] at bnt lnt
      obtain ⟨q1, q2, q3⟩ := own_scan1 (by omega) hnt bnt lnt
      rw [← nps] at q1 q2 q3
      have D4 : own_D f0 f4 fr.toNatClampNeg 4 ps4.toNatClampNeg := hN.find U4 q1 q2 q3
      refine Go.s (g' := (mkF m 84 #[(sR w), (sI fr), (sI (4 : Int32)), (sI ps4), (sJ bt), .second, (sR x4), (sI wd)] [])) ?_ fun _ k_ => XS.istoreN X4.here hx rfl (hb hby d16_83) rfl (l' := #[(sR w), (sI fr), (sI (4 : Int32)), (sI ps4), (sJ bt), .second, (sR x4), (sI wd)]) rfl k_
      refine Go.s (g' := (mkF m 87 #[(sR w), (sI fr), (sI (5 : Int32)), (sI ps4), (sJ bt), .second, (sR x4), (sI wd)] [])) ?_ fun _ k_ => XT.iincV X4.here hx rfl (1 : Int32) (hb hby d16_84) (by decide) rfl (l' := #[(sR w), (sI fr), (sI (5 : Int32)), (sI ps4), (sJ bt), .second, (sR x4), (sI wd)]) rfl k_
      refine Go.k 7 [] ?_ fun _ k_ => XS.goto X4.here hx rfl (pc0 := 87) (pc' := 7) rfl (hb hby d16_87) (by decide) (by decide) k_
      refine Go.k 8 [(.int (5 : Int32))] ?_ fun _ k_ => XS.iloadN X4.here hx rfl (hb hby d16_7) rfl k_
      refine Go.k 9 [(.int (5 : Int32)), (.int (5 : Int32))] ?_ fun _ k_ => XT.iconstV X4.here hx rfl (5 : Int32) (hb hby d16_8) (by decide) k_
      refine Go.k 90 [] ?_ fun _ k_ => XS.icmpYes X4.here hx rfl (pc0 := 9) (pc' := 90) rfl (hb hby d16_9) rfl (by decide) (by decide) (by decide) k_
      refine Go.k 91 [(.int (-1 : Int32))] ?_ fun _ k_ => XT.iconstV X4.here hx rfl (-1 : Int32) (hb hby d16_90) (by decide) k_
      refine Go.s (g' := (mkF m 93 #[(sR w), (sI fr), (sI (5 : Int32)), (sI ps4), (sJ bt), .second, (sI (-1 : Int32)), (sI wd)] [])) ?_ fun _ k_ => XS.istore X4.here hx rfl (hb hby d16_91) rfl (l' := #[(sR w), (sI fr), (sI (5 : Int32)), (sI ps4), (sJ bt), .second, (sI (-1 : Int32)), (sI wd)]) rfl k_
      refine Go.k 95 [(.long bt)] ?_ fun _ k_ => XT.lload X4.here hx rfl (hb hby d16_93) rfl k_
      refine Go.k 96 [(.long (0 : Int64)), (.long bt)] ?_ fun _ k_ => XT.lconstV X4.here hx rfl (0 : Int64) (hb hby d16_95) (by decide) k_
      refine Go.k 97 [(.int (lcmpW bt (0 : Int64)))] ?_ fun _ k_ => XT.lcmp X4.here hx rfl (hb hby d16_96) rfl k_
      refine Go.k 100 [] ?_ fun _ k_ => XS.ifNo X4.here hx rfl (hb hby d16_97) rfl ((if0 _ _).trans (feq (fun q_ => (hc3 : ¬ bt = (0 : Int64)) ((lw_eq _ _).mp q_))).1) k_
      refine Go.k 101 [(.int (5 : Int32))] ?_ fun _ k_ => XS.iloadN X4.here hx rfl (hb hby d16_100) rfl k_
      refine Go.k 102 [(.int (2 : Int32)), (.int (5 : Int32))] ?_ fun _ k_ => XT.iconstV X4.here hx rfl (2 : Int32) (hb hby d16_101) (by decide) k_
      refine Go.k 103 [(.int (3 : Int32))] ?_ fun _ k_ => XS.isub X4.here hx rfl (hb hby d16_102) rfl k_
      refine Go.s (g' := (mkF m 105 #[(sR w), (sI fr), (sI (5 : Int32)), (sI ps4), (sJ bt), .second, (sI (-1 : Int32)), (sI (3 : Int32))] [])) ?_ fun _ k_ => XS.istore X4.here hx rfl (hb hby d16_103) rfl (l' := #[(sR w), (sI fr), (sI (5 : Int32)), (sI ps4), (sJ bt), .second, (sI (-1 : Int32)), (sI (3 : Int32))]) rfl k_
      refine Go.k 107 [(.int (3 : Int32))] ?_ fun _ k_ => XS.iload X4.here hx rfl (hb hby d16_105) rfl k_
      refine Go.k 110 [] ?_ fun _ k_ => XS.ifNo X4.here hx rfl (hb hby d16_107) rfl (by decide) k_
      refine Go.k 111 [(.int ps4)] ?_ fun _ k_ => XS.iloadN X4.here hx rfl (hb hby d16_110) rfl k_
      refine Go.k 113 [(.int (6 : Int32)), (.int ps4)] ?_ fun _ k_ => XT.bipushV X4.here hx rfl (6 : Int32) (hb hby d16_111) (by decide) k_
      refine Go.k 114 [(.int (ps4 <<< ((6 : Int32) &&& 31)))] ?_ fun _ k_ => XT.ishl X4.here hx rfl (hb hby d16_113) rfl k_
      refine Go.k 115 [(.ref w), (.int (ps4 <<< ((6 : Int32) &&& 31)))] ?_ fun _ k_ => XS.aloadN X4.here hx rfl (hb hby d16_114) rfl rfl k_
      obtain ⟨T5, X5, e5, st5⟩ := getF X4 hx hZ hown (host := "") (Or.inl (wq hw 13 rfl)) Via.refl e4 WF (g := (mkF m 115 #[(sR w), (sI fr), (sI (5 : Int32)), (sI ps4), (sJ bt), .second, (sI (-1 : Int32)), (sI (3 : Int32))] [(.ref w), (.int (ps4 <<< ((6 : Int32) &&& 31)))])) rfl rfl (hb hby d16_115)
      refine Go.t T5 118 [(.ref lv), (.int (ps4 <<< ((6 : Int32) &&& 31)))] ?_ st5
      refine Go.k 120 [(.int (3 : Int32)), (.ref lv), (.int (ps4 <<< ((6 : Int32) &&& 31)))] ?_ fun _ k_ => XS.iload X5.here hx rfl (hb hby d16_118) rfl k_
      refine Go.t T5 121 [(.ref x3), (.int (ps4 <<< ((6 : Int32) &&& 31)))] ?_ (own_aaload X5 hx hZ e5 WA rfl (by decide) (by rw [show (3 : Int32).toNatClampNeg = 3 from by decide]; rfl) (g := (mkF m 120 #[(sR w), (sI fr), (sI (5 : Int32)), (sI ps4), (sJ bt), .second, (sI (-1 : Int32)), (sI (3 : Int32))] [(.int (3 : Int32)), (.ref lv), (.int (ps4 <<< ((6 : Int32) &&& 31)))])) rfl rfl (hb hby d16_120))
      refine Go.k 122 [(.int ps4), (.ref x3), (.int (ps4 <<< ((6 : Int32) &&& 31)))] ?_ fun _ k_ => XS.iloadN X5.here hx rfl (hb hby d16_121) rfl k_
      have nz3 := D4.ne hp3
      have lt3 : ps4.toNatClampNeg < z3.toNatClampNeg := Nat.lt_of_not_le fun q_ => nz3 (B3.2 _ q_)
      have li3 : ps4.toInt < z3.toInt := by simp only [Int32.toNatClampNeg] at lt3; omega
      refine Go.t T5 123 [(.long (f3 ps4.toNatClampNeg)), (.int (ps4 <<< ((6 : Int32) &&& 31)))] ?_ (own_laL X5 hx hZ e5 B3 ⟨own_i_nlt rfl (by decide : (0 : Int32).toInt = 0) (by omega), own_i_lt rfl rfl (by omega)⟩ (g := (mkF m 122 #[(sR w), (sI fr), (sI (5 : Int32)), (sI ps4), (sJ bt), .second, (sI (-1 : Int32)), (sI (3 : Int32))] [(.int ps4), (.ref x3), (.int (ps4 <<< ((6 : Int32) &&& 31)))])) rfl rfl (hb hby d16_122))
      refine Go.callS X5 hx hZ hown (wq hw 45 rfl) (wq hw 46 rfl) (wq hw 47 rfl) (wq hw 48 rfl) (by decide) (rntl l Z a0 hw [] (f3 ps4.toNatClampNeg)  h0 n0 Z0 ) e5 (by decide) (W := 1) (by decide) (by decide) (by decide) (g := (mkF m 123 #[(sR w), (sI fr), (sI (5 : Int32)), (sI ps4), (sJ bt), .second, (sI (-1 : Int32)), (sI (3 : Int32))] [(.long (f3 ps4.toNatClampNeg)), (.int (ps4 <<< ((6 : Int32) &&& 31)))])) (rest := [(.int (ps4 <<< ((6 : Int32) &&& 31)))]) rfl (by rw [hml]; rfl) (lenOf pd__J_I rfl) rfl (by show 2 * 0 + _ ≤ _; exact Nat.le_of_eq rfl) (hb hby d16_123) ?_
      rintro v6 T6 L6 X6 ⟨rfl, N6, e6⟩
      have M6 := Fr.app M4 N6
      show Go p e below _ T6 (mkF m 126 #[(sR w), (sI fr), (sI (5 : Int32)), (sI ps4), (sJ bt), .second, (sI (-1 : Int32)), (sI (3 : Int32))] [(.int (own_ntzL (f3 ps4.toNatClampNeg))), (.int (ps4 <<< ((6 : Int32) &&& 31)))])
      refine Go.k 127 [(.int ((ps4 <<< ((6 : Int32) &&& 31)) + (own_ntzL (f3 ps4.toNatClampNeg))))] ?_ fun _ k_ => XS.iadd X6.here hx rfl (hb hby d16_126) rfl k_
      obtain ⟨nt3, hnt3, ent3, bnt3, lnt3⟩ := own_ntz (f3 ps4.toNatClampNeg) nz3
      obtain ⟨hps3, nps3⟩ := own_shl6 ps4 (f3 ps4.toNatClampNeg) nt3 (by omega) (by omega) ent3 hnt3
      obtain ⟨ps3, eps3⟩ : ∃ q_ : Int32, q_ = (ps4 <<< ((6 : Int32) &&& 31)) + (own_ntzL (f3 ps4.toNatClampNeg)) := ⟨_, rfl⟩
      rw [← eps3] at hps3 nps3 ⊢
      have D3 : own_D f0 f3 fr.toNatClampNeg 3 ps3.toNatClampNeg := own_D.down U3 D4 hnt3 nps3 bnt3 lnt3
      refine Go.s (g' := (mkF m 128 #[(sR w), (sI fr), (sI (5 : Int32)), (sI ps3), (sJ bt), .second, (sI (-1 : Int32)), (sI (3 : Int32))] [])) ?_ fun _ k_ => XS.istoreN X6.here hx rfl (hb hby d16_127) rfl (l' := #[(sR w), (sI fr), (sI (5 : Int32)), (sI ps3), (sJ bt), .second, (sI (-1 : Int32)), (sI (3 : Int32))]) rfl k_
      refine Go.s (g' := (mkF m 131 #[(sR w), (sI fr), (sI (5 : Int32)), (sI ps3), (sJ bt), .second, (sI (-1 : Int32)), (sI (2 : Int32))] [])) ?_ fun _ k_ => XT.iincV X6.here hx rfl (-1 : Int32) (hb hby d16_128) (by decide) rfl (l' := #[(sR w), (sI fr), (sI (5 : Int32)), (sI ps3), (sJ bt), .second, (sI (-1 : Int32)), (sI (2 : Int32))]) rfl k_
      refine Go.k 105 [] ?_ fun _ k_ => XS.goto X6.here hx rfl (pc0 := 131) (pc' := 105) rfl (hb hby d16_131) (by decide) (by decide) k_
      refine Go.k 107 [(.int (2 : Int32))] ?_ fun _ k_ => XS.iload X6.here hx rfl (hb hby d16_105) rfl k_
      refine Go.k 110 [] ?_ fun _ k_ => XS.ifNo X6.here hx rfl (hb hby d16_107) rfl (by decide) k_
      refine Go.k 111 [(.int ps3)] ?_ fun _ k_ => XS.iloadN X6.here hx rfl (hb hby d16_110) rfl k_
      refine Go.k 113 [(.int (6 : Int32)), (.int ps3)] ?_ fun _ k_ => XT.bipushV X6.here hx rfl (6 : Int32) (hb hby d16_111) (by decide) k_
      refine Go.k 114 [(.int (ps3 <<< ((6 : Int32) &&& 31)))] ?_ fun _ k_ => XT.ishl X6.here hx rfl (hb hby d16_113) rfl k_
      refine Go.k 115 [(.ref w), (.int (ps3 <<< ((6 : Int32) &&& 31)))] ?_ fun _ k_ => XS.aloadN X6.here hx rfl (hb hby d16_114) rfl rfl k_
      obtain ⟨T7, X7, e7, st7⟩ := getF X6 hx hZ hown (host := "") (Or.inl (wq hw 13 rfl)) Via.refl e6 WF (g := (mkF m 115 #[(sR w), (sI fr), (sI (5 : Int32)), (sI ps3), (sJ bt), .second, (sI (-1 : Int32)), (sI (2 : Int32))] [(.ref w), (.int (ps3 <<< ((6 : Int32) &&& 31)))])) rfl rfl (hb hby d16_115)
      refine Go.t T7 118 [(.ref lv), (.int (ps3 <<< ((6 : Int32) &&& 31)))] ?_ st7
      refine Go.k 120 [(.int (2 : Int32)), (.ref lv), (.int (ps3 <<< ((6 : Int32) &&& 31)))] ?_ fun _ k_ => XS.iload X7.here hx rfl (hb hby d16_118) rfl k_
      refine Go.t T7 121 [(.ref x2), (.int (ps3 <<< ((6 : Int32) &&& 31)))] ?_ (own_aaload X7 hx hZ e7 WA rfl (by decide) (by rw [show (2 : Int32).toNatClampNeg = 2 from by decide]; rfl) (g := (mkF m 120 #[(sR w), (sI fr), (sI (5 : Int32)), (sI ps3), (sJ bt), .second, (sI (-1 : Int32)), (sI (2 : Int32))] [(.int (2 : Int32)), (.ref lv), (.int (ps3 <<< ((6 : Int32) &&& 31)))])) rfl rfl (hb hby d16_120))
      refine Go.k 122 [(.int ps3), (.ref x2), (.int (ps3 <<< ((6 : Int32) &&& 31)))] ?_ fun _ k_ => XS.iloadN X7.here hx rfl (hb hby d16_121) rfl k_
      have nz2 := D3.ne hp2
      have lt2 : ps3.toNatClampNeg < z2.toNatClampNeg := Nat.lt_of_not_le fun q_ => nz2 (B2.2 _ q_)
      have li2 : ps3.toInt < z2.toInt := by simp only [Int32.toNatClampNeg] at lt2; omega
      refine Go.t T7 123 [(.long (f2 ps3.toNatClampNeg)), (.int (ps3 <<< ((6 : Int32) &&& 31)))] ?_ (own_laL X7 hx hZ e7 B2 ⟨own_i_nlt rfl (by decide : (0 : Int32).toInt = 0) (by omega), own_i_lt rfl rfl (by omega)⟩ (g := (mkF m 122 #[(sR w), (sI fr), (sI (5 : Int32)), (sI ps3), (sJ bt), .second, (sI (-1 : Int32)), (sI (2 : Int32))] [(.int ps3), (.ref x2), (.int (ps3 <<< ((6 : Int32) &&& 31)))])) rfl rfl (hb hby d16_122))
      refine Go.callS X7 hx hZ hown (wq hw 45 rfl) (wq hw 46 rfl) (wq hw 47 rfl) (wq hw 48 rfl) (by decide) (rntl l Z a0 hw [] (f2 ps3.toNatClampNeg)  h0 n0 Z0 ) e7 (by decide) (W := 1) (by decide) (by decide) (by decide) (g := (mkF m 123 #[(sR w), (sI fr), (sI (5 : Int32)), (sI ps3), (sJ bt), .second, (sI (-1 : Int32)), (sI (2 : Int32))] [(.long (f2 ps3.toNatClampNeg)), (.int (ps3 <<< ((6 : Int32) &&& 31)))])) (rest := [(.int (ps3 <<< ((6 : Int32) &&& 31)))]) rfl (by rw [hml]; rfl) (lenOf pd__J_I rfl) rfl (by show 2 * 0 + _ ≤ _; exact Nat.le_of_eq rfl) (hb hby d16_123) ?_
      rintro v8 T8 L8 X8 ⟨rfl, N8, e8⟩
      have M8 := Fr.app M6 N8
      show Go p e below _ T8 (mkF m 126 #[(sR w), (sI fr), (sI (5 : Int32)), (sI ps3), (sJ bt), .second, (sI (-1 : Int32)), (sI (2 : Int32))] [(.int (own_ntzL (f2 ps3.toNatClampNeg))), (.int (ps3 <<< ((6 : Int32) &&& 31)))])
      refine Go.k 127 [(.int ((ps3 <<< ((6 : Int32) &&& 31)) + (own_ntzL (f2 ps3.toNatClampNeg))))] ?_ fun _ k_ => XS.iadd X8.here hx rfl (hb hby d16_126) rfl k_
      obtain ⟨nt2, hnt2, ent2, bnt2, lnt2⟩ := own_ntz (f2 ps3.toNatClampNeg) nz2
      obtain ⟨hps2, nps2⟩ := own_shl6 ps3 (f2 ps3.toNatClampNeg) nt2 (by omega) (by omega) ent2 hnt2
      obtain ⟨ps2, eps2⟩ : ∃ q_ : Int32, q_ = (ps3 <<< ((6 : Int32) &&& 31)) + (own_ntzL (f2 ps3.toNatClampNeg)) := ⟨_, rfl⟩
      rw [← eps2] at hps2 nps2 ⊢
      have D2 : own_D f0 f2 fr.toNatClampNeg 2 ps2.toNatClampNeg := own_D.down U2 D3 hnt2 nps2 bnt2 lnt2
      refine Go.s (g' := (mkF m 128 #[(sR w), (sI fr), (sI (5 : Int32)), (sI ps2), (sJ bt), .second, (sI (-1 : Int32)), (sI (2 : Int32))] [])) ?_ fun _ k_ => XS.istoreN X8.here hx rfl (hb hby d16_127) rfl (l' := #[(sR w), (sI fr), (sI (5 : Int32)), (sI ps2), (sJ bt), .second, (sI (-1 : Int32)), (sI (2 : Int32))]) rfl k_
      refine Go.s (g' := (mkF m 131 #[(sR w), (sI fr), (sI (5 : Int32)), (sI ps2), (sJ bt), .second, (sI (-1 : Int32)), (sI (1 : Int32))] [])) ?_ fun _ k_ => XT.iincV X8.here hx rfl (-1 : Int32) (hb hby d16_128) (by decide) rfl (l' := #[(sR w), (sI fr), (sI (5 : Int32)), (sI ps2), (sJ bt), .second, (sI (-1 : Int32)), (sI (1 : Int32))]) rfl k_
      refine Go.k 105 [] ?_ fun _ k_ => XS.goto X8.here hx rfl (pc0 := 131) (pc' := 105) rfl (hb hby d16_131) (by decide) (by decide) k_
      refine Go.k 107 [(.int (1 : Int32))] ?_ fun _ k_ => XS.iload X8.here hx rfl (hb hby d16_105) rfl k_
      refine Go.k 110 [] ?_ fun _ k_ => XS.ifNo X8.here hx rfl (hb hby d16_107) rfl (by decide) k_
      refine Go.k 111 [(.int ps2)] ?_ fun _ k_ => XS.iloadN X8.here hx rfl (hb hby d16_110) rfl k_
      refine Go.k 113 [(.int (6 : Int32)), (.int ps2)] ?_ fun _ k_ => XT.bipushV X8.here hx rfl (6 : Int32) (hb hby d16_111) (by decide) k_
      refine Go.k 114 [(.int (ps2 <<< ((6 : Int32) &&& 31)))] ?_ fun _ k_ => XT.ishl X8.here hx rfl (hb hby d16_113) rfl k_
      refine Go.k 115 [(.ref w), (.int (ps2 <<< ((6 : Int32) &&& 31)))] ?_ fun _ k_ => XS.aloadN X8.here hx rfl (hb hby d16_114) rfl rfl k_
      obtain ⟨T9, X9, e9, st9⟩ := getF X8 hx hZ hown (host := "") (Or.inl (wq hw 13 rfl)) Via.refl e8 WF (g := (mkF m 115 #[(sR w), (sI fr), (sI (5 : Int32)), (sI ps2), (sJ bt), .second, (sI (-1 : Int32)), (sI (1 : Int32))] [(.ref w), (.int (ps2 <<< ((6 : Int32) &&& 31)))])) rfl rfl (hb hby d16_115)
      refine Go.t T9 118 [(.ref lv), (.int (ps2 <<< ((6 : Int32) &&& 31)))] ?_ st9
      refine Go.k 120 [(.int (1 : Int32)), (.ref lv), (.int (ps2 <<< ((6 : Int32) &&& 31)))] ?_ fun _ k_ => XS.iload X9.here hx rfl (hb hby d16_118) rfl k_
      refine Go.t T9 121 [(.ref x1), (.int (ps2 <<< ((6 : Int32) &&& 31)))] ?_ (own_aaload X9 hx hZ e9 WA rfl (by decide) (by rw [show (1 : Int32).toNatClampNeg = 1 from by decide]; rfl) (g := (mkF m 120 #[(sR w), (sI fr), (sI (5 : Int32)), (sI ps2), (sJ bt), .second, (sI (-1 : Int32)), (sI (1 : Int32))] [(.int (1 : Int32)), (.ref lv), (.int (ps2 <<< ((6 : Int32) &&& 31)))])) rfl rfl (hb hby d16_120))
      refine Go.k 122 [(.int ps2), (.ref x1), (.int (ps2 <<< ((6 : Int32) &&& 31)))] ?_ fun _ k_ => XS.iloadN X9.here hx rfl (hb hby d16_121) rfl k_
      have nz1 := D2.ne hp1
      have lt1 : ps2.toNatClampNeg < z1.toNatClampNeg := Nat.lt_of_not_le fun q_ => nz1 (B1.2 _ q_)
      have li1 : ps2.toInt < z1.toInt := by simp only [Int32.toNatClampNeg] at lt1; omega
      refine Go.t T9 123 [(.long (f1 ps2.toNatClampNeg)), (.int (ps2 <<< ((6 : Int32) &&& 31)))] ?_ (own_laL X9 hx hZ e9 B1 ⟨own_i_nlt rfl (by decide : (0 : Int32).toInt = 0) (by omega), own_i_lt rfl rfl (by omega)⟩ (g := (mkF m 122 #[(sR w), (sI fr), (sI (5 : Int32)), (sI ps2), (sJ bt), .second, (sI (-1 : Int32)), (sI (1 : Int32))] [(.int ps2), (.ref x1), (.int (ps2 <<< ((6 : Int32) &&& 31)))])) rfl rfl (hb hby d16_122))
      refine Go.callS X9 hx hZ hown (wq hw 45 rfl) (wq hw 46 rfl) (wq hw 47 rfl) (wq hw 48 rfl) (by decide) (rntl l Z a0 hw [] (f1 ps2.toNatClampNeg)  h0 n0 Z0 ) e9 (by decide) (W := 1) (by decide) (by decide) (by decide) (g := (mkF m 123 #[(sR w), (sI fr), (sI (5 : Int32)), (sI ps2), (sJ bt), .second, (sI (-1 : Int32)), (sI (1 : Int32))] [(.long (f1 ps2.toNatClampNeg)), (.int (ps2 <<< ((6 : Int32) &&& 31)))])) (rest := [(.int (ps2 <<< ((6 : Int32) &&& 31)))]) rfl (by rw [hml]; rfl) (lenOf pd__J_I rfl) rfl (by show 2 * 0 + _ ≤ _; exact Nat.le_of_eq rfl) (hb hby d16_123) ?_
      rintro v10 T10 L10 X10 ⟨rfl, N10, e10⟩
      have M10 := Fr.app M8 N10
      show Go p e below _ T10 (mkF m 126 #[(sR w), (sI fr), (sI (5 : Int32)), (sI ps2), (sJ bt), .second, (sI (-1 : Int32)), (sI (1 : Int32))] [(.int (own_ntzL (f1 ps2.toNatClampNeg))), (.int (ps2 <<< ((6 : Int32) &&& 31)))])
      refine Go.k 127 [(.int ((ps2 <<< ((6 : Int32) &&& 31)) + (own_ntzL (f1 ps2.toNatClampNeg))))] ?_ fun _ k_ => XS.iadd X10.here hx rfl (hb hby d16_126) rfl k_
      obtain ⟨nt1, hnt1, ent1, bnt1, lnt1⟩ := own_ntz (f1 ps2.toNatClampNeg) nz1
      obtain ⟨hps1, nps1⟩ := own_shl6 ps2 (f1 ps2.toNatClampNeg) nt1 (by omega) (by omega) ent1 hnt1
      obtain ⟨ps1, eps1⟩ : ∃ q_ : Int32, q_ = (ps2 <<< ((6 : Int32) &&& 31)) + (own_ntzL (f1 ps2.toNatClampNeg)) := ⟨_, rfl⟩
      rw [← eps1] at hps1 nps1 ⊢
      have D1 : own_D f0 f1 fr.toNatClampNeg 1 ps1.toNatClampNeg := own_D.down U1 D2 hnt1 nps1 bnt1 lnt1
      refine Go.s (g' := (mkF m 128 #[(sR w), (sI fr), (sI (5 : Int32)), (sI ps1), (sJ bt), .second, (sI (-1 : Int32)), (sI (1 : Int32))] [])) ?_ fun _ k_ => XS.istoreN X10.here hx rfl (hb hby d16_127) rfl (l' := #[(sR w), (sI fr), (sI (5 : Int32)), (sI ps1), (sJ bt), .second, (sI (-1 : Int32)), (sI (1 : Int32))]) rfl k_
      refine Go.s (g' := (mkF m 131 #[(sR w), (sI fr), (sI (5 : Int32)), (sI ps1), (sJ bt), .second, (sI (-1 : Int32)), (sI (0 : Int32))] [])) ?_ fun _ k_ => XT.iincV X10.here hx rfl (-1 : Int32) (hb hby d16_128) (by decide) rfl (l' := #[(sR w), (sI fr), (sI (5 : Int32)), (sI ps1), (sJ bt), .second, (sI (-1 : Int32)), (sI (0 : Int32))]) rfl k_
      refine Go.k 105 [] ?_ fun _ k_ => XS.goto X10.here hx rfl (pc0 := 131) (pc' := 105) rfl (hb hby d16_131) (by decide) (by decide) k_
      refine Go.k 107 [(.int (0 : Int32))] ?_ fun _ k_ => XS.iload X10.here hx rfl (hb hby d16_105) rfl k_
      refine Go.k 110 [] ?_ fun _ k_ => XS.ifNo X10.here hx rfl (hb hby d16_107) rfl (by decide) k_
      refine Go.k 111 [(.int ps1)] ?_ fun _ k_ => XS.iloadN X10.here hx rfl (hb hby d16_110) rfl k_
      refine Go.k 113 [(.int (6 : Int32)), (.int ps1)] ?_ fun _ k_ => XT.bipushV X10.here hx rfl (6 : Int32) (hb hby d16_111) (by decide) k_
      refine Go.k 114 [(.int (ps1 <<< ((6 : Int32) &&& 31)))] ?_ fun _ k_ => XT.ishl X10.here hx rfl (hb hby d16_113) rfl k_
      refine Go.k 115 [(.ref w), (.int (ps1 <<< ((6 : Int32) &&& 31)))] ?_ fun _ k_ => XS.aloadN X10.here hx rfl (hb hby d16_114) rfl rfl k_
      obtain ⟨T11, X11, e11, st11⟩ := getF X10 hx hZ hown (host := "") (Or.inl (wq hw 13 rfl)) Via.refl e10 WF (g := (mkF m 115 #[(sR w), (sI fr), (sI (5 : Int32)), (sI ps1), (sJ bt), .second, (sI (-1 : Int32)), (sI (0 : Int32))] [(.ref w), (.int (ps1 <<< ((6 : Int32) &&& 31)))])) rfl rfl (hb hby d16_115)
      refine Go.t T11 118 [(.ref lv), (.int (ps1 <<< ((6 : Int32) &&& 31)))] ?_ st11
      refine Go.k 120 [(.int (0 : Int32)), (.ref lv), (.int (ps1 <<< ((6 : Int32) &&& 31)))] ?_ fun _ k_ => XS.iload X11.here hx rfl (hb hby d16_118) rfl k_
      refine Go.t T11 121 [(.ref x0), (.int (ps1 <<< ((6 : Int32) &&& 31)))] ?_ (own_aaload X11 hx hZ e11 WA rfl (by decide) (by rw [show (0 : Int32).toNatClampNeg = 0 from by decide]; rfl) (g := (mkF m 120 #[(sR w), (sI fr), (sI (5 : Int32)), (sI ps1), (sJ bt), .second, (sI (-1 : Int32)), (sI (0 : Int32))] [(.int (0 : Int32)), (.ref lv), (.int (ps1 <<< ((6 : Int32) &&& 31)))])) rfl rfl (hb hby d16_120))
      refine Go.k 122 [(.int ps1), (.ref x0), (.int (ps1 <<< ((6 : Int32) &&& 31)))] ?_ fun _ k_ => XS.iloadN X11.here hx rfl (hb hby d16_121) rfl k_
      have nz0 := D1.ne hp0
      have lt0 : ps1.toNatClampNeg < z0.toNatClampNeg := Nat.lt_of_not_le fun q_ => nz0 (B0.2 _ q_)
      have li0 : ps1.toInt < z0.toInt := by simp only [Int32.toNatClampNeg] at lt0; omega
      refine Go.t T11 123 [(.long (f0 ps1.toNatClampNeg)), (.int (ps1 <<< ((6 : Int32) &&& 31)))] ?_ (own_laL X11 hx hZ e11 B0 ⟨own_i_nlt rfl (by decide : (0 : Int32).toInt = 0) (by omega), own_i_lt rfl rfl (by omega)⟩ (g := (mkF m 122 #[(sR w), (sI fr), (sI (5 : Int32)), (sI ps1), (sJ bt), .second, (sI (-1 : Int32)), (sI (0 : Int32))] [(.int ps1), (.ref x0), (.int (ps1 <<< ((6 : Int32) &&& 31)))])) rfl rfl (hb hby d16_122))
      refine Go.callS X11 hx hZ hown (wq hw 45 rfl) (wq hw 46 rfl) (wq hw 47 rfl) (wq hw 48 rfl) (by decide) (rntl l Z a0 hw [] (f0 ps1.toNatClampNeg)  h0 n0 Z0 ) e11 (by decide) (W := 1) (by decide) (by decide) (by decide) (g := (mkF m 123 #[(sR w), (sI fr), (sI (5 : Int32)), (sI ps1), (sJ bt), .second, (sI (-1 : Int32)), (sI (0 : Int32))] [(.long (f0 ps1.toNatClampNeg)), (.int (ps1 <<< ((6 : Int32) &&& 31)))])) (rest := [(.int (ps1 <<< ((6 : Int32) &&& 31)))]) rfl (by rw [hml]; rfl) (lenOf pd__J_I rfl) rfl (by show 2 * 0 + _ ≤ _; exact Nat.le_of_eq rfl) (hb hby d16_123) ?_
      rintro v12 T12 L12 X12 ⟨rfl, N12, e12⟩
      have M12 := Fr.app M10 N12
      show Go p e below _ T12 (mkF m 126 #[(sR w), (sI fr), (sI (5 : Int32)), (sI ps1), (sJ bt), .second, (sI (-1 : Int32)), (sI (0 : Int32))] [(.int (own_ntzL (f0 ps1.toNatClampNeg))), (.int (ps1 <<< ((6 : Int32) &&& 31)))])
      refine Go.k 127 [(.int ((ps1 <<< ((6 : Int32) &&& 31)) + (own_ntzL (f0 ps1.toNatClampNeg))))] ?_ fun _ k_ => XS.iadd X12.here hx rfl (hb hby d16_126) rfl k_
      obtain ⟨nt0, hnt0, ent0, bnt0, lnt0⟩ := own_ntz (f0 ps1.toNatClampNeg) nz0
      obtain ⟨hps0, nps0⟩ := own_shl6 ps1 (f0 ps1.toNatClampNeg) nt0 (by omega) (by omega) ent0 hnt0
      obtain ⟨ps0, eps0⟩ : ∃ q_ : Int32, q_ = (ps1 <<< ((6 : Int32) &&& 31)) + (own_ntzL (f0 ps1.toNatClampNeg)) := ⟨_, rfl⟩
      rw [← eps0] at hps0 nps0 ⊢
      have D0 : own_D f0 f0 fr.toNatClampNeg 0 ps0.toNatClampNeg := own_D.down U0 D1 hnt0 nps0 bnt0 lnt0
      refine Go.s (g' := (mkF m 128 #[(sR w), (sI fr), (sI (5 : Int32)), (sI ps0), (sJ bt), .second, (sI (-1 : Int32)), (sI (0 : Int32))] [])) ?_ fun _ k_ => XS.istoreN X12.here hx rfl (hb hby d16_127) rfl (l' := #[(sR w), (sI fr), (sI (5 : Int32)), (sI ps0), (sJ bt), .second, (sI (-1 : Int32)), (sI (0 : Int32))]) rfl k_
      refine Go.s (g' := (mkF m 131 #[(sR w), (sI fr), (sI (5 : Int32)), (sI ps0), (sJ bt), .second, (sI (-1 : Int32)), (sI (-1 : Int32))] [])) ?_ fun _ k_ => XT.iincV X12.here hx rfl (-1 : Int32) (hb hby d16_128) (by decide) rfl (l' := #[(sR w), (sI fr), (sI (5 : Int32)), (sI ps0), (sJ bt), .second, (sI (-1 : Int32)), (sI (-1 : Int32))]) rfl k_
      refine Go.k 105 [] ?_ fun _ k_ => XS.goto X12.here hx rfl (pc0 := 131) (pc' := 105) rfl (hb hby d16_131) (by decide) (by decide) k_
      refine Go.k 107 [(.int (-1 : Int32))] ?_ fun _ k_ => XS.iload X12.here hx rfl (hb hby d16_105) rfl k_
      refine Go.k 134 [] ?_ fun _ k_ => XS.ifYes X12.here hx rfl (pc0 := 107) (pc' := 134) rfl (hb hby d16_107) rfl (by decide) (by decide) (by decide) k_
      refine Go.k 135 [(.int ps0)] ?_ fun _ k_ => XS.iloadN X12.here hx rfl (hb hby d16_134) rfl k_
      refine Go.s (g' := (mkF m 137 #[(sR w), (sI fr), (sI (5 : Int32)), (sI ps0), (sJ bt), .second, (sI ps0), (sI (-1 : Int32))] [])) ?_ fun _ k_ => XS.istore X12.here hx rfl (hb hby d16_135) rfl (l' := #[(sR w), (sI fr), (sI (5 : Int32)), (sI ps0), (sJ bt), .second, (sI ps0), (sI (-1 : Int32))]) rfl k_
      refine Go.k 139 [(.int ps0)] ?_ fun _ k_ => XS.iload X12.here hx rfl (hb hby d16_137) rfl k_
      exact Go.retV (t := .int) X12 hx hret hlk (by decide) (by decide) rfl (Or.inl ⟨rfl, Or.inl rfl, _, rfl⟩) (hb hby d16_139) ⟨ps0, rfl, M12, e12, Or.inr ⟨D0.2.2 _ (Nat.le_refl _), by omega, by omega, D0.1, D0.2.1⟩⟩
  · refine Go.k 55 [] ?_ fun _ k_ => XS.icmpYes X1.here hx rfl (pc0 := 38) (pc' := 55) rfl (hb hby d16_38) rfl (flt hc2).2.1 (by decide) (by decide) k_
    refine Go.k 56 [(.long (0 : Int64))] ?_ fun _ k_ => XT.lconstV X1.here hx rfl (0 : Int64) (hb hby d16_55) (by decide) k_
    refine Go.s (g' := (mkF m 58 #[(sR w), (sI fr), (sI (4 : Int32)), (sI pos), (sJ (0 : Int64)), .second, (sR x4), (sI wd)] [])) ?_ fun _ k_ => XT.lstore X1.here hx rfl (hb hby d16_56) rfl (l' := #[(sR w), (sI fr), (sI (4 : Int32)), (sI pos), (sJ (0 : Int64)), .second, (sR x4), (sI wd)]) rfl k_
    refine Go.k 60 [(.long (0 : Int64))] ?_ fun _ k_ => XT.lload X1.here hx rfl (hb hby d16_58) rfl k_
    refine Go.k 61 [(.long (0 : Int64)), (.long (0 : Int64))] ?_ fun _ k_ => XT.lconstV X1.here hx rfl (0 : Int64) (hb hby d16_60) (by decide) k_
    refine Go.k 62 [(.int (lcmpW (0 : Int64) (0 : Int64)))] ?_ fun _ k_ => XT.lcmp X1.here hx rfl (hb hby d16_61) rfl k_
    refine Go.k 65 [] ?_ fun _ k_ => XS.ifNo X1.here hx rfl (hb hby d16_62) rfl ((if0 _ _).trans (teq ((lw_eq _ _).mpr (rfl : (0 : Int64) = (0 : Int64)))).2) k_
    refine Go.k 67 [(.int wd)] ?_ fun _ k_ => XS.iload X1.here hx rfl (hb hby d16_65) rfl k_
    refine Go.k 68 [(.int (1 : Int32)), (.int wd)] ?_ fun _ k_ => XT.iconstV X1.here hx rfl (1 : Int32) (hb hby d16_67) (by decide) k_
    refine Go.k 69 [(.int (wd + (1 : Int32)))] ?_ fun _ k_ => XS.iadd X1.here hx rfl (hb hby d16_68) rfl k_
    refine Go.k 83 [(.int (wd + (1 : Int32)))] ?_ fun _ k_ => XS.goto X1.here hx rfl (pc0 := 69) (pc' := 83) rfl (hb hby d16_69) (by decide) (by decide) k_
    have a1 := c_iadd wd 1
    have a2 : (1 : Int32).toInt = 1 := by decide
    obtain ⟨a3, a4⟩ := rng32 (wd + 1)
    obtain ⟨ps, eps⟩ : ∃ q_ : Int32, q_ = wd + 1 := ⟨_, rfl⟩
    rw [← eps] at a1 a3 a4 ⊢
    have hps : ps.toInt = wd.toInt + 1 := by omega
    have nps : ps.toNatClampNeg = pos.toNatClampNeg / 64 + 1 := by simp only [Int32.toNatClampNeg]; omega
    refine Go.s (g' := (mkF m 84 #[(sR w), (sI fr), (sI (4 : Int32)), (sI ps), (sJ (0 : Int64)), .second, (sR x4), (sI wd)] [])) ?_ fun _ k_ => XS.istoreN X1.here hx rfl (hb hby d16_83) rfl (l' := #[(sR w), (sI fr), (sI (4 : Int32)), (sI ps), (sJ (0 : Int64)), .second, (sR x4), (sI wd)]) rfl k_
    refine Go.s (g' := (mkF m 87 #[(sR w), (sI fr), (sI (5 : Int32)), (sI ps), (sJ (0 : Int64)), .second, (sR x4), (sI wd)] [])) ?_ fun _ k_ => XT.iincV X1.here hx rfl (1 : Int32) (hb hby d16_84) (by decide) rfl (l' := #[(sR w), (sI fr), (sI (5 : Int32)), (sI ps), (sJ (0 : Int64)), .second, (sR x4), (sI wd)]) rfl k_
    refine Go.k 7 [] ?_ fun _ k_ => XS.goto X1.here hx rfl (pc0 := 87) (pc' := 7) rfl (hb hby d16_87) (by decide) (by decide) k_
    exact climb5 T1 ps X1 e1 x4 wd (by omega) (by rw [nps]; exact hN.step U4 (own_scanZ (B4.2 _ (by rw [← nwd]; exact own_natle (by omega) hc2))))
set_option maxRecDepth 65536 in
set_option maxHeartbeats 40000000 in
theorem nxt_3 (l : Launch) (Z : State) (a0 : Array Value) (hw : ∀ d ∈ tables_1, d.before a0 Z = true) (w lv : Addr) (kL : ClassId) (x0 x1 x2 x3 x4 : Addr) (z0 z1 z2 z3 z4 : Int32) (f0 f1 f2 f3 f4 : Nat → Int64) (fr : Int32) (h0 : Heap) (n0 : Nat) (Z0 : n0 ≤ h0.size) (HW : own_WI Z h0 n0 w lv kL x0 x1 x2 x3 x4 z0 z1 z2 z3 z4 f0 f1 f2 f3 f4) (HC : own_Ch z0 z1 z2 z3 z4) (b0 : 0 ≤ fr.toInt) (b1 : fr.toInt ≤ 524287) (HP : own_P f0 f1 ∧ own_P f1 f2 ∧ own_P f2 f3 ∧ own_P f3 f4) (p : Program) (e : Env) (s : State) (m : MethodId) (below : List Frame) (meth : Method) (c : Code) (hx : p.tables.exec = Jvm.exec) (hby : c.code = prog_59_method_7_code) (hml : c.maxLocals = 8) (hret : meth.sig.returnType = some .int) (hlk : meth.locks = false) (hown : s.vm.findClass "com/example/slantwise/slantwise/engine/WordIndex" = some m.cls) (hZ : Z.Warmed39 s.vm) : ∀ (T : State) (pos : Int32), Stand p l e ({ frames := 2, cells := 0, slots := 0, locals := 32 } : Room) s m #[(.ref w), (.int fr)] below meth c T [] 0 0 → T.heap = h0 → ∀ (xa : Addr) (wa : Int32), (0 ≤ pos.toInt ∧ pos.toInt ≤ 1048576 ∧ 1 ≤ pos.toInt) → own_N f0 fr.toNatClampNeg 3 pos.toNatClampNeg → Go p e below (EndP below s (fun v h L => ∃ r : Int32, v = some (.int r) ∧ Fr n0 L ∧ h = h0 ∧ ((r = -1 ∧ ∀ i, fr.toNatClampNeg ≤ i → own_b f0 i = false) ∨ (fr.toNatClampNeg ≤ r.toNatClampNeg ∧ 0 ≤ r.toInt ∧ r.toInt ≤ 1048640 ∧ own_b f0 r.toNatClampNeg = true ∧ ∀ i, fr.toNatClampNeg ≤ i → i < r.toNatClampNeg → own_b f0 i = false))) ({ frames := 2, cells := 0, slots := 0, locals := 32 } : Room).cells ({ frames := 2, cells := 0, slots := 0, locals := 32 } : Room).slots) T (mkF m 7 #[(sR w), (sI fr), (sI (3 : Int32)), (sI pos), (sJ (0 : Int64)), .second, (sR xa), (sI wa)] []) := by
  have climb4 := nxt_4 l Z a0 hw w lv kL x0 x1 x2 x3 x4 z0 z1 z2 z3 z4 f0 f1 f2 f3 f4 fr h0 n0 Z0 HW HC b0 b1 HP p e s m below meth c hx hby hml hret hlk hown hZ
  have N0 := Fr.nil n0
  obtain ⟨WE, WF, WA, WO, B0, B1, B2, B3, B4, gl, g0, g1, g2, g3, g4, ne_w_lv, ne_w_x0, ne_w_x1, ne_w_x2, ne_w_x3, ne_w_x4, ne_lv_x0, ne_lv_x1, ne_lv_x2, ne_lv_x3, ne_lv_x4, ne_x0_x1, ne_x0_x2, ne_x0_x3, ne_x0_x4, ne_x1_x2, ne_x1_x3, ne_x1_x4, ne_x2_x3, ne_x2_x4, ne_x3_x4⟩ := HW
  obtain ⟨c0a, c0b, c1a, c1b, c2a, c2b, c3a, c3b, c4a, c4b, d0, d1, d2, d3⟩ := HC
  obtain ⟨hp0, hp1, hp2, hp3⟩ := HP
  have U0 := own_U0 f0
  have U1 := own_US U0 hp0
  have U2 := own_US U1 hp1
  have U3 := own_US U2 hp2
  have U4 := own_US U3 hp3
  intro T pos X1 eT xa wa hpos hN
  refine Go.k 8 [(.int (3 : Int32))] ?_ fun _ k_ => XS.iloadN X1.here hx rfl (hb hby d16_7) rfl k_
  refine Go.k 9 [(.int (5 : Int32)), (.int (3 : Int32))] ?_ fun _ k_ => XT.iconstV X1.here hx rfl (5 : Int32) (hb hby d16_8) (by decide) k_
  refine Go.k 12 [] ?_ fun _ k_ => XS.icmpNo X1.here hx rfl (hb hby d16_9) rfl (by decide) k_
  refine Go.k 14 [(.long (0 : Int64))] ?_ fun _ k_ => XT.lload X1.here hx rfl (hb hby d16_12) rfl k_
  refine Go.k 15 [(.long (0 : Int64)), (.long (0 : Int64))] ?_ fun _ k_ => XT.lconstV X1.here hx rfl (0 : Int64) (hb hby d16_14) (by decide) k_
  refine Go.k 16 [(.int (lcmpW (0 : Int64) (0 : Int64)))] ?_ fun _ k_ => XT.lcmp X1.here hx rfl (hb hby d16_15) rfl k_
  refine Go.k 19 [] ?_ fun _ k_ => XS.ifNo X1.here hx rfl (hb hby d16_16) rfl ((if0 _ _).trans (teq ((lw_eq _ _).mpr (rfl : (0 : Int64) = (0 : Int64)))).2) k_
  refine Go.k 20 [(.ref w)] ?_ fun _ k_ => XS.aloadN X1.here hx rfl (hb hby d16_19) rfl rfl k_
  obtain ⟨T13, X13, e13, st13⟩ := getF X1 hx hZ hown (host := "") (Or.inl (wq hw 13 rfl)) Via.refl eT WF (g := (mkF m 20 #[(sR w), (sI fr), (sI (3 : Int32)), (sI pos), (sJ (0 : Int64)), .second, (sR xa), (sI wa)] [(.ref w)])) rfl rfl (hb hby d16_20)
  refine Go.t T13 23 [(.ref lv)] ?_ st13
  refine Go.k 24 [(.int (3 : Int32)), (.ref lv)] ?_ fun _ k_ => XS.iloadN X13.here hx rfl (hb hby d16_23) rfl k_
  refine Go.t T13 25 [(.ref x3)] ?_ (own_aaload X13 hx hZ e13 WA rfl (by decide) (by rw [show (3 : Int32).toNatClampNeg = 3 from by decide]; rfl) (g := (mkF m 24 #[(sR w), (sI fr), (sI (3 : Int32)), (sI pos), (sJ (0 : Int64)), .second, (sR xa), (sI wa)] [(.int (3 : Int32)), (.ref lv)])) rfl rfl (hb hby d16_24))
  refine Go.s (g' := (mkF m 27 #[(sR w), (sI fr), (sI (3 : Int32)), (sI pos), (sJ (0 : Int64)), .second, (sR x3), (sI wa)] [])) ?_ fun _ k_ => XS.astore X13.here hx rfl (hb hby d16_25) rfl rfl (l' := #[(sR w), (sI fr), (sI (3 : Int32)), (sI pos), (sJ (0 : Int64)), .second, (sR x3), (sI wa)]) rfl k_
  refine Go.k 28 [(.int pos)] ?_ fun _ k_ => XS.iloadN X13.here hx rfl (hb hby d16_27) rfl k_
  refine Go.k 30 [(.int (6 : Int32)), (.int pos)] ?_ fun _ k_ => XT.bipushV X13.here hx rfl (6 : Int32) (hb hby d16_28) (by decide) k_
  refine Go.k 31 [(.int (XT.ushr pos (6 : Int32)))] ?_ fun _ k_ => XT.iushr X13.here hx rfl (hb hby d16_30) rfl k_
  obtain ⟨wd, ewd⟩ : ∃ q_ : Int32, q_ = XT.ushr pos 6 := ⟨_, rfl⟩
  rw [← ewd]
  have hwd : wd.toInt = pos.toInt / 64 := by rw [ewd]; exact own_ushr6 _ (by omega)
  have nwd : wd.toNatClampNeg = pos.toNatClampNeg / 64 := by simp only [Int32.toNatClampNeg]; omega
  refine Go.s (g' := (mkF m 33 #[(sR w), (sI fr), (sI (3 : Int32)), (sI pos), (sJ (0 : Int64)), .second, (sR x3), (sI wd)] [])) ?_ fun _ k_ => XS.istore X13.here hx rfl (hb hby d16_31) rfl (l' := #[(sR w), (sI fr), (sI (3 : Int32)), (sI pos), (sJ (0 : Int64)), .second, (sR x3), (sI wd)]) rfl k_
  refine Go.k 35 [(.int wd)] ?_ fun _ k_ => XS.iload X13.here hx rfl (hb hby d16_33) rfl k_
  refine Go.k 37 [(.ref x3), (.int wd)] ?_ fun _ k_ => XS.aload X13.here hx rfl (hb hby d16_35) rfl rfl k_
  refine Go.t T13 38 [(.int z3), (.int wd)] ?_ (own_laN X13 hx hZ e13 B3 (g := (mkF m 37 #[(sR w), (sI fr), (sI (3 : Int32)), (sI pos), (sJ (0 : Int64)), .second, (sR x3), (sI wd)] [(.ref x3), (.int wd)])) rfl rfl (hb hby d16_37))
  by_cases hc14 : wd < z3
  · refine Go.k 41 [] ?_ fun _ k_ => XS.icmpNo X13.here hx rfl (hb hby d16_38) rfl (tlt hc14).2.1 k_
    refine Go.k 43 [(.ref x3)] ?_ fun _ k_ => XS.aload X13.here hx rfl (hb hby d16_41) rfl rfl k_
    refine Go.k 45 [(.int wd), (.ref x3)] ?_ fun _ k_ => XS.iload X13.here hx rfl (hb hby d16_43) rfl k_
    refine Go.t T13 46 [(.long (f3 wd.toNatClampNeg))] ?_ (own_laL X13 hx hZ e13 B3 ⟨own_i_nlt rfl (by decide : (0 : Int32).toInt = 0) (by omega), hc14⟩ (g := (mkF m 45 #[(sR w), (sI fr), (sI (3 : Int32)), (sI pos), (sJ (0 : Int64)), .second, (sR x3), (sI wd)] [(.int wd), (.ref x3)])) rfl rfl (hb hby d16_45))
    refine Go.k 49 [(.long (-1 : Int64)), (.long (f3 wd.toNatClampNeg))] ?_ fun _ k_ => X13.ldc2J hx hown (mvT hZ (wq hw 29 rfl)) rfl (hb hby d16_46) k_
    refine Go.k 50 [(.int pos), (.long (-1 : Int64)), (.long (f3 wd.toNatClampNeg))] ?_ fun _ k_ => XS.iloadN X13.here hx rfl (hb hby d16_49) rfl k_
    refine Go.k 51 [(.long ((-1 : Int64) <<< (pos.toInt64 &&& 63))), (.long (f3 wd.toNatClampNeg))] ?_ fun _ k_ => XT.lshl X13.here hx rfl (hb hby d16_50) rfl k_
    refine Go.k 52 [(.long ((f3 wd.toNatClampNeg) &&& ((-1 : Int64) <<< (pos.toInt64 &&& 63))))] ?_ fun _ k_ => XT.land X13.here hx rfl (hb hby d16_51) rfl k_
    refine Go.k 56 [(.long ((f3 wd.toNatClampNeg) &&& ((-1 : Int64) <<< (pos.toInt64 &&& 63))))] ?_ fun _ k_ => XS.goto X13.here hx rfl (pc0 := 52) (pc' := 56) rfl (hb hby d16_52) (by decide) (by decide) k_
    obtain ⟨bt, ebt⟩ : ∃ q_ : Int64, q_ = ((f3 wd.toNatClampNeg) &&& ((-1 : Int64) <<< (pos.toInt64 &&& 63))) := ⟨_, rfl⟩
    rw [← ebt]
    rw [nwd] at ebt
    have hin := Int32.lt_iff_toInt_lt.mp hc14
    refine Go.s (g' := (mkF m 58 #[(sR w), (sI fr), (sI (3 : Int32)), (sI pos), (sJ bt), .second, (sR x3), (sI wd)] [])) ?_ fun _ k_ => XT.lstore X13.here hx rfl (hb hby d16_56) rfl (l' := #[(sR w), (sI fr), (sI (3 : Int32)), (sI pos), (sJ bt), .second, (sR x3), (sI wd)]) rfl k_
    refine Go.k 60 [(.long bt)] ?_ fun _ k_ => XT.lload X13.here hx rfl (hb hby d16_58) rfl k_
    refine Go.k 61 [(.long (0 : Int64)), (.long bt)] ?_ fun _ k_ => XT.lconstV X13.here hx rfl (0 : Int64) (hb hby d16_60) (by decide) k_
    refine Go.k 62 [(.int (lcmpW bt (0 : Int64)))] ?_ fun _ k_ => XT.lcmp X13.here hx rfl (hb hby d16_61) rfl k_
    by_cases hc15 : bt = (0 : Int64)
    · refine Go.k 65 [] ?_ fun _ k_ => XS.ifNo X13.here hx rfl (hb hby d16_62) rfl ((if0 _ _).trans (teq ((lw_eq _ _).mpr hc15)).2) k_
      refine Go.k 67 [(.int wd)] ?_ fun _ k_ => XS.iload X13.here hx rfl (hb hby d16_65) rfl k_
      refine Go.k 68 [(.int (1 : Int32)), (.int wd)] ?_ fun _ k_ => XT.iconstV X13.here hx rfl (1 : Int32) (hb hby d16_67) (by decide) k_
      refine Go.k 69 [(.int (wd + (1 : Int32)))] ?_ fun _ k_ => XS.iadd X13.here hx rfl (hb hby d16_68) rfl k_
      refine Go.k 83 [(.int (wd + (1 : Int32)))] ?_ fun _ k_ => XS.goto X13.here hx rfl (pc0 := 69) (pc' := 83) rfl (hb hby d16_69) (by decide) (by decide) k_
      have a1 := c_iadd wd 1
      have a2 : (1 : Int32).toInt = 1 := by decide
      obtain ⟨a3, a4⟩ := rng32 (wd + 1)
      obtain ⟨ps, eps⟩ : ∃ q_ : Int32, q_ = wd + 1 := ⟨_, rfl⟩
      rw [← eps] at a1 a3 a4 ⊢
      have hps : ps.toInt = wd.toInt + 1 := by omega
      have nps : ps.toNatClampNeg = pos.toNatClampNeg / 64 + 1 := by simp only [Int32.toNatClampNeg]; omega
      rw [hc15]
      refine Go.s (g' := (mkF m 84 #[(sR w), (sI fr), (sI (3 : Int32)), (sI ps), (sJ (0 : Int64)), .second, (sR x3), (sI wd)] [])) ?_ fun _ k_ => XS.istoreN X13.here hx rfl (hb hby d16_83) rfl (l' := #[(sR w), (sI fr), (sI (3 : Int32)), (sI ps), (sJ (0 : Int64)), .second, (sR x3), (sI wd)]) rfl k_
      refine Go.s (g' := (mkF m 87 #[(sR w), (sI fr), (sI (4 : Int32)), (sI ps), (sJ (0 : Int64)), .second, (sR x3), (sI wd)] [])) ?_ fun _ k_ => XT.iincV X13.here hx rfl (1 : Int32) (hb hby d16_84) (by decide) rfl (l' := #[(sR w), (sI fr), (sI (4 : Int32)), (sI ps), (sJ (0 : Int64)), .second, (sR x3), (sI wd)]) rfl k_
      refine Go.k 7 [] ?_ fun _ k_ => XS.goto X13.here hx rfl (pc0 := 87) (pc' := 7) rfl (hb hby d16_87) (by decide) (by decide) k_
      exact climb4 T13 ps X13 e13 x3 wd (by omega) (by rw [nps]; exact hN.step U3 (own_scan0 (by omega) (ebt.symm.trans hc15)))
    · refine Go.k 72 [] ?_ fun _ k_ => XS.ifYes X13.here hx rfl (pc0 := 62) (pc' := 72) rfl (hb hby d16_62) rfl ((if0 _ _).trans (feq (fun q_ => hc15 ((lw_eq _ _).mp q_))).2) (by decide) (by decide) k_
      refine Go.k 74 [(.int wd)] ?_ fun _ k_ => XS.iload X13.here hx rfl (hb hby d16_72) rfl k_
      refine Go.k 76 [(.int (6 : Int32)), (.int wd)] ?_ fun _ k_ => XT.bipushV X13.here hx rfl (6 : Int32) (hb hby d16_74) (by decide) k_
      refine Go.k 77 [(.int (wd <<< ((6 : Int32) &&& 31)))] ?_ fun _ k_ => XT.ishl X13.here hx rfl (hb hby d16_76) rfl k_
      refine Go.k 79 [(.long bt), (.int (wd <<< ((6 : Int32) &&& 31)))] ?_ fun _ k_ => XT.lload X13.here hx rfl (hb hby d16_77) rfl k_
      refine Go.callS X13 hx hZ hown (wq hw 45 rfl) (wq hw 46 rfl) (wq hw 47 rfl) (wq hw 48 rfl) (by decide) (rntl l Z a0 hw [] bt  h0 n0 Z0 ) e13 (by decide) (W := 1) (by decide) (by decide) (by decide) (g := (mkF m 79 #[(sR w), (sI fr), (sI (3 : Int32)), (sI pos), (sJ bt), .second, (sR x3), (sI wd)] [(.long bt), (.int (wd <<< ((6 : Int32) &&& 31)))])) (rest := [(.int (wd <<< ((6 : Int32) &&& 31)))]) rfl (by rw [hml]; rfl) (lenOf pd__J_I rfl) rfl (by show 2 * 0 + _ ≤ _; exact Nat.le_of_eq rfl) (hb hby d16_79) ?_
      rintro v16 T16 L16 X16 ⟨rfl, N16, e16⟩
      have M16 := Fr.app N0 N16
      show Go p e below _ T16 (mkF m 82 #[(sR w), (sI fr), (sI (3 : Int32)), (sI pos), (sJ bt), .second, (sR x3), (sI wd)] [(.int (own_ntzL bt)), (.int (wd <<< ((6 : Int32) &&& 31)))])
      refine Go.k 83 [(.int ((wd <<< ((6 : Int32) &&& 31)) + (own_ntzL bt)))] ?_ fun _ k_ => XS.iadd X16.here hx rfl (hb hby d16_82) rfl k_
      obtain ⟨nt, hnt, ent, bnt, lnt⟩ := own_ntz bt hc15
      obtain ⟨hps3, nps⟩ := own_shl6 wd bt nt (by omega) (by omega) ent hnt
      obtain ⟨ps3, eps⟩ : ∃ q_ : Int32, q_ = (wd <<< ((6 : Int32) &&& 31)) + (own_ntzL bt) := ⟨_, rfl⟩
      rw [← eps] at hps3 nps ⊢
      rw [nwd] at nps
      rw [ebt] at bnt lnt
      obtain ⟨q1, q2, q3⟩ := own_scan1 (by omega) hnt bnt lnt
      rw [← nps] at q1 q2 q3
      have D3 : own_D f0 f3 fr.toNatClampNeg 3 ps3.toNatClampNeg := hN.find U3 q1 q2 q3
      refine Go.s (g' := (mkF m 84 #[(sR w), (sI fr), (sI (3 : Int32)), (sI ps3), (sJ bt), .second, (sR x3), (sI wd)] [])) ?_ fun _ k_ => XS.istoreN X16.here hx rfl (hb hby d16_83) rfl (l' := #[(sR w), (sI fr), (sI (3 : Int32)), (sI ps3), (sJ bt), .second, (sR x3), (sI wd)]) rfl k_
      refine Go.s (g' := (mkF m 87 #[(sR w), (sI fr), (sI (4 : Int32)), (sI ps3), (sJ bt), .second, (sR x3), (sI wd)] [])) ?_ fun _ k_ => XT.iincV X16.here hx rfl (1 : Int32) (hb hby d16_84) (by decide) rfl (l' := #[(sR w), (sI fr), (sI (4 : Int32)), (sI ps3), (sJ bt), .second, (sR x3), (sI wd)]) rfl k_
      refine Go.k 7 [] ?_ fun _ k_ => XS.goto X16.here hx rfl (pc0 := 87) (pc' := 7) rfl (hb hby d16_87) (by decide) (by decide) k_
      refine Go.k 8 [(.int (4 : Int32))] ?_ fun _ k_ => XS.iloadN X16.here hx rfl (hb hby d16_7) rfl k_
      refine Go.k 9 [(.int (5 : Int32)), (.int (4 : Int32))] ?_ fun _ k_ => XT.iconstV X16.here hx rfl (5 : Int32) (hb hby d16_8) (by decide) k_
      refine Go.k 12 [] ?_ fun _ k_ => XS.icmpNo X16.here hx rfl (hb hby d16_9) rfl (by decide) k_
      refine Go.k 14 [(.long bt)] ?_ fun _ k_ => XT.lload X16.here hx rfl (hb hby d16_12) rfl k_
      refine Go.k 15 [(.long (0 : Int64)), (.long bt)] ?_ fun _ k_ => XT.lconstV X16.here hx rfl (0 : Int64) (hb hby d16_14) (by decide) k_
      refine Go.k 16 [(.int (lcmpW bt (0 : Int64)))] ?_ fun _ k_ => XT.lcmp X16.here hx rfl (hb hby d16_15) rfl k_
      refine Go.k 90 [] ?_ fun _ k_ => XS.ifYes X16.here hx rfl (pc0 := 16) (pc' := 90) rfl (hb hby d16_16) rfl ((if0 _ _).trans (feq (fun q_ => (hc15 : ¬ bt = (0 : Int64)) ((lw_eq _ _).mp q_))).2) (by decide) (by decide) k_
      refine Go.k 91 [(.int (-1 : Int32))] ?_ fun _ k_ => XT.iconstV X16.here hx rfl (-1 : Int32) (hb hby d16_90) (by decide) k_
      refine Go.s (g' := (mkF m 93 #[(sR w), (sI fr), (sI (4 : Int32)), (sI ps3), (sJ bt), .second, (sI (-1 : Int32)), (sI wd)] [])) ?_ fun _ k_ => XS.istore X16.here hx rfl (hb hby d16_91) rfl (l' := #[(sR w), (sI fr), (sI (4 : Int32)), (sI ps3), (sJ bt), .second, (sI (-1 : Int32)), (sI wd)]) rfl k_
      refine Go.k 95 [(.long bt)] ?_ fun _ k_ => XT.lload X16.here hx rfl (hb hby d16_93) rfl k_
      refine Go.k 96 [(.long (0 : Int64)), (.long bt)] ?_ fun _ k_ => XT.lconstV X16.here hx rfl (0 : Int64) (hb hby d16_95) (by decide) k_
      refine Go.k 97 [(.int (lcmpW bt (0 : Int64)))] ?_ fun _ k_ => XT.lcmp X16.here hx rfl (hb hby d16_96) rfl k_
      refine Go.k 100 [] ?_ fun _ k_ => XS.ifNo X16.here hx rfl (hb hby d16_97) rfl ((if0 _ _).trans (feq (fun q_ => (hc15 : ¬ bt = (0 : Int64)) ((lw_eq _ _).mp q_))).1) k_
      refine Go.k 101 [(.int (4 : Int32))] ?_ fun _ k_ => XS.iloadN X16.here hx rfl (hb hby d16_100) rfl k_
      refine Go.k 102 [(.int (2 : Int32)), (.int (4 : Int32))] ?_ fun _ k_ => XT.iconstV X16.here hx rfl (2 : Int32) (hb hby d16_101) (by decide) k_
      refine Go.k 103 [(.int (2 : Int32))] ?_ fun _ k_ => XS.isub X16.here hx rfl (hb hby d16_102) rfl k_
      refine Go.s (g' := (mkF m 105 #[(sR w), (sI fr), (sI (4 : Int32)), (sI ps3), (sJ bt), .second, (sI (-1 : Int32)), (sI (2 : Int32))] [])) ?_ fun _ k_ => XS.istore X16.here hx rfl (hb hby d16_103) rfl (l' := #[(sR w), (sI fr), (sI (4 : Int32)), (sI ps3), (sJ bt), .second, (sI (-1 : Int32)), (sI (2 : Int32))]) rfl k_
      refine Go.k 107 [(.int (2 : Int32))] ?_ fun _ k_ => XS.iload X16.here hx rfl (hb hby d16_105) rfl k_
      refine Go.k 110 [] ?_ fun _ k_ => XS.ifNo X16.here hx rfl (hb hby d16_107) rfl (by decide) k_
      refine Go.k 111 [(.int ps3)] ?_ fun _ k_ => XS.iloadN X16.here hx rfl (hb hby d16_110) rfl k_
      refine Go.k 113 [(.int (6 : Int32)), (.int ps3)] ?_ fun _ k_ => XT.bipushV X16.here hx rfl (6 : Int32) (hb hby d16_111) (by decide) k_
      refine Go.k 114 [(.int (ps3 <<< ((6 : Int32) &&& 31)))] ?_ fun _ k_ => XT.ishl X16.here hx rfl (hb hby d16_113) rfl k_
      refine Go.k 115 [(.ref w), (.int (ps3 <<< ((6 : Int32) &&& 31)))] ?_ fun _ k_ => XS.aloadN X16.here hx rfl (hb hby d16_114) rfl rfl k_
      obtain ⟨T17, X17, e17, st17⟩ := getF X16 hx hZ hown (host := "") (Or.inl (wq hw 13 rfl)) Via.refl e16 WF (g := (mkF m 115 #[(sR w), (sI fr), (sI (4 : Int32)), (sI ps3), (sJ bt), .second, (sI (-1 : Int32)), (sI (2 : Int32))] [(.ref w), (.int (ps3 <<< ((6 : Int32) &&& 31)))])) rfl rfl (hb hby d16_115)
      refine Go.t T17 118 [(.ref lv), (.int (ps3 <<< ((6 : Int32) &&& 31)))] ?_ st17
      refine Go.k 120 [(.int (2 : Int32)), (.ref lv), (.int (ps3 <<< ((6 : Int32) &&& 31)))] ?_ fun _ k_ => XS.iload X17.here hx rfl (hb hby d16_118) rfl k_
      refine Go.t T17 121 [(.ref x2), (.int (ps3 <<< ((6 : Int32) &&& 31)))] ?_ (own_aaload X17 hx hZ e17 WA rfl (by decide) (by rw [show (2 : Int32).toNatClampNeg = 2 from by decide]; rfl) (g := (mkF m 120 #[(sR w), (sI fr), (sI (4 : Int32)), (sI ps3), (sJ bt), .second, (sI (-1 : Int32)), (sI (2 : Int32))] [(.int (2 : Int32)), (.ref lv), (.int (ps3 <<< ((6 : Int32) &&& 31)))])) rfl rfl (hb hby d16_120))
      refine Go.k 122 [(.int ps3), (.ref x2), (.int (ps3 <<< ((6 : Int32) &&& 31)))] ?_ fun _ k_ => XS.iloadN X17.here hx rfl (hb hby d16_121) rfl k_
      have nz2 := D3.ne hp2
      have lt2 : ps3.toNatClampNeg < z2.toNatClampNeg := Nat.lt_of_not_le fun q_ => nz2 (B2.2 _ q_)
      have li2 : ps3.toInt < z2.toInt := by simp only [Int32.toNatClampNeg] at lt2; omega
      refine Go.t T17 123 [(.long (f2 ps3.toNatClampNeg)), (.int (ps3 <<< ((6 : Int32) &&& 31)))] ?_ (own_laL X17 hx hZ e17 B2 ⟨own_i_nlt rfl (by decide : (0 : Int32).toInt = 0) (by omega), own_i_lt rfl rfl (by omega)⟩ (g := (mkF m 122 #[(sR w), (sI fr), (sI (4 : Int32)), (sI ps3), (sJ bt), .second, (sI (-1 : Int32)), (sI (2 : Int32))] [(.int ps3), (.ref x2), (.int (ps3 <<< ((6 : Int32) &&& 31)))])) rfl rfl (hb hby d16_122))
      refine Go.callS X17 hx hZ hown (wq hw 45 rfl) (wq hw 46 rfl) (wq hw 47 rfl) (wq hw 48 rfl) (by decide) (rntl l Z a0 hw [] (f2 ps3.toNatClampNeg)  h0 n0 Z0 ) e17 (by decide) (W := 1) (by decide) (by decide) (by decide) (g := (mkF m 123 #[(sR w), (sI fr), (sI (4 : Int32)), (sI ps3), (sJ bt), .second, (sI (-1 : Int32)), (sI (2 : Int32))] [(.long (f2 ps3.toNatClampNeg)), (.int (ps3 <<< ((6 : Int32) &&& 31)))])) (rest := [(.int (ps3 <<< ((6 : Int32) &&& 31)))]) rfl (by rw [hml]; rfl) (lenOf pd__J_I rfl) rfl (by show 2 * 0 + _ ≤ _; exact Nat.le_of_eq rfl) (hb hby d16_123) ?_
      rintro v18 T18 L18 X18 ⟨rfl, N18, e18⟩
      have M18 := Fr.app M16 N18
      show Go p e below _ T18 (mkF m 126 #[(sR w), (sI fr), (sI (4 : Int32)), (sI ps3), (sJ bt), .second, (sI (-1 : Int32)), (sI (2 : Int32))] [(.int (own_ntzL (f2 ps3.toNatClampNeg))), (.int (ps3 <<< ((6 : Int32) &&& 31)))])
      refine Go.k 127 [(.int ((ps3 <<< ((6 : Int32) &&& 31)) + (own_ntzL (f2 ps3.toNatClampNeg))))] ?_ fun _ k_ => XS.iadd X18.here hx rfl (hb hby d16_126) rfl k_
      obtain ⟨nt2, hnt2, ent2, bnt2, lnt2⟩ := own_ntz (f2 ps3.toNatClampNeg) nz2
      obtain ⟨hps2, nps2⟩ := own_shl6 ps3 (f2 ps3.toNatClampNeg) nt2 (by omega) (by omega) ent2 hnt2
      obtain ⟨ps2, eps2⟩ : ∃ q_ : Int32, q_ = (ps3 <<< ((6 : Int32) &&& 31)) + (own_ntzL (f2 ps3.toNatClampNeg)) := ⟨_, rfl⟩
      rw [← eps2] at hps2 nps2 ⊢
      have D2 : own_D f0 f2 fr.toNatClampNeg 2 ps2.toNatClampNeg := own_D.down U2 D3 hnt2 nps2 bnt2 lnt2
      refine Go.s (g' := (mkF m 128 #[(sR w), (sI fr), (sI (4 : Int32)), (sI ps2), (sJ bt), .second, (sI (-1 : Int32)), (sI (2 : Int32))] [])) ?_ fun _ k_ => XS.istoreN X18.here hx rfl (hb hby d16_127) rfl (l' := #[(sR w), (sI fr), (sI (4 : Int32)), (sI ps2), (sJ bt), .second, (sI (-1 : Int32)), (sI (2 : Int32))]) rfl k_
      refine Go.s (g' := (mkF m 131 #[(sR w), (sI fr), (sI (4 : Int32)), (sI ps2), (sJ bt), .second, (sI (-1 : Int32)), (sI (1 : Int32))] [])) ?_ fun _ k_ => XT.iincV X18.here hx rfl (-1 : Int32) (hb hby d16_128) (by decide) rfl (l' := #[(sR w), (sI fr), (sI (4 : Int32)), (sI ps2), (sJ bt), .second, (sI (-1 : Int32)), (sI (1 : Int32))]) rfl k_
      refine Go.k 105 [] ?_ fun _ k_ => XS.goto X18.here hx rfl (pc0 := 131) (pc' := 105) rfl (hb hby d16_131) (by decide) (by decide) k_
      refine Go.k 107 [(.int (1 : Int32))] ?_ fun _ k_ => XS.iload X18.here hx rfl (hb hby d16_105) rfl k_
      refine Go.k 110 [] ?_ fun _ k_ => XS.ifNo X18.here hx rfl (hb hby d16_107) rfl (by decide) k_
      refine Go.k 111 [(.int ps2)] ?_ fun _ k_ => XS.iloadN X18.here hx rfl (hb hby d16_110) rfl k_
      refine Go.k 113 [(.int (6 : Int32)), (.int ps2)] ?_ fun _ k_ => XT.bipushV X18.here hx rfl (6 : Int32) (hb hby d16_111) (by decide) k_
      refine Go.k 114 [(.int (ps2 <<< ((6 : Int32) &&& 31)))] ?_ fun _ k_ => XT.ishl X18.here hx rfl (hb hby d16_113) rfl k_
      refine Go.k 115 [(.ref w), (.int (ps2 <<< ((6 : Int32) &&& 31)))] ?_ fun _ k_ => XS.aloadN X18.here hx rfl (hb hby d16_114) rfl rfl k_
      obtain ⟨T19, X19, e19, st19⟩ := getF X18 hx hZ hown (host := "") (Or.inl (wq hw 13 rfl)) Via.refl e18 WF (g := (mkF m 115 #[(sR w), (sI fr), (sI (4 : Int32)), (sI ps2), (sJ bt), .second, (sI (-1 : Int32)), (sI (1 : Int32))] [(.ref w), (.int (ps2 <<< ((6 : Int32) &&& 31)))])) rfl rfl (hb hby d16_115)
      refine Go.t T19 118 [(.ref lv), (.int (ps2 <<< ((6 : Int32) &&& 31)))] ?_ st19
      refine Go.k 120 [(.int (1 : Int32)), (.ref lv), (.int (ps2 <<< ((6 : Int32) &&& 31)))] ?_ fun _ k_ => XS.iload X19.here hx rfl (hb hby d16_118) rfl k_
      refine Go.t T19 121 [(.ref x1), (.int (ps2 <<< ((6 : Int32) &&& 31)))] ?_ (own_aaload X19 hx hZ e19 WA rfl (by decide) (by rw [show (1 : Int32).toNatClampNeg = 1 from by decide]; rfl) (g := (mkF m 120 #[(sR w), (sI fr), (sI (4 : Int32)), (sI ps2), (sJ bt), .second, (sI (-1 : Int32)), (sI (1 : Int32))] [(.int (1 : Int32)), (.ref lv), (.int (ps2 <<< ((6 : Int32) &&& 31)))])) rfl rfl (hb hby d16_120))
      refine Go.k 122 [(.int ps2), (.ref x1), (.int (ps2 <<< ((6 : Int32) &&& 31)))] ?_ fun _ k_ => XS.iloadN X19.here hx rfl (hb hby d16_121) rfl k_
      have nz1 := D2.ne hp1
      have lt1 : ps2.toNatClampNeg < z1.toNatClampNeg := Nat.lt_of_not_le fun q_ => nz1 (B1.2 _ q_)
      have li1 : ps2.toInt < z1.toInt := by simp only [Int32.toNatClampNeg] at lt1; omega
      refine Go.t T19 123 [(.long (f1 ps2.toNatClampNeg)), (.int (ps2 <<< ((6 : Int32) &&& 31)))] ?_ (own_laL X19 hx hZ e19 B1 ⟨own_i_nlt rfl (by decide : (0 : Int32).toInt = 0) (by omega), own_i_lt rfl rfl (by omega)⟩ (g := (mkF m 122 #[(sR w), (sI fr), (sI (4 : Int32)), (sI ps2), (sJ bt), .second, (sI (-1 : Int32)), (sI (1 : Int32))] [(.int ps2), (.ref x1), (.int (ps2 <<< ((6 : Int32) &&& 31)))])) rfl rfl (hb hby d16_122))
      refine Go.callS X19 hx hZ hown (wq hw 45 rfl) (wq hw 46 rfl) (wq hw 47 rfl) (wq hw 48 rfl) (by decide) (rntl l Z a0 hw [] (f1 ps2.toNatClampNeg)  h0 n0 Z0 ) e19 (by decide) (W := 1) (by decide) (by decide) (by decide) (g := (mkF m 123 #[(sR w), (sI fr), (sI (4 : Int32)), (sI ps2), (sJ bt), .second, (sI (-1 : Int32)), (sI (1 : Int32))] [(.long (f1 ps2.toNatClampNeg)), (.int (ps2 <<< ((6 : Int32) &&& 31)))])) (rest := [(.int (ps2 <<< ((6 : Int32) &&& 31)))]) rfl (by rw [hml]; rfl) (lenOf pd__J_I rfl) rfl (by show 2 * 0 + _ ≤ _; exact Nat.le_of_eq rfl) (hb hby d16_123) ?_
      rintro v20 T20 L20 X20 ⟨rfl, N20, e20⟩
      have M20 := Fr.app M18 N20
      show Go p e below _ T20 (mkF m 126 #[(sR w), (sI fr), (sI (4 : Int32)), (sI ps2), (sJ bt), .second, (sI (-1 : Int32)), (sI (1 : Int32))] [(.int (own_ntzL (f1 ps2.toNatClampNeg))), (.int (ps2 <<< ((6 : Int32) &&& 31)))])
      refine Go.k 127 [(.int ((ps2 <<< ((6 : Int32) &&& 31)) + (own_ntzL (f1 ps2.toNatClampNeg))))] ?_ fun _ k_ => XS.iadd X20.here hx rfl (hb hby d16_126) rfl k_
      obtain ⟨nt1, hnt1, ent1, bnt1, lnt1⟩ := own_ntz (f1 ps2.toNatClampNeg) nz1
      obtain ⟨hps1, nps1⟩ := own_shl6 ps2 (f1 ps2.toNatClampNeg) nt1 (by omega) (by omega) ent1 hnt1
      obtain ⟨ps1, eps1⟩ : ∃ q_ : Int32, q_ = (ps2 <<< ((6 : Int32) &&& 31)) + (own_ntzL (f1 ps2.toNatClampNeg)) := ⟨_, rfl⟩
      rw [← eps1] at hps1 nps1 ⊢
      have D1 : own_D f0 f1 fr.toNatClampNeg 1 ps1.toNatClampNeg := own_D.down U1 D2 hnt1 nps1 bnt1 lnt1
      refine Go.s (g' := (mkF m 128 #[(sR w), (sI fr), (sI (4 : Int32)), (sI ps1), (sJ bt), .second, (sI (-1 : Int32)), (sI (1 : Int32))] [])) ?_ fun _ k_ => XS.istoreN X20.here hx rfl (hb hby d16_127) rfl (l' := #[(sR w), (sI fr), (sI (4 : Int32)), (sI ps1), (sJ bt), .second, (sI (-1 : Int32)), (sI (1 : Int32))]) rfl k_
      refine Go.s (g' := (mkF m 131 #[(sR w), (sI fr), (sI (4 : Int32)), (sI ps1), (sJ bt), .second, (sI (-1 : Int32)), (sI (0 : Int32))] [])) ?_ fun _ k_ => XT.iincV X20.here hx rfl (-1 : Int32) (hb hby d16_128) (by decide) rfl (l' := #[(sR w), (sI fr), (sI (4 : Int32)), (sI ps1), (sJ bt), .second, (sI (-1 : Int32)), (sI (0 : Int32))]) rfl k_
      refine Go.k 105 [] ?_ fun _ k_ => XS.goto X20.here hx rfl (pc0 := 131) (pc' := 105) rfl (hb hby d16_131) (by decide) (by decide) k_
      refine Go.k 107 [(.int (0 : Int32))] ?_ fun _ k_ => XS.iload X20.here hx rfl (hb hby d16_105) rfl k_
      refine Go.k 110 [] ?_ fun _ k_ => XS.ifNo X20.here hx rfl (hb hby d16_107) rfl (by decide) k_
      refine Go.k 111 [(.int ps1)] ?_ fun _ k_ => XS.iloadN X20.here hx rfl (hb hby d16_110) rfl k_
      refine Go.k 113 [(.int (6 : Int32)), (.int ps1)] ?_ fun _ k_ => XT.bipushV X20.here hx rfl (6 : Int32) (hb hby d16_111) (by decide) k_
      refine Go.k 114 [(.int (ps1 <<< ((6 : Int32) &&& 31)))] ?_ fun _ k_ => XT.ishl X20.here hx rfl (hb hby d16_113) rfl k_
      refine Go.k 115 [(.ref w), (.int (ps1 <<< ((6 : Int32) &&& 31)))] ?_ fun _ k_ => XS.aloadN X20.here hx rfl (hb hby d16_114) rfl rfl k_
      obtain ⟨T21, X21, e21, st21⟩ := getF X20 hx hZ hown (host := "") (Or.inl (wq hw 13 rfl)) Via.refl e20 WF (g := (mkF m 115 #[(sR w), (sI fr), (sI (4 : Int32)), (sI ps1), (sJ bt), .second, (sI (-1 : Int32)), (sI (0 : Int32))] [(.ref w), (.int (ps1 <<< ((6 : Int32) &&& 31)))])) rfl rfl (hb hby d16_115)
      refine Go.t T21 118 [(.ref lv), (.int (ps1 <<< ((6 : Int32) &&& 31)))] ?_ st21
      refine Go.k 120 [(.int (0 : Int32)), (.ref lv), (.int (ps1 <<< ((6 : Int32) &&& 31)))] ?_ fun _ k_ => XS.iload X21.here hx rfl (hb hby d16_118) rfl k_
      refine Go.t T21 121 [(.ref x0), (.int (ps1 <<< ((6 : Int32) &&& 31)))] ?_ (own_aaload X21 hx hZ e21 WA rfl (by decide) (by rw [show (0 : Int32).toNatClampNeg = 0 from by decide]; rfl) (g := (mkF m 120 #[(sR w), (sI fr), (sI (4 : Int32)), (sI ps1), (sJ bt), .second, (sI (-1 : Int32)), (sI (0 : Int32))] [(.int (0 : Int32)), (.ref lv), (.int (ps1 <<< ((6 : Int32) &&& 31)))])) rfl rfl (hb hby d16_120))
      refine Go.k 122 [(.int ps1), (.ref x0), (.int (ps1 <<< ((6 : Int32) &&& 31)))] ?_ fun _ k_ => XS.iloadN X21.here hx rfl (hb hby d16_121) rfl k_
      have nz0 := D1.ne hp0
      have lt0 : ps1.toNatClampNeg < z0.toNatClampNeg := Nat.lt_of_not_le fun q_ => nz0 (B0.2 _ q_)
      have li0 : ps1.toInt < z0.toInt := by simp only [Int32.toNatClampNeg] at lt0; omega
      refine Go.t T21 123 [(.long (f0 ps1.toNatClampNeg)), (.int (ps1 <<< ((6 : Int32) &&& 31)))] ?_ (own_laL X21 hx hZ e21 B0 ⟨own_i_nlt rfl (by decide : (0 : Int32).toInt = 0) (by omega), own_i_lt rfl rfl (by omega)⟩ (g := (mkF m 122 #[(sR w), (sI fr), (sI (4 : Int32)), (sI ps1), (sJ bt), .second, (sI (-1 : Int32)), (sI (0 : Int32))] [(.int ps1), (.ref x0), (.int (ps1 <<< ((6 : Int32) &&& 31)))])) rfl rfl (hb hby d16_122))
      refine Go.callS X21 hx hZ hown (wq hw 45 rfl) (wq hw 46 rfl) (wq hw 47 rfl) (wq hw 48 rfl) (by decide) (rntl l Z a0 hw [] (f0 ps1.toNatClampNeg)  h0 n0 Z0 ) e21 (by decide) (W := 1) (by decide) (by decide) (by decide) (g := (mkF m 123 #[(sR w), (sI fr), (sI (4 : Int32)), (sI ps1), (sJ bt), .second, (sI (-1 : Int32)), (sI (0 : Int32))] [(.long (f0 ps1.toNatClampNeg)), (.int (ps1 <<< ((6 : Int32) &&& 31)))])) (rest := [(.int (ps1 <<< ((6 : Int32) &&& 31)))]) rfl (by rw [hml]; rfl) (lenOf pd__J_I rfl) rfl (by show 2 * 0 + _ ≤ _; exact Nat.le_of_eq rfl) (hb hby d16_123) ?_
      rintro v22 T22 L22 X22 ⟨rfl, N22, e22⟩
      have M22 := Fr.app M20 N22
      show Go p e below _ T22 (mkF m 126 #[(sR w), (sI fr), (sI (4 : Int32)), (sI ps1), (sJ bt), .second, (sI (-1 : Int32)), (sI (0 : Int32))] [(.int (own_ntzL (f0 ps1.toNatClampNeg))), (.int (ps1 <<< ((6 : Int32) &&& 31)))])
      refine Go.k 127 [(.int ((ps1 <<< ((6 : Int32) &&& 31)) + (own_ntzL (f0 ps1.toNatClampNeg))))] ?_ fun _ k_ => XS.iadd X22.here hx rfl (hb hby d16_126) rfl k_
      obtain ⟨nt0, hnt0, ent0, bnt0, lnt0⟩ := own_ntz (f0 ps1.toNatClampNeg) nz0
      obtain ⟨hps0, nps0⟩ := own_shl6 ps1 (f0 ps1.toNatClampNeg) nt0 (by omega) (by omega) ent0 hnt0
      obtain ⟨ps0, eps0⟩ : ∃ q_ : Int32, q_ = (ps1 <<< ((6 : Int32) &&& 31)) + (own_ntzL (f0 ps1.toNatClampNeg)) := ⟨_, rfl⟩
      rw [← eps0] at hps0 nps0 ⊢
      have D0 : own_D f0 f0 fr.toNatClampNeg 0 ps0.toNatClampNeg := own_D.down U0 D1 hnt0 nps0 bnt0 lnt0
      refine Go.s (g' := (mkF m 128 #[(sR w), (sI fr), (sI (4 : Int32)), (sI ps0), (sJ bt), .second, (sI (-1 : Int32)), (sI (0 : Int32))] [])) ?_ fun _ k_ => XS.istoreN X22.here hx rfl (hb hby d16_127) rfl (l' := #[(sR w), (sI fr), (sI (4 : Int32)), (sI ps0), (sJ bt), .second, (sI (-1 : Int32)), (sI (0 : Int32))]) rfl k_
      refine Go.s (g' := (mkF m 131 #[(sR w), (sI fr), (sI (4 : Int32)), (sI ps0), (sJ bt), .second, (sI (-1 : Int32)), (sI (-1 : Int32))] [])) ?_ fun _ k_ => XT.iincV X22.here hx rfl (-1 : Int32) (hb hby d16_128) (by decide) rfl (l' := #[(sR w), (sI fr), (sI (4 : Int32)), (sI ps0), (sJ bt), .second, (sI (-1 : Int32)), (sI (-1 : Int32))]) rfl k_
      refine Go.k 105 [] ?_ fun _ k_ => XS.goto X22.here hx rfl (pc0 := 131) (pc' := 105) rfl (hb hby d16_131) (by decide) (by decide) k_
      refine Go.k 107 [(.int (-1 : Int32))] ?_ fun _ k_ => XS.iload X22.here hx rfl (hb hby d16_105) rfl k_
      refine Go.k 134 [] ?_ fun _ k_ => XS.ifYes X22.here hx rfl (pc0 := 107) (pc' := 134) rfl (hb hby d16_107) rfl (by decide) (by decide) (by decide) k_
      refine Go.k 135 [(.int ps0)] ?_ fun _ k_ => XS.iloadN X22.here hx rfl (hb hby d16_134) rfl k_
      refine Go.s (g' := (mkF m 137 #[(sR w), (sI fr), (sI (4 : Int32)), (sI ps0), (sJ bt), .second, (sI ps0), (sI (-1 : Int32))] [])) ?_ fun _ k_ => XS.istore X22.here hx rfl (hb hby d16_135) rfl (l' := #[(sR w), (sI fr), (sI (4 : Int32)), (sI ps0), (sJ bt), .second, (sI ps0), (sI (-1 : Int32))]) rfl k_
      refine Go.k 139 [(.int ps0)] ?_ fun _ k_ => XS.iload X22.here hx rfl (hb hby d16_137) rfl k_
      exact Go.retV (t := .int) X22 hx hret hlk (by decide) (by decide) rfl (Or.inl ⟨rfl, Or.inl rfl, _, rfl⟩) (hb hby d16_139) ⟨ps0, rfl, M22, e22, Or.inr ⟨D0.2.2 _ (Nat.le_refl _), by omega, by omega, D0.1, D0.2.1⟩⟩
  · refine Go.k 55 [] ?_ fun _ k_ => XS.icmpYes X13.here hx rfl (pc0 := 38) (pc' := 55) rfl (hb hby d16_38) rfl (flt hc14).2.1 (by decide) (by decide) k_
    refine Go.k 56 [(.long (0 : Int64))] ?_ fun _ k_ => XT.lconstV X13.here hx rfl (0 : Int64) (hb hby d16_55) (by decide) k_
    refine Go.s (g' := (mkF m 58 #[(sR w), (sI fr), (sI (3 : Int32)), (sI pos), (sJ (0 : Int64)), .second, (sR x3), (sI wd)] [])) ?_ fun _ k_ => XT.lstore X13.here hx rfl (hb hby d16_56) rfl (l' := #[(sR w), (sI fr), (sI (3 : Int32)), (sI pos), (sJ (0 : Int64)), .second, (sR x3), (sI wd)]) rfl k_
    refine Go.k 60 [(.long (0 : Int64))] ?_ fun _ k_ => XT.lload X13.here hx rfl (hb hby d16_58) rfl k_
    refine Go.k 61 [(.long (0 : Int64)), (.long (0 : Int64))] ?_ fun _ k_ => XT.lconstV X13.here hx rfl (0 : Int64) (hb hby d16_60) (by decide) k_
    refine Go.k 62 [(.int (lcmpW (0 : Int64) (0 : Int64)))] ?_ fun _ k_ => XT.lcmp X13.here hx rfl (hb hby d16_61) rfl k_
    refine Go.k 65 [] ?_ fun _ k_ => XS.ifNo X13.here hx rfl (hb hby d16_62) rfl ((if0 _ _).trans (teq ((lw_eq _ _).mpr (rfl : (0 : Int64) = (0 : Int64)))).2) k_
    refine Go.k 67 [(.int wd)] ?_ fun _ k_ => XS.iload X13.here hx rfl (hb hby d16_65) rfl k_
    refine Go.k 68 [(.int (1 : Int32)), (.int wd)] ?_ fun _ k_ => XT.iconstV X13.here hx rfl (1 : Int32) (hb hby d16_67) (by decide) k_
    refine Go.k 69 [(.int (wd + (1 : Int32)))] ?_ fun _ k_ => XS.iadd X13.here hx rfl (hb hby d16_68) rfl k_
    refine Go.k 83 [(.int (wd + (1 : Int32)))] ?_ fun _ k_ => XS.goto X13.here hx rfl (pc0 := 69) (pc' := 83) rfl (hb hby d16_69) (by decide) (by decide) k_
    have a1 := c_iadd wd 1
    have a2 : (1 : Int32).toInt = 1 := by decide
    obtain ⟨a3, a4⟩ := rng32 (wd + 1)
    obtain ⟨ps, eps⟩ : ∃ q_ : Int32, q_ = wd + 1 := ⟨_, rfl⟩
    rw [← eps] at a1 a3 a4 ⊢
    have hps : ps.toInt = wd.toInt + 1 := by omega
    have nps : ps.toNatClampNeg = pos.toNatClampNeg / 64 + 1 := by simp only [Int32.toNatClampNeg]; omega
    refine Go.s (g' := (mkF m 84 #[(sR w), (sI fr), (sI (3 : Int32)), (sI ps), (sJ (0 : Int64)), .second, (sR x3), (sI wd)] [])) ?_ fun _ k_ => XS.istoreN X13.here hx rfl (hb hby d16_83) rfl (l' := #[(sR w), (sI fr), (sI (3 : Int32)), (sI ps), (sJ (0 : Int64)), .second, (sR x3), (sI wd)]) rfl k_
    refine Go.s (g' := (mkF m 87 #[(sR w), (sI fr), (sI (4 : Int32)), (sI ps), (sJ (0 : Int64)), .second, (sR x3), (sI wd)] [])) ?_ fun _ k_ => XT.iincV X13.here hx rfl (1 : Int32) (hb hby d16_84) (by decide) rfl (l' := #[(sR w), (sI fr), (sI (4 : Int32)), (sI ps), (sJ (0 : Int64)), .second, (sR x3), (sI wd)]) rfl k_
    refine Go.k 7 [] ?_ fun _ k_ => XS.goto X13.here hx rfl (pc0 := 87) (pc' := 7) rfl (hb hby d16_87) (by decide) (by decide) k_
    exact climb4 T13 ps X13 e13 x3 wd (by omega) (by rw [nps]; exact hN.step U3 (own_scanZ (B3.2 _ (by rw [← nwd]; exact own_natle (by omega) hc14))))
set_option maxRecDepth 65536 in
set_option maxHeartbeats 40000000 in
theorem nxt_2 (l : Launch) (Z : State) (a0 : Array Value) (hw : ∀ d ∈ tables_1, d.before a0 Z = true) (w lv : Addr) (kL : ClassId) (x0 x1 x2 x3 x4 : Addr) (z0 z1 z2 z3 z4 : Int32) (f0 f1 f2 f3 f4 : Nat → Int64) (fr : Int32) (h0 : Heap) (n0 : Nat) (Z0 : n0 ≤ h0.size) (HW : own_WI Z h0 n0 w lv kL x0 x1 x2 x3 x4 z0 z1 z2 z3 z4 f0 f1 f2 f3 f4) (HC : own_Ch z0 z1 z2 z3 z4) (b0 : 0 ≤ fr.toInt) (b1 : fr.toInt ≤ 524287) (HP : own_P f0 f1 ∧ own_P f1 f2 ∧ own_P f2 f3 ∧ own_P f3 f4) (p : Program) (e : Env) (s : State) (m : MethodId) (below : List Frame) (meth : Method) (c : Code) (hx : p.tables.exec = Jvm.exec) (hby : c.code = prog_59_method_7_code) (hml : c.maxLocals = 8) (hret : meth.sig.returnType = some .int) (hlk : meth.locks = false) (hown : s.vm.findClass "com/example/slantwise/slantwise/engine/WordIndex" = some m.cls) (hZ : Z.Warmed39 s.vm) : ∀ (T : State) (pos : Int32), Stand p l e ({ frames := 2, cells := 0, slots := 0, locals := 32 } : Room) s m #[(.ref w), (.int fr)] below meth c T [] 0 0 → T.heap = h0 → ∀ (xa : Addr) (wa : Int32), (0 ≤ pos.toInt ∧ pos.toInt ≤ 1048576 ∧ 1 ≤ pos.toInt) → own_N f0 fr.toNatClampNeg 2 pos.toNatClampNeg → Go p e below (EndP below s (fun v h L => ∃ r : Int32, v = some (.int r) ∧ Fr n0 L ∧ h = h0 ∧ ((r = -1 ∧ ∀ i, fr.toNatClampNeg ≤ i → own_b f0 i = false) ∨ (fr.toNatClampNeg ≤ r.toNatClampNeg ∧ 0 ≤ r.toInt ∧ r.toInt ≤ 1048640 ∧ own_b f0 r.toNatClampNeg = true ∧ ∀ i, fr.toNatClampNeg ≤ i → i < r.toNatClampNeg → own_b f0 i = false))) ({ frames := 2, cells := 0, slots := 0, locals := 32 } : Room).cells ({ frames := 2, cells := 0, slots := 0, locals := 32 } : Room).slots) T (mkF m 7 #[(sR w), (sI fr), (sI (2 : Int32)), (sI pos), (sJ (0 : Int64)), .second, (sR xa), (sI wa)] []) := by
  have climb3 := nxt_3 l Z a0 hw w lv kL x0 x1 x2 x3 x4 z0 z1 z2 z3 z4 f0 f1 f2 f3 f4 fr h0 n0 Z0 HW HC b0 b1 HP p e s m below meth c hx hby hml hret hlk hown hZ
  have N0 := Fr.nil n0
  obtain ⟨WE, WF, WA, WO, B0, B1, B2, B3, B4, gl, g0, g1, g2, g3, g4, ne_w_lv, ne_w_x0, ne_w_x1, ne_w_x2, ne_w_x3, ne_w_x4, ne_lv_x0, ne_lv_x1, ne_lv_x2, ne_lv_x3, ne_lv_x4, ne_x0_x1, ne_x0_x2, ne_x0_x3, ne_x0_x4, ne_x1_x2, ne_x1_x3, ne_x1_x4, ne_x2_x3, ne_x2_x4, ne_x3_x4⟩ := HW
  obtain ⟨c0a, c0b, c1a, c1b, c2a, c2b, c3a, c3b, c4a, c4b, d0, d1, d2, d3⟩ := HC
  obtain ⟨hp0, hp1, hp2, hp3⟩ := HP
  have U0 := own_U0 f0
  have U1 := own_US U0 hp0
  have U2 := own_US U1 hp1
  have U3 := own_US U2 hp2
  have U4 := own_US U3 hp3
  intro T pos X1 eT xa wa hpos hN
  refine Go.k 8 [(.int (2 : Int32))] ?_ fun _ k_ => XS.iloadN X1.here hx rfl (hb hby d16_7) rfl k_
  refine Go.k 9 [(.int (5 : Int32)), (.int (2 : Int32))] ?_ fun _ k_ => XT.iconstV X1.here hx rfl (5 : Int32) (hb hby d16_8) (by decide) k_
  refine Go.k 12 [] ?_ fun _ k_ => XS.icmpNo X1.here hx rfl (hb hby d16_9) rfl (by decide) k_
  refine Go.k 14 [(.long (0 : Int64))] ?_ fun _ k_ => XT.lload X1.here hx rfl (hb hby d16_12) rfl k_
  refine Go.k 15 [(.long (0 : Int64)), (.long (0 : Int64))] ?_ fun _ k_ => XT.lconstV X1.here hx rfl (0 : Int64) (hb hby d16_14) (by decide) k_
  refine Go.k 16 [(.int (lcmpW (0 : Int64) (0 : Int64)))] ?_ fun _ k_ => XT.lcmp X1.here hx rfl (hb hby d16_15) rfl k_
  refine Go.k 19 [] ?_ fun _ k_ => XS.ifNo X1.here hx rfl (hb hby d16_16) rfl ((if0 _ _).trans (teq ((lw_eq _ _).mpr (rfl : (0 : Int64) = (0 : Int64)))).2) k_
  refine Go.k 20 [(.ref w)] ?_ fun _ k_ => XS.aloadN X1.here hx rfl (hb hby d16_19) rfl rfl k_
  obtain ⟨T23, X23, e23, st23⟩ := getF X1 hx hZ hown (host := "") (Or.inl (wq hw 13 rfl)) Via.refl eT WF (g := (mkF m 20 #[(sR w), (sI fr), (sI (2 : Int32)), (sI pos), (sJ (0 : Int64)), .second, (sR xa), (sI wa)] [(.ref w)])) rfl rfl (hb hby d16_20)
  refine Go.t T23 23 [(.ref lv)] ?_ st23
  refine Go.k 24 [(.int (2 : Int32)), (.ref lv)] ?_ fun _ k_ => XS.iloadN X23.here hx rfl (hb hby d16_23) rfl k_
  refine Go.t T23 25 [(.ref x2)] ?_ (own_aaload X23 hx hZ e23 WA rfl (by decide) (by rw [show (2 : Int32).toNatClampNeg = 2 from by decide]; rfl) (g := (mkF m 24 #[(sR w), (sI fr), (sI (2 : Int32)), (sI pos), (sJ (0 : Int64)), .second, (sR xa), (sI wa)] [(.int (2 : Int32)), (.ref lv)])) rfl rfl (hb hby d16_24))
  refine Go.s (g' := (mkF m 27 #[(sR w), (sI fr), (sI (2 : Int32)), (sI pos), (sJ (0 : Int64)), .second, (sR x2), (sI wa)] [])) ?_ fun _ k_ => XS.astore X23.here hx rfl (hb hby d16_25) rfl rfl (l' := #[(sR w), (sI fr), (sI (2 : Int32)), (sI pos), (sJ (0 : Int64)), .second, (sR x2), (sI wa)]) rfl k_
  refine Go.k 28 [(.int pos)] ?_ fun _ k_ => XS.iloadN X23.here hx rfl (hb hby d16_27) rfl k_
  refine Go.k 30 [(.int (6 : Int32)), (.int pos)] ?_ fun _ k_ => XT.bipushV X23.here hx rfl (6 : Int32) (hb hby d16_28) (by decide) k_
  refine Go.k 31 [(.int (XT.ushr pos (6 : Int32)))] ?_ fun _ k_ => XT.iushr X23.here hx rfl (hb hby d16_30) rfl k_
  obtain ⟨wd, ewd⟩ : ∃ q_ : Int32, q_ = XT.ushr pos 6 := ⟨_, rfl⟩
  rw [← ewd]
  have hwd : wd.toInt = pos.toInt / 64 := by rw [ewd]; exact own_ushr6 _ (by omega)
  have nwd : wd.toNatClampNeg = pos.toNatClampNeg / 64 := by simp only [Int32.toNatClampNeg]; omega
  refine Go.s (g' := (mkF m 33 #[(sR w), (sI fr), (sI (2 : Int32)), (sI pos), (sJ (0 : Int64)), .second, (sR x2), (sI wd)] [])) ?_ fun _ k_ => XS.istore X23.here hx rfl (hb hby d16_31) rfl (l' := #[(sR w), (sI fr), (sI (2 : Int32)), (sI pos), (sJ (0 : Int64)), .second, (sR x2), (sI wd)]) rfl k_
  refine Go.k 35 [(.int wd)] ?_ fun _ k_ => XS.iload X23.here hx rfl (hb hby d16_33) rfl k_
  refine Go.k 37 [(.ref x2), (.int wd)] ?_ fun _ k_ => XS.aload X23.here hx rfl (hb hby d16_35) rfl rfl k_
  refine Go.t T23 38 [(.int z2), (.int wd)] ?_ (own_laN X23 hx hZ e23 B2 (g := (mkF m 37 #[(sR w), (sI fr), (sI (2 : Int32)), (sI pos), (sJ (0 : Int64)), .second, (sR x2), (sI wd)] [(.ref x2), (.int wd)])) rfl rfl (hb hby d16_37))
  by_cases hc24 : wd < z2
  · refine Go.k 41 [] ?_ fun _ k_ => XS.icmpNo X23.here hx rfl (hb hby d16_38) rfl (tlt hc24).2.1 k_
    refine Go.k 43 [(.ref x2)] ?_ fun _ k_ => XS.aload X23.here hx rfl (hb hby d16_41) rfl rfl k_
    refine Go.k 45 [(.int wd), (.ref x2)] ?_ fun _ k_ => XS.iload X23.here hx rfl (hb hby d16_43) rfl k_
    refine Go.t T23 46 [(.long (f2 wd.toNatClampNeg))] ?_ (own_laL X23 hx hZ e23 B2 ⟨own_i_nlt rfl (by decide : (0 : Int32).toInt = 0) (by omega), hc24⟩ (g := (mkF m 45 #[(sR w), (sI fr), (sI (2 : Int32)), (sI pos), (sJ (0 : Int64)), .second, (sR x2), (sI wd)] [(.int wd), (.ref x2)])) rfl rfl (hb hby d16_45))
    refine Go.k 49 [(.long (-1 : Int64)), (.long (f2 wd.toNatClampNeg))] ?_ fun _ k_ => X23.ldc2J hx hown (mvT hZ (wq hw 29 rfl)) rfl (hb hby d16_46) k_
    refine Go.k 50 [(.int pos), (.long (-1 : Int64)), (.long (f2 wd.toNatClampNeg))] ?_ fun _ k_ => XS.iloadN X23.here hx rfl (hb hby d16_49) rfl k_
    refine Go.k 51 [(.long ((-1 : Int64) <<< (pos.toInt64 &&& 63))), (.long (f2 wd.toNatClampNeg))] ?_ fun _ k_ => XT.lshl X23.here hx rfl (hb hby d16_50) rfl k_
    refine Go.k 52 [(.long ((f2 wd.toNatClampNeg) &&& ((-1 : Int64) <<< (pos.toInt64 &&& 63))))] ?_ fun _ k_ => XT.land X23.here hx rfl (hb hby d16_51) rfl k_
    refine Go.k 56 [(.long ((f2 wd.toNatClampNeg) &&& ((-1 : Int64) <<< (pos.toInt64 &&& 63))))] ?_ fun _ k_ => XS.goto X23.here hx rfl (pc0 := 52) (pc' := 56) rfl (hb hby d16_52) (by decide) (by decide) k_
    obtain ⟨bt, ebt⟩ : ∃ q_ : Int64, q_ = ((f2 wd.toNatClampNeg) &&& ((-1 : Int64) <<< (pos.toInt64 &&& 63))) := ⟨_, rfl⟩
    rw [← ebt]
    rw [nwd] at ebt
    have hin := Int32.lt_iff_toInt_lt.mp hc24
    refine Go.s (g' := (mkF m 58 #[(sR w), (sI fr), (sI (2 : Int32)), (sI pos), (sJ bt), .second, (sR x2), (sI wd)] [])) ?_ fun _ k_ => XT.lstore X23.here hx rfl (hb hby d16_56) rfl (l' := #[(sR w), (sI fr), (sI (2 : Int32)), (sI pos), (sJ bt), .second, (sR x2), (sI wd)]) rfl k_
    refine Go.k 60 [(.long bt)] ?_ fun _ k_ => XT.lload X23.here hx rfl (hb hby d16_58) rfl k_
    refine Go.k 61 [(.long (0 : Int64)), (.long bt)] ?_ fun _ k_ => XT.lconstV X23.here hx rfl (0 : Int64) (hb hby d16_60) (by decide) k_
    refine Go.k 62 [(.int (lcmpW bt (0 : Int64)))] ?_ fun _ k_ => XT.lcmp X23.here hx rfl (hb hby d16_61) rfl k_
    by_cases hc25 : bt = (0 : Int64)
    · refine Go.k 65 [] ?_ fun _ k_ => XS.ifNo X23.here hx rfl (hb hby d16_62) rfl ((if0 _ _).trans (teq ((lw_eq _ _).mpr hc25)).2) k_
      refine Go.k 67 [(.int wd)] ?_ fun _ k_ => XS.iload X23.here hx rfl (hb hby d16_65) rfl k_
      refine Go.k 68 [(.int (1 : Int32)), (.int wd)] ?_ fun _ k_ => XT.iconstV X23.here hx rfl (1 : Int32) (hb hby d16_67) (by decide) k_
      refine Go.k 69 [(.int (wd + (1 : Int32)))] ?_ fun _ k_ => XS.iadd X23.here hx rfl (hb hby d16_68) rfl k_
      refine Go.k 83 [(.int (wd + (1 : Int32)))] ?_ fun _ k_ => XS.goto X23.here hx rfl (pc0 := 69) (pc' := 83) rfl (hb hby d16_69) (by decide) (by decide) k_
      have a1 := c_iadd wd 1
      have a2 : (1 : Int32).toInt = 1 := by decide
      obtain ⟨a3, a4⟩ := rng32 (wd + 1)
      obtain ⟨ps, eps⟩ : ∃ q_ : Int32, q_ = wd + 1 := ⟨_, rfl⟩
      rw [← eps] at a1 a3 a4 ⊢
      have hps : ps.toInt = wd.toInt + 1 := by omega
      have nps : ps.toNatClampNeg = pos.toNatClampNeg / 64 + 1 := by simp only [Int32.toNatClampNeg]; omega
      rw [hc25]
      refine Go.s (g' := (mkF m 84 #[(sR w), (sI fr), (sI (2 : Int32)), (sI ps), (sJ (0 : Int64)), .second, (sR x2), (sI wd)] [])) ?_ fun _ k_ => XS.istoreN X23.here hx rfl (hb hby d16_83) rfl (l' := #[(sR w), (sI fr), (sI (2 : Int32)), (sI ps), (sJ (0 : Int64)), .second, (sR x2), (sI wd)]) rfl k_
      refine Go.s (g' := (mkF m 87 #[(sR w), (sI fr), (sI (3 : Int32)), (sI ps), (sJ (0 : Int64)), .second, (sR x2), (sI wd)] [])) ?_ fun _ k_ => XT.iincV X23.here hx rfl (1 : Int32) (hb hby d16_84) (by decide) rfl (l' := #[(sR w), (sI fr), (sI (3 : Int32)), (sI ps), (sJ (0 : Int64)), .second, (sR x2), (sI wd)]) rfl k_
      refine Go.k 7 [] ?_ fun _ k_ => XS.goto X23.here hx rfl (pc0 := 87) (pc' := 7) rfl (hb hby d16_87) (by decide) (by decide) k_
      exact climb3 T23 ps X23 e23 x2 wd (by omega) (by rw [nps]; exact hN.step U2 (own_scan0 (by omega) (ebt.symm.trans hc25)))
    · refine Go.k 72 [] ?_ fun _ k_ => XS.ifYes X23.here hx rfl (pc0 := 62) (pc' := 72) rfl (hb hby d16_62) rfl ((if0 _ _).trans (feq (fun q_ => hc25 ((lw_eq _ _).mp q_))).2) (by decide) (by decide) k_
      refine Go.k 74 [(.int wd)] ?_ fun _ k_ => XS.iload X23.here hx rfl (hb hby d16_72) rfl k_
      refine Go.k 76 [(.int (6 : Int32)), (.int wd)] ?_ fun _ k_ => XT.bipushV X23.here hx rfl (6 : Int32) (hb hby d16_74) (by decide) k_
      refine Go.k 77 [(.int (wd <<< ((6 : Int32) &&& 31)))] ?_ fun _ k_ => XT.ishl X23.here hx rfl (hb hby d16_76) rfl k_
      refine Go.k 79 [(.long bt), (.int (wd <<< ((6 : Int32) &&& 31)))] ?_ fun _ k_ => XT.lload X23.here hx rfl (hb hby d16_77) rfl k_
      refine Go.callS X23 hx hZ hown (wq hw 45 rfl) (wq hw 46 rfl) (wq hw 47 rfl) (wq hw 48 rfl) (by decide) (rntl l Z a0 hw [] bt  h0 n0 Z0 ) e23 (by decide) (W := 1) (by decide) (by decide) (by decide) (g := (mkF m 79 #[(sR w), (sI fr), (sI (2 : Int32)), (sI pos), (sJ bt), .second, (sR x2), (sI wd)] [(.long bt), (.int (wd <<< ((6 : Int32) &&& 31)))])) (rest := [(.int (wd <<< ((6 : Int32) &&& 31)))]) rfl (by rw [hml]; rfl) (lenOf pd__J_I rfl) rfl (by show 2 * 0 + _ ≤ _; exact Nat.le_of_eq rfl) (hb hby d16_79) ?_
      rintro v26 T26 L26 X26 ⟨rfl, N26, e26⟩
      have M26 := Fr.app N0 N26
      show Go p e below _ T26 (mkF m 82 #[(sR w), (sI fr), (sI (2 : Int32)), (sI pos), (sJ bt), .second, (sR x2), (sI wd)] [(.int (own_ntzL bt)), (.int (wd <<< ((6 : Int32) &&& 31)))])
      refine Go.k 83 [(.int ((wd <<< ((6 : Int32) &&& 31)) + (own_ntzL bt)))] ?_ fun _ k_ => XS.iadd X26.here hx rfl (hb hby d16_82) rfl k_
      obtain ⟨nt, hnt, ent, bnt, lnt⟩ := own_ntz bt hc25
      obtain ⟨hps2, nps⟩ := own_shl6 wd bt nt (by omega) (by omega) ent hnt
      obtain ⟨ps2, eps⟩ : ∃ q_ : Int32, q_ = (wd <<< ((6 : Int32) &&& 31)) + (own_ntzL bt) := ⟨_, rfl⟩
      rw [← eps] at hps2 nps ⊢
      rw [nwd] at nps
      rw [ebt] at bnt lnt
      obtain ⟨q1, q2, q3⟩ := own_scan1 (by omega) hnt bnt lnt
      rw [← nps] at q1 q2 q3
      have D2 : own_D f0 f2 fr.toNatClampNeg 2 ps2.toNatClampNeg := hN.find U2 q1 q2 q3
      refine Go.s (g' := (mkF m 84 #[(sR w), (sI fr), (sI (2 : Int32)), (sI ps2), (sJ bt), .second, (sR x2), (sI wd)] [])) ?_ fun _ k_ => XS.istoreN X26.here hx rfl (hb hby d16_83) rfl (l' := #[(sR w), (sI fr), (sI (2 : Int32)), (sI ps2), (sJ bt), .second, (sR x2), (sI wd)]) rfl k_
      refine Go.s (g' := (mkF m 87 #[(sR w), (sI fr), (sI (3 : Int32)), (sI ps2), (sJ bt), .second, (sR x2), (sI wd)] [])) ?_ fun _ k_ => XT.iincV X26.here hx rfl (1 : Int32) (hb hby d16_84) (by decide) rfl (l' := #[(sR w), (sI fr), (sI (3 : Int32)), (sI ps2), (sJ bt), .second, (sR x2), (sI wd)]) rfl k_
      refine Go.k 7 [] ?_ fun _ k_ => XS.goto X26.here hx rfl (pc0 := 87) (pc' := 7) rfl (hb hby d16_87) (by decide) (by decide) k_
      refine Go.k 8 [(.int (3 : Int32))] ?_ fun _ k_ => XS.iloadN X26.here hx rfl (hb hby d16_7) rfl k_
      refine Go.k 9 [(.int (5 : Int32)), (.int (3 : Int32))] ?_ fun _ k_ => XT.iconstV X26.here hx rfl (5 : Int32) (hb hby d16_8) (by decide) k_
      refine Go.k 12 [] ?_ fun _ k_ => XS.icmpNo X26.here hx rfl (hb hby d16_9) rfl (by decide) k_
      refine Go.k 14 [(.long bt)] ?_ fun _ k_ => XT.lload X26.here hx rfl (hb hby d16_12) rfl k_
      refine Go.k 15 [(.long (0 : Int64)), (.long bt)] ?_ fun _ k_ => XT.lconstV X26.here hx rfl (0 : Int64) (hb hby d16_14) (by decide) k_
      refine Go.k 16 [(.int (lcmpW bt (0 : Int64)))] ?_ fun _ k_ => XT.lcmp X26.here hx rfl (hb hby d16_15) rfl k_
      refine Go.k 90 [] ?_ fun _ k_ => XS.ifYes X26.here hx rfl (pc0 := 16) (pc' := 90) rfl (hb hby d16_16) rfl ((if0 _ _).trans (feq (fun q_ => (hc25 : ¬ bt = (0 : Int64)) ((lw_eq _ _).mp q_))).2) (by decide) (by decide) k_
      refine Go.k 91 [(.int (-1 : Int32))] ?_ fun _ k_ => XT.iconstV X26.here hx rfl (-1 : Int32) (hb hby d16_90) (by decide) k_
      refine Go.s (g' := (mkF m 93 #[(sR w), (sI fr), (sI (3 : Int32)), (sI ps2), (sJ bt), .second, (sI (-1 : Int32)), (sI wd)] [])) ?_ fun _ k_ => XS.istore X26.here hx rfl (hb hby d16_91) rfl (l' := #[(sR w), (sI fr), (sI (3 : Int32)), (sI ps2), (sJ bt), .second, (sI (-1 : Int32)), (sI wd)]) rfl k_
      refine Go.k 95 [(.long bt)] ?_ fun _ k_ => XT.lload X26.here hx rfl (hb hby d16_93) rfl k_
      refine Go.k 96 [(.long (0 : Int64)), (.long bt)] ?_ fun _ k_ => XT.lconstV X26.here hx rfl (0 : Int64) (hb hby d16_95) (by decide) k_
      refine Go.k 97 [(.int (lcmpW bt (0 : Int64)))] ?_ fun _ k_ => XT.lcmp X26.here hx rfl (hb hby d16_96) rfl k_
      refine Go.k 100 [] ?_ fun _ k_ => XS.ifNo X26.here hx rfl (hb hby d16_97) rfl ((if0 _ _).trans (feq (fun q_ => (hc25 : ¬ bt = (0 : Int64)) ((lw_eq _ _).mp q_))).1) k_
      refine Go.k 101 [(.int (3 : Int32))] ?_ fun _ k_ => XS.iloadN X26.here hx rfl (hb hby d16_100) rfl k_
      refine Go.k 102 [(.int (2 : Int32)), (.int (3 : Int32))] ?_ fun _ k_ => XT.iconstV X26.here hx rfl (2 : Int32) (hb hby d16_101) (by decide) k_
      refine Go.k 103 [(.int (1 : Int32))] ?_ fun _ k_ => XS.isub X26.here hx rfl (hb hby d16_102) rfl k_
      refine Go.s (g' := (mkF m 105 #[(sR w), (sI fr), (sI (3 : Int32)), (sI ps2), (sJ bt), .second, (sI (-1 : Int32)), (sI (1 : Int32))] [])) ?_ fun _ k_ => XS.istore X26.here hx rfl (hb hby d16_103) rfl (l' := #[(sR w), (sI fr), (sI (3 : Int32)), (sI ps2), (sJ bt), .second, (sI (-1 : Int32)), (sI (1 : Int32))]) rfl k_
      refine Go.k 107 [(.int (1 : Int32))] ?_ fun _ k_ => XS.iload X26.here hx rfl (hb hby d16_105) rfl k_
      refine Go.k 110 [] ?_ fun _ k_ => XS.ifNo X26.here hx rfl (hb hby d16_107) rfl (by decide) k_
      refine Go.k 111 [(.int ps2)] ?_ fun _ k_ => XS.iloadN X26.here hx rfl (hb hby d16_110) rfl k_
      refine Go.k 113 [(.int (6 : Int32)), (.int ps2)] ?_ fun _ k_ => XT.bipushV X26.here hx rfl (6 : Int32) (hb hby d16_111) (by decide) k_
      refine Go.k 114 [(.int (ps2 <<< ((6 : Int32) &&& 31)))] ?_ fun _ k_ => XT.ishl X26.here hx rfl (hb hby d16_113) rfl k_
      refine Go.k 115 [(.ref w), (.int (ps2 <<< ((6 : Int32) &&& 31)))] ?_ fun _ k_ => XS.aloadN X26.here hx rfl (hb hby d16_114) rfl rfl k_
      obtain ⟨T27, X27, e27, st27⟩ := getF X26 hx hZ hown (host := "") (Or.inl (wq hw 13 rfl)) Via.refl e26 WF (g := (mkF m 115 #[(sR w), (sI fr), (sI (3 : Int32)), (sI ps2), (sJ bt), .second, (sI (-1 : Int32)), (sI (1 : Int32))] [(.ref w), (.int (ps2 <<< ((6 : Int32) &&& 31)))])) rfl rfl (hb hby d16_115)
      refine Go.t T27 118 [(.ref lv), (.int (ps2 <<< ((6 : Int32) &&& 31)))] ?_ st27
      refine Go.k 120 [(.int (1 : Int32)), (.ref lv), (.int (ps2 <<< ((6 : Int32) &&& 31)))] ?_ fun _ k_ => XS.iload X27.here hx rfl (hb hby d16_118) rfl k_
      refine Go.t T27 121 [(.ref x1), (.int (ps2 <<< ((6 : Int32) &&& 31)))] ?_ (own_aaload X27 hx hZ e27 WA rfl (by decide) (by rw [show (1 : Int32).toNatClampNeg = 1 from by decide]; rfl) (g := (mkF m 120 #[(sR w), (sI fr), (sI (3 : Int32)), (sI ps2), (sJ bt), .second, (sI (-1 : Int32)), (sI (1 : Int32))] [(.int (1 : Int32)), (.ref lv), (.int (ps2 <<< ((6 : Int32) &&& 31)))])) rfl rfl (hb hby d16_120))
      refine Go.k 122 [(.int ps2), (.ref x1), (.int (ps2 <<< ((6 : Int32) &&& 31)))] ?_ fun _ k_ => XS.iloadN X27.here hx rfl (hb hby d16_121) rfl k_
      have nz1 := D2.ne hp1
      have lt1 : ps2.toNatClampNeg < z1.toNatClampNeg := Nat.lt_of_not_le fun q_ => nz1 (B1.2 _ q_)
      have li1 : ps2.toInt < z1.toInt := by simp only [Int32.toNatClampNeg] at lt1; omega
      refine Go.t T27 123 [(.long (f1 ps2.toNatClampNeg)), (.int (ps2 <<< ((6 : Int32) &&& 31)))] ?_ (own_laL X27 hx hZ e27 B1 ⟨own_i_nlt rfl (by decide : (0 : Int32).toInt = 0) (by omega), own_i_lt rfl rfl (by omega)⟩ (g := (mkF m 122 #[(sR w), (sI fr), (sI (3 : Int32)), (sI ps2), (sJ bt), .second, (sI (-1 : Int32)), (sI (1 : Int32))] [(.int ps2), (.ref x1), (.int (ps2 <<< ((6 : Int32) &&& 31)))])) rfl rfl (hb hby d16_122))
      refine Go.callS X27 hx hZ hown (wq hw 45 rfl) (wq hw 46 rfl) (wq hw 47 rfl) (wq hw 48 rfl) (by decide) (rntl l Z a0 hw [] (f1 ps2.toNatClampNeg)  h0 n0 Z0 ) e27 (by decide) (W := 1) (by decide) (by decide) (by decide) (g := (mkF m 123 #[(sR w), (sI fr), (sI (3 : Int32)), (sI ps2), (sJ bt), .second, (sI (-1 : Int32)), (sI (1 : Int32))] [(.long (f1 ps2.toNatClampNeg)), (.int (ps2 <<< ((6 : Int32) &&& 31)))])) (rest := [(.int (ps2 <<< ((6 : Int32) &&& 31)))]) rfl (by rw [hml]; rfl) (lenOf pd__J_I rfl) rfl (by show 2 * 0 + _ ≤ _; exact Nat.le_of_eq rfl) (hb hby d16_123) ?_
      rintro v28 T28 L28 X28 ⟨rfl, N28, e28⟩
      have M28 := Fr.app M26 N28
      show Go p e below _ T28 (mkF m 126 #[(sR w), (sI fr), (sI (3 : Int32)), (sI ps2), (sJ bt), .second, (sI (-1 : Int32)), (sI (1 : Int32))] [(.int (own_ntzL (f1 ps2.toNatClampNeg))), (.int (ps2 <<< ((6 : Int32) &&& 31)))])
      refine Go.k 127 [(.int ((ps2 <<< ((6 : Int32) &&& 31)) + (own_ntzL (f1 ps2.toNatClampNeg))))] ?_ fun _ k_ => XS.iadd X28.here hx rfl (hb hby d16_126) rfl k_
      obtain ⟨nt1, hnt1, ent1, bnt1, lnt1⟩ := own_ntz (f1 ps2.toNatClampNeg) nz1
      obtain ⟨hps1, nps1⟩ := own_shl6 ps2 (f1 ps2.toNatClampNeg) nt1 (by omega) (by omega) ent1 hnt1
      obtain ⟨ps1, eps1⟩ : ∃ q_ : Int32, q_ = (ps2 <<< ((6 : Int32) &&& 31)) + (own_ntzL (f1 ps2.toNatClampNeg)) := ⟨_, rfl⟩
      rw [← eps1] at hps1 nps1 ⊢
      have D1 : own_D f0 f1 fr.toNatClampNeg 1 ps1.toNatClampNeg := own_D.down U1 D2 hnt1 nps1 bnt1 lnt1
      refine Go.s (g' := (mkF m 128 #[(sR w), (sI fr), (sI (3 : Int32)), (sI ps1), (sJ bt), .second, (sI (-1 : Int32)), (sI (1 : Int32))] [])) ?_ fun _ k_ => XS.istoreN X28.here hx rfl (hb hby d16_127) rfl (l' := #[(sR w), (sI fr), (sI (3 : Int32)), (sI ps1), (sJ bt), .second, (sI (-1 : Int32)), (sI (1 : Int32))]) rfl k_
      refine Go.s (g' := (mkF m 131 #[(sR w), (sI fr), (sI (3 : Int32)), (sI ps1), (sJ bt), .second, (sI (-1 : Int32)), (sI (0 : Int32))] [])) ?_ fun _ k_ => XT.iincV X28.here hx rfl (-1 : Int32) (hb hby d16_128) (by decide) rfl (l' := #[(sR w), (sI fr), (sI (3 : Int32)), (sI ps1), (sJ bt), .second, (sI (-1 : Int32)), (sI (0 : Int32))]) rfl k_
      refine Go.k 105 [] ?_ fun _ k_ => XS.goto X28.here hx rfl (pc0 := 131) (pc' := 105) rfl (hb hby d16_131) (by decide) (by decide) k_
      refine Go.k 107 [(.int (0 : Int32))] ?_ fun _ k_ => XS.iload X28.here hx rfl (hb hby d16_105) rfl k_
      refine Go.k 110 [] ?_ fun _ k_ => XS.ifNo X28.here hx rfl (hb hby d16_107) rfl (by decide) k_
      refine Go.k 111 [(.int ps1)] ?_ fun _ k_ => XS.iloadN X28.here hx rfl (hb hby d16_110) rfl k_
      refine Go.k 113 [(.int (6 : Int32)), (.int ps1)] ?_ fun _ k_ => XT.bipushV X28.here hx rfl (6 : Int32) (hb hby d16_111) (by decide) k_
      refine Go.k 114 [(.int (ps1 <<< ((6 : Int32) &&& 31)))] ?_ fun _ k_ => XT.ishl X28.here hx rfl (hb hby d16_113) rfl k_
      refine Go.k 115 [(.ref w), (.int (ps1 <<< ((6 : Int32) &&& 31)))] ?_ fun _ k_ => XS.aloadN X28.here hx rfl (hb hby d16_114) rfl rfl k_
      obtain ⟨T29, X29, e29, st29⟩ := getF X28 hx hZ hown (host := "") (Or.inl (wq hw 13 rfl)) Via.refl e28 WF (g := (mkF m 115 #[(sR w), (sI fr), (sI (3 : Int32)), (sI ps1), (sJ bt), .second, (sI (-1 : Int32)), (sI (0 : Int32))] [(.ref w), (.int (ps1 <<< ((6 : Int32) &&& 31)))])) rfl rfl (hb hby d16_115)
      refine Go.t T29 118 [(.ref lv), (.int (ps1 <<< ((6 : Int32) &&& 31)))] ?_ st29
      refine Go.k 120 [(.int (0 : Int32)), (.ref lv), (.int (ps1 <<< ((6 : Int32) &&& 31)))] ?_ fun _ k_ => XS.iload X29.here hx rfl (hb hby d16_118) rfl k_
      refine Go.t T29 121 [(.ref x0), (.int (ps1 <<< ((6 : Int32) &&& 31)))] ?_ (own_aaload X29 hx hZ e29 WA rfl (by decide) (by rw [show (0 : Int32).toNatClampNeg = 0 from by decide]; rfl) (g := (mkF m 120 #[(sR w), (sI fr), (sI (3 : Int32)), (sI ps1), (sJ bt), .second, (sI (-1 : Int32)), (sI (0 : Int32))] [(.int (0 : Int32)), (.ref lv), (.int (ps1 <<< ((6 : Int32) &&& 31)))])) rfl rfl (hb hby d16_120))
      refine Go.k 122 [(.int ps1), (.ref x0), (.int (ps1 <<< ((6 : Int32) &&& 31)))] ?_ fun _ k_ => XS.iloadN X29.here hx rfl (hb hby d16_121) rfl k_
      have nz0 := D1.ne hp0
      have lt0 : ps1.toNatClampNeg < z0.toNatClampNeg := Nat.lt_of_not_le fun q_ => nz0 (B0.2 _ q_)
      have li0 : ps1.toInt < z0.toInt := by simp only [Int32.toNatClampNeg] at lt0; omega
      refine Go.t T29 123 [(.long (f0 ps1.toNatClampNeg)), (.int (ps1 <<< ((6 : Int32) &&& 31)))] ?_ (own_laL X29 hx hZ e29 B0 ⟨own_i_nlt rfl (by decide : (0 : Int32).toInt = 0) (by omega), own_i_lt rfl rfl (by omega)⟩ (g := (mkF m 122 #[(sR w), (sI fr), (sI (3 : Int32)), (sI ps1), (sJ bt), .second, (sI (-1 : Int32)), (sI (0 : Int32))] [(.int ps1), (.ref x0), (.int (ps1 <<< ((6 : Int32) &&& 31)))])) rfl rfl (hb hby d16_122))
      refine Go.callS X29 hx hZ hown (wq hw 45 rfl) (wq hw 46 rfl) (wq hw 47 rfl) (wq hw 48 rfl) (by decide) (rntl l Z a0 hw [] (f0 ps1.toNatClampNeg)  h0 n0 Z0 ) e29 (by decide) (W := 1) (by decide) (by decide) (by decide) (g := (mkF m 123 #[(sR w), (sI fr), (sI (3 : Int32)), (sI ps1), (sJ bt), .second, (sI (-1 : Int32)), (sI (0 : Int32))] [(.long (f0 ps1.toNatClampNeg)), (.int (ps1 <<< ((6 : Int32) &&& 31)))])) (rest := [(.int (ps1 <<< ((6 : Int32) &&& 31)))]) rfl (by rw [hml]; rfl) (lenOf pd__J_I rfl) rfl (by show 2 * 0 + _ ≤ _; exact Nat.le_of_eq rfl) (hb hby d16_123) ?_
      rintro v30 T30 L30 X30 ⟨rfl, N30, e30⟩
      have M30 := Fr.app M28 N30
      show Go p e below _ T30 (mkF m 126 #[(sR w), (sI fr), (sI (3 : Int32)), (sI ps1), (sJ bt), .second, (sI (-1 : Int32)), (sI (0 : Int32))] [(.int (own_ntzL (f0 ps1.toNatClampNeg))), (.int (ps1 <<< ((6 : Int32) &&& 31)))])
      refine Go.k 127 [(.int ((ps1 <<< ((6 : Int32) &&& 31)) + (own_ntzL (f0 ps1.toNatClampNeg))))] ?_ fun _ k_ => XS.iadd X30.here hx rfl (hb hby d16_126) rfl k_
      obtain ⟨nt0, hnt0, ent0, bnt0, lnt0⟩ := own_ntz (f0 ps1.toNatClampNeg) nz0
      obtain ⟨hps0, nps0⟩ := own_shl6 ps1 (f0 ps1.toNatClampNeg) nt0 (by omega) (by omega) ent0 hnt0
      obtain ⟨ps0, eps0⟩ : ∃ q_ : Int32, q_ = (ps1 <<< ((6 : Int32) &&& 31)) + (own_ntzL (f0 ps1.toNatClampNeg)) := ⟨_, rfl⟩
      rw [← eps0] at hps0 nps0 ⊢
      have D0 : own_D f0 f0 fr.toNatClampNeg 0 ps0.toNatClampNeg := own_D.down U0 D1 hnt0 nps0 bnt0 lnt0
      refine Go.s (g' := (mkF m 128 #[(sR w), (sI fr), (sI (3 : Int32)), (sI ps0), (sJ bt), .second, (sI (-1 : Int32)), (sI (0 : Int32))] [])) ?_ fun _ k_ => XS.istoreN X30.here hx rfl (hb hby d16_127) rfl (l' := #[(sR w), (sI fr), (sI (3 : Int32)), (sI ps0), (sJ bt), .second, (sI (-1 : Int32)), (sI (0 : Int32))]) rfl k_
      refine Go.s (g' := (mkF m 131 #[(sR w), (sI fr), (sI (3 : Int32)), (sI ps0), (sJ bt), .second, (sI (-1 : Int32)), (sI (-1 : Int32))] [])) ?_ fun _ k_ => XT.iincV X30.here hx rfl (-1 : Int32) (hb hby d16_128) (by decide) rfl (l' := #[(sR w), (sI fr), (sI (3 : Int32)), (sI ps0), (sJ bt), .second, (sI (-1 : Int32)), (sI (-1 : Int32))]) rfl k_
      refine Go.k 105 [] ?_ fun _ k_ => XS.goto X30.here hx rfl (pc0 := 131) (pc' := 105) rfl (hb hby d16_131) (by decide) (by decide) k_
      refine Go.k 107 [(.int (-1 : Int32))] ?_ fun _ k_ => XS.iload X30.here hx rfl (hb hby d16_105) rfl k_
      refine Go.k 134 [] ?_ fun _ k_ => XS.ifYes X30.here hx rfl (pc0 := 107) (pc' := 134) rfl (hb hby d16_107) rfl (by decide) (by decide) (by decide) k_
      refine Go.k 135 [(.int ps0)] ?_ fun _ k_ => XS.iloadN X30.here hx rfl (hb hby d16_134) rfl k_
      refine Go.s (g' := (mkF m 137 #[(sR w), (sI fr), (sI (3 : Int32)), (sI ps0), (sJ bt), .second, (sI ps0), (sI (-1 : Int32))] [])) ?_ fun _ k_ => XS.istore X30.here hx rfl (hb hby d16_135) rfl (l' := #[(sR w), (sI fr), (sI (3 : Int32)), (sI ps0), (sJ bt), .second, (sI ps0), (sI (-1 : Int32))]) rfl k_
      refine Go.k 139 [(.int ps0)] ?_ fun _ k_ => XS.iload X30.here hx rfl (hb hby d16_137) rfl k_
      exact Go.retV (t := .int) X30 hx hret hlk (by decide) (by decide) rfl (Or.inl ⟨rfl, Or.inl rfl, _, rfl⟩) (hb hby d16_139) ⟨ps0, rfl, M30, e30, Or.inr ⟨D0.2.2 _ (Nat.le_refl _), by omega, by omega, D0.1, D0.2.1⟩⟩
  · refine Go.k 55 [] ?_ fun _ k_ => XS.icmpYes X23.here hx rfl (pc0 := 38) (pc' := 55) rfl (hb hby d16_38) rfl (flt hc24).2.1 (by decide) (by decide) k_
    refine Go.k 56 [(.long (0 : Int64))] ?_ fun _ k_ => XT.lconstV X23.here hx rfl (0 : Int64) (hb hby d16_55) (by decide) k_
    refine Go.s (g' := (mkF m 58 #[(sR w), (sI fr), (sI (2 : Int32)), (sI pos), (sJ (0 : Int64)), .second, (sR x2), (sI wd)] [])) ?_ fun _ k_ => XT.lstore X23.here hx rfl (hb hby d16_56) rfl (l' := #[(sR w), (sI fr), (sI (2 : Int32)), (sI pos), (sJ (0 : Int64)), .second, (sR x2), (sI wd)]) rfl k_
    refine Go.k 60 [(.long (0 : Int64))] ?_ fun _ k_ => XT.lload X23.here hx rfl (hb hby d16_58) rfl k_
    refine Go.k 61 [(.long (0 : Int64)), (.long (0 : Int64))] ?_ fun _ k_ => XT.lconstV X23.here hx rfl (0 : Int64) (hb hby d16_60) (by decide) k_
    refine Go.k 62 [(.int (lcmpW (0 : Int64) (0 : Int64)))] ?_ fun _ k_ => XT.lcmp X23.here hx rfl (hb hby d16_61) rfl k_
    refine Go.k 65 [] ?_ fun _ k_ => XS.ifNo X23.here hx rfl (hb hby d16_62) rfl ((if0 _ _).trans (teq ((lw_eq _ _).mpr (rfl : (0 : Int64) = (0 : Int64)))).2) k_
    refine Go.k 67 [(.int wd)] ?_ fun _ k_ => XS.iload X23.here hx rfl (hb hby d16_65) rfl k_
    refine Go.k 68 [(.int (1 : Int32)), (.int wd)] ?_ fun _ k_ => XT.iconstV X23.here hx rfl (1 : Int32) (hb hby d16_67) (by decide) k_
    refine Go.k 69 [(.int (wd + (1 : Int32)))] ?_ fun _ k_ => XS.iadd X23.here hx rfl (hb hby d16_68) rfl k_
    refine Go.k 83 [(.int (wd + (1 : Int32)))] ?_ fun _ k_ => XS.goto X23.here hx rfl (pc0 := 69) (pc' := 83) rfl (hb hby d16_69) (by decide) (by decide) k_
    have a1 := c_iadd wd 1
    have a2 : (1 : Int32).toInt = 1 := by decide
    obtain ⟨a3, a4⟩ := rng32 (wd + 1)
    obtain ⟨ps, eps⟩ : ∃ q_ : Int32, q_ = wd + 1 := ⟨_, rfl⟩
    rw [← eps] at a1 a3 a4 ⊢
    have hps : ps.toInt = wd.toInt + 1 := by omega
    have nps : ps.toNatClampNeg = pos.toNatClampNeg / 64 + 1 := by simp only [Int32.toNatClampNeg]; omega
    refine Go.s (g' := (mkF m 84 #[(sR w), (sI fr), (sI (2 : Int32)), (sI ps), (sJ (0 : Int64)), .second, (sR x2), (sI wd)] [])) ?_ fun _ k_ => XS.istoreN X23.here hx rfl (hb hby d16_83) rfl (l' := #[(sR w), (sI fr), (sI (2 : Int32)), (sI ps), (sJ (0 : Int64)), .second, (sR x2), (sI wd)]) rfl k_
    refine Go.s (g' := (mkF m 87 #[(sR w), (sI fr), (sI (3 : Int32)), (sI ps), (sJ (0 : Int64)), .second, (sR x2), (sI wd)] [])) ?_ fun _ k_ => XT.iincV X23.here hx rfl (1 : Int32) (hb hby d16_84) (by decide) rfl (l' := #[(sR w), (sI fr), (sI (3 : Int32)), (sI ps), (sJ (0 : Int64)), .second, (sR x2), (sI wd)]) rfl k_
    refine Go.k 7 [] ?_ fun _ k_ => XS.goto X23.here hx rfl (pc0 := 87) (pc' := 7) rfl (hb hby d16_87) (by decide) (by decide) k_
    exact climb3 T23 ps X23 e23 x2 wd (by omega) (by rw [nps]; exact hN.step U2 (own_scanZ (B2.2 _ (by rw [← nwd]; exact own_natle (by omega) hc24))))
set_option maxRecDepth 65536 in
set_option maxHeartbeats 40000000 in
theorem nxt_1 (l : Launch) (Z : State) (a0 : Array Value) (hw : ∀ d ∈ tables_1, d.before a0 Z = true) (w lv : Addr) (kL : ClassId) (x0 x1 x2 x3 x4 : Addr) (z0 z1 z2 z3 z4 : Int32) (f0 f1 f2 f3 f4 : Nat → Int64) (fr : Int32) (h0 : Heap) (n0 : Nat) (Z0 : n0 ≤ h0.size) (HW : own_WI Z h0 n0 w lv kL x0 x1 x2 x3 x4 z0 z1 z2 z3 z4 f0 f1 f2 f3 f4) (HC : own_Ch z0 z1 z2 z3 z4) (b0 : 0 ≤ fr.toInt) (b1 : fr.toInt ≤ 524287) (HP : own_P f0 f1 ∧ own_P f1 f2 ∧ own_P f2 f3 ∧ own_P f3 f4) (p : Program) (e : Env) (s : State) (m : MethodId) (below : List Frame) (meth : Method) (c : Code) (hx : p.tables.exec = Jvm.exec) (hby : c.code = prog_59_method_7_code) (hml : c.maxLocals = 8) (hret : meth.sig.returnType = some .int) (hlk : meth.locks = false) (hown : s.vm.findClass "com/example/slantwise/slantwise/engine/WordIndex" = some m.cls) (hZ : Z.Warmed39 s.vm) : ∀ (T : State) (pos : Int32), Stand p l e ({ frames := 2, cells := 0, slots := 0, locals := 32 } : Room) s m #[(.ref w), (.int fr)] below meth c T [] 0 0 → T.heap = h0 → ∀ (xa : Addr) (wa : Int32), (0 ≤ pos.toInt ∧ pos.toInt ≤ 1048576 ∧ 1 ≤ pos.toInt) → own_N f0 fr.toNatClampNeg 1 pos.toNatClampNeg → Go p e below (EndP below s (fun v h L => ∃ r : Int32, v = some (.int r) ∧ Fr n0 L ∧ h = h0 ∧ ((r = -1 ∧ ∀ i, fr.toNatClampNeg ≤ i → own_b f0 i = false) ∨ (fr.toNatClampNeg ≤ r.toNatClampNeg ∧ 0 ≤ r.toInt ∧ r.toInt ≤ 1048640 ∧ own_b f0 r.toNatClampNeg = true ∧ ∀ i, fr.toNatClampNeg ≤ i → i < r.toNatClampNeg → own_b f0 i = false))) ({ frames := 2, cells := 0, slots := 0, locals := 32 } : Room).cells ({ frames := 2, cells := 0, slots := 0, locals := 32 } : Room).slots) T (mkF m 7 #[(sR w), (sI fr), (sI (1 : Int32)), (sI pos), (sJ (0 : Int64)), .second, (sR xa), (sI wa)] []) := by
  have climb2 := nxt_2 l Z a0 hw w lv kL x0 x1 x2 x3 x4 z0 z1 z2 z3 z4 f0 f1 f2 f3 f4 fr h0 n0 Z0 HW HC b0 b1 HP p e s m below meth c hx hby hml hret hlk hown hZ
  have N0 := Fr.nil n0
  obtain ⟨WE, WF, WA, WO, B0, B1, B2, B3, B4, gl, g0, g1, g2, g3, g4, ne_w_lv, ne_w_x0, ne_w_x1, ne_w_x2, ne_w_x3, ne_w_x4, ne_lv_x0, ne_lv_x1, ne_lv_x2, ne_lv_x3, ne_lv_x4, ne_x0_x1, ne_x0_x2, ne_x0_x3, ne_x0_x4, ne_x1_x2, ne_x1_x3, ne_x1_x4, ne_x2_x3, ne_x2_x4, ne_x3_x4⟩ := HW
  obtain ⟨c0a, c0b, c1a, c1b, c2a, c2b, c3a, c3b, c4a, c4b, d0, d1, d2, d3⟩ := HC
  obtain ⟨hp0, hp1, hp2, hp3⟩ := HP
  have U0 := own_U0 f0
  have U1 := own_US U0 hp0
  have U2 := own_US U1 hp1
  have U3 := own_US U2 hp2
  have U4 := own_US U3 hp3
  intro T pos X1 eT xa wa hpos hN
  refine Go.k 8 [(.int (1 : Int32))] ?_ fun _ k_ => XS.iloadN X1.here hx rfl (hb hby d16_7) rfl k_
  refine Go.k 9 [(.int (5 : Int32)), (.int (1 : Int32))] ?_ fun _ k_ => XT.iconstV X1.here hx rfl (5 : Int32) (hb hby d16_8) (by decide) k_
  refine Go.k 12 [] ?_ fun _ k_ => XS.icmpNo X1.here hx rfl (hb hby d16_9) rfl (by decide) k_
  refine Go.k 14 [(.long (0 : Int64))] ?_ fun _ k_ => XT.lload X1.here hx rfl (hb hby d16_12) rfl k_
  refine Go.k 15 [(.long (0 : Int64)), (.long (0 : Int64))] ?_ fun _ k_ => XT.lconstV X1.here hx rfl (0 : Int64) (hb hby d16_14) (by decide) k_
  refine Go.k 16 [(.int (lcmpW (0 : Int64) (0 : Int64)))] ?_ fun _ k_ => XT.lcmp X1.here hx rfl (hb hby d16_15) rfl k_
  refine Go.k 19 [] ?_ fun _ k_ => XS.ifNo X1.here hx rfl (hb hby d16_16) rfl ((if0 _ _).trans (teq ((lw_eq _ _).mpr (rfl : (0 : Int64) = (0 : Int64)))).2) k_
  refine Go.k 20 [(.ref w)] ?_ fun _ k_ => XS.aloadN X1.here hx rfl (hb hby d16_19) rfl rfl k_
  obtain ⟨T31, X31, e31, st31⟩ := getF X1 hx hZ hown (host := "") (Or.inl (wq hw 13 rfl)) Via.refl eT WF (g := (mkF m 20 #[(sR w), (sI fr), (sI (1 : Int32)), (sI pos), (sJ (0 : Int64)), .second, (sR xa), (sI wa)] [(.ref w)])) rfl rfl (hb hby d16_20)
  refine Go.t T31 23 [(.ref lv)] ?_ st31
  refine Go.k 24 [(.int (1 : Int32)), (.ref lv)] ?_ fun _ k_ => XS.iloadN X31.here hx rfl (hb hby d16_23) rfl k_
  refine Go.t T31 25 [(.ref x1)] ?_ (own_aaload X31 hx hZ e31 WA rfl (by decide) (by rw [show (1 : Int32).toNatClampNeg = 1 from by decide]; rfl) (g := (mkF m 24 #[(sR w), (sI fr), (sI (1 : Int32)), (sI pos), (sJ (0 : Int64)), .second, (sR xa), (sI wa)] [(.int (1 : Int32)), (.ref lv)])) rfl rfl (hb hby d16_24))
  refine Go.s (g' := (mkF m 27 #[(sR w), (sI fr), (sI (1 : Int32)), (sI pos), (sJ (0 : Int64)), .second, (sR x1), (sI wa)] [])) ?_ fun _ k_ => XS.astore X31.here hx rfl (hb hby d16_25) rfl rfl (l' := #[(sR w), (sI fr), (sI (1 : Int32)), (sI pos), (sJ (0 : Int64)), .second, (sR x1), (sI wa)]) rfl k_
  refine Go.k 28 [(.int pos)] ?_ fun _ k_ => XS.iloadN X31.here hx rfl (hb hby d16_27) rfl k_
  refine Go.k 30 [(.int (6 : Int32)), (.int pos)] ?_ fun _ k_ => XT.bipushV X31.here hx rfl (6 : Int32) (hb hby d16_28) (by decide) k_
  refine Go.k 31 [(.int (XT.ushr pos (6 : Int32)))] ?_ fun _ k_ => XT.iushr X31.here hx rfl (hb hby d16_30) rfl k_
  obtain ⟨wd, ewd⟩ : ∃ q_ : Int32, q_ = XT.ushr pos 6 := ⟨_, rfl⟩
  rw [← ewd]
  have hwd : wd.toInt = pos.toInt / 64 := by rw [ewd]; exact own_ushr6 _ (by omega)
  have nwd : wd.toNatClampNeg = pos.toNatClampNeg / 64 := by simp only [Int32.toNatClampNeg]; omega
  refine Go.s (g' := (mkF m 33 #[(sR w), (sI fr), (sI (1 : Int32)), (sI pos), (sJ (0 : Int64)), .second, (sR x1), (sI wd)] [])) ?_ fun _ k_ => XS.istore X31.here hx rfl (hb hby d16_31) rfl (l' := #[(sR w), (sI fr), (sI (1 : Int32)), (sI pos), (sJ (0 : Int64)), .second, (sR x1), (sI wd)]) rfl k_
  refine Go.k 35 [(.int wd)] ?_ fun _ k_ => XS.iload X31.here hx rfl (hb hby d16_33) rfl k_
  refine Go.k 37 [(.ref x1), (.int wd)] ?_ fun _ k_ => XS.aload X31.here hx rfl (hb hby d16_35) rfl rfl k_
  refine Go.t T31 38 [(.int z1), (.int wd)] ?_ (own_laN X31 hx hZ e31 B1 (g := (mkF m 37 #[(sR w), (sI fr), (sI (1 : Int32)), (sI pos), (sJ (0 : Int64)), .second, (sR x1), (sI wd)] [(.ref x1), (.int wd)])) rfl rfl (hb hby d16_37))
  by_cases hc32 : wd < z1
  · refine Go.k 41 [] ?_ fun _ k_ => XS.icmpNo X31.here hx rfl (hb hby d16_38) rfl (tlt hc32).2.1 k_
    refine Go.k 43 [(.ref x1)] ?_ fun _ k_ => XS.aload X31.here hx rfl (hb hby d16_41) rfl rfl k_
    refine Go.k 45 [(.int wd), (.ref x1)] ?_ fun _ k_ => XS.iload X31.here hx rfl (hb hby d16_43) rfl k_
    refine Go.t T31 46 [(.long (f1 wd.toNatClampNeg))] ?_ (own_laL X31 hx hZ e31 B1 ⟨own_i_nlt rfl (by decide : (0 : Int32).toInt = 0) (by omega), hc32⟩ (g := (mkF m 45 #[(sR w), (sI fr), (sI (1 : Int32)), (sI pos), (sJ (0 : Int64)), .second, (sR x1), (sI wd)] [(.int wd), (.ref x1)])) rfl rfl (hb hby d16_45))
    refine Go.k 49 [(.long (-1 : Int64)), (.long (f1 wd.toNatClampNeg))] ?_ fun _ k_ => X31.ldc2J hx hown (mvT hZ (wq hw 29 rfl)) rfl (hb hby d16_46) k_
    refine Go.k 50 [(.int pos), (.long (-1 : Int64)), (.long (f1 wd.toNatClampNeg))] ?_ fun _ k_ => XS.iloadN X31.here hx rfl (hb hby d16_49) rfl k_
    refine Go.k 51 [(.long ((-1 : Int64) <<< (pos.toInt64 &&& 63))), (.long (f1 wd.toNatClampNeg))] ?_ fun _ k_ => XT.lshl X31.here hx rfl (hb hby d16_50) rfl k_
    refine Go.k 52 [(.long ((f1 wd.toNatClampNeg) &&& ((-1 : Int64) <<< (pos.toInt64 &&& 63))))] ?_ fun _ k_ => XT.land X31.here hx rfl (hb hby d16_51) rfl k_
    refine Go.k 56 [(.long ((f1 wd.toNatClampNeg) &&& ((-1 : Int64) <<< (pos.toInt64 &&& 63))))] ?_ fun _ k_ => XS.goto X31.here hx rfl (pc0 := 52) (pc' := 56) rfl (hb hby d16_52) (by decide) (by decide) k_
    obtain ⟨bt, ebt⟩ : ∃ q_ : Int64, q_ = ((f1 wd.toNatClampNeg) &&& ((-1 : Int64) <<< (pos.toInt64 &&& 63))) := ⟨_, rfl⟩
    rw [← ebt]
    rw [nwd] at ebt
    have hin := Int32.lt_iff_toInt_lt.mp hc32
    refine Go.s (g' := (mkF m 58 #[(sR w), (sI fr), (sI (1 : Int32)), (sI pos), (sJ bt), .second, (sR x1), (sI wd)] [])) ?_ fun _ k_ => XT.lstore X31.here hx rfl (hb hby d16_56) rfl (l' := #[(sR w), (sI fr), (sI (1 : Int32)), (sI pos), (sJ bt), .second, (sR x1), (sI wd)]) rfl k_
    refine Go.k 60 [(.long bt)] ?_ fun _ k_ => XT.lload X31.here hx rfl (hb hby d16_58) rfl k_
    refine Go.k 61 [(.long (0 : Int64)), (.long bt)] ?_ fun _ k_ => XT.lconstV X31.here hx rfl (0 : Int64) (hb hby d16_60) (by decide) k_
    refine Go.k 62 [(.int (lcmpW bt (0 : Int64)))] ?_ fun _ k_ => XT.lcmp X31.here hx rfl (hb hby d16_61) rfl k_
    by_cases hc33 : bt = (0 : Int64)
    · refine Go.k 65 [] ?_ fun _ k_ => XS.ifNo X31.here hx rfl (hb hby d16_62) rfl ((if0 _ _).trans (teq ((lw_eq _ _).mpr hc33)).2) k_
      refine Go.k 67 [(.int wd)] ?_ fun _ k_ => XS.iload X31.here hx rfl (hb hby d16_65) rfl k_
      refine Go.k 68 [(.int (1 : Int32)), (.int wd)] ?_ fun _ k_ => XT.iconstV X31.here hx rfl (1 : Int32) (hb hby d16_67) (by decide) k_
      refine Go.k 69 [(.int (wd + (1 : Int32)))] ?_ fun _ k_ => XS.iadd X31.here hx rfl (hb hby d16_68) rfl k_
      refine Go.k 83 [(.int (wd + (1 : Int32)))] ?_ fun _ k_ => XS.goto X31.here hx rfl (pc0 := 69) (pc' := 83) rfl (hb hby d16_69) (by decide) (by decide) k_
      have a1 := c_iadd wd 1
      have a2 : (1 : Int32).toInt = 1 := by decide
      obtain ⟨a3, a4⟩ := rng32 (wd + 1)
      obtain ⟨ps, eps⟩ : ∃ q_ : Int32, q_ = wd + 1 := ⟨_, rfl⟩
      rw [← eps] at a1 a3 a4 ⊢
      have hps : ps.toInt = wd.toInt + 1 := by omega
      have nps : ps.toNatClampNeg = pos.toNatClampNeg / 64 + 1 := by simp only [Int32.toNatClampNeg]; omega
      rw [hc33]
      refine Go.s (g' := (mkF m 84 #[(sR w), (sI fr), (sI (1 : Int32)), (sI ps), (sJ (0 : Int64)), .second, (sR x1), (sI wd)] [])) ?_ fun _ k_ => XS.istoreN X31.here hx rfl (hb hby d16_83) rfl (l' := #[(sR w), (sI fr), (sI (1 : Int32)), (sI ps), (sJ (0 : Int64)), .second, (sR x1), (sI wd)]) rfl k_
      refine Go.s (g' := (mkF m 87 #[(sR w), (sI fr), (sI (2 : Int32)), (sI ps), (sJ (0 : Int64)), .second, (sR x1), (sI wd)] [])) ?_ fun _ k_ => XT.iincV X31.here hx rfl (1 : Int32) (hb hby d16_84) (by decide) rfl (l' := #[(sR w), (sI fr), (sI (2 : Int32)), (sI ps), (sJ (0 : Int64)), .second, (sR x1), (sI wd)]) rfl k_
      refine Go.k 7 [] ?_ fun _ k_ => XS.goto X31.here hx rfl (pc0 := 87) (pc' := 7) rfl (hb hby d16_87) (by decide) (by decide) k_
      exact climb2 T31 ps X31 e31 x1 wd (by omega) (by rw [nps]; exact hN.step U1 (own_scan0 (by omega) (ebt.symm.trans hc33)))
    · refine Go.k 72 [] ?_ fun _ k_ => XS.ifYes X31.here hx rfl (pc0 := 62) (pc' := 72) rfl (hb hby d16_62) rfl ((if0 _ _).trans (feq (fun q_ => hc33 ((lw_eq _ _).mp q_))).2) (by decide) (by decide) k_
      refine Go.k 74 [(.int wd)] ?_ fun _ k_ => XS.iload X31.here hx rfl (hb hby d16_72) rfl k_
      refine Go.k 76 [(.int (6 : Int32)), (.int wd)] ?_ fun _ k_ => XT.bipushV X31.here hx rfl (6 : Int32) (hb hby d16_74) (by decide) k_
      refine Go.k 77 [(.int (wd <<< ((6 : Int32) &&& 31)))] ?_ fun _ k_ => XT.ishl X31.here hx rfl (hb hby d16_76) rfl k_
      refine Go.k 79 [(.long bt), (.int (wd <<< ((6 : Int32) &&& 31)))] ?_ fun _ k_ => XT.lload X31.here hx rfl (hb hby d16_77) rfl k_
      refine Go.callS X31 hx hZ hown (wq hw 45 rfl) (wq hw 46 rfl) (wq hw 47 rfl) (wq hw 48 rfl) (by decide) (rntl l Z a0 hw [] bt  h0 n0 Z0 ) e31 (by decide) (W := 1) (by decide) (by decide) (by decide) (g := (mkF m 79 #[(sR w), (sI fr), (sI (1 : Int32)), (sI pos), (sJ bt), .second, (sR x1), (sI wd)] [(.long bt), (.int (wd <<< ((6 : Int32) &&& 31)))])) (rest := [(.int (wd <<< ((6 : Int32) &&& 31)))]) rfl (by rw [hml]; rfl) (lenOf pd__J_I rfl) rfl (by show 2 * 0 + _ ≤ _; exact Nat.le_of_eq rfl) (hb hby d16_79) ?_
      rintro v34 T34 L34 X34 ⟨rfl, N34, e34⟩
      have M34 := Fr.app N0 N34
      show Go p e below _ T34 (mkF m 82 #[(sR w), (sI fr), (sI (1 : Int32)), (sI pos), (sJ bt), .second, (sR x1), (sI wd)] [(.int (own_ntzL bt)), (.int (wd <<< ((6 : Int32) &&& 31)))])
      refine Go.k 83 [(.int ((wd <<< ((6 : Int32) &&& 31)) + (own_ntzL bt)))] ?_ fun _ k_ => XS.iadd X34.here hx rfl (hb hby d16_82) rfl k_
      obtain ⟨nt, hnt, ent, bnt, lnt⟩ := own_ntz bt hc33
      obtain ⟨hps1, nps⟩ := own_shl6 wd bt nt (by omega) (by omega) ent hnt
      obtain ⟨ps1, eps⟩ : ∃ q_ : Int32, q_ = (wd <<< ((6 : Int32) &&& 31)) + (own_ntzL bt) := ⟨_, rfl⟩
      rw [← eps] at hps1 nps ⊢
      rw [nwd] at nps
      rw [ebt] at bnt lnt
      obtain ⟨q1, q2, q3⟩ := own_scan1 (by omega) hnt bnt lnt
      rw [← nps] at q1 q2 q3
      have D1 : own_D f0 f1 fr.toNatClampNeg 1 ps1.toNatClampNeg := hN.find U1 q1 q2 q3
      refine Go.s (g' := (mkF m 84 #[(sR w), (sI fr), (sI (1 : Int32)), (sI ps1), (sJ bt), .second, (sR x1), (sI wd)] [])) ?_ fun _ k_ => XS.istoreN X34.here hx rfl (hb hby d16_83) rfl (l' := #[(sR w), (sI fr), (sI (1 : Int32)), (sI ps1), (sJ bt), .second, (sR x1), (sI wd)]) rfl k_
      refine Go.s (g' := (mkF m 87 #[(sR w), (sI fr), (sI (2 : Int32)), (sI ps1), (sJ bt), .second, (sR x1), (sI wd)] [])) ?_ fun _ k_ => XT.iincV X34.here hx rfl (1 : Int32) (hb hby d16_84) (by decide) rfl (l' := #[(sR w), (sI fr), (sI (2 : Int32)), (sI ps1), (sJ bt), .second, (sR x1), (sI wd)]) rfl k_
      refine Go.k 7 [] ?_ fun _ k_ => XS.goto X34.here hx rfl (pc0 := 87) (pc' := 7) rfl (hb hby d16_87) (by decide) (by decide) k_
      refine Go.k 8 [(.int (2 : Int32))] ?_ fun _ k_ => XS.iloadN X34.here hx rfl (hb hby d16_7) rfl k_
      refine Go.k 9 [(.int (5 : Int32)), (.int (2 : Int32))] ?_ fun _ k_ => XT.iconstV X34.here hx rfl (5 : Int32) (hb hby d16_8) (by decide) k_
      refine Go.k 12 [] ?_ fun _ k_ => XS.icmpNo X34.here hx rfl (hb hby d16_9) rfl (by decide) k_
      refine Go.k 14 [(.long bt)] ?_ fun _ k_ => XT.lload X34.here hx rfl (hb hby d16_12) rfl k_
      refine Go.k 15 [(.long (0 : Int64)), (.long bt)] ?_ fun _ k_ => XT.lconstV X34.here hx rfl (0 : Int64) (hb hby d16_14) (by decide) k_
      refine Go.k 16 [(.int (lcmpW bt (0 : Int64)))] ?_ fun _ k_ => XT.lcmp X34.here hx rfl (hb hby d16_15) rfl k_
      refine Go.k 90 [] ?_ fun _ k_ => XS.ifYes X34.here hx rfl (pc0 := 16) (pc' := 90) rfl (hb hby d16_16) rfl ((if0 _ _).trans (feq (fun q_ => (hc33 : ¬ bt = (0 : Int64)) ((lw_eq _ _).mp q_))).2) (by decide) (by decide) k_
      refine Go.k 91 [(.int (-1 : Int32))] ?_ fun _ k_ => XT.iconstV X34.here hx rfl (-1 : Int32) (hb hby d16_90) (by decide) k_
      refine Go.s (g' := (mkF m 93 #[(sR w), (sI fr), (sI (2 : Int32)), (sI ps1), (sJ bt), .second, (sI (-1 : Int32)), (sI wd)] [])) ?_ fun _ k_ => XS.istore X34.here hx rfl (hb hby d16_91) rfl (l' := #[(sR w), (sI fr), (sI (2 : Int32)), (sI ps1), (sJ bt), .second, (sI (-1 : Int32)), (sI wd)]) rfl k_
      refine Go.k 95 [(.long bt)] ?_ fun _ k_ => XT.lload X34.here hx rfl (hb hby d16_93) rfl k_
      refine Go.k 96 [(.long (0 : Int64)), (.long bt)] ?_ fun _ k_ => XT.lconstV X34.here hx rfl (0 : Int64) (hb hby d16_95) (by decide) k_
      refine Go.k 97 [(.int (lcmpW bt (0 : Int64)))] ?_ fun _ k_ => XT.lcmp X34.here hx rfl (hb hby d16_96) rfl k_
      refine Go.k 100 [] ?_ fun _ k_ => XS.ifNo X34.here hx rfl (hb hby d16_97) rfl ((if0 _ _).trans (feq (fun q_ => (hc33 : ¬ bt = (0 : Int64)) ((lw_eq _ _).mp q_))).1) k_
      refine Go.k 101 [(.int (2 : Int32))] ?_ fun _ k_ => XS.iloadN X34.here hx rfl (hb hby d16_100) rfl k_
      refine Go.k 102 [(.int (2 : Int32)), (.int (2 : Int32))] ?_ fun _ k_ => XT.iconstV X34.here hx rfl (2 : Int32) (hb hby d16_101) (by decide) k_
      refine Go.k 103 [(.int (0 : Int32))] ?_ fun _ k_ => XS.isub X34.here hx rfl (hb hby d16_102) rfl k_
      refine Go.s (g' := (mkF m 105 #[(sR w), (sI fr), (sI (2 : Int32)), (sI ps1), (sJ bt), .second, (sI (-1 : Int32)), (sI (0 : Int32))] [])) ?_ fun _ k_ => XS.istore X34.here hx rfl (hb hby d16_103) rfl (l' := #[(sR w), (sI fr), (sI (2 : Int32)), (sI ps1), (sJ bt), .second, (sI (-1 : Int32)), (sI (0 : Int32))]) rfl k_
      refine Go.k 107 [(.int (0 : Int32))] ?_ fun _ k_ => XS.iload X34.here hx rfl (hb hby d16_105) rfl k_
      refine Go.k 110 [] ?_ fun _ k_ => XS.ifNo X34.here hx rfl (hb hby d16_107) rfl (by decide) k_
      refine Go.k 111 [(.int ps1)] ?_ fun _ k_ => XS.iloadN X34.here hx rfl (hb hby d16_110) rfl k_
      refine Go.k 113 [(.int (6 : Int32)), (.int ps1)] ?_ fun _ k_ => XT.bipushV X34.here hx rfl (6 : Int32) (hb hby d16_111) (by decide) k_
      refine Go.k 114 [(.int (ps1 <<< ((6 : Int32) &&& 31)))] ?_ fun _ k_ => XT.ishl X34.here hx rfl (hb hby d16_113) rfl k_
      refine Go.k 115 [(.ref w), (.int (ps1 <<< ((6 : Int32) &&& 31)))] ?_ fun _ k_ => XS.aloadN X34.here hx rfl (hb hby d16_114) rfl rfl k_
      obtain ⟨T35, X35, e35, st35⟩ := getF X34 hx hZ hown (host := "") (Or.inl (wq hw 13 rfl)) Via.refl e34 WF (g := (mkF m 115 #[(sR w), (sI fr), (sI (2 : Int32)), (sI ps1), (sJ bt), .second, (sI (-1 : Int32)), (sI (0 : Int32))] [(.ref w), (.int (ps1 <<< ((6 : Int32) &&& 31)))])) rfl rfl (hb hby d16_115)
      refine Go.t T35 118 [(.ref lv), (.int (ps1 <<< ((6 : Int32) &&& 31)))] ?_ st35
      refine Go.k 120 [(.int (0 : Int32)), (.ref lv), (.int (ps1 <<< ((6 : Int32) &&& 31)))] ?_ fun _ k_ => XS.iload X35.here hx rfl (hb hby d16_118) rfl k_
      refine Go.t T35 121 [(.ref x0), (.int (ps1 <<< ((6 : Int32) &&& 31)))] ?_ (own_aaload X35 hx hZ e35 WA rfl (by decide) (by rw [show (0 : Int32).toNatClampNeg = 0 from by decide]; rfl) (g := (mkF m 120 #[(sR w), (sI fr), (sI (2 : Int32)), (sI ps1), (sJ bt), .second, (sI (-1 : Int32)), (sI (0 : Int32))] [(.int (0 : Int32)), (.ref lv), (.int (ps1 <<< ((6 : Int32) &&& 31)))])) rfl rfl (hb hby d16_120))
      refine Go.k 122 [(.int ps1), (.ref x0), (.int (ps1 <<< ((6 : Int32) &&& 31)))] ?_ fun _ k_ => XS.iloadN X35.here hx rfl (hb hby d16_121) rfl k_
      have nz0 := D1.ne hp0
      have lt0 : ps1.toNatClampNeg < z0.toNatClampNeg := Nat.lt_of_not_le fun q_ => nz0 (B0.2 _ q_)
      have li0 : ps1.toInt < z0.toInt := by simp only [Int32.toNatClampNeg] at lt0; omega
      refine Go.t T35 123 [(.long (f0 ps1.toNatClampNeg)), (.int (ps1 <<< ((6 : Int32) &&& 31)))] ?_ (own_laL X35 hx hZ e35 B0 ⟨own_i_nlt rfl (by decide : (0 : Int32).toInt = 0) (by omega), own_i_lt rfl rfl (by omega)⟩ (g := (mkF m 122 #[(sR w), (sI fr), (sI (2 : Int32)), (sI ps1), (sJ bt), .second, (sI (-1 : Int32)), (sI (0 : Int32))] [(.int ps1), (.ref x0), (.int (ps1 <<< ((6 : Int32) &&& 31)))])) rfl rfl (hb hby d16_122))
      refine Go.callS X35 hx hZ hown (wq hw 45 rfl) (wq hw 46 rfl) (wq hw 47 rfl) (wq hw 48 rfl) (by decide) (rntl l Z a0 hw [] (f0 ps1.toNatClampNeg)  h0 n0 Z0 ) e35 (by decide) (W := 1) (by decide) (by decide) (by decide) (g := (mkF m 123 #[(sR w), (sI fr), (sI (2 : Int32)), (sI ps1), (sJ bt), .second, (sI (-1 : Int32)), (sI (0 : Int32))] [(.long (f0 ps1.toNatClampNeg)), (.int (ps1 <<< ((6 : Int32) &&& 31)))])) (rest := [(.int (ps1 <<< ((6 : Int32) &&& 31)))]) rfl (by rw [hml]; rfl) (lenOf pd__J_I rfl) rfl (by show 2 * 0 + _ ≤ _; exact Nat.le_of_eq rfl) (hb hby d16_123) ?_
      rintro v36 T36 L36 X36 ⟨rfl, N36, e36⟩
      have M36 := Fr.app M34 N36
      show Go p e below _ T36 (mkF m 126 #[(sR w), (sI fr), (sI (2 : Int32)), (sI ps1), (sJ bt), .second, (sI (-1 : Int32)), (sI (0 : Int32))] [(.int (own_ntzL (f0 ps1.toNatClampNeg))), (.int (ps1 <<< ((6 : Int32) &&& 31)))])
      refine Go.k 127 [(.int ((ps1 <<< ((6 : Int32) &&& 31)) + (own_ntzL (f0 ps1.toNatClampNeg))))] ?_ fun _ k_ => XS.iadd X36.here hx rfl (hb hby d16_126) rfl k_
      obtain ⟨nt0, hnt0, ent0, bnt0, lnt0⟩ := own_ntz (f0 ps1.toNatClampNeg) nz0
      obtain ⟨hps0, nps0⟩ := own_shl6 ps1 (f0 ps1.toNatClampNeg) nt0 (by omega) (by omega) ent0 hnt0
      obtain ⟨ps0, eps0⟩ : ∃ q_ : Int32, q_ = (ps1 <<< ((6 : Int32) &&& 31)) + (own_ntzL (f0 ps1.toNatClampNeg)) := ⟨_, rfl⟩
      rw [← eps0] at hps0 nps0 ⊢
      have D0 : own_D f0 f0 fr.toNatClampNeg 0 ps0.toNatClampNeg := own_D.down U0 D1 hnt0 nps0 bnt0 lnt0
      refine Go.s (g' := (mkF m 128 #[(sR w), (sI fr), (sI (2 : Int32)), (sI ps0), (sJ bt), .second, (sI (-1 : Int32)), (sI (0 : Int32))] [])) ?_ fun _ k_ => XS.istoreN X36.here hx rfl (hb hby d16_127) rfl (l' := #[(sR w), (sI fr), (sI (2 : Int32)), (sI ps0), (sJ bt), .second, (sI (-1 : Int32)), (sI (0 : Int32))]) rfl k_
      refine Go.s (g' := (mkF m 131 #[(sR w), (sI fr), (sI (2 : Int32)), (sI ps0), (sJ bt), .second, (sI (-1 : Int32)), (sI (-1 : Int32))] [])) ?_ fun _ k_ => XT.iincV X36.here hx rfl (-1 : Int32) (hb hby d16_128) (by decide) rfl (l' := #[(sR w), (sI fr), (sI (2 : Int32)), (sI ps0), (sJ bt), .second, (sI (-1 : Int32)), (sI (-1 : Int32))]) rfl k_
      refine Go.k 105 [] ?_ fun _ k_ => XS.goto X36.here hx rfl (pc0 := 131) (pc' := 105) rfl (hb hby d16_131) (by decide) (by decide) k_
      refine Go.k 107 [(.int (-1 : Int32))] ?_ fun _ k_ => XS.iload X36.here hx rfl (hb hby d16_105) rfl k_
      refine Go.k 134 [] ?_ fun _ k_ => XS.ifYes X36.here hx rfl (pc0 := 107) (pc' := 134) rfl (hb hby d16_107) rfl (by decide) (by decide) (by decide) k_
      refine Go.k 135 [(.int ps0)] ?_ fun _ k_ => XS.iloadN X36.here hx rfl (hb hby d16_134) rfl k_
      refine Go.s (g' := (mkF m 137 #[(sR w), (sI fr), (sI (2 : Int32)), (sI ps0), (sJ bt), .second, (sI ps0), (sI (-1 : Int32))] [])) ?_ fun _ k_ => XS.istore X36.here hx rfl (hb hby d16_135) rfl (l' := #[(sR w), (sI fr), (sI (2 : Int32)), (sI ps0), (sJ bt), .second, (sI ps0), (sI (-1 : Int32))]) rfl k_
      refine Go.k 139 [(.int ps0)] ?_ fun _ k_ => XS.iload X36.here hx rfl (hb hby d16_137) rfl k_
      exact Go.retV (t := .int) X36 hx hret hlk (by decide) (by decide) rfl (Or.inl ⟨rfl, Or.inl rfl, _, rfl⟩) (hb hby d16_139) ⟨ps0, rfl, M36, e36, Or.inr ⟨D0.2.2 _ (Nat.le_refl _), by omega, by omega, D0.1, D0.2.1⟩⟩
  · refine Go.k 55 [] ?_ fun _ k_ => XS.icmpYes X31.here hx rfl (pc0 := 38) (pc' := 55) rfl (hb hby d16_38) rfl (flt hc32).2.1 (by decide) (by decide) k_
    refine Go.k 56 [(.long (0 : Int64))] ?_ fun _ k_ => XT.lconstV X31.here hx rfl (0 : Int64) (hb hby d16_55) (by decide) k_
    refine Go.s (g' := (mkF m 58 #[(sR w), (sI fr), (sI (1 : Int32)), (sI pos), (sJ (0 : Int64)), .second, (sR x1), (sI wd)] [])) ?_ fun _ k_ => XT.lstore X31.here hx rfl (hb hby d16_56) rfl (l' := #[(sR w), (sI fr), (sI (1 : Int32)), (sI pos), (sJ (0 : Int64)), .second, (sR x1), (sI wd)]) rfl k_
    refine Go.k 60 [(.long (0 : Int64))] ?_ fun _ k_ => XT.lload X31.here hx rfl (hb hby d16_58) rfl k_
    refine Go.k 61 [(.long (0 : Int64)), (.long (0 : Int64))] ?_ fun _ k_ => XT.lconstV X31.here hx rfl (0 : Int64) (hb hby d16_60) (by decide) k_
    refine Go.k 62 [(.int (lcmpW (0 : Int64) (0 : Int64)))] ?_ fun _ k_ => XT.lcmp X31.here hx rfl (hb hby d16_61) rfl k_
    refine Go.k 65 [] ?_ fun _ k_ => XS.ifNo X31.here hx rfl (hb hby d16_62) rfl ((if0 _ _).trans (teq ((lw_eq _ _).mpr (rfl : (0 : Int64) = (0 : Int64)))).2) k_
    refine Go.k 67 [(.int wd)] ?_ fun _ k_ => XS.iload X31.here hx rfl (hb hby d16_65) rfl k_
    refine Go.k 68 [(.int (1 : Int32)), (.int wd)] ?_ fun _ k_ => XT.iconstV X31.here hx rfl (1 : Int32) (hb hby d16_67) (by decide) k_
    refine Go.k 69 [(.int (wd + (1 : Int32)))] ?_ fun _ k_ => XS.iadd X31.here hx rfl (hb hby d16_68) rfl k_
    refine Go.k 83 [(.int (wd + (1 : Int32)))] ?_ fun _ k_ => XS.goto X31.here hx rfl (pc0 := 69) (pc' := 83) rfl (hb hby d16_69) (by decide) (by decide) k_
    have a1 := c_iadd wd 1
    have a2 : (1 : Int32).toInt = 1 := by decide
    obtain ⟨a3, a4⟩ := rng32 (wd + 1)
    obtain ⟨ps, eps⟩ : ∃ q_ : Int32, q_ = wd + 1 := ⟨_, rfl⟩
    rw [← eps] at a1 a3 a4 ⊢
    have hps : ps.toInt = wd.toInt + 1 := by omega
    have nps : ps.toNatClampNeg = pos.toNatClampNeg / 64 + 1 := by simp only [Int32.toNatClampNeg]; omega
    refine Go.s (g' := (mkF m 84 #[(sR w), (sI fr), (sI (1 : Int32)), (sI ps), (sJ (0 : Int64)), .second, (sR x1), (sI wd)] [])) ?_ fun _ k_ => XS.istoreN X31.here hx rfl (hb hby d16_83) rfl (l' := #[(sR w), (sI fr), (sI (1 : Int32)), (sI ps), (sJ (0 : Int64)), .second, (sR x1), (sI wd)]) rfl k_
    refine Go.s (g' := (mkF m 87 #[(sR w), (sI fr), (sI (2 : Int32)), (sI ps), (sJ (0 : Int64)), .second, (sR x1), (sI wd)] [])) ?_ fun _ k_ => XT.iincV X31.here hx rfl (1 : Int32) (hb hby d16_84) (by decide) rfl (l' := #[(sR w), (sI fr), (sI (2 : Int32)), (sI ps), (sJ (0 : Int64)), .second, (sR x1), (sI wd)]) rfl k_
    refine Go.k 7 [] ?_ fun _ k_ => XS.goto X31.here hx rfl (pc0 := 87) (pc' := 7) rfl (hb hby d16_87) (by decide) (by decide) k_
    exact climb2 T31 ps X31 e31 x1 wd (by omega) (by rw [nps]; exact hN.step U1 (own_scanZ (B1.2 _ (by rw [← nwd]; exact own_natle (by omega) hc32))))
set_option maxRecDepth 65536 in
set_option maxHeartbeats 40000000 in
theorem nxt_0 (l : Launch) (Z : State) (a0 : Array Value) (hw : ∀ d ∈ tables_1, d.before a0 Z = true) (w lv : Addr) (kL : ClassId) (x0 x1 x2 x3 x4 : Addr) (z0 z1 z2 z3 z4 : Int32) (f0 f1 f2 f3 f4 : Nat → Int64) (fr : Int32) (h0 : Heap) (n0 : Nat) (Z0 : n0 ≤ h0.size) (HW : own_WI Z h0 n0 w lv kL x0 x1 x2 x3 x4 z0 z1 z2 z3 z4 f0 f1 f2 f3 f4) (HC : own_Ch z0 z1 z2 z3 z4) (b0 : 0 ≤ fr.toInt) (b1 : fr.toInt ≤ 524287) (HP : own_P f0 f1 ∧ own_P f1 f2 ∧ own_P f2 f3 ∧ own_P f3 f4) (p : Program) (e : Env) (s : State) (m : MethodId) (below : List Frame) (meth : Method) (c : Code) (hx : p.tables.exec = Jvm.exec) (hby : c.code = prog_59_method_7_code) (hml : c.maxLocals = 8) (hret : meth.sig.returnType = some .int) (hlk : meth.locks = false) (hown : s.vm.findClass "com/example/slantwise/slantwise/engine/WordIndex" = some m.cls) (hZ : Z.Warmed39 s.vm) : ∀ (T : State) (pos : Int32), Stand p l e ({ frames := 2, cells := 0, slots := 0, locals := 32 } : Room) s m #[(.ref w), (.int fr)] below meth c T [] 0 0 → T.heap = h0 → (0 ≤ pos.toInt ∧ pos.toInt ≤ 1048576) → own_N f0 fr.toNatClampNeg 0 pos.toNatClampNeg → Go p e below (EndP below s (fun v h L => ∃ r : Int32, v = some (.int r) ∧ Fr n0 L ∧ h = h0 ∧ ((r = -1 ∧ ∀ i, fr.toNatClampNeg ≤ i → own_b f0 i = false) ∨ (fr.toNatClampNeg ≤ r.toNatClampNeg ∧ 0 ≤ r.toInt ∧ r.toInt ≤ 1048640 ∧ own_b f0 r.toNatClampNeg = true ∧ ∀ i, fr.toNatClampNeg ≤ i → i < r.toNatClampNeg → own_b f0 i = false))) ({ frames := 2, cells := 0, slots := 0, locals := 32 } : Room).cells ({ frames := 2, cells := 0, slots := 0, locals := 32 } : Room).slots) T (mkF m 7 #[(sR w), (sI fr), (sI (0 : Int32)), (sI pos), (sJ (0 : Int64)), .second, .unset, .unset] []) := by
  have climb1 := nxt_1 l Z a0 hw w lv kL x0 x1 x2 x3 x4 z0 z1 z2 z3 z4 f0 f1 f2 f3 f4 fr h0 n0 Z0 HW HC b0 b1 HP p e s m below meth c hx hby hml hret hlk hown hZ
  have N0 := Fr.nil n0
  obtain ⟨WE, WF, WA, WO, B0, B1, B2, B3, B4, gl, g0, g1, g2, g3, g4, ne_w_lv, ne_w_x0, ne_w_x1, ne_w_x2, ne_w_x3, ne_w_x4, ne_lv_x0, ne_lv_x1, ne_lv_x2, ne_lv_x3, ne_lv_x4, ne_x0_x1, ne_x0_x2, ne_x0_x3, ne_x0_x4, ne_x1_x2, ne_x1_x3, ne_x1_x4, ne_x2_x3, ne_x2_x4, ne_x3_x4⟩ := HW
  obtain ⟨c0a, c0b, c1a, c1b, c2a, c2b, c3a, c3b, c4a, c4b, d0, d1, d2, d3⟩ := HC
  obtain ⟨hp0, hp1, hp2, hp3⟩ := HP
  have U0 := own_U0 f0
  have U1 := own_US U0 hp0
  have U2 := own_US U1 hp1
  have U3 := own_US U2 hp2
  have U4 := own_US U3 hp3
  intro T pos X1 eT hpos hN
  refine Go.k 8 [(.int (0 : Int32))] ?_ fun _ k_ => XS.iloadN X1.here hx rfl (hb hby d16_7) rfl k_
  refine Go.k 9 [(.int (5 : Int32)), (.int (0 : Int32))] ?_ fun _ k_ => XT.iconstV X1.here hx rfl (5 : Int32) (hb hby d16_8) (by decide) k_
  refine Go.k 12 [] ?_ fun _ k_ => XS.icmpNo X1.here hx rfl (hb hby d16_9) rfl (by decide) k_
  refine Go.k 14 [(.long (0 : Int64))] ?_ fun _ k_ => XT.lload X1.here hx rfl (hb hby d16_12) rfl k_
  refine Go.k 15 [(.long (0 : Int64)), (.long (0 : Int64))] ?_ fun _ k_ => XT.lconstV X1.here hx rfl (0 : Int64) (hb hby d16_14) (by decide) k_
  refine Go.k 16 [(.int (lcmpW (0 : Int64) (0 : Int64)))] ?_ fun _ k_ => XT.lcmp X1.here hx rfl (hb hby d16_15) rfl k_
  refine Go.k 19 [] ?_ fun _ k_ => XS.ifNo X1.here hx rfl (hb hby d16_16) rfl ((if0 _ _).trans (teq ((lw_eq _ _).mpr (rfl : (0 : Int64) = (0 : Int64)))).2) k_
  refine Go.k 20 [(.ref w)] ?_ fun _ k_ => XS.aloadN X1.here hx rfl (hb hby d16_19) rfl rfl k_
  obtain ⟨T37, X37, e37, st37⟩ := getF X1 hx hZ hown (host := "") (Or.inl (wq hw 13 rfl)) Via.refl eT WF (g := (mkF m 20 #[(sR w), (sI fr), (sI (0 : Int32)), (sI pos), (sJ (0 : Int64)), .second, .unset, .unset] [(.ref w)])) rfl rfl (hb hby d16_20)
  refine Go.t T37 23 [(.ref lv)] ?_ st37
  refine Go.k 24 [(.int (0 : Int32)), (.ref lv)] ?_ fun _ k_ => XS.iloadN X37.here hx rfl (hb hby d16_23) rfl k_
  refine Go.t T37 25 [(.ref x0)] ?_ (own_aaload X37 hx hZ e37 WA rfl (by decide) (by rw [show (0 : Int32).toNatClampNeg = 0 from by decide]; rfl) (g := (mkF m 24 #[(sR w), (sI fr), (sI (0 : Int32)), (sI pos), (sJ (0 : Int64)), .second, .unset, .unset] [(.int (0 : Int32)), (.ref lv)])) rfl rfl (hb hby d16_24))
  refine Go.s (g' := (mkF m 27 #[(sR w), (sI fr), (sI (0 : Int32)), (sI pos), (sJ (0 : Int64)), .second, (sR x0), .unset] [])) ?_ fun _ k_ => XS.astore X37.here hx rfl (hb hby d16_25) rfl rfl (l' := #[(sR w), (sI fr), (sI (0 : Int32)), (sI pos), (sJ (0 : Int64)), .second, (sR x0), .unset]) rfl k_
  refine Go.k 28 [(.int pos)] ?_ fun _ k_ => XS.iloadN X37.here hx rfl (hb hby d16_27) rfl k_
  refine Go.k 30 [(.int (6 : Int32)), (.int pos)] ?_ fun _ k_ => XT.bipushV X37.here hx rfl (6 : Int32) (hb hby d16_28) (by decide) k_
  refine Go.k 31 [(.int (XT.ushr pos (6 : Int32)))] ?_ fun _ k_ => XT.iushr X37.here hx rfl (hb hby d16_30) rfl k_
  obtain ⟨wd, ewd⟩ : ∃ q_ : Int32, q_ = XT.ushr pos 6 := ⟨_, rfl⟩
  rw [← ewd]
  have hwd : wd.toInt = pos.toInt / 64 := by rw [ewd]; exact own_ushr6 _ (by omega)
  have nwd : wd.toNatClampNeg = pos.toNatClampNeg / 64 := by simp only [Int32.toNatClampNeg]; omega
  refine Go.s (g' := (mkF m 33 #[(sR w), (sI fr), (sI (0 : Int32)), (sI pos), (sJ (0 : Int64)), .second, (sR x0), (sI wd)] [])) ?_ fun _ k_ => XS.istore X37.here hx rfl (hb hby d16_31) rfl (l' := #[(sR w), (sI fr), (sI (0 : Int32)), (sI pos), (sJ (0 : Int64)), .second, (sR x0), (sI wd)]) rfl k_
  refine Go.k 35 [(.int wd)] ?_ fun _ k_ => XS.iload X37.here hx rfl (hb hby d16_33) rfl k_
  refine Go.k 37 [(.ref x0), (.int wd)] ?_ fun _ k_ => XS.aload X37.here hx rfl (hb hby d16_35) rfl rfl k_
  refine Go.t T37 38 [(.int z0), (.int wd)] ?_ (own_laN X37 hx hZ e37 B0 (g := (mkF m 37 #[(sR w), (sI fr), (sI (0 : Int32)), (sI pos), (sJ (0 : Int64)), .second, (sR x0), (sI wd)] [(.ref x0), (.int wd)])) rfl rfl (hb hby d16_37))
  by_cases hc38 : wd < z0
  · refine Go.k 41 [] ?_ fun _ k_ => XS.icmpNo X37.here hx rfl (hb hby d16_38) rfl (tlt hc38).2.1 k_
    refine Go.k 43 [(.ref x0)] ?_ fun _ k_ => XS.aload X37.here hx rfl (hb hby d16_41) rfl rfl k_
    refine Go.k 45 [(.int wd), (.ref x0)] ?_ fun _ k_ => XS.iload X37.here hx rfl (hb hby d16_43) rfl k_
    refine Go.t T37 46 [(.long (f0 wd.toNatClampNeg))] ?_ (own_laL X37 hx hZ e37 B0 ⟨own_i_nlt rfl (by decide : (0 : Int32).toInt = 0) (by omega), hc38⟩ (g := (mkF m 45 #[(sR w), (sI fr), (sI (0 : Int32)), (sI pos), (sJ (0 : Int64)), .second, (sR x0), (sI wd)] [(.int wd), (.ref x0)])) rfl rfl (hb hby d16_45))
    refine Go.k 49 [(.long (-1 : Int64)), (.long (f0 wd.toNatClampNeg))] ?_ fun _ k_ => X37.ldc2J hx hown (mvT hZ (wq hw 29 rfl)) rfl (hb hby d16_46) k_
    refine Go.k 50 [(.int pos), (.long (-1 : Int64)), (.long (f0 wd.toNatClampNeg))] ?_ fun _ k_ => XS.iloadN X37.here hx rfl (hb hby d16_49) rfl k_
    refine Go.k 51 [(.long ((-1 : Int64) <<< (pos.toInt64 &&& 63))), (.long (f0 wd.toNatClampNeg))] ?_ fun _ k_ => XT.lshl X37.here hx rfl (hb hby d16_50) rfl k_
    refine Go.k 52 [(.long ((f0 wd.toNatClampNeg) &&& ((-1 : Int64) <<< (pos.toInt64 &&& 63))))] ?_ fun _ k_ => XT.land X37.here hx rfl (hb hby d16_51) rfl k_
    refine Go.k 56 [(.long ((f0 wd.toNatClampNeg) &&& ((-1 : Int64) <<< (pos.toInt64 &&& 63))))] ?_ fun _ k_ => XS.goto X37.here hx rfl (pc0 := 52) (pc' := 56) rfl (hb hby d16_52) (by decide) (by decide) k_
    obtain ⟨bt, ebt⟩ : ∃ q_ : Int64, q_ = ((f0 wd.toNatClampNeg) &&& ((-1 : Int64) <<< (pos.toInt64 &&& 63))) := ⟨_, rfl⟩
    rw [← ebt]
    rw [nwd] at ebt
    have hin := Int32.lt_iff_toInt_lt.mp hc38
    refine Go.s (g' := (mkF m 58 #[(sR w), (sI fr), (sI (0 : Int32)), (sI pos), (sJ bt), .second, (sR x0), (sI wd)] [])) ?_ fun _ k_ => XT.lstore X37.here hx rfl (hb hby d16_56) rfl (l' := #[(sR w), (sI fr), (sI (0 : Int32)), (sI pos), (sJ bt), .second, (sR x0), (sI wd)]) rfl k_
    refine Go.k 60 [(.long bt)] ?_ fun _ k_ => XT.lload X37.here hx rfl (hb hby d16_58) rfl k_
    refine Go.k 61 [(.long (0 : Int64)), (.long bt)] ?_ fun _ k_ => XT.lconstV X37.here hx rfl (0 : Int64) (hb hby d16_60) (by decide) k_
    refine Go.k 62 [(.int (lcmpW bt (0 : Int64)))] ?_ fun _ k_ => XT.lcmp X37.here hx rfl (hb hby d16_61) rfl k_
    by_cases hc39 : bt = (0 : Int64)
    · refine Go.k 65 [] ?_ fun _ k_ => XS.ifNo X37.here hx rfl (hb hby d16_62) rfl ((if0 _ _).trans (teq ((lw_eq _ _).mpr hc39)).2) k_
      refine Go.k 67 [(.int wd)] ?_ fun _ k_ => XS.iload X37.here hx rfl (hb hby d16_65) rfl k_
      refine Go.k 68 [(.int (1 : Int32)), (.int wd)] ?_ fun _ k_ => XT.iconstV X37.here hx rfl (1 : Int32) (hb hby d16_67) (by decide) k_
      refine Go.k 69 [(.int (wd + (1 : Int32)))] ?_ fun _ k_ => XS.iadd X37.here hx rfl (hb hby d16_68) rfl k_
      refine Go.k 83 [(.int (wd + (1 : Int32)))] ?_ fun _ k_ => XS.goto X37.here hx rfl (pc0 := 69) (pc' := 83) rfl (hb hby d16_69) (by decide) (by decide) k_
      have a1 := c_iadd wd 1
      have a2 : (1 : Int32).toInt = 1 := by decide
      obtain ⟨a3, a4⟩ := rng32 (wd + 1)
      obtain ⟨ps, eps⟩ : ∃ q_ : Int32, q_ = wd + 1 := ⟨_, rfl⟩
      rw [← eps] at a1 a3 a4 ⊢
      have hps : ps.toInt = wd.toInt + 1 := by omega
      have nps : ps.toNatClampNeg = pos.toNatClampNeg / 64 + 1 := by simp only [Int32.toNatClampNeg]; omega
      rw [hc39]
      refine Go.s (g' := (mkF m 84 #[(sR w), (sI fr), (sI (0 : Int32)), (sI ps), (sJ (0 : Int64)), .second, (sR x0), (sI wd)] [])) ?_ fun _ k_ => XS.istoreN X37.here hx rfl (hb hby d16_83) rfl (l' := #[(sR w), (sI fr), (sI (0 : Int32)), (sI ps), (sJ (0 : Int64)), .second, (sR x0), (sI wd)]) rfl k_
      refine Go.s (g' := (mkF m 87 #[(sR w), (sI fr), (sI (1 : Int32)), (sI ps), (sJ (0 : Int64)), .second, (sR x0), (sI wd)] [])) ?_ fun _ k_ => XT.iincV X37.here hx rfl (1 : Int32) (hb hby d16_84) (by decide) rfl (l' := #[(sR w), (sI fr), (sI (1 : Int32)), (sI ps), (sJ (0 : Int64)), .second, (sR x0), (sI wd)]) rfl k_
      refine Go.k 7 [] ?_ fun _ k_ => XS.goto X37.here hx rfl (pc0 := 87) (pc' := 7) rfl (hb hby d16_87) (by decide) (by decide) k_
      exact climb1 T37 ps X37 e37 x0 wd (by omega) (by rw [nps]; exact hN.step U0 (own_scan0 (by omega) (ebt.symm.trans hc39)))
    · refine Go.k 72 [] ?_ fun _ k_ => XS.ifYes X37.here hx rfl (pc0 := 62) (pc' := 72) rfl (hb hby d16_62) rfl ((if0 _ _).trans (feq (fun q_ => hc39 ((lw_eq _ _).mp q_))).2) (by decide) (by decide) k_
      refine Go.k 74 [(.int wd)] ?_ fun _ k_ => XS.iload X37.here hx rfl (hb hby d16_72) rfl k_
      refine Go.k 76 [(.int (6 : Int32)), (.int wd)] ?_ fun _ k_ => XT.bipushV X37.here hx rfl (6 : Int32) (hb hby d16_74) (by decide) k_
      refine Go.k 77 [(.int (wd <<< ((6 : Int32) &&& 31)))] ?_ fun _ k_ => XT.ishl X37.here hx rfl (hb hby d16_76) rfl k_
      refine Go.k 79 [(.long bt), (.int (wd <<< ((6 : Int32) &&& 31)))] ?_ fun _ k_ => XT.lload X37.here hx rfl (hb hby d16_77) rfl k_
      refine Go.callS X37 hx hZ hown (wq hw 45 rfl) (wq hw 46 rfl) (wq hw 47 rfl) (wq hw 48 rfl) (by decide) (rntl l Z a0 hw [] bt  h0 n0 Z0 ) e37 (by decide) (W := 1) (by decide) (by decide) (by decide) (g := (mkF m 79 #[(sR w), (sI fr), (sI (0 : Int32)), (sI pos), (sJ bt), .second, (sR x0), (sI wd)] [(.long bt), (.int (wd <<< ((6 : Int32) &&& 31)))])) (rest := [(.int (wd <<< ((6 : Int32) &&& 31)))]) rfl (by rw [hml]; rfl) (lenOf pd__J_I rfl) rfl (by show 2 * 0 + _ ≤ _; exact Nat.le_of_eq rfl) (hb hby d16_79) ?_
      rintro v40 T40 L40 X40 ⟨rfl, N40, e40⟩
      have M40 := Fr.app N0 N40
      show Go p e below _ T40 (mkF m 82 #[(sR w), (sI fr), (sI (0 : Int32)), (sI pos), (sJ bt), .second, (sR x0), (sI wd)] [(.int (own_ntzL bt)), (.int (wd <<< ((6 : Int32) &&& 31)))])
      refine Go.k 83 [(.int ((wd <<< ((6 : Int32) &&& 31)) + (own_ntzL bt)))] ?_ fun _ k_ => XS.iadd X40.here hx rfl (hb hby d16_82) rfl k_
      obtain ⟨nt, hnt, ent, bnt, lnt⟩ := own_ntz bt hc39
      obtain ⟨hps0, nps⟩ := own_shl6 wd bt nt (by omega) (by omega) ent hnt
      obtain ⟨ps0, eps⟩ : ∃ q_ : Int32, q_ = (wd <<< ((6 : Int32) &&& 31)) + (own_ntzL bt) := ⟨_, rfl⟩
      rw [← eps] at hps0 nps ⊢
      rw [nwd] at nps
      rw [ebt] at bnt lnt
      obtain ⟨q1, q2, q3⟩ := own_scan1 (by omega) hnt bnt lnt
      rw [← nps] at q1 q2 q3
      have D0 : own_D f0 f0 fr.toNatClampNeg 0 ps0.toNatClampNeg := hN.find U0 q1 q2 q3
      refine Go.s (g' := (mkF m 84 #[(sR w), (sI fr), (sI (0 : Int32)), (sI ps0), (sJ bt), .second, (sR x0), (sI wd)] [])) ?_ fun _ k_ => XS.istoreN X40.here hx rfl (hb hby d16_83) rfl (l' := #[(sR w), (sI fr), (sI (0 : Int32)), (sI ps0), (sJ bt), .second, (sR x0), (sI wd)]) rfl k_
      refine Go.s (g' := (mkF m 87 #[(sR w), (sI fr), (sI (1 : Int32)), (sI ps0), (sJ bt), .second, (sR x0), (sI wd)] [])) ?_ fun _ k_ => XT.iincV X40.here hx rfl (1 : Int32) (hb hby d16_84) (by decide) rfl (l' := #[(sR w), (sI fr), (sI (1 : Int32)), (sI ps0), (sJ bt), .second, (sR x0), (sI wd)]) rfl k_
      refine Go.k 7 [] ?_ fun _ k_ => XS.goto X40.here hx rfl (pc0 := 87) (pc' := 7) rfl (hb hby d16_87) (by decide) (by decide) k_
      refine Go.k 8 [(.int (1 : Int32))] ?_ fun _ k_ => XS.iloadN X40.here hx rfl (hb hby d16_7) rfl k_
      refine Go.k 9 [(.int (5 : Int32)), (.int (1 : Int32))] ?_ fun _ k_ => XT.iconstV X40.here hx rfl (5 : Int32) (hb hby d16_8) (by decide) k_
      refine Go.k 12 [] ?_ fun _ k_ => XS.icmpNo X40.here hx rfl (hb hby d16_9) rfl (by decide) k_
      refine Go.k 14 [(.long bt)] ?_ fun _ k_ => XT.lload X40.here hx rfl (hb hby d16_12) rfl k_
      refine Go.k 15 [(.long (0 : Int64)), (.long bt)] ?_ fun _ k_ => XT.lconstV X40.here hx rfl (0 : Int64) (hb hby d16_14) (by decide) k_
      refine Go.k 16 [(.int (lcmpW bt (0 : Int64)))] ?_ fun _ k_ => XT.lcmp X40.here hx rfl (hb hby d16_15) rfl k_
      refine Go.k 90 [] ?_ fun _ k_ => XS.ifYes X40.here hx rfl (pc0 := 16) (pc' := 90) rfl (hb hby d16_16) rfl ((if0 _ _).trans (feq (fun q_ => (hc39 : ¬ bt = (0 : Int64)) ((lw_eq _ _).mp q_))).2) (by decide) (by decide) k_
      refine Go.k 91 [(.int (-1 : Int32))] ?_ fun _ k_ => XT.iconstV X40.here hx rfl (-1 : Int32) (hb hby d16_90) (by decide) k_
      refine Go.s (g' := (mkF m 93 #[(sR w), (sI fr), (sI (1 : Int32)), (sI ps0), (sJ bt), .second, (sI (-1 : Int32)), (sI wd)] [])) ?_ fun _ k_ => XS.istore X40.here hx rfl (hb hby d16_91) rfl (l' := #[(sR w), (sI fr), (sI (1 : Int32)), (sI ps0), (sJ bt), .second, (sI (-1 : Int32)), (sI wd)]) rfl k_
      refine Go.k 95 [(.long bt)] ?_ fun _ k_ => XT.lload X40.here hx rfl (hb hby d16_93) rfl k_
      refine Go.k 96 [(.long (0 : Int64)), (.long bt)] ?_ fun _ k_ => XT.lconstV X40.here hx rfl (0 : Int64) (hb hby d16_95) (by decide) k_
      refine Go.k 97 [(.int (lcmpW bt (0 : Int64)))] ?_ fun _ k_ => XT.lcmp X40.here hx rfl (hb hby d16_96) rfl k_
      refine Go.k 100 [] ?_ fun _ k_ => XS.ifNo X40.here hx rfl (hb hby d16_97) rfl ((if0 _ _).trans (feq (fun q_ => (hc39 : ¬ bt = (0 : Int64)) ((lw_eq _ _).mp q_))).1) k_
      refine Go.k 101 [(.int (1 : Int32))] ?_ fun _ k_ => XS.iloadN X40.here hx rfl (hb hby d16_100) rfl k_
      refine Go.k 102 [(.int (2 : Int32)), (.int (1 : Int32))] ?_ fun _ k_ => XT.iconstV X40.here hx rfl (2 : Int32) (hb hby d16_101) (by decide) k_
      refine Go.k 103 [(.int (-1 : Int32))] ?_ fun _ k_ => XS.isub X40.here hx rfl (hb hby d16_102) rfl k_
      refine Go.s (g' := (mkF m 105 #[(sR w), (sI fr), (sI (1 : Int32)), (sI ps0), (sJ bt), .second, (sI (-1 : Int32)), (sI (-1 : Int32))] [])) ?_ fun _ k_ => XS.istore X40.here hx rfl (hb hby d16_103) rfl (l' := #[(sR w), (sI fr), (sI (1 : Int32)), (sI ps0), (sJ bt), .second, (sI (-1 : Int32)), (sI (-1 : Int32))]) rfl k_
      refine Go.k 107 [(.int (-1 : Int32))] ?_ fun _ k_ => XS.iload X40.here hx rfl (hb hby d16_105) rfl k_
      refine Go.k 134 [] ?_ fun _ k_ => XS.ifYes X40.here hx rfl (pc0 := 107) (pc' := 134) rfl (hb hby d16_107) rfl (by decide) (by decide) (by decide) k_
      refine Go.k 135 [(.int ps0)] ?_ fun _ k_ => XS.iloadN X40.here hx rfl (hb hby d16_134) rfl k_
      refine Go.s (g' := (mkF m 137 #[(sR w), (sI fr), (sI (1 : Int32)), (sI ps0), (sJ bt), .second, (sI ps0), (sI (-1 : Int32))] [])) ?_ fun _ k_ => XS.istore X40.here hx rfl (hb hby d16_135) rfl (l' := #[(sR w), (sI fr), (sI (1 : Int32)), (sI ps0), (sJ bt), .second, (sI ps0), (sI (-1 : Int32))]) rfl k_
      refine Go.k 139 [(.int ps0)] ?_ fun _ k_ => XS.iload X40.here hx rfl (hb hby d16_137) rfl k_
      exact Go.retV (t := .int) X40 hx hret hlk (by decide) (by decide) rfl (Or.inl ⟨rfl, Or.inl rfl, _, rfl⟩) (hb hby d16_139) ⟨ps0, rfl, M40, e40, Or.inr ⟨D0.2.2 _ (Nat.le_refl _), by omega, by omega, D0.1, D0.2.1⟩⟩
  · refine Go.k 55 [] ?_ fun _ k_ => XS.icmpYes X37.here hx rfl (pc0 := 38) (pc' := 55) rfl (hb hby d16_38) rfl (flt hc38).2.1 (by decide) (by decide) k_
    refine Go.k 56 [(.long (0 : Int64))] ?_ fun _ k_ => XT.lconstV X37.here hx rfl (0 : Int64) (hb hby d16_55) (by decide) k_
    refine Go.s (g' := (mkF m 58 #[(sR w), (sI fr), (sI (0 : Int32)), (sI pos), (sJ (0 : Int64)), .second, (sR x0), (sI wd)] [])) ?_ fun _ k_ => XT.lstore X37.here hx rfl (hb hby d16_56) rfl (l' := #[(sR w), (sI fr), (sI (0 : Int32)), (sI pos), (sJ (0 : Int64)), .second, (sR x0), (sI wd)]) rfl k_
    refine Go.k 60 [(.long (0 : Int64))] ?_ fun _ k_ => XT.lload X37.here hx rfl (hb hby d16_58) rfl k_
    refine Go.k 61 [(.long (0 : Int64)), (.long (0 : Int64))] ?_ fun _ k_ => XT.lconstV X37.here hx rfl (0 : Int64) (hb hby d16_60) (by decide) k_
    refine Go.k 62 [(.int (lcmpW (0 : Int64) (0 : Int64)))] ?_ fun _ k_ => XT.lcmp X37.here hx rfl (hb hby d16_61) rfl k_
    refine Go.k 65 [] ?_ fun _ k_ => XS.ifNo X37.here hx rfl (hb hby d16_62) rfl ((if0 _ _).trans (teq ((lw_eq _ _).mpr (rfl : (0 : Int64) = (0 : Int64)))).2) k_
    refine Go.k 67 [(.int wd)] ?_ fun _ k_ => XS.iload X37.here hx rfl (hb hby d16_65) rfl k_
    refine Go.k 68 [(.int (1 : Int32)), (.int wd)] ?_ fun _ k_ => XT.iconstV X37.here hx rfl (1 : Int32) (hb hby d16_67) (by decide) k_
    refine Go.k 69 [(.int (wd + (1 : Int32)))] ?_ fun _ k_ => XS.iadd X37.here hx rfl (hb hby d16_68) rfl k_
    refine Go.k 83 [(.int (wd + (1 : Int32)))] ?_ fun _ k_ => XS.goto X37.here hx rfl (pc0 := 69) (pc' := 83) rfl (hb hby d16_69) (by decide) (by decide) k_
    have a1 := c_iadd wd 1
    have a2 : (1 : Int32).toInt = 1 := by decide
    obtain ⟨a3, a4⟩ := rng32 (wd + 1)
    obtain ⟨ps, eps⟩ : ∃ q_ : Int32, q_ = wd + 1 := ⟨_, rfl⟩
    rw [← eps] at a1 a3 a4 ⊢
    have hps : ps.toInt = wd.toInt + 1 := by omega
    have nps : ps.toNatClampNeg = pos.toNatClampNeg / 64 + 1 := by simp only [Int32.toNatClampNeg]; omega
    refine Go.s (g' := (mkF m 84 #[(sR w), (sI fr), (sI (0 : Int32)), (sI ps), (sJ (0 : Int64)), .second, (sR x0), (sI wd)] [])) ?_ fun _ k_ => XS.istoreN X37.here hx rfl (hb hby d16_83) rfl (l' := #[(sR w), (sI fr), (sI (0 : Int32)), (sI ps), (sJ (0 : Int64)), .second, (sR x0), (sI wd)]) rfl k_
    refine Go.s (g' := (mkF m 87 #[(sR w), (sI fr), (sI (1 : Int32)), (sI ps), (sJ (0 : Int64)), .second, (sR x0), (sI wd)] [])) ?_ fun _ k_ => XT.iincV X37.here hx rfl (1 : Int32) (hb hby d16_84) (by decide) rfl (l' := #[(sR w), (sI fr), (sI (1 : Int32)), (sI ps), (sJ (0 : Int64)), .second, (sR x0), (sI wd)]) rfl k_
    refine Go.k 7 [] ?_ fun _ k_ => XS.goto X37.here hx rfl (pc0 := 87) (pc' := 7) rfl (hb hby d16_87) (by decide) (by decide) k_
    exact climb1 T37 ps X37 e37 x0 wd (by omega) (by rw [nps]; exact hN.step U0 (own_scanZ (B0.2 _ (by rw [← nwd]; exact own_natle (by omega) hc38))))
theorem d16_0 : decode prog_59_method_7_code 0 = .ok (.iconst 0, 1) := by decide +kernel
theorem d16_1 : decode prog_59_method_7_code 1 = .ok (.istore_n 2, 1) := by decide +kernel
theorem d16_2 : decode prog_59_method_7_code 2 = .ok (.iload_n 1, 1) := by decide +kernel
theorem d16_3 : decode prog_59_method_7_code 3 = .ok (.istore_n 3, 1) := by decide +kernel
theorem d16_4 : decode prog_59_method_7_code 4 = .ok (.lconst 0, 1) := by decide +kernel
theorem d16_5 : decode prog_59_method_7_code 5 = .ok (.lstore 4, 2) := by decide +kernel
set_option maxRecDepth 65536 in
set_option maxHeartbeats 40000000 in
theorem nxt (l : Launch) (Z : State) (a0 : Array Value) (hw : ∀ d ∈ tables_1, d.before a0 Z = true) (ws : List Jvm.Cond) (w lv : Addr) (kL : ClassId) (x0 x1 x2 x3 x4 : Addr) (z0 z1 z2 z3 z4 : Int32) (f0 f1 f2 f3 f4 : Nat → Int64) (fr : Int32) (h0 : Heap) (n0 : Nat) (Z0 : n0 ≤ h0.size) (HW : own_WI Z h0 n0 w lv kL x0 x1 x2 x3 x4 z0 z1 z2 z3 z4 f0 f1 f2 f3 f4) (HC : own_Ch z0 z1 z2 z3 z4) (b0 : 0 ≤ fr.toInt) (b1 : fr.toInt ≤ 524287) (HP : own_P f0 f1 ∧ own_P f1 f2 ∧ own_P f2 f3 ∧ own_P f3 f4) :
    Does l (⟨"com/example/slantwise/slantwise/engine/WordIndex", "next", "(I)I"⟩ : MethodName) prog_59_method_7_code 8 (some .int) ws ({ frames := 2, cells := 0, slots := 0, locals := 32 } : Room) #[(.ref w), (.int fr)] Z h0 (fun v h L => ∃ r : Int32, v = some (.int r) ∧ Fr n0 L ∧ h = h0 ∧ ((r = -1 ∧ ∀ i, fr.toNatClampNeg ≤ i → own_b f0 i = false) ∨ (fr.toNatClampNeg ≤ r.toNatClampNeg ∧ 0 ≤ r.toInt ∧ r.toInt ≤ 1048640 ∧ own_b f0 r.toNatClampNeg = true ∧ ∀ i, fr.toNatClampNeg ≤ i → i < r.toNatClampNeg → own_b f0 i = false))) := by
  refine Does.of (plainFor_of_name pn_com_example_slantwise_slantwise_engine_WordIndex) ?_
  intro p e s m below meth c s₁ hx hby hml hret hlk hown0 hnm hZ X0 e0
  have hown : s.vm.findClass "com/example/slantwise/slantwise/engine/WordIndex" = some m.cls := hown0
  have N0 := Fr.nil n0
  have climb0 := nxt_0 l Z a0 hw w lv kL x0 x1 x2 x3 x4 z0 z1 z2 z3 z4 f0 f1 f2 f3 f4 fr h0 n0 Z0 HW HC b0 b1 HP p e s m below meth c hx hby hml hret hlk hown hZ
  obtain ⟨WE, WF, WA, WO, B0, B1, B2, B3, B4, gl, g0, g1, g2, g3, g4, ne_w_lv, ne_w_x0, ne_w_x1, ne_w_x2, ne_w_x3, ne_w_x4, ne_lv_x0, ne_lv_x1, ne_lv_x2, ne_lv_x3, ne_lv_x4, ne_x0_x1, ne_x0_x2, ne_x0_x3, ne_x0_x4, ne_x1_x2, ne_x1_x3, ne_x1_x4, ne_x2_x3, ne_x2_x4, ne_x3_x4⟩ := HW
  obtain ⟨c0a, c0b, c1a, c1b, c2a, c2b, c3a, c3b, c4a, c4b, d0, d1, d2, d3⟩ := HC
  obtain ⟨hp0, hp1, hp2, hp3⟩ := HP
  have U0 := own_U0 f0
  have U1 := own_US U0 hp0
  have U2 := own_US U1 hp1
  have U3 := own_US U2 hp2
  have U4 := own_US U3 hp3
  refine Go.cast (g' := (mkF m 0 #[(sR w), (sI fr), .unset, .unset, .unset, .unset, .unset, .unset] [])) (by first | (simp [entryFrame, mkF, argsToLocals, Value.category, maxLocals, sI, sR, sJ]; done) | rfl) ?_
  refine Go.k 1 [(.int (0 : Int32))] ?_ fun _ k_ => XT.iconstV X0.here hx rfl (0 : Int32) (hb hby d16_0) (by decide) k_
  refine Go.s (g' := (mkF m 2 #[(sR w), (sI fr), (sI (0 : Int32)), .unset, .unset, .unset, .unset, .unset] [])) ?_ fun _ k_ => XS.istoreN X0.here hx rfl (hb hby d16_1) rfl (l' := #[(sR w), (sI fr), (sI (0 : Int32)), .unset, .unset, .unset, .unset, .unset]) rfl k_
  refine Go.k 3 [(.int fr)] ?_ fun _ k_ => XS.iloadN X0.here hx rfl (hb hby d16_2) rfl k_
  refine Go.s (g' := (mkF m 4 #[(sR w), (sI fr), (sI (0 : Int32)), (sI fr), .unset, .unset, .unset, .unset] [])) ?_ fun _ k_ => XS.istoreN X0.here hx rfl (hb hby d16_3) rfl (l' := #[(sR w), (sI fr), (sI (0 : Int32)), (sI fr), .unset, .unset, .unset, .unset]) rfl k_
  refine Go.k 5 [(.long (0 : Int64))] ?_ fun _ k_ => XT.lconstV X0.here hx rfl (0 : Int64) (hb hby d16_4) (by decide) k_
  refine Go.s (g' := (mkF m 7 #[(sR w), (sI fr), (sI (0 : Int32)), (sI fr), (sJ (0 : Int64)), .second, .unset, .unset] [])) ?_ fun _ k_ => XT.lstore X0.here hx rfl (hb hby d16_5) rfl (l' := #[(sR w), (sI fr), (sI (0 : Int32)), (sI fr), (sJ (0 : Int64)), .second, .unset, .unset]) rfl k_
  exact climb0 s₁ fr X0 e0 (by omega) (own_N0 f0 _)
def own_maxJ (p1 p2 : Int64)  : Int64 := if p1 < p2 then p2 else p1
theorem d2_0 : decode jdk_29_method_66_code 0 = .ok (.lload_n 0, 1) := by decide +kernel
theorem d2_1 : decode jdk_29_method_66_code 1 = .ok (.lload_n 2, 1) := by decide +kernel
theorem d2_2 : decode jdk_29_method_66_code 2 = .ok (.lcmp, 1) := by decide +kernel
theorem d2_3 : decode jdk_29_method_66_code 3 = .ok (.ifCond .lt 7, 3) := by decide +kernel
theorem d2_10 : decode jdk_29_method_66_code 10 = .ok (.lload_n 2, 1) := by decide +kernel
theorem d2_11 : decode jdk_29_method_66_code 11 = .ok (.lreturn, 1) := by decide +kernel
theorem d2_6 : decode jdk_29_method_66_code 6 = .ok (.lload_n 0, 1) := by decide +kernel
theorem d2_7 : decode jdk_29_method_66_code 7 = .ok (.goto 4, 3) := by decide +kernel
set_option maxRecDepth 65536 in
set_option maxHeartbeats 40000000 in
theorem rmaxj (l : Launch) (Z : State) (a0 : Array Value) (hw : ∀ d ∈ tables_1, d.before a0 Z = true) (ws : List Jvm.Cond) (p1 p2 : Int64)  (h0 : Heap) (n0 : Nat) (Z0 : n0 ≤ h0.size)  :
    Does l (⟨"java/lang/Math", "max", "(JJ)J"⟩ : MethodName) jdk_29_method_66_code 4 (some .long) ws ({ frames := 0, cells := 0, slots := 0, locals := 0 } : Room) #[(.long p1), (.long p2)] Z h0 (fun v h L => v = some (.long (own_maxJ p1 p2 )) ∧ Fr n0 L ∧ h = h0) := by
  refine Does.of (Jvm.Free.JP.mathPlain rfl (by decide +kernel)) ?_
  intro p e s m below meth c s₁ hx hby hml hret hlk hown0 hnm hZ X0 e0
  have hown : s.vm.findClass "java/lang/Math" = some m.cls := hown0
  have N0 := Fr.nil n0
  refine Go.cast (g' := (mkF m 0 #[(sJ p1), .second, (sJ p2), .second] [])) (by first | (simp [entryFrame, mkF, argsToLocals, Value.category, maxLocals, sI, sR, sJ]; done) | rfl) ?_
  refine Go.k 1 [(.long p1)] ?_ fun _ k_ => XT.lloadN X0.here hx rfl (hb hby d2_0) rfl k_
  refine Go.k 2 [(.long p2), (.long p1)] ?_ fun _ k_ => XT.lloadN X0.here hx rfl (hb hby d2_1) rfl k_
  refine Go.k 3 [(.int (lcmpW p1 p2))] ?_ fun _ k_ => XT.lcmp X0.here hx rfl (hb hby d2_2) rfl k_
  by_cases hc1 : p1 < p2
  · refine Go.k 10 [] ?_ fun _ k_ => XS.ifYes X0.here hx rfl (pc0 := 3) (pc' := 10) rfl (hb hby d2_3) rfl ((if0 _ _).trans (tlt ((lw_lt _ _).mpr hc1)).1) (by decide) (by decide) k_
    refine Go.k 11 [(.long p2)] ?_ fun _ k_ => XT.lloadN X0.here hx rfl (hb hby d2_10) rfl k_
    exact Go.retV (t := .long) X0 hx hret hlk (by decide) (by decide) rfl (Or.inr (Or.inl ⟨rfl, rfl, _, rfl⟩)) (hb hby d2_11) ⟨by rw [own_maxJ, if_pos hc1], N0, e0⟩
  · refine Go.k 6 [] ?_ fun _ k_ => XS.ifNo X0.here hx rfl (hb hby d2_3) rfl ((if0 _ _).trans (flt (fun q_ => hc1 ((lw_lt _ _).mp q_))).1) k_
    refine Go.k 7 [(.long p1)] ?_ fun _ k_ => XT.lloadN X0.here hx rfl (hb hby d2_6) rfl k_
    refine Go.k 11 [(.long p1)] ?_ fun _ k_ => XS.goto X0.here hx rfl (pc0 := 7) (pc' := 11) rfl (hb hby d2_7) (by decide) (by decide) k_
    exact Go.retV (t := .long) X0 hx hret hlk (by decide) (by decide) rfl (Or.inr (Or.inl ⟨rfl, rfl, _, rfl⟩)) (hb hby d2_11) ⟨by rw [own_maxJ, if_neg hc1], N0, e0⟩
def own_minJ (p1 p2 : Int64)  : Int64 := if p2 < p1 then p2 else p1
theorem d4_0 : decode jdk_29_method_70_code 0 = .ok (.lload_n 0, 1) := by decide +kernel
theorem d4_1 : decode jdk_29_method_70_code 1 = .ok (.lload_n 2, 1) := by decide +kernel
theorem d4_2 : decode jdk_29_method_70_code 2 = .ok (.lcmp, 1) := by decide +kernel
theorem d4_3 : decode jdk_29_method_70_code 3 = .ok (.ifCond .gt 7, 3) := by decide +kernel
theorem d4_10 : decode jdk_29_method_70_code 10 = .ok (.lload_n 2, 1) := by decide +kernel
theorem d4_11 : decode jdk_29_method_70_code 11 = .ok (.lreturn, 1) := by decide +kernel
theorem d4_6 : decode jdk_29_method_70_code 6 = .ok (.lload_n 0, 1) := by decide +kernel
theorem d4_7 : decode jdk_29_method_70_code 7 = .ok (.goto 4, 3) := by decide +kernel
set_option maxRecDepth 65536 in
set_option maxHeartbeats 40000000 in
theorem rminj (l : Launch) (Z : State) (a0 : Array Value) (hw : ∀ d ∈ tables_1, d.before a0 Z = true) (ws : List Jvm.Cond) (p1 p2 : Int64)  (h0 : Heap) (n0 : Nat) (Z0 : n0 ≤ h0.size)  :
    Does l (⟨"java/lang/Math", "min", "(JJ)J"⟩ : MethodName) jdk_29_method_70_code 4 (some .long) ws ({ frames := 0, cells := 0, slots := 0, locals := 0 } : Room) #[(.long p1), (.long p2)] Z h0 (fun v h L => v = some (.long (own_minJ p1 p2 )) ∧ Fr n0 L ∧ h = h0) := by
  refine Does.of (Jvm.Free.JP.mathPlain rfl (by decide +kernel)) ?_
  intro p e s m below meth c s₁ hx hby hml hret hlk hown0 hnm hZ X0 e0
  have hown : s.vm.findClass "java/lang/Math" = some m.cls := hown0
  have N0 := Fr.nil n0
  refine Go.cast (g' := (mkF m 0 #[(sJ p1), .second, (sJ p2), .second] [])) (by first | (simp [entryFrame, mkF, argsToLocals, Value.category, maxLocals, sI, sR, sJ]; done) | rfl) ?_
  refine Go.k 1 [(.long p1)] ?_ fun _ k_ => XT.lloadN X0.here hx rfl (hb hby d4_0) rfl k_
  refine Go.k 2 [(.long p2), (.long p1)] ?_ fun _ k_ => XT.lloadN X0.here hx rfl (hb hby d4_1) rfl k_
  refine Go.k 3 [(.int (lcmpW p1 p2))] ?_ fun _ k_ => XT.lcmp X0.here hx rfl (hb hby d4_2) rfl k_
  by_cases hc1 : p2 < p1
  · refine Go.k 10 [] ?_ fun _ k_ => XS.ifYes X0.here hx rfl (pc0 := 3) (pc' := 10) rfl (hb hby d4_3) rfl ((if0 _ _).trans (tlt ((lw_gt _ _).mpr hc1)).2.2.1) (by decide) (by decide) k_
    refine Go.k 11 [(.long p2)] ?_ fun _ k_ => XT.lloadN X0.here hx rfl (hb hby d4_10) rfl k_
    exact Go.retV (t := .long) X0 hx hret hlk (by decide) (by decide) rfl (Or.inr (Or.inl ⟨rfl, rfl, _, rfl⟩)) (hb hby d4_11) ⟨by rw [own_minJ, if_pos hc1], N0, e0⟩
  · refine Go.k 6 [] ?_ fun _ k_ => XS.ifNo X0.here hx rfl (hb hby d4_3) rfl ((if0 _ _).trans (flt (fun q_ => hc1 ((lw_gt _ _).mp q_))).2.2.1) k_
    refine Go.k 7 [(.long p1)] ?_ fun _ k_ => XT.lloadN X0.here hx rfl (hb hby d4_6) rfl k_
    refine Go.k 11 [(.long p1)] ?_ fun _ k_ => XS.goto X0.here hx rfl (pc0 := 7) (pc' := 11) rfl (hb hby d4_7) (by decide) (by decide) k_
    exact Go.retV (t := .long) X0 hx hret hlk (by decide) (by decide) rfl (Or.inr (Or.inl ⟨rfl, rfl, _, rfl⟩)) (hb hby d4_11) ⟨by rw [own_minJ, if_neg hc1], N0, e0⟩
def own_exp7 (p1 p2 : Int32) (p3 : Int64) (p4 : Int32) (p5 : Int64) (p6 : Int32) (p7 : Int64)  : Int64 := if p1 = p2 then if p1 = p4 then if p1 = p6 then ((((0 : Int64) ||| p3) ||| p5) &&& (p7 ^^^ (-1 : Int64))) else (((0 : Int64) ||| p3) ||| p5) else (if p1 = p6 then (((0 : Int64) ||| p3) &&& (p7 ^^^ (-1 : Int64))) else ((0 : Int64) ||| p3)) else (if p1 = p4 then if p1 = p6 then (((0 : Int64) ||| p5) &&& (p7 ^^^ (-1 : Int64))) else ((0 : Int64) ||| p5) else (if p1 = p6 then ((0 : Int64) &&& (p7 ^^^ (-1 : Int64))) else (0 : Int64)))
theorem d8_0 : decode method_2_code 0 = .ok (.lconst 0, 1) := by decide +kernel
theorem d8_1 : decode method_2_code 1 = .ok (.lstore 10, 2) := by decide +kernel
theorem d8_3 : decode method_2_code 3 = .ok (.iload_n 0, 1) := by decide +kernel
theorem d8_4 : decode method_2_code 4 = .ok (.iload_n 1, 1) := by decide +kernel
theorem d8_5 : decode method_2_code 5 = .ok (.if_icmp .ne 9, 3) := by decide +kernel
theorem d8_8 : decode method_2_code 8 = .ok (.lload 10, 2) := by decide +kernel
theorem d8_10 : decode method_2_code 10 = .ok (.lload_n 2, 1) := by decide +kernel
theorem d8_11 : decode method_2_code 11 = .ok (.lor, 1) := by decide +kernel
theorem d8_12 : decode method_2_code 12 = .ok (.lstore 10, 2) := by decide +kernel
theorem d8_14 : decode method_2_code 14 = .ok (.iload_n 0, 1) := by decide +kernel
theorem d8_15 : decode method_2_code 15 = .ok (.iload 4, 2) := by decide +kernel
theorem d8_17 : decode method_2_code 17 = .ok (.if_icmp .ne 10, 3) := by decide +kernel
theorem d8_20 : decode method_2_code 20 = .ok (.lload 10, 2) := by decide +kernel
theorem d8_22 : decode method_2_code 22 = .ok (.lload 5, 2) := by decide +kernel
theorem d8_24 : decode method_2_code 24 = .ok (.lor, 1) := by decide +kernel
theorem d8_25 : decode method_2_code 25 = .ok (.lstore 10, 2) := by decide +kernel
theorem d8_27 : decode method_2_code 27 = .ok (.iload_n 0, 1) := by decide +kernel
theorem d8_28 : decode method_2_code 28 = .ok (.iload 7, 2) := by decide +kernel
theorem d8_30 : decode method_2_code 30 = .ok (.if_icmp .ne 14, 3) := by decide +kernel
theorem d8_33 : decode method_2_code 33 = .ok (.lload 10, 2) := by decide +kernel
theorem d8_35 : decode method_2_code 35 = .ok (.lload 8, 2) := by decide +kernel
theorem d8_37 : decode method_2_code 37 = .ok (.ldc2_w 7, 3) := by decide +kernel
theorem d8_40 : decode method_2_code 40 = .ok (.lxor, 1) := by decide +kernel
theorem d8_41 : decode method_2_code 41 = .ok (.land, 1) := by decide +kernel
theorem d8_42 : decode method_2_code 42 = .ok (.lstore 10, 2) := by decide +kernel
theorem d8_44 : decode method_2_code 44 = .ok (.lload 10, 2) := by decide +kernel
theorem d8_46 : decode method_2_code 46 = .ok (.lreturn, 1) := by decide +kernel
theorem pn_com_example_slantwise_slantwise_engine_WordIndexRemoveAllPinLaw : plainName "com/example/slantwise/slantwise/engine/WordIndexRemoveAllPinLaw" = true := by first | (simp [plainName, overriddenIn]; done) | decide +kernel
set_option maxRecDepth 65536 in
set_option maxHeartbeats 40000000 in
theorem rexp (l : Launch) (Z : State) (a0 : Array Value) (hw : ∀ d ∈ tables_1, d.before a0 Z = true) (ws : List Jvm.Cond) (p1 p2 : Int32) (p3 : Int64) (p4 : Int32) (p5 : Int64) (p6 : Int32) (p7 : Int64)  (h0 : Heap) (n0 : Nat) (Z0 : n0 ≤ h0.size)  :
    Does l (⟨"com/example/slantwise/slantwise/engine/WordIndexRemoveAllPinLaw", "exp", "(IIJIJIJ)J"⟩ : MethodName) method_2_code 12 (some .long) ws ({ frames := 0, cells := 0, slots := 0, locals := 0 } : Room) #[(.int p1), (.int p2), (.long p3), (.int p4), (.long p5), (.int p6), (.long p7)] Z h0 (fun v h L => v = some (.long (own_exp7 p1 p2 p3 p4 p5 p6 p7 )) ∧ Fr n0 L ∧ h = h0) := by
  refine Does.of (plainFor_of_name pn_com_example_slantwise_slantwise_engine_WordIndexRemoveAllPinLaw) ?_
  intro p e s m below meth c s₁ hx hby hml hret hlk hown0 hnm hZ X0 e0
  have hown : s.vm.findClass "com/example/slantwise/slantwise/engine/WordIndexRemoveAllPinLaw" = some m.cls := hown0
  have N0 := Fr.nil n0
  refine Go.cast (g' := (mkF m 0 #[(sI p1), (sI p2), (sJ p3), .second, (sI p4), (sJ p5), .second, (sI p6), (sJ p7), .second, .unset, .unset] [])) (by first | (simp [entryFrame, mkF, argsToLocals, Value.category, maxLocals, sI, sR, sJ]; done) | rfl) ?_
  refine Go.k 1 [(.long (0 : Int64))] ?_ fun _ k_ => XT.lconstV X0.here hx rfl (0 : Int64) (hb hby d8_0) (by decide) k_
  refine Go.s (g' := (mkF m 3 #[(sI p1), (sI p2), (sJ p3), .second, (sI p4), (sJ p5), .second, (sI p6), (sJ p7), .second, (sJ (0 : Int64)), .second] [])) ?_ fun _ k_ => XT.lstore X0.here hx rfl (hb hby d8_1) rfl (l' := #[(sI p1), (sI p2), (sJ p3), .second, (sI p4), (sJ p5), .second, (sI p6), (sJ p7), .second, (sJ (0 : Int64)), .second]) rfl k_
  refine Go.k 4 [(.int p1)] ?_ fun _ k_ => XS.iloadN X0.here hx rfl (hb hby d8_3) rfl k_
  refine Go.k 5 [(.int p2), (.int p1)] ?_ fun _ k_ => XS.iloadN X0.here hx rfl (hb hby d8_4) rfl k_
  by_cases hc1 : p1 = p2
  · refine Go.k 8 [] ?_ fun _ k_ => XS.icmpNo X0.here hx rfl (hb hby d8_5) rfl (teq hc1).2 k_
    refine Go.k 10 [(.long (0 : Int64))] ?_ fun _ k_ => XT.lload X0.here hx rfl (hb hby d8_8) rfl k_
    refine Go.k 11 [(.long p3), (.long (0 : Int64))] ?_ fun _ k_ => XT.lloadN X0.here hx rfl (hb hby d8_10) rfl k_
    refine Go.k 12 [(.long ((0 : Int64) ||| p3))] ?_ fun _ k_ => XT.lor X0.here hx rfl (hb hby d8_11) rfl k_
    refine Go.s (g' := (mkF m 14 #[(sI p1), (sI p2), (sJ p3), .second, (sI p4), (sJ p5), .second, (sI p6), (sJ p7), .second, (sJ ((0 : Int64) ||| p3)), .second] [])) ?_ fun _ k_ => XT.lstore X0.here hx rfl (hb hby d8_12) rfl (l' := #[(sI p1), (sI p2), (sJ p3), .second, (sI p4), (sJ p5), .second, (sI p6), (sJ p7), .second, (sJ ((0 : Int64) ||| p3)), .second]) rfl k_
    refine Go.k 15 [(.int p1)] ?_ fun _ k_ => XS.iloadN X0.here hx rfl (hb hby d8_14) rfl k_
    refine Go.k 17 [(.int p4), (.int p1)] ?_ fun _ k_ => XS.iload X0.here hx rfl (hb hby d8_15) rfl k_
    by_cases hc2 : p1 = p4
    · refine Go.k 20 [] ?_ fun _ k_ => XS.icmpNo X0.here hx rfl (hb hby d8_17) rfl (teq hc2).2 k_
      refine Go.k 22 [(.long ((0 : Int64) ||| p3))] ?_ fun _ k_ => XT.lload X0.here hx rfl (hb hby d8_20) rfl k_
      refine Go.k 24 [(.long p5), (.long ((0 : Int64) ||| p3))] ?_ fun _ k_ => XT.lload X0.here hx rfl (hb hby d8_22) rfl k_
      refine Go.k 25 [(.long (((0 : Int64) ||| p3) ||| p5))] ?_ fun _ k_ => XT.lor X0.here hx rfl (hb hby d8_24) rfl k_
      refine Go.s (g' := (mkF m 27 #[(sI p1), (sI p2), (sJ p3), .second, (sI p4), (sJ p5), .second, (sI p6), (sJ p7), .second, (sJ (((0 : Int64) ||| p3) ||| p5)), .second] [])) ?_ fun _ k_ => XT.lstore X0.here hx rfl (hb hby d8_25) rfl (l' := #[(sI p1), (sI p2), (sJ p3), .second, (sI p4), (sJ p5), .second, (sI p6), (sJ p7), .second, (sJ (((0 : Int64) ||| p3) ||| p5)), .second]) rfl k_
      refine Go.k 28 [(.int p1)] ?_ fun _ k_ => XS.iloadN X0.here hx rfl (hb hby d8_27) rfl k_
      refine Go.k 30 [(.int p6), (.int p1)] ?_ fun _ k_ => XS.iload X0.here hx rfl (hb hby d8_28) rfl k_
      by_cases hc3 : p1 = p6
      · refine Go.k 33 [] ?_ fun _ k_ => XS.icmpNo X0.here hx rfl (hb hby d8_30) rfl (teq hc3).2 k_
        refine Go.k 35 [(.long (((0 : Int64) ||| p3) ||| p5))] ?_ fun _ k_ => XT.lload X0.here hx rfl (hb hby d8_33) rfl k_
        refine Go.k 37 [(.long p7), (.long (((0 : Int64) ||| p3) ||| p5))] ?_ fun _ k_ => XT.lload X0.here hx rfl (hb hby d8_35) rfl k_
        refine Go.k 40 [(.long (-1 : Int64)), (.long p7), (.long (((0 : Int64) ||| p3) ||| p5))] ?_ fun _ k_ => X0.ldc2J hx hown (mvT hZ (wq hw 34 rfl)) rfl (hb hby d8_37) k_
        refine Go.k 41 [(.long (p7 ^^^ (-1 : Int64))), (.long (((0 : Int64) ||| p3) ||| p5))] ?_ fun _ k_ => XT.lxor X0.here hx rfl (hb hby d8_40) rfl k_
        refine Go.k 42 [(.long ((((0 : Int64) ||| p3) ||| p5) &&& (p7 ^^^ (-1 : Int64))))] ?_ fun _ k_ => XT.land X0.here hx rfl (hb hby d8_41) rfl k_
        refine Go.s (g' := (mkF m 44 #[(sI p1), (sI p2), (sJ p3), .second, (sI p4), (sJ p5), .second, (sI p6), (sJ p7), .second, (sJ ((((0 : Int64) ||| p3) ||| p5) &&& (p7 ^^^ (-1 : Int64)))), .second] [])) ?_ fun _ k_ => XT.lstore X0.here hx rfl (hb hby d8_42) rfl (l' := #[(sI p1), (sI p2), (sJ p3), .second, (sI p4), (sJ p5), .second, (sI p6), (sJ p7), .second, (sJ ((((0 : Int64) ||| p3) ||| p5) &&& (p7 ^^^ (-1 : Int64)))), .second]) rfl k_
        refine Go.k 46 [(.long ((((0 : Int64) ||| p3) ||| p5) &&& (p7 ^^^ (-1 : Int64))))] ?_ fun _ k_ => XT.lload X0.here hx rfl (hb hby d8_44) rfl k_
        exact Go.retV (t := .long) X0 hx hret hlk (by decide) (by decide) rfl (Or.inr (Or.inl ⟨rfl, rfl, _, rfl⟩)) (hb hby d8_46) ⟨by rw [own_exp7, if_pos hc1, if_pos hc2, if_pos hc3], N0, e0⟩
      · refine Go.k 44 [] ?_ fun _ k_ => XS.icmpYes X0.here hx rfl (pc0 := 30) (pc' := 44) rfl (hb hby d8_30) rfl (feq hc3).2 (by decide) (by decide) k_
        refine Go.k 46 [(.long (((0 : Int64) ||| p3) ||| p5))] ?_ fun _ k_ => XT.lload X0.here hx rfl (hb hby d8_44) rfl k_
        exact Go.retV (t := .long) X0 hx hret hlk (by decide) (by decide) rfl (Or.inr (Or.inl ⟨rfl, rfl, _, rfl⟩)) (hb hby d8_46) ⟨by rw [own_exp7, if_pos hc1, if_pos hc2, if_neg hc3], N0, e0⟩
    · refine Go.k 27 [] ?_ fun _ k_ => XS.icmpYes X0.here hx rfl (pc0 := 17) (pc' := 27) rfl (hb hby d8_17) rfl (feq hc2).2 (by decide) (by decide) k_
      refine Go.k 28 [(.int p1)] ?_ fun _ k_ => XS.iloadN X0.here hx rfl (hb hby d8_27) rfl k_
      refine Go.k 30 [(.int p6), (.int p1)] ?_ fun _ k_ => XS.iload X0.here hx rfl (hb hby d8_28) rfl k_
      by_cases hc4 : p1 = p6
      · refine Go.k 33 [] ?_ fun _ k_ => XS.icmpNo X0.here hx rfl (hb hby d8_30) rfl (teq hc4).2 k_
        refine Go.k 35 [(.long ((0 : Int64) ||| p3))] ?_ fun _ k_ => XT.lload X0.here hx rfl (hb hby d8_33) rfl k_
        refine Go.k 37 [(.long p7), (.long ((0 : Int64) ||| p3))] ?_ fun _ k_ => XT.lload X0.here hx rfl (hb hby d8_35) rfl k_
        refine Go.k 40 [(.long (-1 : Int64)), (.long p7), (.long ((0 : Int64) ||| p3))] ?_ fun _ k_ => X0.ldc2J hx hown (mvT hZ (wq hw 34 rfl)) rfl (hb hby d8_37) k_
        refine Go.k 41 [(.long (p7 ^^^ (-1 : Int64))), (.long ((0 : Int64) ||| p3))] ?_ fun _ k_ => XT.lxor X0.here hx rfl (hb hby d8_40) rfl k_
        refine Go.k 42 [(.long (((0 : Int64) ||| p3) &&& (p7 ^^^ (-1 : Int64))))] ?_ fun _ k_ => XT.land X0.here hx rfl (hb hby d8_41) rfl k_
        refine Go.s (g' := (mkF m 44 #[(sI p1), (sI p2), (sJ p3), .second, (sI p4), (sJ p5), .second, (sI p6), (sJ p7), .second, (sJ (((0 : Int64) ||| p3) &&& (p7 ^^^ (-1 : Int64)))), .second] [])) ?_ fun _ k_ => XT.lstore X0.here hx rfl (hb hby d8_42) rfl (l' := #[(sI p1), (sI p2), (sJ p3), .second, (sI p4), (sJ p5), .second, (sI p6), (sJ p7), .second, (sJ (((0 : Int64) ||| p3) &&& (p7 ^^^ (-1 : Int64)))), .second]) rfl k_
        refine Go.k 46 [(.long (((0 : Int64) ||| p3) &&& (p7 ^^^ (-1 : Int64))))] ?_ fun _ k_ => XT.lload X0.here hx rfl (hb hby d8_44) rfl k_
        exact Go.retV (t := .long) X0 hx hret hlk (by decide) (by decide) rfl (Or.inr (Or.inl ⟨rfl, rfl, _, rfl⟩)) (hb hby d8_46) ⟨by rw [own_exp7, if_pos hc1, if_neg hc2, if_pos hc4], N0, e0⟩
      · refine Go.k 44 [] ?_ fun _ k_ => XS.icmpYes X0.here hx rfl (pc0 := 30) (pc' := 44) rfl (hb hby d8_30) rfl (feq hc4).2 (by decide) (by decide) k_
        refine Go.k 46 [(.long ((0 : Int64) ||| p3))] ?_ fun _ k_ => XT.lload X0.here hx rfl (hb hby d8_44) rfl k_
        exact Go.retV (t := .long) X0 hx hret hlk (by decide) (by decide) rfl (Or.inr (Or.inl ⟨rfl, rfl, _, rfl⟩)) (hb hby d8_46) ⟨by rw [own_exp7, if_pos hc1, if_neg hc2, if_neg hc4], N0, e0⟩
  · refine Go.k 14 [] ?_ fun _ k_ => XS.icmpYes X0.here hx rfl (pc0 := 5) (pc' := 14) rfl (hb hby d8_5) rfl (feq hc1).2 (by decide) (by decide) k_
    refine Go.k 15 [(.int p1)] ?_ fun _ k_ => XS.iloadN X0.here hx rfl (hb hby d8_14) rfl k_
    refine Go.k 17 [(.int p4), (.int p1)] ?_ fun _ k_ => XS.iload X0.here hx rfl (hb hby d8_15) rfl k_
    by_cases hc5 : p1 = p4
    · refine Go.k 20 [] ?_ fun _ k_ => XS.icmpNo X0.here hx rfl (hb hby d8_17) rfl (teq hc5).2 k_
      refine Go.k 22 [(.long (0 : Int64))] ?_ fun _ k_ => XT.lload X0.here hx rfl (hb hby d8_20) rfl k_
      refine Go.k 24 [(.long p5), (.long (0 : Int64))] ?_ fun _ k_ => XT.lload X0.here hx rfl (hb hby d8_22) rfl k_
      refine Go.k 25 [(.long ((0 : Int64) ||| p5))] ?_ fun _ k_ => XT.lor X0.here hx rfl (hb hby d8_24) rfl k_
      refine Go.s (g' := (mkF m 27 #[(sI p1), (sI p2), (sJ p3), .second, (sI p4), (sJ p5), .second, (sI p6), (sJ p7), .second, (sJ ((0 : Int64) ||| p5)), .second] [])) ?_ fun _ k_ => XT.lstore X0.here hx rfl (hb hby d8_25) rfl (l' := #[(sI p1), (sI p2), (sJ p3), .second, (sI p4), (sJ p5), .second, (sI p6), (sJ p7), .second, (sJ ((0 : Int64) ||| p5)), .second]) rfl k_
      refine Go.k 28 [(.int p1)] ?_ fun _ k_ => XS.iloadN X0.here hx rfl (hb hby d8_27) rfl k_
      refine Go.k 30 [(.int p6), (.int p1)] ?_ fun _ k_ => XS.iload X0.here hx rfl (hb hby d8_28) rfl k_
      by_cases hc6 : p1 = p6
      · refine Go.k 33 [] ?_ fun _ k_ => XS.icmpNo X0.here hx rfl (hb hby d8_30) rfl (teq hc6).2 k_
        refine Go.k 35 [(.long ((0 : Int64) ||| p5))] ?_ fun _ k_ => XT.lload X0.here hx rfl (hb hby d8_33) rfl k_
        refine Go.k 37 [(.long p7), (.long ((0 : Int64) ||| p5))] ?_ fun _ k_ => XT.lload X0.here hx rfl (hb hby d8_35) rfl k_
        refine Go.k 40 [(.long (-1 : Int64)), (.long p7), (.long ((0 : Int64) ||| p5))] ?_ fun _ k_ => X0.ldc2J hx hown (mvT hZ (wq hw 34 rfl)) rfl (hb hby d8_37) k_
        refine Go.k 41 [(.long (p7 ^^^ (-1 : Int64))), (.long ((0 : Int64) ||| p5))] ?_ fun _ k_ => XT.lxor X0.here hx rfl (hb hby d8_40) rfl k_
        refine Go.k 42 [(.long (((0 : Int64) ||| p5) &&& (p7 ^^^ (-1 : Int64))))] ?_ fun _ k_ => XT.land X0.here hx rfl (hb hby d8_41) rfl k_
        refine Go.s (g' := (mkF m 44 #[(sI p1), (sI p2), (sJ p3), .second, (sI p4), (sJ p5), .second, (sI p6), (sJ p7), .second, (sJ (((0 : Int64) ||| p5) &&& (p7 ^^^ (-1 : Int64)))), .second] [])) ?_ fun _ k_ => XT.lstore X0.here hx rfl (hb hby d8_42) rfl (l' := #[(sI p1), (sI p2), (sJ p3), .second, (sI p4), (sJ p5), .second, (sI p6), (sJ p7), .second, (sJ (((0 : Int64) ||| p5) &&& (p7 ^^^ (-1 : Int64)))), .second]) rfl k_
        refine Go.k 46 [(.long (((0 : Int64) ||| p5) &&& (p7 ^^^ (-1 : Int64))))] ?_ fun _ k_ => XT.lload X0.here hx rfl (hb hby d8_44) rfl k_
        exact Go.retV (t := .long) X0 hx hret hlk (by decide) (by decide) rfl (Or.inr (Or.inl ⟨rfl, rfl, _, rfl⟩)) (hb hby d8_46) ⟨by rw [own_exp7, if_neg hc1, if_pos hc5, if_pos hc6], N0, e0⟩
      · refine Go.k 44 [] ?_ fun _ k_ => XS.icmpYes X0.here hx rfl (pc0 := 30) (pc' := 44) rfl (hb hby d8_30) rfl (feq hc6).2 (by decide) (by decide) k_
        refine Go.k 46 [(.long ((0 : Int64) ||| p5))] ?_ fun _ k_ => XT.lload X0.here hx rfl (hb hby d8_44) rfl k_
        exact Go.retV (t := .long) X0 hx hret hlk (by decide) (by decide) rfl (Or.inr (Or.inl ⟨rfl, rfl, _, rfl⟩)) (hb hby d8_46) ⟨by rw [own_exp7, if_neg hc1, if_pos hc5, if_neg hc6], N0, e0⟩
    · refine Go.k 27 [] ?_ fun _ k_ => XS.icmpYes X0.here hx rfl (pc0 := 17) (pc' := 27) rfl (hb hby d8_17) rfl (feq hc5).2 (by decide) (by decide) k_
      refine Go.k 28 [(.int p1)] ?_ fun _ k_ => XS.iloadN X0.here hx rfl (hb hby d8_27) rfl k_
      refine Go.k 30 [(.int p6), (.int p1)] ?_ fun _ k_ => XS.iload X0.here hx rfl (hb hby d8_28) rfl k_
      by_cases hc7 : p1 = p6
      · refine Go.k 33 [] ?_ fun _ k_ => XS.icmpNo X0.here hx rfl (hb hby d8_30) rfl (teq hc7).2 k_
        refine Go.k 35 [(.long (0 : Int64))] ?_ fun _ k_ => XT.lload X0.here hx rfl (hb hby d8_33) rfl k_
        refine Go.k 37 [(.long p7), (.long (0 : Int64))] ?_ fun _ k_ => XT.lload X0.here hx rfl (hb hby d8_35) rfl k_
        refine Go.k 40 [(.long (-1 : Int64)), (.long p7), (.long (0 : Int64))] ?_ fun _ k_ => X0.ldc2J hx hown (mvT hZ (wq hw 34 rfl)) rfl (hb hby d8_37) k_
        refine Go.k 41 [(.long (p7 ^^^ (-1 : Int64))), (.long (0 : Int64))] ?_ fun _ k_ => XT.lxor X0.here hx rfl (hb hby d8_40) rfl k_
        refine Go.k 42 [(.long ((0 : Int64) &&& (p7 ^^^ (-1 : Int64))))] ?_ fun _ k_ => XT.land X0.here hx rfl (hb hby d8_41) rfl k_
        refine Go.s (g' := (mkF m 44 #[(sI p1), (sI p2), (sJ p3), .second, (sI p4), (sJ p5), .second, (sI p6), (sJ p7), .second, (sJ ((0 : Int64) &&& (p7 ^^^ (-1 : Int64)))), .second] [])) ?_ fun _ k_ => XT.lstore X0.here hx rfl (hb hby d8_42) rfl (l' := #[(sI p1), (sI p2), (sJ p3), .second, (sI p4), (sJ p5), .second, (sI p6), (sJ p7), .second, (sJ ((0 : Int64) &&& (p7 ^^^ (-1 : Int64)))), .second]) rfl k_
        refine Go.k 46 [(.long ((0 : Int64) &&& (p7 ^^^ (-1 : Int64))))] ?_ fun _ k_ => XT.lload X0.here hx rfl (hb hby d8_44) rfl k_
        exact Go.retV (t := .long) X0 hx hret hlk (by decide) (by decide) rfl (Or.inr (Or.inl ⟨rfl, rfl, _, rfl⟩)) (hb hby d8_46) ⟨by rw [own_exp7, if_neg hc1, if_neg hc5, if_pos hc7], N0, e0⟩
      · refine Go.k 44 [] ?_ fun _ k_ => XS.icmpYes X0.here hx rfl (pc0 := 30) (pc' := 44) rfl (hb hby d8_30) rfl (feq hc7).2 (by decide) (by decide) k_
        refine Go.k 46 [(.long (0 : Int64))] ?_ fun _ k_ => XT.lload X0.here hx rfl (hb hby d8_44) rfl k_
        exact Go.retV (t := .long) X0 hx hret hlk (by decide) (by decide) rfl (Or.inr (Or.inl ⟨rfl, rfl, _, rfl⟩)) (hb hby d8_46) ⟨by rw [own_exp7, if_neg hc1, if_neg hc5, if_neg hc7], N0, e0⟩
def own_any (p1 : Int32) (p2 p3 p4 : Int64)  : Int32 := if ((own_maxJ p3 ((64 : Int64) * p1.toInt64)) - ((64 : Int64) * p1.toInt64)) < ((own_minJ p4 (((64 : Int64) * p1.toInt64) + (64 : Int64))) - ((64 : Int64) * p1.toInt64)) then if ((own_minJ p4 (((64 : Int64) * p1.toInt64) + (64 : Int64))) - ((64 : Int64) * p1.toInt64)).toInt32 = (64 : Int32) then if (p2 &&& ((-1 : Int64) &&& ((-1 : Int64) <<< (((own_maxJ p3 ((64 : Int64) * p1.toInt64)) - ((64 : Int64) * p1.toInt64)).toInt32.toInt64 &&& 63)))) = (0 : Int64) then (0 : Int32) else (1 : Int32) else (if (p2 &&& ((((1 : Int64) <<< (((own_minJ p4 (((64 : Int64) * p1.toInt64) + (64 : Int64))) - ((64 : Int64) * p1.toInt64)).toInt32.toInt64 &&& 63)) - (1 : Int64)) &&& ((-1 : Int64) <<< (((own_maxJ p3 ((64 : Int64) * p1.toInt64)) - ((64 : Int64) * p1.toInt64)).toInt32.toInt64 &&& 63)))) = (0 : Int64) then (0 : Int32) else (1 : Int32)) else (0 : Int32)
theorem d9_0 : decode method_3_code 0 = .ok (.ldc2_w 9, 3) := by decide +kernel
theorem d9_3 : decode method_3_code 3 = .ok (.iload_n 0, 1) := by decide +kernel
theorem d9_4 : decode method_3_code 4 = .ok (.i2l, 1) := by decide +kernel
theorem d9_5 : decode method_3_code 5 = .ok (.lmul, 1) := by decide +kernel
theorem d9_6 : decode method_3_code 6 = .ok (.lstore 7, 2) := by decide +kernel
theorem d9_8 : decode method_3_code 8 = .ok (.lload_n 3, 1) := by decide +kernel
theorem d9_9 : decode method_3_code 9 = .ok (.lload 7, 2) := by decide +kernel
theorem d9_11 : decode method_3_code 11 = .ok (.invokestatic 11, 3) := by decide +kernel
theorem pd__JJ_J : parseMethodDescriptor "(JJ)J" = some ⟨[.long, .long], some .long⟩ := by decide +kernel
theorem d9_14 : decode method_3_code 14 = .ok (.lload 7, 2) := by decide +kernel
theorem d9_16 : decode method_3_code 16 = .ok (.lsub, 1) := by decide +kernel
theorem d9_17 : decode method_3_code 17 = .ok (.lstore 9, 2) := by decide +kernel
theorem d9_19 : decode method_3_code 19 = .ok (.lload 5, 2) := by decide +kernel
theorem d9_21 : decode method_3_code 21 = .ok (.lload 7, 2) := by decide +kernel
theorem d9_23 : decode method_3_code 23 = .ok (.ldc2_w 9, 3) := by decide +kernel
theorem d9_26 : decode method_3_code 26 = .ok (.ladd, 1) := by decide +kernel
theorem d9_27 : decode method_3_code 27 = .ok (.invokestatic 17, 3) := by decide +kernel
theorem d9_30 : decode method_3_code 30 = .ok (.lload 7, 2) := by decide +kernel
theorem d9_32 : decode method_3_code 32 = .ok (.lsub, 1) := by decide +kernel
theorem d9_33 : decode method_3_code 33 = .ok (.lstore 11, 2) := by decide +kernel
theorem d9_35 : decode method_3_code 35 = .ok (.lload 9, 2) := by decide +kernel
theorem d9_37 : decode method_3_code 37 = .ok (.lload 11, 2) := by decide +kernel
theorem d9_39 : decode method_3_code 39 = .ok (.lcmp, 1) := by decide +kernel
theorem d9_40 : decode method_3_code 40 = .ok (.ifCond .lt 5, 3) := by decide +kernel
theorem d9_45 : decode method_3_code 45 = .ok (.lload 9, 2) := by decide +kernel
theorem d9_47 : decode method_3_code 47 = .ok (.l2i, 1) := by decide +kernel
theorem d9_48 : decode method_3_code 48 = .ok (.istore 13, 2) := by decide +kernel
theorem d9_50 : decode method_3_code 50 = .ok (.lload 11, 2) := by decide +kernel
theorem d9_52 : decode method_3_code 52 = .ok (.l2i, 1) := by decide +kernel
theorem d9_53 : decode method_3_code 53 = .ok (.istore 14, 2) := by decide +kernel
theorem d9_55 : decode method_3_code 55 = .ok (.iload 14, 2) := by decide +kernel
theorem d9_57 : decode method_3_code 57 = .ok (.bipush 64, 2) := by decide +kernel
theorem d9_59 : decode method_3_code 59 = .ok (.if_icmp .ne 9, 3) := by decide +kernel
theorem d9_62 : decode method_3_code 62 = .ok (.ldc2_w 7, 3) := by decide +kernel
theorem d9_65 : decode method_3_code 65 = .ok (.goto 9, 3) := by decide +kernel
theorem d9_74 : decode method_3_code 74 = .ok (.ldc2_w 7, 3) := by decide +kernel
theorem d9_77 : decode method_3_code 77 = .ok (.iload 13, 2) := by decide +kernel
theorem d9_79 : decode method_3_code 79 = .ok (.lshl, 1) := by decide +kernel
theorem d9_80 : decode method_3_code 80 = .ok (.land, 1) := by decide +kernel
theorem d9_81 : decode method_3_code 81 = .ok (.lstore 15, 2) := by decide +kernel
theorem d9_83 : decode method_3_code 83 = .ok (.lload_n 1, 1) := by decide +kernel
theorem d9_84 : decode method_3_code 84 = .ok (.lload 15, 2) := by decide +kernel
theorem d9_86 : decode method_3_code 86 = .ok (.land, 1) := by decide +kernel
theorem d9_87 : decode method_3_code 87 = .ok (.lconst 0, 1) := by decide +kernel
theorem d9_88 : decode method_3_code 88 = .ok (.lcmp, 1) := by decide +kernel
theorem d9_89 : decode method_3_code 89 = .ok (.ifCond .eq 7, 3) := by decide +kernel
theorem d9_96 : decode method_3_code 96 = .ok (.iconst 0, 1) := by decide +kernel
theorem d9_97 : decode method_3_code 97 = .ok (.ireturn, 1) := by decide +kernel
theorem d9_92 : decode method_3_code 92 = .ok (.iconst 1, 1) := by decide +kernel
theorem d9_93 : decode method_3_code 93 = .ok (.goto 4, 3) := by decide +kernel
theorem d9_68 : decode method_3_code 68 = .ok (.lconst 1, 1) := by decide +kernel
theorem d9_69 : decode method_3_code 69 = .ok (.iload 14, 2) := by decide +kernel
theorem d9_71 : decode method_3_code 71 = .ok (.lshl, 1) := by decide +kernel
theorem d9_72 : decode method_3_code 72 = .ok (.lconst 1, 1) := by decide +kernel
theorem d9_73 : decode method_3_code 73 = .ok (.lsub, 1) := by decide +kernel
theorem d9_43 : decode method_3_code 43 = .ok (.iconst 0, 1) := by decide +kernel
theorem d9_44 : decode method_3_code 44 = .ok (.ireturn, 1) := by decide +kernel
set_option maxRecDepth 65536 in
set_option maxHeartbeats 40000000 in
theorem rany (l : Launch) (Z : State) (a0 : Array Value) (hw : ∀ d ∈ tables_1, d.before a0 Z = true) (ws : List Jvm.Cond) (p1 : Int32) (p2 p3 p4 : Int64)  (h0 : Heap) (n0 : Nat) (Z0 : n0 ≤ h0.size)  :
    Does l (⟨"com/example/slantwise/slantwise/engine/WordIndexRemoveAllPinLaw", "anyIn", "(IJJJ)Z"⟩ : MethodName) method_3_code 17 (some .boolean) ws ({ frames := 1, cells := 0, slots := 0, locals := 16 } : Room) #[(.int p1), (.long p2), (.long p3), (.long p4)] Z h0 (fun v h L => v = some (.int (own_any p1 p2 p3 p4 )) ∧ Fr n0 L ∧ h = h0) := by
  refine Does.of (plainFor_of_name pn_com_example_slantwise_slantwise_engine_WordIndexRemoveAllPinLaw) ?_
  intro p e s m below meth c s₁ hx hby hml hret hlk hown0 hnm hZ X0 e0
  have hown : s.vm.findClass "com/example/slantwise/slantwise/engine/WordIndexRemoveAllPinLaw" = some m.cls := hown0
  have N0 := Fr.nil n0
  refine Go.cast (g' := (mkF m 0 #[(sI p1), (sJ p2), .second, (sJ p3), .second, (sJ p4), .second, .unset, .unset, .unset, .unset, .unset, .unset, .unset, .unset, .unset, .unset] [])) (by first | (simp [entryFrame, mkF, argsToLocals, Value.category, maxLocals, sI, sR, sJ]; done) | rfl) ?_
  refine Go.k 3 [(.long (64 : Int64))] ?_ fun _ k_ => X0.ldc2J hx hown (mvT hZ (wq hw 58 rfl)) rfl (hb hby d9_0) k_
  refine Go.k 4 [(.int p1), (.long (64 : Int64))] ?_ fun _ k_ => XS.iloadN X0.here hx rfl (hb hby d9_3) rfl k_
  refine Go.k 5 [(.long p1.toInt64), (.long (64 : Int64))] ?_ fun _ k_ => XT.i2l X0.here hx rfl (hb hby d9_4) rfl k_
  refine Go.k 6 [(.long ((64 : Int64) * p1.toInt64))] ?_ fun _ k_ => XT.lmul X0.here hx rfl (hb hby d9_5) rfl k_
  refine Go.s (g' := (mkF m 8 #[(sI p1), (sJ p2), .second, (sJ p3), .second, (sJ p4), .second, (sJ ((64 : Int64) * p1.toInt64)), .second, .unset, .unset, .unset, .unset, .unset, .unset, .unset, .unset] [])) ?_ fun _ k_ => XT.lstore X0.here hx rfl (hb hby d9_6) rfl (l' := #[(sI p1), (sJ p2), .second, (sJ p3), .second, (sJ p4), .second, (sJ ((64 : Int64) * p1.toInt64)), .second, .unset, .unset, .unset, .unset, .unset, .unset, .unset, .unset]) rfl k_
  refine Go.k 9 [(.long p3)] ?_ fun _ k_ => XT.lloadN X0.here hx rfl (hb hby d9_8) rfl k_
  refine Go.k 11 [(.long ((64 : Int64) * p1.toInt64)), (.long p3)] ?_ fun _ k_ => XT.lload X0.here hx rfl (hb hby d9_9) rfl k_
  refine Go.callS X0 hx hZ hown (wq hw 59 rfl) (wq hw 60 rfl) (wq hw 61 rfl) (wq hw 62 rfl) (by decide) (rmaxj l Z a0 hw [] p3 ((64 : Int64) * p1.toInt64)  h0 n0 Z0 ) e0 (by decide) (W := 0) (by decide) (by decide) (by decide) (g := (mkF m 11 #[(sI p1), (sJ p2), .second, (sJ p3), .second, (sJ p4), .second, (sJ ((64 : Int64) * p1.toInt64)), .second, .unset, .unset, .unset, .unset, .unset, .unset, .unset, .unset] [(.long ((64 : Int64) * p1.toInt64)), (.long p3)])) (rest := []) rfl (by rw [hml]; rfl) (lenOf pd__JJ_J rfl) rfl (by show 2 * 0 + _ ≤ _; exact Nat.le_of_eq rfl) (hb hby d9_11) ?_
  rintro v1 T1 L1 X1 ⟨rfl, N1, e1⟩
  have M1 := Fr.app N0 N1
  show Go p e below _ T1 (mkF m 14 #[(sI p1), (sJ p2), .second, (sJ p3), .second, (sJ p4), .second, (sJ ((64 : Int64) * p1.toInt64)), .second, .unset, .unset, .unset, .unset, .unset, .unset, .unset, .unset] [(.long (own_maxJ p3 ((64 : Int64) * p1.toInt64)))])
  refine Go.k 16 [(.long ((64 : Int64) * p1.toInt64)), (.long (own_maxJ p3 ((64 : Int64) * p1.toInt64)))] ?_ fun _ k_ => XT.lload X1.here hx rfl (hb hby d9_14) rfl k_
  refine Go.k 17 [(.long ((own_maxJ p3 ((64 : Int64) * p1.toInt64)) - ((64 : Int64) * p1.toInt64)))] ?_ fun _ k_ => XT.lsub X1.here hx rfl (hb hby d9_16) rfl k_
  refine Go.s (g' := (mkF m 19 #[(sI p1), (sJ p2), .second, (sJ p3), .second, (sJ p4), .second, (sJ ((64 : Int64) * p1.toInt64)), .second, (sJ ((own_maxJ p3 ((64 : Int64) * p1.toInt64)) - ((64 : Int64) * p1.toInt64))), .second, .unset, .unset, .unset, .unset, .unset, .unset] [])) ?_ fun _ k_ => XT.lstore X1.here hx rfl (hb hby d9_17) rfl (l' := #[(sI p1), (sJ p2), .second, (sJ p3), .second, (sJ p4), .second, (sJ ((64 : Int64) * p1.toInt64)), .second, (sJ ((own_maxJ p3 ((64 : Int64) * p1.toInt64)) - ((64 : Int64) * p1.toInt64))), .second, .unset, .unset, .unset, .unset, .unset, .unset]) rfl k_
  refine Go.k 21 [(.long p4)] ?_ fun _ k_ => XT.lload X1.here hx rfl (hb hby d9_19) rfl k_
  refine Go.k 23 [(.long ((64 : Int64) * p1.toInt64)), (.long p4)] ?_ fun _ k_ => XT.lload X1.here hx rfl (hb hby d9_21) rfl k_
  refine Go.k 26 [(.long (64 : Int64)), (.long ((64 : Int64) * p1.toInt64)), (.long p4)] ?_ fun _ k_ => X1.ldc2J hx hown (mvT hZ (wq hw 58 rfl)) rfl (hb hby d9_23) k_
  refine Go.k 27 [(.long (((64 : Int64) * p1.toInt64) + (64 : Int64))), (.long p4)] ?_ fun _ k_ => XT.ladd X1.here hx rfl (hb hby d9_26) rfl k_
  refine Go.callS X1 hx hZ hown (wq hw 63 rfl) (wq hw 64 rfl) (wq hw 61 rfl) (wq hw 65 rfl) (by decide) (rminj l Z a0 hw [] p4 (((64 : Int64) * p1.toInt64) + (64 : Int64))  h0 n0 Z0 ) e1 (by decide) (W := 0) (by decide) (by decide) (by decide) (g := (mkF m 27 #[(sI p1), (sJ p2), .second, (sJ p3), .second, (sJ p4), .second, (sJ ((64 : Int64) * p1.toInt64)), .second, (sJ ((own_maxJ p3 ((64 : Int64) * p1.toInt64)) - ((64 : Int64) * p1.toInt64))), .second, .unset, .unset, .unset, .unset, .unset, .unset] [(.long (((64 : Int64) * p1.toInt64) + (64 : Int64))), (.long p4)])) (rest := []) rfl (by rw [hml]; rfl) (lenOf pd__JJ_J rfl) rfl (by show 2 * 0 + _ ≤ _; exact Nat.le_of_eq rfl) (hb hby d9_27) ?_
  rintro v2 T2 L2 X2 ⟨rfl, N2, e2⟩
  have M2 := Fr.app M1 N2
  show Go p e below _ T2 (mkF m 30 #[(sI p1), (sJ p2), .second, (sJ p3), .second, (sJ p4), .second, (sJ ((64 : Int64) * p1.toInt64)), .second, (sJ ((own_maxJ p3 ((64 : Int64) * p1.toInt64)) - ((64 : Int64) * p1.toInt64))), .second, .unset, .unset, .unset, .unset, .unset, .unset] [(.long (own_minJ p4 (((64 : Int64) * p1.toInt64) + (64 : Int64))))])
  refine Go.k 32 [(.long ((64 : Int64) * p1.toInt64)), (.long (own_minJ p4 (((64 : Int64) * p1.toInt64) + (64 : Int64))))] ?_ fun _ k_ => XT.lload X2.here hx rfl (hb hby d9_30) rfl k_
  refine Go.k 33 [(.long ((own_minJ p4 (((64 : Int64) * p1.toInt64) + (64 : Int64))) - ((64 : Int64) * p1.toInt64)))] ?_ fun _ k_ => XT.lsub X2.here hx rfl (hb hby d9_32) rfl k_
  refine Go.s (g' := (mkF m 35 #[(sI p1), (sJ p2), .second, (sJ p3), .second, (sJ p4), .second, (sJ ((64 : Int64) * p1.toInt64)), .second, (sJ ((own_maxJ p3 ((64 : Int64) * p1.toInt64)) - ((64 : Int64) * p1.toInt64))), .second, (sJ ((own_minJ p4 (((64 : Int64) * p1.toInt64) + (64 : Int64))) - ((64 : Int64) * p1.toInt64))), .second, .unset, .unset, .unset, .unset] [])) ?_ fun _ k_ => XT.lstore X2.here hx rfl (hb hby d9_33) rfl (l' := #[(sI p1), (sJ p2), .second, (sJ p3), .second, (sJ p4), .second, (sJ ((64 : Int64) * p1.toInt64)), .second, (sJ ((own_maxJ p3 ((64 : Int64) * p1.toInt64)) - ((64 : Int64) * p1.toInt64))), .second, (sJ ((own_minJ p4 (((64 : Int64) * p1.toInt64) + (64 : Int64))) - ((64 : Int64) * p1.toInt64))), .second, .unset, .unset, .unset, .unset]) rfl k_
  refine Go.k 37 [(.long ((own_maxJ p3 ((64 : Int64) * p1.toInt64)) - ((64 : Int64) * p1.toInt64)))] ?_ fun _ k_ => XT.lload X2.here hx rfl (hb hby d9_35) rfl k_
  refine Go.k 39 [(.long ((own_minJ p4 (((64 : Int64) * p1.toInt64) + (64 : Int64))) - ((64 : Int64) * p1.toInt64))), (.long ((own_maxJ p3 ((64 : Int64) * p1.toInt64)) - ((64 : Int64) * p1.toInt64)))] ?_ fun _ k_ => XT.lload X2.here hx rfl (hb hby d9_37) rfl k_
  refine Go.k 40 [(.int (lcmpW ((own_maxJ p3 ((64 : Int64) * p1.toInt64)) - ((64 : Int64) * p1.toInt64)) ((own_minJ p4 (((64 : Int64) * p1.toInt64) + (64 : Int64))) - ((64 : Int64) * p1.toInt64))))] ?_ fun _ k_ => XT.lcmp X2.here hx rfl (hb hby d9_39) rfl k_
  by_cases hc3 : ((own_maxJ p3 ((64 : Int64) * p1.toInt64)) - ((64 : Int64) * p1.toInt64)) < ((own_minJ p4 (((64 : Int64) * p1.toInt64) + (64 : Int64))) - ((64 : Int64) * p1.toInt64))
  · refine Go.k 45 [] ?_ fun _ k_ => XS.ifYes X2.here hx rfl (pc0 := 40) (pc' := 45) rfl (hb hby d9_40) rfl ((if0 _ _).trans (tlt ((lw_lt _ _).mpr hc3)).1) (by decide) (by decide) k_
    refine Go.k 47 [(.long ((own_maxJ p3 ((64 : Int64) * p1.toInt64)) - ((64 : Int64) * p1.toInt64)))] ?_ fun _ k_ => XT.lload X2.here hx rfl (hb hby d9_45) rfl k_
    refine Go.k 48 [(.int ((own_maxJ p3 ((64 : Int64) * p1.toInt64)) - ((64 : Int64) * p1.toInt64)).toInt32)] ?_ fun _ k_ => XT.l2i X2.here hx rfl (hb hby d9_47) rfl k_
    refine Go.s (g' := (mkF m 50 #[(sI p1), (sJ p2), .second, (sJ p3), .second, (sJ p4), .second, (sJ ((64 : Int64) * p1.toInt64)), .second, (sJ ((own_maxJ p3 ((64 : Int64) * p1.toInt64)) - ((64 : Int64) * p1.toInt64))), .second, (sJ ((own_minJ p4 (((64 : Int64) * p1.toInt64) + (64 : Int64))) - ((64 : Int64) * p1.toInt64))), .second, (sI ((own_maxJ p3 ((64 : Int64) * p1.toInt64)) - ((64 : Int64) * p1.toInt64)).toInt32), .unset, .unset, .unset] [])) ?_ fun _ k_ => XS.istore X2.here hx rfl (hb hby d9_48) rfl (l' := #[(sI p1), (sJ p2), .second, (sJ p3), .second, (sJ p4), .second, (sJ ((64 : Int64) * p1.toInt64)), .second, (sJ ((own_maxJ p3 ((64 : Int64) * p1.toInt64)) - ((64 : Int64) * p1.toInt64))), .second, (sJ ((own_minJ p4 (((64 : Int64) * p1.toInt64) + (64 : Int64))) - ((64 : Int64) * p1.toInt64))), .second, (sI ((own_maxJ p3 ((64 : Int64) * p1.toInt64)) - ((64 : Int64) * p1.toInt64)).toInt32), .unset, .unset, .unset]) rfl k_
    refine Go.k 52 [(.long ((own_minJ p4 (((64 : Int64) * p1.toInt64) + (64 : Int64))) - ((64 : Int64) * p1.toInt64)))] ?_ fun _ k_ => XT.lload X2.here hx rfl (hb hby d9_50) rfl k_
    refine Go.k 53 [(.int ((own_minJ p4 (((64 : Int64) * p1.toInt64) + (64 : Int64))) - ((64 : Int64) * p1.toInt64)).toInt32)] ?_ fun _ k_ => XT.l2i X2.here hx rfl (hb hby d9_52) rfl k_
    refine Go.s (g' := (mkF m 55 #[(sI p1), (sJ p2), .second, (sJ p3), .second, (sJ p4), .second, (sJ ((64 : Int64) * p1.toInt64)), .second, (sJ ((own_maxJ p3 ((64 : Int64) * p1.toInt64)) - ((64 : Int64) * p1.toInt64))), .second, (sJ ((own_minJ p4 (((64 : Int64) * p1.toInt64) + (64 : Int64))) - ((64 : Int64) * p1.toInt64))), .second, (sI ((own_maxJ p3 ((64 : Int64) * p1.toInt64)) - ((64 : Int64) * p1.toInt64)).toInt32), (sI ((own_minJ p4 (((64 : Int64) * p1.toInt64) + (64 : Int64))) - ((64 : Int64) * p1.toInt64)).toInt32), .unset, .unset] [])) ?_ fun _ k_ => XS.istore X2.here hx rfl (hb hby d9_53) rfl (l' := #[(sI p1), (sJ p2), .second, (sJ p3), .second, (sJ p4), .second, (sJ ((64 : Int64) * p1.toInt64)), .second, (sJ ((own_maxJ p3 ((64 : Int64) * p1.toInt64)) - ((64 : Int64) * p1.toInt64))), .second, (sJ ((own_minJ p4 (((64 : Int64) * p1.toInt64) + (64 : Int64))) - ((64 : Int64) * p1.toInt64))), .second, (sI ((own_maxJ p3 ((64 : Int64) * p1.toInt64)) - ((64 : Int64) * p1.toInt64)).toInt32), (sI ((own_minJ p4 (((64 : Int64) * p1.toInt64) + (64 : Int64))) - ((64 : Int64) * p1.toInt64)).toInt32), .unset, .unset]) rfl k_
    refine Go.k 57 [(.int ((own_minJ p4 (((64 : Int64) * p1.toInt64) + (64 : Int64))) - ((64 : Int64) * p1.toInt64)).toInt32)] ?_ fun _ k_ => XS.iload X2.here hx rfl (hb hby d9_55) rfl k_
    refine Go.k 59 [(.int (64 : Int32)), (.int ((own_minJ p4 (((64 : Int64) * p1.toInt64) + (64 : Int64))) - ((64 : Int64) * p1.toInt64)).toInt32)] ?_ fun _ k_ => XT.bipushV X2.here hx rfl (64 : Int32) (hb hby d9_57) (by decide) k_
    by_cases hc4 : ((own_minJ p4 (((64 : Int64) * p1.toInt64) + (64 : Int64))) - ((64 : Int64) * p1.toInt64)).toInt32 = (64 : Int32)
    · refine Go.k 62 [] ?_ fun _ k_ => XS.icmpNo X2.here hx rfl (hb hby d9_59) rfl (teq hc4).2 k_
      refine Go.k 65 [(.long (-1 : Int64))] ?_ fun _ k_ => X2.ldc2J hx hown (mvT hZ (wq hw 34 rfl)) rfl (hb hby d9_62) k_
      refine Go.k 74 [(.long (-1 : Int64))] ?_ fun _ k_ => XS.goto X2.here hx rfl (pc0 := 65) (pc' := 74) rfl (hb hby d9_65) (by decide) (by decide) k_
      refine Go.k 77 [(.long (-1 : Int64)), (.long (-1 : Int64))] ?_ fun _ k_ => X2.ldc2J hx hown (mvT hZ (wq hw 34 rfl)) rfl (hb hby d9_74) k_
      refine Go.k 79 [(.int ((own_maxJ p3 ((64 : Int64) * p1.toInt64)) - ((64 : Int64) * p1.toInt64)).toInt32), (.long (-1 : Int64)), (.long (-1 : Int64))] ?_ fun _ k_ => XS.iload X2.here hx rfl (hb hby d9_77) rfl k_
      refine Go.k 80 [(.long ((-1 : Int64) <<< (((own_maxJ p3 ((64 : Int64) * p1.toInt64)) - ((64 : Int64) * p1.toInt64)).toInt32.toInt64 &&& 63))), (.long (-1 : Int64))] ?_ fun _ k_ => XT.lshl X2.here hx rfl (hb hby d9_79) rfl k_
      refine Go.k 81 [(.long ((-1 : Int64) &&& ((-1 : Int64) <<< (((own_maxJ p3 ((64 : Int64) * p1.toInt64)) - ((64 : Int64) * p1.toInt64)).toInt32.toInt64 &&& 63))))] ?_ fun _ k_ => XT.land X2.here hx rfl (hb hby d9_80) rfl k_
      refine Go.s (g' := (mkF m 83 #[(sI p1), (sJ p2), .second, (sJ p3), .second, (sJ p4), .second, (sJ ((64 : Int64) * p1.toInt64)), .second, (sJ ((own_maxJ p3 ((64 : Int64) * p1.toInt64)) - ((64 : Int64) * p1.toInt64))), .second, (sJ ((own_minJ p4 (((64 : Int64) * p1.toInt64) + (64 : Int64))) - ((64 : Int64) * p1.toInt64))), .second, (sI ((own_maxJ p3 ((64 : Int64) * p1.toInt64)) - ((64 : Int64) * p1.toInt64)).toInt32), (sI ((own_minJ p4 (((64 : Int64) * p1.toInt64) + (64 : Int64))) - ((64 : Int64) * p1.toInt64)).toInt32), (sJ ((-1 : Int64) &&& ((-1 : Int64) <<< (((own_maxJ p3 ((64 : Int64) * p1.toInt64)) - ((64 : Int64) * p1.toInt64)).toInt32.toInt64 &&& 63)))), .second] [])) ?_ fun _ k_ => XT.lstore X2.here hx rfl (hb hby d9_81) rfl (l' := #[(sI p1), (sJ p2), .second, (sJ p3), .second, (sJ p4), .second, (sJ ((64 : Int64) * p1.toInt64)), .second, (sJ ((own_maxJ p3 ((64 : Int64) * p1.toInt64)) - ((64 : Int64) * p1.toInt64))), .second, (sJ ((own_minJ p4 (((64 : Int64) * p1.toInt64) + (64 : Int64))) - ((64 : Int64) * p1.toInt64))), .second, (sI ((own_maxJ p3 ((64 : Int64) * p1.toInt64)) - ((64 : Int64) * p1.toInt64)).toInt32), (sI ((own_minJ p4 (((64 : Int64) * p1.toInt64) + (64 : Int64))) - ((64 : Int64) * p1.toInt64)).toInt32), (sJ ((-1 : Int64) &&& ((-1 : Int64) <<< (((own_maxJ p3 ((64 : Int64) * p1.toInt64)) - ((64 : Int64) * p1.toInt64)).toInt32.toInt64 &&& 63)))), .second]) rfl k_
      refine Go.k 84 [(.long p2)] ?_ fun _ k_ => XT.lloadN X2.here hx rfl (hb hby d9_83) rfl k_
      refine Go.k 86 [(.long ((-1 : Int64) &&& ((-1 : Int64) <<< (((own_maxJ p3 ((64 : Int64) * p1.toInt64)) - ((64 : Int64) * p1.toInt64)).toInt32.toInt64 &&& 63)))), (.long p2)] ?_ fun _ k_ => XT.lload X2.here hx rfl (hb hby d9_84) rfl k_
      refine Go.k 87 [(.long (p2 &&& ((-1 : Int64) &&& ((-1 : Int64) <<< (((own_maxJ p3 ((64 : Int64) * p1.toInt64)) - ((64 : Int64) * p1.toInt64)).toInt32.toInt64 &&& 63)))))] ?_ fun _ k_ => XT.land X2.here hx rfl (hb hby d9_86) rfl k_
      refine Go.k 88 [(.long (0 : Int64)), (.long (p2 &&& ((-1 : Int64) &&& ((-1 : Int64) <<< (((own_maxJ p3 ((64 : Int64) * p1.toInt64)) - ((64 : Int64) * p1.toInt64)).toInt32.toInt64 &&& 63)))))] ?_ fun _ k_ => XT.lconstV X2.here hx rfl (0 : Int64) (hb hby d9_87) (by decide) k_
      refine Go.k 89 [(.int (lcmpW (p2 &&& ((-1 : Int64) &&& ((-1 : Int64) <<< (((own_maxJ p3 ((64 : Int64) * p1.toInt64)) - ((64 : Int64) * p1.toInt64)).toInt32.toInt64 &&& 63)))) (0 : Int64)))] ?_ fun _ k_ => XT.lcmp X2.here hx rfl (hb hby d9_88) rfl k_
      by_cases hc5 : (p2 &&& ((-1 : Int64) &&& ((-1 : Int64) <<< (((own_maxJ p3 ((64 : Int64) * p1.toInt64)) - ((64 : Int64) * p1.toInt64)).toInt32.toInt64 &&& 63)))) = (0 : Int64)
      · refine Go.k 96 [] ?_ fun _ k_ => XS.ifYes X2.here hx rfl (pc0 := 89) (pc' := 96) rfl (hb hby d9_89) rfl ((if0 _ _).trans (teq ((lw_eq _ _).mpr hc5)).1) (by decide) (by decide) k_
        refine Go.k 97 [(.int (0 : Int32))] ?_ fun _ k_ => XT.iconstV X2.here hx rfl (0 : Int32) (hb hby d9_96) (by decide) k_
        exact Go.retV (t := .boolean) X2 hx hret hlk (by decide) (by decide) rfl (Or.inl ⟨rfl, Or.inr (Or.inl rfl), _, rfl⟩) (hb hby d9_97) ⟨by rw [own_any, if_pos hc3, if_pos hc4, if_pos hc5], M2, e2⟩
      · refine Go.k 92 [] ?_ fun _ k_ => XS.ifNo X2.here hx rfl (hb hby d9_89) rfl ((if0 _ _).trans (feq (fun q_ => hc5 ((lw_eq _ _).mp q_))).1) k_
        refine Go.k 93 [(.int (1 : Int32))] ?_ fun _ k_ => XT.iconstV X2.here hx rfl (1 : Int32) (hb hby d9_92) (by decide) k_
        refine Go.k 97 [(.int (1 : Int32))] ?_ fun _ k_ => XS.goto X2.here hx rfl (pc0 := 93) (pc' := 97) rfl (hb hby d9_93) (by decide) (by decide) k_
        exact Go.retV (t := .boolean) X2 hx hret hlk (by decide) (by decide) rfl (Or.inl ⟨rfl, Or.inr (Or.inl rfl), _, rfl⟩) (hb hby d9_97) ⟨by rw [own_any, if_pos hc3, if_pos hc4, if_neg hc5], M2, e2⟩
    · refine Go.k 68 [] ?_ fun _ k_ => XS.icmpYes X2.here hx rfl (pc0 := 59) (pc' := 68) rfl (hb hby d9_59) rfl (feq hc4).2 (by decide) (by decide) k_
      refine Go.k 69 [(.long (1 : Int64))] ?_ fun _ k_ => XT.lconstV X2.here hx rfl (1 : Int64) (hb hby d9_68) (by decide) k_
      refine Go.k 71 [(.int ((own_minJ p4 (((64 : Int64) * p1.toInt64) + (64 : Int64))) - ((64 : Int64) * p1.toInt64)).toInt32), (.long (1 : Int64))] ?_ fun _ k_ => XS.iload X2.here hx rfl (hb hby d9_69) rfl k_
      refine Go.k 72 [(.long ((1 : Int64) <<< (((own_minJ p4 (((64 : Int64) * p1.toInt64) + (64 : Int64))) - ((64 : Int64) * p1.toInt64)).toInt32.toInt64 &&& 63)))] ?_ fun _ k_ => XT.lshl X2.here hx rfl (hb hby d9_71) rfl k_
      refine Go.k 73 [(.long (1 : Int64)), (.long ((1 : Int64) <<< (((own_minJ p4 (((64 : Int64) * p1.toInt64) + (64 : Int64))) - ((64 : Int64) * p1.toInt64)).toInt32.toInt64 &&& 63)))] ?_ fun _ k_ => XT.lconstV X2.here hx rfl (1 : Int64) (hb hby d9_72) (by decide) k_
      refine Go.k 74 [(.long (((1 : Int64) <<< (((own_minJ p4 (((64 : Int64) * p1.toInt64) + (64 : Int64))) - ((64 : Int64) * p1.toInt64)).toInt32.toInt64 &&& 63)) - (1 : Int64)))] ?_ fun _ k_ => XT.lsub X2.here hx rfl (hb hby d9_73) rfl k_
      refine Go.k 77 [(.long (-1 : Int64)), (.long (((1 : Int64) <<< (((own_minJ p4 (((64 : Int64) * p1.toInt64) + (64 : Int64))) - ((64 : Int64) * p1.toInt64)).toInt32.toInt64 &&& 63)) - (1 : Int64)))] ?_ fun _ k_ => X2.ldc2J hx hown (mvT hZ (wq hw 34 rfl)) rfl (hb hby d9_74) k_
      refine Go.k 79 [(.int ((own_maxJ p3 ((64 : Int64) * p1.toInt64)) - ((64 : Int64) * p1.toInt64)).toInt32), (.long (-1 : Int64)), (.long (((1 : Int64) <<< (((own_minJ p4 (((64 : Int64) * p1.toInt64) + (64 : Int64))) - ((64 : Int64) * p1.toInt64)).toInt32.toInt64 &&& 63)) - (1 : Int64)))] ?_ fun _ k_ => XS.iload X2.here hx rfl (hb hby d9_77) rfl k_
      refine Go.k 80 [(.long ((-1 : Int64) <<< (((own_maxJ p3 ((64 : Int64) * p1.toInt64)) - ((64 : Int64) * p1.toInt64)).toInt32.toInt64 &&& 63))), (.long (((1 : Int64) <<< (((own_minJ p4 (((64 : Int64) * p1.toInt64) + (64 : Int64))) - ((64 : Int64) * p1.toInt64)).toInt32.toInt64 &&& 63)) - (1 : Int64)))] ?_ fun _ k_ => XT.lshl X2.here hx rfl (hb hby d9_79) rfl k_
      refine Go.k 81 [(.long ((((1 : Int64) <<< (((own_minJ p4 (((64 : Int64) * p1.toInt64) + (64 : Int64))) - ((64 : Int64) * p1.toInt64)).toInt32.toInt64 &&& 63)) - (1 : Int64)) &&& ((-1 : Int64) <<< (((own_maxJ p3 ((64 : Int64) * p1.toInt64)) - ((64 : Int64) * p1.toInt64)).toInt32.toInt64 &&& 63))))] ?_ fun _ k_ => XT.land X2.here hx rfl (hb hby d9_80) rfl k_
      refine Go.s (g' := (mkF m 83 #[(sI p1), (sJ p2), .second, (sJ p3), .second, (sJ p4), .second, (sJ ((64 : Int64) * p1.toInt64)), .second, (sJ ((own_maxJ p3 ((64 : Int64) * p1.toInt64)) - ((64 : Int64) * p1.toInt64))), .second, (sJ ((own_minJ p4 (((64 : Int64) * p1.toInt64) + (64 : Int64))) - ((64 : Int64) * p1.toInt64))), .second, (sI ((own_maxJ p3 ((64 : Int64) * p1.toInt64)) - ((64 : Int64) * p1.toInt64)).toInt32), (sI ((own_minJ p4 (((64 : Int64) * p1.toInt64) + (64 : Int64))) - ((64 : Int64) * p1.toInt64)).toInt32), (sJ ((((1 : Int64) <<< (((own_minJ p4 (((64 : Int64) * p1.toInt64) + (64 : Int64))) - ((64 : Int64) * p1.toInt64)).toInt32.toInt64 &&& 63)) - (1 : Int64)) &&& ((-1 : Int64) <<< (((own_maxJ p3 ((64 : Int64) * p1.toInt64)) - ((64 : Int64) * p1.toInt64)).toInt32.toInt64 &&& 63)))), .second] [])) ?_ fun _ k_ => XT.lstore X2.here hx rfl (hb hby d9_81) rfl (l' := #[(sI p1), (sJ p2), .second, (sJ p3), .second, (sJ p4), .second, (sJ ((64 : Int64) * p1.toInt64)), .second, (sJ ((own_maxJ p3 ((64 : Int64) * p1.toInt64)) - ((64 : Int64) * p1.toInt64))), .second, (sJ ((own_minJ p4 (((64 : Int64) * p1.toInt64) + (64 : Int64))) - ((64 : Int64) * p1.toInt64))), .second, (sI ((own_maxJ p3 ((64 : Int64) * p1.toInt64)) - ((64 : Int64) * p1.toInt64)).toInt32), (sI ((own_minJ p4 (((64 : Int64) * p1.toInt64) + (64 : Int64))) - ((64 : Int64) * p1.toInt64)).toInt32), (sJ ((((1 : Int64) <<< (((own_minJ p4 (((64 : Int64) * p1.toInt64) + (64 : Int64))) - ((64 : Int64) * p1.toInt64)).toInt32.toInt64 &&& 63)) - (1 : Int64)) &&& ((-1 : Int64) <<< (((own_maxJ p3 ((64 : Int64) * p1.toInt64)) - ((64 : Int64) * p1.toInt64)).toInt32.toInt64 &&& 63)))), .second]) rfl k_
      refine Go.k 84 [(.long p2)] ?_ fun _ k_ => XT.lloadN X2.here hx rfl (hb hby d9_83) rfl k_
      refine Go.k 86 [(.long ((((1 : Int64) <<< (((own_minJ p4 (((64 : Int64) * p1.toInt64) + (64 : Int64))) - ((64 : Int64) * p1.toInt64)).toInt32.toInt64 &&& 63)) - (1 : Int64)) &&& ((-1 : Int64) <<< (((own_maxJ p3 ((64 : Int64) * p1.toInt64)) - ((64 : Int64) * p1.toInt64)).toInt32.toInt64 &&& 63)))), (.long p2)] ?_ fun _ k_ => XT.lload X2.here hx rfl (hb hby d9_84) rfl k_
      refine Go.k 87 [(.long (p2 &&& ((((1 : Int64) <<< (((own_minJ p4 (((64 : Int64) * p1.toInt64) + (64 : Int64))) - ((64 : Int64) * p1.toInt64)).toInt32.toInt64 &&& 63)) - (1 : Int64)) &&& ((-1 : Int64) <<< (((own_maxJ p3 ((64 : Int64) * p1.toInt64)) - ((64 : Int64) * p1.toInt64)).toInt32.toInt64 &&& 63)))))] ?_ fun _ k_ => XT.land X2.here hx rfl (hb hby d9_86) rfl k_
      refine Go.k 88 [(.long (0 : Int64)), (.long (p2 &&& ((((1 : Int64) <<< (((own_minJ p4 (((64 : Int64) * p1.toInt64) + (64 : Int64))) - ((64 : Int64) * p1.toInt64)).toInt32.toInt64 &&& 63)) - (1 : Int64)) &&& ((-1 : Int64) <<< (((own_maxJ p3 ((64 : Int64) * p1.toInt64)) - ((64 : Int64) * p1.toInt64)).toInt32.toInt64 &&& 63)))))] ?_ fun _ k_ => XT.lconstV X2.here hx rfl (0 : Int64) (hb hby d9_87) (by decide) k_
      refine Go.k 89 [(.int (lcmpW (p2 &&& ((((1 : Int64) <<< (((own_minJ p4 (((64 : Int64) * p1.toInt64) + (64 : Int64))) - ((64 : Int64) * p1.toInt64)).toInt32.toInt64 &&& 63)) - (1 : Int64)) &&& ((-1 : Int64) <<< (((own_maxJ p3 ((64 : Int64) * p1.toInt64)) - ((64 : Int64) * p1.toInt64)).toInt32.toInt64 &&& 63)))) (0 : Int64)))] ?_ fun _ k_ => XT.lcmp X2.here hx rfl (hb hby d9_88) rfl k_
      by_cases hc6 : (p2 &&& ((((1 : Int64) <<< (((own_minJ p4 (((64 : Int64) * p1.toInt64) + (64 : Int64))) - ((64 : Int64) * p1.toInt64)).toInt32.toInt64 &&& 63)) - (1 : Int64)) &&& ((-1 : Int64) <<< (((own_maxJ p3 ((64 : Int64) * p1.toInt64)) - ((64 : Int64) * p1.toInt64)).toInt32.toInt64 &&& 63)))) = (0 : Int64)
      · refine Go.k 96 [] ?_ fun _ k_ => XS.ifYes X2.here hx rfl (pc0 := 89) (pc' := 96) rfl (hb hby d9_89) rfl ((if0 _ _).trans (teq ((lw_eq _ _).mpr hc6)).1) (by decide) (by decide) k_
        refine Go.k 97 [(.int (0 : Int32))] ?_ fun _ k_ => XT.iconstV X2.here hx rfl (0 : Int32) (hb hby d9_96) (by decide) k_
        exact Go.retV (t := .boolean) X2 hx hret hlk (by decide) (by decide) rfl (Or.inl ⟨rfl, Or.inr (Or.inl rfl), _, rfl⟩) (hb hby d9_97) ⟨by rw [own_any, if_pos hc3, if_neg hc4, if_pos hc6], M2, e2⟩
      · refine Go.k 92 [] ?_ fun _ k_ => XS.ifNo X2.here hx rfl (hb hby d9_89) rfl ((if0 _ _).trans (feq (fun q_ => hc6 ((lw_eq _ _).mp q_))).1) k_
        refine Go.k 93 [(.int (1 : Int32))] ?_ fun _ k_ => XT.iconstV X2.here hx rfl (1 : Int32) (hb hby d9_92) (by decide) k_
        refine Go.k 97 [(.int (1 : Int32))] ?_ fun _ k_ => XS.goto X2.here hx rfl (pc0 := 93) (pc' := 97) rfl (hb hby d9_93) (by decide) (by decide) k_
        exact Go.retV (t := .boolean) X2 hx hret hlk (by decide) (by decide) rfl (Or.inl ⟨rfl, Or.inr (Or.inl rfl), _, rfl⟩) (hb hby d9_97) ⟨by rw [own_any, if_pos hc3, if_neg hc4, if_neg hc6], M2, e2⟩
  · refine Go.k 43 [] ?_ fun _ k_ => XS.ifNo X2.here hx rfl (hb hby d9_40) rfl ((if0 _ _).trans (flt (fun q_ => hc3 ((lw_lt _ _).mp q_))).1) k_
    refine Go.k 44 [(.int (0 : Int32))] ?_ fun _ k_ => XT.iconstV X2.here hx rfl (0 : Int32) (hb hby d9_43) (by decide) k_
    exact Go.retV (t := .boolean) X2 hx hret hlk (by decide) (by decide) rfl (Or.inl ⟨rfl, Or.inr (Or.inl rfl), _, rfl⟩) (hb hby d9_44) ⟨by rw [own_any, if_neg hc3], M2, e2⟩
/-! anyIn and exp, plainly -/
theorem own_maxJ_v (a b : Int64) : (own_maxJ a b).toInt = max a.toInt b.toInt := by
  unfold own_maxJ; split
  · rename_i h; rw [Int64.lt_iff_toInt_lt] at h; omega
  · rename_i h; rw [Int64.lt_iff_toInt_lt] at h; omega
theorem own_minJ_v (a b : Int64) : (own_minJ a b).toInt = min a.toInt b.toInt := by
  unfold own_minJ; split
  · rename_i h; rw [Int64.lt_iff_toInt_lt] at h; omega
  · rename_i h; rw [Int64.lt_iff_toInt_lt] at h; omega
def own_anyT (x s e : Int64) : Int32 := if s < e then if e.toInt32 = (64 : Int32) then if (x &&& ((-1 : Int64) &&& ((-1 : Int64) <<< (s.toInt32.toInt64 &&& 63)))) = (0 : Int64) then (0 : Int32) else (1 : Int32) else (if (x &&& ((((1 : Int64) <<< (e.toInt32.toInt64 &&& 63)) - (1 : Int64)) &&& ((-1 : Int64) <<< (s.toInt32.toInt64 &&& 63)))) = (0 : Int64) then (0 : Int32) else (1 : Int32)) else (0 : Int32)
theorem own_bit_m1 (i : Nat) (h : i < 64) : own_bit (-1) i = true := by
  have e : ((-1 : Int64)).toBitVec = BitVec.allOnes 64 := by decide
  unfold own_bit; rw [e, BitVec.getLsbD_allOnes]; simp [h]
def own_tf (r : Int32) (P : Prop) : Prop := (r = 1 ∧ P) ∨ (r = 0 ∧ ¬ P)
theorem own_tf.iff {r : Int32} {P Q : Prop} (k : P ↔ Q) (h : own_tf r P) : own_tf r Q := by unfold own_tf at *; rw [← k]; exact h
theorem own_anyB (x m : Int64) (s e : Nat) (hm : ∀ j, j < 64 → own_bit m j = decide (s ≤ j ∧ j < e)) (he : e ≤ 64) : own_tf (if x &&& m = 0 then (0 : Int32) else 1) (∃ j, s ≤ j ∧ j < e ∧ own_bit x j = true) := by
  by_cases c : ∃ j, s ≤ j ∧ j < e ∧ own_bit x j = true
  · obtain ⟨j, h1, h2, h3⟩ := c
    exact Or.inl ⟨if_neg (own_bit_ne (i := j) (by rw [own_bit_and, hm j (by omega), h3]; simp [h1, h2])), j, h1, h2, h3⟩
  · refine Or.inr ⟨if_pos ?_, c⟩
    refine own_bit_ext fun j hj => ?_
    rw [own_bit0, own_bit_and, hm j hj]
    by_cases r : s ≤ j ∧ j < e
    · cases hx : own_bit x j
      · rfl
      · exact absurd ⟨j, r.1, r.2, hx⟩ c
    · simp [r]
theorem own_anyT_v (x s e : Int64) (s0 : 0 ≤ s.toInt) (e1 : e.toInt ≤ 64) : own_tf (own_anyT x s e) (∃ j : Nat, s.toInt ≤ j ∧ (j : Int) < e.toInt ∧ own_bit x j = true) := by
  unfold own_anyT
  by_cases c : s < e
  · rw [if_pos c]
    rw [Int64.lt_iff_toInt_lt] at c
    have a1 := c_l2i s
    have a2 := c_l2i e
    have a3 := rng32 s.toInt32
    have a4 := rng32 e.toInt32
    have b1 : s.toInt32.toInt = s.toInt := by omega
    have b2 : e.toInt32.toInt = e.toInt := by omega
    generalize s.toInt32 = si at *
    generalize e.toInt32 = ei at *
    have ns : si.toNatClampNeg = s.toInt.toNat := by simp only [Int32.toNatClampNeg]; omega
    have ne : ei.toNatClampNeg = e.toInt.toNat := by simp only [Int32.toNatClampNeg]; omega
    refine own_tf.iff (P := ∃ j : Nat, si.toNatClampNeg ≤ j ∧ j < ei.toNatClampNeg ∧ own_bit x j = true) ⟨fun ⟨j, h1, h2, h3⟩ => ⟨j, by omega, by omega, h3⟩, fun ⟨j, h1, h2, h3⟩ => ⟨j, by omega, by omega, h3⟩⟩ ?_
    by_cases d : ei = 64
    · rw [if_pos d]
      have d' : ei.toInt = 64 := by rw [d]; decide
      refine own_anyB x _ _ _ (fun j hj => ?_) (by omega)
      rw [own_bit_and, own_bit_m1 j hj, own_bit_hi si (by omega) j hj, Bool.true_and]
      exact decide_eq_decide.mpr (by omega)
    · rw [if_neg d]
      have d' : ¬ ei.toInt = 64 := fun q => d (Int32.toInt_inj.mp (by rw [q]; decide))
      refine own_anyB x _ _ _ (fun j hj => ?_) (by omega)
      rw [own_bit_and, own_bit_lo ei (by omega) j hj, own_bit_hi si (by omega) j hj, ← Bool.decide_and]
      exact decide_eq_decide.mpr (by omega)
  · rw [if_neg c]
    rw [Int64.lt_iff_toInt_lt] at c
    exact Or.inr ⟨rfl, by rintro ⟨j, h1, h2, -⟩; omega⟩
theorem own_any_v (b : Int32) (x lo hi : Int64) (h0 : 0 ≤ b.toInt) (l0 : 0 ≤ lo.toInt) (l1 : lo.toInt ≤ 1099511627776) (u0 : 0 ≤ hi.toInt) (u1 : hi.toInt ≤ 1099511627776) :
    own_tf (own_any b x lo hi) (∃ i : Nat, lo.toInt ≤ i ∧ (i : Int) < hi.toInt ∧ i / 64 = b.toNatClampNeg ∧ own_bit x (i % 64) = true) := by
  have q : own_any b x lo hi = own_anyT x (own_maxJ lo (64 * b.toInt64) - 64 * b.toInt64) (own_minJ hi (64 * b.toInt64 + 64) - 64 * b.toInt64) := rfl
  rw [q]
  have a1 := c_lmul 64 b.toInt64
  have a2 := rng64 (64 * b.toInt64)
  have a0 : (64 : Int64).toInt = 64 := by decide
  have a3 := rng32 b
  rw [c_i2l, a0] at a1
  have hb : (64 * b.toInt64).toInt = 64 * b.toInt := by omega
  generalize (64 * b.toInt64) = bs at *
  have a4 := c_ladd bs 64
  have a5 := rng64 (bs + 64)
  have a6 := own_maxJ_v lo bs
  have a7 := own_minJ_v hi (bs + 64)
  generalize bs + 64 = bt at *
  generalize own_maxJ lo bs = mx at *
  generalize own_minJ hi bt = mn at *
  have a8 := c_lsub mx bs
  have a9 := rng64 (mx - bs)
  have a10 := c_lsub mn bs
  have a11 := rng64 (mn - bs)
  generalize mx - bs = s at *
  generalize mn - bs = e at *
  rw [a0] at a4
  have hs : s.toInt = max lo.toInt (64 * b.toInt) - 64 * b.toInt := by omega
  have he : e.toInt = min hi.toInt (64 * b.toInt + 64) - 64 * b.toInt := by omega
  have nb : b.toNatClampNeg = b.toInt.toNat := by simp only [Int32.toNatClampNeg]
  have key : (∃ j : Nat, s.toInt ≤ j ∧ (j : Int) < e.toInt ∧ own_bit x j = true) ↔ ∃ i : Nat, lo.toInt ≤ i ∧ (i : Int) < hi.toInt ∧ i / 64 = b.toNatClampNeg ∧ own_bit x (i % 64) = true := by
    constructor
    · rintro ⟨j, h1, h2, h3⟩
      refine ⟨64 * b.toInt.toNat + j, by omega, by omega, by omega, ?_⟩
      rw [show (64 * b.toInt.toNat + j) % 64 = j by omega]; exact h3
    · rintro ⟨i, h1, h2, h3, h4⟩
      exact ⟨i % 64, by omega, by omega, h4⟩
  exact own_tf.iff key (own_anyT_v x s e (by omega) (by omega))
theorem own_anyN {F : Nat → Int64} {b : Int32} {lo hi : Int64} {l u : Int} (el : lo.toInt = l) (eu : hi.toInt = u) (h0 : 0 ≤ b.toInt) (l0 : 0 ≤ l) (l1 : l ≤ 1099511627776) (u0 : 0 ≤ u) (u1 : u ≤ 1099511627776) (h : ∀ i : Nat, l ≤ i → (i : Int) < u → own_b F i = false) : own_any b (F b.toNatClampNeg) lo hi = 0 := by
  subst el eu
  rcases own_any_v b (F b.toNatClampNeg) lo hi h0 l0 l1 u0 u1 with ⟨-, i, h1, h2, h3, h4⟩ | ⟨e, -⟩
  · have := h i h1 h2
    unfold own_b at this
    rw [h3, h4] at this; cases this
  · exact e
theorem own_anyY {F : Nat → Int64} {b : Int32} {lo hi : Int64} {l u : Int} (el : lo.toInt = l) (eu : hi.toInt = u) (h0 : 0 ≤ b.toInt) (l0 : 0 ≤ l) (l1 : l ≤ 1099511627776) (u0 : 0 ≤ u) (u1 : u ≤ 1099511627776) (i : Nat) (h1 : l ≤ i) (h2 : (i : Int) < u) (h3 : i / 64 = b.toNatClampNeg) (h : own_b F i = true) : own_any b (F b.toNatClampNeg) lo hi = 1 := by
  subst el eu
  rcases own_any_v b (F b.toNatClampNeg) lo hi h0 l0 l1 u0 u1 with ⟨e, -⟩ | ⟨-, e⟩
  · exact e
  · exact absurd ⟨i, h1, h2, h3, by rw [← h3]; exact h⟩ e
theorem own_member {x : Int64} (r : Int32) (h : 0 ≤ r.toInt) (hb : own_bit x (r.toNatClampNeg % 64) = true) : ¬ (XT.ushrL x (r &&& 63)) &&& 1 = 0 := by
  have e : (r &&& 63) = Int32.ofNat (r.toNatClampNeg % 64) := by
    have h1 := c_mask r 63 6 (by decide) (by decide)
    have e6 : ((2 ^ 6 : Nat) : Int) = 64 := rfl
    apply Int32.toInt_inj.mp
    rw [h1, e6, Int32.toInt_ofNat_of_lt (by show _ < _; omega)]
    simp only [Int32.toNatClampNeg]; omega
  rw [e]
  have hn := Nat.mod_lt r.toNatClampNeg (by decide : 0 < 64)
  generalize r.toNatClampNeg % 64 = n at *
  have k : ((Int32.ofNat n).toInt64.toUInt64 &&& Int64.toUInt64 63) = UInt64.ofNat n := (by decide +kernel : ∀ n : Fin 64, ((Int32.ofNat n.val).toInt64.toUInt64 &&& Int64.toUInt64 63) = UInt64.ofNat n.val) ⟨n, hn⟩
  refine own_bit_ne (i := 0) ?_
  rw [own_bit_and, show own_bit 1 0 = true from by decide, Bool.and_true]
  unfold XT.ushrL
  rw [k]
  have e2 : ((x.toUInt64 >>> UInt64.ofNat n).toInt64).toBitVec = x.toBitVec >>> n := by
    show (x.toUInt64 >>> UInt64.ofNat n).toBitVec = _
    rw [UInt64.toBitVec_shiftRight]
    have : ((UInt64.ofNat n).toBitVec % 64).toNat = n := (by decide +kernel : ∀ n : Fin 64, ((UInt64.ofNat n.val).toBitVec % 64).toNat = n.val) ⟨n, hn⟩
    show x.toBitVec >>> ((UInt64.ofNat n).toBitVec % 64) = _
    rw [BitVec.ushiftRight_eq', this]
  unfold own_bit at hb ⊢
  rw [e2, BitVec.getLsbD_ushiftRight]; simpa using hb
theorem own_nateq {a b : Int32} (ha : 0 ≤ a.toInt) (hb : 0 ≤ b.toInt) : a.toNatClampNeg = b.toNatClampNeg ↔ a = b := by
  rw [← Int32.toInt_inj]; simp only [Int32.toNatClampNeg]; omega
theorem own_zor (x : Int64) : (0 : Int64) ||| x = x := Int64.toBitVec_inj.mp (by simp)
theorem own_zand (x : Int64) : (0 : Int64) &&& x = 0 := Int64.toBitVec_inj.mp (by simp)
theorem own_m1 (b b1 b3 b2 : Int32) (x1 x3 y : Int64) (hb : 0 ≤ b.toInt) (h1 : 0 ≤ b1.toInt) (h3 : 0 ≤ b3.toInt) (h2 : 0 ≤ b2.toInt) : own_exp7 b b1 x1 b3 x3 b2 y = own_an (own_or (own_or own_z b1.toNatClampNeg x1) b3.toNatClampNeg x3) b2.toNatClampNeg y b.toNatClampNeg := by
  simp only [own_or, own_an, own_set, own_z, own_exp7, own_nateq hb h1, own_nateq hb h3, own_nateq hb h2, own_nateq h2 h3, own_nateq h2 h1, own_nateq h3 h1]
  by_cases c1 : b = b1 <;> by_cases c3 : b = b3 <;> by_cases c2 : b = b2
  · subst c1; subst c3; subst c2; simp
  · subst c1; subst c3; simp [c2]
  · subst c1; subst c2; simp [c3]
  · subst c1; simp [c3, c2]
  · subst c3; subst c2; simp [c1]
  · subst c3; simp [c1, c2]
  · subst c2; simp [c1, c3]
  · simp [c1, c2, c3]
theorem own_sup {b1 b3 b2 : Nat} {x1 x3 y : Int64} {i : Nat} (h : ¬ own_an (own_or (own_or own_z b1 x1) b3 x3) b2 y i = 0) : i = b1 ∨ i = b3 := by
  apply Classical.byContradiction
  intro q
  have q1 : ¬ i = b1 := fun r => q (Or.inl r)
  have q3 : ¬ i = b3 := fun r => q (Or.inr r)
  apply h
  unfold own_an own_set
  by_cases c : i = b2
  · subst c; simp only [if_pos, own_or, own_set, if_neg q1, if_neg q3, own_z, own_zand]
  · simp only [if_neg c, own_or, own_set, if_neg q1, if_neg q3, own_z]
theorem pd___V : parseMethodDescriptor "()V" = some ⟨[], none⟩ := by decide +kernel
theorem pd__IJ_V : parseMethodDescriptor "(IJ)V" = some ⟨[.int, .long], none⟩ := by decide +kernel
theorem pd__IIJIJIJ_J : parseMethodDescriptor "(IIJIJIJ)J" = some ⟨[.int, .int, .long, .int, .long, .int, .long], some .long⟩ := by decide +kernel
theorem pd__I_J : parseMethodDescriptor "(I)J" = some ⟨[.int], some .long⟩ := by decide +kernel
theorem pd__IJJJ_Z : parseMethodDescriptor "(IJJJ)Z" = some ⟨[.int, .long, .long, .long], some .boolean⟩ := by decide +kernel
set_option maxRecDepth 65536 in
set_option maxHeartbeats 40000000 in
theorem rm0 (l : Launch) (Z : State) (a0 : Array Value) (hw : ∀ d ∈ tables_1, d.before a0 Z = true) (ws : List Jvm.Cond) (p1 : Int32) (p2 p3 p4 : Int64) (p5 p6 : Int32) (h0 : Heap) (n0 : Nat) (Z0 : n0 ≤ h0.size)  :
    Does l x code maxLocals ret ws room_1 #[(.int p1), (.long p2), (.long p3), (.long p4), (.int p5), (.int p6)] Z h0 (fun v h L => v = some (.int 1) ∧ Fr n0 L) := by
  refine Does.of (plainFor_of_name pn_com_example_slantwise_slantwise_engine_WordIndexRemoveAllPinLaw) ?_
  intro p e s m below meth c s₁ hx hby hml hret hlk hown0 hnm hZ X0 e0
  have hown : s.vm.findClass "com/example/slantwise/slantwise/engine/WordIndexRemoveAllPinLaw" = some m.cls := hown0
  have N0 := Fr.nil n0
  have tail : ∀ (b1 b3 b2 fr : Int32), 0 ≤ b1.toInt → b1.toInt ≤ 8191 → 0 ≤ b3.toInt → b3.toInt ≤ 8191 → 0 ≤ b2.toInt → b2.toInt ≤ 16383 → 0 ≤ fr.toInt → fr.toInt ≤ 524287 → Go p e below (EndP below s (fun v h L => v = some (.int 1) ∧ Fr n0 L) room_1.cells room_1.slots) s₁ (mkF m 74 #[(sI p1), (sJ p2), .second, (sJ p3), .second, (sJ p4), .second, (sI p5), (sI p6), (sI b1), (sI b3), (sI (p5 &&& (3 : Int32))), (sI b2), (sI fr), .unset, .unset, .unset, .unset, .unset, .unset, .unset, .unset, .unset, .unset, .unset, .unset, .unset, .unset, .unset, .unset] []) := by
    intro b1 b3 b2 fr a_b1 b_b1 a_b3 b_b3 a_b2 b_b2 a_fr b_fr
    obtain ⟨T1, h1, X1, e1, E1, A1, D1, -, st1⟩ := newO X0 hx hZ hown (wq hw 1 rfl) (wq hw 2 rfl) (wq hw 3 rfl) e0 (g := (mkF m 74 #[(sI p1), (sJ p2), .second, (sJ p3), .second, (sJ p4), .second, (sI p5), (sI p6), (sI b1), (sI b3), (sI (p5 &&& (3 : Int32))), (sI b2), (sI fr), .unset, .unset, .unset, .unset, .unset, .unset, .unset, .unset, .unset, .unset, .unset, .unset, .unset, .unset, .unset, .unset] [])) rfl (hb hby at_74) (by decide) (by decide)
    obtain ⟨na1, g1⟩ : ∃ z, z = h0.size := ⟨_, rfl⟩
    rw [← g1] at A1 D1 st1
    have G1 : n0 ≤ na1 := Nat.le_trans Z0 (Nat.le_of_eq g1.symm)
    have H1 : h0.size ≤ na1 := Nat.le_trans (Nat.le_refl _) (Nat.le_of_eq g1.symm)
    refine Go.t T1 77 [(.ref na1)] ?_ st1
    refine Go.k 78 [(.ref na1), (.ref na1)] ?_ fun _ k_ => XS.dup X1.here hx rfl (hb hby at_77) rfl rfl k_
    refine Go.callI X1 hx hZ hown rfl (wq hw 4 rfl) (wq hw 5 rfl) (wq hw 3 rfl) (wq hw 6 rfl) (by decide) (ini l Z a0 hw [] na1 h1 n0 (Nat.le_trans Z0 E1.1) A1 (D1 (Or.inr (wq hw 14 rfl)) (ty := (.array (.array .long))) (by decide)) G1) e1 (by decide) (W := 1) (by decide) (by decide) (by decide) (g := (mkF m 78 #[(sI p1), (sJ p2), .second, (sJ p3), .second, (sJ p4), .second, (sI p5), (sI p6), (sI b1), (sI b3), (sI (p5 &&& (3 : Int32))), (sI b2), (sI fr), .unset, .unset, .unset, .unset, .unset, .unset, .unset, .unset, .unset, .unset, .unset, .unset, .unset, .unset, .unset, .unset] [(.ref na1), (.ref na1)])) (rest := [(.ref na1)]) rfl (by rw [hml]; rfl) (lenOf pd___V rfl) rfl (by show 2 * 0 + _ ≤ _; exact Nat.le_of_eq rfl) (hb hby at_78) ?_
    rintro v2 T2 L2 X2 ⟨rfl, N2, S2, lv, kL, x0, x1, x2, x3, x4, HW2⟩
    have M2 := Fr.app N0 N2
    have HC0 : own_Ch 1 1 1 1 1 := by refine ⟨?_, ?_, ?_, ?_, ?_, ?_, ?_, ?_, ?_, ?_, ?_, ?_, ?_, ?_⟩ <;> decide
    have HP0 : own_P own_z own_z ∧ own_P own_z own_z ∧ own_P own_z own_z ∧ own_P own_z own_z := ⟨own_Pz, own_Pz, own_Pz, own_Pz⟩
    show Go p e below _ T2 (mkF m 81 #[(sI p1), (sJ p2), .second, (sJ p3), .second, (sJ p4), .second, (sI p5), (sI p6), (sI b1), (sI b3), (sI (p5 &&& (3 : Int32))), (sI b2), (sI fr), .unset, .unset, .unset, .unset, .unset, .unset, .unset, .unset, .unset, .unset, .unset, .unset, .unset, .unset, .unset, .unset] [(.ref na1)])
    refine Go.s (g' := (mkF m 83 #[(sI p1), (sJ p2), .second, (sJ p3), .second, (sJ p4), .second, (sI p5), (sI p6), (sI b1), (sI b3), (sI (p5 &&& (3 : Int32))), (sI b2), (sI fr), (sR na1), .unset, .unset, .unset, .unset, .unset, .unset, .unset, .unset, .unset, .unset, .unset, .unset, .unset, .unset, .unset] [])) ?_ fun _ k_ => XS.astore X2.here hx rfl (hb hby at_81) rfl rfl (l' := #[(sI p1), (sJ p2), .second, (sJ p3), .second, (sJ p4), .second, (sI p5), (sI p6), (sI b1), (sI b3), (sI (p5 &&& (3 : Int32))), (sI b2), (sI fr), (sR na1), .unset, .unset, .unset, .unset, .unset, .unset, .unset, .unset, .unset, .unset, .unset, .unset, .unset, .unset, .unset]) rfl k_
    refine Go.k 85 [(.ref na1)] ?_ fun _ k_ => XS.aload X2.here hx rfl (hb hby at_83) rfl rfl k_
    refine Go.k 87 [(.int b1), (.ref na1)] ?_ fun _ k_ => XS.iload X2.here hx rfl (hb hby at_85) rfl k_
    refine Go.k 88 [(.long p2), (.int b1), (.ref na1)] ?_ fun _ k_ => XT.lloadN X2.here hx rfl (hb hby at_87) rfl k_
    refine Go.callV X2 hx hZ hown (wq hw 15 rfl) (wq hw 16 rfl) (wq hw 18 rfl) (wq hw 17 rfl) (wq hw 3 rfl) (wq hw 19 rfl) (by decide) HW2.1 (add l Z a0 hw [] na1 lv kL x0 x1 x2 x3 x4 1 1 1 1 1 own_z own_z own_z own_z own_z b1 p2 T2.heap n0 (Nat.le_trans (Nat.le_trans Z0 E1.1) S2) HW2 HC0 a_b1 b_b1 HP0) rfl (by decide) (W := 0) (by decide) (by decide) (by decide) (g := (mkF m 88 #[(sI p1), (sJ p2), .second, (sJ p3), .second, (sJ p4), .second, (sI p5), (sI p6), (sI b1), (sI b3), (sI (p5 &&& (3 : Int32))), (sI b2), (sI fr), (sR na1), .unset, .unset, .unset, .unset, .unset, .unset, .unset, .unset, .unset, .unset, .unset, .unset, .unset, .unset, .unset] [(.long p2), (.int b1), (.ref na1)])) (rest := []) rfl (by rw [hml]; rfl) (lenOf pd__IJ_V rfl) rfl (by show 2 * 0 + _ ≤ _; exact Nat.le_of_eq rfl) (hb hby at_88) ?_
    rintro v3 T3 L3 X3 ⟨rfl, N3, S3, y0_3, y1_3, y2_3, y3_3, y4_3, u0_3, u1_3, u2_3, u3_3, u4_3, g1_3, g2_3, g3_3, g4_3, HW3, HC3, HP3⟩
    have M3 := Fr.app M2 N3
    show Go p e below _ T3 (mkF m 91 #[(sI p1), (sJ p2), .second, (sJ p3), .second, (sJ p4), .second, (sI p5), (sI p6), (sI b1), (sI b3), (sI (p5 &&& (3 : Int32))), (sI b2), (sI fr), (sR na1), .unset, .unset, .unset, .unset, .unset, .unset, .unset, .unset, .unset, .unset, .unset, .unset, .unset, .unset, .unset] [])
    refine Go.k 93 [(.ref na1)] ?_ fun _ k_ => XS.aload X3.here hx rfl (hb hby at_91) rfl rfl k_
    refine Go.k 95 [(.int b3), (.ref na1)] ?_ fun _ k_ => XS.iload X3.here hx rfl (hb hby at_93) rfl k_
    refine Go.k 96 [(.long p3), (.int b3), (.ref na1)] ?_ fun _ k_ => XT.lloadN X3.here hx rfl (hb hby at_95) rfl k_
    refine Go.callV X3 hx hZ hown (wq hw 15 rfl) (wq hw 16 rfl) (wq hw 18 rfl) (wq hw 17 rfl) (wq hw 3 rfl) (wq hw 19 rfl) (by decide) HW3.1 (add l Z a0 hw [] na1 lv kL y0_3 y1_3 y2_3 y3_3 y4_3 u0_3 u1_3 u2_3 u3_3 u4_3 (own_or own_z b1.toNatClampNeg p2) g1_3 g2_3 g3_3 g4_3 b3 p3 T3.heap n0 (Nat.le_trans (Nat.le_trans (Nat.le_trans Z0 E1.1) S2) S3) HW3 HC3 a_b3 b_b3 HP3) rfl (by decide) (W := 0) (by decide) (by decide) (by decide) (g := (mkF m 96 #[(sI p1), (sJ p2), .second, (sJ p3), .second, (sJ p4), .second, (sI p5), (sI p6), (sI b1), (sI b3), (sI (p5 &&& (3 : Int32))), (sI b2), (sI fr), (sR na1), .unset, .unset, .unset, .unset, .unset, .unset, .unset, .unset, .unset, .unset, .unset, .unset, .unset, .unset, .unset] [(.long p3), (.int b3), (.ref na1)])) (rest := []) rfl (by rw [hml]; rfl) (lenOf pd__IJ_V rfl) rfl (by show 2 * 0 + _ ≤ _; exact Nat.le_of_eq rfl) (hb hby at_96) ?_
    rintro v4 T4 L4 X4 ⟨rfl, N4, S4, y0_4, y1_4, y2_4, y3_4, y4_4, u0_4, u1_4, u2_4, u3_4, u4_4, g1_4, g2_4, g3_4, g4_4, HW4, HC4, HP4⟩
    have M4 := Fr.app M3 N4
    show Go p e below _ T4 (mkF m 99 #[(sI p1), (sJ p2), .second, (sJ p3), .second, (sJ p4), .second, (sI p5), (sI p6), (sI b1), (sI b3), (sI (p5 &&& (3 : Int32))), (sI b2), (sI fr), (sR na1), .unset, .unset, .unset, .unset, .unset, .unset, .unset, .unset, .unset, .unset, .unset, .unset, .unset, .unset, .unset] [])
    refine Go.k 101 [(.ref na1)] ?_ fun _ k_ => XS.aload X4.here hx rfl (hb hby at_99) rfl rfl k_
    refine Go.k 103 [(.int b2), (.ref na1)] ?_ fun _ k_ => XS.iload X4.here hx rfl (hb hby at_101) rfl k_
    refine Go.k 105 [(.long p4), (.int b2), (.ref na1)] ?_ fun _ k_ => XT.lload X4.here hx rfl (hb hby at_103) rfl k_
    refine Go.callV X4 hx hZ hown (wq hw 24 rfl) (wq hw 25 rfl) (wq hw 27 rfl) (wq hw 26 rfl) (wq hw 3 rfl) (wq hw 28 rfl) (by decide) HW4.1 (rem l Z a0 hw [] na1 lv kL y0_4 y1_4 y2_4 y3_4 y4_4 u0_4 u1_4 u2_4 u3_4 u4_4 (own_or (own_or own_z b1.toNatClampNeg p2) b3.toNatClampNeg p3) g1_4 g2_4 g3_4 g4_4 b2 p4 T4.heap n0 (Nat.le_trans (Nat.le_trans (Nat.le_trans (Nat.le_trans Z0 E1.1) S2) S3) S4) HW4 HC4 a_b2 HP4) rfl (by decide) (W := 0) (by decide) (by decide) (by decide) (g := (mkF m 105 #[(sI p1), (sJ p2), .second, (sJ p3), .second, (sJ p4), .second, (sI p5), (sI p6), (sI b1), (sI b3), (sI (p5 &&& (3 : Int32))), (sI b2), (sI fr), (sR na1), .unset, .unset, .unset, .unset, .unset, .unset, .unset, .unset, .unset, .unset, .unset, .unset, .unset, .unset, .unset] [(.long p4), (.int b2), (.ref na1)])) (rest := []) rfl (by rw [hml]; rfl) (lenOf pd__IJ_V rfl) rfl (by show 2 * 0 + _ ≤ _; exact Nat.le_of_eq rfl) (hb hby at_105) ?_
    rintro v5 T5 L5 X5 ⟨rfl, N5, S5, g1_5, g2_5, g3_5, g4_5, HW5, HP5⟩
    have M5 := Fr.app M4 N5
    have hE : ∀ bb : Int32, 0 ≤ bb.toInt → own_exp7 bb b1 p2 b3 p3 b2 p4 = own_an (own_or (own_or own_z b1.toNatClampNeg p2) b3.toNatClampNeg p3) b2.toNatClampNeg p4 bb.toNatClampNeg := fun bb hbb => own_m1 bb b1 b3 b2 p2 p3 p4 hbb a_b1 a_b3 a_b2
    have hS : ∀ i_, ¬ own_an (own_or (own_or own_z b1.toNatClampNeg p2) b3.toNatClampNeg p3) b2.toNatClampNeg p4 i_ = 0 → i_ = b1.toNatClampNeg ∨ i_ = b3.toNatClampNeg := fun i_ q_ => own_sup q_
    generalize own_an (own_or (own_or own_z b1.toNatClampNeg p2) b3.toNatClampNeg p3) b2.toNatClampNeg p4 = FF at *
    show Go p e below _ T5 (mkF m 108 #[(sI p1), (sJ p2), .second, (sJ p3), .second, (sJ p4), .second, (sI p5), (sI p6), (sI b1), (sI b3), (sI (p5 &&& (3 : Int32))), (sI b2), (sI fr), (sR na1), .unset, .unset, .unset, .unset, .unset, .unset, .unset, .unset, .unset, .unset, .unset, .unset, .unset, .unset, .unset] [])
    refine Go.k 110 [(.int b1)] ?_ fun _ k_ => XS.iload X5.here hx rfl (hb hby at_108) rfl k_
    refine Go.k 112 [(.int b1), (.int b1)] ?_ fun _ k_ => XS.iload X5.here hx rfl (hb hby at_110) rfl k_
    refine Go.k 113 [(.long p2), (.int b1), (.int b1)] ?_ fun _ k_ => XT.lloadN X5.here hx rfl (hb hby at_112) rfl k_
    refine Go.k 115 [(.int b3), (.long p2), (.int b1), (.int b1)] ?_ fun _ k_ => XS.iload X5.here hx rfl (hb hby at_113) rfl k_
    refine Go.k 116 [(.long p3), (.int b3), (.long p2), (.int b1), (.int b1)] ?_ fun _ k_ => XT.lloadN X5.here hx rfl (hb hby at_115) rfl k_
    refine Go.k 118 [(.int b2), (.long p3), (.int b3), (.long p2), (.int b1), (.int b1)] ?_ fun _ k_ => XS.iload X5.here hx rfl (hb hby at_116) rfl k_
    refine Go.k 120 [(.long p4), (.int b2), (.long p3), (.int b3), (.long p2), (.int b1), (.int b1)] ?_ fun _ k_ => XT.lload X5.here hx rfl (hb hby at_118) rfl k_
    refine Go.callS X5 hx hZ hown (wq hw 30 rfl) (wq hw 31 rfl) (wq hw 32 rfl) (wq hw 33 rfl) (by decide) (rexp l Z a0 hw [] b1 b1 p2 b3 p3 b2 p4  T5.heap n0 (Nat.le_trans (Nat.le_trans (Nat.le_trans (Nat.le_trans (Nat.le_trans Z0 E1.1) S2) S3) S4) S5) ) rfl (by decide) (W := 0) (by decide) (by decide) (by decide) (g := (mkF m 120 #[(sI p1), (sJ p2), .second, (sJ p3), .second, (sJ p4), .second, (sI p5), (sI p6), (sI b1), (sI b3), (sI (p5 &&& (3 : Int32))), (sI b2), (sI fr), (sR na1), .unset, .unset, .unset, .unset, .unset, .unset, .unset, .unset, .unset, .unset, .unset, .unset, .unset, .unset, .unset] [(.long p4), (.int b2), (.long p3), (.int b3), (.long p2), (.int b1), (.int b1)])) (rest := []) rfl (by rw [hml]; rfl) (lenOf pd__IIJIJIJ_J rfl) rfl (by show 2 * 0 + _ ≤ _; exact Nat.le_of_eq rfl) (hb hby at_120) ?_
    rintro v6 T6 L6 X6 ⟨rfl, N6, e6⟩
    have M6 := Fr.app M5 N6
    rw [hE b1 (by omega)]
    show Go p e below _ T6 (mkF m 123 #[(sI p1), (sJ p2), .second, (sJ p3), .second, (sJ p4), .second, (sI p5), (sI p6), (sI b1), (sI b3), (sI (p5 &&& (3 : Int32))), (sI b2), (sI fr), (sR na1), .unset, .unset, .unset, .unset, .unset, .unset, .unset, .unset, .unset, .unset, .unset, .unset, .unset, .unset, .unset] [(.long (FF b1.toNatClampNeg))])
    refine Go.s (g' := (mkF m 125 #[(sI p1), (sJ p2), .second, (sJ p3), .second, (sJ p4), .second, (sI p5), (sI p6), (sI b1), (sI b3), (sI (p5 &&& (3 : Int32))), (sI b2), (sI fr), (sR na1), (sJ (FF b1.toNatClampNeg)), .second, .unset, .unset, .unset, .unset, .unset, .unset, .unset, .unset, .unset, .unset, .unset, .unset, .unset] [])) ?_ fun _ k_ => XT.lstore X6.here hx rfl (hb hby at_123) rfl (l' := #[(sI p1), (sJ p2), .second, (sJ p3), .second, (sJ p4), .second, (sI p5), (sI p6), (sI b1), (sI b3), (sI (p5 &&& (3 : Int32))), (sI b2), (sI fr), (sR na1), (sJ (FF b1.toNatClampNeg)), .second, .unset, .unset, .unset, .unset, .unset, .unset, .unset, .unset, .unset, .unset, .unset, .unset, .unset]) rfl k_
    refine Go.k 127 [(.int b3)] ?_ fun _ k_ => XS.iload X6.here hx rfl (hb hby at_125) rfl k_
    refine Go.k 129 [(.int b1), (.int b3)] ?_ fun _ k_ => XS.iload X6.here hx rfl (hb hby at_127) rfl k_
    refine Go.k 130 [(.long p2), (.int b1), (.int b3)] ?_ fun _ k_ => XT.lloadN X6.here hx rfl (hb hby at_129) rfl k_
    refine Go.k 132 [(.int b3), (.long p2), (.int b1), (.int b3)] ?_ fun _ k_ => XS.iload X6.here hx rfl (hb hby at_130) rfl k_
    refine Go.k 133 [(.long p3), (.int b3), (.long p2), (.int b1), (.int b3)] ?_ fun _ k_ => XT.lloadN X6.here hx rfl (hb hby at_132) rfl k_
    refine Go.k 135 [(.int b2), (.long p3), (.int b3), (.long p2), (.int b1), (.int b3)] ?_ fun _ k_ => XS.iload X6.here hx rfl (hb hby at_133) rfl k_
    refine Go.k 137 [(.long p4), (.int b2), (.long p3), (.int b3), (.long p2), (.int b1), (.int b3)] ?_ fun _ k_ => XT.lload X6.here hx rfl (hb hby at_135) rfl k_
    refine Go.callS X6 hx hZ hown (wq hw 30 rfl) (wq hw 31 rfl) (wq hw 32 rfl) (wq hw 33 rfl) (by decide) (rexp l Z a0 hw [] b3 b1 p2 b3 p3 b2 p4  T5.heap n0 (Nat.le_trans (Nat.le_trans (Nat.le_trans (Nat.le_trans (Nat.le_trans Z0 E1.1) S2) S3) S4) S5) ) e6 (by decide) (W := 0) (by decide) (by decide) (by decide) (g := (mkF m 137 #[(sI p1), (sJ p2), .second, (sJ p3), .second, (sJ p4), .second, (sI p5), (sI p6), (sI b1), (sI b3), (sI (p5 &&& (3 : Int32))), (sI b2), (sI fr), (sR na1), (sJ (FF b1.toNatClampNeg)), .second, .unset, .unset, .unset, .unset, .unset, .unset, .unset, .unset, .unset, .unset, .unset, .unset, .unset] [(.long p4), (.int b2), (.long p3), (.int b3), (.long p2), (.int b1), (.int b3)])) (rest := []) rfl (by rw [hml]; rfl) (lenOf pd__IIJIJIJ_J rfl) rfl (by show 2 * 0 + _ ≤ _; exact Nat.le_of_eq rfl) (hb hby at_137) ?_
    rintro v7 T7 L7 X7 ⟨rfl, N7, e7⟩
    have M7 := Fr.app M6 N7
    rw [hE b3 (by omega)]
    show Go p e below _ T7 (mkF m 140 #[(sI p1), (sJ p2), .second, (sJ p3), .second, (sJ p4), .second, (sI p5), (sI p6), (sI b1), (sI b3), (sI (p5 &&& (3 : Int32))), (sI b2), (sI fr), (sR na1), (sJ (FF b1.toNatClampNeg)), .second, .unset, .unset, .unset, .unset, .unset, .unset, .unset, .unset, .unset, .unset, .unset, .unset, .unset] [(.long (FF b3.toNatClampNeg))])
    refine Go.s (g' := (mkF m 142 #[(sI p1), (sJ p2), .second, (sJ p3), .second, (sJ p4), .second, (sI p5), (sI p6), (sI b1), (sI b3), (sI (p5 &&& (3 : Int32))), (sI b2), (sI fr), (sR na1), (sJ (FF b1.toNatClampNeg)), .second, (sJ (FF b3.toNatClampNeg)), .second, .unset, .unset, .unset, .unset, .unset, .unset, .unset, .unset, .unset, .unset, .unset] [])) ?_ fun _ k_ => XT.lstore X7.here hx rfl (hb hby at_140) rfl (l' := #[(sI p1), (sJ p2), .second, (sJ p3), .second, (sJ p4), .second, (sI p5), (sI p6), (sI b1), (sI b3), (sI (p5 &&& (3 : Int32))), (sI b2), (sI fr), (sR na1), (sJ (FF b1.toNatClampNeg)), .second, (sJ (FF b3.toNatClampNeg)), .second, .unset, .unset, .unset, .unset, .unset, .unset, .unset, .unset, .unset, .unset, .unset]) rfl k_
    refine Go.k 144 [(.int b2)] ?_ fun _ k_ => XS.iload X7.here hx rfl (hb hby at_142) rfl k_
    refine Go.k 146 [(.int b1), (.int b2)] ?_ fun _ k_ => XS.iload X7.here hx rfl (hb hby at_144) rfl k_
    refine Go.k 147 [(.long p2), (.int b1), (.int b2)] ?_ fun _ k_ => XT.lloadN X7.here hx rfl (hb hby at_146) rfl k_
    refine Go.k 149 [(.int b3), (.long p2), (.int b1), (.int b2)] ?_ fun _ k_ => XS.iload X7.here hx rfl (hb hby at_147) rfl k_
    refine Go.k 150 [(.long p3), (.int b3), (.long p2), (.int b1), (.int b2)] ?_ fun _ k_ => XT.lloadN X7.here hx rfl (hb hby at_149) rfl k_
    refine Go.k 152 [(.int b2), (.long p3), (.int b3), (.long p2), (.int b1), (.int b2)] ?_ fun _ k_ => XS.iload X7.here hx rfl (hb hby at_150) rfl k_
    refine Go.k 154 [(.long p4), (.int b2), (.long p3), (.int b3), (.long p2), (.int b1), (.int b2)] ?_ fun _ k_ => XT.lload X7.here hx rfl (hb hby at_152) rfl k_
    refine Go.callS X7 hx hZ hown (wq hw 30 rfl) (wq hw 31 rfl) (wq hw 32 rfl) (wq hw 33 rfl) (by decide) (rexp l Z a0 hw [] b2 b1 p2 b3 p3 b2 p4  T5.heap n0 (Nat.le_trans (Nat.le_trans (Nat.le_trans (Nat.le_trans (Nat.le_trans Z0 E1.1) S2) S3) S4) S5) ) e7 (by decide) (W := 0) (by decide) (by decide) (by decide) (g := (mkF m 154 #[(sI p1), (sJ p2), .second, (sJ p3), .second, (sJ p4), .second, (sI p5), (sI p6), (sI b1), (sI b3), (sI (p5 &&& (3 : Int32))), (sI b2), (sI fr), (sR na1), (sJ (FF b1.toNatClampNeg)), .second, (sJ (FF b3.toNatClampNeg)), .second, .unset, .unset, .unset, .unset, .unset, .unset, .unset, .unset, .unset, .unset, .unset] [(.long p4), (.int b2), (.long p3), (.int b3), (.long p2), (.int b1), (.int b2)])) (rest := []) rfl (by rw [hml]; rfl) (lenOf pd__IIJIJIJ_J rfl) rfl (by show 2 * 0 + _ ≤ _; exact Nat.le_of_eq rfl) (hb hby at_154) ?_
    rintro v8 T8 L8 X8 ⟨rfl, N8, e8⟩
    have M8 := Fr.app M7 N8
    rw [hE b2 (by omega)]
    show Go p e below _ T8 (mkF m 157 #[(sI p1), (sJ p2), .second, (sJ p3), .second, (sJ p4), .second, (sI p5), (sI p6), (sI b1), (sI b3), (sI (p5 &&& (3 : Int32))), (sI b2), (sI fr), (sR na1), (sJ (FF b1.toNatClampNeg)), .second, (sJ (FF b3.toNatClampNeg)), .second, .unset, .unset, .unset, .unset, .unset, .unset, .unset, .unset, .unset, .unset, .unset] [(.long (FF b2.toNatClampNeg))])
    refine Go.s (g' := (mkF m 159 #[(sI p1), (sJ p2), .second, (sJ p3), .second, (sJ p4), .second, (sI p5), (sI p6), (sI b1), (sI b3), (sI (p5 &&& (3 : Int32))), (sI b2), (sI fr), (sR na1), (sJ (FF b1.toNatClampNeg)), .second, (sJ (FF b3.toNatClampNeg)), .second, (sJ (FF b2.toNatClampNeg)), .second, .unset, .unset, .unset, .unset, .unset, .unset, .unset, .unset, .unset] [])) ?_ fun _ k_ => XT.lstore X8.here hx rfl (hb hby at_157) rfl (l' := #[(sI p1), (sJ p2), .second, (sJ p3), .second, (sJ p4), .second, (sI p5), (sI p6), (sI b1), (sI b3), (sI (p5 &&& (3 : Int32))), (sI b2), (sI fr), (sR na1), (sJ (FF b1.toNatClampNeg)), .second, (sJ (FF b3.toNatClampNeg)), .second, (sJ (FF b2.toNatClampNeg)), .second, .unset, .unset, .unset, .unset, .unset, .unset, .unset, .unset, .unset]) rfl k_
    refine Go.k 161 [(.ref na1)] ?_ fun _ k_ => XS.aload X8.here hx rfl (hb hby at_159) rfl rfl k_
    refine Go.k 163 [(.int b1), (.ref na1)] ?_ fun _ k_ => XS.iload X8.here hx rfl (hb hby at_161) rfl k_
    refine Go.callV X8 hx hZ hown (wq hw 35 rfl) (wq hw 36 rfl) (wq hw 38 rfl) (wq hw 37 rfl) (wq hw 3 rfl) (wq hw 39 rfl) (by decide) HW5.1 (blk l Z a0 hw [] na1 lv kL y0_4 y1_4 y2_4 y3_4 y4_4 u0_4 u1_4 u2_4 u3_4 u4_4 FF g1_5 g2_5 g3_5 g4_5 b1 T5.heap n0 (Nat.le_trans (Nat.le_trans (Nat.le_trans (Nat.le_trans (Nat.le_trans Z0 E1.1) S2) S3) S4) S5) HW5 a_b1) e8 (by decide) (W := 0) (by decide) (by decide) (by decide) (g := (mkF m 163 #[(sI p1), (sJ p2), .second, (sJ p3), .second, (sJ p4), .second, (sI p5), (sI p6), (sI b1), (sI b3), (sI (p5 &&& (3 : Int32))), (sI b2), (sI fr), (sR na1), (sJ (FF b1.toNatClampNeg)), .second, (sJ (FF b3.toNatClampNeg)), .second, (sJ (FF b2.toNatClampNeg)), .second, .unset, .unset, .unset, .unset, .unset, .unset, .unset, .unset, .unset] [(.int b1), (.ref na1)])) (rest := []) rfl (by rw [hml]; rfl) (lenOf pd__I_J rfl) rfl (by show 2 * 0 + _ ≤ _; exact Nat.le_of_eq rfl) (hb hby at_163) ?_
    rintro v9 T9 L9 X9 ⟨rfl, N9, e9⟩
    have M9 := Fr.app M8 N9
    show Go p e below _ T9 (mkF m 166 #[(sI p1), (sJ p2), .second, (sJ p3), .second, (sJ p4), .second, (sI p5), (sI p6), (sI b1), (sI b3), (sI (p5 &&& (3 : Int32))), (sI b2), (sI fr), (sR na1), (sJ (FF b1.toNatClampNeg)), .second, (sJ (FF b3.toNatClampNeg)), .second, (sJ (FF b2.toNatClampNeg)), .second, .unset, .unset, .unset, .unset, .unset, .unset, .unset, .unset, .unset] [(.long (FF b1.toNatClampNeg))])
    refine Go.k 168 [(.long (FF b1.toNatClampNeg)), (.long (FF b1.toNatClampNeg))] ?_ fun _ k_ => XT.lload X9.here hx rfl (hb hby at_166) rfl k_
    refine Go.k 169 [(.int (lcmpW (FF b1.toNatClampNeg) (FF b1.toNatClampNeg)))] ?_ fun _ k_ => XT.lcmp X9.here hx rfl (hb hby at_168) rfl k_
    refine Go.k 172 [] ?_ fun _ k_ => XS.ifNo X9.here hx rfl (hb hby at_169) rfl ((if0 _ _).trans (teq ((lw_eq _ _).mpr (rfl : (FF b1.toNatClampNeg) = (FF b1.toNatClampNeg)))).2) k_
    refine Go.k 174 [(.ref na1)] ?_ fun _ k_ => XS.aload X9.here hx rfl (hb hby at_172) rfl rfl k_
    refine Go.k 176 [(.int b3), (.ref na1)] ?_ fun _ k_ => XS.iload X9.here hx rfl (hb hby at_174) rfl k_
    refine Go.callV X9 hx hZ hown (wq hw 35 rfl) (wq hw 36 rfl) (wq hw 38 rfl) (wq hw 37 rfl) (wq hw 3 rfl) (wq hw 39 rfl) (by decide) HW5.1 (blk l Z a0 hw [] na1 lv kL y0_4 y1_4 y2_4 y3_4 y4_4 u0_4 u1_4 u2_4 u3_4 u4_4 FF g1_5 g2_5 g3_5 g4_5 b3 T5.heap n0 (Nat.le_trans (Nat.le_trans (Nat.le_trans (Nat.le_trans (Nat.le_trans Z0 E1.1) S2) S3) S4) S5) HW5 a_b3) e9 (by decide) (W := 0) (by decide) (by decide) (by decide) (g := (mkF m 176 #[(sI p1), (sJ p2), .second, (sJ p3), .second, (sJ p4), .second, (sI p5), (sI p6), (sI b1), (sI b3), (sI (p5 &&& (3 : Int32))), (sI b2), (sI fr), (sR na1), (sJ (FF b1.toNatClampNeg)), .second, (sJ (FF b3.toNatClampNeg)), .second, (sJ (FF b2.toNatClampNeg)), .second, .unset, .unset, .unset, .unset, .unset, .unset, .unset, .unset, .unset] [(.int b3), (.ref na1)])) (rest := []) rfl (by rw [hml]; rfl) (lenOf pd__I_J rfl) rfl (by show 2 * 0 + _ ≤ _; exact Nat.le_of_eq rfl) (hb hby at_176) ?_
    rintro v10 T10 L10 X10 ⟨rfl, N10, e10⟩
    have M10 := Fr.app M9 N10
    show Go p e below _ T10 (mkF m 179 #[(sI p1), (sJ p2), .second, (sJ p3), .second, (sJ p4), .second, (sI p5), (sI p6), (sI b1), (sI b3), (sI (p5 &&& (3 : Int32))), (sI b2), (sI fr), (sR na1), (sJ (FF b1.toNatClampNeg)), .second, (sJ (FF b3.toNatClampNeg)), .second, (sJ (FF b2.toNatClampNeg)), .second, .unset, .unset, .unset, .unset, .unset, .unset, .unset, .unset, .unset] [(.long (FF b3.toNatClampNeg))])
    refine Go.k 181 [(.long (FF b3.toNatClampNeg)), (.long (FF b3.toNatClampNeg))] ?_ fun _ k_ => XT.lload X10.here hx rfl (hb hby at_179) rfl k_
    refine Go.k 182 [(.int (lcmpW (FF b3.toNatClampNeg) (FF b3.toNatClampNeg)))] ?_ fun _ k_ => XT.lcmp X10.here hx rfl (hb hby at_181) rfl k_
    refine Go.k 185 [] ?_ fun _ k_ => XS.ifNo X10.here hx rfl (hb hby at_182) rfl ((if0 _ _).trans (teq ((lw_eq _ _).mpr (rfl : (FF b3.toNatClampNeg) = (FF b3.toNatClampNeg)))).2) k_
    refine Go.k 187 [(.ref na1)] ?_ fun _ k_ => XS.aload X10.here hx rfl (hb hby at_185) rfl rfl k_
    refine Go.k 189 [(.int b2), (.ref na1)] ?_ fun _ k_ => XS.iload X10.here hx rfl (hb hby at_187) rfl k_
    refine Go.callV X10 hx hZ hown (wq hw 35 rfl) (wq hw 36 rfl) (wq hw 38 rfl) (wq hw 37 rfl) (wq hw 3 rfl) (wq hw 39 rfl) (by decide) HW5.1 (blk l Z a0 hw [] na1 lv kL y0_4 y1_4 y2_4 y3_4 y4_4 u0_4 u1_4 u2_4 u3_4 u4_4 FF g1_5 g2_5 g3_5 g4_5 b2 T5.heap n0 (Nat.le_trans (Nat.le_trans (Nat.le_trans (Nat.le_trans (Nat.le_trans Z0 E1.1) S2) S3) S4) S5) HW5 a_b2) e10 (by decide) (W := 0) (by decide) (by decide) (by decide) (g := (mkF m 189 #[(sI p1), (sJ p2), .second, (sJ p3), .second, (sJ p4), .second, (sI p5), (sI p6), (sI b1), (sI b3), (sI (p5 &&& (3 : Int32))), (sI b2), (sI fr), (sR na1), (sJ (FF b1.toNatClampNeg)), .second, (sJ (FF b3.toNatClampNeg)), .second, (sJ (FF b2.toNatClampNeg)), .second, .unset, .unset, .unset, .unset, .unset, .unset, .unset, .unset, .unset] [(.int b2), (.ref na1)])) (rest := []) rfl (by rw [hml]; rfl) (lenOf pd__I_J rfl) rfl (by show 2 * 0 + _ ≤ _; exact Nat.le_of_eq rfl) (hb hby at_189) ?_
    rintro v11 T11 L11 X11 ⟨rfl, N11, e11⟩
    have M11 := Fr.app M10 N11
    show Go p e below _ T11 (mkF m 192 #[(sI p1), (sJ p2), .second, (sJ p3), .second, (sJ p4), .second, (sI p5), (sI p6), (sI b1), (sI b3), (sI (p5 &&& (3 : Int32))), (sI b2), (sI fr), (sR na1), (sJ (FF b1.toNatClampNeg)), .second, (sJ (FF b3.toNatClampNeg)), .second, (sJ (FF b2.toNatClampNeg)), .second, .unset, .unset, .unset, .unset, .unset, .unset, .unset, .unset, .unset] [(.long (FF b2.toNatClampNeg))])
    refine Go.k 194 [(.long (FF b2.toNatClampNeg)), (.long (FF b2.toNatClampNeg))] ?_ fun _ k_ => XT.lload X11.here hx rfl (hb hby at_192) rfl k_
    refine Go.k 195 [(.int (lcmpW (FF b2.toNatClampNeg) (FF b2.toNatClampNeg)))] ?_ fun _ k_ => XT.lcmp X11.here hx rfl (hb hby at_194) rfl k_
    refine Go.k 198 [] ?_ fun _ k_ => XS.ifNo X11.here hx rfl (hb hby at_195) rfl ((if0 _ _).trans (teq ((lw_eq _ _).mpr (rfl : (FF b2.toNatClampNeg) = (FF b2.toNatClampNeg)))).2) k_
    refine Go.k 199 [(.int (1 : Int32))] ?_ fun _ k_ => XT.iconstV X11.here hx rfl (1 : Int32) (hb hby at_198) (by decide) k_
    refine Go.k 203 [(.int (1 : Int32))] ?_ fun _ k_ => XS.goto X11.here hx rfl (pc0 := 199) (pc' := 203) rfl (hb hby at_199) (by decide) (by decide) k_
    refine Go.s (g' := (mkF m 205 #[(sI p1), (sJ p2), .second, (sJ p3), .second, (sJ p4), .second, (sI p5), (sI p6), (sI b1), (sI b3), (sI (p5 &&& (3 : Int32))), (sI b2), (sI fr), (sR na1), (sJ (FF b1.toNatClampNeg)), .second, (sJ (FF b3.toNatClampNeg)), .second, (sJ (FF b2.toNatClampNeg)), .second, (sI (1 : Int32)), .unset, .unset, .unset, .unset, .unset, .unset, .unset, .unset] [])) ?_ fun _ k_ => XS.istore X11.here hx rfl (hb hby at_203) rfl (l' := #[(sI p1), (sJ p2), .second, (sJ p3), .second, (sJ p4), .second, (sI p5), (sI p6), (sI b1), (sI b3), (sI (p5 &&& (3 : Int32))), (sI b2), (sI fr), (sR na1), (sJ (FF b1.toNatClampNeg)), .second, (sJ (FF b3.toNatClampNeg)), .second, (sJ (FF b2.toNatClampNeg)), .second, (sI (1 : Int32)), .unset, .unset, .unset, .unset, .unset, .unset, .unset, .unset]) rfl k_
    refine Go.k 207 [(.ref na1)] ?_ fun _ k_ => XS.aload X11.here hx rfl (hb hby at_205) rfl rfl k_
    refine Go.k 209 [(.int fr), (.ref na1)] ?_ fun _ k_ => XS.iload X11.here hx rfl (hb hby at_207) rfl k_
    refine Go.callV X11 hx hZ hown (wq hw 40 rfl) (wq hw 41 rfl) (wq hw 43 rfl) (wq hw 42 rfl) (wq hw 3 rfl) (wq hw 44 rfl) (by decide) HW5.1 (nxt l Z a0 hw [] na1 lv kL y0_4 y1_4 y2_4 y3_4 y4_4 u0_4 u1_4 u2_4 u3_4 u4_4 FF g1_5 g2_5 g3_5 g4_5 fr T5.heap n0 (Nat.le_trans (Nat.le_trans (Nat.le_trans (Nat.le_trans (Nat.le_trans Z0 E1.1) S2) S3) S4) S5) HW5 HC4 a_fr b_fr HP5) e11 (by decide) (W := 0) (by decide) (by decide) (by decide) (g := (mkF m 209 #[(sI p1), (sJ p2), .second, (sJ p3), .second, (sJ p4), .second, (sI p5), (sI p6), (sI b1), (sI b3), (sI (p5 &&& (3 : Int32))), (sI b2), (sI fr), (sR na1), (sJ (FF b1.toNatClampNeg)), .second, (sJ (FF b3.toNatClampNeg)), .second, (sJ (FF b2.toNatClampNeg)), .second, (sI (1 : Int32)), .unset, .unset, .unset, .unset, .unset, .unset, .unset, .unset] [(.int fr), (.ref na1)])) (rest := []) rfl (by rw [hml]; rfl) (lenOf pd__I_I rfl) rfl (by show 2 * 0 + _ ≤ _; exact Nat.le_of_eq rfl) (hb hby at_209) ?_
    rintro v12 T12 L12 X12 ⟨r, rfl, N12, e12, hr⟩
    have M12 := Fr.app M11 N12
    show Go p e below _ T12 (mkF m 212 #[(sI p1), (sJ p2), .second, (sJ p3), .second, (sJ p4), .second, (sI p5), (sI p6), (sI b1), (sI b3), (sI (p5 &&& (3 : Int32))), (sI b2), (sI fr), (sR na1), (sJ (FF b1.toNatClampNeg)), .second, (sJ (FF b3.toNatClampNeg)), .second, (sJ (FF b2.toNatClampNeg)), .second, (sI (1 : Int32)), .unset, .unset, .unset, .unset, .unset, .unset, .unset, .unset] [(.int r)])
    refine Go.s (g' := (mkF m 214 #[(sI p1), (sJ p2), .second, (sJ p3), .second, (sJ p4), .second, (sI p5), (sI p6), (sI b1), (sI b3), (sI (p5 &&& (3 : Int32))), (sI b2), (sI fr), (sR na1), (sJ (FF b1.toNatClampNeg)), .second, (sJ (FF b3.toNatClampNeg)), .second, (sJ (FF b2.toNatClampNeg)), .second, (sI (1 : Int32)), (sI r), .unset, .unset, .unset, .unset, .unset, .unset, .unset] [])) ?_ fun _ k_ => XS.istore X12.here hx rfl (hb hby at_212) rfl (l' := #[(sI p1), (sJ p2), .second, (sJ p3), .second, (sJ p4), .second, (sI p5), (sI p6), (sI b1), (sI b3), (sI (p5 &&& (3 : Int32))), (sI b2), (sI fr), (sR na1), (sJ (FF b1.toNatClampNeg)), .second, (sJ (FF b3.toNatClampNeg)), .second, (sJ (FF b2.toNatClampNeg)), .second, (sI (1 : Int32)), (sI r), .unset, .unset, .unset, .unset, .unset, .unset, .unset]) rfl k_
    rcases hr with ⟨rfl, hn⟩ | ⟨q1, q2, q3, q4, q5⟩
    · skip
      refine Go.k 217 [(.long (1099511627776 : Int64))] ?_ fun _ k_ => X12.ldc2J hx hown (mvT hZ (wq hw 54 rfl)) rfl (hb hby at_214) k_
      refine Go.s (g' := (mkF m 219 #[(sI p1), (sJ p2), .second, (sJ p3), .second, (sJ p4), .second, (sI p5), (sI p6), (sI b1), (sI b3), (sI (p5 &&& (3 : Int32))), (sI b2), (sI fr), (sR na1), (sJ (FF b1.toNatClampNeg)), .second, (sJ (FF b3.toNatClampNeg)), .second, (sJ (FF b2.toNatClampNeg)), .second, (sI (1 : Int32)), (sI (-1 : Int32)), (sJ (1099511627776 : Int64)), .second, .unset, .unset, .unset, .unset, .unset] [])) ?_ fun _ k_ => XT.lstore X12.here hx rfl (hb hby at_217) rfl (l' := #[(sI p1), (sJ p2), .second, (sJ p3), .second, (sJ p4), .second, (sI p5), (sI p6), (sI b1), (sI b3), (sI (p5 &&& (3 : Int32))), (sI b2), (sI fr), (sR na1), (sJ (FF b1.toNatClampNeg)), .second, (sJ (FF b3.toNatClampNeg)), .second, (sJ (FF b2.toNatClampNeg)), .second, (sI (1 : Int32)), (sI (-1 : Int32)), (sJ (1099511627776 : Int64)), .second, .unset, .unset, .unset, .unset, .unset]) rfl k_
      refine Go.k 221 [(.int b1)] ?_ fun _ k_ => XS.iload X12.here hx rfl (hb hby at_219) rfl k_
      refine Go.k 223 [(.long (FF b1.toNatClampNeg)), (.int b1)] ?_ fun _ k_ => XT.lload X12.here hx rfl (hb hby at_221) rfl k_
      refine Go.k 225 [(.int fr), (.long (FF b1.toNatClampNeg)), (.int b1)] ?_ fun _ k_ => XS.iload X12.here hx rfl (hb hby at_223) rfl k_
      refine Go.k 226 [(.long fr.toInt64), (.long (FF b1.toNatClampNeg)), (.int b1)] ?_ fun _ k_ => XT.i2l X12.here hx rfl (hb hby at_225) rfl k_
      refine Go.k 228 [(.long (1099511627776 : Int64)), (.long fr.toInt64), (.long (FF b1.toNatClampNeg)), (.int b1)] ?_ fun _ k_ => XT.lload X12.here hx rfl (hb hby at_226) rfl k_
      refine Go.callS X12 hx hZ hown (wq hw 55 rfl) (wq hw 56 rfl) (wq hw 32 rfl) (wq hw 57 rfl) (by decide) (rany l Z a0 hw [] b1 (FF b1.toNatClampNeg) fr.toInt64 (1099511627776 : Int64)  T5.heap n0 (Nat.le_trans (Nat.le_trans (Nat.le_trans (Nat.le_trans (Nat.le_trans Z0 E1.1) S2) S3) S4) S5) ) e12 (by decide) (W := 0) (by decide) (by decide) (by decide) (g := (mkF m 228 #[(sI p1), (sJ p2), .second, (sJ p3), .second, (sJ p4), .second, (sI p5), (sI p6), (sI b1), (sI b3), (sI (p5 &&& (3 : Int32))), (sI b2), (sI fr), (sR na1), (sJ (FF b1.toNatClampNeg)), .second, (sJ (FF b3.toNatClampNeg)), .second, (sJ (FF b2.toNatClampNeg)), .second, (sI (1 : Int32)), (sI (-1 : Int32)), (sJ (1099511627776 : Int64)), .second, .unset, .unset, .unset, .unset, .unset] [(.long (1099511627776 : Int64)), (.long fr.toInt64), (.long (FF b1.toNatClampNeg)), (.int b1)])) (rest := []) rfl (by rw [hml]; rfl) (lenOf pd__IJJJ_Z rfl) rfl (by show 2 * 0 + _ ≤ _; exact Nat.le_of_eq rfl) (hb hby at_228) ?_
      rintro v13 T13 L13 X13 ⟨rfl, N13, e13⟩
      have M13 := Fr.app M12 N13
      rw [own_anyN (F := FF) (b := b1) (c_i2l fr) (by decide : (1099511627776 : Int64).toInt = 1099511627776) (by omega) (by omega) (by omega) (by omega) (by omega) fun i_ u_ v_ => hn i_ (by simp only [Int32.toNatClampNeg]; omega)]
      show Go p e below _ T13 (mkF m 231 #[(sI p1), (sJ p2), .second, (sJ p3), .second, (sJ p4), .second, (sI p5), (sI p6), (sI b1), (sI b3), (sI (p5 &&& (3 : Int32))), (sI b2), (sI fr), (sR na1), (sJ (FF b1.toNatClampNeg)), .second, (sJ (FF b3.toNatClampNeg)), .second, (sJ (FF b2.toNatClampNeg)), .second, (sI (1 : Int32)), (sI (-1 : Int32)), (sJ (1099511627776 : Int64)), .second, .unset, .unset, .unset, .unset, .unset] [(.int (0 : Int32))])
      refine Go.k 234 [] ?_ fun _ k_ => XS.ifNo X13.here hx rfl (hb hby at_231) rfl (by decide) k_
      refine Go.k 236 [(.int b3)] ?_ fun _ k_ => XS.iload X13.here hx rfl (hb hby at_234) rfl k_
      refine Go.k 238 [(.long (FF b3.toNatClampNeg)), (.int b3)] ?_ fun _ k_ => XT.lload X13.here hx rfl (hb hby at_236) rfl k_
      refine Go.k 240 [(.int fr), (.long (FF b3.toNatClampNeg)), (.int b3)] ?_ fun _ k_ => XS.iload X13.here hx rfl (hb hby at_238) rfl k_
      refine Go.k 241 [(.long fr.toInt64), (.long (FF b3.toNatClampNeg)), (.int b3)] ?_ fun _ k_ => XT.i2l X13.here hx rfl (hb hby at_240) rfl k_
      refine Go.k 243 [(.long (1099511627776 : Int64)), (.long fr.toInt64), (.long (FF b3.toNatClampNeg)), (.int b3)] ?_ fun _ k_ => XT.lload X13.here hx rfl (hb hby at_241) rfl k_
      refine Go.callS X13 hx hZ hown (wq hw 55 rfl) (wq hw 56 rfl) (wq hw 32 rfl) (wq hw 57 rfl) (by decide) (rany l Z a0 hw [] b3 (FF b3.toNatClampNeg) fr.toInt64 (1099511627776 : Int64)  T5.heap n0 (Nat.le_trans (Nat.le_trans (Nat.le_trans (Nat.le_trans (Nat.le_trans Z0 E1.1) S2) S3) S4) S5) ) e13 (by decide) (W := 0) (by decide) (by decide) (by decide) (g := (mkF m 243 #[(sI p1), (sJ p2), .second, (sJ p3), .second, (sJ p4), .second, (sI p5), (sI p6), (sI b1), (sI b3), (sI (p5 &&& (3 : Int32))), (sI b2), (sI fr), (sR na1), (sJ (FF b1.toNatClampNeg)), .second, (sJ (FF b3.toNatClampNeg)), .second, (sJ (FF b2.toNatClampNeg)), .second, (sI (1 : Int32)), (sI (-1 : Int32)), (sJ (1099511627776 : Int64)), .second, .unset, .unset, .unset, .unset, .unset] [(.long (1099511627776 : Int64)), (.long fr.toInt64), (.long (FF b3.toNatClampNeg)), (.int b3)])) (rest := []) rfl (by rw [hml]; rfl) (lenOf pd__IJJJ_Z rfl) rfl (by show 2 * 0 + _ ≤ _; exact Nat.le_of_eq rfl) (hb hby at_243) ?_
      rintro v14 T14 L14 X14 ⟨rfl, N14, e14⟩
      have M14 := Fr.app M13 N14
      rw [own_anyN (F := FF) (b := b3) (c_i2l fr) (by decide : (1099511627776 : Int64).toInt = 1099511627776) (by omega) (by omega) (by omega) (by omega) (by omega) fun i_ u_ v_ => hn i_ (by simp only [Int32.toNatClampNeg]; omega)]
      show Go p e below _ T14 (mkF m 246 #[(sI p1), (sJ p2), .second, (sJ p3), .second, (sJ p4), .second, (sI p5), (sI p6), (sI b1), (sI b3), (sI (p5 &&& (3 : Int32))), (sI b2), (sI fr), (sR na1), (sJ (FF b1.toNatClampNeg)), .second, (sJ (FF b3.toNatClampNeg)), .second, (sJ (FF b2.toNatClampNeg)), .second, (sI (1 : Int32)), (sI (-1 : Int32)), (sJ (1099511627776 : Int64)), .second, .unset, .unset, .unset, .unset, .unset] [(.int (0 : Int32))])
      refine Go.k 253 [] ?_ fun _ k_ => XS.ifYes X14.here hx rfl (pc0 := 246) (pc' := 253) rfl (hb hby at_246) rfl (by decide) (by decide) (by decide) k_
      refine Go.k 254 [(.int (0 : Int32))] ?_ fun _ k_ => XT.iconstV X14.here hx rfl (0 : Int32) (hb hby at_253) (by decide) k_
      refine Go.s (g' := (mkF m 256 #[(sI p1), (sJ p2), .second, (sJ p3), .second, (sJ p4), .second, (sI p5), (sI p6), (sI b1), (sI b3), (sI (p5 &&& (3 : Int32))), (sI b2), (sI fr), (sR na1), (sJ (FF b1.toNatClampNeg)), .second, (sJ (FF b3.toNatClampNeg)), .second, (sJ (FF b2.toNatClampNeg)), .second, (sI (1 : Int32)), (sI (-1 : Int32)), (sJ (1099511627776 : Int64)), .second, (sI (0 : Int32)), .unset, .unset, .unset, .unset] [])) ?_ fun _ k_ => XS.istore X14.here hx rfl (hb hby at_254) rfl (l' := #[(sI p1), (sJ p2), .second, (sJ p3), .second, (sJ p4), .second, (sI p5), (sI p6), (sI b1), (sI b3), (sI (p5 &&& (3 : Int32))), (sI b2), (sI fr), (sR na1), (sJ (FF b1.toNatClampNeg)), .second, (sJ (FF b3.toNatClampNeg)), .second, (sJ (FF b2.toNatClampNeg)), .second, (sI (1 : Int32)), (sI (-1 : Int32)), (sJ (1099511627776 : Int64)), .second, (sI (0 : Int32)), .unset, .unset, .unset, .unset]) rfl k_
      refine Go.k 258 [(.int (0 : Int32))] ?_ fun _ k_ => XS.iload X14.here hx rfl (hb hby at_256) rfl k_
      refine Go.k 261 [] ?_ fun _ k_ => XS.ifNo X14.here hx rfl (hb hby at_258) rfl (by decide) k_
      refine Go.k 263 [(.int (1 : Int32))] ?_ fun _ k_ => XS.iload X14.here hx rfl (hb hby at_261) rfl k_
      refine Go.k 266 [] ?_ fun _ k_ => XS.ifNo X14.here hx rfl (hb hby at_263) rfl (by decide) k_
      refine Go.k 268 [(.int (-1 : Int32))] ?_ fun _ k_ => XS.iload X14.here hx rfl (hb hby at_266) rfl k_
      refine Go.k 269 [(.int (-1 : Int32)), (.int (-1 : Int32))] ?_ fun _ k_ => XT.iconstV X14.here hx rfl (-1 : Int32) (hb hby at_268) (by decide) k_
      refine Go.k 272 [] ?_ fun _ k_ => XS.icmpNo X14.here hx rfl (hb hby at_269) rfl (by decide) k_
      refine Go.k 273 [(.int (1 : Int32))] ?_ fun _ k_ => XT.iconstV X14.here hx rfl (1 : Int32) (hb hby at_272) (by decide) k_
      refine Go.k 277 [(.int (1 : Int32))] ?_ fun _ k_ => XS.goto X14.here hx rfl (pc0 := 273) (pc' := 277) rfl (hb hby at_273) (by decide) (by decide) k_
      exact Go.retV (t := .boolean) X14 hx hret hlk (by decide) (by decide) rfl (Or.inl ⟨rfl, Or.inr (Or.inl rfl), _, rfl⟩) (hb hby at_277) ⟨rfl, M14⟩
    · have hfr : fr.toInt ≤ r.toInt := by simp only [Int32.toNatClampNeg] at q1; omega
      refine Go.k 217 [(.long (1099511627776 : Int64))] ?_ fun _ k_ => X12.ldc2J hx hown (mvT hZ (wq hw 54 rfl)) rfl (hb hby at_214) k_
      refine Go.s (g' := (mkF m 219 #[(sI p1), (sJ p2), .second, (sJ p3), .second, (sJ p4), .second, (sI p5), (sI p6), (sI b1), (sI b3), (sI (p5 &&& (3 : Int32))), (sI b2), (sI fr), (sR na1), (sJ (FF b1.toNatClampNeg)), .second, (sJ (FF b3.toNatClampNeg)), .second, (sJ (FF b2.toNatClampNeg)), .second, (sI (1 : Int32)), (sI r), (sJ (1099511627776 : Int64)), .second, .unset, .unset, .unset, .unset, .unset] [])) ?_ fun _ k_ => XT.lstore X12.here hx rfl (hb hby at_217) rfl (l' := #[(sI p1), (sJ p2), .second, (sJ p3), .second, (sJ p4), .second, (sI p5), (sI p6), (sI b1), (sI b3), (sI (p5 &&& (3 : Int32))), (sI b2), (sI fr), (sR na1), (sJ (FF b1.toNatClampNeg)), .second, (sJ (FF b3.toNatClampNeg)), .second, (sJ (FF b2.toNatClampNeg)), .second, (sI (1 : Int32)), (sI r), (sJ (1099511627776 : Int64)), .second, .unset, .unset, .unset, .unset, .unset]) rfl k_
      have tail2 : ∀ (T : State) (Lc : List Loc), Stand p l e room_1 s m #[(.int p1), (.long p2), (.long p3), (.long p4), (.int p5), (.int p6)] below meth c T Lc 13 33299 → T.heap = T5.heap → Fr n0 Lc → Go p e below (EndP below s (fun v h L => v = some (.int 1) ∧ Fr n0 L) room_1.cells room_1.slots) T (mkF m 249 #[(sI p1), (sJ p2), .second, (sJ p3), .second, (sJ p4), .second, (sI p5), (sI p6), (sI b1), (sI b3), (sI (p5 &&& (3 : Int32))), (sI b2), (sI fr), (sR na1), (sJ (FF b1.toNatClampNeg)), .second, (sJ (FF b3.toNatClampNeg)), .second, (sJ (FF b2.toNatClampNeg)), .second, (sI (1 : Int32)), (sI r), (sJ (1099511627776 : Int64)), .second, .unset, .unset, .unset, .unset, .unset] []) := by
        intro T Lc Xt eT Nt
        refine Go.k 250 [(.int (1 : Int32))] ?_ fun _ k_ => XT.iconstV Xt.here hx rfl (1 : Int32) (hb hby at_249) (by decide) k_
        refine Go.k 254 [(.int (1 : Int32))] ?_ fun _ k_ => XS.goto Xt.here hx rfl (pc0 := 250) (pc' := 254) rfl (hb hby at_250) (by decide) (by decide) k_
        refine Go.s (g' := (mkF m 256 #[(sI p1), (sJ p2), .second, (sJ p3), .second, (sJ p4), .second, (sI p5), (sI p6), (sI b1), (sI b3), (sI (p5 &&& (3 : Int32))), (sI b2), (sI fr), (sR na1), (sJ (FF b1.toNatClampNeg)), .second, (sJ (FF b3.toNatClampNeg)), .second, (sJ (FF b2.toNatClampNeg)), .second, (sI (1 : Int32)), (sI r), (sJ (1099511627776 : Int64)), .second, (sI (1 : Int32)), .unset, .unset, .unset, .unset] [])) ?_ fun _ k_ => XS.istore Xt.here hx rfl (hb hby at_254) rfl (l' := #[(sI p1), (sJ p2), .second, (sJ p3), .second, (sJ p4), .second, (sI p5), (sI p6), (sI b1), (sI b3), (sI (p5 &&& (3 : Int32))), (sI b2), (sI fr), (sR na1), (sJ (FF b1.toNatClampNeg)), .second, (sJ (FF b3.toNatClampNeg)), .second, (sJ (FF b2.toNatClampNeg)), .second, (sI (1 : Int32)), (sI r), (sJ (1099511627776 : Int64)), .second, (sI (1 : Int32)), .unset, .unset, .unset, .unset]) rfl k_
        refine Go.k 258 [(.int (1 : Int32))] ?_ fun _ k_ => XS.iload Xt.here hx rfl (hb hby at_256) rfl k_
        refine Go.k 278 [] ?_ fun _ k_ => XS.ifYes Xt.here hx rfl (pc0 := 258) (pc' := 278) rfl (hb hby at_258) rfl (by decide) (by decide) (by decide) k_
        refine Go.k 280 [(.int r)] ?_ fun _ k_ => XS.iload Xt.here hx rfl (hb hby at_278) rfl k_
        refine Go.k 282 [(.int fr), (.int r)] ?_ fun _ k_ => XS.iload Xt.here hx rfl (hb hby at_280) rfl k_
        refine Go.k 287 [] ?_ fun _ k_ => XS.icmpYes Xt.here hx rfl (pc0 := 282) (pc' := 287) rfl (hb hby at_282) rfl (flt (own_i_nlt rfl rfl (by omega) : ¬ r < fr)).2.1 (by decide) (by decide) k_
        refine Go.k 289 [(.int r)] ?_ fun _ k_ => XS.iload Xt.here hx rfl (hb hby at_287) rfl k_
        refine Go.k 291 [(.int (6 : Int32)), (.int r)] ?_ fun _ k_ => XT.bipushV Xt.here hx rfl (6 : Int32) (hb hby at_289) (by decide) k_
        refine Go.k 292 [(.int (XT.ushr r (6 : Int32)))] ?_ fun _ k_ => XT.iushr Xt.here hx rfl (hb hby at_291) rfl k_
        obtain ⟨rb, erb⟩ : ∃ q_ : Int32, q_ = XT.ushr r 6 := ⟨_, rfl⟩
        rw [← erb]
        have hrb : rb.toInt = r.toInt / 64 := by rw [erb]; exact own_ushr6 _ (by omega)
        have nrb : rb.toNatClampNeg = r.toNatClampNeg / 64 := by simp only [Int32.toNatClampNeg]; omega
        refine Go.s (g' := (mkF m 294 #[(sI p1), (sJ p2), .second, (sJ p3), .second, (sJ p4), .second, (sI p5), (sI p6), (sI b1), (sI b3), (sI (p5 &&& (3 : Int32))), (sI b2), (sI fr), (sR na1), (sJ (FF b1.toNatClampNeg)), .second, (sJ (FF b3.toNatClampNeg)), .second, (sJ (FF b2.toNatClampNeg)), .second, (sI (1 : Int32)), (sI r), (sJ (1099511627776 : Int64)), .second, (sI (1 : Int32)), (sI rb), .unset, .unset, .unset] [])) ?_ fun _ k_ => XS.istore Xt.here hx rfl (hb hby at_292) rfl (l' := #[(sI p1), (sJ p2), .second, (sJ p3), .second, (sJ p4), .second, (sI p5), (sI p6), (sI b1), (sI b3), (sI (p5 &&& (3 : Int32))), (sI b2), (sI fr), (sR na1), (sJ (FF b1.toNatClampNeg)), .second, (sJ (FF b3.toNatClampNeg)), .second, (sJ (FF b2.toNatClampNeg)), .second, (sI (1 : Int32)), (sI r), (sJ (1099511627776 : Int64)), .second, (sI (1 : Int32)), (sI rb), .unset, .unset, .unset]) rfl k_
        refine Go.k 296 [(.int rb)] ?_ fun _ k_ => XS.iload Xt.here hx rfl (hb hby at_294) rfl k_
        refine Go.k 298 [(.int b1), (.int rb)] ?_ fun _ k_ => XS.iload Xt.here hx rfl (hb hby at_296) rfl k_
        refine Go.k 299 [(.long p2), (.int b1), (.int rb)] ?_ fun _ k_ => XT.lloadN Xt.here hx rfl (hb hby at_298) rfl k_
        refine Go.k 301 [(.int b3), (.long p2), (.int b1), (.int rb)] ?_ fun _ k_ => XS.iload Xt.here hx rfl (hb hby at_299) rfl k_
        refine Go.k 302 [(.long p3), (.int b3), (.long p2), (.int b1), (.int rb)] ?_ fun _ k_ => XT.lloadN Xt.here hx rfl (hb hby at_301) rfl k_
        refine Go.k 304 [(.int b2), (.long p3), (.int b3), (.long p2), (.int b1), (.int rb)] ?_ fun _ k_ => XS.iload Xt.here hx rfl (hb hby at_302) rfl k_
        refine Go.k 306 [(.long p4), (.int b2), (.long p3), (.int b3), (.long p2), (.int b1), (.int rb)] ?_ fun _ k_ => XT.lload Xt.here hx rfl (hb hby at_304) rfl k_
        refine Go.callS Xt hx hZ hown (wq hw 30 rfl) (wq hw 31 rfl) (wq hw 32 rfl) (wq hw 33 rfl) (by decide) (rexp l Z a0 hw [] rb b1 p2 b3 p3 b2 p4  T5.heap n0 (Nat.le_trans (Nat.le_trans (Nat.le_trans (Nat.le_trans (Nat.le_trans Z0 E1.1) S2) S3) S4) S5) ) eT (by decide) (W := 0) (by decide) (by decide) (by decide) (g := (mkF m 306 #[(sI p1), (sJ p2), .second, (sJ p3), .second, (sJ p4), .second, (sI p5), (sI p6), (sI b1), (sI b3), (sI (p5 &&& (3 : Int32))), (sI b2), (sI fr), (sR na1), (sJ (FF b1.toNatClampNeg)), .second, (sJ (FF b3.toNatClampNeg)), .second, (sJ (FF b2.toNatClampNeg)), .second, (sI (1 : Int32)), (sI r), (sJ (1099511627776 : Int64)), .second, (sI (1 : Int32)), (sI rb), .unset, .unset, .unset] [(.long p4), (.int b2), (.long p3), (.int b3), (.long p2), (.int b1), (.int rb)])) (rest := []) rfl (by rw [hml]; rfl) (lenOf pd__IIJIJIJ_J rfl) rfl (by show 2 * 0 + _ ≤ _; exact Nat.le_of_eq rfl) (hb hby at_306) ?_
        rintro v15 T15 L15 X15 ⟨rfl, N15, e15⟩
        have M15 := Fr.app Nt N15
        rw [hE rb (by omega)]
        show Go p e below _ T15 (mkF m 309 #[(sI p1), (sJ p2), .second, (sJ p3), .second, (sJ p4), .second, (sI p5), (sI p6), (sI b1), (sI b3), (sI (p5 &&& (3 : Int32))), (sI b2), (sI fr), (sR na1), (sJ (FF b1.toNatClampNeg)), .second, (sJ (FF b3.toNatClampNeg)), .second, (sJ (FF b2.toNatClampNeg)), .second, (sI (1 : Int32)), (sI r), (sJ (1099511627776 : Int64)), .second, (sI (1 : Int32)), (sI rb), .unset, .unset, .unset] [(.long (FF rb.toNatClampNeg))])
        refine Go.s (g' := (mkF m 311 #[(sI p1), (sJ p2), .second, (sJ p3), .second, (sJ p4), .second, (sI p5), (sI p6), (sI b1), (sI b3), (sI (p5 &&& (3 : Int32))), (sI b2), (sI fr), (sR na1), (sJ (FF b1.toNatClampNeg)), .second, (sJ (FF b3.toNatClampNeg)), .second, (sJ (FF b2.toNatClampNeg)), .second, (sI (1 : Int32)), (sI r), (sJ (1099511627776 : Int64)), .second, (sI (1 : Int32)), (sI rb), (sJ (FF rb.toNatClampNeg)), .second, .unset] [])) ?_ fun _ k_ => XT.lstore X15.here hx rfl (hb hby at_309) rfl (l' := #[(sI p1), (sJ p2), .second, (sJ p3), .second, (sJ p4), .second, (sI p5), (sI p6), (sI b1), (sI b3), (sI (p5 &&& (3 : Int32))), (sI b2), (sI fr), (sR na1), (sJ (FF b1.toNatClampNeg)), .second, (sJ (FF b3.toNatClampNeg)), .second, (sJ (FF b2.toNatClampNeg)), .second, (sI (1 : Int32)), (sI r), (sJ (1099511627776 : Int64)), .second, (sI (1 : Int32)), (sI rb), (sJ (FF rb.toNatClampNeg)), .second, .unset]) rfl k_
        refine Go.k 313 [(.long (FF rb.toNatClampNeg))] ?_ fun _ k_ => XT.lload X15.here hx rfl (hb hby at_311) rfl k_
        refine Go.k 315 [(.int r), (.long (FF rb.toNatClampNeg))] ?_ fun _ k_ => XS.iload X15.here hx rfl (hb hby at_313) rfl k_
        refine Go.k 317 [(.int (63 : Int32)), (.int r), (.long (FF rb.toNatClampNeg))] ?_ fun _ k_ => XT.bipushV X15.here hx rfl (63 : Int32) (hb hby at_315) (by decide) k_
        refine Go.k 318 [(.int (r &&& (63 : Int32))), (.long (FF rb.toNatClampNeg))] ?_ fun _ k_ => XS.iand X15.here hx rfl (hb hby at_317) rfl k_
        refine Go.k 319 [(.long (XT.ushrL (FF rb.toNatClampNeg) (r &&& (63 : Int32))))] ?_ fun _ k_ => XT.lushr X15.here hx rfl (hb hby at_318) rfl k_
        refine Go.k 320 [(.long (1 : Int64)), (.long (XT.ushrL (FF rb.toNatClampNeg) (r &&& (63 : Int32))))] ?_ fun _ k_ => XT.lconstV X15.here hx rfl (1 : Int64) (hb hby at_319) (by decide) k_
        refine Go.k 321 [(.long ((XT.ushrL (FF rb.toNatClampNeg) (r &&& (63 : Int32))) &&& (1 : Int64)))] ?_ fun _ k_ => XT.land X15.here hx rfl (hb hby at_320) rfl k_
        refine Go.k 322 [(.long (0 : Int64)), (.long ((XT.ushrL (FF rb.toNatClampNeg) (r &&& (63 : Int32))) &&& (1 : Int64)))] ?_ fun _ k_ => XT.lconstV X15.here hx rfl (0 : Int64) (hb hby at_321) (by decide) k_
        refine Go.k 323 [(.int (lcmpW ((XT.ushrL (FF rb.toNatClampNeg) (r &&& (63 : Int32))) &&& (1 : Int64)) (0 : Int64)))] ?_ fun _ k_ => XT.lcmp X15.here hx rfl (hb hby at_322) rfl k_
        refine Go.k 326 [] ?_ fun _ k_ => XS.ifNo X15.here hx rfl (hb hby at_323) rfl ((if0 _ _).trans (feq (fun q_ => (own_member r (by omega) (by rw [nrb]; exact q4) : ¬ ((XT.ushrL (FF rb.toNatClampNeg) (r &&& (63 : Int32))) &&& (1 : Int64)) = (0 : Int64)) ((lw_eq _ _).mp q_))).1) k_
        refine Go.k 327 [(.int (1 : Int32))] ?_ fun _ k_ => XT.iconstV X15.here hx rfl (1 : Int32) (hb hby at_326) (by decide) k_
        refine Go.k 331 [(.int (1 : Int32))] ?_ fun _ k_ => XS.goto X15.here hx rfl (pc0 := 327) (pc' := 331) rfl (hb hby at_327) (by decide) (by decide) k_
        refine Go.s (g' := (mkF m 333 #[(sI p1), (sJ p2), .second, (sJ p3), .second, (sJ p4), .second, (sI p5), (sI p6), (sI b1), (sI b3), (sI (p5 &&& (3 : Int32))), (sI b2), (sI fr), (sR na1), (sJ (FF b1.toNatClampNeg)), .second, (sJ (FF b3.toNatClampNeg)), .second, (sJ (FF b2.toNatClampNeg)), .second, (sI (1 : Int32)), (sI r), (sJ (1099511627776 : Int64)), .second, (sI (1 : Int32)), (sI rb), (sJ (FF rb.toNatClampNeg)), .second, (sI (1 : Int32))] [])) ?_ fun _ k_ => XS.istore X15.here hx rfl (hb hby at_331) rfl (l' := #[(sI p1), (sJ p2), .second, (sJ p3), .second, (sJ p4), .second, (sI p5), (sI p6), (sI b1), (sI b3), (sI (p5 &&& (3 : Int32))), (sI b2), (sI fr), (sR na1), (sJ (FF b1.toNatClampNeg)), .second, (sJ (FF b3.toNatClampNeg)), .second, (sJ (FF b2.toNatClampNeg)), .second, (sI (1 : Int32)), (sI r), (sJ (1099511627776 : Int64)), .second, (sI (1 : Int32)), (sI rb), (sJ (FF rb.toNatClampNeg)), .second, (sI (1 : Int32))]) rfl k_
        refine Go.k 335 [(.int (1 : Int32))] ?_ fun _ k_ => XS.iload X15.here hx rfl (hb hby at_333) rfl k_
        refine Go.k 338 [] ?_ fun _ k_ => XS.ifNo X15.here hx rfl (hb hby at_335) rfl (by decide) k_
        refine Go.k 340 [(.int (1 : Int32))] ?_ fun _ k_ => XS.iload X15.here hx rfl (hb hby at_338) rfl k_
        refine Go.k 343 [] ?_ fun _ k_ => XS.ifNo X15.here hx rfl (hb hby at_340) rfl (by decide) k_
        refine Go.k 345 [(.int b1)] ?_ fun _ k_ => XS.iload X15.here hx rfl (hb hby at_343) rfl k_
        refine Go.k 347 [(.long (FF b1.toNatClampNeg)), (.int b1)] ?_ fun _ k_ => XT.lload X15.here hx rfl (hb hby at_345) rfl k_
        refine Go.k 349 [(.int fr), (.long (FF b1.toNatClampNeg)), (.int b1)] ?_ fun _ k_ => XS.iload X15.here hx rfl (hb hby at_347) rfl k_
        refine Go.k 350 [(.long fr.toInt64), (.long (FF b1.toNatClampNeg)), (.int b1)] ?_ fun _ k_ => XT.i2l X15.here hx rfl (hb hby at_349) rfl k_
        refine Go.k 352 [(.int r), (.long fr.toInt64), (.long (FF b1.toNatClampNeg)), (.int b1)] ?_ fun _ k_ => XS.iload X15.here hx rfl (hb hby at_350) rfl k_
        refine Go.k 353 [(.long r.toInt64), (.long fr.toInt64), (.long (FF b1.toNatClampNeg)), (.int b1)] ?_ fun _ k_ => XT.i2l X15.here hx rfl (hb hby at_352) rfl k_
        refine Go.callS X15 hx hZ hown (wq hw 55 rfl) (wq hw 56 rfl) (wq hw 32 rfl) (wq hw 57 rfl) (by decide) (rany l Z a0 hw [] b1 (FF b1.toNatClampNeg) fr.toInt64 r.toInt64  T5.heap n0 (Nat.le_trans (Nat.le_trans (Nat.le_trans (Nat.le_trans (Nat.le_trans Z0 E1.1) S2) S3) S4) S5) ) e15 (by decide) (W := 0) (by decide) (by decide) (by decide) (g := (mkF m 353 #[(sI p1), (sJ p2), .second, (sJ p3), .second, (sJ p4), .second, (sI p5), (sI p6), (sI b1), (sI b3), (sI (p5 &&& (3 : Int32))), (sI b2), (sI fr), (sR na1), (sJ (FF b1.toNatClampNeg)), .second, (sJ (FF b3.toNatClampNeg)), .second, (sJ (FF b2.toNatClampNeg)), .second, (sI (1 : Int32)), (sI r), (sJ (1099511627776 : Int64)), .second, (sI (1 : Int32)), (sI rb), (sJ (FF rb.toNatClampNeg)), .second, (sI (1 : Int32))] [(.long r.toInt64), (.long fr.toInt64), (.long (FF b1.toNatClampNeg)), (.int b1)])) (rest := []) rfl (by rw [hml]; rfl) (lenOf pd__IJJJ_Z rfl) rfl (by show 2 * 0 + _ ≤ _; exact Nat.le_of_eq rfl) (hb hby at_353) ?_
        rintro v16 T16 L16 X16 ⟨rfl, N16, e16⟩
        have M16 := Fr.app M15 N16
        rw [own_anyN (F := FF) (b := b1) (c_i2l fr) (c_i2l r) (by omega) (by omega) (by omega) (by omega) (by omega) fun i_ u_ v_ => q5 i_ (by simp only [Int32.toNatClampNeg]; omega) (by simp only [Int32.toNatClampNeg]; omega)]
        show Go p e below _ T16 (mkF m 356 #[(sI p1), (sJ p2), .second, (sJ p3), .second, (sJ p4), .second, (sI p5), (sI p6), (sI b1), (sI b3), (sI (p5 &&& (3 : Int32))), (sI b2), (sI fr), (sR na1), (sJ (FF b1.toNatClampNeg)), .second, (sJ (FF b3.toNatClampNeg)), .second, (sJ (FF b2.toNatClampNeg)), .second, (sI (1 : Int32)), (sI r), (sJ (1099511627776 : Int64)), .second, (sI (1 : Int32)), (sI rb), (sJ (FF rb.toNatClampNeg)), .second, (sI (1 : Int32))] [(.int (0 : Int32))])
        refine Go.k 359 [] ?_ fun _ k_ => XS.ifNo X16.here hx rfl (hb hby at_356) rfl (by decide) k_
        refine Go.k 361 [(.int b3)] ?_ fun _ k_ => XS.iload X16.here hx rfl (hb hby at_359) rfl k_
        refine Go.k 363 [(.long (FF b3.toNatClampNeg)), (.int b3)] ?_ fun _ k_ => XT.lload X16.here hx rfl (hb hby at_361) rfl k_
        refine Go.k 365 [(.int fr), (.long (FF b3.toNatClampNeg)), (.int b3)] ?_ fun _ k_ => XS.iload X16.here hx rfl (hb hby at_363) rfl k_
        refine Go.k 366 [(.long fr.toInt64), (.long (FF b3.toNatClampNeg)), (.int b3)] ?_ fun _ k_ => XT.i2l X16.here hx rfl (hb hby at_365) rfl k_
        refine Go.k 368 [(.int r), (.long fr.toInt64), (.long (FF b3.toNatClampNeg)), (.int b3)] ?_ fun _ k_ => XS.iload X16.here hx rfl (hb hby at_366) rfl k_
        refine Go.k 369 [(.long r.toInt64), (.long fr.toInt64), (.long (FF b3.toNatClampNeg)), (.int b3)] ?_ fun _ k_ => XT.i2l X16.here hx rfl (hb hby at_368) rfl k_
        refine Go.callS X16 hx hZ hown (wq hw 55 rfl) (wq hw 56 rfl) (wq hw 32 rfl) (wq hw 57 rfl) (by decide) (rany l Z a0 hw [] b3 (FF b3.toNatClampNeg) fr.toInt64 r.toInt64  T5.heap n0 (Nat.le_trans (Nat.le_trans (Nat.le_trans (Nat.le_trans (Nat.le_trans Z0 E1.1) S2) S3) S4) S5) ) e16 (by decide) (W := 0) (by decide) (by decide) (by decide) (g := (mkF m 369 #[(sI p1), (sJ p2), .second, (sJ p3), .second, (sJ p4), .second, (sI p5), (sI p6), (sI b1), (sI b3), (sI (p5 &&& (3 : Int32))), (sI b2), (sI fr), (sR na1), (sJ (FF b1.toNatClampNeg)), .second, (sJ (FF b3.toNatClampNeg)), .second, (sJ (FF b2.toNatClampNeg)), .second, (sI (1 : Int32)), (sI r), (sJ (1099511627776 : Int64)), .second, (sI (1 : Int32)), (sI rb), (sJ (FF rb.toNatClampNeg)), .second, (sI (1 : Int32))] [(.long r.toInt64), (.long fr.toInt64), (.long (FF b3.toNatClampNeg)), (.int b3)])) (rest := []) rfl (by rw [hml]; rfl) (lenOf pd__IJJJ_Z rfl) rfl (by show 2 * 0 + _ ≤ _; exact Nat.le_of_eq rfl) (hb hby at_369) ?_
        rintro v17 T17 L17 X17 ⟨rfl, N17, e17⟩
        have M17 := Fr.app M16 N17
        rw [own_anyN (F := FF) (b := b3) (c_i2l fr) (c_i2l r) (by omega) (by omega) (by omega) (by omega) (by omega) fun i_ u_ v_ => q5 i_ (by simp only [Int32.toNatClampNeg]; omega) (by simp only [Int32.toNatClampNeg]; omega)]
        show Go p e below _ T17 (mkF m 372 #[(sI p1), (sJ p2), .second, (sJ p3), .second, (sJ p4), .second, (sI p5), (sI p6), (sI b1), (sI b3), (sI (p5 &&& (3 : Int32))), (sI b2), (sI fr), (sR na1), (sJ (FF b1.toNatClampNeg)), .second, (sJ (FF b3.toNatClampNeg)), .second, (sJ (FF b2.toNatClampNeg)), .second, (sI (1 : Int32)), (sI r), (sJ (1099511627776 : Int64)), .second, (sI (1 : Int32)), (sI rb), (sJ (FF rb.toNatClampNeg)), .second, (sI (1 : Int32))] [(.int (0 : Int32))])
        refine Go.k 375 [] ?_ fun _ k_ => XS.ifNo X17.here hx rfl (hb hby at_372) rfl (by decide) k_
        refine Go.k 376 [(.int (1 : Int32))] ?_ fun _ k_ => XT.iconstV X17.here hx rfl (1 : Int32) (hb hby at_375) (by decide) k_
        refine Go.k 380 [(.int (1 : Int32))] ?_ fun _ k_ => XS.goto X17.here hx rfl (pc0 := 376) (pc' := 380) rfl (hb hby at_376) (by decide) (by decide) k_
        exact Go.retV (t := .boolean) X17 hx hret hlk (by decide) (by decide) rfl (Or.inl ⟨rfl, Or.inr (Or.inl rfl), _, rfl⟩) (hb hby at_380) ⟨rfl, M17⟩
      rcases hS _ (own_bit_ne q4) with sb | sb
      · skip
        refine Go.k 221 [(.int b1)] ?_ fun _ k_ => XS.iload X12.here hx rfl (hb hby at_219) rfl k_
        refine Go.k 223 [(.long (FF b1.toNatClampNeg)), (.int b1)] ?_ fun _ k_ => XT.lload X12.here hx rfl (hb hby at_221) rfl k_
        refine Go.k 225 [(.int fr), (.long (FF b1.toNatClampNeg)), (.int b1)] ?_ fun _ k_ => XS.iload X12.here hx rfl (hb hby at_223) rfl k_
        refine Go.k 226 [(.long fr.toInt64), (.long (FF b1.toNatClampNeg)), (.int b1)] ?_ fun _ k_ => XT.i2l X12.here hx rfl (hb hby at_225) rfl k_
        refine Go.k 228 [(.long (1099511627776 : Int64)), (.long fr.toInt64), (.long (FF b1.toNatClampNeg)), (.int b1)] ?_ fun _ k_ => XT.lload X12.here hx rfl (hb hby at_226) rfl k_
        refine Go.callS X12 hx hZ hown (wq hw 55 rfl) (wq hw 56 rfl) (wq hw 32 rfl) (wq hw 57 rfl) (by decide) (rany l Z a0 hw [] b1 (FF b1.toNatClampNeg) fr.toInt64 (1099511627776 : Int64)  T5.heap n0 (Nat.le_trans (Nat.le_trans (Nat.le_trans (Nat.le_trans (Nat.le_trans Z0 E1.1) S2) S3) S4) S5) ) e12 (by decide) (W := 0) (by decide) (by decide) (by decide) (g := (mkF m 228 #[(sI p1), (sJ p2), .second, (sJ p3), .second, (sJ p4), .second, (sI p5), (sI p6), (sI b1), (sI b3), (sI (p5 &&& (3 : Int32))), (sI b2), (sI fr), (sR na1), (sJ (FF b1.toNatClampNeg)), .second, (sJ (FF b3.toNatClampNeg)), .second, (sJ (FF b2.toNatClampNeg)), .second, (sI (1 : Int32)), (sI r), (sJ (1099511627776 : Int64)), .second, .unset, .unset, .unset, .unset, .unset] [(.long (1099511627776 : Int64)), (.long fr.toInt64), (.long (FF b1.toNatClampNeg)), (.int b1)])) (rest := []) rfl (by rw [hml]; rfl) (lenOf pd__IJJJ_Z rfl) rfl (by show 2 * 0 + _ ≤ _; exact Nat.le_of_eq rfl) (hb hby at_228) ?_
        rintro v18 T18 L18 X18 ⟨rfl, N18, e18⟩
        have M18 := Fr.app M12 N18
        rw [own_anyY (F := FF) (b := b1) (c_i2l fr) (by decide : (1099511627776 : Int64).toInt = 1099511627776) (by omega) (by omega) (by omega) (by omega) (by omega) r.toNatClampNeg (by simp only [Int32.toNatClampNeg]; omega) (by simp only [Int32.toNatClampNeg]; omega) sb q4]
        show Go p e below _ T18 (mkF m 231 #[(sI p1), (sJ p2), .second, (sJ p3), .second, (sJ p4), .second, (sI p5), (sI p6), (sI b1), (sI b3), (sI (p5 &&& (3 : Int32))), (sI b2), (sI fr), (sR na1), (sJ (FF b1.toNatClampNeg)), .second, (sJ (FF b3.toNatClampNeg)), .second, (sJ (FF b2.toNatClampNeg)), .second, (sI (1 : Int32)), (sI r), (sJ (1099511627776 : Int64)), .second, .unset, .unset, .unset, .unset, .unset] [(.int (1 : Int32))])
        refine Go.k 249 [] ?_ fun _ k_ => XS.ifYes X18.here hx rfl (pc0 := 231) (pc' := 249) rfl (hb hby at_231) rfl (by decide) (by decide) (by decide) k_
        exact tail2 T18 _ (X18.more (by decide) (by decide)) e18 M18
      · skip
        refine Go.k 221 [(.int b1)] ?_ fun _ k_ => XS.iload X12.here hx rfl (hb hby at_219) rfl k_
        refine Go.k 223 [(.long (FF b1.toNatClampNeg)), (.int b1)] ?_ fun _ k_ => XT.lload X12.here hx rfl (hb hby at_221) rfl k_
        refine Go.k 225 [(.int fr), (.long (FF b1.toNatClampNeg)), (.int b1)] ?_ fun _ k_ => XS.iload X12.here hx rfl (hb hby at_223) rfl k_
        refine Go.k 226 [(.long fr.toInt64), (.long (FF b1.toNatClampNeg)), (.int b1)] ?_ fun _ k_ => XT.i2l X12.here hx rfl (hb hby at_225) rfl k_
        refine Go.k 228 [(.long (1099511627776 : Int64)), (.long fr.toInt64), (.long (FF b1.toNatClampNeg)), (.int b1)] ?_ fun _ k_ => XT.lload X12.here hx rfl (hb hby at_226) rfl k_
        refine Go.callS X12 hx hZ hown (wq hw 55 rfl) (wq hw 56 rfl) (wq hw 32 rfl) (wq hw 57 rfl) (by decide) (rany l Z a0 hw [] b1 (FF b1.toNatClampNeg) fr.toInt64 (1099511627776 : Int64)  T5.heap n0 (Nat.le_trans (Nat.le_trans (Nat.le_trans (Nat.le_trans (Nat.le_trans Z0 E1.1) S2) S3) S4) S5) ) e12 (by decide) (W := 0) (by decide) (by decide) (by decide) (g := (mkF m 228 #[(sI p1), (sJ p2), .second, (sJ p3), .second, (sJ p4), .second, (sI p5), (sI p6), (sI b1), (sI b3), (sI (p5 &&& (3 : Int32))), (sI b2), (sI fr), (sR na1), (sJ (FF b1.toNatClampNeg)), .second, (sJ (FF b3.toNatClampNeg)), .second, (sJ (FF b2.toNatClampNeg)), .second, (sI (1 : Int32)), (sI r), (sJ (1099511627776 : Int64)), .second, .unset, .unset, .unset, .unset, .unset] [(.long (1099511627776 : Int64)), (.long fr.toInt64), (.long (FF b1.toNatClampNeg)), (.int b1)])) (rest := []) rfl (by rw [hml]; rfl) (lenOf pd__IJJJ_Z rfl) rfl (by show 2 * 0 + _ ≤ _; exact Nat.le_of_eq rfl) (hb hby at_228) ?_
        rintro v19 T19 L19 X19 ⟨rfl, N19, e19⟩
        have M19 := Fr.app M12 N19
        show Go p e below _ T19 (mkF m 231 #[(sI p1), (sJ p2), .second, (sJ p3), .second, (sJ p4), .second, (sI p5), (sI p6), (sI b1), (sI b3), (sI (p5 &&& (3 : Int32))), (sI b2), (sI fr), (sR na1), (sJ (FF b1.toNatClampNeg)), .second, (sJ (FF b3.toNatClampNeg)), .second, (sJ (FF b2.toNatClampNeg)), .second, (sI (1 : Int32)), (sI r), (sJ (1099511627776 : Int64)), .second, .unset, .unset, .unset, .unset, .unset] [(.int (own_any b1 (FF b1.toNatClampNeg) fr.toInt64 (1099511627776 : Int64)))])
        by_cases hc20 : (own_any b1 (FF b1.toNatClampNeg) fr.toInt64 (1099511627776 : Int64)) = (0 : Int32)
        · refine Go.k 234 [] ?_ fun _ k_ => XS.ifNo X19.here hx rfl (hb hby at_231) rfl ((if0 _ _).trans (teq hc20).2) k_
          refine Go.k 236 [(.int b3)] ?_ fun _ k_ => XS.iload X19.here hx rfl (hb hby at_234) rfl k_
          refine Go.k 238 [(.long (FF b3.toNatClampNeg)), (.int b3)] ?_ fun _ k_ => XT.lload X19.here hx rfl (hb hby at_236) rfl k_
          refine Go.k 240 [(.int fr), (.long (FF b3.toNatClampNeg)), (.int b3)] ?_ fun _ k_ => XS.iload X19.here hx rfl (hb hby at_238) rfl k_
          refine Go.k 241 [(.long fr.toInt64), (.long (FF b3.toNatClampNeg)), (.int b3)] ?_ fun _ k_ => XT.i2l X19.here hx rfl (hb hby at_240) rfl k_
          refine Go.k 243 [(.long (1099511627776 : Int64)), (.long fr.toInt64), (.long (FF b3.toNatClampNeg)), (.int b3)] ?_ fun _ k_ => XT.lload X19.here hx rfl (hb hby at_241) rfl k_
          refine Go.callS X19 hx hZ hown (wq hw 55 rfl) (wq hw 56 rfl) (wq hw 32 rfl) (wq hw 57 rfl) (by decide) (rany l Z a0 hw [] b3 (FF b3.toNatClampNeg) fr.toInt64 (1099511627776 : Int64)  T5.heap n0 (Nat.le_trans (Nat.le_trans (Nat.le_trans (Nat.le_trans (Nat.le_trans Z0 E1.1) S2) S3) S4) S5) ) e19 (by decide) (W := 0) (by decide) (by decide) (by decide) (g := (mkF m 243 #[(sI p1), (sJ p2), .second, (sJ p3), .second, (sJ p4), .second, (sI p5), (sI p6), (sI b1), (sI b3), (sI (p5 &&& (3 : Int32))), (sI b2), (sI fr), (sR na1), (sJ (FF b1.toNatClampNeg)), .second, (sJ (FF b3.toNatClampNeg)), .second, (sJ (FF b2.toNatClampNeg)), .second, (sI (1 : Int32)), (sI r), (sJ (1099511627776 : Int64)), .second, .unset, .unset, .unset, .unset, .unset] [(.long (1099511627776 : Int64)), (.long fr.toInt64), (.long (FF b3.toNatClampNeg)), (.int b3)])) (rest := []) rfl (by rw [hml]; rfl) (lenOf pd__IJJJ_Z rfl) rfl (by show 2 * 0 + _ ≤ _; exact Nat.le_of_eq rfl) (hb hby at_243) ?_
          rintro v21 T21 L21 X21 ⟨rfl, N21, e21⟩
          have M21 := Fr.app M19 N21
          rw [own_anyY (F := FF) (b := b3) (c_i2l fr) (by decide : (1099511627776 : Int64).toInt = 1099511627776) (by omega) (by omega) (by omega) (by omega) (by omega) r.toNatClampNeg (by simp only [Int32.toNatClampNeg]; omega) (by simp only [Int32.toNatClampNeg]; omega) sb q4]
          show Go p e below _ T21 (mkF m 246 #[(sI p1), (sJ p2), .second, (sJ p3), .second, (sJ p4), .second, (sI p5), (sI p6), (sI b1), (sI b3), (sI (p5 &&& (3 : Int32))), (sI b2), (sI fr), (sR na1), (sJ (FF b1.toNatClampNeg)), .second, (sJ (FF b3.toNatClampNeg)), .second, (sJ (FF b2.toNatClampNeg)), .second, (sI (1 : Int32)), (sI r), (sJ (1099511627776 : Int64)), .second, .unset, .unset, .unset, .unset, .unset] [(.int (1 : Int32))])
          refine Go.k 249 [] ?_ fun _ k_ => XS.ifNo X21.here hx rfl (hb hby at_246) rfl (by decide) k_
          exact tail2 T21 _ (X21.more (by decide) (by decide)) e21 M21
        · refine Go.k 249 [] ?_ fun _ k_ => XS.ifYes X19.here hx rfl (pc0 := 231) (pc' := 249) rfl (hb hby at_231) rfl ((if0 _ _).trans (feq hc20).2) (by decide) (by decide) k_
          exact tail2 T19 _ (X19.more (by decide) (by decide)) e19 M19
  refine Go.cast (g' := (mkF m 0 #[(sI p1), (sJ p2), .second, (sJ p3), .second, (sJ p4), .second, (sI p5), (sI p6), .unset, .unset, .unset, .unset, .unset, .unset, .unset, .unset, .unset, .unset, .unset, .unset, .unset, .unset, .unset, .unset, .unset, .unset, .unset, .unset, .unset] [])) (by first | (simp [entryFrame, mkF, argsToLocals, Value.category, maxLocals, sI, sR, sJ]; done) | rfl) ?_
  refine Go.k 1 [(.int p1)] ?_ fun _ k_ => XS.iloadN X0.here hx rfl (hb hby at_0) rfl k_
  refine Go.k 4 [(.int (8191 : Int32)), (.int p1)] ?_ fun _ k_ => XT.sipushV X0.here hx rfl (8191 : Int32) (hb hby at_1) (by decide) k_
  refine Go.k 5 [(.int (p1 &&& (8191 : Int32)))] ?_ fun _ k_ => XS.iand X0.here hx rfl (hb hby at_4) rfl k_
  have m_b1 := c_mask p1 8191 13 (by decide) (by decide)
  have t_b1 : ((2 ^ 13 : Nat) : Int) = 8192 := rfl
  generalize (p1 &&& (8191 : Int32)) = b1 at *
  have a_b1 : 0 ≤ b1.toInt := by omega
  have b_b1 : b1.toInt ≤ 8191 := by omega
  refine Go.s (g' := (mkF m 7 #[(sI p1), (sJ p2), .second, (sJ p3), .second, (sJ p4), .second, (sI p5), (sI p6), (sI b1), .unset, .unset, .unset, .unset, .unset, .unset, .unset, .unset, .unset, .unset, .unset, .unset, .unset, .unset, .unset, .unset, .unset, .unset, .unset, .unset] [])) ?_ fun _ k_ => XS.istore X0.here hx rfl (hb hby at_5) rfl (l' := #[(sI p1), (sJ p2), .second, (sJ p3), .second, (sJ p4), .second, (sI p5), (sI p6), (sI b1), .unset, .unset, .unset, .unset, .unset, .unset, .unset, .unset, .unset, .unset, .unset, .unset, .unset, .unset, .unset, .unset, .unset, .unset, .unset, .unset]) rfl k_
  refine Go.k 8 [(.int p1)] ?_ fun _ k_ => XS.iloadN X0.here hx rfl (hb hby at_7) rfl k_
  refine Go.k 10 [(.int (13 : Int32)), (.int p1)] ?_ fun _ k_ => XT.bipushV X0.here hx rfl (13 : Int32) (hb hby at_8) (by decide) k_
  refine Go.k 11 [(.int (XT.ushr p1 (13 : Int32)))] ?_ fun _ k_ => XT.iushr X0.here hx rfl (hb hby at_10) rfl k_
  refine Go.k 14 [(.int (8191 : Int32)), (.int (XT.ushr p1 (13 : Int32)))] ?_ fun _ k_ => XT.sipushV X0.here hx rfl (8191 : Int32) (hb hby at_11) (by decide) k_
  refine Go.k 15 [(.int ((XT.ushr p1 (13 : Int32)) &&& (8191 : Int32)))] ?_ fun _ k_ => XS.iand X0.here hx rfl (hb hby at_14) rfl k_
  have m_b3 := c_mask (XT.ushr p1 (13 : Int32)) 8191 13 (by decide) (by decide)
  have t_b3 : ((2 ^ 13 : Nat) : Int) = 8192 := rfl
  generalize ((XT.ushr p1 (13 : Int32)) &&& (8191 : Int32)) = b3 at *
  have a_b3 : 0 ≤ b3.toInt := by omega
  have b_b3 : b3.toInt ≤ 8191 := by omega
  refine Go.s (g' := (mkF m 17 #[(sI p1), (sJ p2), .second, (sJ p3), .second, (sJ p4), .second, (sI p5), (sI p6), (sI b1), (sI b3), .unset, .unset, .unset, .unset, .unset, .unset, .unset, .unset, .unset, .unset, .unset, .unset, .unset, .unset, .unset, .unset, .unset, .unset, .unset] [])) ?_ fun _ k_ => XS.istore X0.here hx rfl (hb hby at_15) rfl (l' := #[(sI p1), (sJ p2), .second, (sJ p3), .second, (sJ p4), .second, (sI p5), (sI p6), (sI b1), (sI b3), .unset, .unset, .unset, .unset, .unset, .unset, .unset, .unset, .unset, .unset, .unset, .unset, .unset, .unset, .unset, .unset, .unset, .unset, .unset]) rfl k_
  refine Go.k 19 [(.int p5)] ?_ fun _ k_ => XS.iload X0.here hx rfl (hb hby at_17) rfl k_
  refine Go.k 20 [(.int (3 : Int32)), (.int p5)] ?_ fun _ k_ => XT.iconstV X0.here hx rfl (3 : Int32) (hb hby at_19) (by decide) k_
  refine Go.k 21 [(.int (p5 &&& (3 : Int32)))] ?_ fun _ k_ => XS.iand X0.here hx rfl (hb hby at_20) rfl k_
  refine Go.s (g' := (mkF m 23 #[(sI p1), (sJ p2), .second, (sJ p3), .second, (sJ p4), .second, (sI p5), (sI p6), (sI b1), (sI b3), (sI (p5 &&& (3 : Int32))), .unset, .unset, .unset, .unset, .unset, .unset, .unset, .unset, .unset, .unset, .unset, .unset, .unset, .unset, .unset, .unset, .unset, .unset] [])) ?_ fun _ k_ => XS.istore X0.here hx rfl (hb hby at_21) rfl (l' := #[(sI p1), (sJ p2), .second, (sJ p3), .second, (sJ p4), .second, (sI p5), (sI p6), (sI b1), (sI b3), (sI (p5 &&& (3 : Int32))), .unset, .unset, .unset, .unset, .unset, .unset, .unset, .unset, .unset, .unset, .unset, .unset, .unset, .unset, .unset, .unset, .unset, .unset]) rfl k_
  refine Go.k 25 [(.int (p5 &&& (3 : Int32)))] ?_ fun _ k_ => XS.iload X0.here hx rfl (hb hby at_23) rfl k_
  by_cases hc22 : (p5 &&& (3 : Int32)) = (0 : Int32)
  · refine Go.k 28 [] ?_ fun _ k_ => XS.ifNo X0.here hx rfl (hb hby at_25) rfl ((if0 _ _).trans (teq hc22).2) k_
    refine Go.k 30 [(.int b1)] ?_ fun _ k_ => XS.iload X0.here hx rfl (hb hby at_28) rfl k_
    refine Go.k 52 [(.int b1)] ?_ fun _ k_ => XS.goto X0.here hx rfl (pc0 := 30) (pc' := 52) rfl (hb hby at_30) (by decide) (by decide) k_
    refine Go.s (g' := (mkF m 54 #[(sI p1), (sJ p2), .second, (sJ p3), .second, (sJ p4), .second, (sI p5), (sI p6), (sI b1), (sI b3), (sI (p5 &&& (3 : Int32))), (sI b1), .unset, .unset, .unset, .unset, .unset, .unset, .unset, .unset, .unset, .unset, .unset, .unset, .unset, .unset, .unset, .unset, .unset] [])) ?_ fun _ k_ => XS.istore X0.here hx rfl (hb hby at_52) rfl (l' := #[(sI p1), (sJ p2), .second, (sJ p3), .second, (sJ p4), .second, (sI p5), (sI p6), (sI b1), (sI b3), (sI (p5 &&& (3 : Int32))), (sI b1), .unset, .unset, .unset, .unset, .unset, .unset, .unset, .unset, .unset, .unset, .unset, .unset, .unset, .unset, .unset, .unset, .unset]) rfl k_
    refine Go.k 56 [(.int p6)] ?_ fun _ k_ => XS.iload X0.here hx rfl (hb hby at_54) rfl k_
    refine Go.k 57 [(.int (1 : Int32)), (.int p6)] ?_ fun _ k_ => XT.iconstV X0.here hx rfl (1 : Int32) (hb hby at_56) (by decide) k_
    refine Go.k 58 [(.int (p6 &&& (1 : Int32)))] ?_ fun _ k_ => XS.iand X0.here hx rfl (hb hby at_57) rfl k_
    by_cases hc23 : (p6 &&& (1 : Int32)) = (0 : Int32)
    · refine Go.k 61 [] ?_ fun _ k_ => XS.ifNo X0.here hx rfl (hb hby at_58) rfl ((if0 _ _).trans (teq hc23).2) k_
      refine Go.k 62 [(.int (0 : Int32))] ?_ fun _ k_ => XT.iconstV X0.here hx rfl (0 : Int32) (hb hby at_61) (by decide) k_
      refine Go.k 72 [(.int (0 : Int32))] ?_ fun _ k_ => XS.goto X0.here hx rfl (pc0 := 62) (pc' := 72) rfl (hb hby at_62) (by decide) (by decide) k_
      refine Go.s (g' := (mkF m 74 #[(sI p1), (sJ p2), .second, (sJ p3), .second, (sJ p4), .second, (sI p5), (sI p6), (sI b1), (sI b3), (sI (p5 &&& (3 : Int32))), (sI b1), (sI (0 : Int32)), .unset, .unset, .unset, .unset, .unset, .unset, .unset, .unset, .unset, .unset, .unset, .unset, .unset, .unset, .unset, .unset] [])) ?_ fun _ k_ => XS.istore X0.here hx rfl (hb hby at_72) rfl (l' := #[(sI p1), (sJ p2), .second, (sJ p3), .second, (sJ p4), .second, (sI p5), (sI p6), (sI b1), (sI b3), (sI (p5 &&& (3 : Int32))), (sI b1), (sI (0 : Int32)), .unset, .unset, .unset, .unset, .unset, .unset, .unset, .unset, .unset, .unset, .unset, .unset, .unset, .unset, .unset, .unset]) rfl k_
      exact tail b1 b3 b1 (0 : Int32) (by omega) (by omega) (by omega) (by omega) (by omega) (by omega) (by decide) (by decide)
    · refine Go.k 65 [] ?_ fun _ k_ => XS.ifYes X0.here hx rfl (pc0 := 58) (pc' := 65) rfl (hb hby at_58) rfl ((if0 _ _).trans (feq hc23).2) (by decide) (by decide) k_
      refine Go.k 67 [(.int p6)] ?_ fun _ k_ => XS.iload X0.here hx rfl (hb hby at_65) rfl k_
      refine Go.k 68 [(.int (1 : Int32)), (.int p6)] ?_ fun _ k_ => XT.iconstV X0.here hx rfl (1 : Int32) (hb hby at_67) (by decide) k_
      refine Go.k 69 [(.int (XT.ushr p6 (1 : Int32)))] ?_ fun _ k_ => XT.iushr X0.here hx rfl (hb hby at_68) rfl k_
      refine Go.k 71 [(.int (524287 : Int32)), (.int (XT.ushr p6 (1 : Int32)))] ?_ fun _ k_ => X0.ldcI hx hown (mvT hZ (wq hw 0 rfl)) rfl (hb hby at_69) k_
      refine Go.k 72 [(.int ((XT.ushr p6 (1 : Int32)) &&& (524287 : Int32)))] ?_ fun _ k_ => XS.iand X0.here hx rfl (hb hby at_71) rfl k_
      have m_fr := c_mask (XT.ushr p6 (1 : Int32)) 524287 19 (by decide) (by decide)
      have t_fr : ((2 ^ 19 : Nat) : Int) = 524288 := rfl
      generalize ((XT.ushr p6 (1 : Int32)) &&& (524287 : Int32)) = fr at *
      have a_fr : 0 ≤ fr.toInt := by omega
      have b_fr : fr.toInt ≤ 524287 := by omega
      refine Go.s (g' := (mkF m 74 #[(sI p1), (sJ p2), .second, (sJ p3), .second, (sJ p4), .second, (sI p5), (sI p6), (sI b1), (sI b3), (sI (p5 &&& (3 : Int32))), (sI b1), (sI fr), .unset, .unset, .unset, .unset, .unset, .unset, .unset, .unset, .unset, .unset, .unset, .unset, .unset, .unset, .unset, .unset] [])) ?_ fun _ k_ => XS.istore X0.here hx rfl (hb hby at_72) rfl (l' := #[(sI p1), (sJ p2), .second, (sJ p3), .second, (sJ p4), .second, (sI p5), (sI p6), (sI b1), (sI b3), (sI (p5 &&& (3 : Int32))), (sI b1), (sI fr), .unset, .unset, .unset, .unset, .unset, .unset, .unset, .unset, .unset, .unset, .unset, .unset, .unset, .unset, .unset, .unset]) rfl k_
      exact tail b1 b3 b1 fr (by omega) (by omega) (by omega) (by omega) (by omega) (by omega) (by omega) (by omega)
  · refine Go.k 33 [] ?_ fun _ k_ => XS.ifYes X0.here hx rfl (pc0 := 25) (pc' := 33) rfl (hb hby at_25) rfl ((if0 _ _).trans (feq hc22).2) (by decide) (by decide) k_
    refine Go.k 35 [(.int (p5 &&& (3 : Int32)))] ?_ fun _ k_ => XS.iload X0.here hx rfl (hb hby at_33) rfl k_
    refine Go.k 36 [(.int (1 : Int32)), (.int (p5 &&& (3 : Int32)))] ?_ fun _ k_ => XT.iconstV X0.here hx rfl (1 : Int32) (hb hby at_35) (by decide) k_
    by_cases hc24 : (p5 &&& (3 : Int32)) = (1 : Int32)
    · refine Go.k 39 [] ?_ fun _ k_ => XS.icmpNo X0.here hx rfl (hb hby at_36) rfl (teq hc24).2 k_
      refine Go.k 41 [(.int b3)] ?_ fun _ k_ => XS.iload X0.here hx rfl (hb hby at_39) rfl k_
      refine Go.k 52 [(.int b3)] ?_ fun _ k_ => XS.goto X0.here hx rfl (pc0 := 41) (pc' := 52) rfl (hb hby at_41) (by decide) (by decide) k_
      refine Go.s (g' := (mkF m 54 #[(sI p1), (sJ p2), .second, (sJ p3), .second, (sJ p4), .second, (sI p5), (sI p6), (sI b1), (sI b3), (sI (p5 &&& (3 : Int32))), (sI b3), .unset, .unset, .unset, .unset, .unset, .unset, .unset, .unset, .unset, .unset, .unset, .unset, .unset, .unset, .unset, .unset, .unset] [])) ?_ fun _ k_ => XS.istore X0.here hx rfl (hb hby at_52) rfl (l' := #[(sI p1), (sJ p2), .second, (sJ p3), .second, (sJ p4), .second, (sI p5), (sI p6), (sI b1), (sI b3), (sI (p5 &&& (3 : Int32))), (sI b3), .unset, .unset, .unset, .unset, .unset, .unset, .unset, .unset, .unset, .unset, .unset, .unset, .unset, .unset, .unset, .unset, .unset]) rfl k_
      refine Go.k 56 [(.int p6)] ?_ fun _ k_ => XS.iload X0.here hx rfl (hb hby at_54) rfl k_
      refine Go.k 57 [(.int (1 : Int32)), (.int p6)] ?_ fun _ k_ => XT.iconstV X0.here hx rfl (1 : Int32) (hb hby at_56) (by decide) k_
      refine Go.k 58 [(.int (p6 &&& (1 : Int32)))] ?_ fun _ k_ => XS.iand X0.here hx rfl (hb hby at_57) rfl k_
      by_cases hc25 : (p6 &&& (1 : Int32)) = (0 : Int32)
      · refine Go.k 61 [] ?_ fun _ k_ => XS.ifNo X0.here hx rfl (hb hby at_58) rfl ((if0 _ _).trans (teq hc25).2) k_
        refine Go.k 62 [(.int (0 : Int32))] ?_ fun _ k_ => XT.iconstV X0.here hx rfl (0 : Int32) (hb hby at_61) (by decide) k_
        refine Go.k 72 [(.int (0 : Int32))] ?_ fun _ k_ => XS.goto X0.here hx rfl (pc0 := 62) (pc' := 72) rfl (hb hby at_62) (by decide) (by decide) k_
        refine Go.s (g' := (mkF m 74 #[(sI p1), (sJ p2), .second, (sJ p3), .second, (sJ p4), .second, (sI p5), (sI p6), (sI b1), (sI b3), (sI (p5 &&& (3 : Int32))), (sI b3), (sI (0 : Int32)), .unset, .unset, .unset, .unset, .unset, .unset, .unset, .unset, .unset, .unset, .unset, .unset, .unset, .unset, .unset, .unset] [])) ?_ fun _ k_ => XS.istore X0.here hx rfl (hb hby at_72) rfl (l' := #[(sI p1), (sJ p2), .second, (sJ p3), .second, (sJ p4), .second, (sI p5), (sI p6), (sI b1), (sI b3), (sI (p5 &&& (3 : Int32))), (sI b3), (sI (0 : Int32)), .unset, .unset, .unset, .unset, .unset, .unset, .unset, .unset, .unset, .unset, .unset, .unset, .unset, .unset, .unset, .unset]) rfl k_
        exact tail b1 b3 b3 (0 : Int32) (by omega) (by omega) (by omega) (by omega) (by omega) (by omega) (by decide) (by decide)
      · refine Go.k 65 [] ?_ fun _ k_ => XS.ifYes X0.here hx rfl (pc0 := 58) (pc' := 65) rfl (hb hby at_58) rfl ((if0 _ _).trans (feq hc25).2) (by decide) (by decide) k_
        refine Go.k 67 [(.int p6)] ?_ fun _ k_ => XS.iload X0.here hx rfl (hb hby at_65) rfl k_
        refine Go.k 68 [(.int (1 : Int32)), (.int p6)] ?_ fun _ k_ => XT.iconstV X0.here hx rfl (1 : Int32) (hb hby at_67) (by decide) k_
        refine Go.k 69 [(.int (XT.ushr p6 (1 : Int32)))] ?_ fun _ k_ => XT.iushr X0.here hx rfl (hb hby at_68) rfl k_
        refine Go.k 71 [(.int (524287 : Int32)), (.int (XT.ushr p6 (1 : Int32)))] ?_ fun _ k_ => X0.ldcI hx hown (mvT hZ (wq hw 0 rfl)) rfl (hb hby at_69) k_
        refine Go.k 72 [(.int ((XT.ushr p6 (1 : Int32)) &&& (524287 : Int32)))] ?_ fun _ k_ => XS.iand X0.here hx rfl (hb hby at_71) rfl k_
        have m_fr := c_mask (XT.ushr p6 (1 : Int32)) 524287 19 (by decide) (by decide)
        have t_fr : ((2 ^ 19 : Nat) : Int) = 524288 := rfl
        generalize ((XT.ushr p6 (1 : Int32)) &&& (524287 : Int32)) = fr at *
        have a_fr : 0 ≤ fr.toInt := by omega
        have b_fr : fr.toInt ≤ 524287 := by omega
        refine Go.s (g' := (mkF m 74 #[(sI p1), (sJ p2), .second, (sJ p3), .second, (sJ p4), .second, (sI p5), (sI p6), (sI b1), (sI b3), (sI (p5 &&& (3 : Int32))), (sI b3), (sI fr), .unset, .unset, .unset, .unset, .unset, .unset, .unset, .unset, .unset, .unset, .unset, .unset, .unset, .unset, .unset, .unset] [])) ?_ fun _ k_ => XS.istore X0.here hx rfl (hb hby at_72) rfl (l' := #[(sI p1), (sJ p2), .second, (sJ p3), .second, (sJ p4), .second, (sI p5), (sI p6), (sI b1), (sI b3), (sI (p5 &&& (3 : Int32))), (sI b3), (sI fr), .unset, .unset, .unset, .unset, .unset, .unset, .unset, .unset, .unset, .unset, .unset, .unset, .unset, .unset, .unset, .unset]) rfl k_
        exact tail b1 b3 b3 fr (by omega) (by omega) (by omega) (by omega) (by omega) (by omega) (by omega) (by omega)
    · refine Go.k 44 [] ?_ fun _ k_ => XS.icmpYes X0.here hx rfl (pc0 := 36) (pc' := 44) rfl (hb hby at_36) rfl (feq hc24).2 (by decide) (by decide) k_
      refine Go.k 46 [(.int p5)] ?_ fun _ k_ => XS.iload X0.here hx rfl (hb hby at_44) rfl k_
      refine Go.k 47 [(.int (2 : Int32)), (.int p5)] ?_ fun _ k_ => XT.iconstV X0.here hx rfl (2 : Int32) (hb hby at_46) (by decide) k_
      refine Go.k 48 [(.int (XT.ushr p5 (2 : Int32)))] ?_ fun _ k_ => XT.iushr X0.here hx rfl (hb hby at_47) rfl k_
      refine Go.k 51 [(.int (16383 : Int32)), (.int (XT.ushr p5 (2 : Int32)))] ?_ fun _ k_ => XT.sipushV X0.here hx rfl (16383 : Int32) (hb hby at_48) (by decide) k_
      refine Go.k 52 [(.int ((XT.ushr p5 (2 : Int32)) &&& (16383 : Int32)))] ?_ fun _ k_ => XS.iand X0.here hx rfl (hb hby at_51) rfl k_
      have m_b2 := c_mask (XT.ushr p5 (2 : Int32)) 16383 14 (by decide) (by decide)
      have t_b2 : ((2 ^ 14 : Nat) : Int) = 16384 := rfl
      generalize ((XT.ushr p5 (2 : Int32)) &&& (16383 : Int32)) = b2 at *
      have a_b2 : 0 ≤ b2.toInt := by omega
      have b_b2 : b2.toInt ≤ 16383 := by omega
      refine Go.s (g' := (mkF m 54 #[(sI p1), (sJ p2), .second, (sJ p3), .second, (sJ p4), .second, (sI p5), (sI p6), (sI b1), (sI b3), (sI (p5 &&& (3 : Int32))), (sI b2), .unset, .unset, .unset, .unset, .unset, .unset, .unset, .unset, .unset, .unset, .unset, .unset, .unset, .unset, .unset, .unset, .unset] [])) ?_ fun _ k_ => XS.istore X0.here hx rfl (hb hby at_52) rfl (l' := #[(sI p1), (sJ p2), .second, (sJ p3), .second, (sJ p4), .second, (sI p5), (sI p6), (sI b1), (sI b3), (sI (p5 &&& (3 : Int32))), (sI b2), .unset, .unset, .unset, .unset, .unset, .unset, .unset, .unset, .unset, .unset, .unset, .unset, .unset, .unset, .unset, .unset, .unset]) rfl k_
      refine Go.k 56 [(.int p6)] ?_ fun _ k_ => XS.iload X0.here hx rfl (hb hby at_54) rfl k_
      refine Go.k 57 [(.int (1 : Int32)), (.int p6)] ?_ fun _ k_ => XT.iconstV X0.here hx rfl (1 : Int32) (hb hby at_56) (by decide) k_
      refine Go.k 58 [(.int (p6 &&& (1 : Int32)))] ?_ fun _ k_ => XS.iand X0.here hx rfl (hb hby at_57) rfl k_
      by_cases hc26 : (p6 &&& (1 : Int32)) = (0 : Int32)
      · refine Go.k 61 [] ?_ fun _ k_ => XS.ifNo X0.here hx rfl (hb hby at_58) rfl ((if0 _ _).trans (teq hc26).2) k_
        refine Go.k 62 [(.int (0 : Int32))] ?_ fun _ k_ => XT.iconstV X0.here hx rfl (0 : Int32) (hb hby at_61) (by decide) k_
        refine Go.k 72 [(.int (0 : Int32))] ?_ fun _ k_ => XS.goto X0.here hx rfl (pc0 := 62) (pc' := 72) rfl (hb hby at_62) (by decide) (by decide) k_
        refine Go.s (g' := (mkF m 74 #[(sI p1), (sJ p2), .second, (sJ p3), .second, (sJ p4), .second, (sI p5), (sI p6), (sI b1), (sI b3), (sI (p5 &&& (3 : Int32))), (sI b2), (sI (0 : Int32)), .unset, .unset, .unset, .unset, .unset, .unset, .unset, .unset, .unset, .unset, .unset, .unset, .unset, .unset, .unset, .unset] [])) ?_ fun _ k_ => XS.istore X0.here hx rfl (hb hby at_72) rfl (l' := #[(sI p1), (sJ p2), .second, (sJ p3), .second, (sJ p4), .second, (sI p5), (sI p6), (sI b1), (sI b3), (sI (p5 &&& (3 : Int32))), (sI b2), (sI (0 : Int32)), .unset, .unset, .unset, .unset, .unset, .unset, .unset, .unset, .unset, .unset, .unset, .unset, .unset, .unset, .unset, .unset]) rfl k_
        exact tail b1 b3 b2 (0 : Int32) (by omega) (by omega) (by omega) (by omega) (by omega) (by omega) (by decide) (by decide)
      · refine Go.k 65 [] ?_ fun _ k_ => XS.ifYes X0.here hx rfl (pc0 := 58) (pc' := 65) rfl (hb hby at_58) rfl ((if0 _ _).trans (feq hc26).2) (by decide) (by decide) k_
        refine Go.k 67 [(.int p6)] ?_ fun _ k_ => XS.iload X0.here hx rfl (hb hby at_65) rfl k_
        refine Go.k 68 [(.int (1 : Int32)), (.int p6)] ?_ fun _ k_ => XT.iconstV X0.here hx rfl (1 : Int32) (hb hby at_67) (by decide) k_
        refine Go.k 69 [(.int (XT.ushr p6 (1 : Int32)))] ?_ fun _ k_ => XT.iushr X0.here hx rfl (hb hby at_68) rfl k_
        refine Go.k 71 [(.int (524287 : Int32)), (.int (XT.ushr p6 (1 : Int32)))] ?_ fun _ k_ => X0.ldcI hx hown (mvT hZ (wq hw 0 rfl)) rfl (hb hby at_69) k_
        refine Go.k 72 [(.int ((XT.ushr p6 (1 : Int32)) &&& (524287 : Int32)))] ?_ fun _ k_ => XS.iand X0.here hx rfl (hb hby at_71) rfl k_
        have m_fr := c_mask (XT.ushr p6 (1 : Int32)) 524287 19 (by decide) (by decide)
        have t_fr : ((2 ^ 19 : Nat) : Int) = 524288 := rfl
        generalize ((XT.ushr p6 (1 : Int32)) &&& (524287 : Int32)) = fr at *
        have a_fr : 0 ≤ fr.toInt := by omega
        have b_fr : fr.toInt ≤ 524287 := by omega
        refine Go.s (g' := (mkF m 74 #[(sI p1), (sJ p2), .second, (sJ p3), .second, (sJ p4), .second, (sI p5), (sI p6), (sI b1), (sI b3), (sI (p5 &&& (3 : Int32))), (sI b2), (sI fr), .unset, .unset, .unset, .unset, .unset, .unset, .unset, .unset, .unset, .unset, .unset, .unset, .unset, .unset, .unset, .unset] [])) ?_ fun _ k_ => XS.istore X0.here hx rfl (hb hby at_72) rfl (l' := #[(sI p1), (sJ p2), .second, (sJ p3), .second, (sJ p4), .second, (sI p5), (sI p6), (sI b1), (sI b3), (sI (p5 &&& (3 : Int32))), (sI b2), (sI fr), .unset, .unset, .unset, .unset, .unset, .unset, .unset, .unset, .unset, .unset, .unset, .unset, .unset, .unset, .unset, .unset]) rfl k_
        exact tail b1 b3 b2 fr (by omega) (by omega) (by omega) (by omega) (by omega) (by omega) (by omega) (by omega)
set_option maxRecDepth 65536 in
set_option maxHeartbeats 40000000 in
theorem comes_1 {Post : Tables → Env → Array Value → State → Outcome → State → Prop} (hpost : ∀ tb e args s v u, (limb_1_1.after args s (.returned v) u = true ∧ limb_1_2.after args s (.returned v) u = true ∧ True) → FrameEnd s (.returned v) u (Jvm.fieldLocs frame_1_writes args s ++ Jvm.arrayLocs frame_1_arrays args s ++ Jvm.staticLocs frame_1_statics s) 40 50048 → Post tb e args s (.returned v) u) :
    ArmFor flags0 classFile x code maxLocals ret World_1 tables_1 room_1 Calls_1 rest_1 Pre_1 Post := by
  intro l hfl _ _ p e ha hc hk s m args below hf hA hF happ hP
  obtain ⟨hcalls, hrest, hpre⟩ := hP
  obtain ⟨-, -, -, hnamed, -, -, -, hat⟩ := (Spec.applies_iff hf).mp happ
  obtain ⟨hg, hn⟩ := and_e (Cond.before_iff.mp (show (Jvm.Cond.and given_1 narrow_1).before args s = true from hpre))
  obtain ⟨g0, hg⟩ := and_e hg
  obtain ⟨g1, hg⟩ := and_e hg
  obtain ⟨g2, hg⟩ := and_e hg
  obtain ⟨g3, hg⟩ := and_e hg
  obtain ⟨g4, hg⟩ := and_e hg
  obtain ⟨g5, hg⟩ := and_e hg
  obtain ⟨w0, w1, w2, w3, w4, w5, rfl⟩ : ∃ w0 w1 w2 w3 w4 w5 : Value, args = #[w0, w1, w2, w3, w4, w5] := by
    have hs : args.size = 6 := by simpa [Cond.value, given_1] using g0
    obtain ⟨L⟩ := args
    match L, hs with
    | [w0, w1, w2, w3, w4, w5], _ => exact ⟨w0, w1, w2, w3, w4, w5, rfl⟩
  have hw := fun d (hd : d ∈ tables_1) => atoms_spec (ws := Jvm.Cond.code x code maxLocals ret :: tables_1) hat d (List.mem_cons_of_mem _ hd)
  obtain ⟨i0, ei0⟩ := is_v g1
  obtain rfl : w0 = (.int i0) := Option.some.inj ei0
  obtain ⟨i1, ei1⟩ := isL_v g2
  obtain rfl : w1 = (.long i1) := Option.some.inj ei1
  obtain ⟨i2, ei2⟩ := isL_v g3
  obtain rfl : w2 = (.long i2) := Option.some.inj ei2
  obtain ⟨i3, ei3⟩ := isL_v g4
  obtain rfl : w3 = (.long i3) := Option.some.inj ei3
  obtain ⟨i4, ei4⟩ := is_v g5
  obtain rfl : w4 = (.int i4) := Option.some.inj ei4
  obtain ⟨i5, ei5⟩ := is_v hg
  obtain rfl : w5 = (.int i5) := Option.some.inj ei5
  obtain ⟨n, o, h1, h2, h3, _, L, rfl, ⟨rfl, N⟩, hq⟩ := rm0 l s _ hw tables_1 i0 i1 i2 i3 i4 i5 s.heap s.heap.size (Nat.le_refl _)  p e ha hc hk s m _ below hf ((Spec.applies_iff_loose hf).mp happ).1 ⟨rfl, State.Warmed39.refl s, rfl⟩ trivial
  refine ⟨n, _, h1, h2, h3, hpost _ _ _ _ _ _ ⟨Cond.after_iff.mpr rfl, Cond.after_iff.mpr (eq_i res_at (Term.int_eval (1)) rfl), trivial⟩ ⟨hq.1, hq.2.1, (hq.2.2.sift fun y hy => Or.inr (N y hy)).mono (by decide) (by decide)⟩⟩
theorem main_1_1 : Claimed_1_1 := comes_1 fun _ _ _ _ _ _ h hF => ⟨h.1, hF⟩
theorem main_1_2 : Claimed_1_2 := comes_1 fun _ _ _ _ _ _ h hF => ⟨h.2.1, hF⟩
end Jvm.Pilot.@@N@@
namespace Jvm.Pilot.@@N@@
open Jvm Jvm.ClassFile Sem Op Lib Jvm.Free Jvm.Stand Jvm.Pilot.@@N@@.Jvm.D
/-! MADE BY PROGRAM (witnessworld.py) out of the Statement's table words and the real class files: 20 classes; the members and pool entries that the words name. The judged class is class 1, her method 3. -/
namespace start1
open Jvm.ClassFile
def u (s : String) : CpInfo := .utf8 (stringToUtf16 s)
/-- a pool by its gaps: so many unusable entries, then the entry; so many at the end -/
def gap : Nat → List CpInfo → List CpInfo
  | 0, r => r
  | n + 1, r => .unusable :: gap n r
def poolList (es : List (Nat × CpInfo)) (last : Nat) : List CpInfo := es.foldr (fun e r => gap e.1 (e.2 :: r)) (gap last [])
def pool (es : List (Nat × CpInfo)) (last : Nat) : Array CpInfo := ⟨poolList es last⟩
def fileOf (pool : Array CpInfo) (this : Nat) (attrs : Array Attribute := #[]) (ms : Array MethodInfo := #[]) (fl : Nat := 33) (sup : Nat := 0) (ifs : Array Nat := #[]) (fds : Array FieldInfo := #[]) : ClassFile where
  minorVersion := 0
  majorVersion := 65
  constantPool := pool
  accessFlags := fl
  thisClass := this
  superClass := sup
  interfaces := ifs
  fields := fds
  methods := ms
  attributes := attrs
def plain (name : String) (sup : Option ClassId) : Class where
  name := name
  kind := .ordinary
  loader := none
  accessFlags := 33
  super := sup
  interfaces := #[]
  cf := none
  fields := #[]
  methods := #[]
  instanceTypes := #[]
  staticTypes := #[]
  resolved := #[]
  callSites := []
  init := .initialized
  statics := none
  mirror := none

def pool0 : Array CpInfo := pool [(5, u "<init>"), (0, u "()V"), (1, .class_ 10), (1, u "java/lang/Object")] 113

def k0c0 : Code := { maxStack := 0, maxLocals := 1, code := object_method_1_code, exceptionTable := #[], attributes := #[] }
def k0m0 : Method := { name := "<init>", desc := "()V", sig := { parameters := [], returnType := none }, accessFlags := 1, code := some k0c0 }
/-- java/lang/Object -/
def k0 : Class := { plain "java/lang/Object" none with
  accessFlags := 33
  interfaces := #[]
  cf := some (fileOf pool0 8 #[] #[{ accessFlags := 1, nameIndex := 5, descriptorIndex := 6, attributes := #[] }] 33 0 #[] #[])
  fields := #[]
  methods := #[k0m0]
  instanceTypes := #[]
  staticTypes := #[]
  resolved := Array.replicate 124 none
  statics := none }

def pool1 : Array CpInfo := pool [(2, .class_ 4), (0, .nameAndType 5 6), (0, u "java/lang/Object"), (0, u "<init>"), (0, u "()V"), (0, .long 18446744073709551615), (1, .long 64), (1, .methodref 12 13), (0, .class_ 14), (0, .nameAndType 15 16), (0, u "java/lang/Math"), (0, u "max"), (0, u "(JJ)J"), (0, .methodref 12 18), (0, .nameAndType 19 16), (0, u "min"), (0, .integer 524287), (0, .class_ 22), (0, u "com/example/slantwise/slantwise/engine/WordIndex"), (0, .methodref 21 3), (0, .methodref 21 25), (0, .nameAndType 26 27), (0, u "addAll"), (0, u "(IJ)V"), (0, .methodref 21 29), (0, .nameAndType 30 27), (0, u "removeAll"), (0, .methodref 32 33), (0, .class_ 34), (0, .nameAndType 35 36), (0, u "com/example/slantwise/slantwise/engine/WordIndexRemoveAllPinLaw"), (0, u "exp"), (0, u "(IIJIJIJ)J"), (0, .methodref 21 38), (0, .nameAndType 39 40), (0, u "block"), (0, u "(I)J"), (0, .methodref 21 42), (0, .nameAndType 43 44), (0, u "next"), (0, u "(I)I"), (0, .long 1099511627776), (1, .methodref 32 48), (0, .nameAndType 49 50), (0, u "anyIn"), (0, u "(IJJJ)Z"), (3, u "law"), (0, u "(IJJJII)Z")] 2

def k1m0 : Method := { name := "<init>", desc := "()V", sig := { parameters := [], returnType := none }, accessFlags := 1, code := none }
def k1c1 : Code := { maxStack := 6, maxLocals := 12, code := method_2_code, exceptionTable := #[], attributes := #[] }
def k1m1 : Method := { name := "exp", desc := "(IIJIJIJ)J", sig := { parameters := [.int, .int, .long, .int, .long, .int, .long], returnType := some .long }, accessFlags := 10, code := some k1c1 }
def k1c2 : Code := { maxStack := 6, maxLocals := 17, code := method_3_code, exceptionTable := #[], attributes := #[] }
def k1m2 : Method := { name := "anyIn", desc := "(IJJJ)Z", sig := { parameters := [.int, .long, .long, .long], returnType := some .boolean }, accessFlags := 10, code := some k1c2 }
def k1c3 : Code := { maxStack := 10, maxLocals := 30, code := code, exceptionTable := #[], attributes := #[] }
def k1m3 : Method := { name := "law", desc := "(IJJJII)Z", sig := { parameters := [.int, .long, .long, .long, .int, .int], returnType := some .boolean }, accessFlags := 9, code := some k1c3 }
/-- com/example/slantwise/slantwise/engine/WordIndexRemoveAllPinLaw -/
def k1 : Class := { plain "com/example/slantwise/slantwise/engine/WordIndexRemoveAllPinLaw" (some 0) with
  accessFlags := 49
  interfaces := #[]
  cf := some (fileOf pool1 32 #[] #[{ accessFlags := 1, nameIndex := 5, descriptorIndex := 6, attributes := #[] }, { accessFlags := 10, nameIndex := 35, descriptorIndex := 36, attributes := #[] }, { accessFlags := 10, nameIndex := 49, descriptorIndex := 50, attributes := #[] }, { accessFlags := 9, nameIndex := 54, descriptorIndex := 55, attributes := #[] }] 49 2 #[] #[])
  fields := #[]
  methods := #[k1m0, k1m1, k1m2, k1m3]
  instanceTypes := #[]
  staticTypes := #[]
  resolved := Array.replicate 58 none
  statics := none }

def pool2 : Array CpInfo := pool [(1, .methodref 2 3), (0, .class_ 4), (0, .nameAndType 5 6), (0, u "java/lang/Object"), (0, u "<init>"), (0, u "()V"), (0, .class_ 8), (0, u "com/example/slantwise/slantwise/engine/WordIndex"), (0, .class_ 10), (0, u "[[J"), (0, .fieldref 7 12), (0, .nameAndType 13 10), (0, u "levels"), (2, u "addAll"), (0, u "(IJ)V"), (2, u "removeAll"), (0, .methodref 7 22), (0, .nameAndType 23 24), (0, u "reserve"), (0, u "(I)V"), (0, .long 18446744073709551615), (1, .methodref 28 29), (0, .class_ 30), (0, .nameAndType 31 32), (0, u "java/lang/Long"), (0, u "numberOfTrailingZeros"), (0, u "(J)I"), (2, u "next"), (0, u "(I)I"), (4, .methodref 42 43), (0, .class_ 44), (0, .nameAndType 45 46), (0, u "java/lang/Math"), (0, u "max"), (0, u "(II)I"), (0, .methodref 48 49), (0, .class_ 50), (0, .nameAndType 51 52), (0, u "java/util/Arrays"), (0, u "copyOf"), (0, u "([JI)[J"), (0, u "LEVELS"), (0, u "I"), (4, u "block"), (0, u "(I)J")] 9

def k2c0 : Code := { maxStack := 3, maxLocals := 1, code := prog_59_method_1_code, exceptionTable := #[], attributes := #[] }
def k2m0 : Method := { name := "<init>", desc := "()V", sig := { parameters := [], returnType := none }, accessFlags := 0, code := some k2c0 }
def k2c1 : Code := { maxStack := 2, maxLocals := 3, code := prog_59_method_2_code, exceptionTable := #[], attributes := #[] }
def k2m1 : Method := { name := "block", desc := "(I)J", sig := { parameters := [.int], returnType := some .long }, accessFlags := 0, code := some k2c1 }
def k2c2 : Code := { maxStack := 6, maxLocals := 10, code := prog_59_method_5_code, exceptionTable := #[], attributes := #[] }
def k2m2 : Method := { name := "addAll", desc := "(IJ)V", sig := { parameters := [.int, .long], returnType := none }, accessFlags := 0, code := some k2c2 }
def k2c3 : Code := { maxStack := 6, maxLocals := 12, code := prog_59_method_6_code, exceptionTable := #[], attributes := #[] }
def k2m3 : Method := { name := "removeAll", desc := "(IJ)V", sig := { parameters := [.int, .long], returnType := none }, accessFlags := 0, code := some k2c3 }
def k2c4 : Code := { maxStack := 5, maxLocals := 8, code := prog_59_method_7_code, exceptionTable := #[], attributes := #[] }
def k2m4 : Method := { name := "next", desc := "(I)I", sig := { parameters := [.int], returnType := some .int }, accessFlags := 0, code := some k2c4 }
def k2c5 : Code := { maxStack := 4, maxLocals := 4, code := prog_59_method_11_code, exceptionTable := #[], attributes := #[] }
def k2m5 : Method := { name := "reserve", desc := "(I)V", sig := { parameters := [.int], returnType := none }, accessFlags := 2, code := some k2c5 }
/-- com/example/slantwise/slantwise/engine/WordIndex -/
def k2 : Class := { plain "com/example/slantwise/slantwise/engine/WordIndex" (some 0) with
  accessFlags := 48
  interfaces := #[]
  cf := some (fileOf pool2 7 #[] #[{ accessFlags := 0, nameIndex := 5, descriptorIndex := 6, attributes := #[] }, { accessFlags := 0, nameIndex := 59, descriptorIndex := 60, attributes := #[] }, { accessFlags := 0, nameIndex := 16, descriptorIndex := 17, attributes := #[] }, { accessFlags := 0, nameIndex := 20, descriptorIndex := 17, attributes := #[] }, { accessFlags := 0, nameIndex := 35, descriptorIndex := 36, attributes := #[] }, { accessFlags := 2, nameIndex := 23, descriptorIndex := 24, attributes := #[] }] 48 2 #[] #[{ accessFlags := 26, nameIndex := 53, descriptorIndex := 54, attributes := #[] }, { accessFlags := 18, nameIndex := 13, descriptorIndex := 10, attributes := #[] }])
  fields := #[{ name := "LEVELS", type := .int, accessFlags := 26, slot := 0, constantValue := 0 }, { name := "levels", type := (.array (.array .long)), accessFlags := 18, slot := 0, constantValue := 0 }]
  methods := #[k2m0, k2m1, k2m2, k2m3, k2m4, k2m5]
  instanceTypes := #[(.array (.array .long))]
  staticTypes := #[.int]
  resolved := Array.replicate 70 none
  statics := none }

def pool3 : Array CpInfo := pool [(1, .class_ 2), (0, u "java/io/Serializable"), (0, .class_ 4), (0, u "java/lang/Object")] 2

/-- java/io/Serializable -/
def k3 : Class := { plain "java/io/Serializable" (some 0) with
  accessFlags := 1537
  interfaces := #[]
  cf := some (fileOf pool3 1 #[] #[] 1537 3 #[] #[])
  fields := #[]
  methods := #[]
  instanceTypes := #[]
  staticTypes := #[]
  resolved := Array.replicate 7 none
  statics := none }

def pool4 : Array CpInfo := pool [(2, .class_ 4), (1, u "java/lang/Object"), (0, u "<init>"), (0, u "()V"), (1, .class_ 10), (1, u "java/lang/Number"), (2, .class_ 14), (0, u "java/io/Serializable"), (0, u "serialVersionUID"), (0, u "J")] 20

def k4m0 : Method := { name := "<init>", desc := "()V", sig := { parameters := [], returnType := none }, accessFlags := 1, code := none }
/-- java/lang/Number -/
def k4 : Class := { plain "java/lang/Number" (some 0) with
  accessFlags := 1057
  interfaces := #[3]
  cf := some (fileOf pool4 8 #[] #[{ accessFlags := 1, nameIndex := 5, descriptorIndex := 6, attributes := #[] }] 1057 2 #[13] #[{ accessFlags := 26, nameIndex := 15, descriptorIndex := 16, attributes := #[] }])
  fields := #[{ name := "serialVersionUID", type := .long, accessFlags := 26, slot := 0, constantValue := 0 }]
  methods := #[k4m0]
  instanceTypes := #[]
  staticTypes := #[.long]
  resolved := Array.replicate 37 none
  statics := none }

def pool5 : Array CpInfo := pool [(1, .class_ 2), (0, u "java/lang/Comparable"), (0, .class_ 4), (0, u "java/lang/Object")] 7

/-- java/lang/Comparable -/
def k5 : Class := { plain "java/lang/Comparable" (some 0) with
  accessFlags := 1537
  interfaces := #[]
  cf := some (fileOf pool5 1 #[] #[] 1537 3 #[] #[])
  fields := #[]
  methods := #[]
  instanceTypes := #[]
  staticTypes := #[]
  resolved := Array.replicate 12 none
  statics := none }

def pool6 : Array CpInfo := pool [(1, .class_ 2), (0, u "java/lang/constant/Constable"), (0, .class_ 4), (0, u "java/lang/Object")] 6

/-- java/lang/constant/Constable -/
def k6 : Class := { plain "java/lang/constant/Constable" (some 0) with
  accessFlags := 1537
  interfaces := #[]
  cf := some (fileOf pool6 1 #[] #[] 1537 3 #[] #[])
  fields := #[]
  methods := #[]
  instanceTypes := #[]
  staticTypes := #[]
  resolved := Array.replicate 11 none
  statics := none }

def pool7 : Array CpInfo := pool [(1, .class_ 2), (0, u "java/lang/constant/ConstantDesc"), (0, .class_ 4), (0, u "java/lang/Object")] 32

/-- java/lang/constant/ConstantDesc -/
def k7 : Class := { plain "java/lang/constant/ConstantDesc" (some 0) with
  accessFlags := 1537
  interfaces := #[]
  cf := some (fileOf pool7 1 #[] #[] 1537 3 #[] #[])
  fields := #[]
  methods := #[]
  instanceTypes := #[]
  staticTypes := #[]
  resolved := Array.replicate 37 none
  statics := none }

def pool8 : Array CpInfo := pool [(1, .class_ 2), (0, u "java/lang/Long"), (15, .class_ 20), (1, u "java/lang/Integer"), (80, u "(J)I"), (133, .class_ 237), (1, u "java/lang/Long$LongCache"), (33, .class_ 272), (0, u "java/lang/Number"), (2, u "value"), (0, u "J"), (33, u "(I)I"), (0, .methodref 18 312), (0, .nameAndType 313 310), (0, u "numberOfTrailingZeros"), (47, u "TYPE"), (0, u "Ljava/lang/Class;"), (0, .class_ 364), (0, u "java/lang/Comparable"), (0, .class_ 366), (0, u "java/lang/constant/Constable"), (0, .class_ 368), (0, u "java/lang/constant/ConstantDesc"), (0, u "MIN_VALUE"), (1, u "MAX_VALUE"), (4, u "SIZE"), (0, u "I"), (1, u "BYTES"), (1, u "serialVersionUID")] 142

def k8c0 : Code := { maxStack := 4, maxLocals := 3, code := jdk_35_method_49_code, exceptionTable := #[], attributes := #[] }
def k8m0 : Method := { name := "numberOfTrailingZeros", desc := "(J)I", sig := { parameters := [.long], returnType := some .int }, accessFlags := 9, code := some k8c0 }
/-- java/lang/Long -/
def k8 : Class := { plain "java/lang/Long" (some 4) with
  accessFlags := 49
  interfaces := #[5, 6, 7]
  cf := some (fileOf pool8 1 #[.nestMembers #[235]] #[{ accessFlags := 9, nameIndex := 313, descriptorIndex := 101, attributes := #[] }] 49 271 #[363, 365, 367] #[{ accessFlags := 25, nameIndex := 369, descriptorIndex := 276, attributes := #[] }, { accessFlags := 25, nameIndex := 371, descriptorIndex := 276, attributes := #[] }, { accessFlags := 25, nameIndex := 361, descriptorIndex := 362, attributes := #[] }, { accessFlags := 18, nameIndex := 275, descriptorIndex := 276, attributes := #[] }, { accessFlags := 25, nameIndex := 376, descriptorIndex := 377, attributes := #[] }, { accessFlags := 25, nameIndex := 379, descriptorIndex := 377, attributes := #[] }, { accessFlags := 26, nameIndex := 381, descriptorIndex := 276, attributes := #[] }])
  fields := #[{ name := "MIN_VALUE", type := .long, accessFlags := 25, slot := 0, constantValue := 0 }, { name := "MAX_VALUE", type := .long, accessFlags := 25, slot := 1, constantValue := 0 }, { name := "TYPE", type := (.object "java/lang/Class"), accessFlags := 25, slot := 2, constantValue := 0 }, { name := "value", type := .long, accessFlags := 18, slot := 0, constantValue := 0 }, { name := "SIZE", type := .int, accessFlags := 25, slot := 3, constantValue := 0 }, { name := "BYTES", type := .int, accessFlags := 25, slot := 4, constantValue := 0 }, { name := "serialVersionUID", type := .long, accessFlags := 26, slot := 5, constantValue := 0 }]
  methods := #[k8m0]
  instanceTypes := #[.long]
  staticTypes := #[.long, .long, (.object "java/lang/Class"), .int, .int, .long]
  resolved := Array.replicate 524 none
  statics := none }

def pool9 : Array CpInfo := pool [(1, .class_ 2), (0, u "java/lang/Integer"), (16, u "digits"), (0, u "[C"), (33, u "(I)I"), (30, u "DigitOnes"), (0, u "[B"), (2, u "DigitTens"), (99, .class_ 190), (0, u "java/lang/Integer$IntegerCache"), (3, u "I"), (8, .class_ 204), (0, u "java/lang/Number"), (2, u "value"), (56, .integer 65536), (37, u "TYPE"), (0, u "Ljava/lang/Class;"), (0, .class_ 305), (0, u "java/lang/Comparable"), (0, .class_ 307), (0, u "java/lang/constant/Constable"), (0, .class_ 309), (0, u "java/lang/constant/ConstantDesc"), (0, u "MIN_VALUE"), (1, u "MAX_VALUE"), (3, u "SIZE"), (1, u "BYTES"), (1, u "serialVersionUID"), (0, u "J"), (84, u "numberOfTrailingZeros")] 46

def k9c0 : Code := { maxStack := 3, maxLocals := 2, code := jdk_33_method_48_code, exceptionTable := #[], attributes := #[] }
def k9m0 : Method := { name := "numberOfTrailingZeros", desc := "(I)I", sig := { parameters := [.int], returnType := some .int }, accessFlags := 9, code := some k9c0 }
/-- java/lang/Integer -/
def k9 : Class := { plain "java/lang/Integer" (some 4) with
  accessFlags := 49
  interfaces := #[5, 6, 7]
  cf := some (fileOf pool9 1 #[.nestMembers #[189]] #[{ accessFlags := 9, nameIndex := 406, descriptorIndex := 54, attributes := #[] }] 49 203 #[304, 306, 308] #[{ accessFlags := 25, nameIndex := 310, descriptorIndex := 194, attributes := #[] }, { accessFlags := 25, nameIndex := 312, descriptorIndex := 194, attributes := #[] }, { accessFlags := 25, nameIndex := 302, descriptorIndex := 303, attributes := #[] }, { accessFlags := 24, nameIndex := 19, descriptorIndex := 20, attributes := #[] }, { accessFlags := 24, nameIndex := 89, descriptorIndex := 86, attributes := #[] }, { accessFlags := 24, nameIndex := 85, descriptorIndex := 86, attributes := #[] }, { accessFlags := 18, nameIndex := 207, descriptorIndex := 194, attributes := #[] }, { accessFlags := 25, nameIndex := 316, descriptorIndex := 194, attributes := #[] }, { accessFlags := 25, nameIndex := 318, descriptorIndex := 194, attributes := #[] }, { accessFlags := 26, nameIndex := 320, descriptorIndex := 321, attributes := #[] }])
  fields := #[{ name := "MIN_VALUE", type := .int, accessFlags := 25, slot := 0, constantValue := 0 }, { name := "MAX_VALUE", type := .int, accessFlags := 25, slot := 1, constantValue := 0 }, { name := "TYPE", type := (.object "java/lang/Class"), accessFlags := 25, slot := 2, constantValue := 0 }, { name := "digits", type := (.array .char), accessFlags := 24, slot := 3, constantValue := 0 }, { name := "DigitTens", type := (.array .byte), accessFlags := 24, slot := 4, constantValue := 0 }, { name := "DigitOnes", type := (.array .byte), accessFlags := 24, slot := 5, constantValue := 0 }, { name := "value", type := .int, accessFlags := 18, slot := 0, constantValue := 0 }, { name := "SIZE", type := .int, accessFlags := 25, slot := 6, constantValue := 0 }, { name := "BYTES", type := .int, accessFlags := 25, slot := 7, constantValue := 0 }, { name := "serialVersionUID", type := .long, accessFlags := 26, slot := 8, constantValue := 0 }]
  methods := #[k9m0]
  instanceTypes := #[.int]
  staticTypes := #[.int, .int, (.object "java/lang/Class"), (.array .char), (.array .byte), (.array .byte), .int, .int, .long]
  resolved := Array.replicate 453 none
  statics := none }

def pool10 : Array CpInfo := pool [(1, .class_ 2), (0, u "java/lang/Math"), (1, .class_ 6), (1, u "java/lang/Object"), (0, u "<init>"), (0, u "()V"), (89, .class_ 100), (1, u "java/lang/Math$RandomNumberGeneratorHolder"), (20, u "(JJ)J"), (50, u "negativeZeroFloatBits"), (0, u "J"), (2, u "negativeZeroDoubleBits"), (21, u "max"), (2, u "min"), (43, u "$assertionsDisabled"), (0, u "Z"), (88, u "(II)I"), (2, u "twoToTheDoubleScaleDown"), (0, u "D"), (4, u "twoToTheDoubleScaleUp"), (9, u "E"), (3, u "PI"), (2, u "TAU"), (2, u "DEGREES_TO_RADIANS"), (0, u "RADIANS_TO_DEGREES")] 94

def k10m0 : Method := { name := "<init>", desc := "()V", sig := { parameters := [], returnType := none }, accessFlags := 2, code := none }
def k10c1 : Code := { maxStack := 2, maxLocals := 2, code := jdk_29_method_65_code, exceptionTable := #[], attributes := #[] }
def k10m1 : Method := { name := "max", desc := "(II)I", sig := { parameters := [.int, .int], returnType := some .int }, accessFlags := 9, code := some k10c1 }
def k10c2 : Code := { maxStack := 4, maxLocals := 4, code := jdk_29_method_66_code, exceptionTable := #[], attributes := #[] }
def k10m2 : Method := { name := "max", desc := "(JJ)J", sig := { parameters := [.long, .long], returnType := some .long }, accessFlags := 9, code := some k10c2 }
def k10c3 : Code := { maxStack := 2, maxLocals := 2, code := jdk_29_method_69_code, exceptionTable := #[], attributes := #[] }
def k10m3 : Method := { name := "min", desc := "(II)I", sig := { parameters := [.int, .int], returnType := some .int }, accessFlags := 9, code := some k10c3 }
def k10c4 : Code := { maxStack := 4, maxLocals := 4, code := jdk_29_method_70_code, exceptionTable := #[], attributes := #[] }
def k10m4 : Method := { name := "min", desc := "(JJ)J", sig := { parameters := [.long, .long], returnType := some .long }, accessFlags := 9, code := some k10c4 }
/-- java/lang/Math -/
def k10 : Class := { plain "java/lang/Math" (some 0) with
  accessFlags := 49
  interfaces := #[]
  cf := some (fileOf pool10 1 #[.nestMembers #[98]] #[{ accessFlags := 2, nameIndex := 7, descriptorIndex := 8, attributes := #[] }, { accessFlags := 9, nameIndex := 198, descriptorIndex := 335, attributes := #[] }, { accessFlags := 9, nameIndex := 198, descriptorIndex := 121, attributes := #[] }, { accessFlags := 9, nameIndex := 201, descriptorIndex := 335, attributes := #[] }, { accessFlags := 9, nameIndex := 201, descriptorIndex := 121, attributes := #[] }] 49 4 #[] #[{ accessFlags := 25, nameIndex := 354, descriptorIndex := 339, attributes := #[] }, { accessFlags := 25, nameIndex := 358, descriptorIndex := 339, attributes := #[] }, { accessFlags := 25, nameIndex := 361, descriptorIndex := 339, attributes := #[] }, { accessFlags := 26, nameIndex := 364, descriptorIndex := 339, attributes := #[] }, { accessFlags := 26, nameIndex := 365, descriptorIndex := 339, attributes := #[] }, { accessFlags := 26, nameIndex := 172, descriptorIndex := 173, attributes := #[] }, { accessFlags := 26, nameIndex := 176, descriptorIndex := 173, attributes := #[] }, { accessFlags := 8, nameIndex := 344, descriptorIndex := 339, attributes := #[] }, { accessFlags := 8, nameIndex := 338, descriptorIndex := 339, attributes := #[] }, { accessFlags := 4120, nameIndex := 245, descriptorIndex := 246, attributes := #[] }])
  fields := #[{ name := "E", type := .double, accessFlags := 25, slot := 0, constantValue := 0 }, { name := "PI", type := .double, accessFlags := 25, slot := 1, constantValue := 0 }, { name := "TAU", type := .double, accessFlags := 25, slot := 2, constantValue := 0 }, { name := "DEGREES_TO_RADIANS", type := .double, accessFlags := 26, slot := 3, constantValue := 0 }, { name := "RADIANS_TO_DEGREES", type := .double, accessFlags := 26, slot := 4, constantValue := 0 }, { name := "negativeZeroFloatBits", type := .long, accessFlags := 26, slot := 5, constantValue := 0 }, { name := "negativeZeroDoubleBits", type := .long, accessFlags := 26, slot := 6, constantValue := 0 }, { name := "twoToTheDoubleScaleUp", type := .double, accessFlags := 8, slot := 7, constantValue := 0 }, { name := "twoToTheDoubleScaleDown", type := .double, accessFlags := 8, slot := 8, constantValue := 0 }, { name := "$assertionsDisabled", type := .boolean, accessFlags := 4120, slot := 9, constantValue := 0 }]
  methods := #[k10m0, k10m1, k10m2, k10m3, k10m4]
  instanceTypes := #[]
  staticTypes := #[.double, .double, .double, .double, .double, .long, .long, .double, .double, .boolean]
  resolved := Array.replicate 460 none
  statics := none }

def pool11 : Array CpInfo := pool [(2, .class_ 4), (1, u "java/lang/Object"), (0, u "<init>"), (0, u "()V"), (7, .class_ 16), (1, u "java/util/Arrays"), (57, .class_ 76), (1, u "java/util/Arrays$NaturalOrder"), (36, .class_ 115), (1, u "java/util/Arrays$LegacyMergeSort"), (1, u "Z"), (32, .methodref 151 152), (0, .class_ 153), (0, .nameAndType 154 155), (0, u "java/lang/System"), (0, u "arraycopy"), (0, u "(Ljava/lang/Object;ILjava/lang/Object;II)V"), (146, u "copyOf"), (1, .methodref 305 306), (0, .class_ 307), (0, .nameAndType 308 309), (0, u "java/lang/Math"), (0, u "min"), (0, u "(II)I"), (65, .class_ 376), (0, u "java/util/Arrays$ArrayList"), (68, u "$assertionsDisabled"), (269, u "MIN_ARRAY_SORT_GRAN"), (0, u "I"), (2, u "INSERTIONSORT_THRESHOLD"), (152, u "([JI)[J"), (102, .class_ 976), (0, u "java/util/Arrays$ArrayItr")] 52

def k11m0 : Method := { name := "<init>", desc := "()V", sig := { parameters := [], returnType := none }, accessFlags := 2, code := none }
def k11c1 : Code := { maxStack := 6, maxLocals := 3, code := jdk_65_method_124_code, exceptionTable := #[], attributes := #[] }
def k11m1 : Method := { name := "copyOf", desc := "([JI)[J", sig := { parameters := [(.array .long), .int], returnType := some (.array .long) }, accessFlags := 9, code := some k11c1 }
/-- java/util/Arrays -/
def k11 : Class := { plain "java/util/Arrays" (some 0) with
  accessFlags := 49
  interfaces := #[]
  cf := some (fileOf pool11 14 #[.nestMembers #[975, 375, 113, 74]] #[{ accessFlags := 2, nameIndex := 5, descriptorIndex := 6, attributes := #[] }, { accessFlags := 9, nameIndex := 302, descriptorIndex := 872, attributes := #[] }] 49 2 #[] #[{ accessFlags := 26, nameIndex := 715, descriptorIndex := 716, attributes := #[] }, { accessFlags := 26, nameIndex := 719, descriptorIndex := 716, attributes := #[] }, { accessFlags := 4120, nameIndex := 445, descriptorIndex := 117, attributes := #[] }])
  fields := #[{ name := "MIN_ARRAY_SORT_GRAN", type := .int, accessFlags := 26, slot := 0, constantValue := 0 }, { name := "INSERTIONSORT_THRESHOLD", type := .int, accessFlags := 26, slot := 1, constantValue := 0 }, { name := "$assertionsDisabled", type := .boolean, accessFlags := 4120, slot := 2, constantValue := 0 }]
  methods := #[k11m0, k11m1]
  instanceTypes := #[]
  staticTypes := #[.int, .int, .boolean]
  resolved := Array.replicate 1029 none
  statics := none }

def pool12 : Array CpInfo := pool [(2, .class_ 4), (1, u "java/lang/Object"), (0, u "<init>"), (0, u "()V"), (1, .class_ 10), (1, u "java/lang/System"), (0, u "allowSecurityManager"), (0, u "I"), (16, u "cons"), (0, u "Ljava/io/Console;"), (77, .class_ 110), (1, u "java/lang/System$CallersHolder"), (43, u "initialErrStream"), (0, u "Ljava/io/PrintStream;"), (19, u "security"), (0, u "Ljava/lang/SecurityManager;"), (31, .class_ 209), (0, u "java/lang/System$1"), (7, u "props"), (0, u "Ljava/util/Properties;"), (2, u "lineSeparator"), (0, u "Ljava/lang/String;"), (96, .class_ 321), (1, u "java/lang/System$LoggerFinder"), (5, .class_ 328), (0, u "java/lang/System$Logger"), (67, u "err"), (2, u "out"), (91, u "notSupportedJnuEncoding"), (15, u "in"), (17, u "initialIn"), (0, u "Ljava/io/InputStream;"), (35, u "bootLayer"), (0, u "Ljava/lang/ModuleLayer;"), (99, .class_ 664), (0, u "java/lang/System$2"), (9, u "NEVER"), (2, u "MAYBE"), (49, u "arraycopy"), (0, u "(Ljava/lang/Object;ILjava/lang/Object;II)V"), (72, .class_ 802), (0, u "java/lang/System$Logger$Level")] 31

def k12m0 : Method := { name := "<init>", desc := "()V", sig := { parameters := [], returnType := none }, accessFlags := 2, code := none }
def k12m1 : Method := { name := "arraycopy", desc := "(Ljava/lang/Object;ILjava/lang/Object;II)V", sig := { parameters := [(.object "java/lang/Object"), .int, (.object "java/lang/Object"), .int, .int], returnType := none }, accessFlags := 265, code := none }
/-- java/lang/System -/
def k12 : Class := { plain "java/lang/System" (some 0) with
  accessFlags := 49
  interfaces := #[]
  cf := some (fileOf pool12 8 #[.nestMembers #[319, 327, 801, 108, 663, 208]] #[{ accessFlags := 2, nameIndex := 5, descriptorIndex := 6, attributes := #[] }, { accessFlags := 265, nameIndex := 727, descriptorIndex := 728, attributes := #[] }] 49 2 #[] #[{ accessFlags := 25, nameIndex := 507, descriptorIndex := 526, attributes := #[] }, { accessFlags := 25, nameIndex := 399, descriptorIndex := 155, attributes := #[] }, { accessFlags := 25, nameIndex := 396, descriptorIndex := 155, attributes := #[] }, { accessFlags := 10, nameIndex := 525, descriptorIndex := 526, attributes := #[] }, { accessFlags := 26, nameIndex := 674, descriptorIndex := 12, attributes := #[] }, { accessFlags := 26, nameIndex := 677, descriptorIndex := 12, attributes := #[] }, { accessFlags := 10, nameIndex := 11, descriptorIndex := 12, attributes := #[] }, { accessFlags := 74, nameIndex := 175, descriptorIndex := 176, attributes := #[] }, { accessFlags := 10, nameIndex := 491, descriptorIndex := 222, attributes := #[] }, { accessFlags := 74, nameIndex := 29, descriptorIndex := 30, attributes := #[] }, { accessFlags := 74, nameIndex := 154, descriptorIndex := 155, attributes := #[] }, { accessFlags := 10, nameIndex := 217, descriptorIndex := 218, attributes := #[] }, { accessFlags := 10, nameIndex := 221, descriptorIndex := 222, attributes := #[] }, { accessFlags := 8, nameIndex := 562, descriptorIndex := 563, attributes := #[] }])
  fields := #[{ name := "in", type := (.object "java/io/InputStream"), accessFlags := 25, slot := 0, constantValue := 0 }, { name := "out", type := (.object "java/io/PrintStream"), accessFlags := 25, slot := 1, constantValue := 0 }, { name := "err", type := (.object "java/io/PrintStream"), accessFlags := 25, slot := 2, constantValue := 0 }, { name := "initialIn", type := (.object "java/io/InputStream"), accessFlags := 10, slot := 3, constantValue := 0 }, { name := "NEVER", type := .int, accessFlags := 26, slot := 4, constantValue := 0 }, { name := "MAYBE", type := .int, accessFlags := 26, slot := 5, constantValue := 0 }, { name := "allowSecurityManager", type := .int, accessFlags := 10, slot := 6, constantValue := 0 }, { name := "security", type := (.object "java/lang/SecurityManager"), accessFlags := 74, slot := 7, constantValue := 0 }, { name := "notSupportedJnuEncoding", type := (.object "java/lang/String"), accessFlags := 10, slot := 8, constantValue := 0 }, { name := "cons", type := (.object "java/io/Console"), accessFlags := 74, slot := 9, constantValue := 0 }, { name := "initialErrStream", type := (.object "java/io/PrintStream"), accessFlags := 74, slot := 10, constantValue := 0 }, { name := "props", type := (.object "java/util/Properties"), accessFlags := 10, slot := 11, constantValue := 0 }, { name := "lineSeparator", type := (.object "java/lang/String"), accessFlags := 10, slot := 12, constantValue := 0 }, { name := "bootLayer", type := (.object "java/lang/ModuleLayer"), accessFlags := 8, slot := 13, constantValue := 0 }]
  methods := #[k12m0, k12m1]
  instanceTypes := #[]
  staticTypes := #[(.object "java/io/InputStream"), (.object "java/io/PrintStream"), (.object "java/io/PrintStream"), (.object "java/io/InputStream"), .int, .int, .int, (.object "java/lang/SecurityManager"), (.object "java/lang/String"), (.object "java/io/Console"), (.object "java/io/PrintStream"), (.object "java/util/Properties"), (.object "java/lang/String"), (.object "java/lang/ModuleLayer")]
  resolved := Array.replicate 834 none
  statics := none }

def pool13 : Array CpInfo := pool [(1, u "java/lang/Cloneable"), (0, .class_ 1), (0, u "java/lang/Object"), (0, .class_ 3)] 3

/-- java/lang/Cloneable -/
def k13 : Class := { plain "java/lang/Cloneable" (some 0) with
  accessFlags := 1537
  interfaces := #[]
  cf := some (fileOf pool13 2 #[] #[] 1537 4 #[] #[])
  fields := #[]
  methods := #[]
  instanceTypes := #[]
  staticTypes := #[]
  resolved := Array.replicate 8 none
  statics := none }

/-- the primitive byte -/
def k14 : Class := { plain "byte" none with kind := .primitive 'B', accessFlags := 0x411 }
/-- [B -/
def k15 : Class := { plain "[B" (some 0) with kind := .array 14 .byte, interfaces := #[13, 3], accessFlags := 1041 }

/-- the primitive int -/
def k16 : Class := { plain "int" none with kind := .primitive 'I', accessFlags := 0x411 }
/-- [I -/
def k17 : Class := { plain "[I" (some 0) with kind := .array 16 .int, interfaces := #[13, 3], accessFlags := 1041 }

/-- the primitive long -/
def k18 : Class := { plain "long" none with kind := .primitive 'J', accessFlags := 0x411 }
/-- [J -/
def k19 : Class := { plain "[J" (some 0) with kind := .array 18 .long, interfaces := #[13, 3], accessFlags := 1041 }

def heap : Heap := #[]
/-- [[J -/
def k20 : Class := { plain "[[J" (some 0) with kind := .array 19 (.array .long), interfaces := #[13, 3], accessFlags := 1041 }
def classes : Array Class := #[k0, k1, k2, k3, k4, k5, k6, k7, k8, k9, k10, k11, k12, k13, k14, k15, k16, k17, k18, k19, k20]
def interned : List (Array UInt16 × Addr) := []
def slotsUsed : Nat := 0
def theMethod : MethodId := ⟨1, 3⟩
def args0 : Array Value := #[.int 5, .long 5, .long 6, .long 1, .int 3, .int 0]
def aboutOver (below : List Frame) : State where
  vm := { classes := classes, interned := interned.toArray }
  heap := heap
  slotsUsed := slotsUsed
  threads := #[{ frames := .invoking theMethod args0 :: below }]
def below0 : List Frame := [.native { method := ⟨0, 0⟩, args := #[] }]
def about1 : State := aboutOver below0
def p0 : Program := .bare "" "" ""
def e0 : Env := launch0.env 0 0 0
theorem w_frames : about1.frames = Frame.invoking theMethod args0 :: below0 := rfl
set_option maxRecDepth 65536 in
theorem w_args : argsFit about1.vm theMethod args0 = true := by decide +kernel
set_option maxRecDepth 65536 in
theorem w_heap : heapFits about1 = true := by decide +kernel
set_option maxRecDepth 65536 in
theorem w_runnable : about1.curStatus? = some .runnable := by decide +kernel
set_option maxRecDepth 65536 in
theorem w_alone : about1.alone = true := by decide +kernel
set_option maxRecDepth 65536 in
theorem w_named : about1.methodNamed? x = some theMethod := by decide +kernel
set_option maxRecDepth 65536 in
theorem w_hears : about1.hears theMethod below0 = true := by decide +kernel
set_option maxRecDepth 65536 in
theorem w_ripe : about1.ripe theMethod args0 below0 = true := by decide +kernel
theorem w_running : about1.status = .running := rfl
set_option maxRecDepth 65536 in
theorem w_room : about1.hasRoom e0.platform room_1 = true :=
  launch0.hasRoom_least _ room_1 (by decide +kernel) (by decide +kernel) (by decide +kernel) (by decide +kernel) (by decide +kernel) (by decide +kernel)
theorem allAtoms_all (ts : List Jvm.Cond) (a : Array Jvm.Value) (st : Jvm.State) : (allAtoms ts).before a st = ts.all (fun c => c.before a st) := by
  induction ts with
  | nil => rfl
  | cons c t ih =>
    show (Jvm.Cond.and c (allAtoms t)).before a st = _
    rw [Jvm.Cond.before_and, ih, List.all_cons]
def words1 : List Jvm.Cond := Jvm.Cond.code x code maxLocals ret :: tables_1
/-- a 'code' word, met by the world's own term for the bytes: nothing is compared byte by byte -/
theorem code_word {y : MethodName} {bytes : ByteArray} {mx : Nat} {rt : Option FieldType} {a : Array Value} {s : State} {m : MethodId} {meth : Method} {c : Code} (h1 : s.methodNamed? y = some m) (h2 : s.vm.method? m = some meth) (h3 : meth.code = some c) (h4 : c.code = bytes)
    (h5 : (c.maxLocals == mx && c.exceptionTable.isEmpty && decide (c.maxStack ≤ mostOperands) && decide (meth.sig.returnType = rt) && !meth.locks && decide (parseMethodDescriptor y.desc = some meth.sig)) = true) : (Jvm.Cond.code y bytes mx rt).before a s = true := by
  simp only [Bool.and_eq_true, beq_iff_eq, Bool.not_eq_true', decide_eq_true_eq] at h5
  obtain ⟨⟨⟨⟨⟨g1, g2⟩, g3⟩, g4⟩, g5⟩, g6⟩ := h5
  simp [Cond.before, Cond.holds, Cond.value, h1, h2, h3, h4, g1, g2, g3, g4, g5, g6]
def isCode : Jvm.Cond → Bool
  | .code _ _ _ _ => true
  | _ => false
theorem all_split {L : List Jvm.Cond} {P : Jvm.Cond → Bool} (h1 : L.all (fun c => isCode c || P c) = true) (h2 : ∀ c ∈ L.filter isCode, P c = true) : L.all P = true := by
  refine List.all_eq_true.mpr fun c hc => ?_
  have h := List.all_eq_true.mp h1 c hc
  rcases Bool.eq_false_or_eq_true (isCode c) with hi | hi
  · exact h2 c (List.mem_filter.mpr ⟨hc, hi⟩)
  · simpa [hi] using h
set_option maxRecDepth 65536 in
theorem w_c0 : (Jvm.Cond.code x code maxLocals ret).before args0 about1 = true := code_word (m := ⟨1, 3⟩) (meth := k1m3) (c := k1c3) (by decide +kernel) rfl rfl rfl (by decide +kernel)
set_option maxRecDepth 65536 in
theorem w_c1 : (Jvm.Cond.code ({ cls := "com/example/slantwise/slantwise/engine/WordIndex", name := "<init>", desc := "()V" } : Jvm.MethodName) prog_59_method_1_code (1 : Nat) (Option.none : Option Jvm.ClassFile.FieldType)).before args0 about1 = true := code_word (m := ⟨2, 0⟩) (meth := k2m0) (c := k2c0) (by decide +kernel) rfl rfl rfl (by decide +kernel)
set_option maxRecDepth 65536 in
theorem w_c2 : (Jvm.Cond.code ({ cls := "java/lang/Object", name := "<init>", desc := "()V" } : Jvm.MethodName) object_method_1_code (1 : Nat) (Option.none : Option Jvm.ClassFile.FieldType)).before args0 about1 = true := code_word (m := ⟨0, 0⟩) (meth := k0m0) (c := k0c0) (by decide +kernel) rfl rfl rfl (by decide +kernel)
set_option maxRecDepth 65536 in
theorem w_c3 : (Jvm.Cond.code ({ cls := "com/example/slantwise/slantwise/engine/WordIndex", name := "addAll", desc := "(IJ)V" } : Jvm.MethodName) prog_59_method_5_code (10 : Nat) (Option.none : Option Jvm.ClassFile.FieldType)).before args0 about1 = true := code_word (m := ⟨2, 2⟩) (meth := k2m2) (c := k2c2) (by decide +kernel) rfl rfl rfl (by decide +kernel)
set_option maxRecDepth 65536 in
theorem w_c4 : (Jvm.Cond.code ({ cls := "com/example/slantwise/slantwise/engine/WordIndex", name := "reserve", desc := "(I)V" } : Jvm.MethodName) prog_59_method_11_code (4 : Nat) (Option.none : Option Jvm.ClassFile.FieldType)).before args0 about1 = true := code_word (m := ⟨2, 5⟩) (meth := k2m5) (c := k2c5) (by decide +kernel) rfl rfl rfl (by decide +kernel)
set_option maxRecDepth 65536 in
theorem w_c5 : (Jvm.Cond.code ({ cls := "com/example/slantwise/slantwise/engine/WordIndex", name := "removeAll", desc := "(IJ)V" } : Jvm.MethodName) prog_59_method_6_code (12 : Nat) (Option.none : Option Jvm.ClassFile.FieldType)).before args0 about1 = true := code_word (m := ⟨2, 3⟩) (meth := k2m3) (c := k2c3) (by decide +kernel) rfl rfl rfl (by decide +kernel)
set_option maxRecDepth 65536 in
theorem w_c6 : (Jvm.Cond.code ({ cls := "com/example/slantwise/slantwise/engine/WordIndexRemoveAllPinLaw", name := "exp", desc := "(IIJIJIJ)J" } : Jvm.MethodName) method_2_code (12 : Nat) (Option.some Jvm.ClassFile.FieldType.long)).before args0 about1 = true := code_word (m := ⟨1, 1⟩) (meth := k1m1) (c := k1c1) (by decide +kernel) rfl rfl rfl (by decide +kernel)
set_option maxRecDepth 65536 in
theorem w_c7 : (Jvm.Cond.code ({ cls := "com/example/slantwise/slantwise/engine/WordIndex", name := "block", desc := "(I)J" } : Jvm.MethodName) prog_59_method_2_code (3 : Nat) (Option.some Jvm.ClassFile.FieldType.long)).before args0 about1 = true := code_word (m := ⟨2, 1⟩) (meth := k2m1) (c := k2c1) (by decide +kernel) rfl rfl rfl (by decide +kernel)
set_option maxRecDepth 65536 in
theorem w_c8 : (Jvm.Cond.code ({ cls := "com/example/slantwise/slantwise/engine/WordIndex", name := "next", desc := "(I)I" } : Jvm.MethodName) prog_59_method_7_code (8 : Nat) (Option.some Jvm.ClassFile.FieldType.int)).before args0 about1 = true := code_word (m := ⟨2, 4⟩) (meth := k2m4) (c := k2c4) (by decide +kernel) rfl rfl rfl (by decide +kernel)
set_option maxRecDepth 65536 in
theorem w_c9 : (Jvm.Cond.code ({ cls := "java/lang/Long", name := "numberOfTrailingZeros", desc := "(J)I" } : Jvm.MethodName) jdk_35_method_49_code (3 : Nat) (Option.some Jvm.ClassFile.FieldType.int)).before args0 about1 = true := code_word (m := ⟨8, 0⟩) (meth := k8m0) (c := k8c0) (by decide +kernel) rfl rfl rfl (by decide +kernel)
set_option maxRecDepth 65536 in
theorem w_c10 : (Jvm.Cond.code ({ cls := "java/lang/Integer", name := "numberOfTrailingZeros", desc := "(I)I" } : Jvm.MethodName) jdk_33_method_48_code (2 : Nat) (Option.some Jvm.ClassFile.FieldType.int)).before args0 about1 = true := code_word (m := ⟨9, 0⟩) (meth := k9m0) (c := k9c0) (by decide +kernel) rfl rfl rfl (by decide +kernel)
set_option maxRecDepth 65536 in
theorem w_c11 : (Jvm.Cond.code ({ cls := "com/example/slantwise/slantwise/engine/WordIndexRemoveAllPinLaw", name := "anyIn", desc := "(IJJJ)Z" } : Jvm.MethodName) method_3_code (17 : Nat) (Option.some Jvm.ClassFile.FieldType.boolean)).before args0 about1 = true := code_word (m := ⟨1, 2⟩) (meth := k1m2) (c := k1c2) (by decide +kernel) rfl rfl rfl (by decide +kernel)
set_option maxRecDepth 65536 in
theorem w_c12 : (Jvm.Cond.code ({ cls := "java/lang/Math", name := "max", desc := "(JJ)J" } : Jvm.MethodName) jdk_29_method_66_code (4 : Nat) (Option.some Jvm.ClassFile.FieldType.long)).before args0 about1 = true := code_word (m := ⟨10, 2⟩) (meth := k10m2) (c := k10c2) (by decide +kernel) rfl rfl rfl (by decide +kernel)
set_option maxRecDepth 65536 in
theorem w_c13 : (Jvm.Cond.code ({ cls := "java/lang/Math", name := "min", desc := "(JJ)J" } : Jvm.MethodName) jdk_29_method_70_code (4 : Nat) (Option.some Jvm.ClassFile.FieldType.long)).before args0 about1 = true := code_word (m := ⟨10, 4⟩) (meth := k10m4) (c := k10c4) (by decide +kernel) rfl rfl rfl (by decide +kernel)
set_option maxRecDepth 65536 in
theorem w_c14 : (Jvm.Cond.code ({ cls := "java/lang/Math", name := "max", desc := "(II)I" } : Jvm.MethodName) jdk_29_method_65_code (2 : Nat) (Option.some Jvm.ClassFile.FieldType.int)).before args0 about1 = true := code_word (m := ⟨10, 1⟩) (meth := k10m1) (c := k10c1) (by decide +kernel) rfl rfl rfl (by decide +kernel)
set_option maxRecDepth 65536 in
theorem w_c15 : (Jvm.Cond.code ({ cls := "java/util/Arrays", name := "copyOf", desc := "([JI)[J" } : Jvm.MethodName) jdk_65_method_124_code (3 : Nat) (Option.some (Jvm.ClassFile.FieldType.array Jvm.ClassFile.FieldType.long))).before args0 about1 = true := code_word (m := ⟨11, 1⟩) (meth := k11m1) (c := k11c1) (by decide +kernel) rfl rfl rfl (by decide +kernel)
set_option maxRecDepth 65536 in
theorem w_c16 : (Jvm.Cond.code ({ cls := "java/lang/Math", name := "min", desc := "(II)I" } : Jvm.MethodName) jdk_29_method_69_code (2 : Nat) (Option.some Jvm.ClassFile.FieldType.int)).before args0 about1 = true := code_word (m := ⟨10, 3⟩) (meth := k10m3) (c := k10c3) (by decide +kernel) rfl rfl rfl (by decide +kernel)
def codes1 : List Jvm.Cond := [Jvm.Cond.code x code maxLocals ret, Jvm.Cond.code ({ cls := "com/example/slantwise/slantwise/engine/WordIndex", name := "<init>", desc := "()V" } : Jvm.MethodName) prog_59_method_1_code (1 : Nat) (Option.none : Option Jvm.ClassFile.FieldType), Jvm.Cond.code ({ cls := "java/lang/Object", name := "<init>", desc := "()V" } : Jvm.MethodName) object_method_1_code (1 : Nat) (Option.none : Option Jvm.ClassFile.FieldType), Jvm.Cond.code ({ cls := "com/example/slantwise/slantwise/engine/WordIndex", name := "addAll", desc := "(IJ)V" } : Jvm.MethodName) prog_59_method_5_code (10 : Nat) (Option.none : Option Jvm.ClassFile.FieldType), Jvm.Cond.code ({ cls := "com/example/slantwise/slantwise/engine/WordIndex", name := "reserve", desc := "(I)V" } : Jvm.MethodName) prog_59_method_11_code (4 : Nat) (Option.none : Option Jvm.ClassFile.FieldType), Jvm.Cond.code ({ cls := "com/example/slantwise/slantwise/engine/WordIndex", name := "removeAll", desc := "(IJ)V" } : Jvm.MethodName) prog_59_method_6_code (12 : Nat) (Option.none : Option Jvm.ClassFile.FieldType), Jvm.Cond.code ({ cls := "com/example/slantwise/slantwise/engine/WordIndexRemoveAllPinLaw", name := "exp", desc := "(IIJIJIJ)J" } : Jvm.MethodName) method_2_code (12 : Nat) (Option.some Jvm.ClassFile.FieldType.long), Jvm.Cond.code ({ cls := "com/example/slantwise/slantwise/engine/WordIndex", name := "block", desc := "(I)J" } : Jvm.MethodName) prog_59_method_2_code (3 : Nat) (Option.some Jvm.ClassFile.FieldType.long), Jvm.Cond.code ({ cls := "com/example/slantwise/slantwise/engine/WordIndex", name := "next", desc := "(I)I" } : Jvm.MethodName) prog_59_method_7_code (8 : Nat) (Option.some Jvm.ClassFile.FieldType.int), Jvm.Cond.code ({ cls := "java/lang/Long", name := "numberOfTrailingZeros", desc := "(J)I" } : Jvm.MethodName) jdk_35_method_49_code (3 : Nat) (Option.some Jvm.ClassFile.FieldType.int), Jvm.Cond.code ({ cls := "java/lang/Integer", name := "numberOfTrailingZeros", desc := "(I)I" } : Jvm.MethodName) jdk_33_method_48_code (2 : Nat) (Option.some Jvm.ClassFile.FieldType.int), Jvm.Cond.code ({ cls := "com/example/slantwise/slantwise/engine/WordIndexRemoveAllPinLaw", name := "anyIn", desc := "(IJJJ)Z" } : Jvm.MethodName) method_3_code (17 : Nat) (Option.some Jvm.ClassFile.FieldType.boolean), Jvm.Cond.code ({ cls := "java/lang/Math", name := "max", desc := "(JJ)J" } : Jvm.MethodName) jdk_29_method_66_code (4 : Nat) (Option.some Jvm.ClassFile.FieldType.long), Jvm.Cond.code ({ cls := "java/lang/Math", name := "min", desc := "(JJ)J" } : Jvm.MethodName) jdk_29_method_70_code (4 : Nat) (Option.some Jvm.ClassFile.FieldType.long), Jvm.Cond.code ({ cls := "java/lang/Math", name := "max", desc := "(II)I" } : Jvm.MethodName) jdk_29_method_65_code (2 : Nat) (Option.some Jvm.ClassFile.FieldType.int), Jvm.Cond.code ({ cls := "java/util/Arrays", name := "copyOf", desc := "([JI)[J" } : Jvm.MethodName) jdk_65_method_124_code (3 : Nat) (Option.some (Jvm.ClassFile.FieldType.array Jvm.ClassFile.FieldType.long)), Jvm.Cond.code ({ cls := "java/lang/Math", name := "min", desc := "(II)I" } : Jvm.MethodName) jdk_29_method_69_code (2 : Nat) (Option.some Jvm.ClassFile.FieldType.int)]
set_option maxRecDepth 65536 in
theorem codes_eq : words1.filter isCode = codes1 := rfl
theorem w_codes : ∀ c ∈ words1.filter isCode, c.before args0 about1 = true := by
  rw [codes_eq]
  intro c hc
  simp only [codes1, List.mem_cons, List.not_mem_nil, or_false] at hc
  rcases hc with rfl | rfl | rfl | rfl | rfl | rfl | rfl | rfl | rfl | rfl | rfl | rfl | rfl | rfl | rfl | rfl | rfl
  · exact w_c0
  · exact w_c1
  · exact w_c2
  · exact w_c3
  · exact w_c4
  · exact w_c5
  · exact w_c6
  · exact w_c7
  · exact w_c8
  · exact w_c9
  · exact w_c10
  · exact w_c11
  · exact w_c12
  · exact w_c13
  · exact w_c14
  · exact w_c15
  · exact w_c16
set_option maxRecDepth 65536 in
theorem w_t1 : (words1.take 24).all (fun c => isCode c || c.before args0 about1) = true := by decide +kernel
set_option maxRecDepth 65536 in
theorem w_t2 : ((words1.drop 24).take 24).all (fun c => isCode c || c.before args0 about1) = true := by decide +kernel
set_option maxRecDepth 65536 in
theorem w_t3 : (((words1.drop 24).drop 24).take 24).all (fun c => isCode c || c.before args0 about1) = true := by decide +kernel
set_option maxRecDepth 65536 in
theorem w_t4 : (((words1.drop 24).drop 24).drop 24).all (fun c => isCode c || c.before args0 about1) = true := by decide +kernel
theorem w_tables : (allAtoms (Jvm.Cond.code x code maxLocals ret :: tables_1)).before args0 about1 = true := by
  rw [allAtoms_all]
  show words1.all (fun c => c.before args0 about1) = true
  refine all_split ?_ w_codes
  rw [← List.take_append_drop 24 words1, List.all_append, w_t1, ← List.take_append_drop 24 (words1.drop 24), List.all_append, w_t2, ← List.take_append_drop 24 ((words1.drop 24).drop 24), List.all_append, w_t3, w_t4]
  rfl
set_option maxRecDepth 65536 in
theorem w_case : (Jvm.Cond.and given_1 narrow_1).before args0 about1 = true := by decide +kernel
theorem w_applies : (headSpec (Jvm.Cond.code x code maxLocals ret :: tables_1) room_1).applies x e0.platform about1 = true :=
  (Spec.applies_iff w_frames).mpr ⟨w_running, w_runnable, w_alone, w_named, w_hears, w_ripe, w_room, w_tables⟩
theorem atStart : AtStart classFile x code maxLocals ret World_1 tables_1 room_1 Calls_1 rest_1 Pre_1 launch0 p0 e0 about1 theMethod args0 below0 :=
  ⟨lists_1, trivial, launch0.admits_env _ _ _, launch0.least_env, fairChoices_fair.cas, fairChoices_fair.clock, w_frames, w_args, w_heap, w_applies, trivial, trivial, w_case⟩
end start1
theorem witness_1 : WitnessClaimed_1 := ⟨start1.p0, start1.e0, start1.about1, start1.theMethod, start1.args0, start1.below0, start1.atStart⟩
end Jvm.Pilot.@@N@@
