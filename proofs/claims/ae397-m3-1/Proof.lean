import JvmDerived
import JvmDerived.Pilot.@@N@@Statement
import JvmDerived.Pilot.@@N@@Code
set_option linter.unusedVariables false
set_option linter.unusedSimpArgs false
namespace Jvm.Pilot.@@N@@
open Jvm Jvm.ClassFile Sem Op Lib Jvm.Free Jvm.Stand Jvm.LawKit Jvm.RoadKit Bundle Jvm.Pilot.@@N@@.Jvm.D
/-! own_: A WALK AS A CHAIN OF 'Go': from T, with the frame g on top, the run comes to a state of which P holds. A fork (by_cases, rcases) may stand anywhere in the chain. -/
def Go (p : Program) (e : Env) (below : List Frame) (P : State → Prop) (T : State) (g : JFrame) : Prop := ∃ t, Steps p.tables e below (T.setTop g) t ∧ P t
/-- what a body owes at its end -/
def EndP (below : List Frame) (s : State) (Q : Option Value → Heap → List Loc → Prop) (ce sl : Nat) (t : State) : Prop := ∃ o, t.status = .running ∧ Ended t below o ∧ ∃ v L, o = .returned v ∧ Q v t.heap L ∧ FrameEnd s o t L ce sl
/-- a method's contract: called with as' on the heap h0 it returns, and Q holds of what it returns, the heap that it leaves and the places that it wrote -/
abbrev Does (l : Launch) (y : MethodName) (bytes : ByteArray) (maxL : Nat) (rt : Option FieldType) (ws : List Jvm.Cond) (rm : Room) (as' : Array Value) (Z : State) (h0 : Heap) (Q : Option Value → Heap → List Loc → Prop) : Prop :=
  MetFree l y (head1 (Jvm.Cond.code y bytes maxL rt :: ws) rm) (fun a U => a = as' ∧ Z.Warmed39 U.vm ∧ U.heap = h0) (fun _ _ _ _ _ => True) (fun _ U o U' => ∃ v L, o = .returned v ∧ Q v U'.heap L ∧ FrameEnd U o U' L rm.cells rm.slots)
section Own
variable {p : Program} {l : Launch} {e : Env} {R : Room} {s : State} {m : MethodId} {args : Array Value} {below : List Frame} {meth : Method} {c : Code} {T T' : State} {locs : List Loc} {cells slots : Nat} {P : State → Prop} {g g' : JFrame} {Z : State} {h h0 : Heap} {a0 as' : Array Value} {own : String} {index : Nat} {y z : MethodName} {bytes : ByteArray} {maxL : Nat} {rt : Option FieldType} {rm : Room} {ws : List Jvm.Cond} {Q : Option Value → Heap → List Loc → Prop} {ce sl W : Nat} {argsL rest : List Value}
theorem Go.st (hh : Go p e below P T' g') (st : ∀ t, Steps p.tables e below (T'.setTop g') t → Steps p.tables e below (T.setTop g) t) : Go p e below P T g := by
  obtain ⟨t, h1, h2⟩ := hh
  exact ⟨t, st t h1, h2⟩
theorem Go.cast (q : g = g') (hh : Go p e below P T g') : Go p e below P T g := q ▸ hh
theorem Go.ret {v : Option Value} (X : Stand p l e R s m args below meth c T locs cells slots) (hv : meth.sig.returnType = none → v = none) (hlocks : meth.locks = false) (hc : cells ≤ ce) (hs : slots ≤ sl) (hq : Q v T.heap locs)
    (st : ∀ fs, (∀ (f : JFrame) (acts : List Action), f.method = m → f.locked = none → f.entered = [] → (doReturn e (T.setTop f) acts v).1 = T.setFrames fs) → Steps p.tables e below (T.setTop g) (T.setFrames fs)) : Go p e below (EndP below s Q ce sl) T g := by
  obtain ⟨fs, hr, hrun, hended, hW, hsame⟩ := X.leave (v := v) hv hlocks
  exact ⟨_, st fs hr, _, hrun, hended, _, _, rfl, hq, ⟨_, rfl⟩, hW, hsame.mono hc hs⟩
/-- a value is returned -/
theorem Go.retV {w : Value} {t : FieldType} {i : Instr} {pc : Nat} {Ls : Array Slot} (X : Stand p l e R s m args below meth c T locs cells slots) (hx : p.tables.exec = Jvm.exec) (hret : meth.sig.returnType = some t) (hlocks : meth.locks = false) (hc : cells ≤ ce) (hs : slots ≤ sl) (hn : narrow t w = w)
    (hi : (i = .ireturn ∧ (t = .int ∨ t = .boolean ∨ t = .byte ∨ t = .char ∨ t = .short) ∧ ∃ z, w = .int z) ∨ (i = .lreturn ∧ t = .long ∧ ∃ z, w = .long z) ∨ (i = .dreturn ∧ t = .double ∧ ∃ z, w = .double z) ∨ (i = .freturn ∧ t = .float ∧ ∃ z, w = .float z) ∨ (i = .areturn ∧ t.isReference = true ∧ w.isRef = true))
    (hd : decode c.code pc = .ok (i, 1)) (hq : Q (some w) T.heap locs) : Go p e below (EndP below s Q ce sl) T (mkF m pc Ls (w :: rest)) :=
  Go.ret X (fun q => by rw [hret] at q; cases q) hlocks hc hs hq fun _ hr => retOut X hx hret hn hi hd hr
/-- nothing is returned -/
theorem Go.retU {pc : Nat} {Ls : Array Slot} (X : Stand p l e R s m args below meth c T locs cells slots) (hx : p.tables.exec = Jvm.exec) (hret : meth.sig.returnType = none) (hlocks : meth.locks = false) (hc : cells ≤ ce) (hs : slots ≤ sl)
    (hd : decode c.code pc = .ok (.return_, 1)) (hq : Q none T.heap locs) : Go p e below (EndP below s Q ce sl) T (mkF m pc Ls []) :=
  Go.ret X (fun _ => rfl) hlocks hc hs hq fun _ hr => X.returnOut hx hret hd hr
/-- a body that goes well has its contract -/
theorem Does.of (hp : plainFor y = true) (body : ∀ (p : Program) (e : Env) (s : State) (m : MethodId) (below : List Frame) (meth : Method) (c : Code) (s₁ : State), p.tables.exec = Jvm.exec → c.code = bytes → c.maxLocals = maxL → meth.sig.returnType = rt → meth.locks = false → s.vm.findClass y.cls = some m.cls → meth.name = y.name → Z.Warmed39 s.vm →
      Stand p l e rm s m as' below meth c s₁ [] 0 0 → s₁.heap = h0 → Go p e below (EndP below s Q rm.cells rm.slots) s₁ (entryFrame m as' maxL)) : Does l y bytes maxL rt ws rm as' Z h0 Q := by
  refine MetFree.of_bodySF hp hisR ?_
  intro p e s m args below meth c s₁ Bd hml0 hP hK
  obtain ⟨rfl, hZ, hh⟩ := hP
  obtain ⟨t, h1, o, h2, h3, h4⟩ := body p e s m below meth c s₁ Bd.exec Bd.bytes hml0 Bd.returns Bd.notSynchronized (findClass_of_methodNamed Bd.named) (name_of_methodNamed Bd.named Bd.method).1 hZ (Stand.of_body Bd) (by rw [← hh, Bd.state]; rfl)
  exact ⟨t, o, h1, h2, h3, h4⟩
/-- a static call by the callee's contract -/
theorem Go.callS (X : Stand p l e R s m args below meth c T locs cells slots) (hx : p.tables.exec = Jvm.exec) (hZ : Z.Warmed39 s.vm) (hown : s.vm.findClass own = some m.cls) (w1 : (Jvm.Cond.methodLink own index y).before a0 Z = true) (w2 : (Jvm.Cond.static y).before a0 Z = true) (w3 : (Jvm.Cond.initialized y.cls).before a0 Z = true) (w4 : (Jvm.Cond.code y bytes maxL rt).before a0 Z = true)
    (hy : y.cls ≠ "java/lang/invoke/MethodHandle" ∧ y.cls ≠ "java/lang/invoke/VarHandle") (D : Does l y bytes maxL rt [] rm argsL.toArray Z h Q) (eT : T.heap = h) (hf : rm.frames + 1 ≤ R.frames) (hl : W + (maxL + 11) + rm.locals ≤ R.locals) (hc : cells + rm.cells ≤ R.cells) (hs : slots + rm.slots ≤ R.slots)
    (hg : g.method = m) (hsize : g.locals.size = c.maxLocals) (hlen : ∀ sig, parseMethodDescriptor y.desc = some sig → argsL.length = sig.parameters.length) (hstack : g.stack = argsL.reverse ++ rest) (hW : 2 * g.monitorRoom + (rest.map fun v => v.category).sum ≤ W) (hdg : decode c.code g.pc = .ok (.invokestatic index, 3))
    (k : ∀ (v : Option Value) (T' : State) (L : List Loc), Stand p l e R s m args below meth c T' (locs ++ L) (cells + rm.cells) (slots + rm.slots) → Q v T'.heap L → Go p e below P T' { g with pc := g.pc + 3, stack := v.toList ++ rest }) : Go p e below P T g := by
  obtain ⟨v, _, ⟨T1, L1, k1, n1⟩, -, X1, ⟨Lc, hQ, l1, y1, z1⟩, st⟩ := Jvm.LawKit.callS X hx (y := y) hown (mvT hZ w1) (mvT hZ w2) (mvT hZ w3) (mvT hZ w4) hy (backOf (W := W) D hZ w4 w3 hf hl) (g := g) hg hsize (argsL := argsL) (rest := rest) hlen hstack hW hdg (fun _ _ => ⟨rfl, eT, hc, hs⟩)
  dsimp only [Pt.U, Pt.locs, Pt.cells, Pt.slots] at X1 l1 y1 z1 st hQ
  subst l1 y1 z1
  exact Go.st (k v T1 Lc X1 hQ) st
/-- a virtual call by the contract of the method that it selects -/
theorem Go.callV {C : String} {a : Addr} (X : Stand p l e R s m args below meth c T locs cells slots) (hx : p.tables.exec = Jvm.exec) (hZ : Z.Warmed39 s.vm) (hown : s.vm.findClass own = some m.cls) (w1 : (Jvm.Cond.methodLink own index y).before a0 Z = true) (w2 : (Jvm.Cond.declares y).before a0 Z = true) (w5 : (Jvm.Cond.selects C y y).before a0 Z = true) (w6 : (Jvm.Cond.instanceMethod y).before a0 Z = true) (w3 : (Jvm.Cond.initialized y.cls).before a0 Z = true) (w4 : (Jvm.Cond.code y bytes maxL rt).before a0 Z = true)
    (hy : y.cls ≠ "java/lang/invoke/MethodHandle" ∧ y.cls ≠ "java/lang/invoke/VarHandle") (A : Exa Z h a C) (D : Does l y bytes maxL rt [] rm (.ref a :: argsL).toArray Z h Q) (eT : T.heap = h) (hf : rm.frames + 1 ≤ R.frames) (hl : W + (maxL + 11) + rm.locals ≤ R.locals) (hc : cells + rm.cells ≤ R.cells) (hs : slots + rm.slots ≤ R.slots)
    (hg : g.method = m) (hsize : g.locals.size = c.maxLocals) (hlen : ∀ sig, parseMethodDescriptor y.desc = some sig → argsL.length = sig.parameters.length) (hstack : g.stack = argsL.reverse ++ .ref a :: rest) (hW : 2 * g.monitorRoom + (rest.map fun v => v.category).sum ≤ W) (hdg : decode c.code g.pc = .ok (.invokevirtual index, 3))
    (k : ∀ (v : Option Value) (T' : State) (L : List Loc), Stand p l e R s m args below meth c T' (locs ++ L) (cells + rm.cells) (slots + rm.slots) → Q v T'.heap L → Go p e below P T' { g with pc := g.pc + 3, stack := v.toList ++ rest }) : Go p e below P T g := by
  obtain ⟨cq, kq, qa, qb, qc⟩ := isOf hZ eT A
  obtain ⟨v, _, ⟨T1, L1, k1, n1⟩, -, X1, ⟨Lc, hQ, l1, y1, z1⟩, st⟩ := X.virtualBack hx (y := y) (z := y) hown (mvT hZ w1) (mvT hZ w2) (notFace_of_selects (args := #[]) (mvT hZ w5)) (mvT hZ w5) (mvT hZ w6) hy (backOf (W := W) D hZ w4 w3 hf hl) qa qc (g := g) hg hsize (Steps.refl _) (argsL := argsL) (rest := rest) hlen hstack hW hdg (fun _ _ => ⟨rfl, eT, hc, hs⟩)
  dsimp only [Pt.U, Pt.locs, Pt.cells, Pt.slots] at X1 l1 y1 z1 st hQ
  subst l1 y1 z1
  exact Go.st (k v T1 Lc X1 hQ) fun _ q => st.trans q
/-- a constructor by its contract -/
theorem Go.callI {a : Addr} (X : Stand p l e R s m args below meth c T locs cells slots) (hx : p.tables.exec = Jvm.exec) (hZ : Z.Warmed39 s.vm) (hown : s.vm.findClass own = some m.cls) (hin : y.name = "<init>") (w1 : (Jvm.Cond.methodLink own index y).before a0 Z = true) (w6 : (Jvm.Cond.instanceMethod y).before a0 Z = true) (w3 : (Jvm.Cond.initialized y.cls).before a0 Z = true) (w4 : (Jvm.Cond.code y bytes maxL none).before a0 Z = true)
    (hy : y.cls ≠ "java/lang/invoke/MethodHandle" ∧ y.cls ≠ "java/lang/invoke/VarHandle") (D : Does l y bytes maxL none [] rm (.ref a :: argsL).toArray Z h Q) (eT : T.heap = h) (hf : rm.frames + 1 ≤ R.frames) (hl : W + (maxL + 11) + rm.locals ≤ R.locals) (hc : cells + rm.cells ≤ R.cells) (hs : slots + rm.slots ≤ R.slots)
    (hg : g.method = m) (hsize : g.locals.size = c.maxLocals) (hlen : ∀ sig, parseMethodDescriptor y.desc = some sig → argsL.length = sig.parameters.length) (hstack : g.stack = argsL.reverse ++ .ref a :: rest) (hW : 2 * g.monitorRoom + (rest.map fun v => v.category).sum ≤ W) (hdg : decode c.code g.pc = .ok (.invokespecial index, 3))
    (k : ∀ (v : Option Value) (T' : State) (L : List Loc), Stand p l e R s m args below meth c T' (locs ++ L) (cells + rm.cells) (slots + rm.slots) → Q v T'.heap L → Go p e below P T' { g with pc := g.pc + 3, stack := v.toList ++ rest }) : Go p e below P T g := by
  obtain ⟨v, _, ⟨T1, L1, k1, n1⟩, -, X1, ⟨Lc, hQ, l1, y1, z1⟩, st⟩ := X.specialBack hx (y := y) hin hown (mvT hZ w1) (mvT hZ w6) (mvT hZ w4) hy (backOf (W := W) D hZ w4 w3 hf hl) (g := g) hg hsize (Steps.refl _) (a := a) (argsL := argsL) (rest := rest) hlen hstack hW hdg (fun _ _ => ⟨rfl, eT, hc, hs⟩)
  dsimp only [Pt.U, Pt.locs, Pt.cells, Pt.slots] at X1 l1 y1 z1 st hQ
  subst l1 y1 z1
  exact Go.st (k v T1 Lc X1 hQ) fun _ q => st.trans q
end Own
theorem own_i_eq {x y : Int32} {a b : Int} (hx : x.toInt = a) (hy : y.toInt = b) (q : a = b) : x = y := Int32.toInt_inj.mp (by rw [hx, hy, q])
theorem own_i_neq {x y : Int32} {a b : Int} (hx : x.toInt = a) (hy : y.toInt = b) (q : ¬ a = b) : ¬ x = y := fun r => q (by rw [← hx, ← hy, r])
theorem own_i_lt {x y : Int32} {a b : Int} (hx : x.toInt = a) (hy : y.toInt = b) (q : a < b) : x < y := by rw [Int32.lt_iff_toInt_lt, hx, hy]; exact q
theorem own_i_nlt {x y : Int32} {a b : Int} (hx : x.toInt = a) (hy : y.toInt = b) (q : ¬ a < b) : ¬ x < y := by rw [Int32.lt_iff_toInt_lt, hx, hy]; exact q
theorem own_l_eq {x y : Int64} {a b : Int} (hx : x.toInt = a) (hy : y.toInt = b) (q : a = b) : x = y := Int64.toInt_inj.mp (by rw [hx, hy, q])
theorem own_l_neq {x y : Int64} {a b : Int} (hx : x.toInt = a) (hy : y.toInt = b) (q : ¬ a = b) : ¬ x = y := fun r => q (by rw [← hx, ← hy, r])
theorem own_l_lt {x y : Int64} {a b : Int} (hx : x.toInt = a) (hy : y.toInt = b) (q : a < b) : x < y := by rw [Int64.lt_iff_toInt_lt, hx, hy]; exact q
theorem own_l_nlt {x y : Int64} {a b : Int} (hx : x.toInt = a) (hy : y.toInt = b) (q : ¬ a < b) : ¬ x < y := by rw [Int64.lt_iff_toInt_lt, hx, hy]; exact q
/-- a number in a field, out of the case's words -/
theorem own_fldInt {args : Array Value} {s : State} {t : Term} {a : Addr} {C n d : String} {k : Int32} (ht : t.eval args s none [] s = some (.ref a)) (hh : (Jvm.Cond.eq (.field t C n d) (.int k)).value args s none s [] = some true) : Fld s s.heap a C n d (.int k) := by
  refine Fld.start ?_
  simp only [Jvm.Cond.value, fld_at ht, Term.int_eval] at hh
  cases hf : s.fieldOf? a C n d with
  | none => simp [hf] at hh
  | some v => cases v <;> simp_all
section OwnArr
variable {p : Program} {l : Launch} {e : Env} {R : Room} {s : State} {m : MethodId} {args : Array Value} {below : List Frame} {meth : Method} {c : Code} {T : State} {locs : List Loc} {cells slots : Nat} {Z : State} {h h' : Heap} {a : Addr} {k : ClassId} {ty : FieldType} {z j : Int32} {vs : List Value} {dv v : Value} {g : JFrame} {rest : List Value}
theorem own_aaload (X : Stand p l e R s m args below meth c T locs cells slots) (hx : p.tables.exec = Jvm.exec) (hZ : Z.Warmed39 s.vm) (eT : T.heap = h) (F : Arv Z h a k ty z vs dv) (hty : ty.isReference = true) (hj : ¬ j < 0 ∧ j < z) (hv : vs.getD j.toNatClampNeg dv = v) (hg : g.method = m) (hs : g.stack = .int j :: .ref a :: rest) (hd : decode c.code g.pc = .ok (.aaload, 1)) :
    ∀ t, Steps p.tables e below (T.setTop { g with pc := g.pc + 1, stack := v :: rest }) t → Steps p.tables e below (T.setTop g) t := by
  obtain ⟨cl, A, q1, S, q3, H, G⟩ := F
  exact X.aaload hx (by rw [eT]; exact A.1) (State.isArrayOf_alike hZ.alike A.2.1) hty A.2.2 (inb_of S hj) (H.at (inb_of S hj) hv) hg hs hd
theorem own_iaload (X : Stand p l e R s m args below meth c T locs cells slots) (hx : p.tables.exec = Jvm.exec) (hZ : Z.Warmed39 s.vm) (eT : T.heap = h) (F : Arv Z h a k .int z vs dv) (hj : ¬ j < 0 ∧ j < z) (hv : vs.getD j.toNatClampNeg dv = v) (hg : g.method = m) (hs : g.stack = .int j :: .ref a :: rest) (hd : decode c.code g.pc = .ok (.iaload, 1)) :
    ∀ t, Steps p.tables e below (T.setTop { g with pc := g.pc + 1, stack := v :: rest }) t → Steps p.tables e below (T.setTop g) t := by
  obtain ⟨cl, A, q1, S, q3, H, G⟩ := F
  exact X.iaload hx (by rw [eT]; exact A.1) (State.isArrayOf_alike hZ.alike A.2.1) A.2.2 (inb_of S hj) (H.at (inb_of S hj) hv) hg hs hd
theorem own_laload (X : Stand p l e R s m args below meth c T locs cells slots) (hx : p.tables.exec = Jvm.exec) (hZ : Z.Warmed39 s.vm) (eT : T.heap = h) (F : Arv Z h a k .long z vs dv) (hj : ¬ j < 0 ∧ j < z) (hv : vs.getD j.toNatClampNeg dv = v) (hg : g.method = m) (hs : g.stack = .int j :: .ref a :: rest) (hd : decode c.code g.pc = .ok (.laload, 1)) :
    ∀ t, Steps p.tables e below (T.setTop { g with pc := g.pc + 1, stack := v :: rest }) t → Steps p.tables e below (T.setTop g) t := by
  obtain ⟨cl, A, q1, S, q3, H, G⟩ := F
  exact X.laload hx (by rw [eT]; exact A.1) (State.isArrayOf_alike hZ.alike A.2.1) A.2.2 (inb_of S hj) (H.at (inb_of S hj) hv) hg hs hd
theorem own_len (X : Stand p l e R s m args below meth c T locs cells slots) (hx : p.tables.exec = Jvm.exec) (hZ : Z.Warmed39 s.vm) (eT : T.heap = h) (F : Arv Z h a k ty z vs dv) (hg : g.method = m) (hs : g.stack = .ref a :: rest) (hd : decode c.code g.pc = .ok (.arraylength, 1)) :
    ∀ t, Steps p.tables e below (T.setTop { g with pc := g.pc + 1, stack := .int z :: rest }) t → Steps p.tables e below (T.setTop g) t := by
  obtain ⟨cl, A, q1, S, q3, H, G⟩ := F
  intro t q
  refine X.arraylength hx (by rw [eT]; exact A.1) (State.isArrayOf_alike hZ.alike A.2.1) hg hs hd _ ?_
  rw [len_of S q3]; exact q
theorem own_iastore {x : Int32} {i : Nat} (X : Stand p l e R s m args below meth c T locs cells slots) (hx : p.tables.exec = Jvm.exec) (hZ : Z.Warmed39 s.vm) (eT : T.heap = h) (F : Arv Z h a k .int z vs dv) (hj : ¬ j < 0 ∧ j < z) (hi : j.toNatClampNeg = i) (hl : i < vs.length) (hg : g.method = m) (hs : g.stack = .int x :: .int j :: .ref a :: rest) (hd : decode c.code g.pc = .ok (.iastore, 1)) :
    ∃ T' h', Stand p l e R s m args below meth c T' (locs ++ [⟨a, j.toNatClampNeg⟩]) cells slots ∧ T'.heap = h' ∧ Wr h h' a j.toNatClampNeg (.int x) ∧ Arv Z h' a k .int z (vs.set i (.int x)) dv ∧ ∀ t, Steps p.tables e below (T'.setTop { g with pc := g.pc + 1, stack := rest }) t → Steps p.tables e below (T.setTop g) t := by
  obtain ⟨cl, A, q1, S, q3, H, G⟩ := F
  obtain ⟨T', h', X', e', W, st⟩ := stI X hx hZ eT A (inb_of S hj) hg hs hd
  exact ⟨T', h', X', e', W, Arv.set A q1 S q3 H G rfl W i hi hl, st⟩
theorem own_lastore {x : Int64} {i : Nat} (X : Stand p l e R s m args below meth c T locs cells slots) (hx : p.tables.exec = Jvm.exec) (hZ : Z.Warmed39 s.vm) (eT : T.heap = h) (F : Arv Z h a k .long z vs dv) (hj : ¬ j < 0 ∧ j < z) (hi : j.toNatClampNeg = i) (hl : i < vs.length) (hg : g.method = m) (hs : g.stack = .long x :: .int j :: .ref a :: rest) (hd : decode c.code g.pc = .ok (.lastore, 1)) :
    ∃ T' h', Stand p l e R s m args below meth c T' (locs ++ [⟨a, j.toNatClampNeg⟩]) cells slots ∧ T'.heap = h' ∧ Wr h h' a j.toNatClampNeg (.long x) ∧ Arv Z h' a k .long z (vs.set i (.long x)) dv ∧ ∀ t, Steps p.tables e below (T'.setTop { g with pc := g.pc + 1, stack := rest }) t → Steps p.tables e below (T.setTop g) t := by
  obtain ⟨cl, A, q1, S, q3, H, G⟩ := F
  obtain ⟨T', h', X', e', W, st⟩ := stJ X hx hZ eT A (inb_of S hj) hg hs hd
  exact ⟨T', h', X', e', W, Arv.set A q1 S q3 H G rfl W i hi hl, st⟩
theorem own_aastore {C : String} {y : Addr} {i : Nat} (X : Stand p l e R s m args below meth c T locs cells slots) (hx : p.tables.exec = Jvm.exec) (hZ : Z.Warmed39 s.vm) (eT : T.heap = h) (F : Arv Z h a k ty z vs dv) (hty : ty.isReference = true) (hfit : fits ty (.ref y) = true) (O : Ovr Z k C) (I : Ins Z h y C true) (hj : ¬ j < 0 ∧ j < z) (hi : j.toNatClampNeg = i) (hl : i < vs.length) (hg : g.method = m) (hs : g.stack = .ref y :: .int j :: .ref a :: rest) (hd : decode c.code g.pc = .ok (.aastore, 1)) :
    ∃ T' h', Stand p l e R s m args below meth c T' (locs ++ [⟨a, j.toNatClampNeg⟩]) cells slots ∧ T'.heap = h' ∧ Wr h h' a j.toNatClampNeg (.ref y) ∧ Arv Z h' a k ty z (vs.set i (.ref y)) dv ∧ ∀ t, Steps p.tables e below (T'.setTop { g with pc := g.pc + 1, stack := rest }) t → Steps p.tables e below (T.setTop g) t := by
  obtain ⟨cl, A, q1, S, q3, H, G⟩ := F
  obtain ⟨T', h', X', e', W, st⟩ := stR X hx hZ eT A (inb_of S hj) hty (Sto.ofV A q1 O I) hg hs hd
  exact ⟨T', h', X', e', W, Arv.set A q1 S q3 H G hfit W i hi hl, st⟩
theorem own_daload (X : Stand p l e R s m args below meth c T locs cells slots) (hx : p.tables.exec = Jvm.exec) (hZ : Z.Warmed39 s.vm) (eT : T.heap = h) (F : Arv Z h a k .double z vs dv) (hj : ¬ j < 0 ∧ j < z) (hv : vs.getD j.toNatClampNeg dv = v) (hg : g.method = m) (hs : g.stack = .int j :: .ref a :: rest) (hd : decode c.code g.pc = .ok (.daload, 1)) :
    ∀ t, Steps p.tables e below (T.setTop { g with pc := g.pc + 1, stack := v :: rest }) t → Steps p.tables e below (T.setTop g) t := by
  obtain ⟨cl, A, q1, S, q3, H, G⟩ := F
  exact X.daload hx (by rw [eT]; exact A.1) (State.isArrayOf_alike hZ.alike A.2.1) A.2.2 (inb_of S hj) (H.at (inb_of S hj) hv) hg hs hd
theorem own_dastore {x : UInt64} {i : Nat} (X : Stand p l e R s m args below meth c T locs cells slots) (hx : p.tables.exec = Jvm.exec) (hZ : Z.Warmed39 s.vm) (eT : T.heap = h) (F : Arv Z h a k .double z vs dv) (hj : ¬ j < 0 ∧ j < z) (hi : j.toNatClampNeg = i) (hl : i < vs.length) (hg : g.method = m) (hs : g.stack = .double x :: .int j :: .ref a :: rest) (hd : decode c.code g.pc = .ok (.dastore, 1)) :
    ∃ T' h', Stand p l e R s m args below meth c T' (locs ++ [⟨a, j.toNatClampNeg⟩]) cells slots ∧ T'.heap = h' ∧ Wr h h' a j.toNatClampNeg (.double x) ∧ Arv Z h' a k .double z (vs.set i (.double x)) dv ∧ ∀ t, Steps p.tables e below (T'.setTop { g with pc := g.pc + 1, stack := rest }) t → Steps p.tables e below (T.setTop g) t := by
  obtain ⟨cl, A, q1, S, q3, H, G⟩ := F
  obtain ⟨T', h', X', e', W, st⟩ := stD X hx hZ eT A (inb_of S hj) hg hs hd
  exact ⟨T', h', X', e', W, Arv.set A q1 S q3 H G rfl W i hi hl, st⟩
end OwnArr
theorem own_alen {args : Array Value} {s : State} {t : Term} {a : Addr} {cl : Cell} {ty : FieldType} {n : Int32} (ev : t.eval args s none [] s = some (.ref a)) (A : Arr s s.heap a cl ty) (hh : (Jvm.Cond.eq (.length t) (.int n)).value args s none s [] = some true) : cl.slots.size < 2 ^ 31 ∧ cl.slots.size.toInt32 = n := by
  have ha := Arr.fin (U := s) (Vm.Alike.refl _) A
  by_cases q : cl.slots.size < 2 ^ 31
  · refine ⟨q, ?_⟩
    have e := len_f ev ha q
    simp only [Jvm.Cond.value, e, Term.int_eval] at hh
    simpa using hh
  · exfalso
    have e : (Term.length t).eval args s none [] s = none := by simp [Term.eval, ev, ha]; omega
    simp [Jvm.Cond.value, e] at hh
theorem own_aelem {args : Array Value} {s : State} {t : Term} {a : Addr} {cl : Cell} {ty : FieldType} {j v : Int32} (ev : t.eval args s none [] s = some (.ref a)) (A : Arr s s.heap a cl ty) (hh : (Jvm.Cond.eq (.elem t (.int j)) (.int v)).value args s none s [] = some true) : cl.slots[j.toNatClampNeg]? = some (.int v) := by
  obtain ⟨x, y, e1, e2, k1, k2⟩ := cmp_v (Or.inl hh)
  have e3 : y = .int v := (Option.some.inj (e2.symm.trans (Term.int_eval v)))
  subst e3
  obtain ⟨z, rfl⟩ : ∃ z, x = .int z := k2
  have e4 : z = v := by
    simp only [Jvm.Cond.value, e1, e2] at hh
    simpa using hh
  subst e4
  exact (elem_in e1 ev (Term.int_eval j) A.1).2
/-- two Strings whose bytes differ are two objects -/
theorem own_strne {Z : State} {h : Heap} {a1 a2 b1 b2 : Addr} {k1 k2 : ClassId} {z1 z2 : Int32} {v1 v2 : List Value} {d : Value} (F1 : Fld Z h a1 "java/lang/String" "value" "[B" (.ref b1)) (F2 : Fld Z h a2 "java/lang/String" "value" "[B" (.ref b2)) (V1 : Arv Z h b1 k1 .byte z1 v1 d) (V2 : Arv Z h b2 k2 .byte z2 v2 d)
    (hd : ¬ z1 = z2 ∨ ∃ i, i < z1.toNatClampNeg ∧ ¬ v1.getD i d = v2.getD i d) : ¬ a1 = a2 := by
  refine Fld.ne F1 F2 fun q => ?_
  obtain rfl := Value.ref.inj q
  obtain ⟨c1, A1, -, S1, n1, H1, -⟩ := V1
  obtain ⟨c2, A2, -, S2, n2, H2, -⟩ := V2
  cases A1.1.symm.trans A2.1
  rcases hd with q | ⟨i, hi, q⟩
  · exact q (by rw [← len_of S1 n1, ← len_of S2 n2])
  · have e1 := H1 i (by omega)
    have e2 := H2 i (by omega)
    exact q (Option.some.inj (e1.symm.trans e2))
theorem own_baload {p : Program} {l : Launch} {e : Env} {R : Room} {s : State} {m : MethodId} {args : Array Value} {below : List Frame} {meth : Method} {c : Code} {T : State} {locs : List Loc} {cells slots : Nat} {Z : State} {h : Heap} {a : Addr} {k : ClassId} {z j : Int32} {vs : List Value} {dv v : Value} {g : JFrame} {rest : List Value} (X : Stand p l e R s m args below meth c T locs cells slots) (hx : p.tables.exec = Jvm.exec) (hZ : Z.Warmed39 s.vm) (eT : T.heap = h) (F : Arv Z h a k .byte z vs dv) (hj : ¬ j < 0 ∧ j < z) (hv : vs.getD j.toNatClampNeg dv = v) (hg : g.method = m) (hs : g.stack = .int j :: .ref a :: rest) (hd : decode c.code g.pc = .ok (.baload, 1)) :
    ∀ t, Steps p.tables e below (T.setTop { g with pc := g.pc + 1, stack := v :: rest }) t → Steps p.tables e below (T.setTop g) t := by
  obtain ⟨cl, A, q1, S, q3, H, G⟩ := F
  exact X.baloadBytes hx (by rw [eT]; exact A.1) (State.isArrayOf_alike hZ.alike A.2.1) A.2.2 (inb_of S hj) (H.at (inb_of S hj) hv) hg hs hd
section OwnW
variable {p : Program} {l : Launch} {e : Env} {R : Room} {s : State} {m : MethodId} {args : Array Value} {below : List Frame} {meth : Method} {c : Code} {T : State} {locs : List Loc} {cells slots : Nat} {Z : State} {as' : Array Value} {y : MethodName} {bytes : ByteArray} {maxL : Nat} {rt : Option FieldType} {rm : Room} {ws : List Jvm.Cond} {Q : Option Value → Heap → List Loc → Prop} {ce sl k0 : Nat} {rest : List Value} {vm0 : Vm}
/-- the same end where the walk may have interned texts -/
def EndPW (below : List Frame) (s : State) (Q : Option Value → Heap → List Loc → Prop) (ce sl : Nat) (t : State) : Prop := ∃ o, t.status = .running ∧ Ended t below o ∧ ∃ v L, o = .returned v ∧ Q v t.heap L ∧ ReturnedEndW s o t L ce sl
theorem Go.retVW {w : Value} {t : FieldType} {i : Instr} {pc : Nat} {Ls : Array Slot} (X : Stand p l e R (s.setVm vm0) m args below meth c T locs cells slots) (hx : p.tables.exec = Jvm.exec) (hS : s.Since vm0 k0) (hk : k0 ≤ T.heap.size) (hret : meth.sig.returnType = some t) (hlocks : meth.locks = false) (hc : cells ≤ ce) (hs : slots ≤ sl) (hn : narrow t w = w)
    (hi : (i = .ireturn ∧ (t = .int ∨ t = .boolean ∨ t = .byte ∨ t = .char ∨ t = .short) ∧ ∃ z, w = .int z) ∨ (i = .lreturn ∧ t = .long ∧ ∃ z, w = .long z) ∨ (i = .dreturn ∧ t = .double ∧ ∃ z, w = .double z) ∨ (i = .freturn ∧ t = .float ∧ ∃ z, w = .float z) ∨ (i = .areturn ∧ t.isReference = true ∧ w.isRef = true))
    (hd : decode c.code pc = .ok (i, 1)) (hq : Q (some w) T.heap locs) : Go p e below (EndPW below s Q ce sl) T (mkF m pc Ls (w :: rest)) := by
  obtain ⟨fs, hr, hrun, hended, hE⟩ := X.leaveW hS hk (v := some w) (fun q => by rw [hret] at q; cases q) hlocks
  exact ⟨_, retOut X hx hret hn hi hd hr, _, hrun, hended, _, _, rfl, hq, hE.1, hE.2.1, hE.2.2.1, hE.2.2.2.mono hc hs⟩
theorem Go.retUW {pc : Nat} {Ls : Array Slot} (X : Stand p l e R (s.setVm vm0) m args below meth c T locs cells slots) (hx : p.tables.exec = Jvm.exec) (hS : s.Since vm0 k0) (hk : k0 ≤ T.heap.size) (hret : meth.sig.returnType = none) (hlocks : meth.locks = false) (hc : cells ≤ ce) (hs : slots ≤ sl)
    (hd : decode c.code pc = .ok (.return_, 1)) (hq : Q none T.heap locs) : Go p e below (EndPW below s Q ce sl) T (mkF m pc Ls []) := by
  obtain ⟨fs, hr, hrun, hended, hE⟩ := X.leaveW hS hk (v := none) (fun _ => rfl) hlocks
  exact ⟨_, X.returnOut hx hret hd hr, _, hrun, hended, _, _, rfl, hq, hE.1, hE.2.1, hE.2.2.1, hE.2.2.2.mono hc hs⟩
/-- the law's own contract, said of its very start -/
abbrev LawDoes (l : Launch) (y : MethodName) (bytes : ByteArray) (maxL : Nat) (rt : Option FieldType) (ws : List Jvm.Cond) (rm : Room) (as' : Array Value) (Z : State) (Q : Option Value → Heap → List Loc → Prop) : Prop :=
  MetFree l y (head1 (Jvm.Cond.code y bytes maxL rt :: ws) rm) (fun a U => a = as' ∧ U = Z) (fun _ _ _ _ _ => True) (fun _ U o U' => ∃ v L, o = .returned v ∧ Q v U'.heap L ∧ ReturnedEndW U o U' L rm.cells rm.slots)
theorem LawDoes.of (hp : plainFor y = true) (body : ∀ (p : Program) (e : Env) (m : MethodId) (below : List Frame) (meth : Method) (c : Code) (s₁ : State), p.tables.exec = Jvm.exec → c.code = bytes → c.maxLocals = maxL → meth.sig.returnType = rt → meth.locks = false → Z.vm.findClass y.cls = some m.cls → meth.name = y.name →
      Stand p l e rm (Z.setVm Z.vm) m as' below meth c s₁ [] 0 0 → s₁.heap = Z.heap → Go p e below (EndPW below Z Q rm.cells rm.slots) s₁ (entryFrame m as' maxL)) : LawDoes l y bytes maxL rt ws rm as' Z Q := by
  refine MetFree.of_bodySF hp hisR ?_
  intro p e s m args below meth c s₁ Bd hml0 hP hK
  obtain ⟨rfl, rfl⟩ := hP
  obtain ⟨t, h1, o, h2, h3, h4⟩ := body p e m below meth c s₁ Bd.exec Bd.bytes hml0 Bd.returns Bd.notSynchronized (findClass_of_methodNamed Bd.named) (name_of_methodNamed Bd.named Bd.method).1 (Stand.of_body Bd) (by rw [Bd.state]; rfl)
  exact ⟨t, o, h1, h2, h3, h4⟩
end OwnW
def own_F (Z : State) (h : Heap) (w_NEW w_CANCEL w_CONTRA s_NEW_label b_NEW_label s_NEW_fixValue b_NEW_fixValue s_CANCEL_label b_CANCEL_label s_CANCEL_fixValue b_CANCEL_fixValue s_CONTRA_label b_CONTRA_label s_CONTRA_fixValue b_CONTRA_fixValue : Addr) (k_NEW_label k_NEW_fixValue k_CANCEL_label k_CANCEL_fixValue k_CONTRA_label k_CONTRA_fixValue : ClassId) (zc : Int32) : Prop := Sta Z h "com/example/tallywire/tallywire/ccpreport/CcpAction" "NEW" "Lcom/example/tallywire/tallywire/ccpreport/CcpAction;" (.ref w_NEW) ∧ Exa Z h w_NEW "com/example/tallywire/tallywire/ccpreport/CcpAction" ∧ Fld Z h w_NEW "com/example/tallywire/tallywire/ccpreport/CcpAction" "label" "Ljava/lang/String;" (.ref s_NEW_label) ∧ Exa Z h s_NEW_label "java/lang/String" ∧ Fld Z h s_NEW_label "java/lang/String" "coder" "B" (.int (0 : Int32)) ∧ Fld Z h s_NEW_label "java/lang/String" "value" "[B" (.ref b_NEW_label) ∧ Arv Z h b_NEW_label k_NEW_label .byte (3 : Int32) [(.int (110 : Int32)), (.int (101 : Int32)), (.int (119 : Int32))] (.int 0) ∧ Fld Z h w_NEW "com/example/tallywire/tallywire/ccpreport/CcpAction" "fixValue" "Ljava/lang/String;" (.ref s_NEW_fixValue) ∧ Exa Z h s_NEW_fixValue "java/lang/String" ∧ Fld Z h s_NEW_fixValue "java/lang/String" "coder" "B" (.int (0 : Int32)) ∧ Fld Z h s_NEW_fixValue "java/lang/String" "value" "[B" (.ref b_NEW_fixValue) ∧ Arv Z h b_NEW_fixValue k_NEW_fixValue .byte (1 : Int32) [(.int (48 : Int32))] (.int 0) ∧ Sta Z h "com/example/tallywire/tallywire/ccpreport/CcpAction" "CANCEL" "Lcom/example/tallywire/tallywire/ccpreport/CcpAction;" (.ref w_CANCEL) ∧ Exa Z h w_CANCEL "com/example/tallywire/tallywire/ccpreport/CcpAction" ∧ Fld Z h w_CANCEL "com/example/tallywire/tallywire/ccpreport/CcpAction" "label" "Ljava/lang/String;" (.ref s_CANCEL_label) ∧ Exa Z h s_CANCEL_label "java/lang/String" ∧ Fld Z h s_CANCEL_label "java/lang/String" "coder" "B" (.int (0 : Int32)) ∧ Fld Z h s_CANCEL_label "java/lang/String" "value" "[B" (.ref b_CANCEL_label) ∧ Arv Z h b_CANCEL_label k_CANCEL_label .byte (6 : Int32) [(.int (99 : Int32)), (.int (97 : Int32)), (.int (110 : Int32)), (.int (99 : Int32)), (.int (101 : Int32)), (.int (108 : Int32))] (.int 0) ∧ Fld Z h w_CANCEL "com/example/tallywire/tallywire/ccpreport/CcpAction" "fixValue" "Ljava/lang/String;" (.ref s_CANCEL_fixValue) ∧ Exa Z h s_CANCEL_fixValue "java/lang/String" ∧ Fld Z h s_CANCEL_fixValue "java/lang/String" "coder" "B" (.int (0 : Int32)) ∧ Fld Z h s_CANCEL_fixValue "java/lang/String" "value" "[B" (.ref b_CANCEL_fixValue) ∧ Arv Z h b_CANCEL_fixValue k_CANCEL_fixValue .byte (1 : Int32) [(.int (49 : Int32))] (.int 0) ∧ Sta Z h "com/example/tallywire/tallywire/ccpreport/CcpAction" "CONTRA" "Lcom/example/tallywire/tallywire/ccpreport/CcpAction;" (.ref w_CONTRA) ∧ Exa Z h w_CONTRA "com/example/tallywire/tallywire/ccpreport/CcpAction" ∧ Fld Z h w_CONTRA "com/example/tallywire/tallywire/ccpreport/CcpAction" "label" "Ljava/lang/String;" (.ref s_CONTRA_label) ∧ Exa Z h s_CONTRA_label "java/lang/String" ∧ Fld Z h s_CONTRA_label "java/lang/String" "coder" "B" (.int (0 : Int32)) ∧ Fld Z h s_CONTRA_label "java/lang/String" "value" "[B" (.ref b_CONTRA_label) ∧ Arv Z h b_CONTRA_label k_CONTRA_label .byte (6 : Int32) [(.int (99 : Int32)), (.int (111 : Int32)), (.int (110 : Int32)), (.int (116 : Int32)), (.int (114 : Int32)), (.int (97 : Int32))] (.int 0) ∧ Fld Z h w_CONTRA "com/example/tallywire/tallywire/ccpreport/CcpAction" "fixValue" "Ljava/lang/String;" (.ref s_CONTRA_fixValue) ∧ Exa Z h s_CONTRA_fixValue "java/lang/String" ∧ Fld Z h s_CONTRA_fixValue "java/lang/String" "coder" "B" (.int (0 : Int32)) ∧ Fld Z h s_CONTRA_fixValue "java/lang/String" "value" "[B" (.ref b_CONTRA_fixValue) ∧ Arv Z h b_CONTRA_fixValue k_CONTRA_fixValue .byte (1 : Int32) [(.int (52 : Int32))] (.int 0) ∧ ¬ w_NEW = w_CANCEL ∧ ¬ w_NEW = w_CONTRA ∧ ¬ w_CANCEL = w_CONTRA ∧ Sta Z h "java/lang/String" "COMPACT_STRINGS" "Z" (.int zc) ∧ ¬ zc = (0 : Int32)
def own_makes (a1 w_CANCEL : Addr) : Int32 := if a1 = w_CANCEL then (0 : Int32) else (1 : Int32)
theorem d_prog_2_method_7_code_0 : decode prog_2_method_7_code 0 = .ok (.aload_n 0, 1) := by decide +kernel
theorem d_prog_2_method_7_code_1 : decode prog_2_method_7_code 1 = .ok (.getstatic 7, 3) := by decide +kernel
theorem d_prog_2_method_7_code_4 : decode prog_2_method_7_code 4 = .ok (.if_acmp .eq 7, 3) := by decide +kernel
theorem d_prog_2_method_7_code_11 : decode prog_2_method_7_code 11 = .ok (.iconst 0, 1) := by decide +kernel
theorem d_prog_2_method_7_code_12 : decode prog_2_method_7_code 12 = .ok (.ireturn, 1) := by decide +kernel
theorem d_prog_2_method_7_code_7 : decode prog_2_method_7_code 7 = .ok (.iconst 1, 1) := by decide +kernel
theorem d_prog_2_method_7_code_8 : decode prog_2_method_7_code 8 = .ok (.goto 4, 3) := by decide +kernel
theorem pn_com_example_tallywire_tallywire_ccpreport_CcpAction : plainName "com/example/tallywire/tallywire/ccpreport/CcpAction" = true := by first | (simp [plainName, overriddenIn]; done) | decide +kernel
set_option maxRecDepth 65536 in
set_option maxHeartbeats 40000000 in
theorem rm1 (l : Launch) (Z : State) (a0 : Array Value) (hw : ∀ d ∈ tables_1, d.before a0 Z = true) (ws : List Jvm.Cond) (a1 w_CANCEL : Addr) (h0 : Heap) (n0 : Nat) (Z0 : n0 ≤ h0.size) (S_CANCEL : Sta Z h0 "com/example/tallywire/tallywire/ccpreport/CcpAction" "CANCEL" "Lcom/example/tallywire/tallywire/ccpreport/CcpAction;" (.ref w_CANCEL)) :
    Does l (⟨"com/example/tallywire/tallywire/ccpreport/CcpAction", "makesTrade", "()Z"⟩ : MethodName) prog_2_method_7_code 1 (some .boolean) ws ({ frames := 0, cells := 0, slots := 0, locals := 0 } : Room) #[(.ref a1)] Z h0 (fun v h L => v = some (.int (own_makes a1 w_CANCEL)) ∧ Fr n0 L ∧ h = h0) := by
  refine Does.of (plainFor_of_name pn_com_example_tallywire_tallywire_ccpreport_CcpAction) ?_
  intro p e s m below meth c s₁ hx hby hml hret hlk hown0 hnm hZ X0 e0
  have hown : s.vm.findClass "com/example/tallywire/tallywire/ccpreport/CcpAction" = some m.cls := hown0
  have N0 := Fr.nil n0
  refine Go.cast (g' := (mkF m 0 #[.val (.ref a1)] [])) (by first | (simp [entryFrame, mkF, argsToLocals, Value.category, maxLocals]; done) | rfl) ?_
  refine Go.st (T' := s₁) (g' := (mkF m 1 #[.val (.ref a1)] [(.ref a1)])) ?_ (fun _ k_ => XS.aloadN X0.here hx rfl (hb hby d_prog_2_method_7_code_0) rfl rfl k_)
  obtain ⟨T1, X1, e1, st1⟩ := getS2 X0 hx hZ hown (host := "") (Or.inl (hw _ (List.mem_of_getElem? (i := 9) rfl))) Via.refl e0 S_CANCEL (g := (mkF m 1 #[.val (.ref a1)] [(.ref a1)])) rfl (hb hby d_prog_2_method_7_code_1)
  refine Go.st (T' := T1) (g' := (mkF m 4 #[.val (.ref a1)] [(.ref w_CANCEL), (.ref a1)])) ?_ st1
  by_cases hc2 : a1 = w_CANCEL
  · refine Go.st (T' := T1) (g' := (mkF m 11 #[.val (.ref a1)] [])) ?_ (fun _ k_ => Jvm.RoadKit.acmp (g := (mkF m 4 #[.val (.ref a1)] [(.ref w_CANCEL), (.ref a1)])) X1 hx rfl rfl rfl (pc0 := 4) (pc' := 11) (same := true) rfl (hb hby d_prog_2_method_7_code_4) rfl (decide_eq_true (congrArg Value.ref hc2)) (by decide) (by decide) k_)
    refine Go.st (T' := T1) (g' := (mkF m 12 #[.val (.ref a1)] [(.int (0 : Int32))])) ?_ (fun _ k_ => XT.iconstV X1.here hx rfl (0 : Int32) (hb hby d_prog_2_method_7_code_11) (by decide) k_)
    exact Go.retV (t := .boolean) X1 hx hret hlk (by decide) (by decide) rfl (Or.inl ⟨rfl, Or.inr (Or.inl rfl), _, rfl⟩) (hb hby d_prog_2_method_7_code_12) ⟨by rw [own_makes, if_pos hc2], N0, e1⟩
  · refine Go.st (T' := T1) (g' := (mkF m 7 #[.val (.ref a1)] [])) ?_ (fun _ k_ => Jvm.RoadKit.acmp (g := (mkF m 4 #[.val (.ref a1)] [(.ref w_CANCEL), (.ref a1)])) X1 hx rfl rfl rfl (pc0 := 4) (pc' := 7) (same := false) rfl (hb hby d_prog_2_method_7_code_4) rfl (decide_eq_false (fun q_ => hc2 (Value.ref.inj q_))) (by decide) (by decide) k_)
    refine Go.st (T' := T1) (g' := (mkF m 8 #[.val (.ref a1)] [(.int (1 : Int32))])) ?_ (fun _ k_ => XT.iconstV X1.here hx rfl (1 : Int32) (hb hby d_prog_2_method_7_code_7) (by decide) k_)
    refine Go.st (T' := T1) (g' := (mkF m 12 #[.val (.ref a1)] [(.int (1 : Int32))])) ?_ (fun _ k_ => XS.goto X1.here hx rfl (pc0 := 8) (pc' := 12) rfl (hb hby d_prog_2_method_7_code_8) (by decide) (by decide) k_)
    exact Go.retV (t := .boolean) X1 hx hret hlk (by decide) (by decide) rfl (Or.inl ⟨rfl, Or.inr (Or.inl rfl), _, rfl⟩) (hb hby d_prog_2_method_7_code_12) ⟨by rw [own_makes, if_neg hc2], N0, e1⟩
def own_acts (a1 w_NEW : Addr) : Int32 := if a1 = w_NEW then (0 : Int32) else (1 : Int32)
theorem d_prog_2_method_6_code_0 : decode prog_2_method_6_code 0 = .ok (.aload_n 0, 1) := by decide +kernel
theorem d_prog_2_method_6_code_1 : decode prog_2_method_6_code 1 = .ok (.getstatic 3, 3) := by decide +kernel
theorem d_prog_2_method_6_code_4 : decode prog_2_method_6_code 4 = .ok (.if_acmp .eq 7, 3) := by decide +kernel
theorem d_prog_2_method_6_code_11 : decode prog_2_method_6_code 11 = .ok (.iconst 0, 1) := by decide +kernel
theorem d_prog_2_method_6_code_12 : decode prog_2_method_6_code 12 = .ok (.ireturn, 1) := by decide +kernel
theorem d_prog_2_method_6_code_7 : decode prog_2_method_6_code 7 = .ok (.iconst 1, 1) := by decide +kernel
theorem d_prog_2_method_6_code_8 : decode prog_2_method_6_code 8 = .ok (.goto 4, 3) := by decide +kernel
set_option maxRecDepth 65536 in
set_option maxHeartbeats 40000000 in
theorem rm2 (l : Launch) (Z : State) (a0 : Array Value) (hw : ∀ d ∈ tables_1, d.before a0 Z = true) (ws : List Jvm.Cond) (a1 w_NEW : Addr) (h0 : Heap) (n0 : Nat) (Z0 : n0 ≤ h0.size) (S_NEW : Sta Z h0 "com/example/tallywire/tallywire/ccpreport/CcpAction" "NEW" "Lcom/example/tallywire/tallywire/ccpreport/CcpAction;" (.ref w_NEW)) :
    Does l (⟨"com/example/tallywire/tallywire/ccpreport/CcpAction", "actsOnTrade", "()Z"⟩ : MethodName) prog_2_method_6_code 1 (some .boolean) ws ({ frames := 0, cells := 0, slots := 0, locals := 0 } : Room) #[(.ref a1)] Z h0 (fun v h L => v = some (.int (own_acts a1 w_NEW)) ∧ Fr n0 L ∧ h = h0) := by
  refine Does.of (plainFor_of_name pn_com_example_tallywire_tallywire_ccpreport_CcpAction) ?_
  intro p e s m below meth c s₁ hx hby hml hret hlk hown0 hnm hZ X0 e0
  have hown : s.vm.findClass "com/example/tallywire/tallywire/ccpreport/CcpAction" = some m.cls := hown0
  have N0 := Fr.nil n0
  refine Go.cast (g' := (mkF m 0 #[.val (.ref a1)] [])) (by first | (simp [entryFrame, mkF, argsToLocals, Value.category, maxLocals]; done) | rfl) ?_
  refine Go.st (T' := s₁) (g' := (mkF m 1 #[.val (.ref a1)] [(.ref a1)])) ?_ (fun _ k_ => XS.aloadN X0.here hx rfl (hb hby d_prog_2_method_6_code_0) rfl rfl k_)
  obtain ⟨T1, X1, e1, st1⟩ := getS2 X0 hx hZ hown (host := "") (Or.inl (hw _ (List.mem_of_getElem? (i := 56) rfl))) Via.refl e0 S_NEW (g := (mkF m 1 #[.val (.ref a1)] [(.ref a1)])) rfl (hb hby d_prog_2_method_6_code_1)
  refine Go.st (T' := T1) (g' := (mkF m 4 #[.val (.ref a1)] [(.ref w_NEW), (.ref a1)])) ?_ st1
  by_cases hc2 : a1 = w_NEW
  · refine Go.st (T' := T1) (g' := (mkF m 11 #[.val (.ref a1)] [])) ?_ (fun _ k_ => Jvm.RoadKit.acmp (g := (mkF m 4 #[.val (.ref a1)] [(.ref w_NEW), (.ref a1)])) X1 hx rfl rfl rfl (pc0 := 4) (pc' := 11) (same := true) rfl (hb hby d_prog_2_method_6_code_4) rfl (decide_eq_true (congrArg Value.ref hc2)) (by decide) (by decide) k_)
    refine Go.st (T' := T1) (g' := (mkF m 12 #[.val (.ref a1)] [(.int (0 : Int32))])) ?_ (fun _ k_ => XT.iconstV X1.here hx rfl (0 : Int32) (hb hby d_prog_2_method_6_code_11) (by decide) k_)
    exact Go.retV (t := .boolean) X1 hx hret hlk (by decide) (by decide) rfl (Or.inl ⟨rfl, Or.inr (Or.inl rfl), _, rfl⟩) (hb hby d_prog_2_method_6_code_12) ⟨by rw [own_acts, if_pos hc2], N0, e1⟩
  · refine Go.st (T' := T1) (g' := (mkF m 7 #[.val (.ref a1)] [])) ?_ (fun _ k_ => Jvm.RoadKit.acmp (g := (mkF m 4 #[.val (.ref a1)] [(.ref w_NEW), (.ref a1)])) X1 hx rfl rfl rfl (pc0 := 4) (pc' := 7) (same := false) rfl (hb hby d_prog_2_method_6_code_4) rfl (decide_eq_false (fun q_ => hc2 (Value.ref.inj q_))) (by decide) (by decide) k_)
    refine Go.st (T' := T1) (g' := (mkF m 8 #[.val (.ref a1)] [(.int (1 : Int32))])) ?_ (fun _ k_ => XT.iconstV X1.here hx rfl (1 : Int32) (hb hby d_prog_2_method_6_code_7) (by decide) k_)
    refine Go.st (T' := T1) (g' := (mkF m 12 #[.val (.ref a1)] [(.int (1 : Int32))])) ?_ (fun _ k_ => XS.goto X1.here hx rfl (pc0 := 8) (pc' := 12) rfl (hb hby d_prog_2_method_6_code_8) (by decide) (by decide) k_)
    exact Go.retV (t := .boolean) X1 hx hret hlk (by decide) (by decide) rfl (Or.inl ⟨rfl, Or.inr (Or.inl rfl), _, rfl⟩) (hb hby d_prog_2_method_6_code_12) ⟨by rw [own_acts, if_neg hc2], N0, e1⟩
theorem d_prog_2_method_4_code_0 : decode prog_2_method_4_code 0 = .ok (.aload_n 0, 1) := by decide +kernel
theorem d_prog_2_method_4_code_1 : decode prog_2_method_4_code 1 = .ok (.getfield 32, 3) := by decide +kernel
theorem d_prog_2_method_4_code_4 : decode prog_2_method_4_code 4 = .ok (.areturn, 1) := by decide +kernel
set_option maxRecDepth 65536 in
set_option maxHeartbeats 40000000 in
theorem rm3 (l : Launch) (Z : State) (a0 : Array Value) (hw : ∀ d ∈ tables_1, d.before a0 Z = true) (ws : List Jvm.Cond) (a1 s1 : Addr) (h0 : Heap) (n0 : Nat) (Z0 : n0 ≤ h0.size) (F1 : Fld Z h0 a1 "com/example/tallywire/tallywire/ccpreport/CcpAction" "label" "Ljava/lang/String;" (.ref s1)) :
    Does l (⟨"com/example/tallywire/tallywire/ccpreport/CcpAction", "label", "()Ljava/lang/String;"⟩ : MethodName) prog_2_method_4_code 1 (some (.object "java/lang/String")) ws ({ frames := 0, cells := 0, slots := 0, locals := 0 } : Room) #[(.ref a1)] Z h0 (fun v h L => v = some (.ref s1) ∧ Fr n0 L ∧ h = h0) := by
  refine Does.of (plainFor_of_name pn_com_example_tallywire_tallywire_ccpreport_CcpAction) ?_
  intro p e s m below meth c s₁ hx hby hml hret hlk hown0 hnm hZ X0 e0
  have hown : s.vm.findClass "com/example/tallywire/tallywire/ccpreport/CcpAction" = some m.cls := hown0
  have N0 := Fr.nil n0
  refine Go.cast (g' := (mkF m 0 #[.val (.ref a1)] [])) (by first | (simp [entryFrame, mkF, argsToLocals, Value.category, maxLocals]; done) | rfl) ?_
  refine Go.st (T' := s₁) (g' := (mkF m 1 #[.val (.ref a1)] [(.ref a1)])) ?_ (fun _ k_ => XS.aloadN X0.here hx rfl (hb hby d_prog_2_method_4_code_0) rfl rfl k_)
  obtain ⟨T1, X1, e1, st1⟩ := getF X0 hx hZ hown (host := "") (Or.inl (hw _ (List.mem_of_getElem? (i := 16) rfl))) Via.refl e0 F1 (g := (mkF m 1 #[.val (.ref a1)] [(.ref a1)])) rfl rfl (hb hby d_prog_2_method_4_code_1)
  refine Go.st (T' := T1) (g' := (mkF m 4 #[.val (.ref a1)] [(.ref s1)])) ?_ st1
  exact Go.retV (t := (.object "java/lang/String")) X1 hx hret hlk (by decide) (by decide) rfl (Or.inr (Or.inr (Or.inr (Or.inr ⟨rfl, rfl, rfl⟩)))) (hb hby d_prog_2_method_4_code_4) ⟨rfl, N0, e1⟩
theorem d_prog_2_method_5_code_0 : decode prog_2_method_5_code 0 = .ok (.aload_n 0, 1) := by decide +kernel
theorem d_prog_2_method_5_code_1 : decode prog_2_method_5_code 1 = .ok (.getfield 36, 3) := by decide +kernel
theorem d_prog_2_method_5_code_4 : decode prog_2_method_5_code 4 = .ok (.areturn, 1) := by decide +kernel
set_option maxRecDepth 65536 in
set_option maxHeartbeats 40000000 in
theorem rm4 (l : Launch) (Z : State) (a0 : Array Value) (hw : ∀ d ∈ tables_1, d.before a0 Z = true) (ws : List Jvm.Cond) (a1 s1 : Addr) (h0 : Heap) (n0 : Nat) (Z0 : n0 ≤ h0.size) (F1 : Fld Z h0 a1 "com/example/tallywire/tallywire/ccpreport/CcpAction" "fixValue" "Ljava/lang/String;" (.ref s1)) :
    Does l (⟨"com/example/tallywire/tallywire/ccpreport/CcpAction", "fixValue", "()Ljava/lang/String;"⟩ : MethodName) prog_2_method_5_code 1 (some (.object "java/lang/String")) ws ({ frames := 0, cells := 0, slots := 0, locals := 0 } : Room) #[(.ref a1)] Z h0 (fun v h L => v = some (.ref s1) ∧ Fr n0 L ∧ h = h0) := by
  refine Does.of (plainFor_of_name pn_com_example_tallywire_tallywire_ccpreport_CcpAction) ?_
  intro p e s m below meth c s₁ hx hby hml hret hlk hown0 hnm hZ X0 e0
  have hown : s.vm.findClass "com/example/tallywire/tallywire/ccpreport/CcpAction" = some m.cls := hown0
  have N0 := Fr.nil n0
  refine Go.cast (g' := (mkF m 0 #[.val (.ref a1)] [])) (by first | (simp [entryFrame, mkF, argsToLocals, Value.category, maxLocals]; done) | rfl) ?_
  refine Go.st (T' := s₁) (g' := (mkF m 1 #[.val (.ref a1)] [(.ref a1)])) ?_ (fun _ k_ => XS.aloadN X0.here hx rfl (hb hby d_prog_2_method_5_code_0) rfl rfl k_)
  obtain ⟨T1, X1, e1, st1⟩ := getF X0 hx hZ hown (host := "") (Or.inl (hw _ (List.mem_of_getElem? (i := 45) rfl))) Via.refl e0 F1 (g := (mkF m 1 #[.val (.ref a1)] [(.ref a1)])) rfl rfl (hb hby d_prog_2_method_5_code_1)
  refine Go.st (T' := T1) (g' := (mkF m 4 #[.val (.ref a1)] [(.ref s1)])) ?_ st1
  exact Go.retV (t := (.object "java/lang/String")) X1 hx hret hlk (by decide) (by decide) rfl (Or.inr (Or.inr (Or.inr (Or.inr ⟨rfl, rfl, rfl⟩)))) (hb hby d_prog_2_method_5_code_4) ⟨rfl, N0, e1⟩
theorem d_jdk_43_method_13_code_0 : decode jdk_43_method_13_code 0 = .ok (.aload_n 0, 1) := by decide +kernel
theorem d_jdk_43_method_13_code_1 : decode jdk_43_method_13_code 1 = .ok (.arraylength, 1) := by decide +kernel
theorem d_jdk_43_method_13_code_2 : decode jdk_43_method_13_code 2 = .ok (.aload_n 1, 1) := by decide +kernel
theorem d_jdk_43_method_13_code_3 : decode jdk_43_method_13_code 3 = .ok (.arraylength, 1) := by decide +kernel
theorem d_jdk_43_method_13_code_4 : decode jdk_43_method_13_code 4 = .ok (.if_icmp .ne 30, 3) := by decide +kernel
theorem d_jdk_43_method_13_code_34 : decode jdk_43_method_13_code 34 = .ok (.iconst 0, 1) := by decide +kernel
theorem d_jdk_43_method_13_code_35 : decode jdk_43_method_13_code 35 = .ok (.ireturn, 1) := by decide +kernel
theorem pn_java_lang_StringLatin1 : plainName "java/lang/StringLatin1" = true := by first | (simp [plainName, overriddenIn]; done) | decide +kernel
set_option maxRecDepth 65536 in
set_option maxHeartbeats 40000000 in
theorem rl0 (l : Launch) (Z : State) (a0 : Array Value) (hw : ∀ d ∈ tables_1, d.before a0 Z = true) (ws : List Jvm.Cond) (b1 b2 : Addr) (k1 k2 : ClassId) (h0 : Heap) (n0 : Nat) (Z0 : n0 ≤ h0.size) (K1 : Arv Z h0 b1 k1 .byte (3 : Int32) [(.int (110 : Int32)), (.int (101 : Int32)), (.int (119 : Int32))] (.int 0)) (K2 : Arv Z h0 b2 k2 .byte (6 : Int32) [(.int (99 : Int32)), (.int (97 : Int32)), (.int (110 : Int32)), (.int (99 : Int32)), (.int (101 : Int32)), (.int (108 : Int32))] (.int 0)) :
    Does l (⟨"java/lang/StringLatin1", "equals", "([B[B)Z"⟩ : MethodName) jdk_43_method_13_code 3 (some .boolean) ws ({ frames := 0, cells := 0, slots := 0, locals := 0 } : Room) #[(.ref b1), (.ref b2)] Z h0 (fun v h L => v = some (.int (0 : Int32)) ∧ Fr n0 L ∧ h = h0) := by
  refine Does.of (plainFor_of_name pn_java_lang_StringLatin1) ?_
  intro p e s m below meth c s₁ hx hby hml hret hlk hown0 hnm hZ X0 e0
  have hown : s.vm.findClass "java/lang/StringLatin1" = some m.cls := hown0
  have N0 := Fr.nil n0
  refine Go.cast (g' := (mkF m 0 #[.val (.ref b1), .val (.ref b2), .unset] [])) (by first | (simp [entryFrame, mkF, argsToLocals, Value.category, maxLocals]; done) | rfl) ?_
  refine Go.st (T' := s₁) (g' := (mkF m 1 #[.val (.ref b1), .val (.ref b2), .unset] [(.ref b1)])) ?_ (fun _ k_ => XS.aloadN X0.here hx rfl (hb hby d_jdk_43_method_13_code_0) rfl rfl k_)
  refine Go.st (T' := s₁) (g' := (mkF m 2 #[.val (.ref b1), .val (.ref b2), .unset] [(.int (3 : Int32))])) ?_ (own_len X0 hx hZ e0 K1 (g := (mkF m 1 #[.val (.ref b1), .val (.ref b2), .unset] [(.ref b1)])) rfl rfl (hb hby d_jdk_43_method_13_code_1))
  refine Go.st (T' := s₁) (g' := (mkF m 3 #[.val (.ref b1), .val (.ref b2), .unset] [(.ref b2), (.int (3 : Int32))])) ?_ (fun _ k_ => XS.aloadN X0.here hx rfl (hb hby d_jdk_43_method_13_code_2) rfl rfl k_)
  refine Go.st (T' := s₁) (g' := (mkF m 4 #[.val (.ref b1), .val (.ref b2), .unset] [(.int (6 : Int32)), (.int (3 : Int32))])) ?_ (own_len X0 hx hZ e0 K2 (g := (mkF m 3 #[.val (.ref b1), .val (.ref b2), .unset] [(.ref b2), (.int (3 : Int32))])) rfl rfl (hb hby d_jdk_43_method_13_code_3))
  refine Go.st (T' := s₁) (g' := (mkF m 34 #[.val (.ref b1), .val (.ref b2), .unset] [])) ?_ (fun _ k_ => XS.icmpYes X0.here hx rfl (pc0 := 4) (pc' := 34) rfl (hb hby d_jdk_43_method_13_code_4) rfl (by decide) (by decide) (by decide) k_)
  refine Go.st (T' := s₁) (g' := (mkF m 35 #[.val (.ref b1), .val (.ref b2), .unset] [(.int (0 : Int32))])) ?_ (fun _ k_ => XT.iconstV X0.here hx rfl (0 : Int32) (hb hby d_jdk_43_method_13_code_34) (by decide) k_)
  exact Go.retV (t := .boolean) X0 hx hret hlk (by decide) (by decide) rfl (Or.inl ⟨rfl, Or.inr (Or.inl rfl), _, rfl⟩) (hb hby d_jdk_43_method_13_code_35) ⟨rfl, N0, e0⟩
theorem d_jdk_42_method_66_code_0 : decode jdk_42_method_66_code 0 = .ok (.aload_n 0, 1) := by decide +kernel
theorem d_jdk_42_method_66_code_1 : decode jdk_42_method_66_code 1 = .ok (.aload_n 1, 1) := by decide +kernel
theorem d_jdk_42_method_66_code_2 : decode jdk_42_method_66_code 2 = .ok (.if_acmp .ne 5, 3) := by decide +kernel
theorem d_jdk_42_method_66_code_7 : decode jdk_42_method_66_code 7 = .ok (.aload_n 1, 1) := by decide +kernel
theorem d_jdk_42_method_66_code_8 : decode jdk_42_method_66_code 8 = .ok (.instanceof 10, 3) := by decide +kernel
theorem d_jdk_42_method_66_code_11 : decode jdk_42_method_66_code 11 = .ok (.ifCond .eq 43, 3) := by decide +kernel
theorem d_jdk_42_method_66_code_14 : decode jdk_42_method_66_code 14 = .ok (.aload_n 1, 1) := by decide +kernel
theorem d_jdk_42_method_66_code_15 : decode jdk_42_method_66_code 15 = .ok (.checkcast 10, 3) := by decide +kernel
theorem d_jdk_42_method_66_code_18 : decode jdk_42_method_66_code 18 = .ok (.astore_n 2, 1) := by decide +kernel
theorem d_jdk_42_method_66_code_19 : decode jdk_42_method_66_code 19 = .ok (.getstatic 38, 3) := by decide +kernel
theorem d_jdk_42_method_66_code_22 : decode jdk_42_method_66_code 22 = .ok (.ifCond .eq 14, 3) := by decide +kernel
theorem d_jdk_42_method_66_code_25 : decode jdk_42_method_66_code 25 = .ok (.aload_n 0, 1) := by decide +kernel
theorem d_jdk_42_method_66_code_26 : decode jdk_42_method_66_code 26 = .ok (.getfield 15, 3) := by decide +kernel
theorem d_jdk_42_method_66_code_29 : decode jdk_42_method_66_code 29 = .ok (.aload_n 2, 1) := by decide +kernel
theorem d_jdk_42_method_66_code_30 : decode jdk_42_method_66_code 30 = .ok (.getfield 15, 3) := by decide +kernel
theorem d_jdk_42_method_66_code_33 : decode jdk_42_method_66_code 33 = .ok (.if_icmp .ne 21, 3) := by decide +kernel
theorem d_jdk_42_method_66_code_36 : decode jdk_42_method_66_code 36 = .ok (.aload_n 0, 1) := by decide +kernel
theorem d_jdk_42_method_66_code_37 : decode jdk_42_method_66_code 37 = .ok (.getfield 9, 3) := by decide +kernel
theorem d_jdk_42_method_66_code_40 : decode jdk_42_method_66_code 40 = .ok (.aload_n 2, 1) := by decide +kernel
theorem d_jdk_42_method_66_code_41 : decode jdk_42_method_66_code 41 = .ok (.getfield 9, 3) := by decide +kernel
theorem d_jdk_42_method_66_code_44 : decode jdk_42_method_66_code 44 = .ok (.invokestatic 541, 3) := by decide +kernel
theorem pd___B_B_Z : parseMethodDescriptor "([B[B)Z" = some ⟨[(.array .byte), (.array .byte)], some .boolean⟩ := by decide +kernel
theorem d_jdk_42_method_66_code_47 : decode jdk_42_method_66_code 47 = .ok (.ifCond .eq 7, 3) := by decide +kernel
theorem d_jdk_42_method_66_code_54 : decode jdk_42_method_66_code 54 = .ok (.iconst 0, 1) := by decide +kernel
theorem d_jdk_42_method_66_code_55 : decode jdk_42_method_66_code 55 = .ok (.ireturn, 1) := by decide +kernel
theorem pn_java_lang_String : plainName "java/lang/String" = true := by first | (simp [plainName, overriddenIn]; done) | decide +kernel
set_option maxRecDepth 65536 in
set_option maxHeartbeats 40000000 in
theorem re0 (l : Launch) (Z : State) (a0 : Array Value) (hw : ∀ d ∈ tables_1, d.before a0 Z = true) (ws : List Jvm.Cond) (a1 a2 b1 b2 : Addr) (k1 k2 : ClassId) (zc : Int32) (h0 : Heap) (n0 : Nat) (Z0 : n0 ≤ h0.size) (A1 : Exa Z h0 a1 "java/lang/String") (C1 : Fld Z h0 a1 "java/lang/String" "coder" "B" (.int (0 : Int32))) (V1 : Fld Z h0 a1 "java/lang/String" "value" "[B" (.ref b1)) (K1 : Arv Z h0 b1 k1 .byte (3 : Int32) [(.int (110 : Int32)), (.int (101 : Int32)), (.int (119 : Int32))] (.int 0)) (A2 : Exa Z h0 a2 "java/lang/String") (C2 : Fld Z h0 a2 "java/lang/String" "coder" "B" (.int (0 : Int32))) (V2 : Fld Z h0 a2 "java/lang/String" "value" "[B" (.ref b2)) (K2 : Arv Z h0 b2 k2 .byte (6 : Int32) [(.int (99 : Int32)), (.int (97 : Int32)), (.int (110 : Int32)), (.int (99 : Int32)), (.int (101 : Int32)), (.int (108 : Int32))] (.int 0)) (SC : Sta Z h0 "java/lang/String" "COMPACT_STRINGS" "Z" (.int zc)) (hzc : ¬ zc = (0 : Int32)) :
    Does l (⟨"java/lang/String", "equals", "(Ljava/lang/Object;)Z"⟩ : MethodName) jdk_42_method_66_code 3 (some .boolean) ws ({ frames := 1, cells := 0, slots := 0, locals := 14 } : Room) #[(.ref a1), (.ref a2)] Z h0 (fun v h L => v = some (.int (0 : Int32)) ∧ Fr n0 L ∧ h = h0) := by
  refine Does.of (plainFor_of_name pn_java_lang_String) ?_
  intro p e s m below meth c s₁ hx hby hml hret hlk hown0 hnm hZ X0 e0
  have hown : s.vm.findClass "java/lang/String" = some m.cls := hown0
  have N0 := Fr.nil n0
  have NE : ¬ a1 = a2 := own_strne V1 V2 K1 K2 (Or.inl (by decide))
  refine Go.cast (g' := (mkF m 0 #[.val (.ref a1), .val (.ref a2), .unset] [])) (by first | (simp [entryFrame, mkF, argsToLocals, Value.category, maxLocals]; done) | rfl) ?_
  refine Go.st (T' := s₁) (g' := (mkF m 1 #[.val (.ref a1), .val (.ref a2), .unset] [(.ref a1)])) ?_ (fun _ k_ => XS.aloadN X0.here hx rfl (hb hby d_jdk_42_method_66_code_0) rfl rfl k_)
  refine Go.st (T' := s₁) (g' := (mkF m 2 #[.val (.ref a1), .val (.ref a2), .unset] [(.ref a2), (.ref a1)])) ?_ (fun _ k_ => XS.aloadN X0.here hx rfl (hb hby d_jdk_42_method_66_code_1) rfl rfl k_)
  refine Go.st (T' := s₁) (g' := (mkF m 7 #[.val (.ref a1), .val (.ref a2), .unset] [])) ?_ (fun _ k_ => Jvm.RoadKit.acmp (g := (mkF m 2 #[.val (.ref a1), .val (.ref a2), .unset] [(.ref a2), (.ref a1)])) X0 hx rfl rfl rfl (pc0 := 2) (pc' := 7) (same := false) rfl (hb hby d_jdk_42_method_66_code_2) rfl (decide_eq_false (fun q_ => (NE : ¬ a1 = a2) (Value.ref.inj q_))) (by decide) (by decide) k_)
  refine Go.st (T' := s₁) (g' := (mkF m 8 #[.val (.ref a1), .val (.ref a2), .unset] [(.ref a2)])) ?_ (fun _ k_ => XS.aloadN X0.here hx rfl (hb hby d_jdk_42_method_66_code_7) rfl rfl k_)
  obtain ⟨T1, X1, e1, st1⟩ := instY X0 hx hZ hown (hw _ (List.mem_of_getElem? (i := 31) rfl)) e0 (Ins.self A2) (g := (mkF m 8 #[.val (.ref a1), .val (.ref a2), .unset] [(.ref a2)])) rfl rfl (hb hby d_jdk_42_method_66_code_8)
  refine Go.st (T' := T1) (g' := (mkF m 11 #[.val (.ref a1), .val (.ref a2), .unset] [(.int (1 : Int32))])) ?_ st1
  refine Go.st (T' := T1) (g' := (mkF m 14 #[.val (.ref a1), .val (.ref a2), .unset] [])) ?_ (fun _ k_ => XS.ifNo X1.here hx rfl (hb hby d_jdk_42_method_66_code_11) rfl (by decide) k_)
  refine Go.st (T' := T1) (g' := (mkF m 15 #[.val (.ref a1), .val (.ref a2), .unset] [(.ref a2)])) ?_ (fun _ k_ => XS.aloadN X1.here hx rfl (hb hby d_jdk_42_method_66_code_14) rfl rfl k_)
  obtain ⟨T2, X2, e2, st2⟩ := castY X1 hx hZ hown (hw _ (List.mem_of_getElem? (i := 31) rfl)) e1 (Ins.self A2) (g := (mkF m 15 #[.val (.ref a1), .val (.ref a2), .unset] [(.ref a2)])) rfl rfl (hb hby d_jdk_42_method_66_code_15)
  refine Go.st (T' := T2) (g' := (mkF m 18 #[.val (.ref a1), .val (.ref a2), .unset] [(.ref a2)])) ?_ st2
  refine Go.st (T' := T2) (g' := (mkF m 19 #[.val (.ref a1), .val (.ref a2), .val (.ref a2)] [])) ?_ (fun _ k_ => XS.astoreN X2.here hx rfl (hb hby d_jdk_42_method_66_code_18) rfl rfl (l' := #[.val (.ref a1), .val (.ref a2), .val (.ref a2)]) rfl k_)
  obtain ⟨T3, X3, e3, st3⟩ := getS2 X2 hx hZ hown (host := "") (Or.inl (hw _ (List.mem_of_getElem? (i := 33) rfl))) Via.refl e2 SC (g := (mkF m 19 #[.val (.ref a1), .val (.ref a2), .val (.ref a2)] [])) rfl (hb hby d_jdk_42_method_66_code_19)
  refine Go.st (T' := T3) (g' := (mkF m 22 #[.val (.ref a1), .val (.ref a2), .val (.ref a2)] [(.int zc)])) ?_ st3
  refine Go.st (T' := T3) (g' := (mkF m 25 #[.val (.ref a1), .val (.ref a2), .val (.ref a2)] [])) ?_ (fun _ k_ => XS.ifNo X3.here hx rfl (hb hby d_jdk_42_method_66_code_22) rfl ((if0 _ _).trans (feq (hzc : ¬ zc = (0 : Int32))).1) k_)
  refine Go.st (T' := T3) (g' := (mkF m 26 #[.val (.ref a1), .val (.ref a2), .val (.ref a2)] [(.ref a1)])) ?_ (fun _ k_ => XS.aloadN X3.here hx rfl (hb hby d_jdk_42_method_66_code_25) rfl rfl k_)
  obtain ⟨T4, X4, e4, st4⟩ := getF X3 hx hZ hown (host := "") (Or.inl (hw _ (List.mem_of_getElem? (i := 34) rfl))) Via.refl e3 C1 (g := (mkF m 26 #[.val (.ref a1), .val (.ref a2), .val (.ref a2)] [(.ref a1)])) rfl rfl (hb hby d_jdk_42_method_66_code_26)
  refine Go.st (T' := T4) (g' := (mkF m 29 #[.val (.ref a1), .val (.ref a2), .val (.ref a2)] [(.int (0 : Int32))])) ?_ st4
  refine Go.st (T' := T4) (g' := (mkF m 30 #[.val (.ref a1), .val (.ref a2), .val (.ref a2)] [(.ref a2), (.int (0 : Int32))])) ?_ (fun _ k_ => XS.aloadN X4.here hx rfl (hb hby d_jdk_42_method_66_code_29) rfl rfl k_)
  obtain ⟨T5, X5, e5, st5⟩ := getF X4 hx hZ hown (host := "") (Or.inl (hw _ (List.mem_of_getElem? (i := 34) rfl))) Via.refl e4 C2 (g := (mkF m 30 #[.val (.ref a1), .val (.ref a2), .val (.ref a2)] [(.ref a2), (.int (0 : Int32))])) rfl rfl (hb hby d_jdk_42_method_66_code_30)
  refine Go.st (T' := T5) (g' := (mkF m 33 #[.val (.ref a1), .val (.ref a2), .val (.ref a2)] [(.int (0 : Int32)), (.int (0 : Int32))])) ?_ st5
  refine Go.st (T' := T5) (g' := (mkF m 36 #[.val (.ref a1), .val (.ref a2), .val (.ref a2)] [])) ?_ (fun _ k_ => XS.icmpNo X5.here hx rfl (hb hby d_jdk_42_method_66_code_33) rfl (by decide) k_)
  refine Go.st (T' := T5) (g' := (mkF m 37 #[.val (.ref a1), .val (.ref a2), .val (.ref a2)] [(.ref a1)])) ?_ (fun _ k_ => XS.aloadN X5.here hx rfl (hb hby d_jdk_42_method_66_code_36) rfl rfl k_)
  obtain ⟨T6, X6, e6, st6⟩ := getF X5 hx hZ hown (host := "") (Or.inl (hw _ (List.mem_of_getElem? (i := 35) rfl))) Via.refl e5 V1 (g := (mkF m 37 #[.val (.ref a1), .val (.ref a2), .val (.ref a2)] [(.ref a1)])) rfl rfl (hb hby d_jdk_42_method_66_code_37)
  refine Go.st (T' := T6) (g' := (mkF m 40 #[.val (.ref a1), .val (.ref a2), .val (.ref a2)] [(.ref b1)])) ?_ st6
  refine Go.st (T' := T6) (g' := (mkF m 41 #[.val (.ref a1), .val (.ref a2), .val (.ref a2)] [(.ref a2), (.ref b1)])) ?_ (fun _ k_ => XS.aloadN X6.here hx rfl (hb hby d_jdk_42_method_66_code_40) rfl rfl k_)
  obtain ⟨T7, X7, e7, st7⟩ := getF X6 hx hZ hown (host := "") (Or.inl (hw _ (List.mem_of_getElem? (i := 35) rfl))) Via.refl e6 V2 (g := (mkF m 41 #[.val (.ref a1), .val (.ref a2), .val (.ref a2)] [(.ref a2), (.ref b1)])) rfl rfl (hb hby d_jdk_42_method_66_code_41)
  refine Go.st (T' := T7) (g' := (mkF m 44 #[.val (.ref a1), .val (.ref a2), .val (.ref a2)] [(.ref b2), (.ref b1)])) ?_ st7
  refine Go.callS X7 hx hZ hown (hw _ (List.mem_of_getElem? (i := 36) rfl)) (hw _ (List.mem_of_getElem? (i := 37) rfl)) (hw _ (List.mem_of_getElem? (i := 38) rfl)) (hw _ (List.mem_of_getElem? (i := 39) rfl)) (by decide) (rl0 l Z a0 hw [] b1 b2 k1 k2 h0 n0 Z0 K1 K2) e7 (by decide) (W := 0) (by decide) (by decide) (by decide) (g := (mkF m 44 #[.val (.ref a1), .val (.ref a2), .val (.ref a2)] [(.ref b2), (.ref b1)])) (rest := []) rfl (by rw [hml]; rfl) (lenOf pd___B_B_Z rfl) rfl (by show 2 * 0 + _ ≤ _; exact Nat.le_of_eq rfl) (hb hby d_jdk_42_method_66_code_44) ?_
  rintro v8 T8 L8 X8 ⟨rfl, N8, e8⟩
  have M8 := Fr.app N0 N8
  show Go p e below _ T8 (mkF m 47 #[.val (.ref a1), .val (.ref a2), .val (.ref a2)] [(.int (0 : Int32))])
  refine Go.st (T' := T8) (g' := (mkF m 54 #[.val (.ref a1), .val (.ref a2), .val (.ref a2)] [])) ?_ (fun _ k_ => XS.ifYes X8.here hx rfl (pc0 := 47) (pc' := 54) rfl (hb hby d_jdk_42_method_66_code_47) rfl (by decide) (by decide) (by decide) k_)
  refine Go.st (T' := T8) (g' := (mkF m 55 #[.val (.ref a1), .val (.ref a2), .val (.ref a2)] [(.int (0 : Int32))])) ?_ (fun _ k_ => XT.iconstV X8.here hx rfl (0 : Int32) (hb hby d_jdk_42_method_66_code_54) (by decide) k_)
  exact Go.retV (t := .boolean) X8 hx hret hlk (by decide) (by decide) rfl (Or.inl ⟨rfl, Or.inr (Or.inl rfl), _, rfl⟩) (hb hby d_jdk_42_method_66_code_55) ⟨rfl, M8, e8⟩
theorem d_jdk_43_method_13_code_7 : decode jdk_43_method_13_code 7 = .ok (.iconst 0, 1) := by decide +kernel
theorem d_jdk_43_method_13_code_8 : decode jdk_43_method_13_code 8 = .ok (.istore_n 2, 1) := by decide +kernel
theorem d_jdk_43_method_13_code_9 : decode jdk_43_method_13_code 9 = .ok (.iload_n 2, 1) := by decide +kernel
theorem d_jdk_43_method_13_code_10 : decode jdk_43_method_13_code 10 = .ok (.aload_n 0, 1) := by decide +kernel
theorem d_jdk_43_method_13_code_11 : decode jdk_43_method_13_code 11 = .ok (.arraylength, 1) := by decide +kernel
theorem d_jdk_43_method_13_code_12 : decode jdk_43_method_13_code 12 = .ok (.if_icmp .ge 20, 3) := by decide +kernel
theorem d_jdk_43_method_13_code_15 : decode jdk_43_method_13_code 15 = .ok (.aload_n 0, 1) := by decide +kernel
theorem d_jdk_43_method_13_code_16 : decode jdk_43_method_13_code 16 = .ok (.iload_n 2, 1) := by decide +kernel
theorem d_jdk_43_method_13_code_17 : decode jdk_43_method_13_code 17 = .ok (.baload, 1) := by decide +kernel
theorem d_jdk_43_method_13_code_18 : decode jdk_43_method_13_code 18 = .ok (.aload_n 1, 1) := by decide +kernel
theorem d_jdk_43_method_13_code_19 : decode jdk_43_method_13_code 19 = .ok (.iload_n 2, 1) := by decide +kernel
theorem d_jdk_43_method_13_code_20 : decode jdk_43_method_13_code 20 = .ok (.baload, 1) := by decide +kernel
theorem d_jdk_43_method_13_code_21 : decode jdk_43_method_13_code 21 = .ok (.if_icmp .eq 5, 3) := by decide +kernel
theorem d_jdk_43_method_13_code_24 : decode jdk_43_method_13_code 24 = .ok (.iconst 0, 1) := by decide +kernel
theorem d_jdk_43_method_13_code_25 : decode jdk_43_method_13_code 25 = .ok (.ireturn, 1) := by decide +kernel
set_option maxRecDepth 65536 in
set_option maxHeartbeats 40000000 in
theorem rl1 (l : Launch) (Z : State) (a0 : Array Value) (hw : ∀ d ∈ tables_1, d.before a0 Z = true) (ws : List Jvm.Cond) (b1 b2 : Addr) (k1 k2 : ClassId) (h0 : Heap) (n0 : Nat) (Z0 : n0 ≤ h0.size) (K1 : Arv Z h0 b1 k1 .byte (1 : Int32) [(.int (48 : Int32))] (.int 0)) (K2 : Arv Z h0 b2 k2 .byte (1 : Int32) [(.int (49 : Int32))] (.int 0)) :
    Does l (⟨"java/lang/StringLatin1", "equals", "([B[B)Z"⟩ : MethodName) jdk_43_method_13_code 3 (some .boolean) ws ({ frames := 0, cells := 0, slots := 0, locals := 0 } : Room) #[(.ref b1), (.ref b2)] Z h0 (fun v h L => v = some (.int (0 : Int32)) ∧ Fr n0 L ∧ h = h0) := by
  refine Does.of (plainFor_of_name pn_java_lang_StringLatin1) ?_
  intro p e s m below meth c s₁ hx hby hml hret hlk hown0 hnm hZ X0 e0
  have hown : s.vm.findClass "java/lang/StringLatin1" = some m.cls := hown0
  have N0 := Fr.nil n0
  refine Go.cast (g' := (mkF m 0 #[.val (.ref b1), .val (.ref b2), .unset] [])) (by first | (simp [entryFrame, mkF, argsToLocals, Value.category, maxLocals]; done) | rfl) ?_
  refine Go.st (T' := s₁) (g' := (mkF m 1 #[.val (.ref b1), .val (.ref b2), .unset] [(.ref b1)])) ?_ (fun _ k_ => XS.aloadN X0.here hx rfl (hb hby d_jdk_43_method_13_code_0) rfl rfl k_)
  refine Go.st (T' := s₁) (g' := (mkF m 2 #[.val (.ref b1), .val (.ref b2), .unset] [(.int (1 : Int32))])) ?_ (own_len X0 hx hZ e0 K1 (g := (mkF m 1 #[.val (.ref b1), .val (.ref b2), .unset] [(.ref b1)])) rfl rfl (hb hby d_jdk_43_method_13_code_1))
  refine Go.st (T' := s₁) (g' := (mkF m 3 #[.val (.ref b1), .val (.ref b2), .unset] [(.ref b2), (.int (1 : Int32))])) ?_ (fun _ k_ => XS.aloadN X0.here hx rfl (hb hby d_jdk_43_method_13_code_2) rfl rfl k_)
  refine Go.st (T' := s₁) (g' := (mkF m 4 #[.val (.ref b1), .val (.ref b2), .unset] [(.int (1 : Int32)), (.int (1 : Int32))])) ?_ (own_len X0 hx hZ e0 K2 (g := (mkF m 3 #[.val (.ref b1), .val (.ref b2), .unset] [(.ref b2), (.int (1 : Int32))])) rfl rfl (hb hby d_jdk_43_method_13_code_3))
  refine Go.st (T' := s₁) (g' := (mkF m 7 #[.val (.ref b1), .val (.ref b2), .unset] [])) ?_ (fun _ k_ => XS.icmpNo X0.here hx rfl (hb hby d_jdk_43_method_13_code_4) rfl (by decide) k_)
  refine Go.st (T' := s₁) (g' := (mkF m 8 #[.val (.ref b1), .val (.ref b2), .unset] [(.int (0 : Int32))])) ?_ (fun _ k_ => XT.iconstV X0.here hx rfl (0 : Int32) (hb hby d_jdk_43_method_13_code_7) (by decide) k_)
  refine Go.st (T' := s₁) (g' := (mkF m 9 #[.val (.ref b1), .val (.ref b2), .val (.int (0 : Int32))] [])) ?_ (fun _ k_ => XS.istoreN X0.here hx rfl (hb hby d_jdk_43_method_13_code_8) rfl (l' := #[.val (.ref b1), .val (.ref b2), .val (.int (0 : Int32))]) rfl k_)
  refine Go.st (T' := s₁) (g' := (mkF m 10 #[.val (.ref b1), .val (.ref b2), .val (.int (0 : Int32))] [(.int (0 : Int32))])) ?_ (fun _ k_ => XS.iloadN X0.here hx rfl (hb hby d_jdk_43_method_13_code_9) rfl k_)
  refine Go.st (T' := s₁) (g' := (mkF m 11 #[.val (.ref b1), .val (.ref b2), .val (.int (0 : Int32))] [(.ref b1), (.int (0 : Int32))])) ?_ (fun _ k_ => XS.aloadN X0.here hx rfl (hb hby d_jdk_43_method_13_code_10) rfl rfl k_)
  refine Go.st (T' := s₁) (g' := (mkF m 12 #[.val (.ref b1), .val (.ref b2), .val (.int (0 : Int32))] [(.int (1 : Int32)), (.int (0 : Int32))])) ?_ (own_len X0 hx hZ e0 K1 (g := (mkF m 11 #[.val (.ref b1), .val (.ref b2), .val (.int (0 : Int32))] [(.ref b1), (.int (0 : Int32))])) rfl rfl (hb hby d_jdk_43_method_13_code_11))
  refine Go.st (T' := s₁) (g' := (mkF m 15 #[.val (.ref b1), .val (.ref b2), .val (.int (0 : Int32))] [])) ?_ (fun _ k_ => XS.icmpNo X0.here hx rfl (hb hby d_jdk_43_method_13_code_12) rfl (by decide) k_)
  refine Go.st (T' := s₁) (g' := (mkF m 16 #[.val (.ref b1), .val (.ref b2), .val (.int (0 : Int32))] [(.ref b1)])) ?_ (fun _ k_ => XS.aloadN X0.here hx rfl (hb hby d_jdk_43_method_13_code_15) rfl rfl k_)
  refine Go.st (T' := s₁) (g' := (mkF m 17 #[.val (.ref b1), .val (.ref b2), .val (.int (0 : Int32))] [(.int (0 : Int32)), (.ref b1)])) ?_ (fun _ k_ => XS.iloadN X0.here hx rfl (hb hby d_jdk_43_method_13_code_16) rfl k_)
  refine Go.st (T' := s₁) (g' := (mkF m 18 #[.val (.ref b1), .val (.ref b2), .val (.int (0 : Int32))] [(.int (48 : Int32))])) ?_ (own_baload X0 hx hZ e0 K1 (by decide) (by rw [show (0 : Int32).toNatClampNeg = 0 from by decide]; rfl) (g := (mkF m 17 #[.val (.ref b1), .val (.ref b2), .val (.int (0 : Int32))] [(.int (0 : Int32)), (.ref b1)])) rfl rfl (hb hby d_jdk_43_method_13_code_17))
  refine Go.st (T' := s₁) (g' := (mkF m 19 #[.val (.ref b1), .val (.ref b2), .val (.int (0 : Int32))] [(.ref b2), (.int (48 : Int32))])) ?_ (fun _ k_ => XS.aloadN X0.here hx rfl (hb hby d_jdk_43_method_13_code_18) rfl rfl k_)
  refine Go.st (T' := s₁) (g' := (mkF m 20 #[.val (.ref b1), .val (.ref b2), .val (.int (0 : Int32))] [(.int (0 : Int32)), (.ref b2), (.int (48 : Int32))])) ?_ (fun _ k_ => XS.iloadN X0.here hx rfl (hb hby d_jdk_43_method_13_code_19) rfl k_)
  refine Go.st (T' := s₁) (g' := (mkF m 21 #[.val (.ref b1), .val (.ref b2), .val (.int (0 : Int32))] [(.int (49 : Int32)), (.int (48 : Int32))])) ?_ (own_baload X0 hx hZ e0 K2 (by decide) (by rw [show (0 : Int32).toNatClampNeg = 0 from by decide]; rfl) (g := (mkF m 20 #[.val (.ref b1), .val (.ref b2), .val (.int (0 : Int32))] [(.int (0 : Int32)), (.ref b2), (.int (48 : Int32))])) rfl rfl (hb hby d_jdk_43_method_13_code_20))
  refine Go.st (T' := s₁) (g' := (mkF m 24 #[.val (.ref b1), .val (.ref b2), .val (.int (0 : Int32))] [])) ?_ (fun _ k_ => XS.icmpNo X0.here hx rfl (hb hby d_jdk_43_method_13_code_21) rfl (by decide) k_)
  refine Go.st (T' := s₁) (g' := (mkF m 25 #[.val (.ref b1), .val (.ref b2), .val (.int (0 : Int32))] [(.int (0 : Int32))])) ?_ (fun _ k_ => XT.iconstV X0.here hx rfl (0 : Int32) (hb hby d_jdk_43_method_13_code_24) (by decide) k_)
  exact Go.retV (t := .boolean) X0 hx hret hlk (by decide) (by decide) rfl (Or.inl ⟨rfl, Or.inr (Or.inl rfl), _, rfl⟩) (hb hby d_jdk_43_method_13_code_25) ⟨rfl, N0, e0⟩
set_option maxRecDepth 65536 in
set_option maxHeartbeats 40000000 in
theorem re1 (l : Launch) (Z : State) (a0 : Array Value) (hw : ∀ d ∈ tables_1, d.before a0 Z = true) (ws : List Jvm.Cond) (a1 a2 b1 b2 : Addr) (k1 k2 : ClassId) (zc : Int32) (h0 : Heap) (n0 : Nat) (Z0 : n0 ≤ h0.size) (A1 : Exa Z h0 a1 "java/lang/String") (C1 : Fld Z h0 a1 "java/lang/String" "coder" "B" (.int (0 : Int32))) (V1 : Fld Z h0 a1 "java/lang/String" "value" "[B" (.ref b1)) (K1 : Arv Z h0 b1 k1 .byte (1 : Int32) [(.int (48 : Int32))] (.int 0)) (A2 : Exa Z h0 a2 "java/lang/String") (C2 : Fld Z h0 a2 "java/lang/String" "coder" "B" (.int (0 : Int32))) (V2 : Fld Z h0 a2 "java/lang/String" "value" "[B" (.ref b2)) (K2 : Arv Z h0 b2 k2 .byte (1 : Int32) [(.int (49 : Int32))] (.int 0)) (SC : Sta Z h0 "java/lang/String" "COMPACT_STRINGS" "Z" (.int zc)) (hzc : ¬ zc = (0 : Int32)) :
    Does l (⟨"java/lang/String", "equals", "(Ljava/lang/Object;)Z"⟩ : MethodName) jdk_42_method_66_code 3 (some .boolean) ws ({ frames := 1, cells := 0, slots := 0, locals := 14 } : Room) #[(.ref a1), (.ref a2)] Z h0 (fun v h L => v = some (.int (0 : Int32)) ∧ Fr n0 L ∧ h = h0) := by
  refine Does.of (plainFor_of_name pn_java_lang_String) ?_
  intro p e s m below meth c s₁ hx hby hml hret hlk hown0 hnm hZ X0 e0
  have hown : s.vm.findClass "java/lang/String" = some m.cls := hown0
  have N0 := Fr.nil n0
  have NE : ¬ a1 = a2 := own_strne V1 V2 K1 K2 (Or.inr ⟨0, by decide, by simp⟩)
  refine Go.cast (g' := (mkF m 0 #[.val (.ref a1), .val (.ref a2), .unset] [])) (by first | (simp [entryFrame, mkF, argsToLocals, Value.category, maxLocals]; done) | rfl) ?_
  refine Go.st (T' := s₁) (g' := (mkF m 1 #[.val (.ref a1), .val (.ref a2), .unset] [(.ref a1)])) ?_ (fun _ k_ => XS.aloadN X0.here hx rfl (hb hby d_jdk_42_method_66_code_0) rfl rfl k_)
  refine Go.st (T' := s₁) (g' := (mkF m 2 #[.val (.ref a1), .val (.ref a2), .unset] [(.ref a2), (.ref a1)])) ?_ (fun _ k_ => XS.aloadN X0.here hx rfl (hb hby d_jdk_42_method_66_code_1) rfl rfl k_)
  refine Go.st (T' := s₁) (g' := (mkF m 7 #[.val (.ref a1), .val (.ref a2), .unset] [])) ?_ (fun _ k_ => Jvm.RoadKit.acmp (g := (mkF m 2 #[.val (.ref a1), .val (.ref a2), .unset] [(.ref a2), (.ref a1)])) X0 hx rfl rfl rfl (pc0 := 2) (pc' := 7) (same := false) rfl (hb hby d_jdk_42_method_66_code_2) rfl (decide_eq_false (fun q_ => (NE : ¬ a1 = a2) (Value.ref.inj q_))) (by decide) (by decide) k_)
  refine Go.st (T' := s₁) (g' := (mkF m 8 #[.val (.ref a1), .val (.ref a2), .unset] [(.ref a2)])) ?_ (fun _ k_ => XS.aloadN X0.here hx rfl (hb hby d_jdk_42_method_66_code_7) rfl rfl k_)
  obtain ⟨T1, X1, e1, st1⟩ := instY X0 hx hZ hown (hw _ (List.mem_of_getElem? (i := 31) rfl)) e0 (Ins.self A2) (g := (mkF m 8 #[.val (.ref a1), .val (.ref a2), .unset] [(.ref a2)])) rfl rfl (hb hby d_jdk_42_method_66_code_8)
  refine Go.st (T' := T1) (g' := (mkF m 11 #[.val (.ref a1), .val (.ref a2), .unset] [(.int (1 : Int32))])) ?_ st1
  refine Go.st (T' := T1) (g' := (mkF m 14 #[.val (.ref a1), .val (.ref a2), .unset] [])) ?_ (fun _ k_ => XS.ifNo X1.here hx rfl (hb hby d_jdk_42_method_66_code_11) rfl (by decide) k_)
  refine Go.st (T' := T1) (g' := (mkF m 15 #[.val (.ref a1), .val (.ref a2), .unset] [(.ref a2)])) ?_ (fun _ k_ => XS.aloadN X1.here hx rfl (hb hby d_jdk_42_method_66_code_14) rfl rfl k_)
  obtain ⟨T2, X2, e2, st2⟩ := castY X1 hx hZ hown (hw _ (List.mem_of_getElem? (i := 31) rfl)) e1 (Ins.self A2) (g := (mkF m 15 #[.val (.ref a1), .val (.ref a2), .unset] [(.ref a2)])) rfl rfl (hb hby d_jdk_42_method_66_code_15)
  refine Go.st (T' := T2) (g' := (mkF m 18 #[.val (.ref a1), .val (.ref a2), .unset] [(.ref a2)])) ?_ st2
  refine Go.st (T' := T2) (g' := (mkF m 19 #[.val (.ref a1), .val (.ref a2), .val (.ref a2)] [])) ?_ (fun _ k_ => XS.astoreN X2.here hx rfl (hb hby d_jdk_42_method_66_code_18) rfl rfl (l' := #[.val (.ref a1), .val (.ref a2), .val (.ref a2)]) rfl k_)
  obtain ⟨T3, X3, e3, st3⟩ := getS2 X2 hx hZ hown (host := "") (Or.inl (hw _ (List.mem_of_getElem? (i := 33) rfl))) Via.refl e2 SC (g := (mkF m 19 #[.val (.ref a1), .val (.ref a2), .val (.ref a2)] [])) rfl (hb hby d_jdk_42_method_66_code_19)
  refine Go.st (T' := T3) (g' := (mkF m 22 #[.val (.ref a1), .val (.ref a2), .val (.ref a2)] [(.int zc)])) ?_ st3
  refine Go.st (T' := T3) (g' := (mkF m 25 #[.val (.ref a1), .val (.ref a2), .val (.ref a2)] [])) ?_ (fun _ k_ => XS.ifNo X3.here hx rfl (hb hby d_jdk_42_method_66_code_22) rfl ((if0 _ _).trans (feq (hzc : ¬ zc = (0 : Int32))).1) k_)
  refine Go.st (T' := T3) (g' := (mkF m 26 #[.val (.ref a1), .val (.ref a2), .val (.ref a2)] [(.ref a1)])) ?_ (fun _ k_ => XS.aloadN X3.here hx rfl (hb hby d_jdk_42_method_66_code_25) rfl rfl k_)
  obtain ⟨T4, X4, e4, st4⟩ := getF X3 hx hZ hown (host := "") (Or.inl (hw _ (List.mem_of_getElem? (i := 34) rfl))) Via.refl e3 C1 (g := (mkF m 26 #[.val (.ref a1), .val (.ref a2), .val (.ref a2)] [(.ref a1)])) rfl rfl (hb hby d_jdk_42_method_66_code_26)
  refine Go.st (T' := T4) (g' := (mkF m 29 #[.val (.ref a1), .val (.ref a2), .val (.ref a2)] [(.int (0 : Int32))])) ?_ st4
  refine Go.st (T' := T4) (g' := (mkF m 30 #[.val (.ref a1), .val (.ref a2), .val (.ref a2)] [(.ref a2), (.int (0 : Int32))])) ?_ (fun _ k_ => XS.aloadN X4.here hx rfl (hb hby d_jdk_42_method_66_code_29) rfl rfl k_)
  obtain ⟨T5, X5, e5, st5⟩ := getF X4 hx hZ hown (host := "") (Or.inl (hw _ (List.mem_of_getElem? (i := 34) rfl))) Via.refl e4 C2 (g := (mkF m 30 #[.val (.ref a1), .val (.ref a2), .val (.ref a2)] [(.ref a2), (.int (0 : Int32))])) rfl rfl (hb hby d_jdk_42_method_66_code_30)
  refine Go.st (T' := T5) (g' := (mkF m 33 #[.val (.ref a1), .val (.ref a2), .val (.ref a2)] [(.int (0 : Int32)), (.int (0 : Int32))])) ?_ st5
  refine Go.st (T' := T5) (g' := (mkF m 36 #[.val (.ref a1), .val (.ref a2), .val (.ref a2)] [])) ?_ (fun _ k_ => XS.icmpNo X5.here hx rfl (hb hby d_jdk_42_method_66_code_33) rfl (by decide) k_)
  refine Go.st (T' := T5) (g' := (mkF m 37 #[.val (.ref a1), .val (.ref a2), .val (.ref a2)] [(.ref a1)])) ?_ (fun _ k_ => XS.aloadN X5.here hx rfl (hb hby d_jdk_42_method_66_code_36) rfl rfl k_)
  obtain ⟨T6, X6, e6, st6⟩ := getF X5 hx hZ hown (host := "") (Or.inl (hw _ (List.mem_of_getElem? (i := 35) rfl))) Via.refl e5 V1 (g := (mkF m 37 #[.val (.ref a1), .val (.ref a2), .val (.ref a2)] [(.ref a1)])) rfl rfl (hb hby d_jdk_42_method_66_code_37)
  refine Go.st (T' := T6) (g' := (mkF m 40 #[.val (.ref a1), .val (.ref a2), .val (.ref a2)] [(.ref b1)])) ?_ st6
  refine Go.st (T' := T6) (g' := (mkF m 41 #[.val (.ref a1), .val (.ref a2), .val (.ref a2)] [(.ref a2), (.ref b1)])) ?_ (fun _ k_ => XS.aloadN X6.here hx rfl (hb hby d_jdk_42_method_66_code_40) rfl rfl k_)
  obtain ⟨T7, X7, e7, st7⟩ := getF X6 hx hZ hown (host := "") (Or.inl (hw _ (List.mem_of_getElem? (i := 35) rfl))) Via.refl e6 V2 (g := (mkF m 41 #[.val (.ref a1), .val (.ref a2), .val (.ref a2)] [(.ref a2), (.ref b1)])) rfl rfl (hb hby d_jdk_42_method_66_code_41)
  refine Go.st (T' := T7) (g' := (mkF m 44 #[.val (.ref a1), .val (.ref a2), .val (.ref a2)] [(.ref b2), (.ref b1)])) ?_ st7
  refine Go.callS X7 hx hZ hown (hw _ (List.mem_of_getElem? (i := 36) rfl)) (hw _ (List.mem_of_getElem? (i := 37) rfl)) (hw _ (List.mem_of_getElem? (i := 38) rfl)) (hw _ (List.mem_of_getElem? (i := 39) rfl)) (by decide) (rl1 l Z a0 hw [] b1 b2 k1 k2 h0 n0 Z0 K1 K2) e7 (by decide) (W := 0) (by decide) (by decide) (by decide) (g := (mkF m 44 #[.val (.ref a1), .val (.ref a2), .val (.ref a2)] [(.ref b2), (.ref b1)])) (rest := []) rfl (by rw [hml]; rfl) (lenOf pd___B_B_Z rfl) rfl (by show 2 * 0 + _ ≤ _; exact Nat.le_of_eq rfl) (hb hby d_jdk_42_method_66_code_44) ?_
  rintro v8 T8 L8 X8 ⟨rfl, N8, e8⟩
  have M8 := Fr.app N0 N8
  show Go p e below _ T8 (mkF m 47 #[.val (.ref a1), .val (.ref a2), .val (.ref a2)] [(.int (0 : Int32))])
  refine Go.st (T' := T8) (g' := (mkF m 54 #[.val (.ref a1), .val (.ref a2), .val (.ref a2)] [])) ?_ (fun _ k_ => XS.ifYes X8.here hx rfl (pc0 := 47) (pc' := 54) rfl (hb hby d_jdk_42_method_66_code_47) rfl (by decide) (by decide) (by decide) k_)
  refine Go.st (T' := T8) (g' := (mkF m 55 #[.val (.ref a1), .val (.ref a2), .val (.ref a2)] [(.int (0 : Int32))])) ?_ (fun _ k_ => XT.iconstV X8.here hx rfl (0 : Int32) (hb hby d_jdk_42_method_66_code_54) (by decide) k_)
  exact Go.retV (t := .boolean) X8 hx hret hlk (by decide) (by decide) rfl (Or.inl ⟨rfl, Or.inr (Or.inl rfl), _, rfl⟩) (hb hby d_jdk_42_method_66_code_55) ⟨rfl, M8, e8⟩
theorem d_jdk_43_method_13_code_26 : decode jdk_43_method_13_code 26 = .ok (.iinc 2 1, 3) := by decide +kernel
theorem d_jdk_43_method_13_code_29 : decode jdk_43_method_13_code 29 = .ok (.goto (-20), 3) := by decide +kernel
theorem d_jdk_43_method_13_code_32 : decode jdk_43_method_13_code 32 = .ok (.iconst 1, 1) := by decide +kernel
theorem d_jdk_43_method_13_code_33 : decode jdk_43_method_13_code 33 = .ok (.ireturn, 1) := by decide +kernel
set_option maxRecDepth 65536 in
set_option maxHeartbeats 40000000 in
theorem rl2 (l : Launch) (Z : State) (a0 : Array Value) (hw : ∀ d ∈ tables_1, d.before a0 Z = true) (ws : List Jvm.Cond) (b1 b2 : Addr) (k1 k2 : ClassId) (h0 : Heap) (n0 : Nat) (Z0 : n0 ≤ h0.size) (K1 : Arv Z h0 b1 k1 .byte (6 : Int32) [(.int (99 : Int32)), (.int (97 : Int32)), (.int (110 : Int32)), (.int (99 : Int32)), (.int (101 : Int32)), (.int (108 : Int32))] (.int 0)) (K2 : Arv Z h0 b2 k2 .byte (6 : Int32) [(.int (99 : Int32)), (.int (97 : Int32)), (.int (110 : Int32)), (.int (99 : Int32)), (.int (101 : Int32)), (.int (108 : Int32))] (.int 0)) :
    Does l (⟨"java/lang/StringLatin1", "equals", "([B[B)Z"⟩ : MethodName) jdk_43_method_13_code 3 (some .boolean) ws ({ frames := 0, cells := 0, slots := 0, locals := 0 } : Room) #[(.ref b1), (.ref b2)] Z h0 (fun v h L => v = some (.int (1 : Int32)) ∧ Fr n0 L ∧ h = h0) := by
  refine Does.of (plainFor_of_name pn_java_lang_StringLatin1) ?_
  intro p e s m below meth c s₁ hx hby hml hret hlk hown0 hnm hZ X0 e0
  have hown : s.vm.findClass "java/lang/StringLatin1" = some m.cls := hown0
  have N0 := Fr.nil n0
  refine Go.cast (g' := (mkF m 0 #[.val (.ref b1), .val (.ref b2), .unset] [])) (by first | (simp [entryFrame, mkF, argsToLocals, Value.category, maxLocals]; done) | rfl) ?_
  refine Go.st (T' := s₁) (g' := (mkF m 1 #[.val (.ref b1), .val (.ref b2), .unset] [(.ref b1)])) ?_ (fun _ k_ => XS.aloadN X0.here hx rfl (hb hby d_jdk_43_method_13_code_0) rfl rfl k_)
  refine Go.st (T' := s₁) (g' := (mkF m 2 #[.val (.ref b1), .val (.ref b2), .unset] [(.int (6 : Int32))])) ?_ (own_len X0 hx hZ e0 K1 (g := (mkF m 1 #[.val (.ref b1), .val (.ref b2), .unset] [(.ref b1)])) rfl rfl (hb hby d_jdk_43_method_13_code_1))
  refine Go.st (T' := s₁) (g' := (mkF m 3 #[.val (.ref b1), .val (.ref b2), .unset] [(.ref b2), (.int (6 : Int32))])) ?_ (fun _ k_ => XS.aloadN X0.here hx rfl (hb hby d_jdk_43_method_13_code_2) rfl rfl k_)
  refine Go.st (T' := s₁) (g' := (mkF m 4 #[.val (.ref b1), .val (.ref b2), .unset] [(.int (6 : Int32)), (.int (6 : Int32))])) ?_ (own_len X0 hx hZ e0 K2 (g := (mkF m 3 #[.val (.ref b1), .val (.ref b2), .unset] [(.ref b2), (.int (6 : Int32))])) rfl rfl (hb hby d_jdk_43_method_13_code_3))
  refine Go.st (T' := s₁) (g' := (mkF m 7 #[.val (.ref b1), .val (.ref b2), .unset] [])) ?_ (fun _ k_ => XS.icmpNo X0.here hx rfl (hb hby d_jdk_43_method_13_code_4) rfl (by decide) k_)
  refine Go.st (T' := s₁) (g' := (mkF m 8 #[.val (.ref b1), .val (.ref b2), .unset] [(.int (0 : Int32))])) ?_ (fun _ k_ => XT.iconstV X0.here hx rfl (0 : Int32) (hb hby d_jdk_43_method_13_code_7) (by decide) k_)
  refine Go.st (T' := s₁) (g' := (mkF m 9 #[.val (.ref b1), .val (.ref b2), .val (.int (0 : Int32))] [])) ?_ (fun _ k_ => XS.istoreN X0.here hx rfl (hb hby d_jdk_43_method_13_code_8) rfl (l' := #[.val (.ref b1), .val (.ref b2), .val (.int (0 : Int32))]) rfl k_)
  refine Go.st (T' := s₁) (g' := (mkF m 10 #[.val (.ref b1), .val (.ref b2), .val (.int (0 : Int32))] [(.int (0 : Int32))])) ?_ (fun _ k_ => XS.iloadN X0.here hx rfl (hb hby d_jdk_43_method_13_code_9) rfl k_)
  refine Go.st (T' := s₁) (g' := (mkF m 11 #[.val (.ref b1), .val (.ref b2), .val (.int (0 : Int32))] [(.ref b1), (.int (0 : Int32))])) ?_ (fun _ k_ => XS.aloadN X0.here hx rfl (hb hby d_jdk_43_method_13_code_10) rfl rfl k_)
  refine Go.st (T' := s₁) (g' := (mkF m 12 #[.val (.ref b1), .val (.ref b2), .val (.int (0 : Int32))] [(.int (6 : Int32)), (.int (0 : Int32))])) ?_ (own_len X0 hx hZ e0 K1 (g := (mkF m 11 #[.val (.ref b1), .val (.ref b2), .val (.int (0 : Int32))] [(.ref b1), (.int (0 : Int32))])) rfl rfl (hb hby d_jdk_43_method_13_code_11))
  refine Go.st (T' := s₁) (g' := (mkF m 15 #[.val (.ref b1), .val (.ref b2), .val (.int (0 : Int32))] [])) ?_ (fun _ k_ => XS.icmpNo X0.here hx rfl (hb hby d_jdk_43_method_13_code_12) rfl (by decide) k_)
  refine Go.st (T' := s₁) (g' := (mkF m 16 #[.val (.ref b1), .val (.ref b2), .val (.int (0 : Int32))] [(.ref b1)])) ?_ (fun _ k_ => XS.aloadN X0.here hx rfl (hb hby d_jdk_43_method_13_code_15) rfl rfl k_)
  refine Go.st (T' := s₁) (g' := (mkF m 17 #[.val (.ref b1), .val (.ref b2), .val (.int (0 : Int32))] [(.int (0 : Int32)), (.ref b1)])) ?_ (fun _ k_ => XS.iloadN X0.here hx rfl (hb hby d_jdk_43_method_13_code_16) rfl k_)
  refine Go.st (T' := s₁) (g' := (mkF m 18 #[.val (.ref b1), .val (.ref b2), .val (.int (0 : Int32))] [(.int (99 : Int32))])) ?_ (own_baload X0 hx hZ e0 K1 (by decide) (by rw [show (0 : Int32).toNatClampNeg = 0 from by decide]; rfl) (g := (mkF m 17 #[.val (.ref b1), .val (.ref b2), .val (.int (0 : Int32))] [(.int (0 : Int32)), (.ref b1)])) rfl rfl (hb hby d_jdk_43_method_13_code_17))
  refine Go.st (T' := s₁) (g' := (mkF m 19 #[.val (.ref b1), .val (.ref b2), .val (.int (0 : Int32))] [(.ref b2), (.int (99 : Int32))])) ?_ (fun _ k_ => XS.aloadN X0.here hx rfl (hb hby d_jdk_43_method_13_code_18) rfl rfl k_)
  refine Go.st (T' := s₁) (g' := (mkF m 20 #[.val (.ref b1), .val (.ref b2), .val (.int (0 : Int32))] [(.int (0 : Int32)), (.ref b2), (.int (99 : Int32))])) ?_ (fun _ k_ => XS.iloadN X0.here hx rfl (hb hby d_jdk_43_method_13_code_19) rfl k_)
  refine Go.st (T' := s₁) (g' := (mkF m 21 #[.val (.ref b1), .val (.ref b2), .val (.int (0 : Int32))] [(.int (99 : Int32)), (.int (99 : Int32))])) ?_ (own_baload X0 hx hZ e0 K2 (by decide) (by rw [show (0 : Int32).toNatClampNeg = 0 from by decide]; rfl) (g := (mkF m 20 #[.val (.ref b1), .val (.ref b2), .val (.int (0 : Int32))] [(.int (0 : Int32)), (.ref b2), (.int (99 : Int32))])) rfl rfl (hb hby d_jdk_43_method_13_code_20))
  refine Go.st (T' := s₁) (g' := (mkF m 26 #[.val (.ref b1), .val (.ref b2), .val (.int (0 : Int32))] [])) ?_ (fun _ k_ => XS.icmpYes X0.here hx rfl (pc0 := 21) (pc' := 26) rfl (hb hby d_jdk_43_method_13_code_21) rfl (by decide) (by decide) (by decide) k_)
  refine Go.st (T' := s₁) (g' := (mkF m 29 #[.val (.ref b1), .val (.ref b2), .val (.int (1 : Int32))] [])) ?_ (fun _ k_ => XT.iincV X0.here hx rfl (1 : Int32) (hb hby d_jdk_43_method_13_code_26) (by decide) rfl (l' := #[.val (.ref b1), .val (.ref b2), .val (.int (1 : Int32))]) rfl k_)
  refine Go.st (T' := s₁) (g' := (mkF m 9 #[.val (.ref b1), .val (.ref b2), .val (.int (1 : Int32))] [])) ?_ (fun _ k_ => XS.goto X0.here hx rfl (pc0 := 29) (pc' := 9) rfl (hb hby d_jdk_43_method_13_code_29) (by decide) (by decide) k_)
  refine Go.st (T' := s₁) (g' := (mkF m 10 #[.val (.ref b1), .val (.ref b2), .val (.int (1 : Int32))] [(.int (1 : Int32))])) ?_ (fun _ k_ => XS.iloadN X0.here hx rfl (hb hby d_jdk_43_method_13_code_9) rfl k_)
  refine Go.st (T' := s₁) (g' := (mkF m 11 #[.val (.ref b1), .val (.ref b2), .val (.int (1 : Int32))] [(.ref b1), (.int (1 : Int32))])) ?_ (fun _ k_ => XS.aloadN X0.here hx rfl (hb hby d_jdk_43_method_13_code_10) rfl rfl k_)
  refine Go.st (T' := s₁) (g' := (mkF m 12 #[.val (.ref b1), .val (.ref b2), .val (.int (1 : Int32))] [(.int (6 : Int32)), (.int (1 : Int32))])) ?_ (own_len X0 hx hZ e0 K1 (g := (mkF m 11 #[.val (.ref b1), .val (.ref b2), .val (.int (1 : Int32))] [(.ref b1), (.int (1 : Int32))])) rfl rfl (hb hby d_jdk_43_method_13_code_11))
  refine Go.st (T' := s₁) (g' := (mkF m 15 #[.val (.ref b1), .val (.ref b2), .val (.int (1 : Int32))] [])) ?_ (fun _ k_ => XS.icmpNo X0.here hx rfl (hb hby d_jdk_43_method_13_code_12) rfl (by decide) k_)
  refine Go.st (T' := s₁) (g' := (mkF m 16 #[.val (.ref b1), .val (.ref b2), .val (.int (1 : Int32))] [(.ref b1)])) ?_ (fun _ k_ => XS.aloadN X0.here hx rfl (hb hby d_jdk_43_method_13_code_15) rfl rfl k_)
  refine Go.st (T' := s₁) (g' := (mkF m 17 #[.val (.ref b1), .val (.ref b2), .val (.int (1 : Int32))] [(.int (1 : Int32)), (.ref b1)])) ?_ (fun _ k_ => XS.iloadN X0.here hx rfl (hb hby d_jdk_43_method_13_code_16) rfl k_)
  refine Go.st (T' := s₁) (g' := (mkF m 18 #[.val (.ref b1), .val (.ref b2), .val (.int (1 : Int32))] [(.int (97 : Int32))])) ?_ (own_baload X0 hx hZ e0 K1 (by decide) (by rw [show (1 : Int32).toNatClampNeg = 1 from by decide]; rfl) (g := (mkF m 17 #[.val (.ref b1), .val (.ref b2), .val (.int (1 : Int32))] [(.int (1 : Int32)), (.ref b1)])) rfl rfl (hb hby d_jdk_43_method_13_code_17))
  refine Go.st (T' := s₁) (g' := (mkF m 19 #[.val (.ref b1), .val (.ref b2), .val (.int (1 : Int32))] [(.ref b2), (.int (97 : Int32))])) ?_ (fun _ k_ => XS.aloadN X0.here hx rfl (hb hby d_jdk_43_method_13_code_18) rfl rfl k_)
  refine Go.st (T' := s₁) (g' := (mkF m 20 #[.val (.ref b1), .val (.ref b2), .val (.int (1 : Int32))] [(.int (1 : Int32)), (.ref b2), (.int (97 : Int32))])) ?_ (fun _ k_ => XS.iloadN X0.here hx rfl (hb hby d_jdk_43_method_13_code_19) rfl k_)
  refine Go.st (T' := s₁) (g' := (mkF m 21 #[.val (.ref b1), .val (.ref b2), .val (.int (1 : Int32))] [(.int (97 : Int32)), (.int (97 : Int32))])) ?_ (own_baload X0 hx hZ e0 K2 (by decide) (by rw [show (1 : Int32).toNatClampNeg = 1 from by decide]; rfl) (g := (mkF m 20 #[.val (.ref b1), .val (.ref b2), .val (.int (1 : Int32))] [(.int (1 : Int32)), (.ref b2), (.int (97 : Int32))])) rfl rfl (hb hby d_jdk_43_method_13_code_20))
  refine Go.st (T' := s₁) (g' := (mkF m 26 #[.val (.ref b1), .val (.ref b2), .val (.int (1 : Int32))] [])) ?_ (fun _ k_ => XS.icmpYes X0.here hx rfl (pc0 := 21) (pc' := 26) rfl (hb hby d_jdk_43_method_13_code_21) rfl (by decide) (by decide) (by decide) k_)
  refine Go.st (T' := s₁) (g' := (mkF m 29 #[.val (.ref b1), .val (.ref b2), .val (.int (2 : Int32))] [])) ?_ (fun _ k_ => XT.iincV X0.here hx rfl (1 : Int32) (hb hby d_jdk_43_method_13_code_26) (by decide) rfl (l' := #[.val (.ref b1), .val (.ref b2), .val (.int (2 : Int32))]) rfl k_)
  refine Go.st (T' := s₁) (g' := (mkF m 9 #[.val (.ref b1), .val (.ref b2), .val (.int (2 : Int32))] [])) ?_ (fun _ k_ => XS.goto X0.here hx rfl (pc0 := 29) (pc' := 9) rfl (hb hby d_jdk_43_method_13_code_29) (by decide) (by decide) k_)
  refine Go.st (T' := s₁) (g' := (mkF m 10 #[.val (.ref b1), .val (.ref b2), .val (.int (2 : Int32))] [(.int (2 : Int32))])) ?_ (fun _ k_ => XS.iloadN X0.here hx rfl (hb hby d_jdk_43_method_13_code_9) rfl k_)
  refine Go.st (T' := s₁) (g' := (mkF m 11 #[.val (.ref b1), .val (.ref b2), .val (.int (2 : Int32))] [(.ref b1), (.int (2 : Int32))])) ?_ (fun _ k_ => XS.aloadN X0.here hx rfl (hb hby d_jdk_43_method_13_code_10) rfl rfl k_)
  refine Go.st (T' := s₁) (g' := (mkF m 12 #[.val (.ref b1), .val (.ref b2), .val (.int (2 : Int32))] [(.int (6 : Int32)), (.int (2 : Int32))])) ?_ (own_len X0 hx hZ e0 K1 (g := (mkF m 11 #[.val (.ref b1), .val (.ref b2), .val (.int (2 : Int32))] [(.ref b1), (.int (2 : Int32))])) rfl rfl (hb hby d_jdk_43_method_13_code_11))
  refine Go.st (T' := s₁) (g' := (mkF m 15 #[.val (.ref b1), .val (.ref b2), .val (.int (2 : Int32))] [])) ?_ (fun _ k_ => XS.icmpNo X0.here hx rfl (hb hby d_jdk_43_method_13_code_12) rfl (by decide) k_)
  refine Go.st (T' := s₁) (g' := (mkF m 16 #[.val (.ref b1), .val (.ref b2), .val (.int (2 : Int32))] [(.ref b1)])) ?_ (fun _ k_ => XS.aloadN X0.here hx rfl (hb hby d_jdk_43_method_13_code_15) rfl rfl k_)
  refine Go.st (T' := s₁) (g' := (mkF m 17 #[.val (.ref b1), .val (.ref b2), .val (.int (2 : Int32))] [(.int (2 : Int32)), (.ref b1)])) ?_ (fun _ k_ => XS.iloadN X0.here hx rfl (hb hby d_jdk_43_method_13_code_16) rfl k_)
  refine Go.st (T' := s₁) (g' := (mkF m 18 #[.val (.ref b1), .val (.ref b2), .val (.int (2 : Int32))] [(.int (110 : Int32))])) ?_ (own_baload X0 hx hZ e0 K1 (by decide) (by rw [show (2 : Int32).toNatClampNeg = 2 from by decide]; rfl) (g := (mkF m 17 #[.val (.ref b1), .val (.ref b2), .val (.int (2 : Int32))] [(.int (2 : Int32)), (.ref b1)])) rfl rfl (hb hby d_jdk_43_method_13_code_17))
  refine Go.st (T' := s₁) (g' := (mkF m 19 #[.val (.ref b1), .val (.ref b2), .val (.int (2 : Int32))] [(.ref b2), (.int (110 : Int32))])) ?_ (fun _ k_ => XS.aloadN X0.here hx rfl (hb hby d_jdk_43_method_13_code_18) rfl rfl k_)
  refine Go.st (T' := s₁) (g' := (mkF m 20 #[.val (.ref b1), .val (.ref b2), .val (.int (2 : Int32))] [(.int (2 : Int32)), (.ref b2), (.int (110 : Int32))])) ?_ (fun _ k_ => XS.iloadN X0.here hx rfl (hb hby d_jdk_43_method_13_code_19) rfl k_)
  refine Go.st (T' := s₁) (g' := (mkF m 21 #[.val (.ref b1), .val (.ref b2), .val (.int (2 : Int32))] [(.int (110 : Int32)), (.int (110 : Int32))])) ?_ (own_baload X0 hx hZ e0 K2 (by decide) (by rw [show (2 : Int32).toNatClampNeg = 2 from by decide]; rfl) (g := (mkF m 20 #[.val (.ref b1), .val (.ref b2), .val (.int (2 : Int32))] [(.int (2 : Int32)), (.ref b2), (.int (110 : Int32))])) rfl rfl (hb hby d_jdk_43_method_13_code_20))
  refine Go.st (T' := s₁) (g' := (mkF m 26 #[.val (.ref b1), .val (.ref b2), .val (.int (2 : Int32))] [])) ?_ (fun _ k_ => XS.icmpYes X0.here hx rfl (pc0 := 21) (pc' := 26) rfl (hb hby d_jdk_43_method_13_code_21) rfl (by decide) (by decide) (by decide) k_)
  refine Go.st (T' := s₁) (g' := (mkF m 29 #[.val (.ref b1), .val (.ref b2), .val (.int (3 : Int32))] [])) ?_ (fun _ k_ => XT.iincV X0.here hx rfl (1 : Int32) (hb hby d_jdk_43_method_13_code_26) (by decide) rfl (l' := #[.val (.ref b1), .val (.ref b2), .val (.int (3 : Int32))]) rfl k_)
  refine Go.st (T' := s₁) (g' := (mkF m 9 #[.val (.ref b1), .val (.ref b2), .val (.int (3 : Int32))] [])) ?_ (fun _ k_ => XS.goto X0.here hx rfl (pc0 := 29) (pc' := 9) rfl (hb hby d_jdk_43_method_13_code_29) (by decide) (by decide) k_)
  refine Go.st (T' := s₁) (g' := (mkF m 10 #[.val (.ref b1), .val (.ref b2), .val (.int (3 : Int32))] [(.int (3 : Int32))])) ?_ (fun _ k_ => XS.iloadN X0.here hx rfl (hb hby d_jdk_43_method_13_code_9) rfl k_)
  refine Go.st (T' := s₁) (g' := (mkF m 11 #[.val (.ref b1), .val (.ref b2), .val (.int (3 : Int32))] [(.ref b1), (.int (3 : Int32))])) ?_ (fun _ k_ => XS.aloadN X0.here hx rfl (hb hby d_jdk_43_method_13_code_10) rfl rfl k_)
  refine Go.st (T' := s₁) (g' := (mkF m 12 #[.val (.ref b1), .val (.ref b2), .val (.int (3 : Int32))] [(.int (6 : Int32)), (.int (3 : Int32))])) ?_ (own_len X0 hx hZ e0 K1 (g := (mkF m 11 #[.val (.ref b1), .val (.ref b2), .val (.int (3 : Int32))] [(.ref b1), (.int (3 : Int32))])) rfl rfl (hb hby d_jdk_43_method_13_code_11))
  refine Go.st (T' := s₁) (g' := (mkF m 15 #[.val (.ref b1), .val (.ref b2), .val (.int (3 : Int32))] [])) ?_ (fun _ k_ => XS.icmpNo X0.here hx rfl (hb hby d_jdk_43_method_13_code_12) rfl (by decide) k_)
  refine Go.st (T' := s₁) (g' := (mkF m 16 #[.val (.ref b1), .val (.ref b2), .val (.int (3 : Int32))] [(.ref b1)])) ?_ (fun _ k_ => XS.aloadN X0.here hx rfl (hb hby d_jdk_43_method_13_code_15) rfl rfl k_)
  refine Go.st (T' := s₁) (g' := (mkF m 17 #[.val (.ref b1), .val (.ref b2), .val (.int (3 : Int32))] [(.int (3 : Int32)), (.ref b1)])) ?_ (fun _ k_ => XS.iloadN X0.here hx rfl (hb hby d_jdk_43_method_13_code_16) rfl k_)
  refine Go.st (T' := s₁) (g' := (mkF m 18 #[.val (.ref b1), .val (.ref b2), .val (.int (3 : Int32))] [(.int (99 : Int32))])) ?_ (own_baload X0 hx hZ e0 K1 (by decide) (by rw [show (3 : Int32).toNatClampNeg = 3 from by decide]; rfl) (g := (mkF m 17 #[.val (.ref b1), .val (.ref b2), .val (.int (3 : Int32))] [(.int (3 : Int32)), (.ref b1)])) rfl rfl (hb hby d_jdk_43_method_13_code_17))
  refine Go.st (T' := s₁) (g' := (mkF m 19 #[.val (.ref b1), .val (.ref b2), .val (.int (3 : Int32))] [(.ref b2), (.int (99 : Int32))])) ?_ (fun _ k_ => XS.aloadN X0.here hx rfl (hb hby d_jdk_43_method_13_code_18) rfl rfl k_)
  refine Go.st (T' := s₁) (g' := (mkF m 20 #[.val (.ref b1), .val (.ref b2), .val (.int (3 : Int32))] [(.int (3 : Int32)), (.ref b2), (.int (99 : Int32))])) ?_ (fun _ k_ => XS.iloadN X0.here hx rfl (hb hby d_jdk_43_method_13_code_19) rfl k_)
  refine Go.st (T' := s₁) (g' := (mkF m 21 #[.val (.ref b1), .val (.ref b2), .val (.int (3 : Int32))] [(.int (99 : Int32)), (.int (99 : Int32))])) ?_ (own_baload X0 hx hZ e0 K2 (by decide) (by rw [show (3 : Int32).toNatClampNeg = 3 from by decide]; rfl) (g := (mkF m 20 #[.val (.ref b1), .val (.ref b2), .val (.int (3 : Int32))] [(.int (3 : Int32)), (.ref b2), (.int (99 : Int32))])) rfl rfl (hb hby d_jdk_43_method_13_code_20))
  refine Go.st (T' := s₁) (g' := (mkF m 26 #[.val (.ref b1), .val (.ref b2), .val (.int (3 : Int32))] [])) ?_ (fun _ k_ => XS.icmpYes X0.here hx rfl (pc0 := 21) (pc' := 26) rfl (hb hby d_jdk_43_method_13_code_21) rfl (by decide) (by decide) (by decide) k_)
  refine Go.st (T' := s₁) (g' := (mkF m 29 #[.val (.ref b1), .val (.ref b2), .val (.int (4 : Int32))] [])) ?_ (fun _ k_ => XT.iincV X0.here hx rfl (1 : Int32) (hb hby d_jdk_43_method_13_code_26) (by decide) rfl (l' := #[.val (.ref b1), .val (.ref b2), .val (.int (4 : Int32))]) rfl k_)
  refine Go.st (T' := s₁) (g' := (mkF m 9 #[.val (.ref b1), .val (.ref b2), .val (.int (4 : Int32))] [])) ?_ (fun _ k_ => XS.goto X0.here hx rfl (pc0 := 29) (pc' := 9) rfl (hb hby d_jdk_43_method_13_code_29) (by decide) (by decide) k_)
  refine Go.st (T' := s₁) (g' := (mkF m 10 #[.val (.ref b1), .val (.ref b2), .val (.int (4 : Int32))] [(.int (4 : Int32))])) ?_ (fun _ k_ => XS.iloadN X0.here hx rfl (hb hby d_jdk_43_method_13_code_9) rfl k_)
  refine Go.st (T' := s₁) (g' := (mkF m 11 #[.val (.ref b1), .val (.ref b2), .val (.int (4 : Int32))] [(.ref b1), (.int (4 : Int32))])) ?_ (fun _ k_ => XS.aloadN X0.here hx rfl (hb hby d_jdk_43_method_13_code_10) rfl rfl k_)
  refine Go.st (T' := s₁) (g' := (mkF m 12 #[.val (.ref b1), .val (.ref b2), .val (.int (4 : Int32))] [(.int (6 : Int32)), (.int (4 : Int32))])) ?_ (own_len X0 hx hZ e0 K1 (g := (mkF m 11 #[.val (.ref b1), .val (.ref b2), .val (.int (4 : Int32))] [(.ref b1), (.int (4 : Int32))])) rfl rfl (hb hby d_jdk_43_method_13_code_11))
  refine Go.st (T' := s₁) (g' := (mkF m 15 #[.val (.ref b1), .val (.ref b2), .val (.int (4 : Int32))] [])) ?_ (fun _ k_ => XS.icmpNo X0.here hx rfl (hb hby d_jdk_43_method_13_code_12) rfl (by decide) k_)
  refine Go.st (T' := s₁) (g' := (mkF m 16 #[.val (.ref b1), .val (.ref b2), .val (.int (4 : Int32))] [(.ref b1)])) ?_ (fun _ k_ => XS.aloadN X0.here hx rfl (hb hby d_jdk_43_method_13_code_15) rfl rfl k_)
  refine Go.st (T' := s₁) (g' := (mkF m 17 #[.val (.ref b1), .val (.ref b2), .val (.int (4 : Int32))] [(.int (4 : Int32)), (.ref b1)])) ?_ (fun _ k_ => XS.iloadN X0.here hx rfl (hb hby d_jdk_43_method_13_code_16) rfl k_)
  refine Go.st (T' := s₁) (g' := (mkF m 18 #[.val (.ref b1), .val (.ref b2), .val (.int (4 : Int32))] [(.int (101 : Int32))])) ?_ (own_baload X0 hx hZ e0 K1 (by decide) (by rw [show (4 : Int32).toNatClampNeg = 4 from by decide]; rfl) (g := (mkF m 17 #[.val (.ref b1), .val (.ref b2), .val (.int (4 : Int32))] [(.int (4 : Int32)), (.ref b1)])) rfl rfl (hb hby d_jdk_43_method_13_code_17))
  refine Go.st (T' := s₁) (g' := (mkF m 19 #[.val (.ref b1), .val (.ref b2), .val (.int (4 : Int32))] [(.ref b2), (.int (101 : Int32))])) ?_ (fun _ k_ => XS.aloadN X0.here hx rfl (hb hby d_jdk_43_method_13_code_18) rfl rfl k_)
  refine Go.st (T' := s₁) (g' := (mkF m 20 #[.val (.ref b1), .val (.ref b2), .val (.int (4 : Int32))] [(.int (4 : Int32)), (.ref b2), (.int (101 : Int32))])) ?_ (fun _ k_ => XS.iloadN X0.here hx rfl (hb hby d_jdk_43_method_13_code_19) rfl k_)
  refine Go.st (T' := s₁) (g' := (mkF m 21 #[.val (.ref b1), .val (.ref b2), .val (.int (4 : Int32))] [(.int (101 : Int32)), (.int (101 : Int32))])) ?_ (own_baload X0 hx hZ e0 K2 (by decide) (by rw [show (4 : Int32).toNatClampNeg = 4 from by decide]; rfl) (g := (mkF m 20 #[.val (.ref b1), .val (.ref b2), .val (.int (4 : Int32))] [(.int (4 : Int32)), (.ref b2), (.int (101 : Int32))])) rfl rfl (hb hby d_jdk_43_method_13_code_20))
  refine Go.st (T' := s₁) (g' := (mkF m 26 #[.val (.ref b1), .val (.ref b2), .val (.int (4 : Int32))] [])) ?_ (fun _ k_ => XS.icmpYes X0.here hx rfl (pc0 := 21) (pc' := 26) rfl (hb hby d_jdk_43_method_13_code_21) rfl (by decide) (by decide) (by decide) k_)
  refine Go.st (T' := s₁) (g' := (mkF m 29 #[.val (.ref b1), .val (.ref b2), .val (.int (5 : Int32))] [])) ?_ (fun _ k_ => XT.iincV X0.here hx rfl (1 : Int32) (hb hby d_jdk_43_method_13_code_26) (by decide) rfl (l' := #[.val (.ref b1), .val (.ref b2), .val (.int (5 : Int32))]) rfl k_)
  refine Go.st (T' := s₁) (g' := (mkF m 9 #[.val (.ref b1), .val (.ref b2), .val (.int (5 : Int32))] [])) ?_ (fun _ k_ => XS.goto X0.here hx rfl (pc0 := 29) (pc' := 9) rfl (hb hby d_jdk_43_method_13_code_29) (by decide) (by decide) k_)
  refine Go.st (T' := s₁) (g' := (mkF m 10 #[.val (.ref b1), .val (.ref b2), .val (.int (5 : Int32))] [(.int (5 : Int32))])) ?_ (fun _ k_ => XS.iloadN X0.here hx rfl (hb hby d_jdk_43_method_13_code_9) rfl k_)
  refine Go.st (T' := s₁) (g' := (mkF m 11 #[.val (.ref b1), .val (.ref b2), .val (.int (5 : Int32))] [(.ref b1), (.int (5 : Int32))])) ?_ (fun _ k_ => XS.aloadN X0.here hx rfl (hb hby d_jdk_43_method_13_code_10) rfl rfl k_)
  refine Go.st (T' := s₁) (g' := (mkF m 12 #[.val (.ref b1), .val (.ref b2), .val (.int (5 : Int32))] [(.int (6 : Int32)), (.int (5 : Int32))])) ?_ (own_len X0 hx hZ e0 K1 (g := (mkF m 11 #[.val (.ref b1), .val (.ref b2), .val (.int (5 : Int32))] [(.ref b1), (.int (5 : Int32))])) rfl rfl (hb hby d_jdk_43_method_13_code_11))
  refine Go.st (T' := s₁) (g' := (mkF m 15 #[.val (.ref b1), .val (.ref b2), .val (.int (5 : Int32))] [])) ?_ (fun _ k_ => XS.icmpNo X0.here hx rfl (hb hby d_jdk_43_method_13_code_12) rfl (by decide) k_)
  refine Go.st (T' := s₁) (g' := (mkF m 16 #[.val (.ref b1), .val (.ref b2), .val (.int (5 : Int32))] [(.ref b1)])) ?_ (fun _ k_ => XS.aloadN X0.here hx rfl (hb hby d_jdk_43_method_13_code_15) rfl rfl k_)
  refine Go.st (T' := s₁) (g' := (mkF m 17 #[.val (.ref b1), .val (.ref b2), .val (.int (5 : Int32))] [(.int (5 : Int32)), (.ref b1)])) ?_ (fun _ k_ => XS.iloadN X0.here hx rfl (hb hby d_jdk_43_method_13_code_16) rfl k_)
  refine Go.st (T' := s₁) (g' := (mkF m 18 #[.val (.ref b1), .val (.ref b2), .val (.int (5 : Int32))] [(.int (108 : Int32))])) ?_ (own_baload X0 hx hZ e0 K1 (by decide) (by rw [show (5 : Int32).toNatClampNeg = 5 from by decide]; rfl) (g := (mkF m 17 #[.val (.ref b1), .val (.ref b2), .val (.int (5 : Int32))] [(.int (5 : Int32)), (.ref b1)])) rfl rfl (hb hby d_jdk_43_method_13_code_17))
  refine Go.st (T' := s₁) (g' := (mkF m 19 #[.val (.ref b1), .val (.ref b2), .val (.int (5 : Int32))] [(.ref b2), (.int (108 : Int32))])) ?_ (fun _ k_ => XS.aloadN X0.here hx rfl (hb hby d_jdk_43_method_13_code_18) rfl rfl k_)
  refine Go.st (T' := s₁) (g' := (mkF m 20 #[.val (.ref b1), .val (.ref b2), .val (.int (5 : Int32))] [(.int (5 : Int32)), (.ref b2), (.int (108 : Int32))])) ?_ (fun _ k_ => XS.iloadN X0.here hx rfl (hb hby d_jdk_43_method_13_code_19) rfl k_)
  refine Go.st (T' := s₁) (g' := (mkF m 21 #[.val (.ref b1), .val (.ref b2), .val (.int (5 : Int32))] [(.int (108 : Int32)), (.int (108 : Int32))])) ?_ (own_baload X0 hx hZ e0 K2 (by decide) (by rw [show (5 : Int32).toNatClampNeg = 5 from by decide]; rfl) (g := (mkF m 20 #[.val (.ref b1), .val (.ref b2), .val (.int (5 : Int32))] [(.int (5 : Int32)), (.ref b2), (.int (108 : Int32))])) rfl rfl (hb hby d_jdk_43_method_13_code_20))
  refine Go.st (T' := s₁) (g' := (mkF m 26 #[.val (.ref b1), .val (.ref b2), .val (.int (5 : Int32))] [])) ?_ (fun _ k_ => XS.icmpYes X0.here hx rfl (pc0 := 21) (pc' := 26) rfl (hb hby d_jdk_43_method_13_code_21) rfl (by decide) (by decide) (by decide) k_)
  refine Go.st (T' := s₁) (g' := (mkF m 29 #[.val (.ref b1), .val (.ref b2), .val (.int (6 : Int32))] [])) ?_ (fun _ k_ => XT.iincV X0.here hx rfl (1 : Int32) (hb hby d_jdk_43_method_13_code_26) (by decide) rfl (l' := #[.val (.ref b1), .val (.ref b2), .val (.int (6 : Int32))]) rfl k_)
  refine Go.st (T' := s₁) (g' := (mkF m 9 #[.val (.ref b1), .val (.ref b2), .val (.int (6 : Int32))] [])) ?_ (fun _ k_ => XS.goto X0.here hx rfl (pc0 := 29) (pc' := 9) rfl (hb hby d_jdk_43_method_13_code_29) (by decide) (by decide) k_)
  refine Go.st (T' := s₁) (g' := (mkF m 10 #[.val (.ref b1), .val (.ref b2), .val (.int (6 : Int32))] [(.int (6 : Int32))])) ?_ (fun _ k_ => XS.iloadN X0.here hx rfl (hb hby d_jdk_43_method_13_code_9) rfl k_)
  refine Go.st (T' := s₁) (g' := (mkF m 11 #[.val (.ref b1), .val (.ref b2), .val (.int (6 : Int32))] [(.ref b1), (.int (6 : Int32))])) ?_ (fun _ k_ => XS.aloadN X0.here hx rfl (hb hby d_jdk_43_method_13_code_10) rfl rfl k_)
  refine Go.st (T' := s₁) (g' := (mkF m 12 #[.val (.ref b1), .val (.ref b2), .val (.int (6 : Int32))] [(.int (6 : Int32)), (.int (6 : Int32))])) ?_ (own_len X0 hx hZ e0 K1 (g := (mkF m 11 #[.val (.ref b1), .val (.ref b2), .val (.int (6 : Int32))] [(.ref b1), (.int (6 : Int32))])) rfl rfl (hb hby d_jdk_43_method_13_code_11))
  refine Go.st (T' := s₁) (g' := (mkF m 32 #[.val (.ref b1), .val (.ref b2), .val (.int (6 : Int32))] [])) ?_ (fun _ k_ => XS.icmpYes X0.here hx rfl (pc0 := 12) (pc' := 32) rfl (hb hby d_jdk_43_method_13_code_12) rfl (by decide) (by decide) (by decide) k_)
  refine Go.st (T' := s₁) (g' := (mkF m 33 #[.val (.ref b1), .val (.ref b2), .val (.int (6 : Int32))] [(.int (1 : Int32))])) ?_ (fun _ k_ => XT.iconstV X0.here hx rfl (1 : Int32) (hb hby d_jdk_43_method_13_code_32) (by decide) k_)
  exact Go.retV (t := .boolean) X0 hx hret hlk (by decide) (by decide) rfl (Or.inl ⟨rfl, Or.inr (Or.inl rfl), _, rfl⟩) (hb hby d_jdk_43_method_13_code_33) ⟨rfl, N0, e0⟩
theorem d_jdk_42_method_66_code_5 : decode jdk_42_method_66_code 5 = .ok (.iconst 1, 1) := by decide +kernel
theorem d_jdk_42_method_66_code_6 : decode jdk_42_method_66_code 6 = .ok (.ireturn, 1) := by decide +kernel
theorem d_jdk_42_method_66_code_50 : decode jdk_42_method_66_code 50 = .ok (.iconst 1, 1) := by decide +kernel
theorem d_jdk_42_method_66_code_51 : decode jdk_42_method_66_code 51 = .ok (.goto 4, 3) := by decide +kernel
set_option maxRecDepth 65536 in
set_option maxHeartbeats 40000000 in
theorem re2 (l : Launch) (Z : State) (a0 : Array Value) (hw : ∀ d ∈ tables_1, d.before a0 Z = true) (ws : List Jvm.Cond) (a1 a2 b1 b2 : Addr) (k1 k2 : ClassId) (zc : Int32) (h0 : Heap) (n0 : Nat) (Z0 : n0 ≤ h0.size) (A1 : Exa Z h0 a1 "java/lang/String") (C1 : Fld Z h0 a1 "java/lang/String" "coder" "B" (.int (0 : Int32))) (V1 : Fld Z h0 a1 "java/lang/String" "value" "[B" (.ref b1)) (K1 : Arv Z h0 b1 k1 .byte (6 : Int32) [(.int (99 : Int32)), (.int (97 : Int32)), (.int (110 : Int32)), (.int (99 : Int32)), (.int (101 : Int32)), (.int (108 : Int32))] (.int 0)) (A2 : Exa Z h0 a2 "java/lang/String") (C2 : Fld Z h0 a2 "java/lang/String" "coder" "B" (.int (0 : Int32))) (V2 : Fld Z h0 a2 "java/lang/String" "value" "[B" (.ref b2)) (K2 : Arv Z h0 b2 k2 .byte (6 : Int32) [(.int (99 : Int32)), (.int (97 : Int32)), (.int (110 : Int32)), (.int (99 : Int32)), (.int (101 : Int32)), (.int (108 : Int32))] (.int 0)) (SC : Sta Z h0 "java/lang/String" "COMPACT_STRINGS" "Z" (.int zc)) (hzc : ¬ zc = (0 : Int32)) :
    Does l (⟨"java/lang/String", "equals", "(Ljava/lang/Object;)Z"⟩ : MethodName) jdk_42_method_66_code 3 (some .boolean) ws ({ frames := 1, cells := 0, slots := 0, locals := 14 } : Room) #[(.ref a1), (.ref a2)] Z h0 (fun v h L => v = some (.int (1 : Int32)) ∧ Fr n0 L ∧ h = h0) := by
  refine Does.of (plainFor_of_name pn_java_lang_String) ?_
  intro p e s m below meth c s₁ hx hby hml hret hlk hown0 hnm hZ X0 e0
  have hown : s.vm.findClass "java/lang/String" = some m.cls := hown0
  have N0 := Fr.nil n0
  refine Go.cast (g' := (mkF m 0 #[.val (.ref a1), .val (.ref a2), .unset] [])) (by first | (simp [entryFrame, mkF, argsToLocals, Value.category, maxLocals]; done) | rfl) ?_
  refine Go.st (T' := s₁) (g' := (mkF m 1 #[.val (.ref a1), .val (.ref a2), .unset] [(.ref a1)])) ?_ (fun _ k_ => XS.aloadN X0.here hx rfl (hb hby d_jdk_42_method_66_code_0) rfl rfl k_)
  refine Go.st (T' := s₁) (g' := (mkF m 2 #[.val (.ref a1), .val (.ref a2), .unset] [(.ref a2), (.ref a1)])) ?_ (fun _ k_ => XS.aloadN X0.here hx rfl (hb hby d_jdk_42_method_66_code_1) rfl rfl k_)
  by_cases hc1 : a1 = a2
  · refine Go.st (T' := s₁) (g' := (mkF m 5 #[.val (.ref a1), .val (.ref a2), .unset] [])) ?_ (fun _ k_ => Jvm.RoadKit.acmp (g := (mkF m 2 #[.val (.ref a1), .val (.ref a2), .unset] [(.ref a2), (.ref a1)])) X0 hx rfl rfl rfl (pc0 := 2) (pc' := 5) (same := true) rfl (hb hby d_jdk_42_method_66_code_2) rfl (decide_eq_true (congrArg Value.ref hc1)) (by decide) (by decide) k_)
    refine Go.st (T' := s₁) (g' := (mkF m 6 #[.val (.ref a1), .val (.ref a2), .unset] [(.int (1 : Int32))])) ?_ (fun _ k_ => XT.iconstV X0.here hx rfl (1 : Int32) (hb hby d_jdk_42_method_66_code_5) (by decide) k_)
    exact Go.retV (t := .boolean) X0 hx hret hlk (by decide) (by decide) rfl (Or.inl ⟨rfl, Or.inr (Or.inl rfl), _, rfl⟩) (hb hby d_jdk_42_method_66_code_6) ⟨rfl, N0, e0⟩
  · refine Go.st (T' := s₁) (g' := (mkF m 7 #[.val (.ref a1), .val (.ref a2), .unset] [])) ?_ (fun _ k_ => Jvm.RoadKit.acmp (g := (mkF m 2 #[.val (.ref a1), .val (.ref a2), .unset] [(.ref a2), (.ref a1)])) X0 hx rfl rfl rfl (pc0 := 2) (pc' := 7) (same := false) rfl (hb hby d_jdk_42_method_66_code_2) rfl (decide_eq_false (fun q_ => hc1 (Value.ref.inj q_))) (by decide) (by decide) k_)
    refine Go.st (T' := s₁) (g' := (mkF m 8 #[.val (.ref a1), .val (.ref a2), .unset] [(.ref a2)])) ?_ (fun _ k_ => XS.aloadN X0.here hx rfl (hb hby d_jdk_42_method_66_code_7) rfl rfl k_)
    obtain ⟨T2, X2, e2, st2⟩ := instY X0 hx hZ hown (hw _ (List.mem_of_getElem? (i := 31) rfl)) e0 (Ins.self A2) (g := (mkF m 8 #[.val (.ref a1), .val (.ref a2), .unset] [(.ref a2)])) rfl rfl (hb hby d_jdk_42_method_66_code_8)
    refine Go.st (T' := T2) (g' := (mkF m 11 #[.val (.ref a1), .val (.ref a2), .unset] [(.int (1 : Int32))])) ?_ st2
    refine Go.st (T' := T2) (g' := (mkF m 14 #[.val (.ref a1), .val (.ref a2), .unset] [])) ?_ (fun _ k_ => XS.ifNo X2.here hx rfl (hb hby d_jdk_42_method_66_code_11) rfl (by decide) k_)
    refine Go.st (T' := T2) (g' := (mkF m 15 #[.val (.ref a1), .val (.ref a2), .unset] [(.ref a2)])) ?_ (fun _ k_ => XS.aloadN X2.here hx rfl (hb hby d_jdk_42_method_66_code_14) rfl rfl k_)
    obtain ⟨T3, X3, e3, st3⟩ := castY X2 hx hZ hown (hw _ (List.mem_of_getElem? (i := 31) rfl)) e2 (Ins.self A2) (g := (mkF m 15 #[.val (.ref a1), .val (.ref a2), .unset] [(.ref a2)])) rfl rfl (hb hby d_jdk_42_method_66_code_15)
    refine Go.st (T' := T3) (g' := (mkF m 18 #[.val (.ref a1), .val (.ref a2), .unset] [(.ref a2)])) ?_ st3
    refine Go.st (T' := T3) (g' := (mkF m 19 #[.val (.ref a1), .val (.ref a2), .val (.ref a2)] [])) ?_ (fun _ k_ => XS.astoreN X3.here hx rfl (hb hby d_jdk_42_method_66_code_18) rfl rfl (l' := #[.val (.ref a1), .val (.ref a2), .val (.ref a2)]) rfl k_)
    obtain ⟨T4, X4, e4, st4⟩ := getS2 X3 hx hZ hown (host := "") (Or.inl (hw _ (List.mem_of_getElem? (i := 33) rfl))) Via.refl e3 SC (g := (mkF m 19 #[.val (.ref a1), .val (.ref a2), .val (.ref a2)] [])) rfl (hb hby d_jdk_42_method_66_code_19)
    refine Go.st (T' := T4) (g' := (mkF m 22 #[.val (.ref a1), .val (.ref a2), .val (.ref a2)] [(.int zc)])) ?_ st4
    refine Go.st (T' := T4) (g' := (mkF m 25 #[.val (.ref a1), .val (.ref a2), .val (.ref a2)] [])) ?_ (fun _ k_ => XS.ifNo X4.here hx rfl (hb hby d_jdk_42_method_66_code_22) rfl ((if0 _ _).trans (feq (hzc : ¬ zc = (0 : Int32))).1) k_)
    refine Go.st (T' := T4) (g' := (mkF m 26 #[.val (.ref a1), .val (.ref a2), .val (.ref a2)] [(.ref a1)])) ?_ (fun _ k_ => XS.aloadN X4.here hx rfl (hb hby d_jdk_42_method_66_code_25) rfl rfl k_)
    obtain ⟨T5, X5, e5, st5⟩ := getF X4 hx hZ hown (host := "") (Or.inl (hw _ (List.mem_of_getElem? (i := 34) rfl))) Via.refl e4 C1 (g := (mkF m 26 #[.val (.ref a1), .val (.ref a2), .val (.ref a2)] [(.ref a1)])) rfl rfl (hb hby d_jdk_42_method_66_code_26)
    refine Go.st (T' := T5) (g' := (mkF m 29 #[.val (.ref a1), .val (.ref a2), .val (.ref a2)] [(.int (0 : Int32))])) ?_ st5
    refine Go.st (T' := T5) (g' := (mkF m 30 #[.val (.ref a1), .val (.ref a2), .val (.ref a2)] [(.ref a2), (.int (0 : Int32))])) ?_ (fun _ k_ => XS.aloadN X5.here hx rfl (hb hby d_jdk_42_method_66_code_29) rfl rfl k_)
    obtain ⟨T6, X6, e6, st6⟩ := getF X5 hx hZ hown (host := "") (Or.inl (hw _ (List.mem_of_getElem? (i := 34) rfl))) Via.refl e5 C2 (g := (mkF m 30 #[.val (.ref a1), .val (.ref a2), .val (.ref a2)] [(.ref a2), (.int (0 : Int32))])) rfl rfl (hb hby d_jdk_42_method_66_code_30)
    refine Go.st (T' := T6) (g' := (mkF m 33 #[.val (.ref a1), .val (.ref a2), .val (.ref a2)] [(.int (0 : Int32)), (.int (0 : Int32))])) ?_ st6
    refine Go.st (T' := T6) (g' := (mkF m 36 #[.val (.ref a1), .val (.ref a2), .val (.ref a2)] [])) ?_ (fun _ k_ => XS.icmpNo X6.here hx rfl (hb hby d_jdk_42_method_66_code_33) rfl (by decide) k_)
    refine Go.st (T' := T6) (g' := (mkF m 37 #[.val (.ref a1), .val (.ref a2), .val (.ref a2)] [(.ref a1)])) ?_ (fun _ k_ => XS.aloadN X6.here hx rfl (hb hby d_jdk_42_method_66_code_36) rfl rfl k_)
    obtain ⟨T7, X7, e7, st7⟩ := getF X6 hx hZ hown (host := "") (Or.inl (hw _ (List.mem_of_getElem? (i := 35) rfl))) Via.refl e6 V1 (g := (mkF m 37 #[.val (.ref a1), .val (.ref a2), .val (.ref a2)] [(.ref a1)])) rfl rfl (hb hby d_jdk_42_method_66_code_37)
    refine Go.st (T' := T7) (g' := (mkF m 40 #[.val (.ref a1), .val (.ref a2), .val (.ref a2)] [(.ref b1)])) ?_ st7
    refine Go.st (T' := T7) (g' := (mkF m 41 #[.val (.ref a1), .val (.ref a2), .val (.ref a2)] [(.ref a2), (.ref b1)])) ?_ (fun _ k_ => XS.aloadN X7.here hx rfl (hb hby d_jdk_42_method_66_code_40) rfl rfl k_)
    obtain ⟨T8, X8, e8, st8⟩ := getF X7 hx hZ hown (host := "") (Or.inl (hw _ (List.mem_of_getElem? (i := 35) rfl))) Via.refl e7 V2 (g := (mkF m 41 #[.val (.ref a1), .val (.ref a2), .val (.ref a2)] [(.ref a2), (.ref b1)])) rfl rfl (hb hby d_jdk_42_method_66_code_41)
    refine Go.st (T' := T8) (g' := (mkF m 44 #[.val (.ref a1), .val (.ref a2), .val (.ref a2)] [(.ref b2), (.ref b1)])) ?_ st8
    refine Go.callS X8 hx hZ hown (hw _ (List.mem_of_getElem? (i := 36) rfl)) (hw _ (List.mem_of_getElem? (i := 37) rfl)) (hw _ (List.mem_of_getElem? (i := 38) rfl)) (hw _ (List.mem_of_getElem? (i := 39) rfl)) (by decide) (rl2 l Z a0 hw [] b1 b2 k1 k2 h0 n0 Z0 K1 K2) e8 (by decide) (W := 0) (by decide) (by decide) (by decide) (g := (mkF m 44 #[.val (.ref a1), .val (.ref a2), .val (.ref a2)] [(.ref b2), (.ref b1)])) (rest := []) rfl (by rw [hml]; rfl) (lenOf pd___B_B_Z rfl) rfl (by show 2 * 0 + _ ≤ _; exact Nat.le_of_eq rfl) (hb hby d_jdk_42_method_66_code_44) ?_
    rintro v9 T9 L9 X9 ⟨rfl, N9, e9⟩
    have M9 := Fr.app N0 N9
    show Go p e below _ T9 (mkF m 47 #[.val (.ref a1), .val (.ref a2), .val (.ref a2)] [(.int (1 : Int32))])
    refine Go.st (T' := T9) (g' := (mkF m 50 #[.val (.ref a1), .val (.ref a2), .val (.ref a2)] [])) ?_ (fun _ k_ => XS.ifNo X9.here hx rfl (hb hby d_jdk_42_method_66_code_47) rfl (by decide) k_)
    refine Go.st (T' := T9) (g' := (mkF m 51 #[.val (.ref a1), .val (.ref a2), .val (.ref a2)] [(.int (1 : Int32))])) ?_ (fun _ k_ => XT.iconstV X9.here hx rfl (1 : Int32) (hb hby d_jdk_42_method_66_code_50) (by decide) k_)
    refine Go.st (T' := T9) (g' := (mkF m 55 #[.val (.ref a1), .val (.ref a2), .val (.ref a2)] [(.int (1 : Int32))])) ?_ (fun _ k_ => XS.goto X9.here hx rfl (pc0 := 51) (pc' := 55) rfl (hb hby d_jdk_42_method_66_code_51) (by decide) (by decide) k_)
    exact Go.retV (t := .boolean) X9 hx hret hlk (by decide) (by decide) rfl (Or.inl ⟨rfl, Or.inr (Or.inl rfl), _, rfl⟩) (hb hby d_jdk_42_method_66_code_55) ⟨rfl, M9, e9⟩
set_option maxRecDepth 65536 in
set_option maxHeartbeats 40000000 in
theorem rl3 (l : Launch) (Z : State) (a0 : Array Value) (hw : ∀ d ∈ tables_1, d.before a0 Z = true) (ws : List Jvm.Cond) (b1 b2 : Addr) (k1 k2 : ClassId) (h0 : Heap) (n0 : Nat) (Z0 : n0 ≤ h0.size) (K1 : Arv Z h0 b1 k1 .byte (1 : Int32) [(.int (49 : Int32))] (.int 0)) (K2 : Arv Z h0 b2 k2 .byte (1 : Int32) [(.int (49 : Int32))] (.int 0)) :
    Does l (⟨"java/lang/StringLatin1", "equals", "([B[B)Z"⟩ : MethodName) jdk_43_method_13_code 3 (some .boolean) ws ({ frames := 0, cells := 0, slots := 0, locals := 0 } : Room) #[(.ref b1), (.ref b2)] Z h0 (fun v h L => v = some (.int (1 : Int32)) ∧ Fr n0 L ∧ h = h0) := by
  refine Does.of (plainFor_of_name pn_java_lang_StringLatin1) ?_
  intro p e s m below meth c s₁ hx hby hml hret hlk hown0 hnm hZ X0 e0
  have hown : s.vm.findClass "java/lang/StringLatin1" = some m.cls := hown0
  have N0 := Fr.nil n0
  refine Go.cast (g' := (mkF m 0 #[.val (.ref b1), .val (.ref b2), .unset] [])) (by first | (simp [entryFrame, mkF, argsToLocals, Value.category, maxLocals]; done) | rfl) ?_
  refine Go.st (T' := s₁) (g' := (mkF m 1 #[.val (.ref b1), .val (.ref b2), .unset] [(.ref b1)])) ?_ (fun _ k_ => XS.aloadN X0.here hx rfl (hb hby d_jdk_43_method_13_code_0) rfl rfl k_)
  refine Go.st (T' := s₁) (g' := (mkF m 2 #[.val (.ref b1), .val (.ref b2), .unset] [(.int (1 : Int32))])) ?_ (own_len X0 hx hZ e0 K1 (g := (mkF m 1 #[.val (.ref b1), .val (.ref b2), .unset] [(.ref b1)])) rfl rfl (hb hby d_jdk_43_method_13_code_1))
  refine Go.st (T' := s₁) (g' := (mkF m 3 #[.val (.ref b1), .val (.ref b2), .unset] [(.ref b2), (.int (1 : Int32))])) ?_ (fun _ k_ => XS.aloadN X0.here hx rfl (hb hby d_jdk_43_method_13_code_2) rfl rfl k_)
  refine Go.st (T' := s₁) (g' := (mkF m 4 #[.val (.ref b1), .val (.ref b2), .unset] [(.int (1 : Int32)), (.int (1 : Int32))])) ?_ (own_len X0 hx hZ e0 K2 (g := (mkF m 3 #[.val (.ref b1), .val (.ref b2), .unset] [(.ref b2), (.int (1 : Int32))])) rfl rfl (hb hby d_jdk_43_method_13_code_3))
  refine Go.st (T' := s₁) (g' := (mkF m 7 #[.val (.ref b1), .val (.ref b2), .unset] [])) ?_ (fun _ k_ => XS.icmpNo X0.here hx rfl (hb hby d_jdk_43_method_13_code_4) rfl (by decide) k_)
  refine Go.st (T' := s₁) (g' := (mkF m 8 #[.val (.ref b1), .val (.ref b2), .unset] [(.int (0 : Int32))])) ?_ (fun _ k_ => XT.iconstV X0.here hx rfl (0 : Int32) (hb hby d_jdk_43_method_13_code_7) (by decide) k_)
  refine Go.st (T' := s₁) (g' := (mkF m 9 #[.val (.ref b1), .val (.ref b2), .val (.int (0 : Int32))] [])) ?_ (fun _ k_ => XS.istoreN X0.here hx rfl (hb hby d_jdk_43_method_13_code_8) rfl (l' := #[.val (.ref b1), .val (.ref b2), .val (.int (0 : Int32))]) rfl k_)
  refine Go.st (T' := s₁) (g' := (mkF m 10 #[.val (.ref b1), .val (.ref b2), .val (.int (0 : Int32))] [(.int (0 : Int32))])) ?_ (fun _ k_ => XS.iloadN X0.here hx rfl (hb hby d_jdk_43_method_13_code_9) rfl k_)
  refine Go.st (T' := s₁) (g' := (mkF m 11 #[.val (.ref b1), .val (.ref b2), .val (.int (0 : Int32))] [(.ref b1), (.int (0 : Int32))])) ?_ (fun _ k_ => XS.aloadN X0.here hx rfl (hb hby d_jdk_43_method_13_code_10) rfl rfl k_)
  refine Go.st (T' := s₁) (g' := (mkF m 12 #[.val (.ref b1), .val (.ref b2), .val (.int (0 : Int32))] [(.int (1 : Int32)), (.int (0 : Int32))])) ?_ (own_len X0 hx hZ e0 K1 (g := (mkF m 11 #[.val (.ref b1), .val (.ref b2), .val (.int (0 : Int32))] [(.ref b1), (.int (0 : Int32))])) rfl rfl (hb hby d_jdk_43_method_13_code_11))
  refine Go.st (T' := s₁) (g' := (mkF m 15 #[.val (.ref b1), .val (.ref b2), .val (.int (0 : Int32))] [])) ?_ (fun _ k_ => XS.icmpNo X0.here hx rfl (hb hby d_jdk_43_method_13_code_12) rfl (by decide) k_)
  refine Go.st (T' := s₁) (g' := (mkF m 16 #[.val (.ref b1), .val (.ref b2), .val (.int (0 : Int32))] [(.ref b1)])) ?_ (fun _ k_ => XS.aloadN X0.here hx rfl (hb hby d_jdk_43_method_13_code_15) rfl rfl k_)
  refine Go.st (T' := s₁) (g' := (mkF m 17 #[.val (.ref b1), .val (.ref b2), .val (.int (0 : Int32))] [(.int (0 : Int32)), (.ref b1)])) ?_ (fun _ k_ => XS.iloadN X0.here hx rfl (hb hby d_jdk_43_method_13_code_16) rfl k_)
  refine Go.st (T' := s₁) (g' := (mkF m 18 #[.val (.ref b1), .val (.ref b2), .val (.int (0 : Int32))] [(.int (49 : Int32))])) ?_ (own_baload X0 hx hZ e0 K1 (by decide) (by rw [show (0 : Int32).toNatClampNeg = 0 from by decide]; rfl) (g := (mkF m 17 #[.val (.ref b1), .val (.ref b2), .val (.int (0 : Int32))] [(.int (0 : Int32)), (.ref b1)])) rfl rfl (hb hby d_jdk_43_method_13_code_17))
  refine Go.st (T' := s₁) (g' := (mkF m 19 #[.val (.ref b1), .val (.ref b2), .val (.int (0 : Int32))] [(.ref b2), (.int (49 : Int32))])) ?_ (fun _ k_ => XS.aloadN X0.here hx rfl (hb hby d_jdk_43_method_13_code_18) rfl rfl k_)
  refine Go.st (T' := s₁) (g' := (mkF m 20 #[.val (.ref b1), .val (.ref b2), .val (.int (0 : Int32))] [(.int (0 : Int32)), (.ref b2), (.int (49 : Int32))])) ?_ (fun _ k_ => XS.iloadN X0.here hx rfl (hb hby d_jdk_43_method_13_code_19) rfl k_)
  refine Go.st (T' := s₁) (g' := (mkF m 21 #[.val (.ref b1), .val (.ref b2), .val (.int (0 : Int32))] [(.int (49 : Int32)), (.int (49 : Int32))])) ?_ (own_baload X0 hx hZ e0 K2 (by decide) (by rw [show (0 : Int32).toNatClampNeg = 0 from by decide]; rfl) (g := (mkF m 20 #[.val (.ref b1), .val (.ref b2), .val (.int (0 : Int32))] [(.int (0 : Int32)), (.ref b2), (.int (49 : Int32))])) rfl rfl (hb hby d_jdk_43_method_13_code_20))
  refine Go.st (T' := s₁) (g' := (mkF m 26 #[.val (.ref b1), .val (.ref b2), .val (.int (0 : Int32))] [])) ?_ (fun _ k_ => XS.icmpYes X0.here hx rfl (pc0 := 21) (pc' := 26) rfl (hb hby d_jdk_43_method_13_code_21) rfl (by decide) (by decide) (by decide) k_)
  refine Go.st (T' := s₁) (g' := (mkF m 29 #[.val (.ref b1), .val (.ref b2), .val (.int (1 : Int32))] [])) ?_ (fun _ k_ => XT.iincV X0.here hx rfl (1 : Int32) (hb hby d_jdk_43_method_13_code_26) (by decide) rfl (l' := #[.val (.ref b1), .val (.ref b2), .val (.int (1 : Int32))]) rfl k_)
  refine Go.st (T' := s₁) (g' := (mkF m 9 #[.val (.ref b1), .val (.ref b2), .val (.int (1 : Int32))] [])) ?_ (fun _ k_ => XS.goto X0.here hx rfl (pc0 := 29) (pc' := 9) rfl (hb hby d_jdk_43_method_13_code_29) (by decide) (by decide) k_)
  refine Go.st (T' := s₁) (g' := (mkF m 10 #[.val (.ref b1), .val (.ref b2), .val (.int (1 : Int32))] [(.int (1 : Int32))])) ?_ (fun _ k_ => XS.iloadN X0.here hx rfl (hb hby d_jdk_43_method_13_code_9) rfl k_)
  refine Go.st (T' := s₁) (g' := (mkF m 11 #[.val (.ref b1), .val (.ref b2), .val (.int (1 : Int32))] [(.ref b1), (.int (1 : Int32))])) ?_ (fun _ k_ => XS.aloadN X0.here hx rfl (hb hby d_jdk_43_method_13_code_10) rfl rfl k_)
  refine Go.st (T' := s₁) (g' := (mkF m 12 #[.val (.ref b1), .val (.ref b2), .val (.int (1 : Int32))] [(.int (1 : Int32)), (.int (1 : Int32))])) ?_ (own_len X0 hx hZ e0 K1 (g := (mkF m 11 #[.val (.ref b1), .val (.ref b2), .val (.int (1 : Int32))] [(.ref b1), (.int (1 : Int32))])) rfl rfl (hb hby d_jdk_43_method_13_code_11))
  refine Go.st (T' := s₁) (g' := (mkF m 32 #[.val (.ref b1), .val (.ref b2), .val (.int (1 : Int32))] [])) ?_ (fun _ k_ => XS.icmpYes X0.here hx rfl (pc0 := 12) (pc' := 32) rfl (hb hby d_jdk_43_method_13_code_12) rfl (by decide) (by decide) (by decide) k_)
  refine Go.st (T' := s₁) (g' := (mkF m 33 #[.val (.ref b1), .val (.ref b2), .val (.int (1 : Int32))] [(.int (1 : Int32))])) ?_ (fun _ k_ => XT.iconstV X0.here hx rfl (1 : Int32) (hb hby d_jdk_43_method_13_code_32) (by decide) k_)
  exact Go.retV (t := .boolean) X0 hx hret hlk (by decide) (by decide) rfl (Or.inl ⟨rfl, Or.inr (Or.inl rfl), _, rfl⟩) (hb hby d_jdk_43_method_13_code_33) ⟨rfl, N0, e0⟩
set_option maxRecDepth 65536 in
set_option maxHeartbeats 40000000 in
theorem re3 (l : Launch) (Z : State) (a0 : Array Value) (hw : ∀ d ∈ tables_1, d.before a0 Z = true) (ws : List Jvm.Cond) (a1 a2 b1 b2 : Addr) (k1 k2 : ClassId) (zc : Int32) (h0 : Heap) (n0 : Nat) (Z0 : n0 ≤ h0.size) (A1 : Exa Z h0 a1 "java/lang/String") (C1 : Fld Z h0 a1 "java/lang/String" "coder" "B" (.int (0 : Int32))) (V1 : Fld Z h0 a1 "java/lang/String" "value" "[B" (.ref b1)) (K1 : Arv Z h0 b1 k1 .byte (1 : Int32) [(.int (49 : Int32))] (.int 0)) (A2 : Exa Z h0 a2 "java/lang/String") (C2 : Fld Z h0 a2 "java/lang/String" "coder" "B" (.int (0 : Int32))) (V2 : Fld Z h0 a2 "java/lang/String" "value" "[B" (.ref b2)) (K2 : Arv Z h0 b2 k2 .byte (1 : Int32) [(.int (49 : Int32))] (.int 0)) (SC : Sta Z h0 "java/lang/String" "COMPACT_STRINGS" "Z" (.int zc)) (hzc : ¬ zc = (0 : Int32)) :
    Does l (⟨"java/lang/String", "equals", "(Ljava/lang/Object;)Z"⟩ : MethodName) jdk_42_method_66_code 3 (some .boolean) ws ({ frames := 1, cells := 0, slots := 0, locals := 14 } : Room) #[(.ref a1), (.ref a2)] Z h0 (fun v h L => v = some (.int (1 : Int32)) ∧ Fr n0 L ∧ h = h0) := by
  refine Does.of (plainFor_of_name pn_java_lang_String) ?_
  intro p e s m below meth c s₁ hx hby hml hret hlk hown0 hnm hZ X0 e0
  have hown : s.vm.findClass "java/lang/String" = some m.cls := hown0
  have N0 := Fr.nil n0
  refine Go.cast (g' := (mkF m 0 #[.val (.ref a1), .val (.ref a2), .unset] [])) (by first | (simp [entryFrame, mkF, argsToLocals, Value.category, maxLocals]; done) | rfl) ?_
  refine Go.st (T' := s₁) (g' := (mkF m 1 #[.val (.ref a1), .val (.ref a2), .unset] [(.ref a1)])) ?_ (fun _ k_ => XS.aloadN X0.here hx rfl (hb hby d_jdk_42_method_66_code_0) rfl rfl k_)
  refine Go.st (T' := s₁) (g' := (mkF m 2 #[.val (.ref a1), .val (.ref a2), .unset] [(.ref a2), (.ref a1)])) ?_ (fun _ k_ => XS.aloadN X0.here hx rfl (hb hby d_jdk_42_method_66_code_1) rfl rfl k_)
  by_cases hc1 : a1 = a2
  · refine Go.st (T' := s₁) (g' := (mkF m 5 #[.val (.ref a1), .val (.ref a2), .unset] [])) ?_ (fun _ k_ => Jvm.RoadKit.acmp (g := (mkF m 2 #[.val (.ref a1), .val (.ref a2), .unset] [(.ref a2), (.ref a1)])) X0 hx rfl rfl rfl (pc0 := 2) (pc' := 5) (same := true) rfl (hb hby d_jdk_42_method_66_code_2) rfl (decide_eq_true (congrArg Value.ref hc1)) (by decide) (by decide) k_)
    refine Go.st (T' := s₁) (g' := (mkF m 6 #[.val (.ref a1), .val (.ref a2), .unset] [(.int (1 : Int32))])) ?_ (fun _ k_ => XT.iconstV X0.here hx rfl (1 : Int32) (hb hby d_jdk_42_method_66_code_5) (by decide) k_)
    exact Go.retV (t := .boolean) X0 hx hret hlk (by decide) (by decide) rfl (Or.inl ⟨rfl, Or.inr (Or.inl rfl), _, rfl⟩) (hb hby d_jdk_42_method_66_code_6) ⟨rfl, N0, e0⟩
  · refine Go.st (T' := s₁) (g' := (mkF m 7 #[.val (.ref a1), .val (.ref a2), .unset] [])) ?_ (fun _ k_ => Jvm.RoadKit.acmp (g := (mkF m 2 #[.val (.ref a1), .val (.ref a2), .unset] [(.ref a2), (.ref a1)])) X0 hx rfl rfl rfl (pc0 := 2) (pc' := 7) (same := false) rfl (hb hby d_jdk_42_method_66_code_2) rfl (decide_eq_false (fun q_ => hc1 (Value.ref.inj q_))) (by decide) (by decide) k_)
    refine Go.st (T' := s₁) (g' := (mkF m 8 #[.val (.ref a1), .val (.ref a2), .unset] [(.ref a2)])) ?_ (fun _ k_ => XS.aloadN X0.here hx rfl (hb hby d_jdk_42_method_66_code_7) rfl rfl k_)
    obtain ⟨T2, X2, e2, st2⟩ := instY X0 hx hZ hown (hw _ (List.mem_of_getElem? (i := 31) rfl)) e0 (Ins.self A2) (g := (mkF m 8 #[.val (.ref a1), .val (.ref a2), .unset] [(.ref a2)])) rfl rfl (hb hby d_jdk_42_method_66_code_8)
    refine Go.st (T' := T2) (g' := (mkF m 11 #[.val (.ref a1), .val (.ref a2), .unset] [(.int (1 : Int32))])) ?_ st2
    refine Go.st (T' := T2) (g' := (mkF m 14 #[.val (.ref a1), .val (.ref a2), .unset] [])) ?_ (fun _ k_ => XS.ifNo X2.here hx rfl (hb hby d_jdk_42_method_66_code_11) rfl (by decide) k_)
    refine Go.st (T' := T2) (g' := (mkF m 15 #[.val (.ref a1), .val (.ref a2), .unset] [(.ref a2)])) ?_ (fun _ k_ => XS.aloadN X2.here hx rfl (hb hby d_jdk_42_method_66_code_14) rfl rfl k_)
    obtain ⟨T3, X3, e3, st3⟩ := castY X2 hx hZ hown (hw _ (List.mem_of_getElem? (i := 31) rfl)) e2 (Ins.self A2) (g := (mkF m 15 #[.val (.ref a1), .val (.ref a2), .unset] [(.ref a2)])) rfl rfl (hb hby d_jdk_42_method_66_code_15)
    refine Go.st (T' := T3) (g' := (mkF m 18 #[.val (.ref a1), .val (.ref a2), .unset] [(.ref a2)])) ?_ st3
    refine Go.st (T' := T3) (g' := (mkF m 19 #[.val (.ref a1), .val (.ref a2), .val (.ref a2)] [])) ?_ (fun _ k_ => XS.astoreN X3.here hx rfl (hb hby d_jdk_42_method_66_code_18) rfl rfl (l' := #[.val (.ref a1), .val (.ref a2), .val (.ref a2)]) rfl k_)
    obtain ⟨T4, X4, e4, st4⟩ := getS2 X3 hx hZ hown (host := "") (Or.inl (hw _ (List.mem_of_getElem? (i := 33) rfl))) Via.refl e3 SC (g := (mkF m 19 #[.val (.ref a1), .val (.ref a2), .val (.ref a2)] [])) rfl (hb hby d_jdk_42_method_66_code_19)
    refine Go.st (T' := T4) (g' := (mkF m 22 #[.val (.ref a1), .val (.ref a2), .val (.ref a2)] [(.int zc)])) ?_ st4
    refine Go.st (T' := T4) (g' := (mkF m 25 #[.val (.ref a1), .val (.ref a2), .val (.ref a2)] [])) ?_ (fun _ k_ => XS.ifNo X4.here hx rfl (hb hby d_jdk_42_method_66_code_22) rfl ((if0 _ _).trans (feq (hzc : ¬ zc = (0 : Int32))).1) k_)
    refine Go.st (T' := T4) (g' := (mkF m 26 #[.val (.ref a1), .val (.ref a2), .val (.ref a2)] [(.ref a1)])) ?_ (fun _ k_ => XS.aloadN X4.here hx rfl (hb hby d_jdk_42_method_66_code_25) rfl rfl k_)
    obtain ⟨T5, X5, e5, st5⟩ := getF X4 hx hZ hown (host := "") (Or.inl (hw _ (List.mem_of_getElem? (i := 34) rfl))) Via.refl e4 C1 (g := (mkF m 26 #[.val (.ref a1), .val (.ref a2), .val (.ref a2)] [(.ref a1)])) rfl rfl (hb hby d_jdk_42_method_66_code_26)
    refine Go.st (T' := T5) (g' := (mkF m 29 #[.val (.ref a1), .val (.ref a2), .val (.ref a2)] [(.int (0 : Int32))])) ?_ st5
    refine Go.st (T' := T5) (g' := (mkF m 30 #[.val (.ref a1), .val (.ref a2), .val (.ref a2)] [(.ref a2), (.int (0 : Int32))])) ?_ (fun _ k_ => XS.aloadN X5.here hx rfl (hb hby d_jdk_42_method_66_code_29) rfl rfl k_)
    obtain ⟨T6, X6, e6, st6⟩ := getF X5 hx hZ hown (host := "") (Or.inl (hw _ (List.mem_of_getElem? (i := 34) rfl))) Via.refl e5 C2 (g := (mkF m 30 #[.val (.ref a1), .val (.ref a2), .val (.ref a2)] [(.ref a2), (.int (0 : Int32))])) rfl rfl (hb hby d_jdk_42_method_66_code_30)
    refine Go.st (T' := T6) (g' := (mkF m 33 #[.val (.ref a1), .val (.ref a2), .val (.ref a2)] [(.int (0 : Int32)), (.int (0 : Int32))])) ?_ st6
    refine Go.st (T' := T6) (g' := (mkF m 36 #[.val (.ref a1), .val (.ref a2), .val (.ref a2)] [])) ?_ (fun _ k_ => XS.icmpNo X6.here hx rfl (hb hby d_jdk_42_method_66_code_33) rfl (by decide) k_)
    refine Go.st (T' := T6) (g' := (mkF m 37 #[.val (.ref a1), .val (.ref a2), .val (.ref a2)] [(.ref a1)])) ?_ (fun _ k_ => XS.aloadN X6.here hx rfl (hb hby d_jdk_42_method_66_code_36) rfl rfl k_)
    obtain ⟨T7, X7, e7, st7⟩ := getF X6 hx hZ hown (host := "") (Or.inl (hw _ (List.mem_of_getElem? (i := 35) rfl))) Via.refl e6 V1 (g := (mkF m 37 #[.val (.ref a1), .val (.ref a2), .val (.ref a2)] [(.ref a1)])) rfl rfl (hb hby d_jdk_42_method_66_code_37)
    refine Go.st (T' := T7) (g' := (mkF m 40 #[.val (.ref a1), .val (.ref a2), .val (.ref a2)] [(.ref b1)])) ?_ st7
    refine Go.st (T' := T7) (g' := (mkF m 41 #[.val (.ref a1), .val (.ref a2), .val (.ref a2)] [(.ref a2), (.ref b1)])) ?_ (fun _ k_ => XS.aloadN X7.here hx rfl (hb hby d_jdk_42_method_66_code_40) rfl rfl k_)
    obtain ⟨T8, X8, e8, st8⟩ := getF X7 hx hZ hown (host := "") (Or.inl (hw _ (List.mem_of_getElem? (i := 35) rfl))) Via.refl e7 V2 (g := (mkF m 41 #[.val (.ref a1), .val (.ref a2), .val (.ref a2)] [(.ref a2), (.ref b1)])) rfl rfl (hb hby d_jdk_42_method_66_code_41)
    refine Go.st (T' := T8) (g' := (mkF m 44 #[.val (.ref a1), .val (.ref a2), .val (.ref a2)] [(.ref b2), (.ref b1)])) ?_ st8
    refine Go.callS X8 hx hZ hown (hw _ (List.mem_of_getElem? (i := 36) rfl)) (hw _ (List.mem_of_getElem? (i := 37) rfl)) (hw _ (List.mem_of_getElem? (i := 38) rfl)) (hw _ (List.mem_of_getElem? (i := 39) rfl)) (by decide) (rl3 l Z a0 hw [] b1 b2 k1 k2 h0 n0 Z0 K1 K2) e8 (by decide) (W := 0) (by decide) (by decide) (by decide) (g := (mkF m 44 #[.val (.ref a1), .val (.ref a2), .val (.ref a2)] [(.ref b2), (.ref b1)])) (rest := []) rfl (by rw [hml]; rfl) (lenOf pd___B_B_Z rfl) rfl (by show 2 * 0 + _ ≤ _; exact Nat.le_of_eq rfl) (hb hby d_jdk_42_method_66_code_44) ?_
    rintro v9 T9 L9 X9 ⟨rfl, N9, e9⟩
    have M9 := Fr.app N0 N9
    show Go p e below _ T9 (mkF m 47 #[.val (.ref a1), .val (.ref a2), .val (.ref a2)] [(.int (1 : Int32))])
    refine Go.st (T' := T9) (g' := (mkF m 50 #[.val (.ref a1), .val (.ref a2), .val (.ref a2)] [])) ?_ (fun _ k_ => XS.ifNo X9.here hx rfl (hb hby d_jdk_42_method_66_code_47) rfl (by decide) k_)
    refine Go.st (T' := T9) (g' := (mkF m 51 #[.val (.ref a1), .val (.ref a2), .val (.ref a2)] [(.int (1 : Int32))])) ?_ (fun _ k_ => XT.iconstV X9.here hx rfl (1 : Int32) (hb hby d_jdk_42_method_66_code_50) (by decide) k_)
    refine Go.st (T' := T9) (g' := (mkF m 55 #[.val (.ref a1), .val (.ref a2), .val (.ref a2)] [(.int (1 : Int32))])) ?_ (fun _ k_ => XS.goto X9.here hx rfl (pc0 := 51) (pc' := 55) rfl (hb hby d_jdk_42_method_66_code_51) (by decide) (by decide) k_)
    exact Go.retV (t := .boolean) X9 hx hret hlk (by decide) (by decide) rfl (Or.inl ⟨rfl, Or.inr (Or.inl rfl), _, rfl⟩) (hb hby d_jdk_42_method_66_code_55) ⟨rfl, M9, e9⟩
set_option maxRecDepth 65536 in
set_option maxHeartbeats 40000000 in
theorem rl4 (l : Launch) (Z : State) (a0 : Array Value) (hw : ∀ d ∈ tables_1, d.before a0 Z = true) (ws : List Jvm.Cond) (b1 b2 : Addr) (k1 k2 : ClassId) (h0 : Heap) (n0 : Nat) (Z0 : n0 ≤ h0.size) (K1 : Arv Z h0 b1 k1 .byte (6 : Int32) [(.int (99 : Int32)), (.int (111 : Int32)), (.int (110 : Int32)), (.int (116 : Int32)), (.int (114 : Int32)), (.int (97 : Int32))] (.int 0)) (K2 : Arv Z h0 b2 k2 .byte (6 : Int32) [(.int (99 : Int32)), (.int (97 : Int32)), (.int (110 : Int32)), (.int (99 : Int32)), (.int (101 : Int32)), (.int (108 : Int32))] (.int 0)) :
    Does l (⟨"java/lang/StringLatin1", "equals", "([B[B)Z"⟩ : MethodName) jdk_43_method_13_code 3 (some .boolean) ws ({ frames := 0, cells := 0, slots := 0, locals := 0 } : Room) #[(.ref b1), (.ref b2)] Z h0 (fun v h L => v = some (.int (0 : Int32)) ∧ Fr n0 L ∧ h = h0) := by
  refine Does.of (plainFor_of_name pn_java_lang_StringLatin1) ?_
  intro p e s m below meth c s₁ hx hby hml hret hlk hown0 hnm hZ X0 e0
  have hown : s.vm.findClass "java/lang/StringLatin1" = some m.cls := hown0
  have N0 := Fr.nil n0
  refine Go.cast (g' := (mkF m 0 #[.val (.ref b1), .val (.ref b2), .unset] [])) (by first | (simp [entryFrame, mkF, argsToLocals, Value.category, maxLocals]; done) | rfl) ?_
  refine Go.st (T' := s₁) (g' := (mkF m 1 #[.val (.ref b1), .val (.ref b2), .unset] [(.ref b1)])) ?_ (fun _ k_ => XS.aloadN X0.here hx rfl (hb hby d_jdk_43_method_13_code_0) rfl rfl k_)
  refine Go.st (T' := s₁) (g' := (mkF m 2 #[.val (.ref b1), .val (.ref b2), .unset] [(.int (6 : Int32))])) ?_ (own_len X0 hx hZ e0 K1 (g := (mkF m 1 #[.val (.ref b1), .val (.ref b2), .unset] [(.ref b1)])) rfl rfl (hb hby d_jdk_43_method_13_code_1))
  refine Go.st (T' := s₁) (g' := (mkF m 3 #[.val (.ref b1), .val (.ref b2), .unset] [(.ref b2), (.int (6 : Int32))])) ?_ (fun _ k_ => XS.aloadN X0.here hx rfl (hb hby d_jdk_43_method_13_code_2) rfl rfl k_)
  refine Go.st (T' := s₁) (g' := (mkF m 4 #[.val (.ref b1), .val (.ref b2), .unset] [(.int (6 : Int32)), (.int (6 : Int32))])) ?_ (own_len X0 hx hZ e0 K2 (g := (mkF m 3 #[.val (.ref b1), .val (.ref b2), .unset] [(.ref b2), (.int (6 : Int32))])) rfl rfl (hb hby d_jdk_43_method_13_code_3))
  refine Go.st (T' := s₁) (g' := (mkF m 7 #[.val (.ref b1), .val (.ref b2), .unset] [])) ?_ (fun _ k_ => XS.icmpNo X0.here hx rfl (hb hby d_jdk_43_method_13_code_4) rfl (by decide) k_)
  refine Go.st (T' := s₁) (g' := (mkF m 8 #[.val (.ref b1), .val (.ref b2), .unset] [(.int (0 : Int32))])) ?_ (fun _ k_ => XT.iconstV X0.here hx rfl (0 : Int32) (hb hby d_jdk_43_method_13_code_7) (by decide) k_)
  refine Go.st (T' := s₁) (g' := (mkF m 9 #[.val (.ref b1), .val (.ref b2), .val (.int (0 : Int32))] [])) ?_ (fun _ k_ => XS.istoreN X0.here hx rfl (hb hby d_jdk_43_method_13_code_8) rfl (l' := #[.val (.ref b1), .val (.ref b2), .val (.int (0 : Int32))]) rfl k_)
  refine Go.st (T' := s₁) (g' := (mkF m 10 #[.val (.ref b1), .val (.ref b2), .val (.int (0 : Int32))] [(.int (0 : Int32))])) ?_ (fun _ k_ => XS.iloadN X0.here hx rfl (hb hby d_jdk_43_method_13_code_9) rfl k_)
  refine Go.st (T' := s₁) (g' := (mkF m 11 #[.val (.ref b1), .val (.ref b2), .val (.int (0 : Int32))] [(.ref b1), (.int (0 : Int32))])) ?_ (fun _ k_ => XS.aloadN X0.here hx rfl (hb hby d_jdk_43_method_13_code_10) rfl rfl k_)
  refine Go.st (T' := s₁) (g' := (mkF m 12 #[.val (.ref b1), .val (.ref b2), .val (.int (0 : Int32))] [(.int (6 : Int32)), (.int (0 : Int32))])) ?_ (own_len X0 hx hZ e0 K1 (g := (mkF m 11 #[.val (.ref b1), .val (.ref b2), .val (.int (0 : Int32))] [(.ref b1), (.int (0 : Int32))])) rfl rfl (hb hby d_jdk_43_method_13_code_11))
  refine Go.st (T' := s₁) (g' := (mkF m 15 #[.val (.ref b1), .val (.ref b2), .val (.int (0 : Int32))] [])) ?_ (fun _ k_ => XS.icmpNo X0.here hx rfl (hb hby d_jdk_43_method_13_code_12) rfl (by decide) k_)
  refine Go.st (T' := s₁) (g' := (mkF m 16 #[.val (.ref b1), .val (.ref b2), .val (.int (0 : Int32))] [(.ref b1)])) ?_ (fun _ k_ => XS.aloadN X0.here hx rfl (hb hby d_jdk_43_method_13_code_15) rfl rfl k_)
  refine Go.st (T' := s₁) (g' := (mkF m 17 #[.val (.ref b1), .val (.ref b2), .val (.int (0 : Int32))] [(.int (0 : Int32)), (.ref b1)])) ?_ (fun _ k_ => XS.iloadN X0.here hx rfl (hb hby d_jdk_43_method_13_code_16) rfl k_)
  refine Go.st (T' := s₁) (g' := (mkF m 18 #[.val (.ref b1), .val (.ref b2), .val (.int (0 : Int32))] [(.int (99 : Int32))])) ?_ (own_baload X0 hx hZ e0 K1 (by decide) (by rw [show (0 : Int32).toNatClampNeg = 0 from by decide]; rfl) (g := (mkF m 17 #[.val (.ref b1), .val (.ref b2), .val (.int (0 : Int32))] [(.int (0 : Int32)), (.ref b1)])) rfl rfl (hb hby d_jdk_43_method_13_code_17))
  refine Go.st (T' := s₁) (g' := (mkF m 19 #[.val (.ref b1), .val (.ref b2), .val (.int (0 : Int32))] [(.ref b2), (.int (99 : Int32))])) ?_ (fun _ k_ => XS.aloadN X0.here hx rfl (hb hby d_jdk_43_method_13_code_18) rfl rfl k_)
  refine Go.st (T' := s₁) (g' := (mkF m 20 #[.val (.ref b1), .val (.ref b2), .val (.int (0 : Int32))] [(.int (0 : Int32)), (.ref b2), (.int (99 : Int32))])) ?_ (fun _ k_ => XS.iloadN X0.here hx rfl (hb hby d_jdk_43_method_13_code_19) rfl k_)
  refine Go.st (T' := s₁) (g' := (mkF m 21 #[.val (.ref b1), .val (.ref b2), .val (.int (0 : Int32))] [(.int (99 : Int32)), (.int (99 : Int32))])) ?_ (own_baload X0 hx hZ e0 K2 (by decide) (by rw [show (0 : Int32).toNatClampNeg = 0 from by decide]; rfl) (g := (mkF m 20 #[.val (.ref b1), .val (.ref b2), .val (.int (0 : Int32))] [(.int (0 : Int32)), (.ref b2), (.int (99 : Int32))])) rfl rfl (hb hby d_jdk_43_method_13_code_20))
  refine Go.st (T' := s₁) (g' := (mkF m 26 #[.val (.ref b1), .val (.ref b2), .val (.int (0 : Int32))] [])) ?_ (fun _ k_ => XS.icmpYes X0.here hx rfl (pc0 := 21) (pc' := 26) rfl (hb hby d_jdk_43_method_13_code_21) rfl (by decide) (by decide) (by decide) k_)
  refine Go.st (T' := s₁) (g' := (mkF m 29 #[.val (.ref b1), .val (.ref b2), .val (.int (1 : Int32))] [])) ?_ (fun _ k_ => XT.iincV X0.here hx rfl (1 : Int32) (hb hby d_jdk_43_method_13_code_26) (by decide) rfl (l' := #[.val (.ref b1), .val (.ref b2), .val (.int (1 : Int32))]) rfl k_)
  refine Go.st (T' := s₁) (g' := (mkF m 9 #[.val (.ref b1), .val (.ref b2), .val (.int (1 : Int32))] [])) ?_ (fun _ k_ => XS.goto X0.here hx rfl (pc0 := 29) (pc' := 9) rfl (hb hby d_jdk_43_method_13_code_29) (by decide) (by decide) k_)
  refine Go.st (T' := s₁) (g' := (mkF m 10 #[.val (.ref b1), .val (.ref b2), .val (.int (1 : Int32))] [(.int (1 : Int32))])) ?_ (fun _ k_ => XS.iloadN X0.here hx rfl (hb hby d_jdk_43_method_13_code_9) rfl k_)
  refine Go.st (T' := s₁) (g' := (mkF m 11 #[.val (.ref b1), .val (.ref b2), .val (.int (1 : Int32))] [(.ref b1), (.int (1 : Int32))])) ?_ (fun _ k_ => XS.aloadN X0.here hx rfl (hb hby d_jdk_43_method_13_code_10) rfl rfl k_)
  refine Go.st (T' := s₁) (g' := (mkF m 12 #[.val (.ref b1), .val (.ref b2), .val (.int (1 : Int32))] [(.int (6 : Int32)), (.int (1 : Int32))])) ?_ (own_len X0 hx hZ e0 K1 (g := (mkF m 11 #[.val (.ref b1), .val (.ref b2), .val (.int (1 : Int32))] [(.ref b1), (.int (1 : Int32))])) rfl rfl (hb hby d_jdk_43_method_13_code_11))
  refine Go.st (T' := s₁) (g' := (mkF m 15 #[.val (.ref b1), .val (.ref b2), .val (.int (1 : Int32))] [])) ?_ (fun _ k_ => XS.icmpNo X0.here hx rfl (hb hby d_jdk_43_method_13_code_12) rfl (by decide) k_)
  refine Go.st (T' := s₁) (g' := (mkF m 16 #[.val (.ref b1), .val (.ref b2), .val (.int (1 : Int32))] [(.ref b1)])) ?_ (fun _ k_ => XS.aloadN X0.here hx rfl (hb hby d_jdk_43_method_13_code_15) rfl rfl k_)
  refine Go.st (T' := s₁) (g' := (mkF m 17 #[.val (.ref b1), .val (.ref b2), .val (.int (1 : Int32))] [(.int (1 : Int32)), (.ref b1)])) ?_ (fun _ k_ => XS.iloadN X0.here hx rfl (hb hby d_jdk_43_method_13_code_16) rfl k_)
  refine Go.st (T' := s₁) (g' := (mkF m 18 #[.val (.ref b1), .val (.ref b2), .val (.int (1 : Int32))] [(.int (111 : Int32))])) ?_ (own_baload X0 hx hZ e0 K1 (by decide) (by rw [show (1 : Int32).toNatClampNeg = 1 from by decide]; rfl) (g := (mkF m 17 #[.val (.ref b1), .val (.ref b2), .val (.int (1 : Int32))] [(.int (1 : Int32)), (.ref b1)])) rfl rfl (hb hby d_jdk_43_method_13_code_17))
  refine Go.st (T' := s₁) (g' := (mkF m 19 #[.val (.ref b1), .val (.ref b2), .val (.int (1 : Int32))] [(.ref b2), (.int (111 : Int32))])) ?_ (fun _ k_ => XS.aloadN X0.here hx rfl (hb hby d_jdk_43_method_13_code_18) rfl rfl k_)
  refine Go.st (T' := s₁) (g' := (mkF m 20 #[.val (.ref b1), .val (.ref b2), .val (.int (1 : Int32))] [(.int (1 : Int32)), (.ref b2), (.int (111 : Int32))])) ?_ (fun _ k_ => XS.iloadN X0.here hx rfl (hb hby d_jdk_43_method_13_code_19) rfl k_)
  refine Go.st (T' := s₁) (g' := (mkF m 21 #[.val (.ref b1), .val (.ref b2), .val (.int (1 : Int32))] [(.int (97 : Int32)), (.int (111 : Int32))])) ?_ (own_baload X0 hx hZ e0 K2 (by decide) (by rw [show (1 : Int32).toNatClampNeg = 1 from by decide]; rfl) (g := (mkF m 20 #[.val (.ref b1), .val (.ref b2), .val (.int (1 : Int32))] [(.int (1 : Int32)), (.ref b2), (.int (111 : Int32))])) rfl rfl (hb hby d_jdk_43_method_13_code_20))
  refine Go.st (T' := s₁) (g' := (mkF m 24 #[.val (.ref b1), .val (.ref b2), .val (.int (1 : Int32))] [])) ?_ (fun _ k_ => XS.icmpNo X0.here hx rfl (hb hby d_jdk_43_method_13_code_21) rfl (by decide) k_)
  refine Go.st (T' := s₁) (g' := (mkF m 25 #[.val (.ref b1), .val (.ref b2), .val (.int (1 : Int32))] [(.int (0 : Int32))])) ?_ (fun _ k_ => XT.iconstV X0.here hx rfl (0 : Int32) (hb hby d_jdk_43_method_13_code_24) (by decide) k_)
  exact Go.retV (t := .boolean) X0 hx hret hlk (by decide) (by decide) rfl (Or.inl ⟨rfl, Or.inr (Or.inl rfl), _, rfl⟩) (hb hby d_jdk_43_method_13_code_25) ⟨rfl, N0, e0⟩
set_option maxRecDepth 65536 in
set_option maxHeartbeats 40000000 in
theorem re4 (l : Launch) (Z : State) (a0 : Array Value) (hw : ∀ d ∈ tables_1, d.before a0 Z = true) (ws : List Jvm.Cond) (a1 a2 b1 b2 : Addr) (k1 k2 : ClassId) (zc : Int32) (h0 : Heap) (n0 : Nat) (Z0 : n0 ≤ h0.size) (A1 : Exa Z h0 a1 "java/lang/String") (C1 : Fld Z h0 a1 "java/lang/String" "coder" "B" (.int (0 : Int32))) (V1 : Fld Z h0 a1 "java/lang/String" "value" "[B" (.ref b1)) (K1 : Arv Z h0 b1 k1 .byte (6 : Int32) [(.int (99 : Int32)), (.int (111 : Int32)), (.int (110 : Int32)), (.int (116 : Int32)), (.int (114 : Int32)), (.int (97 : Int32))] (.int 0)) (A2 : Exa Z h0 a2 "java/lang/String") (C2 : Fld Z h0 a2 "java/lang/String" "coder" "B" (.int (0 : Int32))) (V2 : Fld Z h0 a2 "java/lang/String" "value" "[B" (.ref b2)) (K2 : Arv Z h0 b2 k2 .byte (6 : Int32) [(.int (99 : Int32)), (.int (97 : Int32)), (.int (110 : Int32)), (.int (99 : Int32)), (.int (101 : Int32)), (.int (108 : Int32))] (.int 0)) (SC : Sta Z h0 "java/lang/String" "COMPACT_STRINGS" "Z" (.int zc)) (hzc : ¬ zc = (0 : Int32)) :
    Does l (⟨"java/lang/String", "equals", "(Ljava/lang/Object;)Z"⟩ : MethodName) jdk_42_method_66_code 3 (some .boolean) ws ({ frames := 1, cells := 0, slots := 0, locals := 14 } : Room) #[(.ref a1), (.ref a2)] Z h0 (fun v h L => v = some (.int (0 : Int32)) ∧ Fr n0 L ∧ h = h0) := by
  refine Does.of (plainFor_of_name pn_java_lang_String) ?_
  intro p e s m below meth c s₁ hx hby hml hret hlk hown0 hnm hZ X0 e0
  have hown : s.vm.findClass "java/lang/String" = some m.cls := hown0
  have N0 := Fr.nil n0
  have NE : ¬ a1 = a2 := own_strne V1 V2 K1 K2 (Or.inr ⟨1, by decide, by simp⟩)
  refine Go.cast (g' := (mkF m 0 #[.val (.ref a1), .val (.ref a2), .unset] [])) (by first | (simp [entryFrame, mkF, argsToLocals, Value.category, maxLocals]; done) | rfl) ?_
  refine Go.st (T' := s₁) (g' := (mkF m 1 #[.val (.ref a1), .val (.ref a2), .unset] [(.ref a1)])) ?_ (fun _ k_ => XS.aloadN X0.here hx rfl (hb hby d_jdk_42_method_66_code_0) rfl rfl k_)
  refine Go.st (T' := s₁) (g' := (mkF m 2 #[.val (.ref a1), .val (.ref a2), .unset] [(.ref a2), (.ref a1)])) ?_ (fun _ k_ => XS.aloadN X0.here hx rfl (hb hby d_jdk_42_method_66_code_1) rfl rfl k_)
  refine Go.st (T' := s₁) (g' := (mkF m 7 #[.val (.ref a1), .val (.ref a2), .unset] [])) ?_ (fun _ k_ => Jvm.RoadKit.acmp (g := (mkF m 2 #[.val (.ref a1), .val (.ref a2), .unset] [(.ref a2), (.ref a1)])) X0 hx rfl rfl rfl (pc0 := 2) (pc' := 7) (same := false) rfl (hb hby d_jdk_42_method_66_code_2) rfl (decide_eq_false (fun q_ => (NE : ¬ a1 = a2) (Value.ref.inj q_))) (by decide) (by decide) k_)
  refine Go.st (T' := s₁) (g' := (mkF m 8 #[.val (.ref a1), .val (.ref a2), .unset] [(.ref a2)])) ?_ (fun _ k_ => XS.aloadN X0.here hx rfl (hb hby d_jdk_42_method_66_code_7) rfl rfl k_)
  obtain ⟨T1, X1, e1, st1⟩ := instY X0 hx hZ hown (hw _ (List.mem_of_getElem? (i := 31) rfl)) e0 (Ins.self A2) (g := (mkF m 8 #[.val (.ref a1), .val (.ref a2), .unset] [(.ref a2)])) rfl rfl (hb hby d_jdk_42_method_66_code_8)
  refine Go.st (T' := T1) (g' := (mkF m 11 #[.val (.ref a1), .val (.ref a2), .unset] [(.int (1 : Int32))])) ?_ st1
  refine Go.st (T' := T1) (g' := (mkF m 14 #[.val (.ref a1), .val (.ref a2), .unset] [])) ?_ (fun _ k_ => XS.ifNo X1.here hx rfl (hb hby d_jdk_42_method_66_code_11) rfl (by decide) k_)
  refine Go.st (T' := T1) (g' := (mkF m 15 #[.val (.ref a1), .val (.ref a2), .unset] [(.ref a2)])) ?_ (fun _ k_ => XS.aloadN X1.here hx rfl (hb hby d_jdk_42_method_66_code_14) rfl rfl k_)
  obtain ⟨T2, X2, e2, st2⟩ := castY X1 hx hZ hown (hw _ (List.mem_of_getElem? (i := 31) rfl)) e1 (Ins.self A2) (g := (mkF m 15 #[.val (.ref a1), .val (.ref a2), .unset] [(.ref a2)])) rfl rfl (hb hby d_jdk_42_method_66_code_15)
  refine Go.st (T' := T2) (g' := (mkF m 18 #[.val (.ref a1), .val (.ref a2), .unset] [(.ref a2)])) ?_ st2
  refine Go.st (T' := T2) (g' := (mkF m 19 #[.val (.ref a1), .val (.ref a2), .val (.ref a2)] [])) ?_ (fun _ k_ => XS.astoreN X2.here hx rfl (hb hby d_jdk_42_method_66_code_18) rfl rfl (l' := #[.val (.ref a1), .val (.ref a2), .val (.ref a2)]) rfl k_)
  obtain ⟨T3, X3, e3, st3⟩ := getS2 X2 hx hZ hown (host := "") (Or.inl (hw _ (List.mem_of_getElem? (i := 33) rfl))) Via.refl e2 SC (g := (mkF m 19 #[.val (.ref a1), .val (.ref a2), .val (.ref a2)] [])) rfl (hb hby d_jdk_42_method_66_code_19)
  refine Go.st (T' := T3) (g' := (mkF m 22 #[.val (.ref a1), .val (.ref a2), .val (.ref a2)] [(.int zc)])) ?_ st3
  refine Go.st (T' := T3) (g' := (mkF m 25 #[.val (.ref a1), .val (.ref a2), .val (.ref a2)] [])) ?_ (fun _ k_ => XS.ifNo X3.here hx rfl (hb hby d_jdk_42_method_66_code_22) rfl ((if0 _ _).trans (feq (hzc : ¬ zc = (0 : Int32))).1) k_)
  refine Go.st (T' := T3) (g' := (mkF m 26 #[.val (.ref a1), .val (.ref a2), .val (.ref a2)] [(.ref a1)])) ?_ (fun _ k_ => XS.aloadN X3.here hx rfl (hb hby d_jdk_42_method_66_code_25) rfl rfl k_)
  obtain ⟨T4, X4, e4, st4⟩ := getF X3 hx hZ hown (host := "") (Or.inl (hw _ (List.mem_of_getElem? (i := 34) rfl))) Via.refl e3 C1 (g := (mkF m 26 #[.val (.ref a1), .val (.ref a2), .val (.ref a2)] [(.ref a1)])) rfl rfl (hb hby d_jdk_42_method_66_code_26)
  refine Go.st (T' := T4) (g' := (mkF m 29 #[.val (.ref a1), .val (.ref a2), .val (.ref a2)] [(.int (0 : Int32))])) ?_ st4
  refine Go.st (T' := T4) (g' := (mkF m 30 #[.val (.ref a1), .val (.ref a2), .val (.ref a2)] [(.ref a2), (.int (0 : Int32))])) ?_ (fun _ k_ => XS.aloadN X4.here hx rfl (hb hby d_jdk_42_method_66_code_29) rfl rfl k_)
  obtain ⟨T5, X5, e5, st5⟩ := getF X4 hx hZ hown (host := "") (Or.inl (hw _ (List.mem_of_getElem? (i := 34) rfl))) Via.refl e4 C2 (g := (mkF m 30 #[.val (.ref a1), .val (.ref a2), .val (.ref a2)] [(.ref a2), (.int (0 : Int32))])) rfl rfl (hb hby d_jdk_42_method_66_code_30)
  refine Go.st (T' := T5) (g' := (mkF m 33 #[.val (.ref a1), .val (.ref a2), .val (.ref a2)] [(.int (0 : Int32)), (.int (0 : Int32))])) ?_ st5
  refine Go.st (T' := T5) (g' := (mkF m 36 #[.val (.ref a1), .val (.ref a2), .val (.ref a2)] [])) ?_ (fun _ k_ => XS.icmpNo X5.here hx rfl (hb hby d_jdk_42_method_66_code_33) rfl (by decide) k_)
  refine Go.st (T' := T5) (g' := (mkF m 37 #[.val (.ref a1), .val (.ref a2), .val (.ref a2)] [(.ref a1)])) ?_ (fun _ k_ => XS.aloadN X5.here hx rfl (hb hby d_jdk_42_method_66_code_36) rfl rfl k_)
  obtain ⟨T6, X6, e6, st6⟩ := getF X5 hx hZ hown (host := "") (Or.inl (hw _ (List.mem_of_getElem? (i := 35) rfl))) Via.refl e5 V1 (g := (mkF m 37 #[.val (.ref a1), .val (.ref a2), .val (.ref a2)] [(.ref a1)])) rfl rfl (hb hby d_jdk_42_method_66_code_37)
  refine Go.st (T' := T6) (g' := (mkF m 40 #[.val (.ref a1), .val (.ref a2), .val (.ref a2)] [(.ref b1)])) ?_ st6
  refine Go.st (T' := T6) (g' := (mkF m 41 #[.val (.ref a1), .val (.ref a2), .val (.ref a2)] [(.ref a2), (.ref b1)])) ?_ (fun _ k_ => XS.aloadN X6.here hx rfl (hb hby d_jdk_42_method_66_code_40) rfl rfl k_)
  obtain ⟨T7, X7, e7, st7⟩ := getF X6 hx hZ hown (host := "") (Or.inl (hw _ (List.mem_of_getElem? (i := 35) rfl))) Via.refl e6 V2 (g := (mkF m 41 #[.val (.ref a1), .val (.ref a2), .val (.ref a2)] [(.ref a2), (.ref b1)])) rfl rfl (hb hby d_jdk_42_method_66_code_41)
  refine Go.st (T' := T7) (g' := (mkF m 44 #[.val (.ref a1), .val (.ref a2), .val (.ref a2)] [(.ref b2), (.ref b1)])) ?_ st7
  refine Go.callS X7 hx hZ hown (hw _ (List.mem_of_getElem? (i := 36) rfl)) (hw _ (List.mem_of_getElem? (i := 37) rfl)) (hw _ (List.mem_of_getElem? (i := 38) rfl)) (hw _ (List.mem_of_getElem? (i := 39) rfl)) (by decide) (rl4 l Z a0 hw [] b1 b2 k1 k2 h0 n0 Z0 K1 K2) e7 (by decide) (W := 0) (by decide) (by decide) (by decide) (g := (mkF m 44 #[.val (.ref a1), .val (.ref a2), .val (.ref a2)] [(.ref b2), (.ref b1)])) (rest := []) rfl (by rw [hml]; rfl) (lenOf pd___B_B_Z rfl) rfl (by show 2 * 0 + _ ≤ _; exact Nat.le_of_eq rfl) (hb hby d_jdk_42_method_66_code_44) ?_
  rintro v8 T8 L8 X8 ⟨rfl, N8, e8⟩
  have M8 := Fr.app N0 N8
  show Go p e below _ T8 (mkF m 47 #[.val (.ref a1), .val (.ref a2), .val (.ref a2)] [(.int (0 : Int32))])
  refine Go.st (T' := T8) (g' := (mkF m 54 #[.val (.ref a1), .val (.ref a2), .val (.ref a2)] [])) ?_ (fun _ k_ => XS.ifYes X8.here hx rfl (pc0 := 47) (pc' := 54) rfl (hb hby d_jdk_42_method_66_code_47) rfl (by decide) (by decide) (by decide) k_)
  refine Go.st (T' := T8) (g' := (mkF m 55 #[.val (.ref a1), .val (.ref a2), .val (.ref a2)] [(.int (0 : Int32))])) ?_ (fun _ k_ => XT.iconstV X8.here hx rfl (0 : Int32) (hb hby d_jdk_42_method_66_code_54) (by decide) k_)
  exact Go.retV (t := .boolean) X8 hx hret hlk (by decide) (by decide) rfl (Or.inl ⟨rfl, Or.inr (Or.inl rfl), _, rfl⟩) (hb hby d_jdk_42_method_66_code_55) ⟨rfl, M8, e8⟩
set_option maxRecDepth 65536 in
set_option maxHeartbeats 40000000 in
theorem rl5 (l : Launch) (Z : State) (a0 : Array Value) (hw : ∀ d ∈ tables_1, d.before a0 Z = true) (ws : List Jvm.Cond) (b1 b2 : Addr) (k1 k2 : ClassId) (h0 : Heap) (n0 : Nat) (Z0 : n0 ≤ h0.size) (K1 : Arv Z h0 b1 k1 .byte (1 : Int32) [(.int (52 : Int32))] (.int 0)) (K2 : Arv Z h0 b2 k2 .byte (1 : Int32) [(.int (49 : Int32))] (.int 0)) :
    Does l (⟨"java/lang/StringLatin1", "equals", "([B[B)Z"⟩ : MethodName) jdk_43_method_13_code 3 (some .boolean) ws ({ frames := 0, cells := 0, slots := 0, locals := 0 } : Room) #[(.ref b1), (.ref b2)] Z h0 (fun v h L => v = some (.int (0 : Int32)) ∧ Fr n0 L ∧ h = h0) := by
  refine Does.of (plainFor_of_name pn_java_lang_StringLatin1) ?_
  intro p e s m below meth c s₁ hx hby hml hret hlk hown0 hnm hZ X0 e0
  have hown : s.vm.findClass "java/lang/StringLatin1" = some m.cls := hown0
  have N0 := Fr.nil n0
  refine Go.cast (g' := (mkF m 0 #[.val (.ref b1), .val (.ref b2), .unset] [])) (by first | (simp [entryFrame, mkF, argsToLocals, Value.category, maxLocals]; done) | rfl) ?_
  refine Go.st (T' := s₁) (g' := (mkF m 1 #[.val (.ref b1), .val (.ref b2), .unset] [(.ref b1)])) ?_ (fun _ k_ => XS.aloadN X0.here hx rfl (hb hby d_jdk_43_method_13_code_0) rfl rfl k_)
  refine Go.st (T' := s₁) (g' := (mkF m 2 #[.val (.ref b1), .val (.ref b2), .unset] [(.int (1 : Int32))])) ?_ (own_len X0 hx hZ e0 K1 (g := (mkF m 1 #[.val (.ref b1), .val (.ref b2), .unset] [(.ref b1)])) rfl rfl (hb hby d_jdk_43_method_13_code_1))
  refine Go.st (T' := s₁) (g' := (mkF m 3 #[.val (.ref b1), .val (.ref b2), .unset] [(.ref b2), (.int (1 : Int32))])) ?_ (fun _ k_ => XS.aloadN X0.here hx rfl (hb hby d_jdk_43_method_13_code_2) rfl rfl k_)
  refine Go.st (T' := s₁) (g' := (mkF m 4 #[.val (.ref b1), .val (.ref b2), .unset] [(.int (1 : Int32)), (.int (1 : Int32))])) ?_ (own_len X0 hx hZ e0 K2 (g := (mkF m 3 #[.val (.ref b1), .val (.ref b2), .unset] [(.ref b2), (.int (1 : Int32))])) rfl rfl (hb hby d_jdk_43_method_13_code_3))
  refine Go.st (T' := s₁) (g' := (mkF m 7 #[.val (.ref b1), .val (.ref b2), .unset] [])) ?_ (fun _ k_ => XS.icmpNo X0.here hx rfl (hb hby d_jdk_43_method_13_code_4) rfl (by decide) k_)
  refine Go.st (T' := s₁) (g' := (mkF m 8 #[.val (.ref b1), .val (.ref b2), .unset] [(.int (0 : Int32))])) ?_ (fun _ k_ => XT.iconstV X0.here hx rfl (0 : Int32) (hb hby d_jdk_43_method_13_code_7) (by decide) k_)
  refine Go.st (T' := s₁) (g' := (mkF m 9 #[.val (.ref b1), .val (.ref b2), .val (.int (0 : Int32))] [])) ?_ (fun _ k_ => XS.istoreN X0.here hx rfl (hb hby d_jdk_43_method_13_code_8) rfl (l' := #[.val (.ref b1), .val (.ref b2), .val (.int (0 : Int32))]) rfl k_)
  refine Go.st (T' := s₁) (g' := (mkF m 10 #[.val (.ref b1), .val (.ref b2), .val (.int (0 : Int32))] [(.int (0 : Int32))])) ?_ (fun _ k_ => XS.iloadN X0.here hx rfl (hb hby d_jdk_43_method_13_code_9) rfl k_)
  refine Go.st (T' := s₁) (g' := (mkF m 11 #[.val (.ref b1), .val (.ref b2), .val (.int (0 : Int32))] [(.ref b1), (.int (0 : Int32))])) ?_ (fun _ k_ => XS.aloadN X0.here hx rfl (hb hby d_jdk_43_method_13_code_10) rfl rfl k_)
  refine Go.st (T' := s₁) (g' := (mkF m 12 #[.val (.ref b1), .val (.ref b2), .val (.int (0 : Int32))] [(.int (1 : Int32)), (.int (0 : Int32))])) ?_ (own_len X0 hx hZ e0 K1 (g := (mkF m 11 #[.val (.ref b1), .val (.ref b2), .val (.int (0 : Int32))] [(.ref b1), (.int (0 : Int32))])) rfl rfl (hb hby d_jdk_43_method_13_code_11))
  refine Go.st (T' := s₁) (g' := (mkF m 15 #[.val (.ref b1), .val (.ref b2), .val (.int (0 : Int32))] [])) ?_ (fun _ k_ => XS.icmpNo X0.here hx rfl (hb hby d_jdk_43_method_13_code_12) rfl (by decide) k_)
  refine Go.st (T' := s₁) (g' := (mkF m 16 #[.val (.ref b1), .val (.ref b2), .val (.int (0 : Int32))] [(.ref b1)])) ?_ (fun _ k_ => XS.aloadN X0.here hx rfl (hb hby d_jdk_43_method_13_code_15) rfl rfl k_)
  refine Go.st (T' := s₁) (g' := (mkF m 17 #[.val (.ref b1), .val (.ref b2), .val (.int (0 : Int32))] [(.int (0 : Int32)), (.ref b1)])) ?_ (fun _ k_ => XS.iloadN X0.here hx rfl (hb hby d_jdk_43_method_13_code_16) rfl k_)
  refine Go.st (T' := s₁) (g' := (mkF m 18 #[.val (.ref b1), .val (.ref b2), .val (.int (0 : Int32))] [(.int (52 : Int32))])) ?_ (own_baload X0 hx hZ e0 K1 (by decide) (by rw [show (0 : Int32).toNatClampNeg = 0 from by decide]; rfl) (g := (mkF m 17 #[.val (.ref b1), .val (.ref b2), .val (.int (0 : Int32))] [(.int (0 : Int32)), (.ref b1)])) rfl rfl (hb hby d_jdk_43_method_13_code_17))
  refine Go.st (T' := s₁) (g' := (mkF m 19 #[.val (.ref b1), .val (.ref b2), .val (.int (0 : Int32))] [(.ref b2), (.int (52 : Int32))])) ?_ (fun _ k_ => XS.aloadN X0.here hx rfl (hb hby d_jdk_43_method_13_code_18) rfl rfl k_)
  refine Go.st (T' := s₁) (g' := (mkF m 20 #[.val (.ref b1), .val (.ref b2), .val (.int (0 : Int32))] [(.int (0 : Int32)), (.ref b2), (.int (52 : Int32))])) ?_ (fun _ k_ => XS.iloadN X0.here hx rfl (hb hby d_jdk_43_method_13_code_19) rfl k_)
  refine Go.st (T' := s₁) (g' := (mkF m 21 #[.val (.ref b1), .val (.ref b2), .val (.int (0 : Int32))] [(.int (49 : Int32)), (.int (52 : Int32))])) ?_ (own_baload X0 hx hZ e0 K2 (by decide) (by rw [show (0 : Int32).toNatClampNeg = 0 from by decide]; rfl) (g := (mkF m 20 #[.val (.ref b1), .val (.ref b2), .val (.int (0 : Int32))] [(.int (0 : Int32)), (.ref b2), (.int (52 : Int32))])) rfl rfl (hb hby d_jdk_43_method_13_code_20))
  refine Go.st (T' := s₁) (g' := (mkF m 24 #[.val (.ref b1), .val (.ref b2), .val (.int (0 : Int32))] [])) ?_ (fun _ k_ => XS.icmpNo X0.here hx rfl (hb hby d_jdk_43_method_13_code_21) rfl (by decide) k_)
  refine Go.st (T' := s₁) (g' := (mkF m 25 #[.val (.ref b1), .val (.ref b2), .val (.int (0 : Int32))] [(.int (0 : Int32))])) ?_ (fun _ k_ => XT.iconstV X0.here hx rfl (0 : Int32) (hb hby d_jdk_43_method_13_code_24) (by decide) k_)
  exact Go.retV (t := .boolean) X0 hx hret hlk (by decide) (by decide) rfl (Or.inl ⟨rfl, Or.inr (Or.inl rfl), _, rfl⟩) (hb hby d_jdk_43_method_13_code_25) ⟨rfl, N0, e0⟩
set_option maxRecDepth 65536 in
set_option maxHeartbeats 40000000 in
theorem re5 (l : Launch) (Z : State) (a0 : Array Value) (hw : ∀ d ∈ tables_1, d.before a0 Z = true) (ws : List Jvm.Cond) (a1 a2 b1 b2 : Addr) (k1 k2 : ClassId) (zc : Int32) (h0 : Heap) (n0 : Nat) (Z0 : n0 ≤ h0.size) (A1 : Exa Z h0 a1 "java/lang/String") (C1 : Fld Z h0 a1 "java/lang/String" "coder" "B" (.int (0 : Int32))) (V1 : Fld Z h0 a1 "java/lang/String" "value" "[B" (.ref b1)) (K1 : Arv Z h0 b1 k1 .byte (1 : Int32) [(.int (52 : Int32))] (.int 0)) (A2 : Exa Z h0 a2 "java/lang/String") (C2 : Fld Z h0 a2 "java/lang/String" "coder" "B" (.int (0 : Int32))) (V2 : Fld Z h0 a2 "java/lang/String" "value" "[B" (.ref b2)) (K2 : Arv Z h0 b2 k2 .byte (1 : Int32) [(.int (49 : Int32))] (.int 0)) (SC : Sta Z h0 "java/lang/String" "COMPACT_STRINGS" "Z" (.int zc)) (hzc : ¬ zc = (0 : Int32)) :
    Does l (⟨"java/lang/String", "equals", "(Ljava/lang/Object;)Z"⟩ : MethodName) jdk_42_method_66_code 3 (some .boolean) ws ({ frames := 1, cells := 0, slots := 0, locals := 14 } : Room) #[(.ref a1), (.ref a2)] Z h0 (fun v h L => v = some (.int (0 : Int32)) ∧ Fr n0 L ∧ h = h0) := by
  refine Does.of (plainFor_of_name pn_java_lang_String) ?_
  intro p e s m below meth c s₁ hx hby hml hret hlk hown0 hnm hZ X0 e0
  have hown : s.vm.findClass "java/lang/String" = some m.cls := hown0
  have N0 := Fr.nil n0
  have NE : ¬ a1 = a2 := own_strne V1 V2 K1 K2 (Or.inr ⟨0, by decide, by simp⟩)
  refine Go.cast (g' := (mkF m 0 #[.val (.ref a1), .val (.ref a2), .unset] [])) (by first | (simp [entryFrame, mkF, argsToLocals, Value.category, maxLocals]; done) | rfl) ?_
  refine Go.st (T' := s₁) (g' := (mkF m 1 #[.val (.ref a1), .val (.ref a2), .unset] [(.ref a1)])) ?_ (fun _ k_ => XS.aloadN X0.here hx rfl (hb hby d_jdk_42_method_66_code_0) rfl rfl k_)
  refine Go.st (T' := s₁) (g' := (mkF m 2 #[.val (.ref a1), .val (.ref a2), .unset] [(.ref a2), (.ref a1)])) ?_ (fun _ k_ => XS.aloadN X0.here hx rfl (hb hby d_jdk_42_method_66_code_1) rfl rfl k_)
  refine Go.st (T' := s₁) (g' := (mkF m 7 #[.val (.ref a1), .val (.ref a2), .unset] [])) ?_ (fun _ k_ => Jvm.RoadKit.acmp (g := (mkF m 2 #[.val (.ref a1), .val (.ref a2), .unset] [(.ref a2), (.ref a1)])) X0 hx rfl rfl rfl (pc0 := 2) (pc' := 7) (same := false) rfl (hb hby d_jdk_42_method_66_code_2) rfl (decide_eq_false (fun q_ => (NE : ¬ a1 = a2) (Value.ref.inj q_))) (by decide) (by decide) k_)
  refine Go.st (T' := s₁) (g' := (mkF m 8 #[.val (.ref a1), .val (.ref a2), .unset] [(.ref a2)])) ?_ (fun _ k_ => XS.aloadN X0.here hx rfl (hb hby d_jdk_42_method_66_code_7) rfl rfl k_)
  obtain ⟨T1, X1, e1, st1⟩ := instY X0 hx hZ hown (hw _ (List.mem_of_getElem? (i := 31) rfl)) e0 (Ins.self A2) (g := (mkF m 8 #[.val (.ref a1), .val (.ref a2), .unset] [(.ref a2)])) rfl rfl (hb hby d_jdk_42_method_66_code_8)
  refine Go.st (T' := T1) (g' := (mkF m 11 #[.val (.ref a1), .val (.ref a2), .unset] [(.int (1 : Int32))])) ?_ st1
  refine Go.st (T' := T1) (g' := (mkF m 14 #[.val (.ref a1), .val (.ref a2), .unset] [])) ?_ (fun _ k_ => XS.ifNo X1.here hx rfl (hb hby d_jdk_42_method_66_code_11) rfl (by decide) k_)
  refine Go.st (T' := T1) (g' := (mkF m 15 #[.val (.ref a1), .val (.ref a2), .unset] [(.ref a2)])) ?_ (fun _ k_ => XS.aloadN X1.here hx rfl (hb hby d_jdk_42_method_66_code_14) rfl rfl k_)
  obtain ⟨T2, X2, e2, st2⟩ := castY X1 hx hZ hown (hw _ (List.mem_of_getElem? (i := 31) rfl)) e1 (Ins.self A2) (g := (mkF m 15 #[.val (.ref a1), .val (.ref a2), .unset] [(.ref a2)])) rfl rfl (hb hby d_jdk_42_method_66_code_15)
  refine Go.st (T' := T2) (g' := (mkF m 18 #[.val (.ref a1), .val (.ref a2), .unset] [(.ref a2)])) ?_ st2
  refine Go.st (T' := T2) (g' := (mkF m 19 #[.val (.ref a1), .val (.ref a2), .val (.ref a2)] [])) ?_ (fun _ k_ => XS.astoreN X2.here hx rfl (hb hby d_jdk_42_method_66_code_18) rfl rfl (l' := #[.val (.ref a1), .val (.ref a2), .val (.ref a2)]) rfl k_)
  obtain ⟨T3, X3, e3, st3⟩ := getS2 X2 hx hZ hown (host := "") (Or.inl (hw _ (List.mem_of_getElem? (i := 33) rfl))) Via.refl e2 SC (g := (mkF m 19 #[.val (.ref a1), .val (.ref a2), .val (.ref a2)] [])) rfl (hb hby d_jdk_42_method_66_code_19)
  refine Go.st (T' := T3) (g' := (mkF m 22 #[.val (.ref a1), .val (.ref a2), .val (.ref a2)] [(.int zc)])) ?_ st3
  refine Go.st (T' := T3) (g' := (mkF m 25 #[.val (.ref a1), .val (.ref a2), .val (.ref a2)] [])) ?_ (fun _ k_ => XS.ifNo X3.here hx rfl (hb hby d_jdk_42_method_66_code_22) rfl ((if0 _ _).trans (feq (hzc : ¬ zc = (0 : Int32))).1) k_)
  refine Go.st (T' := T3) (g' := (mkF m 26 #[.val (.ref a1), .val (.ref a2), .val (.ref a2)] [(.ref a1)])) ?_ (fun _ k_ => XS.aloadN X3.here hx rfl (hb hby d_jdk_42_method_66_code_25) rfl rfl k_)
  obtain ⟨T4, X4, e4, st4⟩ := getF X3 hx hZ hown (host := "") (Or.inl (hw _ (List.mem_of_getElem? (i := 34) rfl))) Via.refl e3 C1 (g := (mkF m 26 #[.val (.ref a1), .val (.ref a2), .val (.ref a2)] [(.ref a1)])) rfl rfl (hb hby d_jdk_42_method_66_code_26)
  refine Go.st (T' := T4) (g' := (mkF m 29 #[.val (.ref a1), .val (.ref a2), .val (.ref a2)] [(.int (0 : Int32))])) ?_ st4
  refine Go.st (T' := T4) (g' := (mkF m 30 #[.val (.ref a1), .val (.ref a2), .val (.ref a2)] [(.ref a2), (.int (0 : Int32))])) ?_ (fun _ k_ => XS.aloadN X4.here hx rfl (hb hby d_jdk_42_method_66_code_29) rfl rfl k_)
  obtain ⟨T5, X5, e5, st5⟩ := getF X4 hx hZ hown (host := "") (Or.inl (hw _ (List.mem_of_getElem? (i := 34) rfl))) Via.refl e4 C2 (g := (mkF m 30 #[.val (.ref a1), .val (.ref a2), .val (.ref a2)] [(.ref a2), (.int (0 : Int32))])) rfl rfl (hb hby d_jdk_42_method_66_code_30)
  refine Go.st (T' := T5) (g' := (mkF m 33 #[.val (.ref a1), .val (.ref a2), .val (.ref a2)] [(.int (0 : Int32)), (.int (0 : Int32))])) ?_ st5
  refine Go.st (T' := T5) (g' := (mkF m 36 #[.val (.ref a1), .val (.ref a2), .val (.ref a2)] [])) ?_ (fun _ k_ => XS.icmpNo X5.here hx rfl (hb hby d_jdk_42_method_66_code_33) rfl (by decide) k_)
  refine Go.st (T' := T5) (g' := (mkF m 37 #[.val (.ref a1), .val (.ref a2), .val (.ref a2)] [(.ref a1)])) ?_ (fun _ k_ => XS.aloadN X5.here hx rfl (hb hby d_jdk_42_method_66_code_36) rfl rfl k_)
  obtain ⟨T6, X6, e6, st6⟩ := getF X5 hx hZ hown (host := "") (Or.inl (hw _ (List.mem_of_getElem? (i := 35) rfl))) Via.refl e5 V1 (g := (mkF m 37 #[.val (.ref a1), .val (.ref a2), .val (.ref a2)] [(.ref a1)])) rfl rfl (hb hby d_jdk_42_method_66_code_37)
  refine Go.st (T' := T6) (g' := (mkF m 40 #[.val (.ref a1), .val (.ref a2), .val (.ref a2)] [(.ref b1)])) ?_ st6
  refine Go.st (T' := T6) (g' := (mkF m 41 #[.val (.ref a1), .val (.ref a2), .val (.ref a2)] [(.ref a2), (.ref b1)])) ?_ (fun _ k_ => XS.aloadN X6.here hx rfl (hb hby d_jdk_42_method_66_code_40) rfl rfl k_)
  obtain ⟨T7, X7, e7, st7⟩ := getF X6 hx hZ hown (host := "") (Or.inl (hw _ (List.mem_of_getElem? (i := 35) rfl))) Via.refl e6 V2 (g := (mkF m 41 #[.val (.ref a1), .val (.ref a2), .val (.ref a2)] [(.ref a2), (.ref b1)])) rfl rfl (hb hby d_jdk_42_method_66_code_41)
  refine Go.st (T' := T7) (g' := (mkF m 44 #[.val (.ref a1), .val (.ref a2), .val (.ref a2)] [(.ref b2), (.ref b1)])) ?_ st7
  refine Go.callS X7 hx hZ hown (hw _ (List.mem_of_getElem? (i := 36) rfl)) (hw _ (List.mem_of_getElem? (i := 37) rfl)) (hw _ (List.mem_of_getElem? (i := 38) rfl)) (hw _ (List.mem_of_getElem? (i := 39) rfl)) (by decide) (rl5 l Z a0 hw [] b1 b2 k1 k2 h0 n0 Z0 K1 K2) e7 (by decide) (W := 0) (by decide) (by decide) (by decide) (g := (mkF m 44 #[.val (.ref a1), .val (.ref a2), .val (.ref a2)] [(.ref b2), (.ref b1)])) (rest := []) rfl (by rw [hml]; rfl) (lenOf pd___B_B_Z rfl) rfl (by show 2 * 0 + _ ≤ _; exact Nat.le_of_eq rfl) (hb hby d_jdk_42_method_66_code_44) ?_
  rintro v8 T8 L8 X8 ⟨rfl, N8, e8⟩
  have M8 := Fr.app N0 N8
  show Go p e below _ T8 (mkF m 47 #[.val (.ref a1), .val (.ref a2), .val (.ref a2)] [(.int (0 : Int32))])
  refine Go.st (T' := T8) (g' := (mkF m 54 #[.val (.ref a1), .val (.ref a2), .val (.ref a2)] [])) ?_ (fun _ k_ => XS.ifYes X8.here hx rfl (pc0 := 47) (pc' := 54) rfl (hb hby d_jdk_42_method_66_code_47) rfl (by decide) (by decide) (by decide) k_)
  refine Go.st (T' := T8) (g' := (mkF m 55 #[.val (.ref a1), .val (.ref a2), .val (.ref a2)] [(.int (0 : Int32))])) ?_ (fun _ k_ => XT.iconstV X8.here hx rfl (0 : Int32) (hb hby d_jdk_42_method_66_code_54) (by decide) k_)
  exact Go.retV (t := .boolean) X8 hx hret hlk (by decide) (by decide) rfl (Or.inl ⟨rfl, Or.inr (Or.inl rfl), _, rfl⟩) (hb hby d_jdk_42_method_66_code_55) ⟨rfl, M8, e8⟩
theorem own_k (p : Int32) : (p &&& 2147483647) % 3 = 0 ∨ (p &&& 2147483647) % 3 = 1 ∨ (p &&& 2147483647) % 3 = 2 := by
  have h1 := c_mask p 2147483647 31 (by decide) (by decide)
  have h2 := (c_irem (p &&& 2147483647) 3 3 (by decide)).1 (by rw [h1]; omega)
  simp only [← Int32.toInt_inj, h2, h1]
  have e0 : (0 : Int32).toInt = 0 := by decide
  have e1 : (1 : Int32).toInt = 1 := by decide
  have e2 : (2 : Int32).toInt = 2 := by decide
  simp only [e0, e1, e2]
  omega
theorem pd___Z : parseMethodDescriptor "()Z" = some ⟨[], some .boolean⟩ := by decide +kernel
theorem pd___Ljava_lang_String_ : parseMethodDescriptor "()Ljava/lang/String;" = some ⟨[], some (.object "java/lang/String")⟩ := by decide +kernel
theorem pd__Ljava_lang_Object__Z : parseMethodDescriptor "(Ljava/lang/Object;)Z" = some ⟨[(.object "java/lang/Object")], some .boolean⟩ := by decide +kernel
theorem pn_com_example_tallywire_tallywire_ccpreport_CcpActionMakesTradePinLaw : plainName "com/example/tallywire/tallywire/ccpreport/CcpActionMakesTradePinLaw" = true := by first | (simp [plainName, overriddenIn]; done) | decide +kernel
set_option maxRecDepth 65536 in
set_option maxHeartbeats 40000000 in
theorem rm0 (l : Launch) (Z : State) (a0 : Array Value) (hw : ∀ d ∈ tables_1, d.before a0 Z = true) (ws : List Jvm.Cond) (p1 : Int32) (w_NEW w_CANCEL w_CONTRA s_NEW_label b_NEW_label s_NEW_fixValue b_NEW_fixValue s_CANCEL_label b_CANCEL_label s_CANCEL_fixValue b_CANCEL_fixValue s_CONTRA_label b_CONTRA_label s_CONTRA_fixValue b_CONTRA_fixValue : Addr) (k_NEW_label k_NEW_fixValue k_CANCEL_label k_CANCEL_fixValue k_CONTRA_label k_CONTRA_fixValue : ClassId) (zc : Int32) (FF : own_F Z Z.heap w_NEW w_CANCEL w_CONTRA s_NEW_label b_NEW_label s_NEW_fixValue b_NEW_fixValue s_CANCEL_label b_CANCEL_label s_CANCEL_fixValue b_CANCEL_fixValue s_CONTRA_label b_CONTRA_label s_CONTRA_fixValue b_CONTRA_fixValue k_NEW_label k_NEW_fixValue k_CANCEL_label k_CANCEL_fixValue k_CONTRA_label k_CONTRA_fixValue zc) (HC : Jvm.Lit.compactW.before a0 Z = true) (H28 : Jvm.Lit.constHeld Z "com/example/tallywire/tallywire/ccpreport/CcpActionMakesTradePinLaw" 28) (H39 : Jvm.Lit.constHeld Z "com/example/tallywire/tallywire/ccpreport/CcpActionMakesTradePinLaw" 39) :
    LawDoes l x code maxLocals ret ws room_1 #[(.int p1)] Z (fun v h L => v = some (.int 1) ∧ Fr Z.heap.size L) := by
  refine LawDoes.of (plainFor_of_name pn_com_example_tallywire_tallywire_ccpreport_CcpActionMakesTradePinLaw) ?_
  intro p e m below meth c s₁ hx hby hml hret hlk hown0 hnm X0 e0
  have hown : Z.vm.findClass "com/example/tallywire/tallywire/ccpreport/CcpActionMakesTradePinLaw" = some m.cls := hown0
  have hZ : Z.Warmed39 Z.vm := State.Warmed39.refl Z
  have hS : Z.Since Z.vm 0 := (State.WarmedH.refl Z).since 0
  have hk : 0 ≤ Z.heap.size := Nat.zero_le _
  have I0 : IB Z Z.vm [] := IB.start
  have N0 := Fr.nil Z.heap.size
  have Z0 : Z.heap.size ≤ Z.heap.size := Nat.le_refl _
  have wS : ∀ d ∈ Bundle.stringAtoms, d.before a0 Z = true := fun d hd => hw d ((by decide +kernel : ∀ d ∈ Bundle.stringAtoms, d ∈ tables_1) d hd)
  obtain ⟨S_NEW, A_NEW, L_NEW_label, AS_NEW_label, C_NEW_label, V_NEW_label, K_NEW_label, L_NEW_fixValue, AS_NEW_fixValue, C_NEW_fixValue, V_NEW_fixValue, K_NEW_fixValue, S_CANCEL, A_CANCEL, L_CANCEL_label, AS_CANCEL_label, C_CANCEL_label, V_CANCEL_label, K_CANCEL_label, L_CANCEL_fixValue, AS_CANCEL_fixValue, C_CANCEL_fixValue, V_CANCEL_fixValue, K_CANCEL_fixValue, S_CONTRA, A_CONTRA, L_CONTRA_label, AS_CONTRA_label, C_CONTRA_label, V_CONTRA_label, K_CONTRA_label, L_CONTRA_fixValue, AS_CONTRA_fixValue, C_CONTRA_fixValue, V_CONTRA_fixValue, K_CONTRA_fixValue, D1, D2, D3, SC, hzc⟩ := FF
  refine Go.cast (g' := (mkF m 0 #[.val (.int p1), .unset, .unset, .unset, .unset, .unset, .unset] [])) (by first | (simp [entryFrame, mkF, argsToLocals, Value.category, maxLocals]; done) | rfl) ?_
  refine Go.st (T' := s₁) (g' := (mkF m 1 #[.val (.int p1), .unset, .unset, .unset, .unset, .unset, .unset] [(.int p1)])) ?_ (fun _ k_ => XS.iloadN X0.here hx rfl (hb hby at_0) rfl k_)
  refine Go.st (T' := s₁) (g' := (mkF m 3 #[.val (.int p1), .unset, .unset, .unset, .unset, .unset, .unset] [(.int (2147483647 : Int32)), (.int p1)])) ?_ (fun _ k_ => X0.ldcI hx hown (mvT hZ (hw _ (List.mem_of_getElem? (i := 0) rfl))) rfl (hb hby at_1) k_)
  refine Go.st (T' := s₁) (g' := (mkF m 4 #[.val (.int p1), .unset, .unset, .unset, .unset, .unset, .unset] [(.int (p1 &&& (2147483647 : Int32)))])) ?_ (fun _ k_ => XS.iand X0.here hx rfl (hb hby at_3) rfl k_)
  refine Go.st (T' := s₁) (g' := (mkF m 5 #[.val (.int p1), .unset, .unset, .unset, .unset, .unset, .unset] [(.int (3 : Int32)), (.int (p1 &&& (2147483647 : Int32)))])) ?_ (fun _ k_ => XT.iconstV X0.here hx rfl (3 : Int32) (hb hby at_4) (by decide) k_)
  refine Go.st (T' := s₁) (g' := (mkF m 6 #[.val (.int p1), .unset, .unset, .unset, .unset, .unset, .unset] [(.int ((p1 &&& (2147483647 : Int32)) % (3 : Int32)))])) ?_ (fun _ k_ => iremM X0 hx rfl (hb hby at_5) rfl (by decide) k_)
  rcases own_k p1 with hkk | hkk | hkk
  · rw [hkk]
    refine Go.st (T' := s₁) (g' := (mkF m 7 #[.val (.int p1), .val (.int (0 : Int32)), .unset, .unset, .unset, .unset, .unset] [])) ?_ (fun _ k_ => XS.istoreN X0.here hx rfl (hb hby at_6) rfl (l' := #[.val (.int p1), .val (.int (0 : Int32)), .unset, .unset, .unset, .unset, .unset]) rfl k_)
    refine Go.st (T' := s₁) (g' := (mkF m 8 #[.val (.int p1), .val (.int (0 : Int32)), .unset, .unset, .unset, .unset, .unset] [(.int (0 : Int32))])) ?_ (fun _ k_ => XS.iloadN X0.here hx rfl (hb hby at_7) rfl k_)
    refine Go.st (T' := s₁) (g' := (mkF m 11 #[.val (.int p1), .val (.int (0 : Int32)), .unset, .unset, .unset, .unset, .unset] [])) ?_ (fun _ k_ => XS.ifNo X0.here hx rfl (hb hby at_8) rfl (by decide) k_)
    obtain ⟨T1, X1, e1, st1⟩ := getS2 X0 hx hZ hown (host := "") (Or.inl (hw _ (List.mem_of_getElem? (i := 1) rfl))) Via.refl e0 S_NEW (g := (mkF m 11 #[.val (.int p1), .val (.int (0 : Int32)), .unset, .unset, .unset, .unset, .unset] [])) rfl (hb hby at_11)
    refine Go.st (T' := T1) (g' := (mkF m 14 #[.val (.int p1), .val (.int (0 : Int32)), .unset, .unset, .unset, .unset, .unset] [(.ref w_NEW)])) ?_ st1
    refine Go.st (T' := T1) (g' := (mkF m 15 #[.val (.int p1), .val (.int (0 : Int32)), .val (.ref w_NEW), .unset, .unset, .unset, .unset] [])) ?_ (fun _ k_ => XS.astoreN X1.here hx rfl (hb hby at_14) rfl rfl (l' := #[.val (.int p1), .val (.int (0 : Int32)), .val (.ref w_NEW), .unset, .unset, .unset, .unset]) rfl k_)
    refine Go.st (T' := T1) (g' := (mkF m 34 #[.val (.int p1), .val (.int (0 : Int32)), .val (.ref w_NEW), .unset, .unset, .unset, .unset] [])) ?_ (fun _ k_ => XS.goto X1.here hx rfl (pc0 := 15) (pc' := 34) rfl (hb hby at_15) (by decide) (by decide) k_)
    refine Go.st (T' := T1) (g' := (mkF m 35 #[.val (.int p1), .val (.int (0 : Int32)), .val (.ref w_NEW), .unset, .unset, .unset, .unset] [(.ref w_NEW)])) ?_ (fun _ k_ => XS.aloadN X1.here hx rfl (hb hby at_34) rfl rfl k_)
    refine Go.callV X1 hx hZ hown (hw _ (List.mem_of_getElem? (i := 4) rfl)) (hw _ (List.mem_of_getElem? (i := 5) rfl)) (hw _ (List.mem_of_getElem? (i := 7) rfl)) (hw _ (List.mem_of_getElem? (i := 6) rfl)) (hw _ (List.mem_of_getElem? (i := 2) rfl)) (hw _ (List.mem_of_getElem? (i := 8) rfl)) (by decide) A_NEW (rm1 l Z a0 hw [] w_NEW w_CANCEL Z.heap Z.heap.size Z0 S_CANCEL) e1 (by decide) (W := 0) (by decide) (by decide) (by decide) (g := (mkF m 35 #[.val (.int p1), .val (.int (0 : Int32)), .val (.ref w_NEW), .unset, .unset, .unset, .unset] [(.ref w_NEW)])) (rest := []) rfl (by rw [hml]; rfl) (lenOf pd___Z rfl) rfl (by show 2 * 0 + _ ≤ _; exact Nat.le_of_eq rfl) (hb hby at_35) ?_
    rintro v2 T2 L2 X2 ⟨rfl, N2, e2⟩
    have M2 := Fr.app N0 N2
    rw [show own_makes w_NEW w_CANCEL = (1 : Int32) from by rw [own_makes, if_neg (D1 : ¬ w_NEW = w_CANCEL)]]
    show Go p e below _ T2 (mkF m 38 #[.val (.int p1), .val (.int (0 : Int32)), .val (.ref w_NEW), .unset, .unset, .unset, .unset] [(.int (1 : Int32))])
    refine Go.st (T' := T2) (g' := (mkF m 39 #[.val (.int p1), .val (.int (0 : Int32)), .val (.ref w_NEW), .val (.int (1 : Int32)), .unset, .unset, .unset] [])) ?_ (fun _ k_ => XS.istoreN X2.here hx rfl (hb hby at_38) rfl (l' := #[.val (.int p1), .val (.int (0 : Int32)), .val (.ref w_NEW), .val (.int (1 : Int32)), .unset, .unset, .unset]) rfl k_)
    refine Go.st (T' := T2) (g' := (mkF m 40 #[.val (.int p1), .val (.int (0 : Int32)), .val (.ref w_NEW), .val (.int (1 : Int32)), .unset, .unset, .unset] [(.int (0 : Int32))])) ?_ (fun _ k_ => XS.iloadN X2.here hx rfl (hb hby at_39) rfl k_)
    refine Go.st (T' := T2) (g' := (mkF m 41 #[.val (.int p1), .val (.int (0 : Int32)), .val (.ref w_NEW), .val (.int (1 : Int32)), .unset, .unset, .unset] [(.int (1 : Int32)), (.int (0 : Int32))])) ?_ (fun _ k_ => XT.iconstV X2.here hx rfl (1 : Int32) (hb hby at_40) (by decide) k_)
    refine Go.st (T' := T2) (g' := (mkF m 44 #[.val (.int p1), .val (.int (0 : Int32)), .val (.ref w_NEW), .val (.int (1 : Int32)), .unset, .unset, .unset] [])) ?_ (fun _ k_ => XS.icmpNo X2.here hx rfl (hb hby at_41) rfl (by decide) k_)
    refine Go.st (T' := T2) (g' := (mkF m 45 #[.val (.int p1), .val (.int (0 : Int32)), .val (.ref w_NEW), .val (.int (1 : Int32)), .unset, .unset, .unset] [(.int (1 : Int32))])) ?_ (fun _ k_ => XT.iconstV X2.here hx rfl (1 : Int32) (hb hby at_44) (by decide) k_)
    refine Go.st (T' := T2) (g' := (mkF m 49 #[.val (.int p1), .val (.int (0 : Int32)), .val (.ref w_NEW), .val (.int (1 : Int32)), .unset, .unset, .unset] [(.int (1 : Int32))])) ?_ (fun _ k_ => XS.goto X2.here hx rfl (pc0 := 45) (pc' := 49) rfl (hb hby at_45) (by decide) (by decide) k_)
    refine Go.st (T' := T2) (g' := (mkF m 51 #[.val (.int p1), .val (.int (0 : Int32)), .val (.ref w_NEW), .val (.int (1 : Int32)), .val (.int (1 : Int32)), .unset, .unset] [])) ?_ (fun _ k_ => XS.istore X2.here hx rfl (hb hby at_49) rfl (l' := #[.val (.int p1), .val (.int (0 : Int32)), .val (.ref w_NEW), .val (.int (1 : Int32)), .val (.int (1 : Int32)), .unset, .unset]) rfl k_)
    refine Go.st (T' := T2) (g' := (mkF m 52 #[.val (.int p1), .val (.int (0 : Int32)), .val (.ref w_NEW), .val (.int (1 : Int32)), .val (.int (1 : Int32)), .unset, .unset] [(.ref w_NEW)])) ?_ (fun _ k_ => XS.aloadN X2.here hx rfl (hb hby at_51) rfl rfl k_)
    refine Go.callV X2 hx hZ hown (hw _ (List.mem_of_getElem? (i := 11) rfl)) (hw _ (List.mem_of_getElem? (i := 12) rfl)) (hw _ (List.mem_of_getElem? (i := 14) rfl)) (hw _ (List.mem_of_getElem? (i := 13) rfl)) (hw _ (List.mem_of_getElem? (i := 2) rfl)) (hw _ (List.mem_of_getElem? (i := 15) rfl)) (by decide) A_NEW (rm3 l Z a0 hw [] w_NEW s_NEW_label Z.heap Z.heap.size Z0 L_NEW_label) e2 (by decide) (W := 0) (by decide) (by decide) (by decide) (g := (mkF m 52 #[.val (.int p1), .val (.int (0 : Int32)), .val (.ref w_NEW), .val (.int (1 : Int32)), .val (.int (1 : Int32)), .unset, .unset] [(.ref w_NEW)])) (rest := []) rfl (by rw [hml]; rfl) (lenOf pd___Ljava_lang_String_ rfl) rfl (by show 2 * 0 + _ ≤ _; exact Nat.le_of_eq rfl) (hb hby at_52) ?_
    rintro v3 T3 L3 X3 ⟨rfl, N3, e3⟩
    have M3 := Fr.app M2 N3
    show Go p e below _ T3 (mkF m 55 #[.val (.int p1), .val (.int (0 : Int32)), .val (.ref w_NEW), .val (.int (1 : Int32)), .val (.int (1 : Int32)), .unset, .unset] [(.ref s_NEW_label)])
    obtain ⟨a4, T4, h4, k4, b4, kb4, X4, e4, E4, hS, hk, hZ, hown, A4, C4, V4, K4, -, -, I4, st4⟩ := ldcSV (vm0 := Z.vm) (text := "cancel") X3 hx hZ hown (hw _ (List.mem_of_getElem? (i := 18) rfl)) wS e3 hS hk M3 (fun _ _ q_ => q_) I0 (by decide) H28 HC (vs := [(.int (99 : Int32)), (.int (97 : Int32)), (.int (110 : Int32)), (.int (99 : Int32)), (.int (101 : Int32)), (.int (108 : Int32))]) (z := (6 : Int32)) ⟨by decide, by decide +kernel⟩ (by decide) (by decide) (g := (mkF m 55 #[.val (.int p1), .val (.int (0 : Int32)), .val (.ref w_NEW), .val (.int (1 : Int32)), .val (.int (1 : Int32)), .unset, .unset] [(.ref s_NEW_label)])) rfl (hb hby at_55) (n := 24) (by decide) (by decide) (by decide) (by decide)
    refine Go.st (T' := T4) (g' := (mkF m 57 #[.val (.int p1), .val (.int (0 : Int32)), .val (.ref w_NEW), .val (.int (1 : Int32)), .val (.int (1 : Int32)), .unset, .unset] [(.ref a4), (.ref s_NEW_label)])) ?_ st4
    refine Go.callV X4 hx hZ hown (hw _ (List.mem_of_getElem? (i := 26) rfl)) (hw _ (List.mem_of_getElem? (i := 27) rfl)) (hw _ (List.mem_of_getElem? (i := 29) rfl)) (hw _ (List.mem_of_getElem? (i := 28) rfl)) (hw _ (List.mem_of_getElem? (i := 19) rfl)) (hw _ (List.mem_of_getElem? (i := 30) rfl)) (by decide) (AS_NEW_label.ext E4) (re0 l Z a0 hw [] s_NEW_label a4 b_NEW_label b4 k_NEW_label kb4 zc h4 Z.heap.size (Nat.le_trans Z0 E4.1) (AS_NEW_label.ext E4) (C_NEW_label.ext E4) (V_NEW_label.ext E4) (K_NEW_label.ext E4) A4 C4 V4 K4 (SC.ext E4) hzc) e4 (by decide) (W := 0) (by decide) (by decide) (by decide) (g := (mkF m 57 #[.val (.int p1), .val (.int (0 : Int32)), .val (.ref w_NEW), .val (.int (1 : Int32)), .val (.int (1 : Int32)), .unset, .unset] [(.ref a4), (.ref s_NEW_label)])) (rest := []) rfl (by rw [hml]; rfl) (lenOf pd__Ljava_lang_Object__Z rfl) rfl (by show 2 * 0 + _ ≤ _; exact Nat.le_of_eq rfl) (hb hby at_57) ?_
    rintro v5 T5 L5 X5 ⟨rfl, N5, e5⟩
    have M5 := Fr.app M3 N5
    show Go p e below _ T5 (mkF m 60 #[.val (.int p1), .val (.int (0 : Int32)), .val (.ref w_NEW), .val (.int (1 : Int32)), .val (.int (1 : Int32)), .unset, .unset] [(.int (0 : Int32))])
    refine Go.st (T' := T5) (g' := (mkF m 63 #[.val (.int p1), .val (.int (0 : Int32)), .val (.ref w_NEW), .val (.int (1 : Int32)), .val (.int (1 : Int32)), .unset, .unset] [])) ?_ (fun _ k_ => XS.ifNo X5.here hx rfl (hb hby at_60) rfl (by decide) k_)
    refine Go.st (T' := T5) (g' := (mkF m 64 #[.val (.int p1), .val (.int (0 : Int32)), .val (.ref w_NEW), .val (.int (1 : Int32)), .val (.int (1 : Int32)), .unset, .unset] [(.int (1 : Int32))])) ?_ (fun _ k_ => XT.iconstV X5.here hx rfl (1 : Int32) (hb hby at_63) (by decide) k_)
    refine Go.st (T' := T5) (g' := (mkF m 68 #[.val (.int p1), .val (.int (0 : Int32)), .val (.ref w_NEW), .val (.int (1 : Int32)), .val (.int (1 : Int32)), .unset, .unset] [(.int (1 : Int32))])) ?_ (fun _ k_ => XS.goto X5.here hx rfl (pc0 := 64) (pc' := 68) rfl (hb hby at_64) (by decide) (by decide) k_)
    refine Go.st (T' := T5) (g' := (mkF m 70 #[.val (.int p1), .val (.int (0 : Int32)), .val (.ref w_NEW), .val (.int (1 : Int32)), .val (.int (1 : Int32)), .val (.int (1 : Int32)), .unset] [])) ?_ (fun _ k_ => XS.istore X5.here hx rfl (hb hby at_68) rfl (l' := #[.val (.int p1), .val (.int (0 : Int32)), .val (.ref w_NEW), .val (.int (1 : Int32)), .val (.int (1 : Int32)), .val (.int (1 : Int32)), .unset]) rfl k_)
    refine Go.st (T' := T5) (g' := (mkF m 71 #[.val (.int p1), .val (.int (0 : Int32)), .val (.ref w_NEW), .val (.int (1 : Int32)), .val (.int (1 : Int32)), .val (.int (1 : Int32)), .unset] [(.ref w_NEW)])) ?_ (fun _ k_ => XS.aloadN X5.here hx rfl (hb hby at_70) rfl rfl k_)
    refine Go.callV X5 hx hZ hown (hw _ (List.mem_of_getElem? (i := 40) rfl)) (hw _ (List.mem_of_getElem? (i := 41) rfl)) (hw _ (List.mem_of_getElem? (i := 43) rfl)) (hw _ (List.mem_of_getElem? (i := 42) rfl)) (hw _ (List.mem_of_getElem? (i := 2) rfl)) (hw _ (List.mem_of_getElem? (i := 44) rfl)) (by decide) (A_NEW.ext E4) (rm4 l Z a0 hw [] w_NEW s_NEW_fixValue h4 Z.heap.size (Nat.le_trans Z0 E4.1) (L_NEW_fixValue.ext E4)) e5 (by decide) (W := 0) (by decide) (by decide) (by decide) (g := (mkF m 71 #[.val (.int p1), .val (.int (0 : Int32)), .val (.ref w_NEW), .val (.int (1 : Int32)), .val (.int (1 : Int32)), .val (.int (1 : Int32)), .unset] [(.ref w_NEW)])) (rest := []) rfl (by rw [hml]; rfl) (lenOf pd___Ljava_lang_String_ rfl) rfl (by show 2 * 0 + _ ≤ _; exact Nat.le_of_eq rfl) (hb hby at_71) ?_
    rintro v6 T6 L6 X6 ⟨rfl, N6, e6⟩
    have M6 := Fr.app M5 N6
    show Go p e below _ T6 (mkF m 74 #[.val (.int p1), .val (.int (0 : Int32)), .val (.ref w_NEW), .val (.int (1 : Int32)), .val (.int (1 : Int32)), .val (.int (1 : Int32)), .unset] [(.ref s_NEW_fixValue)])
    obtain ⟨a7, T7, h7, k7, b7, kb7, X7, e7, E7, hS, hk, hZ, hown, A7, C7, V7, K7, -, -, I7, st7⟩ := ldcSV (vm0 := T4.vm) (text := "1") X6 hx hZ hown (hw _ (List.mem_of_getElem? (i := 47) rfl)) wS e6 hS hk M6 (fun _ _ q_ => q_) I4 (by decide) H39 HC (vs := [(.int (49 : Int32))]) (z := (1 : Int32)) ⟨by decide, by decide +kernel⟩ (by decide) (by decide) (g := (mkF m 74 #[.val (.int p1), .val (.int (0 : Int32)), .val (.ref w_NEW), .val (.int (1 : Int32)), .val (.int (1 : Int32)), .val (.int (1 : Int32)), .unset] [(.ref s_NEW_fixValue)])) rfl (hb hby at_74) (n := 4) (by decide) (by decide) (by decide) (by decide)
    refine Go.st (T' := T7) (g' := (mkF m 76 #[.val (.int p1), .val (.int (0 : Int32)), .val (.ref w_NEW), .val (.int (1 : Int32)), .val (.int (1 : Int32)), .val (.int (1 : Int32)), .unset] [(.ref a7), (.ref s_NEW_fixValue)])) ?_ st7
    refine Go.callV X7 hx hZ hown (hw _ (List.mem_of_getElem? (i := 26) rfl)) (hw _ (List.mem_of_getElem? (i := 27) rfl)) (hw _ (List.mem_of_getElem? (i := 29) rfl)) (hw _ (List.mem_of_getElem? (i := 28) rfl)) (hw _ (List.mem_of_getElem? (i := 19) rfl)) (hw _ (List.mem_of_getElem? (i := 30) rfl)) (by decide) ((AS_NEW_fixValue.ext E4).ext E7) (re1 l Z a0 hw [] s_NEW_fixValue a7 b_NEW_fixValue b7 k_NEW_fixValue kb7 zc h7 Z.heap.size (Nat.le_trans (Nat.le_trans Z0 E4.1) E7.1) ((AS_NEW_fixValue.ext E4).ext E7) ((C_NEW_fixValue.ext E4).ext E7) ((V_NEW_fixValue.ext E4).ext E7) ((K_NEW_fixValue.ext E4).ext E7) A7 C7 V7 K7 ((SC.ext E4).ext E7) hzc) e7 (by decide) (W := 0) (by decide) (by decide) (by decide) (g := (mkF m 76 #[.val (.int p1), .val (.int (0 : Int32)), .val (.ref w_NEW), .val (.int (1 : Int32)), .val (.int (1 : Int32)), .val (.int (1 : Int32)), .unset] [(.ref a7), (.ref s_NEW_fixValue)])) (rest := []) rfl (by rw [hml]; rfl) (lenOf pd__Ljava_lang_Object__Z rfl) rfl (by show 2 * 0 + _ ≤ _; exact Nat.le_of_eq rfl) (hb hby at_76) ?_
    rintro v8 T8 L8 X8 ⟨rfl, N8, e8⟩
    have M8 := Fr.app M6 N8
    show Go p e below _ T8 (mkF m 79 #[.val (.int p1), .val (.int (0 : Int32)), .val (.ref w_NEW), .val (.int (1 : Int32)), .val (.int (1 : Int32)), .val (.int (1 : Int32)), .unset] [(.int (0 : Int32))])
    refine Go.st (T' := T8) (g' := (mkF m 82 #[.val (.int p1), .val (.int (0 : Int32)), .val (.ref w_NEW), .val (.int (1 : Int32)), .val (.int (1 : Int32)), .val (.int (1 : Int32)), .unset] [])) ?_ (fun _ k_ => XS.ifNo X8.here hx rfl (hb hby at_79) rfl (by decide) k_)
    refine Go.st (T' := T8) (g' := (mkF m 83 #[.val (.int p1), .val (.int (0 : Int32)), .val (.ref w_NEW), .val (.int (1 : Int32)), .val (.int (1 : Int32)), .val (.int (1 : Int32)), .unset] [(.int (1 : Int32))])) ?_ (fun _ k_ => XT.iconstV X8.here hx rfl (1 : Int32) (hb hby at_82) (by decide) k_)
    refine Go.st (T' := T8) (g' := (mkF m 87 #[.val (.int p1), .val (.int (0 : Int32)), .val (.ref w_NEW), .val (.int (1 : Int32)), .val (.int (1 : Int32)), .val (.int (1 : Int32)), .unset] [(.int (1 : Int32))])) ?_ (fun _ k_ => XS.goto X8.here hx rfl (pc0 := 83) (pc' := 87) rfl (hb hby at_83) (by decide) (by decide) k_)
    refine Go.st (T' := T8) (g' := (mkF m 89 #[.val (.int p1), .val (.int (0 : Int32)), .val (.ref w_NEW), .val (.int (1 : Int32)), .val (.int (1 : Int32)), .val (.int (1 : Int32)), .val (.int (1 : Int32))] [])) ?_ (fun _ k_ => XS.istore X8.here hx rfl (hb hby at_87) rfl (l' := #[.val (.int p1), .val (.int (0 : Int32)), .val (.ref w_NEW), .val (.int (1 : Int32)), .val (.int (1 : Int32)), .val (.int (1 : Int32)), .val (.int (1 : Int32))]) rfl k_)
    refine Go.st (T' := T8) (g' := (mkF m 90 #[.val (.int p1), .val (.int (0 : Int32)), .val (.ref w_NEW), .val (.int (1 : Int32)), .val (.int (1 : Int32)), .val (.int (1 : Int32)), .val (.int (1 : Int32))] [(.int (1 : Int32))])) ?_ (fun _ k_ => XS.iloadN X8.here hx rfl (hb hby at_89) rfl k_)
    refine Go.st (T' := T8) (g' := (mkF m 92 #[.val (.int p1), .val (.int (0 : Int32)), .val (.ref w_NEW), .val (.int (1 : Int32)), .val (.int (1 : Int32)), .val (.int (1 : Int32)), .val (.int (1 : Int32))] [(.int (1 : Int32)), (.int (1 : Int32))])) ?_ (fun _ k_ => XS.iload X8.here hx rfl (hb hby at_90) rfl k_)
    refine Go.st (T' := T8) (g' := (mkF m 95 #[.val (.int p1), .val (.int (0 : Int32)), .val (.ref w_NEW), .val (.int (1 : Int32)), .val (.int (1 : Int32)), .val (.int (1 : Int32)), .val (.int (1 : Int32))] [])) ?_ (fun _ k_ => XS.icmpNo X8.here hx rfl (hb hby at_92) rfl (by decide) k_)
    refine Go.st (T' := T8) (g' := (mkF m 96 #[.val (.int p1), .val (.int (0 : Int32)), .val (.ref w_NEW), .val (.int (1 : Int32)), .val (.int (1 : Int32)), .val (.int (1 : Int32)), .val (.int (1 : Int32))] [(.int (1 : Int32))])) ?_ (fun _ k_ => XS.iloadN X8.here hx rfl (hb hby at_95) rfl k_)
    refine Go.st (T' := T8) (g' := (mkF m 98 #[.val (.int p1), .val (.int (0 : Int32)), .val (.ref w_NEW), .val (.int (1 : Int32)), .val (.int (1 : Int32)), .val (.int (1 : Int32)), .val (.int (1 : Int32))] [(.int (1 : Int32)), (.int (1 : Int32))])) ?_ (fun _ k_ => XS.iload X8.here hx rfl (hb hby at_96) rfl k_)
    refine Go.st (T' := T8) (g' := (mkF m 101 #[.val (.int p1), .val (.int (0 : Int32)), .val (.ref w_NEW), .val (.int (1 : Int32)), .val (.int (1 : Int32)), .val (.int (1 : Int32)), .val (.int (1 : Int32))] [])) ?_ (fun _ k_ => XS.icmpNo X8.here hx rfl (hb hby at_98) rfl (by decide) k_)
    refine Go.st (T' := T8) (g' := (mkF m 102 #[.val (.int p1), .val (.int (0 : Int32)), .val (.ref w_NEW), .val (.int (1 : Int32)), .val (.int (1 : Int32)), .val (.int (1 : Int32)), .val (.int (1 : Int32))] [(.int (1 : Int32))])) ?_ (fun _ k_ => XS.iloadN X8.here hx rfl (hb hby at_101) rfl k_)
    refine Go.st (T' := T8) (g' := (mkF m 104 #[.val (.int p1), .val (.int (0 : Int32)), .val (.ref w_NEW), .val (.int (1 : Int32)), .val (.int (1 : Int32)), .val (.int (1 : Int32)), .val (.int (1 : Int32))] [(.int (1 : Int32)), (.int (1 : Int32))])) ?_ (fun _ k_ => XS.iload X8.here hx rfl (hb hby at_102) rfl k_)
    refine Go.st (T' := T8) (g' := (mkF m 107 #[.val (.int p1), .val (.int (0 : Int32)), .val (.ref w_NEW), .val (.int (1 : Int32)), .val (.int (1 : Int32)), .val (.int (1 : Int32)), .val (.int (1 : Int32))] [])) ?_ (fun _ k_ => XS.icmpNo X8.here hx rfl (hb hby at_104) rfl (by decide) k_)
    refine Go.st (T' := T8) (g' := (mkF m 108 #[.val (.int p1), .val (.int (0 : Int32)), .val (.ref w_NEW), .val (.int (1 : Int32)), .val (.int (1 : Int32)), .val (.int (1 : Int32)), .val (.int (1 : Int32))] [(.int (1 : Int32))])) ?_ (fun _ k_ => XS.iloadN X8.here hx rfl (hb hby at_107) rfl k_)
    refine Go.st (T' := T8) (g' := (mkF m 118 #[.val (.int p1), .val (.int (0 : Int32)), .val (.ref w_NEW), .val (.int (1 : Int32)), .val (.int (1 : Int32)), .val (.int (1 : Int32)), .val (.int (1 : Int32))] [])) ?_ (fun _ k_ => XS.ifYes X8.here hx rfl (pc0 := 108) (pc' := 118) rfl (hb hby at_108) rfl (by decide) (by decide) (by decide) k_)
    refine Go.st (T' := T8) (g' := (mkF m 119 #[.val (.int p1), .val (.int (0 : Int32)), .val (.ref w_NEW), .val (.int (1 : Int32)), .val (.int (1 : Int32)), .val (.int (1 : Int32)), .val (.int (1 : Int32))] [(.int (1 : Int32))])) ?_ (fun _ k_ => XT.iconstV X8.here hx rfl (1 : Int32) (hb hby at_118) (by decide) k_)
    refine Go.st (T' := T8) (g' := (mkF m 123 #[.val (.int p1), .val (.int (0 : Int32)), .val (.ref w_NEW), .val (.int (1 : Int32)), .val (.int (1 : Int32)), .val (.int (1 : Int32)), .val (.int (1 : Int32))] [(.int (1 : Int32))])) ?_ (fun _ k_ => XS.goto X8.here hx rfl (pc0 := 119) (pc' := 123) rfl (hb hby at_119) (by decide) (by decide) k_)
    exact Go.retVW (t := .boolean) X8 hx hS (by rw [e8]; exact hk) hret hlk (by decide) (by decide) rfl (Or.inl ⟨rfl, Or.inr (Or.inl rfl), _, rfl⟩) (hb hby at_123) ⟨rfl, M8⟩
  · rw [hkk]
    refine Go.st (T' := s₁) (g' := (mkF m 7 #[.val (.int p1), .val (.int (1 : Int32)), .unset, .unset, .unset, .unset, .unset] [])) ?_ (fun _ k_ => XS.istoreN X0.here hx rfl (hb hby at_6) rfl (l' := #[.val (.int p1), .val (.int (1 : Int32)), .unset, .unset, .unset, .unset, .unset]) rfl k_)
    refine Go.st (T' := s₁) (g' := (mkF m 8 #[.val (.int p1), .val (.int (1 : Int32)), .unset, .unset, .unset, .unset, .unset] [(.int (1 : Int32))])) ?_ (fun _ k_ => XS.iloadN X0.here hx rfl (hb hby at_7) rfl k_)
    refine Go.st (T' := s₁) (g' := (mkF m 18 #[.val (.int p1), .val (.int (1 : Int32)), .unset, .unset, .unset, .unset, .unset] [])) ?_ (fun _ k_ => XS.ifYes X0.here hx rfl (pc0 := 8) (pc' := 18) rfl (hb hby at_8) rfl (by decide) (by decide) (by decide) k_)
    refine Go.st (T' := s₁) (g' := (mkF m 19 #[.val (.int p1), .val (.int (1 : Int32)), .unset, .unset, .unset, .unset, .unset] [(.int (1 : Int32))])) ?_ (fun _ k_ => XS.iloadN X0.here hx rfl (hb hby at_18) rfl k_)
    refine Go.st (T' := s₁) (g' := (mkF m 20 #[.val (.int p1), .val (.int (1 : Int32)), .unset, .unset, .unset, .unset, .unset] [(.int (1 : Int32)), (.int (1 : Int32))])) ?_ (fun _ k_ => XT.iconstV X0.here hx rfl (1 : Int32) (hb hby at_19) (by decide) k_)
    refine Go.st (T' := s₁) (g' := (mkF m 23 #[.val (.int p1), .val (.int (1 : Int32)), .unset, .unset, .unset, .unset, .unset] [])) ?_ (fun _ k_ => XS.icmpNo X0.here hx rfl (hb hby at_20) rfl (by decide) k_)
    obtain ⟨T9, X9, e9, st9⟩ := getS2 X0 hx hZ hown (host := "") (Or.inl (hw _ (List.mem_of_getElem? (i := 50) rfl))) Via.refl e0 S_CANCEL (g := (mkF m 23 #[.val (.int p1), .val (.int (1 : Int32)), .unset, .unset, .unset, .unset, .unset] [])) rfl (hb hby at_23)
    refine Go.st (T' := T9) (g' := (mkF m 26 #[.val (.int p1), .val (.int (1 : Int32)), .unset, .unset, .unset, .unset, .unset] [(.ref w_CANCEL)])) ?_ st9
    refine Go.st (T' := T9) (g' := (mkF m 27 #[.val (.int p1), .val (.int (1 : Int32)), .val (.ref w_CANCEL), .unset, .unset, .unset, .unset] [])) ?_ (fun _ k_ => XS.astoreN X9.here hx rfl (hb hby at_26) rfl rfl (l' := #[.val (.int p1), .val (.int (1 : Int32)), .val (.ref w_CANCEL), .unset, .unset, .unset, .unset]) rfl k_)
    refine Go.st (T' := T9) (g' := (mkF m 34 #[.val (.int p1), .val (.int (1 : Int32)), .val (.ref w_CANCEL), .unset, .unset, .unset, .unset] [])) ?_ (fun _ k_ => XS.goto X9.here hx rfl (pc0 := 27) (pc' := 34) rfl (hb hby at_27) (by decide) (by decide) k_)
    refine Go.st (T' := T9) (g' := (mkF m 35 #[.val (.int p1), .val (.int (1 : Int32)), .val (.ref w_CANCEL), .unset, .unset, .unset, .unset] [(.ref w_CANCEL)])) ?_ (fun _ k_ => XS.aloadN X9.here hx rfl (hb hby at_34) rfl rfl k_)
    refine Go.callV X9 hx hZ hown (hw _ (List.mem_of_getElem? (i := 4) rfl)) (hw _ (List.mem_of_getElem? (i := 5) rfl)) (hw _ (List.mem_of_getElem? (i := 7) rfl)) (hw _ (List.mem_of_getElem? (i := 6) rfl)) (hw _ (List.mem_of_getElem? (i := 2) rfl)) (hw _ (List.mem_of_getElem? (i := 8) rfl)) (by decide) A_CANCEL (rm1 l Z a0 hw [] w_CANCEL w_CANCEL Z.heap Z.heap.size Z0 S_CANCEL) e9 (by decide) (W := 0) (by decide) (by decide) (by decide) (g := (mkF m 35 #[.val (.int p1), .val (.int (1 : Int32)), .val (.ref w_CANCEL), .unset, .unset, .unset, .unset] [(.ref w_CANCEL)])) (rest := []) rfl (by rw [hml]; rfl) (lenOf pd___Z rfl) rfl (by show 2 * 0 + _ ≤ _; exact Nat.le_of_eq rfl) (hb hby at_35) ?_
    rintro v10 T10 L10 X10 ⟨rfl, N10, e10⟩
    have M10 := Fr.app N0 N10
    rw [show own_makes w_CANCEL w_CANCEL = (0 : Int32) from by rw [own_makes, if_pos (rfl : w_CANCEL = w_CANCEL)]]
    show Go p e below _ T10 (mkF m 38 #[.val (.int p1), .val (.int (1 : Int32)), .val (.ref w_CANCEL), .unset, .unset, .unset, .unset] [(.int (0 : Int32))])
    refine Go.st (T' := T10) (g' := (mkF m 39 #[.val (.int p1), .val (.int (1 : Int32)), .val (.ref w_CANCEL), .val (.int (0 : Int32)), .unset, .unset, .unset] [])) ?_ (fun _ k_ => XS.istoreN X10.here hx rfl (hb hby at_38) rfl (l' := #[.val (.int p1), .val (.int (1 : Int32)), .val (.ref w_CANCEL), .val (.int (0 : Int32)), .unset, .unset, .unset]) rfl k_)
    refine Go.st (T' := T10) (g' := (mkF m 40 #[.val (.int p1), .val (.int (1 : Int32)), .val (.ref w_CANCEL), .val (.int (0 : Int32)), .unset, .unset, .unset] [(.int (1 : Int32))])) ?_ (fun _ k_ => XS.iloadN X10.here hx rfl (hb hby at_39) rfl k_)
    refine Go.st (T' := T10) (g' := (mkF m 41 #[.val (.int p1), .val (.int (1 : Int32)), .val (.ref w_CANCEL), .val (.int (0 : Int32)), .unset, .unset, .unset] [(.int (1 : Int32)), (.int (1 : Int32))])) ?_ (fun _ k_ => XT.iconstV X10.here hx rfl (1 : Int32) (hb hby at_40) (by decide) k_)
    refine Go.st (T' := T10) (g' := (mkF m 48 #[.val (.int p1), .val (.int (1 : Int32)), .val (.ref w_CANCEL), .val (.int (0 : Int32)), .unset, .unset, .unset] [])) ?_ (fun _ k_ => XS.icmpYes X10.here hx rfl (pc0 := 41) (pc' := 48) rfl (hb hby at_41) rfl (by decide) (by decide) (by decide) k_)
    refine Go.st (T' := T10) (g' := (mkF m 49 #[.val (.int p1), .val (.int (1 : Int32)), .val (.ref w_CANCEL), .val (.int (0 : Int32)), .unset, .unset, .unset] [(.int (0 : Int32))])) ?_ (fun _ k_ => XT.iconstV X10.here hx rfl (0 : Int32) (hb hby at_48) (by decide) k_)
    refine Go.st (T' := T10) (g' := (mkF m 51 #[.val (.int p1), .val (.int (1 : Int32)), .val (.ref w_CANCEL), .val (.int (0 : Int32)), .val (.int (0 : Int32)), .unset, .unset] [])) ?_ (fun _ k_ => XS.istore X10.here hx rfl (hb hby at_49) rfl (l' := #[.val (.int p1), .val (.int (1 : Int32)), .val (.ref w_CANCEL), .val (.int (0 : Int32)), .val (.int (0 : Int32)), .unset, .unset]) rfl k_)
    refine Go.st (T' := T10) (g' := (mkF m 52 #[.val (.int p1), .val (.int (1 : Int32)), .val (.ref w_CANCEL), .val (.int (0 : Int32)), .val (.int (0 : Int32)), .unset, .unset] [(.ref w_CANCEL)])) ?_ (fun _ k_ => XS.aloadN X10.here hx rfl (hb hby at_51) rfl rfl k_)
    refine Go.callV X10 hx hZ hown (hw _ (List.mem_of_getElem? (i := 11) rfl)) (hw _ (List.mem_of_getElem? (i := 12) rfl)) (hw _ (List.mem_of_getElem? (i := 14) rfl)) (hw _ (List.mem_of_getElem? (i := 13) rfl)) (hw _ (List.mem_of_getElem? (i := 2) rfl)) (hw _ (List.mem_of_getElem? (i := 15) rfl)) (by decide) A_CANCEL (rm3 l Z a0 hw [] w_CANCEL s_CANCEL_label Z.heap Z.heap.size Z0 L_CANCEL_label) e10 (by decide) (W := 0) (by decide) (by decide) (by decide) (g := (mkF m 52 #[.val (.int p1), .val (.int (1 : Int32)), .val (.ref w_CANCEL), .val (.int (0 : Int32)), .val (.int (0 : Int32)), .unset, .unset] [(.ref w_CANCEL)])) (rest := []) rfl (by rw [hml]; rfl) (lenOf pd___Ljava_lang_String_ rfl) rfl (by show 2 * 0 + _ ≤ _; exact Nat.le_of_eq rfl) (hb hby at_52) ?_
    rintro v11 T11 L11 X11 ⟨rfl, N11, e11⟩
    have M11 := Fr.app M10 N11
    show Go p e below _ T11 (mkF m 55 #[.val (.int p1), .val (.int (1 : Int32)), .val (.ref w_CANCEL), .val (.int (0 : Int32)), .val (.int (0 : Int32)), .unset, .unset] [(.ref s_CANCEL_label)])
    obtain ⟨a12, T12, h12, k12, b12, kb12, X12, e12, E12, hS, hk, hZ, hown, A12, C12, V12, K12, -, -, I12, st12⟩ := ldcSV (vm0 := Z.vm) (text := "cancel") X11 hx hZ hown (hw _ (List.mem_of_getElem? (i := 18) rfl)) wS e11 hS hk M11 (fun _ _ q_ => q_) I0 (by decide) H28 HC (vs := [(.int (99 : Int32)), (.int (97 : Int32)), (.int (110 : Int32)), (.int (99 : Int32)), (.int (101 : Int32)), (.int (108 : Int32))]) (z := (6 : Int32)) ⟨by decide, by decide +kernel⟩ (by decide) (by decide) (g := (mkF m 55 #[.val (.int p1), .val (.int (1 : Int32)), .val (.ref w_CANCEL), .val (.int (0 : Int32)), .val (.int (0 : Int32)), .unset, .unset] [(.ref s_CANCEL_label)])) rfl (hb hby at_55) (n := 24) (by decide) (by decide) (by decide) (by decide)
    refine Go.st (T' := T12) (g' := (mkF m 57 #[.val (.int p1), .val (.int (1 : Int32)), .val (.ref w_CANCEL), .val (.int (0 : Int32)), .val (.int (0 : Int32)), .unset, .unset] [(.ref a12), (.ref s_CANCEL_label)])) ?_ st12
    refine Go.callV X12 hx hZ hown (hw _ (List.mem_of_getElem? (i := 26) rfl)) (hw _ (List.mem_of_getElem? (i := 27) rfl)) (hw _ (List.mem_of_getElem? (i := 29) rfl)) (hw _ (List.mem_of_getElem? (i := 28) rfl)) (hw _ (List.mem_of_getElem? (i := 19) rfl)) (hw _ (List.mem_of_getElem? (i := 30) rfl)) (by decide) (AS_CANCEL_label.ext E12) (re2 l Z a0 hw [] s_CANCEL_label a12 b_CANCEL_label b12 k_CANCEL_label kb12 zc h12 Z.heap.size (Nat.le_trans Z0 E12.1) (AS_CANCEL_label.ext E12) (C_CANCEL_label.ext E12) (V_CANCEL_label.ext E12) (K_CANCEL_label.ext E12) A12 C12 V12 K12 (SC.ext E12) hzc) e12 (by decide) (W := 0) (by decide) (by decide) (by decide) (g := (mkF m 57 #[.val (.int p1), .val (.int (1 : Int32)), .val (.ref w_CANCEL), .val (.int (0 : Int32)), .val (.int (0 : Int32)), .unset, .unset] [(.ref a12), (.ref s_CANCEL_label)])) (rest := []) rfl (by rw [hml]; rfl) (lenOf pd__Ljava_lang_Object__Z rfl) rfl (by show 2 * 0 + _ ≤ _; exact Nat.le_of_eq rfl) (hb hby at_57) ?_
    rintro v13 T13 L13 X13 ⟨rfl, N13, e13⟩
    have M13 := Fr.app M11 N13
    show Go p e below _ T13 (mkF m 60 #[.val (.int p1), .val (.int (1 : Int32)), .val (.ref w_CANCEL), .val (.int (0 : Int32)), .val (.int (0 : Int32)), .unset, .unset] [(.int (1 : Int32))])
    refine Go.st (T' := T13) (g' := (mkF m 67 #[.val (.int p1), .val (.int (1 : Int32)), .val (.ref w_CANCEL), .val (.int (0 : Int32)), .val (.int (0 : Int32)), .unset, .unset] [])) ?_ (fun _ k_ => XS.ifYes X13.here hx rfl (pc0 := 60) (pc' := 67) rfl (hb hby at_60) rfl (by decide) (by decide) (by decide) k_)
    refine Go.st (T' := T13) (g' := (mkF m 68 #[.val (.int p1), .val (.int (1 : Int32)), .val (.ref w_CANCEL), .val (.int (0 : Int32)), .val (.int (0 : Int32)), .unset, .unset] [(.int (0 : Int32))])) ?_ (fun _ k_ => XT.iconstV X13.here hx rfl (0 : Int32) (hb hby at_67) (by decide) k_)
    refine Go.st (T' := T13) (g' := (mkF m 70 #[.val (.int p1), .val (.int (1 : Int32)), .val (.ref w_CANCEL), .val (.int (0 : Int32)), .val (.int (0 : Int32)), .val (.int (0 : Int32)), .unset] [])) ?_ (fun _ k_ => XS.istore X13.here hx rfl (hb hby at_68) rfl (l' := #[.val (.int p1), .val (.int (1 : Int32)), .val (.ref w_CANCEL), .val (.int (0 : Int32)), .val (.int (0 : Int32)), .val (.int (0 : Int32)), .unset]) rfl k_)
    refine Go.st (T' := T13) (g' := (mkF m 71 #[.val (.int p1), .val (.int (1 : Int32)), .val (.ref w_CANCEL), .val (.int (0 : Int32)), .val (.int (0 : Int32)), .val (.int (0 : Int32)), .unset] [(.ref w_CANCEL)])) ?_ (fun _ k_ => XS.aloadN X13.here hx rfl (hb hby at_70) rfl rfl k_)
    refine Go.callV X13 hx hZ hown (hw _ (List.mem_of_getElem? (i := 40) rfl)) (hw _ (List.mem_of_getElem? (i := 41) rfl)) (hw _ (List.mem_of_getElem? (i := 43) rfl)) (hw _ (List.mem_of_getElem? (i := 42) rfl)) (hw _ (List.mem_of_getElem? (i := 2) rfl)) (hw _ (List.mem_of_getElem? (i := 44) rfl)) (by decide) (A_CANCEL.ext E12) (rm4 l Z a0 hw [] w_CANCEL s_CANCEL_fixValue h12 Z.heap.size (Nat.le_trans Z0 E12.1) (L_CANCEL_fixValue.ext E12)) e13 (by decide) (W := 0) (by decide) (by decide) (by decide) (g := (mkF m 71 #[.val (.int p1), .val (.int (1 : Int32)), .val (.ref w_CANCEL), .val (.int (0 : Int32)), .val (.int (0 : Int32)), .val (.int (0 : Int32)), .unset] [(.ref w_CANCEL)])) (rest := []) rfl (by rw [hml]; rfl) (lenOf pd___Ljava_lang_String_ rfl) rfl (by show 2 * 0 + _ ≤ _; exact Nat.le_of_eq rfl) (hb hby at_71) ?_
    rintro v14 T14 L14 X14 ⟨rfl, N14, e14⟩
    have M14 := Fr.app M13 N14
    show Go p e below _ T14 (mkF m 74 #[.val (.int p1), .val (.int (1 : Int32)), .val (.ref w_CANCEL), .val (.int (0 : Int32)), .val (.int (0 : Int32)), .val (.int (0 : Int32)), .unset] [(.ref s_CANCEL_fixValue)])
    obtain ⟨a15, T15, h15, k15, b15, kb15, X15, e15, E15, hS, hk, hZ, hown, A15, C15, V15, K15, -, -, I15, st15⟩ := ldcSV (vm0 := T12.vm) (text := "1") X14 hx hZ hown (hw _ (List.mem_of_getElem? (i := 47) rfl)) wS e14 hS hk M14 (fun _ _ q_ => q_) I12 (by decide) H39 HC (vs := [(.int (49 : Int32))]) (z := (1 : Int32)) ⟨by decide, by decide +kernel⟩ (by decide) (by decide) (g := (mkF m 74 #[.val (.int p1), .val (.int (1 : Int32)), .val (.ref w_CANCEL), .val (.int (0 : Int32)), .val (.int (0 : Int32)), .val (.int (0 : Int32)), .unset] [(.ref s_CANCEL_fixValue)])) rfl (hb hby at_74) (n := 4) (by decide) (by decide) (by decide) (by decide)
    refine Go.st (T' := T15) (g' := (mkF m 76 #[.val (.int p1), .val (.int (1 : Int32)), .val (.ref w_CANCEL), .val (.int (0 : Int32)), .val (.int (0 : Int32)), .val (.int (0 : Int32)), .unset] [(.ref a15), (.ref s_CANCEL_fixValue)])) ?_ st15
    refine Go.callV X15 hx hZ hown (hw _ (List.mem_of_getElem? (i := 26) rfl)) (hw _ (List.mem_of_getElem? (i := 27) rfl)) (hw _ (List.mem_of_getElem? (i := 29) rfl)) (hw _ (List.mem_of_getElem? (i := 28) rfl)) (hw _ (List.mem_of_getElem? (i := 19) rfl)) (hw _ (List.mem_of_getElem? (i := 30) rfl)) (by decide) ((AS_CANCEL_fixValue.ext E12).ext E15) (re3 l Z a0 hw [] s_CANCEL_fixValue a15 b_CANCEL_fixValue b15 k_CANCEL_fixValue kb15 zc h15 Z.heap.size (Nat.le_trans (Nat.le_trans Z0 E12.1) E15.1) ((AS_CANCEL_fixValue.ext E12).ext E15) ((C_CANCEL_fixValue.ext E12).ext E15) ((V_CANCEL_fixValue.ext E12).ext E15) ((K_CANCEL_fixValue.ext E12).ext E15) A15 C15 V15 K15 ((SC.ext E12).ext E15) hzc) e15 (by decide) (W := 0) (by decide) (by decide) (by decide) (g := (mkF m 76 #[.val (.int p1), .val (.int (1 : Int32)), .val (.ref w_CANCEL), .val (.int (0 : Int32)), .val (.int (0 : Int32)), .val (.int (0 : Int32)), .unset] [(.ref a15), (.ref s_CANCEL_fixValue)])) (rest := []) rfl (by rw [hml]; rfl) (lenOf pd__Ljava_lang_Object__Z rfl) rfl (by show 2 * 0 + _ ≤ _; exact Nat.le_of_eq rfl) (hb hby at_76) ?_
    rintro v16 T16 L16 X16 ⟨rfl, N16, e16⟩
    have M16 := Fr.app M14 N16
    show Go p e below _ T16 (mkF m 79 #[.val (.int p1), .val (.int (1 : Int32)), .val (.ref w_CANCEL), .val (.int (0 : Int32)), .val (.int (0 : Int32)), .val (.int (0 : Int32)), .unset] [(.int (1 : Int32))])
    refine Go.st (T' := T16) (g' := (mkF m 86 #[.val (.int p1), .val (.int (1 : Int32)), .val (.ref w_CANCEL), .val (.int (0 : Int32)), .val (.int (0 : Int32)), .val (.int (0 : Int32)), .unset] [])) ?_ (fun _ k_ => XS.ifYes X16.here hx rfl (pc0 := 79) (pc' := 86) rfl (hb hby at_79) rfl (by decide) (by decide) (by decide) k_)
    refine Go.st (T' := T16) (g' := (mkF m 87 #[.val (.int p1), .val (.int (1 : Int32)), .val (.ref w_CANCEL), .val (.int (0 : Int32)), .val (.int (0 : Int32)), .val (.int (0 : Int32)), .unset] [(.int (0 : Int32))])) ?_ (fun _ k_ => XT.iconstV X16.here hx rfl (0 : Int32) (hb hby at_86) (by decide) k_)
    refine Go.st (T' := T16) (g' := (mkF m 89 #[.val (.int p1), .val (.int (1 : Int32)), .val (.ref w_CANCEL), .val (.int (0 : Int32)), .val (.int (0 : Int32)), .val (.int (0 : Int32)), .val (.int (0 : Int32))] [])) ?_ (fun _ k_ => XS.istore X16.here hx rfl (hb hby at_87) rfl (l' := #[.val (.int p1), .val (.int (1 : Int32)), .val (.ref w_CANCEL), .val (.int (0 : Int32)), .val (.int (0 : Int32)), .val (.int (0 : Int32)), .val (.int (0 : Int32))]) rfl k_)
    refine Go.st (T' := T16) (g' := (mkF m 90 #[.val (.int p1), .val (.int (1 : Int32)), .val (.ref w_CANCEL), .val (.int (0 : Int32)), .val (.int (0 : Int32)), .val (.int (0 : Int32)), .val (.int (0 : Int32))] [(.int (0 : Int32))])) ?_ (fun _ k_ => XS.iloadN X16.here hx rfl (hb hby at_89) rfl k_)
    refine Go.st (T' := T16) (g' := (mkF m 92 #[.val (.int p1), .val (.int (1 : Int32)), .val (.ref w_CANCEL), .val (.int (0 : Int32)), .val (.int (0 : Int32)), .val (.int (0 : Int32)), .val (.int (0 : Int32))] [(.int (0 : Int32)), (.int (0 : Int32))])) ?_ (fun _ k_ => XS.iload X16.here hx rfl (hb hby at_90) rfl k_)
    refine Go.st (T' := T16) (g' := (mkF m 95 #[.val (.int p1), .val (.int (1 : Int32)), .val (.ref w_CANCEL), .val (.int (0 : Int32)), .val (.int (0 : Int32)), .val (.int (0 : Int32)), .val (.int (0 : Int32))] [])) ?_ (fun _ k_ => XS.icmpNo X16.here hx rfl (hb hby at_92) rfl (by decide) k_)
    refine Go.st (T' := T16) (g' := (mkF m 96 #[.val (.int p1), .val (.int (1 : Int32)), .val (.ref w_CANCEL), .val (.int (0 : Int32)), .val (.int (0 : Int32)), .val (.int (0 : Int32)), .val (.int (0 : Int32))] [(.int (0 : Int32))])) ?_ (fun _ k_ => XS.iloadN X16.here hx rfl (hb hby at_95) rfl k_)
    refine Go.st (T' := T16) (g' := (mkF m 98 #[.val (.int p1), .val (.int (1 : Int32)), .val (.ref w_CANCEL), .val (.int (0 : Int32)), .val (.int (0 : Int32)), .val (.int (0 : Int32)), .val (.int (0 : Int32))] [(.int (0 : Int32)), (.int (0 : Int32))])) ?_ (fun _ k_ => XS.iload X16.here hx rfl (hb hby at_96) rfl k_)
    refine Go.st (T' := T16) (g' := (mkF m 101 #[.val (.int p1), .val (.int (1 : Int32)), .val (.ref w_CANCEL), .val (.int (0 : Int32)), .val (.int (0 : Int32)), .val (.int (0 : Int32)), .val (.int (0 : Int32))] [])) ?_ (fun _ k_ => XS.icmpNo X16.here hx rfl (hb hby at_98) rfl (by decide) k_)
    refine Go.st (T' := T16) (g' := (mkF m 102 #[.val (.int p1), .val (.int (1 : Int32)), .val (.ref w_CANCEL), .val (.int (0 : Int32)), .val (.int (0 : Int32)), .val (.int (0 : Int32)), .val (.int (0 : Int32))] [(.int (0 : Int32))])) ?_ (fun _ k_ => XS.iloadN X16.here hx rfl (hb hby at_101) rfl k_)
    refine Go.st (T' := T16) (g' := (mkF m 104 #[.val (.int p1), .val (.int (1 : Int32)), .val (.ref w_CANCEL), .val (.int (0 : Int32)), .val (.int (0 : Int32)), .val (.int (0 : Int32)), .val (.int (0 : Int32))] [(.int (0 : Int32)), (.int (0 : Int32))])) ?_ (fun _ k_ => XS.iload X16.here hx rfl (hb hby at_102) rfl k_)
    refine Go.st (T' := T16) (g' := (mkF m 107 #[.val (.int p1), .val (.int (1 : Int32)), .val (.ref w_CANCEL), .val (.int (0 : Int32)), .val (.int (0 : Int32)), .val (.int (0 : Int32)), .val (.int (0 : Int32))] [])) ?_ (fun _ k_ => XS.icmpNo X16.here hx rfl (hb hby at_104) rfl (by decide) k_)
    refine Go.st (T' := T16) (g' := (mkF m 108 #[.val (.int p1), .val (.int (1 : Int32)), .val (.ref w_CANCEL), .val (.int (0 : Int32)), .val (.int (0 : Int32)), .val (.int (0 : Int32)), .val (.int (0 : Int32))] [(.int (0 : Int32))])) ?_ (fun _ k_ => XS.iloadN X16.here hx rfl (hb hby at_107) rfl k_)
    refine Go.st (T' := T16) (g' := (mkF m 111 #[.val (.int p1), .val (.int (1 : Int32)), .val (.ref w_CANCEL), .val (.int (0 : Int32)), .val (.int (0 : Int32)), .val (.int (0 : Int32)), .val (.int (0 : Int32))] [])) ?_ (fun _ k_ => XS.ifNo X16.here hx rfl (hb hby at_108) rfl (by decide) k_)
    refine Go.st (T' := T16) (g' := (mkF m 112 #[.val (.int p1), .val (.int (1 : Int32)), .val (.ref w_CANCEL), .val (.int (0 : Int32)), .val (.int (0 : Int32)), .val (.int (0 : Int32)), .val (.int (0 : Int32))] [(.ref w_CANCEL)])) ?_ (fun _ k_ => XS.aloadN X16.here hx rfl (hb hby at_111) rfl rfl k_)
    refine Go.callV X16 hx hZ hown (hw _ (List.mem_of_getElem? (i := 51) rfl)) (hw _ (List.mem_of_getElem? (i := 52) rfl)) (hw _ (List.mem_of_getElem? (i := 54) rfl)) (hw _ (List.mem_of_getElem? (i := 53) rfl)) (hw _ (List.mem_of_getElem? (i := 2) rfl)) (hw _ (List.mem_of_getElem? (i := 55) rfl)) (by decide) ((A_CANCEL.ext E12).ext E15) (rm2 l Z a0 hw [] w_CANCEL w_NEW h15 Z.heap.size (Nat.le_trans (Nat.le_trans Z0 E12.1) E15.1) ((S_NEW.ext E12).ext E15)) e16 (by decide) (W := 0) (by decide) (by decide) (by decide) (g := (mkF m 112 #[.val (.int p1), .val (.int (1 : Int32)), .val (.ref w_CANCEL), .val (.int (0 : Int32)), .val (.int (0 : Int32)), .val (.int (0 : Int32)), .val (.int (0 : Int32))] [(.ref w_CANCEL)])) (rest := []) rfl (by rw [hml]; rfl) (lenOf pd___Z rfl) rfl (by show 2 * 0 + _ ≤ _; exact Nat.le_of_eq rfl) (hb hby at_112) ?_
    rintro v17 T17 L17 X17 ⟨rfl, N17, e17⟩
    have M17 := Fr.app M16 N17
    rw [show own_acts w_CANCEL w_NEW = (1 : Int32) from by rw [own_acts, if_neg ((fun q_ => D1 q_.symm) : ¬ w_CANCEL = w_NEW)]]
    show Go p e below _ T17 (mkF m 115 #[.val (.int p1), .val (.int (1 : Int32)), .val (.ref w_CANCEL), .val (.int (0 : Int32)), .val (.int (0 : Int32)), .val (.int (0 : Int32)), .val (.int (0 : Int32))] [(.int (1 : Int32))])
    refine Go.st (T' := T17) (g' := (mkF m 118 #[.val (.int p1), .val (.int (1 : Int32)), .val (.ref w_CANCEL), .val (.int (0 : Int32)), .val (.int (0 : Int32)), .val (.int (0 : Int32)), .val (.int (0 : Int32))] [])) ?_ (fun _ k_ => XS.ifNo X17.here hx rfl (hb hby at_115) rfl (by decide) k_)
    refine Go.st (T' := T17) (g' := (mkF m 119 #[.val (.int p1), .val (.int (1 : Int32)), .val (.ref w_CANCEL), .val (.int (0 : Int32)), .val (.int (0 : Int32)), .val (.int (0 : Int32)), .val (.int (0 : Int32))] [(.int (1 : Int32))])) ?_ (fun _ k_ => XT.iconstV X17.here hx rfl (1 : Int32) (hb hby at_118) (by decide) k_)
    refine Go.st (T' := T17) (g' := (mkF m 123 #[.val (.int p1), .val (.int (1 : Int32)), .val (.ref w_CANCEL), .val (.int (0 : Int32)), .val (.int (0 : Int32)), .val (.int (0 : Int32)), .val (.int (0 : Int32))] [(.int (1 : Int32))])) ?_ (fun _ k_ => XS.goto X17.here hx rfl (pc0 := 119) (pc' := 123) rfl (hb hby at_119) (by decide) (by decide) k_)
    exact Go.retVW (t := .boolean) X17 hx hS (by rw [e17]; exact hk) hret hlk (by decide) (by decide) rfl (Or.inl ⟨rfl, Or.inr (Or.inl rfl), _, rfl⟩) (hb hby at_123) ⟨rfl, M17⟩
  · rw [hkk]
    refine Go.st (T' := s₁) (g' := (mkF m 7 #[.val (.int p1), .val (.int (2 : Int32)), .unset, .unset, .unset, .unset, .unset] [])) ?_ (fun _ k_ => XS.istoreN X0.here hx rfl (hb hby at_6) rfl (l' := #[.val (.int p1), .val (.int (2 : Int32)), .unset, .unset, .unset, .unset, .unset]) rfl k_)
    refine Go.st (T' := s₁) (g' := (mkF m 8 #[.val (.int p1), .val (.int (2 : Int32)), .unset, .unset, .unset, .unset, .unset] [(.int (2 : Int32))])) ?_ (fun _ k_ => XS.iloadN X0.here hx rfl (hb hby at_7) rfl k_)
    refine Go.st (T' := s₁) (g' := (mkF m 18 #[.val (.int p1), .val (.int (2 : Int32)), .unset, .unset, .unset, .unset, .unset] [])) ?_ (fun _ k_ => XS.ifYes X0.here hx rfl (pc0 := 8) (pc' := 18) rfl (hb hby at_8) rfl (by decide) (by decide) (by decide) k_)
    refine Go.st (T' := s₁) (g' := (mkF m 19 #[.val (.int p1), .val (.int (2 : Int32)), .unset, .unset, .unset, .unset, .unset] [(.int (2 : Int32))])) ?_ (fun _ k_ => XS.iloadN X0.here hx rfl (hb hby at_18) rfl k_)
    refine Go.st (T' := s₁) (g' := (mkF m 20 #[.val (.int p1), .val (.int (2 : Int32)), .unset, .unset, .unset, .unset, .unset] [(.int (1 : Int32)), (.int (2 : Int32))])) ?_ (fun _ k_ => XT.iconstV X0.here hx rfl (1 : Int32) (hb hby at_19) (by decide) k_)
    refine Go.st (T' := s₁) (g' := (mkF m 30 #[.val (.int p1), .val (.int (2 : Int32)), .unset, .unset, .unset, .unset, .unset] [])) ?_ (fun _ k_ => XS.icmpYes X0.here hx rfl (pc0 := 20) (pc' := 30) rfl (hb hby at_20) rfl (by decide) (by decide) (by decide) k_)
    obtain ⟨T18, X18, e18, st18⟩ := getS2 X0 hx hZ hown (host := "") (Or.inl (hw _ (List.mem_of_getElem? (i := 48) rfl))) Via.refl e0 S_CONTRA (g := (mkF m 30 #[.val (.int p1), .val (.int (2 : Int32)), .unset, .unset, .unset, .unset, .unset] [])) rfl (hb hby at_30)
    refine Go.st (T' := T18) (g' := (mkF m 33 #[.val (.int p1), .val (.int (2 : Int32)), .unset, .unset, .unset, .unset, .unset] [(.ref w_CONTRA)])) ?_ st18
    refine Go.st (T' := T18) (g' := (mkF m 34 #[.val (.int p1), .val (.int (2 : Int32)), .val (.ref w_CONTRA), .unset, .unset, .unset, .unset] [])) ?_ (fun _ k_ => XS.astoreN X18.here hx rfl (hb hby at_33) rfl rfl (l' := #[.val (.int p1), .val (.int (2 : Int32)), .val (.ref w_CONTRA), .unset, .unset, .unset, .unset]) rfl k_)
    refine Go.st (T' := T18) (g' := (mkF m 35 #[.val (.int p1), .val (.int (2 : Int32)), .val (.ref w_CONTRA), .unset, .unset, .unset, .unset] [(.ref w_CONTRA)])) ?_ (fun _ k_ => XS.aloadN X18.here hx rfl (hb hby at_34) rfl rfl k_)
    refine Go.callV X18 hx hZ hown (hw _ (List.mem_of_getElem? (i := 4) rfl)) (hw _ (List.mem_of_getElem? (i := 5) rfl)) (hw _ (List.mem_of_getElem? (i := 7) rfl)) (hw _ (List.mem_of_getElem? (i := 6) rfl)) (hw _ (List.mem_of_getElem? (i := 2) rfl)) (hw _ (List.mem_of_getElem? (i := 8) rfl)) (by decide) A_CONTRA (rm1 l Z a0 hw [] w_CONTRA w_CANCEL Z.heap Z.heap.size Z0 S_CANCEL) e18 (by decide) (W := 0) (by decide) (by decide) (by decide) (g := (mkF m 35 #[.val (.int p1), .val (.int (2 : Int32)), .val (.ref w_CONTRA), .unset, .unset, .unset, .unset] [(.ref w_CONTRA)])) (rest := []) rfl (by rw [hml]; rfl) (lenOf pd___Z rfl) rfl (by show 2 * 0 + _ ≤ _; exact Nat.le_of_eq rfl) (hb hby at_35) ?_
    rintro v19 T19 L19 X19 ⟨rfl, N19, e19⟩
    have M19 := Fr.app N0 N19
    rw [show own_makes w_CONTRA w_CANCEL = (1 : Int32) from by rw [own_makes, if_neg ((fun q_ => D3 q_.symm) : ¬ w_CONTRA = w_CANCEL)]]
    show Go p e below _ T19 (mkF m 38 #[.val (.int p1), .val (.int (2 : Int32)), .val (.ref w_CONTRA), .unset, .unset, .unset, .unset] [(.int (1 : Int32))])
    refine Go.st (T' := T19) (g' := (mkF m 39 #[.val (.int p1), .val (.int (2 : Int32)), .val (.ref w_CONTRA), .val (.int (1 : Int32)), .unset, .unset, .unset] [])) ?_ (fun _ k_ => XS.istoreN X19.here hx rfl (hb hby at_38) rfl (l' := #[.val (.int p1), .val (.int (2 : Int32)), .val (.ref w_CONTRA), .val (.int (1 : Int32)), .unset, .unset, .unset]) rfl k_)
    refine Go.st (T' := T19) (g' := (mkF m 40 #[.val (.int p1), .val (.int (2 : Int32)), .val (.ref w_CONTRA), .val (.int (1 : Int32)), .unset, .unset, .unset] [(.int (2 : Int32))])) ?_ (fun _ k_ => XS.iloadN X19.here hx rfl (hb hby at_39) rfl k_)
    refine Go.st (T' := T19) (g' := (mkF m 41 #[.val (.int p1), .val (.int (2 : Int32)), .val (.ref w_CONTRA), .val (.int (1 : Int32)), .unset, .unset, .unset] [(.int (1 : Int32)), (.int (2 : Int32))])) ?_ (fun _ k_ => XT.iconstV X19.here hx rfl (1 : Int32) (hb hby at_40) (by decide) k_)
    refine Go.st (T' := T19) (g' := (mkF m 44 #[.val (.int p1), .val (.int (2 : Int32)), .val (.ref w_CONTRA), .val (.int (1 : Int32)), .unset, .unset, .unset] [])) ?_ (fun _ k_ => XS.icmpNo X19.here hx rfl (hb hby at_41) rfl (by decide) k_)
    refine Go.st (T' := T19) (g' := (mkF m 45 #[.val (.int p1), .val (.int (2 : Int32)), .val (.ref w_CONTRA), .val (.int (1 : Int32)), .unset, .unset, .unset] [(.int (1 : Int32))])) ?_ (fun _ k_ => XT.iconstV X19.here hx rfl (1 : Int32) (hb hby at_44) (by decide) k_)
    refine Go.st (T' := T19) (g' := (mkF m 49 #[.val (.int p1), .val (.int (2 : Int32)), .val (.ref w_CONTRA), .val (.int (1 : Int32)), .unset, .unset, .unset] [(.int (1 : Int32))])) ?_ (fun _ k_ => XS.goto X19.here hx rfl (pc0 := 45) (pc' := 49) rfl (hb hby at_45) (by decide) (by decide) k_)
    refine Go.st (T' := T19) (g' := (mkF m 51 #[.val (.int p1), .val (.int (2 : Int32)), .val (.ref w_CONTRA), .val (.int (1 : Int32)), .val (.int (1 : Int32)), .unset, .unset] [])) ?_ (fun _ k_ => XS.istore X19.here hx rfl (hb hby at_49) rfl (l' := #[.val (.int p1), .val (.int (2 : Int32)), .val (.ref w_CONTRA), .val (.int (1 : Int32)), .val (.int (1 : Int32)), .unset, .unset]) rfl k_)
    refine Go.st (T' := T19) (g' := (mkF m 52 #[.val (.int p1), .val (.int (2 : Int32)), .val (.ref w_CONTRA), .val (.int (1 : Int32)), .val (.int (1 : Int32)), .unset, .unset] [(.ref w_CONTRA)])) ?_ (fun _ k_ => XS.aloadN X19.here hx rfl (hb hby at_51) rfl rfl k_)
    refine Go.callV X19 hx hZ hown (hw _ (List.mem_of_getElem? (i := 11) rfl)) (hw _ (List.mem_of_getElem? (i := 12) rfl)) (hw _ (List.mem_of_getElem? (i := 14) rfl)) (hw _ (List.mem_of_getElem? (i := 13) rfl)) (hw _ (List.mem_of_getElem? (i := 2) rfl)) (hw _ (List.mem_of_getElem? (i := 15) rfl)) (by decide) A_CONTRA (rm3 l Z a0 hw [] w_CONTRA s_CONTRA_label Z.heap Z.heap.size Z0 L_CONTRA_label) e19 (by decide) (W := 0) (by decide) (by decide) (by decide) (g := (mkF m 52 #[.val (.int p1), .val (.int (2 : Int32)), .val (.ref w_CONTRA), .val (.int (1 : Int32)), .val (.int (1 : Int32)), .unset, .unset] [(.ref w_CONTRA)])) (rest := []) rfl (by rw [hml]; rfl) (lenOf pd___Ljava_lang_String_ rfl) rfl (by show 2 * 0 + _ ≤ _; exact Nat.le_of_eq rfl) (hb hby at_52) ?_
    rintro v20 T20 L20 X20 ⟨rfl, N20, e20⟩
    have M20 := Fr.app M19 N20
    show Go p e below _ T20 (mkF m 55 #[.val (.int p1), .val (.int (2 : Int32)), .val (.ref w_CONTRA), .val (.int (1 : Int32)), .val (.int (1 : Int32)), .unset, .unset] [(.ref s_CONTRA_label)])
    obtain ⟨a21, T21, h21, k21, b21, kb21, X21, e21, E21, hS, hk, hZ, hown, A21, C21, V21, K21, -, -, I21, st21⟩ := ldcSV (vm0 := Z.vm) (text := "cancel") X20 hx hZ hown (hw _ (List.mem_of_getElem? (i := 18) rfl)) wS e20 hS hk M20 (fun _ _ q_ => q_) I0 (by decide) H28 HC (vs := [(.int (99 : Int32)), (.int (97 : Int32)), (.int (110 : Int32)), (.int (99 : Int32)), (.int (101 : Int32)), (.int (108 : Int32))]) (z := (6 : Int32)) ⟨by decide, by decide +kernel⟩ (by decide) (by decide) (g := (mkF m 55 #[.val (.int p1), .val (.int (2 : Int32)), .val (.ref w_CONTRA), .val (.int (1 : Int32)), .val (.int (1 : Int32)), .unset, .unset] [(.ref s_CONTRA_label)])) rfl (hb hby at_55) (n := 24) (by decide) (by decide) (by decide) (by decide)
    refine Go.st (T' := T21) (g' := (mkF m 57 #[.val (.int p1), .val (.int (2 : Int32)), .val (.ref w_CONTRA), .val (.int (1 : Int32)), .val (.int (1 : Int32)), .unset, .unset] [(.ref a21), (.ref s_CONTRA_label)])) ?_ st21
    refine Go.callV X21 hx hZ hown (hw _ (List.mem_of_getElem? (i := 26) rfl)) (hw _ (List.mem_of_getElem? (i := 27) rfl)) (hw _ (List.mem_of_getElem? (i := 29) rfl)) (hw _ (List.mem_of_getElem? (i := 28) rfl)) (hw _ (List.mem_of_getElem? (i := 19) rfl)) (hw _ (List.mem_of_getElem? (i := 30) rfl)) (by decide) (AS_CONTRA_label.ext E21) (re4 l Z a0 hw [] s_CONTRA_label a21 b_CONTRA_label b21 k_CONTRA_label kb21 zc h21 Z.heap.size (Nat.le_trans Z0 E21.1) (AS_CONTRA_label.ext E21) (C_CONTRA_label.ext E21) (V_CONTRA_label.ext E21) (K_CONTRA_label.ext E21) A21 C21 V21 K21 (SC.ext E21) hzc) e21 (by decide) (W := 0) (by decide) (by decide) (by decide) (g := (mkF m 57 #[.val (.int p1), .val (.int (2 : Int32)), .val (.ref w_CONTRA), .val (.int (1 : Int32)), .val (.int (1 : Int32)), .unset, .unset] [(.ref a21), (.ref s_CONTRA_label)])) (rest := []) rfl (by rw [hml]; rfl) (lenOf pd__Ljava_lang_Object__Z rfl) rfl (by show 2 * 0 + _ ≤ _; exact Nat.le_of_eq rfl) (hb hby at_57) ?_
    rintro v22 T22 L22 X22 ⟨rfl, N22, e22⟩
    have M22 := Fr.app M20 N22
    show Go p e below _ T22 (mkF m 60 #[.val (.int p1), .val (.int (2 : Int32)), .val (.ref w_CONTRA), .val (.int (1 : Int32)), .val (.int (1 : Int32)), .unset, .unset] [(.int (0 : Int32))])
    refine Go.st (T' := T22) (g' := (mkF m 63 #[.val (.int p1), .val (.int (2 : Int32)), .val (.ref w_CONTRA), .val (.int (1 : Int32)), .val (.int (1 : Int32)), .unset, .unset] [])) ?_ (fun _ k_ => XS.ifNo X22.here hx rfl (hb hby at_60) rfl (by decide) k_)
    refine Go.st (T' := T22) (g' := (mkF m 64 #[.val (.int p1), .val (.int (2 : Int32)), .val (.ref w_CONTRA), .val (.int (1 : Int32)), .val (.int (1 : Int32)), .unset, .unset] [(.int (1 : Int32))])) ?_ (fun _ k_ => XT.iconstV X22.here hx rfl (1 : Int32) (hb hby at_63) (by decide) k_)
    refine Go.st (T' := T22) (g' := (mkF m 68 #[.val (.int p1), .val (.int (2 : Int32)), .val (.ref w_CONTRA), .val (.int (1 : Int32)), .val (.int (1 : Int32)), .unset, .unset] [(.int (1 : Int32))])) ?_ (fun _ k_ => XS.goto X22.here hx rfl (pc0 := 64) (pc' := 68) rfl (hb hby at_64) (by decide) (by decide) k_)
    refine Go.st (T' := T22) (g' := (mkF m 70 #[.val (.int p1), .val (.int (2 : Int32)), .val (.ref w_CONTRA), .val (.int (1 : Int32)), .val (.int (1 : Int32)), .val (.int (1 : Int32)), .unset] [])) ?_ (fun _ k_ => XS.istore X22.here hx rfl (hb hby at_68) rfl (l' := #[.val (.int p1), .val (.int (2 : Int32)), .val (.ref w_CONTRA), .val (.int (1 : Int32)), .val (.int (1 : Int32)), .val (.int (1 : Int32)), .unset]) rfl k_)
    refine Go.st (T' := T22) (g' := (mkF m 71 #[.val (.int p1), .val (.int (2 : Int32)), .val (.ref w_CONTRA), .val (.int (1 : Int32)), .val (.int (1 : Int32)), .val (.int (1 : Int32)), .unset] [(.ref w_CONTRA)])) ?_ (fun _ k_ => XS.aloadN X22.here hx rfl (hb hby at_70) rfl rfl k_)
    refine Go.callV X22 hx hZ hown (hw _ (List.mem_of_getElem? (i := 40) rfl)) (hw _ (List.mem_of_getElem? (i := 41) rfl)) (hw _ (List.mem_of_getElem? (i := 43) rfl)) (hw _ (List.mem_of_getElem? (i := 42) rfl)) (hw _ (List.mem_of_getElem? (i := 2) rfl)) (hw _ (List.mem_of_getElem? (i := 44) rfl)) (by decide) (A_CONTRA.ext E21) (rm4 l Z a0 hw [] w_CONTRA s_CONTRA_fixValue h21 Z.heap.size (Nat.le_trans Z0 E21.1) (L_CONTRA_fixValue.ext E21)) e22 (by decide) (W := 0) (by decide) (by decide) (by decide) (g := (mkF m 71 #[.val (.int p1), .val (.int (2 : Int32)), .val (.ref w_CONTRA), .val (.int (1 : Int32)), .val (.int (1 : Int32)), .val (.int (1 : Int32)), .unset] [(.ref w_CONTRA)])) (rest := []) rfl (by rw [hml]; rfl) (lenOf pd___Ljava_lang_String_ rfl) rfl (by show 2 * 0 + _ ≤ _; exact Nat.le_of_eq rfl) (hb hby at_71) ?_
    rintro v23 T23 L23 X23 ⟨rfl, N23, e23⟩
    have M23 := Fr.app M22 N23
    show Go p e below _ T23 (mkF m 74 #[.val (.int p1), .val (.int (2 : Int32)), .val (.ref w_CONTRA), .val (.int (1 : Int32)), .val (.int (1 : Int32)), .val (.int (1 : Int32)), .unset] [(.ref s_CONTRA_fixValue)])
    obtain ⟨a24, T24, h24, k24, b24, kb24, X24, e24, E24, hS, hk, hZ, hown, A24, C24, V24, K24, -, -, I24, st24⟩ := ldcSV (vm0 := T21.vm) (text := "1") X23 hx hZ hown (hw _ (List.mem_of_getElem? (i := 47) rfl)) wS e23 hS hk M23 (fun _ _ q_ => q_) I21 (by decide) H39 HC (vs := [(.int (49 : Int32))]) (z := (1 : Int32)) ⟨by decide, by decide +kernel⟩ (by decide) (by decide) (g := (mkF m 74 #[.val (.int p1), .val (.int (2 : Int32)), .val (.ref w_CONTRA), .val (.int (1 : Int32)), .val (.int (1 : Int32)), .val (.int (1 : Int32)), .unset] [(.ref s_CONTRA_fixValue)])) rfl (hb hby at_74) (n := 4) (by decide) (by decide) (by decide) (by decide)
    refine Go.st (T' := T24) (g' := (mkF m 76 #[.val (.int p1), .val (.int (2 : Int32)), .val (.ref w_CONTRA), .val (.int (1 : Int32)), .val (.int (1 : Int32)), .val (.int (1 : Int32)), .unset] [(.ref a24), (.ref s_CONTRA_fixValue)])) ?_ st24
    refine Go.callV X24 hx hZ hown (hw _ (List.mem_of_getElem? (i := 26) rfl)) (hw _ (List.mem_of_getElem? (i := 27) rfl)) (hw _ (List.mem_of_getElem? (i := 29) rfl)) (hw _ (List.mem_of_getElem? (i := 28) rfl)) (hw _ (List.mem_of_getElem? (i := 19) rfl)) (hw _ (List.mem_of_getElem? (i := 30) rfl)) (by decide) ((AS_CONTRA_fixValue.ext E21).ext E24) (re5 l Z a0 hw [] s_CONTRA_fixValue a24 b_CONTRA_fixValue b24 k_CONTRA_fixValue kb24 zc h24 Z.heap.size (Nat.le_trans (Nat.le_trans Z0 E21.1) E24.1) ((AS_CONTRA_fixValue.ext E21).ext E24) ((C_CONTRA_fixValue.ext E21).ext E24) ((V_CONTRA_fixValue.ext E21).ext E24) ((K_CONTRA_fixValue.ext E21).ext E24) A24 C24 V24 K24 ((SC.ext E21).ext E24) hzc) e24 (by decide) (W := 0) (by decide) (by decide) (by decide) (g := (mkF m 76 #[.val (.int p1), .val (.int (2 : Int32)), .val (.ref w_CONTRA), .val (.int (1 : Int32)), .val (.int (1 : Int32)), .val (.int (1 : Int32)), .unset] [(.ref a24), (.ref s_CONTRA_fixValue)])) (rest := []) rfl (by rw [hml]; rfl) (lenOf pd__Ljava_lang_Object__Z rfl) rfl (by show 2 * 0 + _ ≤ _; exact Nat.le_of_eq rfl) (hb hby at_76) ?_
    rintro v25 T25 L25 X25 ⟨rfl, N25, e25⟩
    have M25 := Fr.app M23 N25
    show Go p e below _ T25 (mkF m 79 #[.val (.int p1), .val (.int (2 : Int32)), .val (.ref w_CONTRA), .val (.int (1 : Int32)), .val (.int (1 : Int32)), .val (.int (1 : Int32)), .unset] [(.int (0 : Int32))])
    refine Go.st (T' := T25) (g' := (mkF m 82 #[.val (.int p1), .val (.int (2 : Int32)), .val (.ref w_CONTRA), .val (.int (1 : Int32)), .val (.int (1 : Int32)), .val (.int (1 : Int32)), .unset] [])) ?_ (fun _ k_ => XS.ifNo X25.here hx rfl (hb hby at_79) rfl (by decide) k_)
    refine Go.st (T' := T25) (g' := (mkF m 83 #[.val (.int p1), .val (.int (2 : Int32)), .val (.ref w_CONTRA), .val (.int (1 : Int32)), .val (.int (1 : Int32)), .val (.int (1 : Int32)), .unset] [(.int (1 : Int32))])) ?_ (fun _ k_ => XT.iconstV X25.here hx rfl (1 : Int32) (hb hby at_82) (by decide) k_)
    refine Go.st (T' := T25) (g' := (mkF m 87 #[.val (.int p1), .val (.int (2 : Int32)), .val (.ref w_CONTRA), .val (.int (1 : Int32)), .val (.int (1 : Int32)), .val (.int (1 : Int32)), .unset] [(.int (1 : Int32))])) ?_ (fun _ k_ => XS.goto X25.here hx rfl (pc0 := 83) (pc' := 87) rfl (hb hby at_83) (by decide) (by decide) k_)
    refine Go.st (T' := T25) (g' := (mkF m 89 #[.val (.int p1), .val (.int (2 : Int32)), .val (.ref w_CONTRA), .val (.int (1 : Int32)), .val (.int (1 : Int32)), .val (.int (1 : Int32)), .val (.int (1 : Int32))] [])) ?_ (fun _ k_ => XS.istore X25.here hx rfl (hb hby at_87) rfl (l' := #[.val (.int p1), .val (.int (2 : Int32)), .val (.ref w_CONTRA), .val (.int (1 : Int32)), .val (.int (1 : Int32)), .val (.int (1 : Int32)), .val (.int (1 : Int32))]) rfl k_)
    refine Go.st (T' := T25) (g' := (mkF m 90 #[.val (.int p1), .val (.int (2 : Int32)), .val (.ref w_CONTRA), .val (.int (1 : Int32)), .val (.int (1 : Int32)), .val (.int (1 : Int32)), .val (.int (1 : Int32))] [(.int (1 : Int32))])) ?_ (fun _ k_ => XS.iloadN X25.here hx rfl (hb hby at_89) rfl k_)
    refine Go.st (T' := T25) (g' := (mkF m 92 #[.val (.int p1), .val (.int (2 : Int32)), .val (.ref w_CONTRA), .val (.int (1 : Int32)), .val (.int (1 : Int32)), .val (.int (1 : Int32)), .val (.int (1 : Int32))] [(.int (1 : Int32)), (.int (1 : Int32))])) ?_ (fun _ k_ => XS.iload X25.here hx rfl (hb hby at_90) rfl k_)
    refine Go.st (T' := T25) (g' := (mkF m 95 #[.val (.int p1), .val (.int (2 : Int32)), .val (.ref w_CONTRA), .val (.int (1 : Int32)), .val (.int (1 : Int32)), .val (.int (1 : Int32)), .val (.int (1 : Int32))] [])) ?_ (fun _ k_ => XS.icmpNo X25.here hx rfl (hb hby at_92) rfl (by decide) k_)
    refine Go.st (T' := T25) (g' := (mkF m 96 #[.val (.int p1), .val (.int (2 : Int32)), .val (.ref w_CONTRA), .val (.int (1 : Int32)), .val (.int (1 : Int32)), .val (.int (1 : Int32)), .val (.int (1 : Int32))] [(.int (1 : Int32))])) ?_ (fun _ k_ => XS.iloadN X25.here hx rfl (hb hby at_95) rfl k_)
    refine Go.st (T' := T25) (g' := (mkF m 98 #[.val (.int p1), .val (.int (2 : Int32)), .val (.ref w_CONTRA), .val (.int (1 : Int32)), .val (.int (1 : Int32)), .val (.int (1 : Int32)), .val (.int (1 : Int32))] [(.int (1 : Int32)), (.int (1 : Int32))])) ?_ (fun _ k_ => XS.iload X25.here hx rfl (hb hby at_96) rfl k_)
    refine Go.st (T' := T25) (g' := (mkF m 101 #[.val (.int p1), .val (.int (2 : Int32)), .val (.ref w_CONTRA), .val (.int (1 : Int32)), .val (.int (1 : Int32)), .val (.int (1 : Int32)), .val (.int (1 : Int32))] [])) ?_ (fun _ k_ => XS.icmpNo X25.here hx rfl (hb hby at_98) rfl (by decide) k_)
    refine Go.st (T' := T25) (g' := (mkF m 102 #[.val (.int p1), .val (.int (2 : Int32)), .val (.ref w_CONTRA), .val (.int (1 : Int32)), .val (.int (1 : Int32)), .val (.int (1 : Int32)), .val (.int (1 : Int32))] [(.int (1 : Int32))])) ?_ (fun _ k_ => XS.iloadN X25.here hx rfl (hb hby at_101) rfl k_)
    refine Go.st (T' := T25) (g' := (mkF m 104 #[.val (.int p1), .val (.int (2 : Int32)), .val (.ref w_CONTRA), .val (.int (1 : Int32)), .val (.int (1 : Int32)), .val (.int (1 : Int32)), .val (.int (1 : Int32))] [(.int (1 : Int32)), (.int (1 : Int32))])) ?_ (fun _ k_ => XS.iload X25.here hx rfl (hb hby at_102) rfl k_)
    refine Go.st (T' := T25) (g' := (mkF m 107 #[.val (.int p1), .val (.int (2 : Int32)), .val (.ref w_CONTRA), .val (.int (1 : Int32)), .val (.int (1 : Int32)), .val (.int (1 : Int32)), .val (.int (1 : Int32))] [])) ?_ (fun _ k_ => XS.icmpNo X25.here hx rfl (hb hby at_104) rfl (by decide) k_)
    refine Go.st (T' := T25) (g' := (mkF m 108 #[.val (.int p1), .val (.int (2 : Int32)), .val (.ref w_CONTRA), .val (.int (1 : Int32)), .val (.int (1 : Int32)), .val (.int (1 : Int32)), .val (.int (1 : Int32))] [(.int (1 : Int32))])) ?_ (fun _ k_ => XS.iloadN X25.here hx rfl (hb hby at_107) rfl k_)
    refine Go.st (T' := T25) (g' := (mkF m 118 #[.val (.int p1), .val (.int (2 : Int32)), .val (.ref w_CONTRA), .val (.int (1 : Int32)), .val (.int (1 : Int32)), .val (.int (1 : Int32)), .val (.int (1 : Int32))] [])) ?_ (fun _ k_ => XS.ifYes X25.here hx rfl (pc0 := 108) (pc' := 118) rfl (hb hby at_108) rfl (by decide) (by decide) (by decide) k_)
    refine Go.st (T' := T25) (g' := (mkF m 119 #[.val (.int p1), .val (.int (2 : Int32)), .val (.ref w_CONTRA), .val (.int (1 : Int32)), .val (.int (1 : Int32)), .val (.int (1 : Int32)), .val (.int (1 : Int32))] [(.int (1 : Int32))])) ?_ (fun _ k_ => XT.iconstV X25.here hx rfl (1 : Int32) (hb hby at_118) (by decide) k_)
    refine Go.st (T' := T25) (g' := (mkF m 123 #[.val (.int p1), .val (.int (2 : Int32)), .val (.ref w_CONTRA), .val (.int (1 : Int32)), .val (.int (1 : Int32)), .val (.int (1 : Int32)), .val (.int (1 : Int32))] [(.int (1 : Int32))])) ?_ (fun _ k_ => XS.goto X25.here hx rfl (pc0 := 119) (pc' := 123) rfl (hb hby at_119) (by decide) (by decide) k_)
    exact Go.retVW (t := .boolean) X25 hx hS (by rw [e25]; exact hk) hret hlk (by decide) (by decide) rfl (Or.inl ⟨rfl, Or.inr (Or.inl rfl), _, rfl⟩) (hb hby at_123) ⟨rfl, M25⟩
set_option maxRecDepth 65536 in
set_option maxHeartbeats 40000000 in
theorem comes_1 {Post : Tables → Env → Array Value → State → Outcome → State → Prop} (hpost : ∀ tb e args s v u, (limb_1_1.after args s (.returned v) u = true ∧ limb_1_2.after args s (.returned v) u = true ∧ True) → FramedW s (.returned v) u (Jvm.fieldLocs frame_1_writes args s ++ Jvm.arrayLocs frame_1_arrays args s ++ Jvm.staticLocs frame_1_statics s) 8 2112 → Post tb e args s (.returned v) u) :
    ArmFor flags0 classFile x code maxLocals ret World_1 tables_1 room_1 Calls_1 rest_1 Pre_1 Post := by
  intro l hfl _ _ p e ha hc hk s m args below hf hA hF happ hP
  obtain ⟨hcalls, hrest, hpre⟩ := hP
  obtain ⟨-, -, -, hnamed, -, -, -, hat⟩ := (Spec.applies_iff hf).mp happ
  obtain ⟨hg, hn⟩ := and_e (Cond.before_iff.mp (show (Jvm.Cond.and given_1 narrow_1).before args s = true from hpre))
  obtain ⟨g0, hg⟩ := and_e hg
  obtain ⟨w0, rfl⟩ : ∃ w0 : Value, args = #[w0] := by
    have hs : args.size = 1 := by simpa [Cond.value, given_1] using g0
    obtain ⟨L⟩ := args
    match L, hs with
    | [w0], _ => exact ⟨w0, rfl⟩
  have hw := fun d (hd : d ∈ tables_1) => atoms_spec (ws := Jvm.Cond.code x code maxLocals ret :: tables_1) hat d (List.mem_cons_of_mem _ hd)
  obtain ⟨i0, ei0⟩ := is_v hg
  obtain rfl : w0 = (.int i0) := Option.some.inj ei0
  have hfit : Fit s := fun {y c} hc i hi => by
    obtain ⟨ha, rfl⟩ := Array.getElem?_eq_some_iff.mp hc
    have q := List.all_eq_true.mp ((Array.all_eq_true_iff_forall_mem.mp hF) _ (Array.getElem_mem ha)) i (List.mem_range.mpr hi)
    simpa [Array.getElem?_eq_getElem hi] using q
  obtain ⟨hsets, hown0⟩ := atoms_of _ (rest_1_c_eq ▸ (show rest_1_c.before _ s = true from hrest))
  obtain ⟨zc, ezc⟩ := is_v (Cond.before_iff.mp (hsets _ (List.mem_of_getElem? (i := 1) rfl)))
  have SC : Sta s s.heap "java/lang/String" "COMPACT_STRINGS" "Z" (.int zc) := Sta.start ezc (Or.inl (hsets _ (List.mem_of_getElem? (i := 0) rfl)))
  have hcw := hsets _ (List.mem_of_getElem? (i := 2) rfl)
  have hzc : ¬ zc = (0 : Int32) := fun q => by
    have n3 := not_v (Cond.before_iff.mp hcw)
    subst q
    simp [Jvm.Cond.value, ezc, Term.int_eval] at n3
  obtain ⟨f1a, f1b⟩ := and_e hn
  obtain ⟨f2a, f2b⟩ := and_e f1b
  obtain ⟨f3a, f3b⟩ := and_e f2b
  obtain ⟨f4a, f4b⟩ := and_e f3b
  obtain ⟨f5a, f5b⟩ := and_e f4b
  obtain ⟨f6a, f6b⟩ := and_e f5b
  obtain ⟨f7a, f7b⟩ := and_e f6b
  obtain ⟨f8a, f8b⟩ := and_e f7b
  obtain ⟨f9a, f9b⟩ := and_e f8b
  obtain ⟨f10a, f10b⟩ := and_e f9b
  obtain ⟨f11a, f11b⟩ := and_e f10b
  obtain ⟨f12a, f12b⟩ := and_e f11b
  obtain ⟨f13a, f13b⟩ := and_e f12b
  obtain ⟨f14a, f14b⟩ := and_e f13b
  obtain ⟨f15a, f15b⟩ := and_e f14b
  obtain ⟨f16a, f16b⟩ := and_e f15b
  obtain ⟨f17a, f17b⟩ := and_e f16b
  obtain ⟨f18a, f18b⟩ := and_e f17b
  obtain ⟨f19a, f19b⟩ := and_e f18b
  obtain ⟨f20a, f20b⟩ := and_e f19b
  obtain ⟨f21a, f21b⟩ := and_e f20b
  obtain ⟨f22a, f22b⟩ := and_e f21b
  obtain ⟨f23a, f23b⟩ := and_e f22b
  obtain ⟨f24a, f24b⟩ := and_e f23b
  obtain ⟨f25a, f25b⟩ := and_e f24b
  obtain ⟨f26a, f26b⟩ := and_e f25b
  obtain ⟨f27a, f27b⟩ := and_e f26b
  obtain ⟨f28a, f28b⟩ := and_e f27b
  obtain ⟨f29a, f29b⟩ := and_e f28b
  obtain ⟨f30a, f30b⟩ := and_e f29b
  obtain ⟨f31a, f31b⟩ := and_e f30b
  obtain ⟨f32a, f32b⟩ := and_e f31b
  obtain ⟨f33a, f33b⟩ := and_e f32b
  obtain ⟨f34a, f34b⟩ := and_e f33b
  obtain ⟨f35a, f35b⟩ := and_e f34b
  obtain ⟨f36a, f36b⟩ := and_e f35b
  obtain ⟨f37a, f37b⟩ := and_e f36b
  obtain ⟨f38a, f38b⟩ := and_e f37b
  obtain ⟨f39a, f39b⟩ := and_e f38b
  obtain ⟨f40a, f40b⟩ := and_e f39b
  obtain ⟨f41a, f41b⟩ := and_e f40b
  obtain ⟨f42a, f42b⟩ := and_e f41b
  obtain ⟨f43a, f43b⟩ := and_e f42b
  obtain ⟨f44a, f44b⟩ := and_e f43b
  obtain ⟨f45a, f45b⟩ := and_e f44b
  obtain ⟨f46a, f46b⟩ := and_e f45b
  obtain ⟨f47a, f47b⟩ := and_e f46b
  obtain ⟨w_NEW, ev_NEW⟩ := exa_v f1a
  have S_NEW := Sta.start ev_NEW (Or.inr ⟨(hw _ (List.mem_of_getElem? (i := 2) rfl)), (hw _ (List.mem_of_getElem? (i := 3) rfl))⟩)
  have A_NEW := Exa.start ev_NEW f1a
  have O_NEW := own_fldInt ev_NEW f3a
  obtain ⟨s_NEW_label, ev_NEW_label⟩ := exa_v f5a
  have L_NEW_label := Fld.start ((fld_at ev_NEW).symm.trans ev_NEW_label)
  have AS_NEW_label := Exa.start ev_NEW_label f5a
  have C_NEW_label := own_fldInt ev_NEW_label f6a
  obtain ⟨b_NEW_label, eb_NEW_label⟩ := arr_v f7a
  have V_NEW_label := Fld.start ((fld_at ev_NEW_label).symm.trans eb_NEW_label)
  obtain ⟨cl_NEW_label, AR_NEW_label⟩ := Arr.start eb_NEW_label f7a
  obtain ⟨l1_NEW_label, l2_NEW_label⟩ := own_alen eb_NEW_label AR_NEW_label f8a
  have x0_NEW_label : cl_NEW_label.slots[0]? = some (.int (110 : Int32)) := own_aelem (j := (0 : Int32)) eb_NEW_label AR_NEW_label f34a
  have x1_NEW_label : cl_NEW_label.slots[1]? = some (.int (101 : Int32)) := own_aelem (j := (1 : Int32)) eb_NEW_label AR_NEW_label f35a
  have x2_NEW_label : cl_NEW_label.slots[2]? = some (.int (119 : Int32)) := own_aelem (j := (2 : Int32)) eb_NEW_label AR_NEW_label f36a
  have K_NEW_label : Arv s s.heap b_NEW_label cl_NEW_label.cls .byte (3 : Int32) [(.int (110 : Int32)), (.int (101 : Int32)), (.int (119 : Int32))] (.int 0) := Arv.start hfit AR_NEW_label l1_NEW_label l2_NEW_label (by decide) (by decide) ⟨x0_NEW_label, x1_NEW_label, x2_NEW_label, trivial⟩
  obtain ⟨s_NEW_fixValue, ev_NEW_fixValue⟩ := exa_v f9a
  have L_NEW_fixValue := Fld.start ((fld_at ev_NEW).symm.trans ev_NEW_fixValue)
  have AS_NEW_fixValue := Exa.start ev_NEW_fixValue f9a
  have C_NEW_fixValue := own_fldInt ev_NEW_fixValue f10a
  obtain ⟨b_NEW_fixValue, eb_NEW_fixValue⟩ := arr_v f11a
  have V_NEW_fixValue := Fld.start ((fld_at ev_NEW_fixValue).symm.trans eb_NEW_fixValue)
  obtain ⟨cl_NEW_fixValue, AR_NEW_fixValue⟩ := Arr.start eb_NEW_fixValue f11a
  obtain ⟨l1_NEW_fixValue, l2_NEW_fixValue⟩ := own_alen eb_NEW_fixValue AR_NEW_fixValue f12a
  have x0_NEW_fixValue : cl_NEW_fixValue.slots[0]? = some (.int (48 : Int32)) := own_aelem (j := (0 : Int32)) eb_NEW_fixValue AR_NEW_fixValue f13a
  have K_NEW_fixValue : Arv s s.heap b_NEW_fixValue cl_NEW_fixValue.cls .byte (1 : Int32) [(.int (48 : Int32))] (.int 0) := Arv.start hfit AR_NEW_fixValue l1_NEW_fixValue l2_NEW_fixValue (by decide) (by decide) ⟨x0_NEW_fixValue, trivial⟩
  obtain ⟨w_CANCEL, ev_CANCEL⟩ := exa_v f2a
  have S_CANCEL := Sta.start ev_CANCEL (Or.inr ⟨(hw _ (List.mem_of_getElem? (i := 2) rfl)), (hw _ (List.mem_of_getElem? (i := 10) rfl))⟩)
  have A_CANCEL := Exa.start ev_CANCEL f2a
  have O_CANCEL := own_fldInt ev_CANCEL f4a
  obtain ⟨s_CANCEL_label, ev_CANCEL_label⟩ := exa_v f25a
  have L_CANCEL_label := Fld.start ((fld_at ev_CANCEL).symm.trans ev_CANCEL_label)
  have AS_CANCEL_label := Exa.start ev_CANCEL_label f25a
  have C_CANCEL_label := own_fldInt ev_CANCEL_label f26a
  obtain ⟨b_CANCEL_label, eb_CANCEL_label⟩ := arr_v f27a
  have V_CANCEL_label := Fld.start ((fld_at ev_CANCEL_label).symm.trans eb_CANCEL_label)
  obtain ⟨cl_CANCEL_label, AR_CANCEL_label⟩ := Arr.start eb_CANCEL_label f27a
  obtain ⟨l1_CANCEL_label, l2_CANCEL_label⟩ := own_alen eb_CANCEL_label AR_CANCEL_label f28a
  have x0_CANCEL_label : cl_CANCEL_label.slots[0]? = some (.int (99 : Int32)) := own_aelem (j := (0 : Int32)) eb_CANCEL_label AR_CANCEL_label f43a
  have x1_CANCEL_label : cl_CANCEL_label.slots[1]? = some (.int (97 : Int32)) := own_aelem (j := (1 : Int32)) eb_CANCEL_label AR_CANCEL_label f44a
  have x2_CANCEL_label : cl_CANCEL_label.slots[2]? = some (.int (110 : Int32)) := own_aelem (j := (2 : Int32)) eb_CANCEL_label AR_CANCEL_label f45a
  have x3_CANCEL_label : cl_CANCEL_label.slots[3]? = some (.int (99 : Int32)) := own_aelem (j := (3 : Int32)) eb_CANCEL_label AR_CANCEL_label f46a
  have x4_CANCEL_label : cl_CANCEL_label.slots[4]? = some (.int (101 : Int32)) := own_aelem (j := (4 : Int32)) eb_CANCEL_label AR_CANCEL_label f47a
  have x5_CANCEL_label : cl_CANCEL_label.slots[5]? = some (.int (108 : Int32)) := own_aelem (j := (5 : Int32)) eb_CANCEL_label AR_CANCEL_label f47b
  have K_CANCEL_label : Arv s s.heap b_CANCEL_label cl_CANCEL_label.cls .byte (6 : Int32) [(.int (99 : Int32)), (.int (97 : Int32)), (.int (110 : Int32)), (.int (99 : Int32)), (.int (101 : Int32)), (.int (108 : Int32))] (.int 0) := Arv.start hfit AR_CANCEL_label l1_CANCEL_label l2_CANCEL_label (by decide) (by decide) ⟨x0_CANCEL_label, x1_CANCEL_label, x2_CANCEL_label, x3_CANCEL_label, x4_CANCEL_label, x5_CANCEL_label, trivial⟩
  obtain ⟨s_CANCEL_fixValue, ev_CANCEL_fixValue⟩ := exa_v f29a
  have L_CANCEL_fixValue := Fld.start ((fld_at ev_CANCEL).symm.trans ev_CANCEL_fixValue)
  have AS_CANCEL_fixValue := Exa.start ev_CANCEL_fixValue f29a
  have C_CANCEL_fixValue := own_fldInt ev_CANCEL_fixValue f30a
  obtain ⟨b_CANCEL_fixValue, eb_CANCEL_fixValue⟩ := arr_v f31a
  have V_CANCEL_fixValue := Fld.start ((fld_at ev_CANCEL_fixValue).symm.trans eb_CANCEL_fixValue)
  obtain ⟨cl_CANCEL_fixValue, AR_CANCEL_fixValue⟩ := Arr.start eb_CANCEL_fixValue f31a
  obtain ⟨l1_CANCEL_fixValue, l2_CANCEL_fixValue⟩ := own_alen eb_CANCEL_fixValue AR_CANCEL_fixValue f32a
  have x0_CANCEL_fixValue : cl_CANCEL_fixValue.slots[0]? = some (.int (49 : Int32)) := own_aelem (j := (0 : Int32)) eb_CANCEL_fixValue AR_CANCEL_fixValue f33a
  have K_CANCEL_fixValue : Arv s s.heap b_CANCEL_fixValue cl_CANCEL_fixValue.cls .byte (1 : Int32) [(.int (49 : Int32))] (.int 0) := Arv.start hfit AR_CANCEL_fixValue l1_CANCEL_fixValue l2_CANCEL_fixValue (by decide) (by decide) ⟨x0_CANCEL_fixValue, trivial⟩
  obtain ⟨w_CONTRA, ev_CONTRA⟩ := exa_v f14a
  have S_CONTRA := Sta.start ev_CONTRA (Or.inr ⟨(hw _ (List.mem_of_getElem? (i := 2) rfl)), (hw _ (List.mem_of_getElem? (i := 49) rfl))⟩)
  have A_CONTRA := Exa.start ev_CONTRA f14a
  have O_CONTRA := own_fldInt ev_CONTRA f15a
  obtain ⟨s_CONTRA_label, ev_CONTRA_label⟩ := exa_v f16a
  have L_CONTRA_label := Fld.start ((fld_at ev_CONTRA).symm.trans ev_CONTRA_label)
  have AS_CONTRA_label := Exa.start ev_CONTRA_label f16a
  have C_CONTRA_label := own_fldInt ev_CONTRA_label f17a
  obtain ⟨b_CONTRA_label, eb_CONTRA_label⟩ := arr_v f18a
  have V_CONTRA_label := Fld.start ((fld_at ev_CONTRA_label).symm.trans eb_CONTRA_label)
  obtain ⟨cl_CONTRA_label, AR_CONTRA_label⟩ := Arr.start eb_CONTRA_label f18a
  obtain ⟨l1_CONTRA_label, l2_CONTRA_label⟩ := own_alen eb_CONTRA_label AR_CONTRA_label f19a
  have x0_CONTRA_label : cl_CONTRA_label.slots[0]? = some (.int (99 : Int32)) := own_aelem (j := (0 : Int32)) eb_CONTRA_label AR_CONTRA_label f37a
  have x1_CONTRA_label : cl_CONTRA_label.slots[1]? = some (.int (111 : Int32)) := own_aelem (j := (1 : Int32)) eb_CONTRA_label AR_CONTRA_label f38a
  have x2_CONTRA_label : cl_CONTRA_label.slots[2]? = some (.int (110 : Int32)) := own_aelem (j := (2 : Int32)) eb_CONTRA_label AR_CONTRA_label f39a
  have x3_CONTRA_label : cl_CONTRA_label.slots[3]? = some (.int (116 : Int32)) := own_aelem (j := (3 : Int32)) eb_CONTRA_label AR_CONTRA_label f40a
  have x4_CONTRA_label : cl_CONTRA_label.slots[4]? = some (.int (114 : Int32)) := own_aelem (j := (4 : Int32)) eb_CONTRA_label AR_CONTRA_label f41a
  have x5_CONTRA_label : cl_CONTRA_label.slots[5]? = some (.int (97 : Int32)) := own_aelem (j := (5 : Int32)) eb_CONTRA_label AR_CONTRA_label f42a
  have K_CONTRA_label : Arv s s.heap b_CONTRA_label cl_CONTRA_label.cls .byte (6 : Int32) [(.int (99 : Int32)), (.int (111 : Int32)), (.int (110 : Int32)), (.int (116 : Int32)), (.int (114 : Int32)), (.int (97 : Int32))] (.int 0) := Arv.start hfit AR_CONTRA_label l1_CONTRA_label l2_CONTRA_label (by decide) (by decide) ⟨x0_CONTRA_label, x1_CONTRA_label, x2_CONTRA_label, x3_CONTRA_label, x4_CONTRA_label, x5_CONTRA_label, trivial⟩
  obtain ⟨s_CONTRA_fixValue, ev_CONTRA_fixValue⟩ := exa_v f20a
  have L_CONTRA_fixValue := Fld.start ((fld_at ev_CONTRA).symm.trans ev_CONTRA_fixValue)
  have AS_CONTRA_fixValue := Exa.start ev_CONTRA_fixValue f20a
  have C_CONTRA_fixValue := own_fldInt ev_CONTRA_fixValue f21a
  obtain ⟨b_CONTRA_fixValue, eb_CONTRA_fixValue⟩ := arr_v f22a
  have V_CONTRA_fixValue := Fld.start ((fld_at ev_CONTRA_fixValue).symm.trans eb_CONTRA_fixValue)
  obtain ⟨cl_CONTRA_fixValue, AR_CONTRA_fixValue⟩ := Arr.start eb_CONTRA_fixValue f22a
  obtain ⟨l1_CONTRA_fixValue, l2_CONTRA_fixValue⟩ := own_alen eb_CONTRA_fixValue AR_CONTRA_fixValue f23a
  have x0_CONTRA_fixValue : cl_CONTRA_fixValue.slots[0]? = some (.int (52 : Int32)) := own_aelem (j := (0 : Int32)) eb_CONTRA_fixValue AR_CONTRA_fixValue f24a
  have K_CONTRA_fixValue : Arv s s.heap b_CONTRA_fixValue cl_CONTRA_fixValue.cls .byte (1 : Int32) [(.int (52 : Int32))] (.int 0) := Arv.start hfit AR_CONTRA_fixValue l1_CONTRA_fixValue l2_CONTRA_fixValue (by decide) (by decide) ⟨x0_CONTRA_fixValue, trivial⟩
  have D1 : ¬ w_NEW = w_CANCEL := Fld.ne O_NEW O_CANCEL (by simp)
  have D2 : ¬ w_NEW = w_CONTRA := Fld.ne O_NEW O_CONTRA (by simp)
  have D3 : ¬ w_CANCEL = w_CONTRA := Fld.ne O_CANCEL O_CONTRA (by simp)
  have FF : own_F s s.heap w_NEW w_CANCEL w_CONTRA s_NEW_label b_NEW_label s_NEW_fixValue b_NEW_fixValue s_CANCEL_label b_CANCEL_label s_CANCEL_fixValue b_CANCEL_fixValue s_CONTRA_label b_CONTRA_label s_CONTRA_fixValue b_CONTRA_fixValue cl_NEW_label.cls cl_NEW_fixValue.cls cl_CANCEL_label.cls cl_CANCEL_fixValue.cls cl_CONTRA_label.cls cl_CONTRA_fixValue.cls zc := ⟨S_NEW, A_NEW, L_NEW_label, AS_NEW_label, C_NEW_label, V_NEW_label, K_NEW_label, L_NEW_fixValue, AS_NEW_fixValue, C_NEW_fixValue, V_NEW_fixValue, K_NEW_fixValue, S_CANCEL, A_CANCEL, L_CANCEL_label, AS_CANCEL_label, C_CANCEL_label, V_CANCEL_label, K_CANCEL_label, L_CANCEL_fixValue, AS_CANCEL_fixValue, C_CANCEL_fixValue, V_CANCEL_fixValue, K_CANCEL_fixValue, S_CONTRA, A_CONTRA, L_CONTRA_label, AS_CONTRA_label, C_CONTRA_label, V_CONTRA_label, K_CONTRA_label, L_CONTRA_fixValue, AS_CONTRA_fixValue, C_CONTRA_fixValue, V_CONTRA_fixValue, K_CONTRA_fixValue, D1, D2, D3, SC, hzc⟩
  have hheld : Jvm.Lit.constsHeld consts_1 s := hcalls.1
  have H28 : Jvm.Lit.constHeld s "com/example/tallywire/tallywire/ccpreport/CcpActionMakesTradePinLaw" 28 := hheld _ (List.mem_of_getElem? (i := 0) rfl)
  have H39 : Jvm.Lit.constHeld s "com/example/tallywire/tallywire/ccpreport/CcpActionMakesTradePinLaw" 39 := hheld _ (List.mem_of_getElem? (i := 1) rfl)
  obtain ⟨n, o, h1, h2, h3, _, L, rfl, ⟨rfl, N⟩, hq⟩ := rm0 l s _ hw tables_1 i0 w_NEW w_CANCEL w_CONTRA s_NEW_label b_NEW_label s_NEW_fixValue b_NEW_fixValue s_CANCEL_label b_CANCEL_label s_CANCEL_fixValue b_CANCEL_fixValue s_CONTRA_label b_CONTRA_label s_CONTRA_fixValue b_CONTRA_fixValue cl_NEW_label.cls cl_NEW_fixValue.cls cl_CANCEL_label.cls cl_CANCEL_fixValue.cls cl_CONTRA_label.cls cl_CONTRA_fixValue.cls zc FF hcw H28 H39 p e ha hc hk s m _ below hf ((Spec.applies_iff_loose hf).mp happ).1 ⟨rfl, rfl⟩ trivial
  refine ⟨n, _, h1, h2, h3, hpost _ _ _ _ _ _ ⟨Cond.after_iff.mpr rfl, Cond.after_iff.mpr (eq_i res_at (Term.int_eval (1)) rfl), trivial⟩ ⟨hq.1, hq.2.1, hq.2.2.1, (hq.2.2.2.sift fun y hy => Or.inr (N y hy)).mono (by decide) (by decide)⟩⟩
theorem main_1_1 : Claimed_1_1 := comes_1 fun _ _ _ _ _ _ h hF => ⟨h.1, hF⟩
theorem main_1_2 : Claimed_1_2 := comes_1 fun _ _ _ _ _ _ h hF => ⟨h.2.1, hF⟩
end Jvm.Pilot.@@N@@
namespace Jvm.Pilot.@@N@@
open Jvm Jvm.ClassFile Sem Op Lib Jvm.Free Jvm.Stand Jvm.Pilot.@@N@@.Jvm.D
/-! MADE BY PROGRAM (witnessworld.py) out of the Statement's table words and the real class files: 18 classes; the members and pool entries that the words name. The judged class is class 1, her method 1. -/
namespace start1
open Jvm.ClassFile
def u (s : String) : CpInfo := .utf8 (stringToUtf16 s)
/-- a pool by its gaps: so many unusable entries, then the entry; so many at the end -/
def gap : Nat → List CpInfo → List CpInfo
  | 0, r => r
  | n + 1, r => .unusable :: gap n r
def poolList (es : List (Nat × CpInfo)) (last : Nat) : List CpInfo := es.foldr (fun e r => gap e.1 (e.2 :: r)) (gap last [])
def pool (es : List (Nat × CpInfo)) (last : Nat) : Array CpInfo := ⟨poolList es last⟩
def fileOf (pool : Array CpInfo) (this : Nat) (attrs : Array Attribute := #[]) (ms : Array MethodInfo := #[]) (fl : Nat := 33) (sup : Nat := 0) (ifs : Array Nat := #[]) (fds : Array FieldInfo := #[]) : ClassFile where
  minorVersion := 0
  majorVersion := 65
  constantPool := pool
  accessFlags := fl
  thisClass := this
  superClass := sup
  interfaces := ifs
  fields := fds
  methods := ms
  attributes := attrs
def plain (name : String) (sup : Option ClassId) : Class where
  name := name
  kind := .ordinary
  loader := none
  accessFlags := 33
  super := sup
  interfaces := #[]
  cf := none
  fields := #[]
  methods := #[]
  instanceTypes := #[]
  staticTypes := #[]
  resolved := #[]
  callSites := []
  init := .initialized
  statics := none
  mirror := none

def pool0 : Array CpInfo := pool [(5, u "<init>"), (0, u "()V"), (1, .class_ 10), (1, u "java/lang/Object")] 113

def k0m0 : Method := { name := "<init>", desc := "()V", sig := { parameters := [], returnType := none }, accessFlags := 1, code := none }
/-- java/lang/Object -/
def k0 : Class := { plain "java/lang/Object" none with
  accessFlags := 33
  interfaces := #[]
  cf := some (fileOf pool0 8 #[] #[{ accessFlags := 1, nameIndex := 5, descriptorIndex := 6, attributes := #[] }] 33 0 #[] #[])
  fields := #[]
  methods := #[k0m0]
  instanceTypes := #[]
  staticTypes := #[]
  resolved := Array.replicate 124 none
  statics := none }

def pool1 : Array CpInfo := pool [(2, .class_ 4), (1, u "java/lang/Object"), (0, u "<init>"), (0, u "()V"), (0, .integer 2147483647), (0, .fieldref 9 10), (0, .class_ 11), (0, .nameAndType 12 13), (0, u "com/example/tallywire/tallywire/ccpreport/CcpAction"), (0, u "NEW"), (0, u "Lcom/example/tallywire/tallywire/ccpreport/CcpAction;"), (0, .fieldref 9 15), (0, .nameAndType 16 13), (0, u "CANCEL"), (0, .fieldref 9 18), (0, .nameAndType 19 13), (0, u "CONTRA"), (0, .methodref 9 21), (0, .nameAndType 22 23), (0, u "makesTrade"), (0, u "()Z"), (0, .methodref 9 25), (0, .nameAndType 26 27), (0, u "label"), (0, u "()Ljava/lang/String;"), (0, .string 29), (0, u "cancel"), (0, .methodref 31 32), (0, .class_ 33), (0, .nameAndType 34 35), (0, u "java/lang/String"), (0, u "equals"), (0, u "(Ljava/lang/Object;)Z"), (0, .methodref 9 37), (0, .nameAndType 38 27), (0, u "fixValue"), (0, .string 40), (0, u "1"), (0, .methodref 9 42), (0, .nameAndType 43 23), (0, u "actsOnTrade"), (0, .class_ 45), (0, u "com/example/tallywire/tallywire/ccpreport/CcpActionMakesTradePinLaw"), (2, u "law"), (0, u "(I)Z")] 3

def k1m0 : Method := { name := "<init>", desc := "()V", sig := { parameters := [], returnType := none }, accessFlags := 1, code := none }
def k1c1 : Code := { maxStack := 2, maxLocals := 7, code := code, exceptionTable := #[], attributes := #[] }
def k1m1 : Method := { name := "law", desc := "(I)Z", sig := { parameters := [.int], returnType := some .boolean }, accessFlags := 9, code := some k1c1 }
/-- com/example/tallywire/tallywire/ccpreport/CcpActionMakesTradePinLaw -/
def k1 : Class := { plain "com/example/tallywire/tallywire/ccpreport/CcpActionMakesTradePinLaw" (some 0) with
  accessFlags := 49
  interfaces := #[]
  cf := some (fileOf pool1 44 #[] #[{ accessFlags := 1, nameIndex := 5, descriptorIndex := 6, attributes := #[] }, { accessFlags := 9, nameIndex := 48, descriptorIndex := 49, attributes := #[] }] 49 2 #[] #[])
  fields := #[]
  methods := #[k1m0, k1m1]
  instanceTypes := #[]
  staticTypes := #[]
  resolved := Array.replicate 53 none
  statics := none }

def pool2 : Array CpInfo := pool [(1, .class_ 2), (0, u "java/lang/constant/Constable"), (0, .class_ 4), (0, u "java/lang/Object")] 6

/-- java/lang/constant/Constable -/
def k2 : Class := { plain "java/lang/constant/Constable" (some 0) with
  accessFlags := 1537
  interfaces := #[]
  cf := some (fileOf pool2 1 #[] #[] 1537 3 #[] #[])
  fields := #[]
  methods := #[]
  instanceTypes := #[]
  staticTypes := #[]
  resolved := Array.replicate 11 none
  statics := none }

def pool3 : Array CpInfo := pool [(1, .class_ 2), (0, u "java/lang/Comparable"), (0, .class_ 4), (0, u "java/lang/Object")] 7

/-- java/lang/Comparable -/
def k3 : Class := { plain "java/lang/Comparable" (some 0) with
  accessFlags := 1537
  interfaces := #[]
  cf := some (fileOf pool3 1 #[] #[] 1537 3 #[] #[])
  fields := #[]
  methods := #[]
  instanceTypes := #[]
  staticTypes := #[]
  resolved := Array.replicate 12 none
  statics := none }

def pool4 : Array CpInfo := pool [(1, .class_ 2), (0, u "java/io/Serializable"), (0, .class_ 4), (0, u "java/lang/Object")] 2

/-- java/io/Serializable -/
def k4 : Class := { plain "java/io/Serializable" (some 0) with
  accessFlags := 1537
  interfaces := #[]
  cf := some (fileOf pool4 1 #[] #[] 1537 3 #[] #[])
  fields := #[]
  methods := #[]
  instanceTypes := #[]
  staticTypes := #[]
  resolved := Array.replicate 7 none
  statics := none }

def pool5 : Array CpInfo := pool [(2, .class_ 4), (1, u "java/lang/Enum"), (0, u "name"), (0, u "Ljava/lang/String;"), (2, u "ordinal"), (0, u "I"), (1, .class_ 14), (1, u "java/lang/Object"), (4, u "hash"), (86, .class_ 108), (1, u "java/lang/Enum$EnumDesc"), (2, .class_ 112), (0, u "java/lang/constant/Constable"), (0, .class_ 114), (0, u "java/lang/Comparable"), (0, .class_ 116), (0, u "java/io/Serializable")] 87

/-- java/lang/Enum -/
def k5 : Class := { plain "java/lang/Enum" (some 0) with
  accessFlags := 1057
  interfaces := #[2, 3, 4]
  cf := some (fileOf pool5 2 #[.nestMembers #[106]] #[] 1057 12 #[111, 113, 115] #[{ accessFlags := 18, nameIndex := 5, descriptorIndex := 6, attributes := #[] }, { accessFlags := 18, nameIndex := 9, descriptorIndex := 10, attributes := #[] }, { accessFlags := 2, nameIndex := 19, descriptorIndex := 10, attributes := #[] }])
  fields := #[{ name := "name", type := (.object "java/lang/String"), accessFlags := 18, slot := 0, constantValue := 0 }, { name := "ordinal", type := .int, accessFlags := 18, slot := 1, constantValue := 0 }, { name := "hash", type := .int, accessFlags := 2, slot := 2, constantValue := 0 }]
  methods := #[]
  instanceTypes := #[(.object "java/lang/String"), .int, .int]
  staticTypes := #[]
  resolved := Array.replicate 204 none
  statics := none }

def pool6 : Array CpInfo := pool [(1, .class_ 2), (0, u "com/example/tallywire/tallywire/ccpreport/CcpAction"), (0, .fieldref 1 4), (0, .nameAndType 5 6), (0, u "NEW"), (0, u "Lcom/example/tallywire/tallywire/ccpreport/CcpAction;"), (0, .fieldref 1 8), (0, .nameAndType 9 6), (0, u "CANCEL"), (2, u "CONTRA"), (2, u "$VALUES"), (0, u "[Lcom/example/tallywire/tallywire/ccpreport/CcpAction;"), (6, .class_ 25), (1, u "java/lang/Enum"), (6, .fieldref 1 33), (0, .nameAndType 34 35), (0, u "label"), (0, u "Ljava/lang/String;"), (0, .fieldref 1 37), (0, .nameAndType 38 35), (0, u "fixValue"), (15, u "()Ljava/lang/String;"), (30, u "actsOnTrade"), (0, u "()Z"), (1, u "makesTrade")] 8

def k6c0 : Code := { maxStack := 1, maxLocals := 1, code := prog_2_method_4_code, exceptionTable := #[], attributes := #[] }
def k6m0 : Method := { name := "label", desc := "()Ljava/lang/String;", sig := { parameters := [], returnType := some (.object "java/lang/String") }, accessFlags := 1, code := some k6c0 }
def k6c1 : Code := { maxStack := 1, maxLocals := 1, code := prog_2_method_5_code, exceptionTable := #[], attributes := #[] }
def k6m1 : Method := { name := "fixValue", desc := "()Ljava/lang/String;", sig := { parameters := [], returnType := some (.object "java/lang/String") }, accessFlags := 1, code := some k6c1 }
def k6c2 : Code := { maxStack := 2, maxLocals := 1, code := prog_2_method_6_code, exceptionTable := #[], attributes := #[] }
def k6m2 : Method := { name := "actsOnTrade", desc := "()Z", sig := { parameters := [], returnType := some .boolean }, accessFlags := 0, code := some k6c2 }
def k6c3 : Code := { maxStack := 2, maxLocals := 1, code := prog_2_method_7_code, exceptionTable := #[], attributes := #[] }
def k6m3 : Method := { name := "makesTrade", desc := "()Z", sig := { parameters := [], returnType := some .boolean }, accessFlags := 0, code := some k6c3 }
/-- com/example/tallywire/tallywire/ccpreport/CcpAction -/
def k6 : Class := { plain "com/example/tallywire/tallywire/ccpreport/CcpAction" (some 5) with
  accessFlags := 16433
  interfaces := #[]
  cf := some (fileOf pool6 1 #[] #[{ accessFlags := 1, nameIndex := 34, descriptorIndex := 54, attributes := #[] }, { accessFlags := 1, nameIndex := 38, descriptorIndex := 54, attributes := #[] }, { accessFlags := 0, nameIndex := 85, descriptorIndex := 86, attributes := #[] }, { accessFlags := 0, nameIndex := 88, descriptorIndex := 86, attributes := #[] }] 16433 23 #[] #[{ accessFlags := 16409, nameIndex := 5, descriptorIndex := 6, attributes := #[] }, { accessFlags := 16409, nameIndex := 9, descriptorIndex := 6, attributes := #[] }, { accessFlags := 16409, nameIndex := 12, descriptorIndex := 6, attributes := #[] }, { accessFlags := 18, nameIndex := 34, descriptorIndex := 35, attributes := #[] }, { accessFlags := 18, nameIndex := 38, descriptorIndex := 35, attributes := #[] }, { accessFlags := 4122, nameIndex := 15, descriptorIndex := 16, attributes := #[] }])
  fields := #[{ name := "NEW", type := (.object "com/example/tallywire/tallywire/ccpreport/CcpAction"), accessFlags := 16409, slot := 0, constantValue := 0 }, { name := "CANCEL", type := (.object "com/example/tallywire/tallywire/ccpreport/CcpAction"), accessFlags := 16409, slot := 1, constantValue := 0 }, { name := "CONTRA", type := (.object "com/example/tallywire/tallywire/ccpreport/CcpAction"), accessFlags := 16409, slot := 2, constantValue := 0 }, { name := "label", type := (.object "java/lang/String"), accessFlags := 18, slot := 3, constantValue := 0 }, { name := "fixValue", type := (.object "java/lang/String"), accessFlags := 18, slot := 4, constantValue := 0 }, { name := "$VALUES", type := (.array (.object "com/example/tallywire/tallywire/ccpreport/CcpAction")), accessFlags := 4122, slot := 3, constantValue := 0 }]
  methods := #[k6m0, k6m1, k6m2, k6m3]
  instanceTypes := #[(.object "java/lang/String"), .int, .int, (.object "java/lang/String"), (.object "java/lang/String")]
  staticTypes := #[(.object "com/example/tallywire/tallywire/ccpreport/CcpAction"), (.object "com/example/tallywire/tallywire/ccpreport/CcpAction"), (.object "com/example/tallywire/tallywire/ccpreport/CcpAction"), (.array (.object "com/example/tallywire/tallywire/ccpreport/CcpAction"))]
  resolved := Array.replicate 97 none
  statics := some 0 }

def pool7 : Array CpInfo := pool [(2, .class_ 4), (1, u "java/lang/CharSequence"), (42, .class_ 48), (0, u "java/lang/CharSequence$1CodePointIterator"), (10, .class_ 60), (0, u "java/lang/CharSequence$1CharIterator"), (5, .class_ 67), (0, u "java/lang/Object")] 63

/-- java/lang/CharSequence -/
def k7 : Class := { plain "java/lang/CharSequence" (some 0) with
  accessFlags := 1537
  interfaces := #[]
  cf := some (fileOf pool7 2 #[.nestMembers #[47, 59]] #[] 1537 66 #[] #[])
  fields := #[]
  methods := #[]
  instanceTypes := #[]
  staticTypes := #[]
  resolved := Array.replicate 131 none
  statics := none }

def pool8 : Array CpInfo := pool [(1, .class_ 2), (0, u "java/lang/constant/ConstantDesc"), (0, .class_ 4), (0, u "java/lang/Object")] 32

/-- java/lang/constant/ConstantDesc -/
def k8 : Class := { plain "java/lang/constant/ConstantDesc" (some 0) with
  accessFlags := 1537
  interfaces := #[]
  cf := some (fileOf pool8 1 #[] #[] 1537 3 #[] #[])
  fields := #[]
  methods := #[]
  instanceTypes := #[]
  staticTypes := #[]
  resolved := Array.replicate 37 none
  statics := none }

def pool9 : Array CpInfo := pool [(2, .class_ 4), (1, u "java/lang/Object"), (0, u "<init>"), (0, u "()V"), (2, .fieldref 10 11), (0, .class_ 12), (0, .nameAndType 13 14), (0, u "java/lang/String"), (0, u "value"), (0, u "[B"), (0, .fieldref 10 16), (0, .nameAndType 17 18), (0, u "coder"), (0, u "B"), (2, u "hash"), (0, u "I"), (2, u "hashIsZero"), (0, u "Z"), (11, .fieldref 10 39), (0, .nameAndType 40 26), (0, u "COMPACT_STRINGS"), (66, .class_ 109), (1, u "java/lang/StringLatin1"), (431, .methodref 107 542), (0, .nameAndType 543 544), (0, u "equals"), (0, u "([B[B)Z"), (28, u "(Ljava/lang/Object;)Z"), (1, .class_ 576), (0, u "java/lang/CharSequence"), (22, u "CASE_INSENSITIVE_ORDER"), (0, u "Ljava/util/Comparator;"), (500, u "serialPersistentFields"), (0, u "[Ljava/io/ObjectStreamField;"), (0, .class_ 1104), (0, u "java/lang/String$CaseInsensitiveComparator"), (1, .class_ 1107), (0, u "java/io/Serializable"), (0, .class_ 1109), (0, u "java/lang/Comparable"), (0, .class_ 1111), (0, u "java/lang/constant/Constable"), (0, .class_ 1113), (0, u "java/lang/constant/ConstantDesc"), (2, u "serialVersionUID"), (0, u "J"), (3, u "REPL"), (0, u "C"), (2, u "LATIN1"), (1, u "UTF16")] 323

def k9m0 : Method := { name := "<init>", desc := "()V", sig := { parameters := [], returnType := none }, accessFlags := 1, code := none }
def k9c1 : Code := { maxStack := 2, maxLocals := 3, code := jdk_42_method_66_code, exceptionTable := #[], attributes := #[] }
def k9m1 : Method := { name := "equals", desc := "(Ljava/lang/Object;)Z", sig := { parameters := [(.object "java/lang/Object")], returnType := some .boolean }, accessFlags := 1, code := some k9c1 }
/-- java/lang/String -/
def k9 : Class := { plain "java/lang/String" (some 0) with
  accessFlags := 49
  interfaces := #[4, 3, 7, 2, 8]
  cf := some (fileOf pool9 10 #[.nestMembers #[1103]] #[{ accessFlags := 1, nameIndex := 5, descriptorIndex := 6, attributes := #[] }, { accessFlags := 1, nameIndex := 543, descriptorIndex := 573, attributes := #[] }] 49 2 #[1106, 1108, 575, 1110, 1112] #[{ accessFlags := 18, nameIndex := 13, descriptorIndex := 14, attributes := #[] }, { accessFlags := 18, nameIndex := 17, descriptorIndex := 18, attributes := #[] }, { accessFlags := 2, nameIndex := 21, descriptorIndex := 22, attributes := #[] }, { accessFlags := 2, nameIndex := 25, descriptorIndex := 26, attributes := #[] }, { accessFlags := 26, nameIndex := 1116, descriptorIndex := 1117, attributes := #[] }, { accessFlags := 24, nameIndex := 40, descriptorIndex := 26, attributes := #[] }, { accessFlags := 26, nameIndex := 1101, descriptorIndex := 1102, attributes := #[] }, { accessFlags := 26, nameIndex := 1121, descriptorIndex := 1122, attributes := #[] }, { accessFlags := 25, nameIndex := 599, descriptorIndex := 600, attributes := #[] }, { accessFlags := 24, nameIndex := 1125, descriptorIndex := 18, attributes := #[] }, { accessFlags := 24, nameIndex := 1127, descriptorIndex := 18, attributes := #[] }])
  fields := #[{ name := "value", type := (.array .byte), accessFlags := 18, slot := 0, constantValue := 0 }, { name := "coder", type := .byte, accessFlags := 18, slot := 1, constantValue := 0 }, { name := "hash", type := .int, accessFlags := 2, slot := 2, constantValue := 0 }, { name := "hashIsZero", type := .boolean, accessFlags := 2, slot := 3, constantValue := 0 }, { name := "serialVersionUID", type := .long, accessFlags := 26, slot := 0, constantValue := 0 }, { name := "COMPACT_STRINGS", type := .boolean, accessFlags := 24, slot := 1, constantValue := 0 }, { name := "serialPersistentFields", type := (.array (.object "java/io/ObjectStreamField")), accessFlags := 26, slot := 2, constantValue := 0 }, { name := "REPL", type := .char, accessFlags := 26, slot := 3, constantValue := 0 }, { name := "CASE_INSENSITIVE_ORDER", type := (.object "java/util/Comparator"), accessFlags := 25, slot := 4, constantValue := 0 }, { name := "LATIN1", type := .byte, accessFlags := 24, slot := 5, constantValue := 0 }, { name := "UTF16", type := .byte, accessFlags := 24, slot := 6, constantValue := 0 }]
  methods := #[k9m0, k9m1]
  instanceTypes := #[(.array .byte), .byte, .int, .boolean]
  staticTypes := #[.long, .boolean, (.array (.object "java/io/ObjectStreamField")), .char, (.object "java/util/Comparator"), .byte, .byte]
  resolved := Array.replicate 1451 none
  statics := some 1 }

def pool10 : Array CpInfo := pool [(4, .class_ 6), (1, u "java/lang/Object"), (0, u "<init>"), (0, u "()V"), (5, .class_ 16), (1, u "java/lang/StringLatin1"), (104, u "$assertionsDisabled"), (0, u "Z"), (98, .class_ 223), (1, u "java/lang/StringLatin1$LinesSpliterator"), (57, u "equals"), (0, u "([B[B)Z"), (107, .class_ 391), (0, u "java/lang/StringLatin1$CharsSpliterator")] 3

def k10m0 : Method := { name := "<init>", desc := "()V", sig := { parameters := [], returnType := none }, accessFlags := 0, code := none }
def k10c1 : Code := { maxStack := 3, maxLocals := 3, code := jdk_43_method_13_code, exceptionTable := #[], attributes := #[] }
def k10m1 : Method := { name := "equals", desc := "([B[B)Z", sig := { parameters := [(.array .byte), (.array .byte)], returnType := some .boolean }, accessFlags := 9, code := some k10c1 }
/-- java/lang/StringLatin1 -/
def k10 : Class := { plain "java/lang/StringLatin1" (some 0) with
  accessFlags := 48
  interfaces := #[]
  cf := some (fileOf pool10 14 #[.nestMembers #[390, 221]] #[{ accessFlags := 0, nameIndex := 7, descriptorIndex := 8, attributes := #[] }, { accessFlags := 9, nameIndex := 281, descriptorIndex := 282, attributes := #[] }] 48 4 #[] #[{ accessFlags := 4120, nameIndex := 121, descriptorIndex := 122, attributes := #[] }])
  fields := #[{ name := "$assertionsDisabled", type := .boolean, accessFlags := 4120, slot := 0, constantValue := 0 }]
  methods := #[k10m0, k10m1]
  instanceTypes := #[]
  staticTypes := #[.boolean]
  resolved := Array.replicate 395 none
  statics := none }

def pool11 : Array CpInfo := pool [(2, .class_ 4), (1, u "java/lang/Object"), (0, u "<init>"), (0, u "()V"), (17, .class_ 26), (1, u "jdk/internal/util/Preconditions"), (28, .class_ 56), (0, u "jdk/internal/util/Preconditions$4"), (57, .class_ 115), (0, u "jdk/internal/util/Preconditions$1"), (7, u "SIOOBE_FORMATTER"), (0, u "Ljava/util/function/BiFunction;"), (0, .class_ 126), (0, u "jdk/internal/util/Preconditions$2"), (3, u "AIOOBE_FORMATTER"), (0, .class_ 132), (0, u "jdk/internal/util/Preconditions$3"), (3, u "IOOBE_FORMATTER")] 57

def k11m0 : Method := { name := "<init>", desc := "()V", sig := { parameters := [], returnType := none }, accessFlags := 1, code := none }
/-- jdk/internal/util/Preconditions -/
def k11 : Class := { plain "jdk/internal/util/Preconditions" (some 0) with
  accessFlags := 33
  interfaces := #[]
  cf := some (fileOf pool11 24 #[.nestMembers #[55, 131, 125, 114]] #[{ accessFlags := 1, nameIndex := 5, descriptorIndex := 6, attributes := #[] }] 33 2 #[] #[{ accessFlags := 25, nameIndex := 123, descriptorIndex := 124, attributes := #[] }, { accessFlags := 25, nameIndex := 130, descriptorIndex := 124, attributes := #[] }, { accessFlags := 25, nameIndex := 136, descriptorIndex := 124, attributes := #[] }])
  fields := #[{ name := "SIOOBE_FORMATTER", type := (.object "java/util/function/BiFunction"), accessFlags := 25, slot := 0, constantValue := 0 }, { name := "AIOOBE_FORMATTER", type := (.object "java/util/function/BiFunction"), accessFlags := 25, slot := 1, constantValue := 0 }, { name := "IOOBE_FORMATTER", type := (.object "java/util/function/BiFunction"), accessFlags := 25, slot := 2, constantValue := 0 }]
  methods := #[k11m0]
  instanceTypes := #[]
  staticTypes := #[(.object "java/util/function/BiFunction"), (.object "java/util/function/BiFunction"), (.object "java/util/function/BiFunction")]
  resolved := Array.replicate 194 none
  statics := some 2 }

def pool12 : Array CpInfo := pool [(9, u "<init>"), (6, .class_ 18), (1, u "java/lang/Object"), (0, u "()V"), (1, .class_ 23), (1, u "jdk/internal/util/ArraysSupport"), (0, u "LOG2_ARRAY_LONG_INDEX_SCALE"), (0, u "I"), (2, u "U"), (0, u "Ljdk/internal/misc/Unsafe;"), (8, u "BIG_ENDIAN"), (0, u "Z"), (8, u "LOG2_BYTE_BIT_SIZE"), (4, u "LOG2_ARRAY_INT_INDEX_SCALE"), (54, u "JLA"), (0, u "Ljdk/internal/access/JavaLangAccess;"), (11, u "LOG2_ARRAY_BOOLEAN_INDEX_SCALE"), (9, u "LOG2_ARRAY_BYTE_INDEX_SCALE"), (5, u "LOG2_ARRAY_CHAR_INDEX_SCALE"), (5, u "LOG2_ARRAY_SHORT_INDEX_SCALE"), (18, u "LOG2_ARRAY_FLOAT_INDEX_SCALE"), (24, u "LOG2_ARRAY_DOUBLE_INDEX_SCALE"), (89, u "T_BOOLEAN"), (2, u "T_CHAR"), (1, u "T_FLOAT"), (1, u "T_DOUBLE"), (1, u "T_BYTE"), (1, u "T_SHORT"), (1, u "T_INT"), (1, u "T_LONG"), (1, u "SOFT_MAX_ARRAY_LENGTH")] 83

def k12m0 : Method := { name := "<init>", desc := "()V", sig := { parameters := [], returnType := none }, accessFlags := 2, code := none }
/-- jdk/internal/util/ArraysSupport -/
def k12 : Class := { plain "jdk/internal/util/ArraysSupport" (some 0) with
  accessFlags := 33
  interfaces := #[]
  cf := some (fileOf pool12 21 #[] #[{ accessFlags := 2, nameIndex := 9, descriptorIndex := 19, attributes := #[] }] 33 16 #[] #[{ accessFlags := 24, nameIndex := 28, descriptorIndex := 29, attributes := #[] }, { accessFlags := 26, nameIndex := 38, descriptorIndex := 39, attributes := #[] }, { accessFlags := 25, nameIndex := 121, descriptorIndex := 25, attributes := #[] }, { accessFlags := 25, nameIndex := 131, descriptorIndex := 25, attributes := #[] }, { accessFlags := 25, nameIndex := 137, descriptorIndex := 25, attributes := #[] }, { accessFlags := 25, nameIndex := 143, descriptorIndex := 25, attributes := #[] }, { accessFlags := 25, nameIndex := 53, descriptorIndex := 25, attributes := #[] }, { accessFlags := 25, nameIndex := 24, descriptorIndex := 25, attributes := #[] }, { accessFlags := 25, nameIndex := 162, descriptorIndex := 25, attributes := #[] }, { accessFlags := 25, nameIndex := 187, descriptorIndex := 25, attributes := #[] }, { accessFlags := 26, nameIndex := 48, descriptorIndex := 25, attributes := #[] }, { accessFlags := 25, nameIndex := 277, descriptorIndex := 25, attributes := #[] }, { accessFlags := 25, nameIndex := 280, descriptorIndex := 25, attributes := #[] }, { accessFlags := 25, nameIndex := 282, descriptorIndex := 25, attributes := #[] }, { accessFlags := 25, nameIndex := 284, descriptorIndex := 25, attributes := #[] }, { accessFlags := 25, nameIndex := 286, descriptorIndex := 25, attributes := #[] }, { accessFlags := 25, nameIndex := 288, descriptorIndex := 25, attributes := #[] }, { accessFlags := 25, nameIndex := 290, descriptorIndex := 25, attributes := #[] }, { accessFlags := 25, nameIndex := 292, descriptorIndex := 25, attributes := #[] }, { accessFlags := 26, nameIndex := 108, descriptorIndex := 109, attributes := #[] }, { accessFlags := 25, nameIndex := 294, descriptorIndex := 25, attributes := #[] }])
  fields := #[{ name := "U", type := (.object "jdk/internal/misc/Unsafe"), accessFlags := 24, slot := 0, constantValue := 0 }, { name := "BIG_ENDIAN", type := .boolean, accessFlags := 26, slot := 1, constantValue := 0 }, { name := "LOG2_ARRAY_BOOLEAN_INDEX_SCALE", type := .int, accessFlags := 25, slot := 2, constantValue := 0 }, { name := "LOG2_ARRAY_BYTE_INDEX_SCALE", type := .int, accessFlags := 25, slot := 3, constantValue := 0 }, { name := "LOG2_ARRAY_CHAR_INDEX_SCALE", type := .int, accessFlags := 25, slot := 4, constantValue := 0 }, { name := "LOG2_ARRAY_SHORT_INDEX_SCALE", type := .int, accessFlags := 25, slot := 5, constantValue := 0 }, { name := "LOG2_ARRAY_INT_INDEX_SCALE", type := .int, accessFlags := 25, slot := 6, constantValue := 0 }, { name := "LOG2_ARRAY_LONG_INDEX_SCALE", type := .int, accessFlags := 25, slot := 7, constantValue := 0 }, { name := "LOG2_ARRAY_FLOAT_INDEX_SCALE", type := .int, accessFlags := 25, slot := 8, constantValue := 0 }, { name := "LOG2_ARRAY_DOUBLE_INDEX_SCALE", type := .int, accessFlags := 25, slot := 9, constantValue := 0 }, { name := "LOG2_BYTE_BIT_SIZE", type := .int, accessFlags := 26, slot := 10, constantValue := 0 }, { name := "T_BOOLEAN", type := .int, accessFlags := 25, slot := 11, constantValue := 0 }, { name := "T_CHAR", type := .int, accessFlags := 25, slot := 12, constantValue := 0 }, { name := "T_FLOAT", type := .int, accessFlags := 25, slot := 13, constantValue := 0 }, { name := "T_DOUBLE", type := .int, accessFlags := 25, slot := 14, constantValue := 0 }, { name := "T_BYTE", type := .int, accessFlags := 25, slot := 15, constantValue := 0 }, { name := "T_SHORT", type := .int, accessFlags := 25, slot := 16, constantValue := 0 }, { name := "T_INT", type := .int, accessFlags := 25, slot := 17, constantValue := 0 }, { name := "T_LONG", type := .int, accessFlags := 25, slot := 18, constantValue := 0 }, { name := "JLA", type := (.object "jdk/internal/access/JavaLangAccess"), accessFlags := 26, slot := 19, constantValue := 0 }, { name := "SOFT_MAX_ARRAY_LENGTH", type := .int, accessFlags := 25, slot := 20, constantValue := 0 }]
  methods := #[k12m0]
  instanceTypes := #[]
  staticTypes := #[(.object "jdk/internal/misc/Unsafe"), .boolean, .int, .int, .int, .int, .int, .int, .int, .int, .int, .int, .int, .int, .int, .int, .int, .int, .int, (.object "jdk/internal/access/JavaLangAccess"), .int]
  resolved := Array.replicate 378 none
  statics := none }

def pool13 : Array CpInfo := pool [(1, u "java/lang/Cloneable"), (0, .class_ 1), (0, u "java/lang/Object"), (0, .class_ 3)] 3

/-- java/lang/Cloneable -/
def k13 : Class := { plain "java/lang/Cloneable" (some 0) with
  accessFlags := 1537
  interfaces := #[]
  cf := some (fileOf pool13 2 #[] #[] 1537 4 #[] #[])
  fields := #[]
  methods := #[]
  instanceTypes := #[]
  staticTypes := #[]
  resolved := Array.replicate 8 none
  statics := none }

/-- the primitive byte -/
def k14 : Class := { plain "byte" none with kind := .primitive 'B', accessFlags := 0x411 }
/-- [B -/
def k15 : Class := { plain "[B" (some 0) with kind := .array 14 .byte, interfaces := #[13, 4], accessFlags := 1041 }

/-- the primitive int -/
def k16 : Class := { plain "int" none with kind := .primitive 'I', accessFlags := 0x411 }
/-- [I -/
def k17 : Class := { plain "[I" (some 0) with kind := .array 16 .int, interfaces := #[13, 4], accessFlags := 1041 }

def heap : Heap := #[{ cls := 6, slots := #[.ref 7, .ref 12, .ref 17, .null], vm := .statics 6 },
  { cls := 9, slots := #[.long 0, .int 1, .null, .int 0, .null, .int 0, .int 0], vm := .statics 9 },
  { cls := 11, slots := #[.null, .null, .null], vm := .statics 11 },
  { cls := 15, slots := #[.int 110, .int 101, .int 119], vm := .none },
  { cls := 9, slots := #[.ref 3, .int 0, .int 0, .int 0], vm := .none },
  { cls := 15, slots := #[.int 48], vm := .none },
  { cls := 9, slots := #[.ref 5, .int 0, .int 0, .int 0], vm := .none },
  { cls := 6, slots := #[.null, .int 0, .int 0, .ref 4, .ref 6], vm := .none },
  { cls := 15, slots := #[.int 99, .int 97, .int 110, .int 99, .int 101, .int 108], vm := .none },
  { cls := 9, slots := #[.ref 8, .int 0, .int 0, .int 0], vm := .none },
  { cls := 15, slots := #[.int 49], vm := .none },
  { cls := 9, slots := #[.ref 10, .int 0, .int 0, .int 0], vm := .none },
  { cls := 6, slots := #[.null, .int 1, .int 0, .ref 9, .ref 11], vm := .none },
  { cls := 15, slots := #[.int 99, .int 111, .int 110, .int 116, .int 114, .int 97], vm := .none },
  { cls := 9, slots := #[.ref 13, .int 0, .int 0, .int 0], vm := .none },
  { cls := 15, slots := #[.int 52], vm := .none },
  { cls := 9, slots := #[.ref 15, .int 0, .int 0, .int 0], vm := .none },
  { cls := 6, slots := #[.null, .int 2, .int 0, .ref 14, .ref 16], vm := .none }]
def classes : Array Class := #[k0, k1, k2, k3, k4, k5, k6, k7, k8, k9, k10, k11, k12, k13, k14, k15, k16, k17]
def interned : List (Array UInt16 × Addr) := []
def slotsUsed : Nat := 71
def theMethod : MethodId := ⟨1, 1⟩
def args0 : Array Value := #[.int 4]
def aboutOver (below : List Frame) : State where
  vm := { classes := classes, interned := interned.toArray }
  heap := heap
  slotsUsed := slotsUsed
  threads := #[{ frames := .invoking theMethod args0 :: below }]
def below0 : List Frame := [.native { method := ⟨0, 0⟩, args := #[] }]
def about1 : State := aboutOver below0
def p0 : Program := .bare "" "" ""
def e0 : Env := launch0.env 0 0 0
theorem w_frames : about1.frames = Frame.invoking theMethod args0 :: below0 := rfl
set_option maxRecDepth 65536 in
theorem w_args : argsFit about1.vm theMethod args0 = true := by decide +kernel
set_option maxRecDepth 65536 in
theorem w_heap : heapFits about1 = true := by decide +kernel
set_option maxRecDepth 65536 in
theorem w_runnable : about1.curStatus? = some .runnable := by decide +kernel
set_option maxRecDepth 65536 in
theorem w_alone : about1.alone = true := by decide +kernel
set_option maxRecDepth 65536 in
theorem w_named : about1.methodNamed? x = some theMethod := by decide +kernel
set_option maxRecDepth 65536 in
theorem w_hears : about1.hears theMethod below0 = true := by decide +kernel
set_option maxRecDepth 65536 in
theorem w_ripe : about1.ripe theMethod args0 below0 = true := by decide +kernel
theorem w_running : about1.status = .running := rfl
set_option maxRecDepth 65536 in
theorem w_room : about1.hasRoom e0.platform room_1 = true :=
  launch0.hasRoom_least _ room_1 (by decide +kernel) (by decide +kernel) (by decide +kernel) (by decide +kernel) (by decide +kernel) (by decide +kernel)
theorem allAtoms_all (ts : List Jvm.Cond) (a : Array Jvm.Value) (st : Jvm.State) : (allAtoms ts).before a st = ts.all (fun c => c.before a st) := by
  induction ts with
  | nil => rfl
  | cons c t ih =>
    show (Jvm.Cond.and c (allAtoms t)).before a st = _
    rw [Jvm.Cond.before_and, ih, List.all_cons]
def words1 : List Jvm.Cond := Jvm.Cond.code x code maxLocals ret :: tables_1
/-- a 'code' word, met by the world's own term for the bytes: nothing is compared byte by byte -/
theorem code_word {y : MethodName} {bytes : ByteArray} {mx : Nat} {rt : Option FieldType} {a : Array Value} {s : State} {m : MethodId} {meth : Method} {c : Code} (h1 : s.methodNamed? y = some m) (h2 : s.vm.method? m = some meth) (h3 : meth.code = some c) (h4 : c.code = bytes)
    (h5 : (c.maxLocals == mx && c.exceptionTable.isEmpty && decide (c.maxStack ≤ mostOperands) && decide (meth.sig.returnType = rt) && !meth.locks && decide (parseMethodDescriptor y.desc = some meth.sig)) = true) : (Jvm.Cond.code y bytes mx rt).before a s = true := by
  simp only [Bool.and_eq_true, beq_iff_eq, Bool.not_eq_true', decide_eq_true_eq] at h5
  obtain ⟨⟨⟨⟨⟨g1, g2⟩, g3⟩, g4⟩, g5⟩, g6⟩ := h5
  simp [Cond.before, Cond.holds, Cond.value, h1, h2, h3, h4, g1, g2, g3, g4, g5, g6]
def isCode : Jvm.Cond → Bool
  | .code _ _ _ _ => true
  | _ => false
theorem all_split {L : List Jvm.Cond} {P : Jvm.Cond → Bool} (h1 : L.all (fun c => isCode c || P c) = true) (h2 : ∀ c ∈ L.filter isCode, P c = true) : L.all P = true := by
  refine List.all_eq_true.mpr fun c hc => ?_
  have h := List.all_eq_true.mp h1 c hc
  rcases Bool.eq_false_or_eq_true (isCode c) with hi | hi
  · exact h2 c (List.mem_filter.mpr ⟨hc, hi⟩)
  · simpa [hi] using h
set_option maxRecDepth 65536 in
theorem w_c0 : (Jvm.Cond.code x code maxLocals ret).before args0 about1 = true := code_word (m := ⟨1, 1⟩) (meth := k1m1) (c := k1c1) (by decide +kernel) rfl rfl rfl (by decide +kernel)
set_option maxRecDepth 65536 in
theorem w_c1 : (Jvm.Cond.code ({ cls := "com/example/tallywire/tallywire/ccpreport/CcpAction", name := "makesTrade", desc := "()Z" } : Jvm.MethodName) prog_2_method_7_code (1 : Nat) (Option.some Jvm.ClassFile.FieldType.boolean)).before args0 about1 = true := code_word (m := ⟨6, 3⟩) (meth := k6m3) (c := k6c3) (by decide +kernel) rfl rfl rfl (by decide +kernel)
set_option maxRecDepth 65536 in
theorem w_c2 : (Jvm.Cond.code ({ cls := "com/example/tallywire/tallywire/ccpreport/CcpAction", name := "label", desc := "()Ljava/lang/String;" } : Jvm.MethodName) prog_2_method_4_code (1 : Nat) (Option.some (Jvm.ClassFile.FieldType.object "java/lang/String"))).before args0 about1 = true := code_word (m := ⟨6, 0⟩) (meth := k6m0) (c := k6c0) (by decide +kernel) rfl rfl rfl (by decide +kernel)
set_option maxRecDepth 65536 in
theorem w_c3 : (Jvm.Cond.code ({ cls := "java/lang/String", name := "equals", desc := "(Ljava/lang/Object;)Z" } : Jvm.MethodName) jdk_42_method_66_code (3 : Nat) (Option.some Jvm.ClassFile.FieldType.boolean)).before args0 about1 = true := code_word (m := ⟨9, 1⟩) (meth := k9m1) (c := k9c1) (by decide +kernel) rfl rfl rfl (by decide +kernel)
set_option maxRecDepth 65536 in
theorem w_c4 : (Jvm.Cond.code ({ cls := "java/lang/StringLatin1", name := "equals", desc := "([B[B)Z" } : Jvm.MethodName) jdk_43_method_13_code (3 : Nat) (Option.some Jvm.ClassFile.FieldType.boolean)).before args0 about1 = true := code_word (m := ⟨10, 1⟩) (meth := k10m1) (c := k10c1) (by decide +kernel) rfl rfl rfl (by decide +kernel)
set_option maxRecDepth 65536 in
theorem w_c5 : (Jvm.Cond.code ({ cls := "com/example/tallywire/tallywire/ccpreport/CcpAction", name := "fixValue", desc := "()Ljava/lang/String;" } : Jvm.MethodName) prog_2_method_5_code (1 : Nat) (Option.some (Jvm.ClassFile.FieldType.object "java/lang/String"))).before args0 about1 = true := code_word (m := ⟨6, 1⟩) (meth := k6m1) (c := k6c1) (by decide +kernel) rfl rfl rfl (by decide +kernel)
set_option maxRecDepth 65536 in
theorem w_c6 : (Jvm.Cond.code ({ cls := "com/example/tallywire/tallywire/ccpreport/CcpAction", name := "actsOnTrade", desc := "()Z" } : Jvm.MethodName) prog_2_method_6_code (1 : Nat) (Option.some Jvm.ClassFile.FieldType.boolean)).before args0 about1 = true := code_word (m := ⟨6, 2⟩) (meth := k6m2) (c := k6c2) (by decide +kernel) rfl rfl rfl (by decide +kernel)
def codes1 : List Jvm.Cond := [Jvm.Cond.code x code maxLocals ret, Jvm.Cond.code ({ cls := "com/example/tallywire/tallywire/ccpreport/CcpAction", name := "makesTrade", desc := "()Z" } : Jvm.MethodName) prog_2_method_7_code (1 : Nat) (Option.some Jvm.ClassFile.FieldType.boolean), Jvm.Cond.code ({ cls := "com/example/tallywire/tallywire/ccpreport/CcpAction", name := "label", desc := "()Ljava/lang/String;" } : Jvm.MethodName) prog_2_method_4_code (1 : Nat) (Option.some (Jvm.ClassFile.FieldType.object "java/lang/String")), Jvm.Cond.code ({ cls := "java/lang/String", name := "equals", desc := "(Ljava/lang/Object;)Z" } : Jvm.MethodName) jdk_42_method_66_code (3 : Nat) (Option.some Jvm.ClassFile.FieldType.boolean), Jvm.Cond.code ({ cls := "java/lang/StringLatin1", name := "equals", desc := "([B[B)Z" } : Jvm.MethodName) jdk_43_method_13_code (3 : Nat) (Option.some Jvm.ClassFile.FieldType.boolean), Jvm.Cond.code ({ cls := "com/example/tallywire/tallywire/ccpreport/CcpAction", name := "fixValue", desc := "()Ljava/lang/String;" } : Jvm.MethodName) prog_2_method_5_code (1 : Nat) (Option.some (Jvm.ClassFile.FieldType.object "java/lang/String")), Jvm.Cond.code ({ cls := "com/example/tallywire/tallywire/ccpreport/CcpAction", name := "actsOnTrade", desc := "()Z" } : Jvm.MethodName) prog_2_method_6_code (1 : Nat) (Option.some Jvm.ClassFile.FieldType.boolean)]
set_option maxRecDepth 65536 in
theorem codes_eq : words1.filter isCode = codes1 := rfl
theorem w_codes : ∀ c ∈ words1.filter isCode, c.before args0 about1 = true := by
  rw [codes_eq]
  intro c hc
  simp only [codes1, List.mem_cons, List.not_mem_nil, or_false] at hc
  rcases hc with rfl | rfl | rfl | rfl | rfl | rfl | rfl
  · exact w_c0
  · exact w_c1
  · exact w_c2
  · exact w_c3
  · exact w_c4
  · exact w_c5
  · exact w_c6
set_option maxRecDepth 65536 in
theorem w_t1 : (words1.take 24).all (fun c => isCode c || c.before args0 about1) = true := by decide +kernel
set_option maxRecDepth 65536 in
theorem w_t2 : ((words1.drop 24).take 24).all (fun c => isCode c || c.before args0 about1) = true := by decide +kernel
set_option maxRecDepth 65536 in
theorem w_t3 : ((words1.drop 24).drop 24).all (fun c => isCode c || c.before args0 about1) = true := by decide +kernel
theorem w_tables : (allAtoms (Jvm.Cond.code x code maxLocals ret :: tables_1)).before args0 about1 = true := by
  rw [allAtoms_all]
  show words1.all (fun c => c.before args0 about1) = true
  refine all_split ?_ w_codes
  rw [← List.take_append_drop 24 words1, List.all_append, w_t1, ← List.take_append_drop 24 (words1.drop 24), List.all_append, w_t2, w_t3]
  rfl
set_option maxRecDepth 65536 in
theorem w_rest : rest_1_c.before args0 about1 = true := by decide +kernel
set_option maxRecDepth 65536 in
theorem w_case : (Jvm.Cond.and given_1 narrow_1).before args0 about1 = true := by decide +kernel
set_option maxRecDepth 65536 in
theorem w_consts : constsHeld consts_1 about1 := Jvm.Lit.constsHeldB_iff.mp (by decide +kernel)
theorem w_applies : (headSpec (Jvm.Cond.code x code maxLocals ret :: tables_1) room_1).applies x e0.platform about1 = true :=
  (Spec.applies_iff w_frames).mpr ⟨w_running, w_runnable, w_alone, w_named, w_hears, w_ripe, w_room, w_tables⟩
theorem atStart : AtStart classFile x code maxLocals ret World_1 tables_1 room_1 Calls_1 rest_1 Pre_1 launch0 p0 e0 about1 theMethod args0 below0 :=
  ⟨lists_1, trivial, launch0.admits_env _ _ _, launch0.least_env, fairChoices_fair.cas, fairChoices_fair.clock, w_frames, w_args, w_heap, w_applies, ⟨w_consts, trivial⟩, w_rest, w_case⟩
end start1
theorem witness_1 : WitnessClaimed_1 := ⟨start1.p0, start1.e0, start1.about1, start1.theMethod, start1.args0, start1.below0, start1.atStart⟩
end Jvm.Pilot.@@N@@
