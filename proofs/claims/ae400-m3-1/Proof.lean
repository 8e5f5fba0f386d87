import JvmDerived
import JvmDerived.Pilot.@@N@@Statement
import JvmDerived.Pilot.@@N@@Code
set_option linter.unusedVariables false
set_option linter.unusedSimpArgs false
namespace Jvm.Pilot.@@N@@
open Jvm Jvm.ClassFile Sem Op Lib Jvm.Free Jvm.Stand Jvm.LawKit Jvm.RoadKit Bundle Jvm.Pilot.@@N@@.Jvm.D
/-! own_: A WALK AS A CHAIN OF 'Go': from T, with the frame g on top, the run comes to a state of which P holds. A fork (by_cases, rcases) may stand anywhere in the chain. -/
def Go (p : Program) (e : Env) (below : List Frame) (P : State → Prop) (T : State) (g : JFrame) : Prop := ∃ t, Steps p.tables e below (T.setTop g) t ∧ P t
/-- what a body owes at its end -/
def EndP (below : List Frame) (s : State) (Q : Option Value → Heap → List Loc → Prop) (ce sl : Nat) (t : State) : Prop := ∃ o, t.status = .running ∧ Ended t below o ∧ ∃ v L, o = .returned v ∧ Q v t.heap L ∧ FrameEnd s o t L ce sl
/-- a method's contract: called with as' on the heap h0 it returns, and Q holds of what it returns, the heap that it leaves and the places that it wrote -/
abbrev Does (l : Launch) (y : MethodName) (bytes : ByteArray) (maxL : Nat) (rt : Option FieldType) (ws : List Jvm.Cond) (rm : Room) (as' : Array Value) (Z : State) (h0 : Heap) (Q : Option Value → Heap → List Loc → Prop) : Prop :=
  MetFree l y (head1 (Jvm.Cond.code y bytes maxL rt :: ws) rm) (fun a U => a = as' ∧ Z.Warmed39 U.vm ∧ U.heap = h0) (fun _ _ _ _ _ => True) (fun _ U o U' => ∃ v L, o = .returned v ∧ Q v U'.heap L ∧ FrameEnd U o U' L rm.cells rm.slots)
section Own
variable {p : Program} {l : Launch} {e : Env} {R : Room} {s : State} {m : MethodId} {args : Array Value} {below : List Frame} {meth : Method} {c : Code} {T T' : State} {locs : List Loc} {cells slots : Nat} {P : State → Prop} {g g' : JFrame} {Z : State} {h h0 : Heap} {a0 as' : Array Value} {own : String} {index : Nat} {y z : MethodName} {bytes : ByteArray} {maxL : Nat} {rt : Option FieldType} {rm : Room} {ws : List Jvm.Cond} {Q : Option Value → Heap → List Loc → Prop} {ce sl W : Nat} {argsL rest : List Value}
theorem Go.st (hh : Go p e below P T' g') (st : ∀ t, Steps p.tables e below (T'.setTop g') t → Steps p.tables e below (T.setTop g) t) : Go p e below P T g := by
  obtain ⟨t, h1, h2⟩ := hh
  exact ⟨t, st t h1, h2⟩
theorem Go.cast (q : g = g') (hh : Go p e below P T g') : Go p e below P T g := q ▸ hh
theorem Go.ret {v : Option Value} (X : Stand p l e R s m args below meth c T locs cells slots) (hv : meth.sig.returnType = none → v = none) (hlocks : meth.locks = false) (hc : cells ≤ ce) (hs : slots ≤ sl) (hq : Q v T.heap locs)
    (st : ∀ fs, (∀ (f : JFrame) (acts : List Action), f.method = m → f.locked = none → f.entered = [] → (doReturn e (T.setTop f) acts v).1 = T.setFrames fs) → Steps p.tables e below (T.setTop g) (T.setFrames fs)) : Go p e below (EndP below s Q ce sl) T g := by
  obtain ⟨fs, hr, hrun, hended, hW, hsame⟩ := X.leave (v := v) hv hlocks
  exact ⟨_, st fs hr, _, hrun, hended, _, _, rfl, hq, ⟨_, rfl⟩, hW, hsame.mono hc hs⟩
/-- a value is returned -/
theorem Go.retV {w : Value} {t : FieldType} {i : Instr} {pc : Nat} {Ls : Array Slot} (X : Stand p l e R s m args below meth c T locs cells slots) (hx : p.tables.exec = Jvm.exec) (hret : meth.sig.returnType = some t) (hlocks : meth.locks = false) (hc : cells ≤ ce) (hs : slots ≤ sl) (hn : narrow t w = w)
    (hi : (i = .ireturn ∧ (t = .int ∨ t = .boolean ∨ t = .byte ∨ t = .char ∨ t = .short) ∧ ∃ z, w = .int z) ∨ (i = .lreturn ∧ t = .long ∧ ∃ z, w = .long z) ∨ (i = .dreturn ∧ t = .double ∧ ∃ z, w = .double z) ∨ (i = .freturn ∧ t = .float ∧ ∃ z, w = .float z) ∨ (i = .areturn ∧ t.isReference = true ∧ w.isRef = true))
    (hd : decode c.code pc = .ok (i, 1)) (hq : Q (some w) T.heap locs) : Go p e below (EndP below s Q ce sl) T (mkF m pc Ls (w :: rest)) :=
  Go.ret X (fun q => by rw [hret] at q; cases q) hlocks hc hs hq fun _ hr => retOut X hx hret hn hi hd hr
/-- nothing is returned -/
theorem Go.retU {pc : Nat} {Ls : Array Slot} (X : Stand p l e R s m args below meth c T locs cells slots) (hx : p.tables.exec = Jvm.exec) (hret : meth.sig.returnType = none) (hlocks : meth.locks = false) (hc : cells ≤ ce) (hs : slots ≤ sl)
    (hd : decode c.code pc = .ok (.return_, 1)) (hq : Q none T.heap locs) : Go p e below (EndP below s Q ce sl) T (mkF m pc Ls []) :=
  Go.ret X (fun _ => rfl) hlocks hc hs hq fun _ hr => X.returnOut hx hret hd hr
/-- a body that goes well has its contract -/
theorem Does.of (hp : plainFor y = true) (body : ∀ (p : Program) (e : Env) (s : State) (m : MethodId) (below : List Frame) (meth : Method) (c : Code) (s₁ : State), p.tables.exec = Jvm.exec → c.code = bytes → c.maxLocals = maxL → meth.sig.returnType = rt → meth.locks = false → s.vm.findClass y.cls = some m.cls → meth.name = y.name → Z.Warmed39 s.vm →
      Stand p l e rm s m as' below meth c s₁ [] 0 0 → s₁.heap = h0 → Go p e below (EndP below s Q rm.cells rm.slots) s₁ (entryFrame m as' maxL)) : Does l y bytes maxL rt ws rm as' Z h0 Q := by
  refine MetFree.of_bodySF hp hisR ?_
  intro p e s m args below meth c s₁ Bd hml0 hP hK
  obtain ⟨rfl, hZ, hh⟩ := hP
  obtain ⟨t, h1, o, h2, h3, h4⟩ := body p e s m below meth c s₁ Bd.exec Bd.bytes hml0 Bd.returns Bd.notSynchronized (findClass_of_methodNamed Bd.named) (name_of_methodNamed Bd.named Bd.method).1 hZ (Stand.of_body Bd) (by rw [← hh, Bd.state]; rfl)
  exact ⟨t, o, h1, h2, h3, h4⟩
/-- a static call by the callee's contract -/
theorem Go.callS (X : Stand p l e R s m args below meth c T locs cells slots) (hx : p.tables.exec = Jvm.exec) (hZ : Z.Warmed39 s.vm) (hown : s.vm.findClass own = some m.cls) (w1 : (Jvm.Cond.methodLink own index y).before a0 Z = true) (w2 : (Jvm.Cond.static y).before a0 Z = true) (w3 : (Jvm.Cond.initialized y.cls).before a0 Z = true) (w4 : (Jvm.Cond.code y bytes maxL rt).before a0 Z = true)
    (hy : y.cls ≠ "java/lang/invoke/MethodHandle" ∧ y.cls ≠ "java/lang/invoke/VarHandle") (D : Does l y bytes maxL rt [] rm argsL.toArray Z h Q) (eT : T.heap = h) (hf : rm.frames + 1 ≤ R.frames) (hl : W + (maxL + 11) + rm.locals ≤ R.locals) (hc : cells + rm.cells ≤ R.cells) (hs : slots + rm.slots ≤ R.slots)
    (hg : g.method = m) (hsize : g.locals.size = c.maxLocals) (hlen : ∀ sig, parseMethodDescriptor y.desc = some sig → argsL.length = sig.parameters.length) (hstack : g.stack = argsL.reverse ++ rest) (hW : 2 * g.monitorRoom + (rest.map fun v => v.category).sum ≤ W) (hdg : decode c.code g.pc = .ok (.invokestatic index, 3))
    (k : ∀ (v : Option Value) (T' : State) (L : List Loc), Stand p l e R s m args below meth c T' (locs ++ L) (cells + rm.cells) (slots + rm.slots) → Q v T'.heap L → Go p e below P T' { g with pc := g.pc + 3, stack := v.toList ++ rest }) : Go p e below P T g := by
  obtain ⟨v, _, ⟨T1, L1, k1, n1⟩, -, X1, ⟨Lc, hQ, l1, y1, z1⟩, st⟩ := Jvm.LawKit.callS X hx (y := y) hown (mvT hZ w1) (mvT hZ w2) (mvT hZ w3) (mvT hZ w4) hy (backOf (W := W) D hZ w4 w3 hf hl) (g := g) hg hsize (argsL := argsL) (rest := rest) hlen hstack hW hdg (fun _ _ => ⟨rfl, eT, hc, hs⟩)
  dsimp only [Pt.U, Pt.locs, Pt.cells, Pt.slots] at X1 l1 y1 z1 st hQ
  subst l1 y1 z1
  exact Go.st (k v T1 Lc X1 hQ) st
/-- a virtual call by the contract of the method that it selects -/
theorem Go.callV {C : String} {a : Addr} (X : Stand p l e R s m args below meth c T locs cells slots) (hx : p.tables.exec = Jvm.exec) (hZ : Z.Warmed39 s.vm) (hown : s.vm.findClass own = some m.cls) (w1 : (Jvm.Cond.methodLink own index y).before a0 Z = true) (w2 : (Jvm.Cond.declares y).before a0 Z = true) (w5 : (Jvm.Cond.selects C y y).before a0 Z = true) (w6 : (Jvm.Cond.instanceMethod y).before a0 Z = true) (w3 : (Jvm.Cond.initialized y.cls).before a0 Z = true) (w4 : (Jvm.Cond.code y bytes maxL rt).before a0 Z = true)
    (hy : y.cls ≠ "java/lang/invoke/MethodHandle" ∧ y.cls ≠ "java/lang/invoke/VarHandle") (A : Exa Z h a C) (D : Does l y bytes maxL rt [] rm (.ref a :: argsL).toArray Z h Q) (eT : T.heap = h) (hf : rm.frames + 1 ≤ R.frames) (hl : W + (maxL + 11) + rm.locals ≤ R.locals) (hc : cells + rm.cells ≤ R.cells) (hs : slots + rm.slots ≤ R.slots)
    (hg : g.method = m) (hsize : g.locals.size = c.maxLocals) (hlen : ∀ sig, parseMethodDescriptor y.desc = some sig → argsL.length = sig.parameters.length) (hstack : g.stack = argsL.reverse ++ .ref a :: rest) (hW : 2 * g.monitorRoom + (rest.map fun v => v.category).sum ≤ W) (hdg : decode c.code g.pc = .ok (.invokevirtual index, 3))
    (k : ∀ (v : Option Value) (T' : State) (L : List Loc), Stand p l e R s m args below meth c T' (locs ++ L) (cells + rm.cells) (slots + rm.slots) → Q v T'.heap L → Go p e below P T' { g with pc := g.pc + 3, stack := v.toList ++ rest }) : Go p e below P T g := by
  obtain ⟨cq, kq, qa, qb, qc⟩ := isOf hZ eT A
  obtain ⟨v, _, ⟨T1, L1, k1, n1⟩, -, X1, ⟨Lc, hQ, l1, y1, z1⟩, st⟩ := X.virtualBack hx (y := y) (z := y) hown (mvT hZ w1) (mvT hZ w2) (notFace_of_selects (args := #[]) (mvT hZ w5)) (mvT hZ w5) (mvT hZ w6) hy (backOf (W := W) D hZ w4 w3 hf hl) qa qc (g := g) hg hsize (Steps.refl _) (argsL := argsL) (rest := rest) hlen hstack hW hdg (fun _ _ => ⟨rfl, eT, hc, hs⟩)
  dsimp only [Pt.U, Pt.locs, Pt.cells, Pt.slots] at X1 l1 y1 z1 st hQ
  subst l1 y1 z1
  exact Go.st (k v T1 Lc X1 hQ) fun _ q => st.trans q
/-- a constructor by its contract -/
theorem Go.callI {a : Addr} (X : Stand p l e R s m args below meth c T locs cells slots) (hx : p.tables.exec = Jvm.exec) (hZ : Z.Warmed39 s.vm) (hown : s.vm.findClass own = some m.cls) (hin : y.name = "<init>") (w1 : (Jvm.Cond.methodLink own index y).before a0 Z = true) (w6 : (Jvm.Cond.instanceMethod y).before a0 Z = true) (w3 : (Jvm.Cond.initialized y.cls).before a0 Z = true) (w4 : (Jvm.Cond.code y bytes maxL none).before a0 Z = true)
    (hy : y.cls ≠ "java/lang/invoke/MethodHandle" ∧ y.cls ≠ "java/lang/invoke/VarHandle") (D : Does l y bytes maxL none [] rm (.ref a :: argsL).toArray Z h Q) (eT : T.heap = h) (hf : rm.frames + 1 ≤ R.frames) (hl : W + (maxL + 11) + rm.locals ≤ R.locals) (hc : cells + rm.cells ≤ R.cells) (hs : slots + rm.slots ≤ R.slots)
    (hg : g.method = m) (hsize : g.locals.size = c.maxLocals) (hlen : ∀ sig, parseMethodDescriptor y.desc = some sig → argsL.length = sig.parameters.length) (hstack : g.stack = argsL.reverse ++ .ref a :: rest) (hW : 2 * g.monitorRoom + (rest.map fun v => v.category).sum ≤ W) (hdg : decode c.code g.pc = .ok (.invokespecial index, 3))
    (k : ∀ (v : Option Value) (T' : State) (L : List Loc), Stand p l e R s m args below meth c T' (locs ++ L) (cells + rm.cells) (slots + rm.slots) → Q v T'.heap L → Go p e below P T' { g with pc := g.pc + 3, stack := v.toList ++ rest }) : Go p e below P T g := by
  obtain ⟨v, _, ⟨T1, L1, k1, n1⟩, -, X1, ⟨Lc, hQ, l1, y1, z1⟩, st⟩ := X.specialBack hx (y := y) hin hown (mvT hZ w1) (mvT hZ w6) (mvT hZ w4) hy (backOf (W := W) D hZ w4 w3 hf hl) (g := g) hg hsize (Steps.refl _) (a := a) (argsL := argsL) (rest := rest) hlen hstack hW hdg (fun _ _ => ⟨rfl, eT, hc, hs⟩)
  dsimp only [Pt.U, Pt.locs, Pt.cells, Pt.slots] at X1 l1 y1 z1 st hQ
  subst l1 y1 z1
  exact Go.st (k v T1 Lc X1 hQ) fun _ q => st.trans q
end Own
theorem own_i_eq {x y : Int32} {a b : Int} (hx : x.toInt = a) (hy : y.toInt = b) (q : a = b) : x = y := Int32.toInt_inj.mp (by rw [hx, hy, q])
theorem own_i_neq {x y : Int32} {a b : Int} (hx : x.toInt = a) (hy : y.toInt = b) (q : ¬ a = b) : ¬ x = y := fun r => q (by rw [← hx, ← hy, r])
theorem own_i_lt {x y : Int32} {a b : Int} (hx : x.toInt = a) (hy : y.toInt = b) (q : a < b) : x < y := by rw [Int32.lt_iff_toInt_lt, hx, hy]; exact q
theorem own_i_nlt {x y : Int32} {a b : Int} (hx : x.toInt = a) (hy : y.toInt = b) (q : ¬ a < b) : ¬ x < y := by rw [Int32.lt_iff_toInt_lt, hx, hy]; exact q
theorem own_l_eq {x y : Int64} {a b : Int} (hx : x.toInt = a) (hy : y.toInt = b) (q : a = b) : x = y := Int64.toInt_inj.mp (by rw [hx, hy, q])
theorem own_l_neq {x y : Int64} {a b : Int} (hx : x.toInt = a) (hy : y.toInt = b) (q : ¬ a = b) : ¬ x = y := fun r => q (by rw [← hx, ← hy, r])
theorem own_l_lt {x y : Int64} {a b : Int} (hx : x.toInt = a) (hy : y.toInt = b) (q : a < b) : x < y := by rw [Int64.lt_iff_toInt_lt, hx, hy]; exact q
theorem own_l_nlt {x y : Int64} {a b : Int} (hx : x.toInt = a) (hy : y.toInt = b) (q : ¬ a < b) : ¬ x < y := by rw [Int64.lt_iff_toInt_lt, hx, hy]; exact q
/-- a number in a field, out of the case's words -/
theorem own_fldInt {args : Array Value} {s : State} {t : Term} {a : Addr} {C n d : String} {k : Int32} (ht : t.eval args s none [] s = some (.ref a)) (hh : (Jvm.Cond.eq (.field t C n d) (.int k)).value args s none s [] = some true) : Fld s s.heap a C n d (.int k) := by
  refine Fld.start ?_
  simp only [Jvm.Cond.value, fld_at ht, Term.int_eval] at hh
  cases hf : s.fieldOf? a C n d with
  | none => simp [hf] at hh
  | some v => cases v <;> simp_all
section OwnArr
variable {p : Program} {l : Launch} {e : Env} {R : Room} {s : State} {m : MethodId} {args : Array Value} {below : List Frame} {meth : Method} {c : Code} {T : State} {locs : List Loc} {cells slots : Nat} {Z : State} {h h' : Heap} {a : Addr} {k : ClassId} {ty : FieldType} {z j : Int32} {vs : List Value} {dv v : Value} {g : JFrame} {rest : List Value}
theorem own_aaload (X : Stand p l e R s m args below meth c T locs cells slots) (hx : p.tables.exec = Jvm.exec) (hZ : Z.Warmed39 s.vm) (eT : T.heap = h) (F : Arv Z h a k ty z vs dv) (hty : ty.isReference = true) (hj : ¬ j < 0 ∧ j < z) (hv : vs.getD j.toNatClampNeg dv = v) (hg : g.method = m) (hs : g.stack = .int j :: .ref a :: rest) (hd : decode c.code g.pc = .ok (.aaload, 1)) :
    ∀ t, Steps p.tables e below (T.setTop { g with pc := g.pc + 1, stack := v :: rest }) t → Steps p.tables e below (T.setTop g) t := by
  obtain ⟨cl, A, q1, S, q3, H, G⟩ := F
  exact X.aaload hx (by rw [eT]; exact A.1) (State.isArrayOf_alike hZ.alike A.2.1) hty A.2.2 (inb_of S hj) (H.at (inb_of S hj) hv) hg hs hd
theorem own_iaload (X : Stand p l e R s m args below meth c T locs cells slots) (hx : p.tables.exec = Jvm.exec) (hZ : Z.Warmed39 s.vm) (eT : T.heap = h) (F : Arv Z h a k .int z vs dv) (hj : ¬ j < 0 ∧ j < z) (hv : vs.getD j.toNatClampNeg dv = v) (hg : g.method = m) (hs : g.stack = .int j :: .ref a :: rest) (hd : decode c.code g.pc = .ok (.iaload, 1)) :
    ∀ t, Steps p.tables e below (T.setTop { g with pc := g.pc + 1, stack := v :: rest }) t → Steps p.tables e below (T.setTop g) t := by
  obtain ⟨cl, A, q1, S, q3, H, G⟩ := F
  exact X.iaload hx (by rw [eT]; exact A.1) (State.isArrayOf_alike hZ.alike A.2.1) A.2.2 (inb_of S hj) (H.at (inb_of S hj) hv) hg hs hd
theorem own_laload (X : Stand p l e R s m args below meth c T locs cells slots) (hx : p.tables.exec = Jvm.exec) (hZ : Z.Warmed39 s.vm) (eT : T.heap = h) (F : Arv Z h a k .long z vs dv) (hj : ¬ j < 0 ∧ j < z) (hv : vs.getD j.toNatClampNeg dv = v) (hg : g.method = m) (hs : g.stack = .int j :: .ref a :: rest) (hd : decode c.code g.pc = .ok (.laload, 1)) :
    ∀ t, Steps p.tables e below (T.setTop { g with pc := g.pc + 1, stack := v :: rest }) t → Steps p.tables e below (T.setTop g) t := by
  obtain ⟨cl, A, q1, S, q3, H, G⟩ := F
  exact X.laload hx (by rw [eT]; exact A.1) (State.isArrayOf_alike hZ.alike A.2.1) A.2.2 (inb_of S hj) (H.at (inb_of S hj) hv) hg hs hd
theorem own_len (X : Stand p l e R s m args below meth c T locs cells slots) (hx : p.tables.exec = Jvm.exec) (hZ : Z.Warmed39 s.vm) (eT : T.heap = h) (F : Arv Z h a k ty z vs dv) (hg : g.method = m) (hs : g.stack = .ref a :: rest) (hd : decode c.code g.pc = .ok (.arraylength, 1)) :
    ∀ t, Steps p.tables e below (T.setTop { g with pc := g.pc + 1, stack := .int z :: rest }) t → Steps p.tables e below (T.setTop g) t := by
  obtain ⟨cl, A, q1, S, q3, H, G⟩ := F
  intro t q
  refine X.arraylength hx (by rw [eT]; exact A.1) (State.isArrayOf_alike hZ.alike A.2.1) hg hs hd _ ?_
  rw [len_of S q3]; exact q
theorem own_iastore {x : Int32} {i : Nat} (X : Stand p l e R s m args below meth c T locs cells slots) (hx : p.tables.exec = Jvm.exec) (hZ : Z.Warmed39 s.vm) (eT : T.heap = h) (F : Arv Z h a k .int z vs dv) (hj : ¬ j < 0 ∧ j < z) (hi : j.toNatClampNeg = i) (hl : i < vs.length) (hg : g.method = m) (hs : g.stack = .int x :: .int j :: .ref a :: rest) (hd : decode c.code g.pc = .ok (.iastore, 1)) :
    ∃ T' h', Stand p l e R s m args below meth c T' (locs ++ [⟨a, j.toNatClampNeg⟩]) cells slots ∧ T'.heap = h' ∧ Wr h h' a j.toNatClampNeg (.int x) ∧ Arv Z h' a k .int z (vs.set i (.int x)) dv ∧ ∀ t, Steps p.tables e below (T'.setTop { g with pc := g.pc + 1, stack := rest }) t → Steps p.tables e below (T.setTop g) t := by
  obtain ⟨cl, A, q1, S, q3, H, G⟩ := F
  obtain ⟨T', h', X', e', W, st⟩ := stI X hx hZ eT A (inb_of S hj) hg hs hd
  exact ⟨T', h', X', e', W, Arv.set A q1 S q3 H G rfl W i hi hl, st⟩
theorem own_lastore {x : Int64} {i : Nat} (X : Stand p l e R s m args below meth c T locs cells slots) (hx : p.tables.exec = Jvm.exec) (hZ : Z.Warmed39 s.vm) (eT : T.heap = h) (F : Arv Z h a k .long z vs dv) (hj : ¬ j < 0 ∧ j < z) (hi : j.toNatClampNeg = i) (hl : i < vs.length) (hg : g.method = m) (hs : g.stack = .long x :: .int j :: .ref a :: rest) (hd : decode c.code g.pc = .ok (.lastore, 1)) :
    ∃ T' h', Stand p l e R s m args below meth c T' (locs ++ [⟨a, j.toNatClampNeg⟩]) cells slots ∧ T'.heap = h' ∧ Wr h h' a j.toNatClampNeg (.long x) ∧ Arv Z h' a k .long z (vs.set i (.long x)) dv ∧ ∀ t, Steps p.tables e below (T'.setTop { g with pc := g.pc + 1, stack := rest }) t → Steps p.tables e below (T.setTop g) t := by
  obtain ⟨cl, A, q1, S, q3, H, G⟩ := F
  obtain ⟨T', h', X', e', W, st⟩ := stJ X hx hZ eT A (inb_of S hj) hg hs hd
  exact ⟨T', h', X', e', W, Arv.set A q1 S q3 H G rfl W i hi hl, st⟩
theorem own_aastore {C : String} {y : Addr} {i : Nat} (X : Stand p l e R s m args below meth c T locs cells slots) (hx : p.tables.exec = Jvm.exec) (hZ : Z.Warmed39 s.vm) (eT : T.heap = h) (F : Arv Z h a k ty z vs dv) (hty : ty.isReference = true) (hfit : fits ty (.ref y) = true) (O : Ovr Z k C) (I : Ins Z h y C true) (hj : ¬ j < 0 ∧ j < z) (hi : j.toNatClampNeg = i) (hl : i < vs.length) (hg : g.method = m) (hs : g.stack = .ref y :: .int j :: .ref a :: rest) (hd : decode c.code g.pc = .ok (.aastore, 1)) :
    ∃ T' h', Stand p l e R s m args below meth c T' (locs ++ [⟨a, j.toNatClampNeg⟩]) cells slots ∧ T'.heap = h' ∧ Wr h h' a j.toNatClampNeg (.ref y) ∧ Arv Z h' a k ty z (vs.set i (.ref y)) dv ∧ ∀ t, Steps p.tables e below (T'.setTop { g with pc := g.pc + 1, stack := rest }) t → Steps p.tables e below (T.setTop g) t := by
  obtain ⟨cl, A, q1, S, q3, H, G⟩ := F
  obtain ⟨T', h', X', e', W, st⟩ := stR X hx hZ eT A (inb_of S hj) hty (Sto.ofV A q1 O I) hg hs hd
  exact ⟨T', h', X', e', W, Arv.set A q1 S q3 H G hfit W i hi hl, st⟩
theorem own_daload (X : Stand p l e R s m args below meth c T locs cells slots) (hx : p.tables.exec = Jvm.exec) (hZ : Z.Warmed39 s.vm) (eT : T.heap = h) (F : Arv Z h a k .double z vs dv) (hj : ¬ j < 0 ∧ j < z) (hv : vs.getD j.toNatClampNeg dv = v) (hg : g.method = m) (hs : g.stack = .int j :: .ref a :: rest) (hd : decode c.code g.pc = .ok (.daload, 1)) :
    ∀ t, Steps p.tables e below (T.setTop { g with pc := g.pc + 1, stack := v :: rest }) t → Steps p.tables e below (T.setTop g) t := by
  obtain ⟨cl, A, q1, S, q3, H, G⟩ := F
  exact X.daload hx (by rw [eT]; exact A.1) (State.isArrayOf_alike hZ.alike A.2.1) A.2.2 (inb_of S hj) (H.at (inb_of S hj) hv) hg hs hd
theorem own_dastore {x : UInt64} {i : Nat} (X : Stand p l e R s m args below meth c T locs cells slots) (hx : p.tables.exec = Jvm.exec) (hZ : Z.Warmed39 s.vm) (eT : T.heap = h) (F : Arv Z h a k .double z vs dv) (hj : ¬ j < 0 ∧ j < z) (hi : j.toNatClampNeg = i) (hl : i < vs.length) (hg : g.method = m) (hs : g.stack = .double x :: .int j :: .ref a :: rest) (hd : decode c.code g.pc = .ok (.dastore, 1)) :
    ∃ T' h', Stand p l e R s m args below meth c T' (locs ++ [⟨a, j.toNatClampNeg⟩]) cells slots ∧ T'.heap = h' ∧ Wr h h' a j.toNatClampNeg (.double x) ∧ Arv Z h' a k .double z (vs.set i (.double x)) dv ∧ ∀ t, Steps p.tables e below (T'.setTop { g with pc := g.pc + 1, stack := rest }) t → Steps p.tables e below (T.setTop g) t := by
  obtain ⟨cl, A, q1, S, q3, H, G⟩ := F
  obtain ⟨T', h', X', e', W, st⟩ := stD X hx hZ eT A (inb_of S hj) hg hs hd
  exact ⟨T', h', X', e', W, Arv.set A q1 S q3 H G rfl W i hi hl, st⟩
end OwnArr
/-- the cell at x is no class's statics -/
def own_pl (h : Heap) (x : Addr) : Prop := ∃ c : Cell, h[x]? = some c ∧ c.vm.isStatics = false
theorem own_plE {Z : State} {h : Heap} {a : Addr} {C : String} (F : Exa Z h a C) : own_pl h a := by obtain ⟨c, _, h1, -, -, h4, -⟩ := F; exact ⟨c, h1, h4⟩
theorem own_plA {Z : State} {h : Heap} {a : Addr} {k : ClassId} {ty : FieldType} {z : Int32} {vs : List Value} {d : Value} (F : Arv Z h a k ty z vs d) : own_pl h a := by obtain ⟨c, A, -⟩ := F; exact ⟨c, A.1, A.plain⟩
theorem own_sta {Z : State} {h h' : Heap} {ws : List Addr} {C n d : String} {v : Value} (F : Sta Z h C n d v) (K : Keep h h' ws) (q : ∀ x ∈ ws, own_pl h x) : Sta Z h' C n d v := by
  obtain ⟨cf, i, k, f, st, cell, h1, h2, h3, h4, h5, h6, h7⟩ := F
  refine ⟨cf, i, k, f, st, cell, h1, h2, h3, h4, K.2.1 st cell h5 fun z => ?_, h6, h7⟩
  obtain ⟨c, e1, e2⟩ := q st z
  cases h5.symm.trans e1
  rw [e2] at h6; cases h6
theorem own_alen {args : Array Value} {s : State} {t : Term} {a : Addr} {cl : Cell} {ty : FieldType} {n : Int32} (ev : t.eval args s none [] s = some (.ref a)) (A : Arr s s.heap a cl ty) (hh : (Jvm.Cond.eq (.length t) (.int n)).value args s none s [] = some true) : cl.slots.size < 2 ^ 31 ∧ cl.slots.size.toInt32 = n := by
  have ha := Arr.fin (U := s) (Vm.Alike.refl _) A
  by_cases q : cl.slots.size < 2 ^ 31
  · refine ⟨q, ?_⟩
    have e := len_f ev ha q
    simp only [Jvm.Cond.value, e, Term.int_eval] at hh
    simpa using hh
  · exfalso
    have e : (Term.length t).eval args s none [] s = none := by simp [Term.eval, ev, ha]; omega
    simp [Jvm.Cond.value, e] at hh
theorem own_aelem {args : Array Value} {s : State} {t : Term} {a : Addr} {cl : Cell} {ty : FieldType} {j v : Int32} (ev : t.eval args s none [] s = some (.ref a)) (A : Arr s s.heap a cl ty) (hh : (Jvm.Cond.eq (.elem t (.int j)) (.int v)).value args s none s [] = some true) : cl.slots[j.toNatClampNeg]? = some (.int v) := by
  obtain ⟨x, y, e1, e2, k1, k2⟩ := cmp_v (Or.inl hh)
  have e3 : y = .int v := (Option.some.inj (e2.symm.trans (Term.int_eval v)))
  subst e3
  obtain ⟨z, rfl⟩ : ∃ z, x = .int z := k2
  have e4 : z = v := by
    simp only [Jvm.Cond.value, e1, e2] at hh
    simpa using hh
  subst e4
  exact (elem_in e1 ev (Term.int_eval j) A.1).2
/-- two Strings whose bytes differ are two objects -/
theorem own_strne {Z : State} {h : Heap} {a1 a2 b1 b2 : Addr} {k1 k2 : ClassId} {z1 z2 : Int32} {v1 v2 : List Value} {d : Value} (F1 : Fld Z h a1 "java/lang/String" "value" "[B" (.ref b1)) (F2 : Fld Z h a2 "java/lang/String" "value" "[B" (.ref b2)) (V1 : Arv Z h b1 k1 .byte z1 v1 d) (V2 : Arv Z h b2 k2 .byte z2 v2 d)
    (hd : ¬ z1 = z2 ∨ ∃ i, i < z1.toNatClampNeg ∧ ¬ v1.getD i d = v2.getD i d) : ¬ a1 = a2 := by
  refine Fld.ne F1 F2 fun q => ?_
  obtain rfl := Value.ref.inj q
  obtain ⟨c1, A1, -, S1, n1, H1, -⟩ := V1
  obtain ⟨c2, A2, -, S2, n2, H2, -⟩ := V2
  cases A1.1.symm.trans A2.1
  rcases hd with q | ⟨i, hi, q⟩
  · exact q (by rw [← len_of S1 n1, ← len_of S2 n2])
  · have e1 := H1 i (by omega)
    have e2 := H2 i (by omega)
    exact q (Option.some.inj (e1.symm.trans e2))
theorem own_baload {p : Program} {l : Launch} {e : Env} {R : Room} {s : State} {m : MethodId} {args : Array Value} {below : List Frame} {meth : Method} {c : Code} {T : State} {locs : List Loc} {cells slots : Nat} {Z : State} {h : Heap} {a : Addr} {k : ClassId} {z j : Int32} {vs : List Value} {dv v : Value} {g : JFrame} {rest : List Value} (X : Stand p l e R s m args below meth c T locs cells slots) (hx : p.tables.exec = Jvm.exec) (hZ : Z.Warmed39 s.vm) (eT : T.heap = h) (F : Arv Z h a k .byte z vs dv) (hj : ¬ j < 0 ∧ j < z) (hv : vs.getD j.toNatClampNeg dv = v) (hg : g.method = m) (hs : g.stack = .int j :: .ref a :: rest) (hd : decode c.code g.pc = .ok (.baload, 1)) :
    ∀ t, Steps p.tables e below (T.setTop { g with pc := g.pc + 1, stack := v :: rest }) t → Steps p.tables e below (T.setTop g) t := by
  obtain ⟨cl, A, q1, S, q3, H, G⟩ := F
  exact X.baloadBytes hx (by rw [eT]; exact A.1) (State.isArrayOf_alike hZ.alike A.2.1) A.2.2 (inb_of S hj) (H.at (inb_of S hj) hv) hg hs hd
section OwnW
variable {p : Program} {l : Launch} {e : Env} {R : Room} {s : State} {m : MethodId} {args : Array Value} {below : List Frame} {meth : Method} {c : Code} {T : State} {locs : List Loc} {cells slots : Nat} {Z : State} {as' : Array Value} {y : MethodName} {bytes : ByteArray} {maxL : Nat} {rt : Option FieldType} {rm : Room} {ws : List Jvm.Cond} {Q : Option Value → Heap → List Loc → Prop} {ce sl k0 : Nat} {rest : List Value} {vm0 : Vm}
/-- the same end where the walk may have interned texts -/
def EndPW (below : List Frame) (s : State) (Q : Option Value → Heap → List Loc → Prop) (ce sl : Nat) (t : State) : Prop := ∃ o, t.status = .running ∧ Ended t below o ∧ ∃ v L, o = .returned v ∧ Q v t.heap L ∧ ReturnedEndW s o t L ce sl
theorem Go.retVW {w : Value} {t : FieldType} {i : Instr} {pc : Nat} {Ls : Array Slot} (X : Stand p l e R (s.setVm vm0) m args below meth c T locs cells slots) (hx : p.tables.exec = Jvm.exec) (hS : s.Since vm0 k0) (hk : k0 ≤ T.heap.size) (hret : meth.sig.returnType = some t) (hlocks : meth.locks = false) (hc : cells ≤ ce) (hs : slots ≤ sl) (hn : narrow t w = w)
    (hi : (i = .ireturn ∧ (t = .int ∨ t = .boolean ∨ t = .byte ∨ t = .char ∨ t = .short) ∧ ∃ z, w = .int z) ∨ (i = .lreturn ∧ t = .long ∧ ∃ z, w = .long z) ∨ (i = .dreturn ∧ t = .double ∧ ∃ z, w = .double z) ∨ (i = .freturn ∧ t = .float ∧ ∃ z, w = .float z) ∨ (i = .areturn ∧ t.isReference = true ∧ w.isRef = true))
    (hd : decode c.code pc = .ok (i, 1)) (hq : Q (some w) T.heap locs) : Go p e below (EndPW below s Q ce sl) T (mkF m pc Ls (w :: rest)) := by
  obtain ⟨fs, hr, hrun, hended, hE⟩ := X.leaveW hS hk (v := some w) (fun q => by rw [hret] at q; cases q) hlocks
  exact ⟨_, retOut X hx hret hn hi hd hr, _, hrun, hended, _, _, rfl, hq, hE.1, hE.2.1, hE.2.2.1, hE.2.2.2.mono hc hs⟩
theorem Go.retUW {pc : Nat} {Ls : Array Slot} (X : Stand p l e R (s.setVm vm0) m args below meth c T locs cells slots) (hx : p.tables.exec = Jvm.exec) (hS : s.Since vm0 k0) (hk : k0 ≤ T.heap.size) (hret : meth.sig.returnType = none) (hlocks : meth.locks = false) (hc : cells ≤ ce) (hs : slots ≤ sl)
    (hd : decode c.code pc = .ok (.return_, 1)) (hq : Q none T.heap locs) : Go p e below (EndPW below s Q ce sl) T (mkF m pc Ls []) := by
  obtain ⟨fs, hr, hrun, hended, hE⟩ := X.leaveW hS hk (v := none) (fun _ => rfl) hlocks
  exact ⟨_, X.returnOut hx hret hd hr, _, hrun, hended, _, _, rfl, hq, hE.1, hE.2.1, hE.2.2.1, hE.2.2.2.mono hc hs⟩
/-- the law's own contract, said of its very start -/
abbrev LawDoes (l : Launch) (y : MethodName) (bytes : ByteArray) (maxL : Nat) (rt : Option FieldType) (ws : List Jvm.Cond) (rm : Room) (as' : Array Value) (Z : State) (Q : Option Value → Heap → List Loc → Prop) : Prop :=
  MetFree l y (head1 (Jvm.Cond.code y bytes maxL rt :: ws) rm) (fun a U => a = as' ∧ U = Z) (fun _ _ _ _ _ => True) (fun _ U o U' => ∃ v L, o = .returned v ∧ Q v U'.heap L ∧ ReturnedEndW U o U' L rm.cells rm.slots)
theorem LawDoes.of (hp : plainFor y = true) (body : ∀ (p : Program) (e : Env) (m : MethodId) (below : List Frame) (meth : Method) (c : Code) (s₁ : State), p.tables.exec = Jvm.exec → c.code = bytes → c.maxLocals = maxL → meth.sig.returnType = rt → meth.locks = false → Z.vm.findClass y.cls = some m.cls → meth.name = y.name →
      Stand p l e rm (Z.setVm Z.vm) m as' below meth c s₁ [] 0 0 → s₁.heap = Z.heap → Go p e below (EndPW below Z Q rm.cells rm.slots) s₁ (entryFrame m as' maxL)) : LawDoes l y bytes maxL rt ws rm as' Z Q := by
  refine MetFree.of_bodySF hp hisR ?_
  intro p e s m args below meth c s₁ Bd hml0 hP hK
  obtain ⟨rfl, rfl⟩ := hP
  obtain ⟨t, h1, o, h2, h3, h4⟩ := body p e m below meth c s₁ Bd.exec Bd.bytes hml0 Bd.returns Bd.notSynchronized (findClass_of_methodNamed Bd.named) (name_of_methodNamed Bd.named Bd.method).1 (Stand.of_body Bd) (by rw [Bd.state]; rfl)
  exact ⟨t, o, h1, h2, h3, h4⟩
end OwnW
section OwnStr
variable {p : Program} {l : Launch} {e : Env} {R : Room} {s : State} {m : MethodId} {args : Array Value} {below : List Frame} {meth : Method} {c : Code} {T : State} {locs : List Loc} {cells slots : Nat} {Z : State} {h h0 : Heap} {a : Addr} {k : ClassId} {z j x : Int32} {vs : List Value} {dv v : Value} {g : JFrame} {rest argsL : List Value} {i : Nat}
  {as' a0 : Array Value} {y : MethodName} {bytes : ByteArray} {maxL : Nat} {rt : Option FieldType} {rm : Room} {ws : List Jvm.Cond} {Q : Option Value → Heap → List Loc → Prop} {ce sl k0 W index : Nat} {vm0 : Vm} {own : String} {P : State → Prop}
theorem own_caload (X : Stand p l e R s m args below meth c T locs cells slots) (hx : p.tables.exec = Jvm.exec) (hZ : Z.Warmed39 s.vm) (eT : T.heap = h) (F : Arv Z h a k .char z vs dv) (hj : ¬ j < 0 ∧ j < z) (hv : vs.getD j.toNatClampNeg dv = v) (hg : g.method = m) (hs : g.stack = .int j :: .ref a :: rest) (hd : decode c.code g.pc = .ok (.caload, 1)) :
    ∀ t, Steps p.tables e below (T.setTop { g with pc := g.pc + 1, stack := v :: rest }) t → Steps p.tables e below (T.setTop g) t := by
  obtain ⟨cl, A, q1, S, q3, H, G⟩ := F
  exact X.caload hx (by rw [eT]; exact A.1) (State.isArrayOf_alike hZ.alike A.2.1) A.2.2 (inb_of S hj) (H.at (inb_of S hj) hv) hg hs hd
theorem own_castore (hn : nar .char x = x) (X : Stand p l e R s m args below meth c T locs cells slots) (hx : p.tables.exec = Jvm.exec) (hZ : Z.Warmed39 s.vm) (eT : T.heap = h) (F : Arv Z h a k .char z vs dv) (hj : ¬ j < 0 ∧ j < z) (hi : j.toNatClampNeg = i) (hl : i < vs.length) (hg : g.method = m) (hs : g.stack = .int x :: .int j :: .ref a :: rest) (hd : decode c.code g.pc = .ok (.castore, 1)) :
    ∃ T' h', Stand p l e R s m args below meth c T' (locs ++ [⟨a, j.toNatClampNeg⟩]) cells slots ∧ T'.heap = h' ∧ Wr h h' a j.toNatClampNeg (.int x) ∧ Arv Z h' a k .char z (vs.set i (.int x)) dv ∧ ∀ t, Steps p.tables e below (T'.setTop { g with pc := g.pc + 1, stack := rest }) t → Steps p.tables e below (T.setTop g) t := by
  obtain ⟨cl, A, q1, S, q3, H, G⟩ := F
  obtain ⟨T', h', X', e', W, st⟩ := stC X hx hZ eT A (inb_of S hj) hg hs hd
  rw [hn] at W
  exact ⟨T', h', X', e', W, Arv.set A q1 S q3 H G (hn ▸ fits_nar_char x) W i hi hl, st⟩
theorem own_bastore (hn : nar .byte x = x) (X : Stand p l e R s m args below meth c T locs cells slots) (hx : p.tables.exec = Jvm.exec) (hZ : Z.Warmed39 s.vm) (eT : T.heap = h) (F : Arv Z h a k .byte z vs dv) (hj : ¬ j < 0 ∧ j < z) (hi : j.toNatClampNeg = i) (hl : i < vs.length) (hg : g.method = m) (hs : g.stack = .int x :: .int j :: .ref a :: rest) (hd : decode c.code g.pc = .ok (.bastore, 1)) :
    ∃ T' h', Stand p l e R s m args below meth c T' (locs ++ [⟨a, j.toNatClampNeg⟩]) cells slots ∧ T'.heap = h' ∧ Wr h h' a j.toNatClampNeg (.int x) ∧ Arv Z h' a k .byte z (vs.set i (.int x)) dv ∧ ∀ t, Steps p.tables e below (T'.setTop { g with pc := g.pc + 1, stack := rest }) t → Steps p.tables e below (T.setTop g) t := by
  obtain ⟨cl, A, q1, S, q3, H, G⟩ := F
  obtain ⟨T', h', X', e', W, st⟩ := stB X hx hZ eT A (inb_of S hj) hg hs hd
  have hn' : x.toInt8.toInt32 = x := hn
  have W' : Wr h h' a j.toNatClampNeg (.int x) := by simpa only [nar, hn'] using W
  exact ⟨T', h', X', e', W', Arv.set A q1 S q3 H G (hn' ▸ fits_nar_byte x) W' i hi hl, st⟩
theorem own_narc (h0 : 0 ≤ x.toInt) (h1 : x.toInt < 65536) : nar .char x = x := by
  obtain ⟨q1, q2, q3⟩ := c_i2c x
  show x.toUInt32.toUInt16.toUInt32.toInt32 = x
  exact Int32.toInt_inj.mp (by omega)
theorem own_narb (x : Int32) : nar .byte x.toInt8.toInt32 = x.toInt8.toInt32 := by simp [nar]
/-- a contract whose end may have interned texts -/
abbrev DoesW (l : Launch) (y : MethodName) (bytes : ByteArray) (maxL : Nat) (rt : Option FieldType) (ws : List Jvm.Cond) (rm : Room) (as' : Array Value) (Z : State) (h0 : Heap) (Q : Option Value → Heap → List Loc → Prop) : Prop :=
  MetFree l y (head1 (Jvm.Cond.code y bytes maxL rt :: ws) rm) (fun a U => a = as' ∧ Z.Warmed39 U.vm ∧ U.heap = h0) (fun _ _ _ _ _ => True) (fun _ U o U' => ∃ v L, o = .returned v ∧ Q v U'.heap L ∧ ReturnedEndW U o U' L rm.cells rm.slots)
theorem DoesW.of (hp : plainFor y = true) (body : ∀ (p : Program) (e : Env) (s : State) (m : MethodId) (below : List Frame) (meth : Method) (c : Code) (s₁ : State), p.tables.exec = Jvm.exec → c.code = bytes → c.maxLocals = maxL → meth.sig.returnType = rt → meth.locks = false → s.vm.findClass y.cls = some m.cls → meth.name = y.name → Z.Warmed39 s.vm → s.Since s.vm 0 →
      Stand p l e rm (s.setVm s.vm) m as' below meth c s₁ [] 0 0 → s₁.heap = h0 → Go p e below (EndPW below s Q rm.cells rm.slots) s₁ (entryFrame m as' maxL)) : DoesW l y bytes maxL rt ws rm as' Z h0 Q := by
  refine MetFree.of_bodySF hp hisR ?_
  intro p e s m args below meth c s₁ Bd hml0 hP hK
  obtain ⟨rfl, hZ, hh⟩ := hP
  obtain ⟨t, h1, o, h2, h3, h4⟩ := body p e s m below meth c s₁ Bd.exec Bd.bytes hml0 Bd.returns Bd.notSynchronized (findClass_of_methodNamed Bd.named) (name_of_methodNamed Bd.named Bd.method).1 hZ ((State.WarmedH.refl s).since 0) (Stand.of_body Bd) (by rw [← hh, Bd.state]; rfl)
  exact ⟨t, o, h1, h2, h3, h4⟩
theorem Go.callSW (X : Stand p l e R (s.setVm vm0) m args below meth c T locs cells slots) (hx : p.tables.exec = Jvm.exec) (hZ : Z.Warmed39 vm0) (hown : vm0.findClass own = some m.cls) (w1 : (Jvm.Cond.methodLink own index y).before a0 Z = true) (w2 : (Jvm.Cond.static y).before a0 Z = true) (w3 : (Jvm.Cond.initialized y.cls).before a0 Z = true) (w4 : (Jvm.Cond.code y bytes maxL rt).before a0 Z = true)
    (hy : y.cls ≠ "java/lang/invoke/MethodHandle" ∧ y.cls ≠ "java/lang/invoke/VarHandle") (D : DoesW l y bytes maxL rt [] rm argsL.toArray Z h Q) (eT : T.heap = h) (hS : s.Since vm0 k0) (hk : k0 ≤ h.size) (hf : rm.frames + 1 ≤ R.frames) (hl : W + (maxL + 11) + rm.locals ≤ R.locals) (hc : cells + rm.cells ≤ R.cells) (hs : slots + rm.slots ≤ R.slots)
    (hg : g.method = m) (hsize : g.locals.size = c.maxLocals) (hlen : ∀ sig, parseMethodDescriptor y.desc = some sig → argsL.length = sig.parameters.length) (hstack : g.stack = argsL.reverse ++ rest) (hW : 2 * g.monitorRoom + (rest.map fun v => v.category).sum ≤ W) (hdg : decode c.code g.pc = .ok (.invokestatic index, 3))
    (kk : ∀ (v : Option Value) (T' : State) (L : List Loc), Stand p l e R (s.setVm T'.vm) m args below meth c T' (locs ++ L) (cells + rm.cells) (slots + rm.slots) → s.Since T'.vm T'.heap.size → Z.Warmed39 T'.vm → T'.vm.findClass own = some m.cls → Q v T'.heap L → Go p e below P T' { g with pc := g.pc + 3, stack := v.toList ++ rest }) : Go p e below P T g := by
  obtain ⟨v, _, ⟨T1, L1, k1, n1⟩, -, X1, S1, G1, ⟨Lc, hQ, l1, y1, z1⟩, st⟩ := callSS X hx (y := y) hown (mvT (s := s.setVm vm0) hZ w1) (mvT (s := s.setVm vm0) hZ w2) (mvT (s := s.setVm vm0) hZ w3) (mvT (s := s.setVm vm0) hZ w4) hy (backOfS (W := W) D (s := s.setVm vm0) hZ w4 w3 hf hl) (g := g) hg hsize (argsL := argsL) (rest := rest) hlen hstack hW hdg (fun _ _ => ⟨rfl, eT, hc, hs⟩)
  dsimp only [Pt.U, Pt.locs, Pt.cells, Pt.slots] at X1 S1 G1 l1 y1 z1 st hQ
  subst l1 y1 z1
  exact Go.st (kk v T1 Lc X1 (foldS hS (by rw [eT]; exact hk) S1 G1) (State.Warmed39.trans (t := s.setVm vm0) hZ S1.1) (by rw [S1.1.alike.findClass]; exact hown) hQ) fun _ q => st.trans q
theorem Go.callIW (X : Stand p l e R (s.setVm vm0) m args below meth c T locs cells slots) (hx : p.tables.exec = Jvm.exec) (hZ : Z.Warmed39 vm0) (hown : vm0.findClass own = some m.cls) (hin : y.name = "<init>") (w1 : (Jvm.Cond.methodLink own index y).before a0 Z = true) (w6 : (Jvm.Cond.instanceMethod y).before a0 Z = true) (w3 : (Jvm.Cond.initialized y.cls).before a0 Z = true) (w4 : (Jvm.Cond.code y bytes maxL none).before a0 Z = true)
    (hy : y.cls ≠ "java/lang/invoke/MethodHandle" ∧ y.cls ≠ "java/lang/invoke/VarHandle") (D : DoesW l y bytes maxL none [] rm (.ref a :: argsL).toArray Z h Q) (eT : T.heap = h) (hS : s.Since vm0 k0) (hk : k0 ≤ h.size) (hf : rm.frames + 1 ≤ R.frames) (hl : W + (maxL + 11) + rm.locals ≤ R.locals) (hc : cells + rm.cells ≤ R.cells) (hs : slots + rm.slots ≤ R.slots)
    (hg : g.method = m) (hsize : g.locals.size = c.maxLocals) (hlen : ∀ sig, parseMethodDescriptor y.desc = some sig → argsL.length = sig.parameters.length) (hstack : g.stack = argsL.reverse ++ .ref a :: rest) (hW : 2 * g.monitorRoom + (rest.map fun v => v.category).sum ≤ W) (hdg : decode c.code g.pc = .ok (.invokespecial index, 3))
    (kk : ∀ (v : Option Value) (T' : State) (L : List Loc), Stand p l e R (s.setVm T'.vm) m args below meth c T' (locs ++ L) (cells + rm.cells) (slots + rm.slots) → s.Since T'.vm T'.heap.size → Z.Warmed39 T'.vm → T'.vm.findClass own = some m.cls → Q v T'.heap L → Go p e below P T' { g with pc := g.pc + 3, stack := v.toList ++ rest }) : Go p e below P T g := by
  obtain ⟨v, _, ⟨T1, L1, k1, n1⟩, -, X1, S1, G1, ⟨Lc, hQ, l1, y1, z1⟩, st⟩ := X.specialBackS hx (y := y) hin hown (mvT (s := s.setVm vm0) hZ w1) (mvT (s := s.setVm vm0) hZ w6) (mvT (s := s.setVm vm0) hZ w4) hy (backOfS (W := W) D (s := s.setVm vm0) hZ w4 w3 hf hl) (g := g) hg hsize (Steps.refl _) (a := a) (argsL := argsL) (rest := rest) hlen hstack hW hdg (fun _ _ => ⟨rfl, eT, hc, hs⟩)
  dsimp only [Pt.U, Pt.locs, Pt.cells, Pt.slots] at X1 S1 G1 l1 y1 z1 st hQ
  subst l1 y1 z1
  exact Go.st (kk v T1 Lc X1 (foldS hS (by rw [eT]; exact hk) S1 G1) (State.Warmed39.trans (t := s.setVm vm0) hZ S1.1) (by rw [S1.1.alike.findClass]; exact hown) hQ) fun _ q => st.trans q
end OwnStr
theorem d_jdk_52_method_15_code_0 : decode jdk_52_method_15_code 0 = .ok (.iload_n 1, 1) := by decide +kernel
theorem d_jdk_52_method_15_code_1 : decode jdk_52_method_15_code 1 = .ok (.aload_n 0, 1) := by decide +kernel
theorem d_jdk_52_method_15_code_2 : decode jdk_52_method_15_code 2 = .ok (.arraylength, 1) := by decide +kernel
theorem d_jdk_52_method_15_code_3 : decode jdk_52_method_15_code 3 = .ok (.isub, 1) := by decide +kernel
theorem d_jdk_52_method_15_code_4 : decode jdk_52_method_15_code 4 = .ok (.bipush 31, 2) := by decide +kernel
theorem d_jdk_52_method_15_code_6 : decode jdk_52_method_15_code 6 = .ok (.iushr, 1) := by decide +kernel
theorem d_jdk_52_method_15_code_7 : decode jdk_52_method_15_code 7 = .ok (.i2b, 1) := by decide +kernel
theorem d_jdk_52_method_15_code_8 : decode jdk_52_method_15_code 8 = .ok (.ireturn, 1) := by decide +kernel
theorem pn_java_lang_StringUTF16 : plainName "java/lang/StringUTF16" = true := by first | (simp [plainName, overriddenIn]; done) | decide +kernel
set_option maxRecDepth 65536 in
set_option maxHeartbeats 40000000 in
theorem cod2 (l : Launch) (Z : State) (a0 : Array Value) (hw : ∀ d ∈ tables_1, d.before a0 Z = true) (ws : List Jvm.Cond) (b1 : Addr) (k1 : ClassId) (c0 c1 : Int32) (h0 : Heap) (n0 : Nat) (Z0 : n0 ≤ h0.size) (K1 : Arv Z h0 b1 k1 .byte (2 : Int32) [(.int c0.toInt8.toInt32), (.int c1.toInt8.toInt32)] (.int 0)) :
    Does l (⟨"java/lang/StringUTF16", "coderFromArrayLen", "([BI)B"⟩ : MethodName) jdk_52_method_15_code 2 (some .byte) ws ({ frames := 0, cells := 0, slots := 0, locals := 0 } : Room) #[(.ref b1), (.int (2 : Int32))] Z h0 (fun v h L => v = some (.int (0 : Int32)) ∧ Fr n0 L ∧ h = h0) := by
  refine Does.of (plainFor_of_name pn_java_lang_StringUTF16) ?_
  intro p e s m below meth c s₁ hx hby hml hret hlk hown0 hnm hZ X0 e0
  have hown : s.vm.findClass "java/lang/StringUTF16" = some m.cls := hown0
  have N0 := Fr.nil n0
  refine Go.cast (g' := (mkF m 0 #[.val (.ref b1), .val (.int (2 : Int32))] [])) (by first | (simp [entryFrame, mkF, argsToLocals, Value.category, maxLocals]; done) | rfl) ?_
  refine Go.st (T' := s₁) (g' := (mkF m 1 #[.val (.ref b1), .val (.int (2 : Int32))] [(.int (2 : Int32))])) ?_ (fun _ k_ => XS.iloadN X0.here hx rfl (hb hby d_jdk_52_method_15_code_0) rfl k_)
  refine Go.st (T' := s₁) (g' := (mkF m 2 #[.val (.ref b1), .val (.int (2 : Int32))] [(.ref b1), (.int (2 : Int32))])) ?_ (fun _ k_ => XS.aloadN X0.here hx rfl (hb hby d_jdk_52_method_15_code_1) rfl rfl k_)
  refine Go.st (T' := s₁) (g' := (mkF m 3 #[.val (.ref b1), .val (.int (2 : Int32))] [(.int (2 : Int32)), (.int (2 : Int32))])) ?_ (own_len X0 hx hZ e0 K1 (g := (mkF m 2 #[.val (.ref b1), .val (.int (2 : Int32))] [(.ref b1), (.int (2 : Int32))])) rfl rfl (hb hby d_jdk_52_method_15_code_2))
  refine Go.st (T' := s₁) (g' := (mkF m 4 #[.val (.ref b1), .val (.int (2 : Int32))] [(.int (0 : Int32))])) ?_ (fun _ k_ => XS.isub X0.here hx rfl (hb hby d_jdk_52_method_15_code_3) rfl k_)
  refine Go.st (T' := s₁) (g' := (mkF m 6 #[.val (.ref b1), .val (.int (2 : Int32))] [(.int (31 : Int32)), (.int (0 : Int32))])) ?_ (fun _ k_ => XT.bipushV X0.here hx rfl (31 : Int32) (hb hby d_jdk_52_method_15_code_4) (by decide) k_)
  refine Go.st (T' := s₁) (g' := (mkF m 7 #[.val (.ref b1), .val (.int (2 : Int32))] [(.int (XT.ushr (0 : Int32) (31 : Int32)))])) ?_ (fun _ k_ => XT.iushr X0.here hx rfl (hb hby d_jdk_52_method_15_code_6) rfl k_)
  refine Go.st (T' := s₁) (g' := (mkF m 8 #[.val (.ref b1), .val (.int (2 : Int32))] [(.int (XT.ushr (0 : Int32) (31 : Int32)).toInt8.toInt32)])) ?_ (fun _ k_ => XT.i2b X0.here hx rfl (hb hby d_jdk_52_method_15_code_7) rfl k_)
  rw [show (XT.ushr (0 : Int32) (31 : Int32)).toInt8.toInt32 = (0 : Int32) from by decide]
  exact Go.retV (t := .byte) X0 hx hret hlk (by decide) (by decide) rfl (Or.inl ⟨rfl, Or.inr (Or.inr (Or.inl rfl)), _, rfl⟩) (hb hby d_jdk_52_method_15_code_8) ⟨rfl, N0, e0⟩
theorem d_jdk_52_method_21_code_0 : decode jdk_52_method_21_code 0 = .ok (.iconst 0, 1) := by decide +kernel
theorem d_jdk_52_method_21_code_1 : decode jdk_52_method_21_code 1 = .ok (.istore 5, 2) := by decide +kernel
theorem d_jdk_52_method_21_code_3 : decode jdk_52_method_21_code 3 = .ok (.iload 5, 2) := by decide +kernel
theorem d_jdk_52_method_21_code_5 : decode jdk_52_method_21_code 5 = .ok (.iload 4, 2) := by decide +kernel
theorem d_jdk_52_method_21_code_7 : decode jdk_52_method_21_code 7 = .ok (.if_icmp .ge 37, 3) := by decide +kernel
theorem d_jdk_52_method_21_code_10 : decode jdk_52_method_21_code 10 = .ok (.aload_n 0, 1) := by decide +kernel
theorem d_jdk_52_method_21_code_11 : decode jdk_52_method_21_code 11 = .ok (.iload_n 1, 1) := by decide +kernel
theorem d_jdk_52_method_21_code_12 : decode jdk_52_method_21_code 12 = .ok (.caload, 1) := by decide +kernel
theorem d_jdk_52_method_21_code_13 : decode jdk_52_method_21_code 13 = .ok (.istore 6, 2) := by decide +kernel
theorem d_jdk_52_method_21_code_15 : decode jdk_52_method_21_code 15 = .ok (.iload 6, 2) := by decide +kernel
theorem d_jdk_52_method_21_code_17 : decode jdk_52_method_21_code 17 = .ok (.sipush 255, 3) := by decide +kernel
theorem d_jdk_52_method_21_code_20 : decode jdk_52_method_21_code 20 = .ok (.if_icmp .le 6, 3) := by decide +kernel
theorem d_jdk_52_method_21_code_26 : decode jdk_52_method_21_code 26 = .ok (.aload_n 2, 1) := by decide +kernel
theorem d_jdk_52_method_21_code_27 : decode jdk_52_method_21_code 27 = .ok (.iload_n 3, 1) := by decide +kernel
theorem d_jdk_52_method_21_code_28 : decode jdk_52_method_21_code 28 = .ok (.iload 6, 2) := by decide +kernel
theorem d_jdk_52_method_21_code_30 : decode jdk_52_method_21_code 30 = .ok (.i2b, 1) := by decide +kernel
theorem d_jdk_52_method_21_code_31 : decode jdk_52_method_21_code 31 = .ok (.bastore, 1) := by decide +kernel
theorem d_jdk_52_method_21_code_32 : decode jdk_52_method_21_code 32 = .ok (.iinc 1 1, 3) := by decide +kernel
theorem d_jdk_52_method_21_code_35 : decode jdk_52_method_21_code 35 = .ok (.iinc 3 1, 3) := by decide +kernel
theorem d_jdk_52_method_21_code_38 : decode jdk_52_method_21_code 38 = .ok (.iinc 5 1, 3) := by decide +kernel
theorem d_jdk_52_method_21_code_41 : decode jdk_52_method_21_code 41 = .ok (.goto (-38), 3) := by decide +kernel
theorem d_jdk_52_method_21_code_44 : decode jdk_52_method_21_code 44 = .ok (.iload 4, 2) := by decide +kernel
theorem d_jdk_52_method_21_code_46 : decode jdk_52_method_21_code 46 = .ok (.ireturn, 1) := by decide +kernel
set_option maxRecDepth 65536 in
set_option maxHeartbeats 40000000 in
theorem cmp4_2 (l : Launch) (Z : State) (a0 : Array Value) (hw : ∀ d ∈ tables_1, d.before a0 Z = true) (ws : List Jvm.Cond) (o1 o2 : Addr) (k1 k2 : ClassId) (c0 c1 : Int32) (h0 : Heap) (n0 : Nat) (Z0 : n0 ≤ h0.size) (K1 : Arv Z h0 o1 k1 .char (2 : Int32) [(.int c0), (.int c1)] (.int 0)) (K2 : Arv Z h0 o2 k2 .byte (2 : Int32) [(.int (0 : Int32)), (.int (0 : Int32))] (.int 0)) (ne : ¬ o1 = o2) (g2 : n0 ≤ o2) (r0 : ¬ (255 : Int32) < c0) (r1 : ¬ (255 : Int32) < c1) :
    Does l (⟨"java/lang/StringUTF16", "compress", "([CI[BII)I"⟩ : MethodName) jdk_52_method_21_code 7 (some .int) ws ({ frames := 0, cells := 0, slots := 0, locals := 0 } : Room) #[(.ref o1), (.int (0 : Int32)), (.ref o2), (.int (0 : Int32)), (.int (2 : Int32))] Z h0 (fun v h L => v = some (.int (2 : Int32)) ∧ Fr n0 L ∧ Keep h0 h [o2] ∧ Arv Z h o2 k2 .byte (2 : Int32) [(.int c0.toInt8.toInt32), (.int c1.toInt8.toInt32)] (.int 0)) := by
  refine Does.of (plainFor_of_name pn_java_lang_StringUTF16) ?_
  intro p e s m below meth c s₁ hx hby hml hret hlk hown0 hnm hZ X0 e0
  have hown : s.vm.findClass "java/lang/StringUTF16" = some m.cls := hown0
  have N0 := Fr.nil n0
  refine Go.cast (g' := (mkF m 0 #[.val (.ref o1), .val (.int (0 : Int32)), .val (.ref o2), .val (.int (0 : Int32)), .val (.int (2 : Int32)), .unset, .unset] [])) (by first | (simp [entryFrame, mkF, argsToLocals, Value.category, maxLocals]; done) | rfl) ?_
  refine Go.st (T' := s₁) (g' := (mkF m 1 #[.val (.ref o1), .val (.int (0 : Int32)), .val (.ref o2), .val (.int (0 : Int32)), .val (.int (2 : Int32)), .unset, .unset] [(.int (0 : Int32))])) ?_ (fun _ k_ => XT.iconstV X0.here hx rfl (0 : Int32) (hb hby d_jdk_52_method_21_code_0) (by decide) k_)
  refine Go.st (T' := s₁) (g' := (mkF m 3 #[.val (.ref o1), .val (.int (0 : Int32)), .val (.ref o2), .val (.int (0 : Int32)), .val (.int (2 : Int32)), .val (.int (0 : Int32)), .unset] [])) ?_ (fun _ k_ => XS.istore X0.here hx rfl (hb hby d_jdk_52_method_21_code_1) rfl (l' := #[.val (.ref o1), .val (.int (0 : Int32)), .val (.ref o2), .val (.int (0 : Int32)), .val (.int (2 : Int32)), .val (.int (0 : Int32)), .unset]) rfl k_)
  refine Go.st (T' := s₁) (g' := (mkF m 5 #[.val (.ref o1), .val (.int (0 : Int32)), .val (.ref o2), .val (.int (0 : Int32)), .val (.int (2 : Int32)), .val (.int (0 : Int32)), .unset] [(.int (0 : Int32))])) ?_ (fun _ k_ => XS.iload X0.here hx rfl (hb hby d_jdk_52_method_21_code_3) rfl k_)
  refine Go.st (T' := s₁) (g' := (mkF m 7 #[.val (.ref o1), .val (.int (0 : Int32)), .val (.ref o2), .val (.int (0 : Int32)), .val (.int (2 : Int32)), .val (.int (0 : Int32)), .unset] [(.int (2 : Int32)), (.int (0 : Int32))])) ?_ (fun _ k_ => XS.iload X0.here hx rfl (hb hby d_jdk_52_method_21_code_5) rfl k_)
  refine Go.st (T' := s₁) (g' := (mkF m 10 #[.val (.ref o1), .val (.int (0 : Int32)), .val (.ref o2), .val (.int (0 : Int32)), .val (.int (2 : Int32)), .val (.int (0 : Int32)), .unset] [])) ?_ (fun _ k_ => XS.icmpNo X0.here hx rfl (hb hby d_jdk_52_method_21_code_7) rfl (by decide) k_)
  refine Go.st (T' := s₁) (g' := (mkF m 11 #[.val (.ref o1), .val (.int (0 : Int32)), .val (.ref o2), .val (.int (0 : Int32)), .val (.int (2 : Int32)), .val (.int (0 : Int32)), .unset] [(.ref o1)])) ?_ (fun _ k_ => XS.aloadN X0.here hx rfl (hb hby d_jdk_52_method_21_code_10) rfl rfl k_)
  refine Go.st (T' := s₁) (g' := (mkF m 12 #[.val (.ref o1), .val (.int (0 : Int32)), .val (.ref o2), .val (.int (0 : Int32)), .val (.int (2 : Int32)), .val (.int (0 : Int32)), .unset] [(.int (0 : Int32)), (.ref o1)])) ?_ (fun _ k_ => XS.iloadN X0.here hx rfl (hb hby d_jdk_52_method_21_code_11) rfl k_)
  refine Go.st (T' := s₁) (g' := (mkF m 13 #[.val (.ref o1), .val (.int (0 : Int32)), .val (.ref o2), .val (.int (0 : Int32)), .val (.int (2 : Int32)), .val (.int (0 : Int32)), .unset] [(.int c0)])) ?_ (own_caload X0 hx hZ e0 K1 (by decide) (by rw [show (0 : Int32).toNatClampNeg = 0 from by decide]; rfl) (g := (mkF m 12 #[.val (.ref o1), .val (.int (0 : Int32)), .val (.ref o2), .val (.int (0 : Int32)), .val (.int (2 : Int32)), .val (.int (0 : Int32)), .unset] [(.int (0 : Int32)), (.ref o1)])) rfl rfl (hb hby d_jdk_52_method_21_code_12))
  refine Go.st (T' := s₁) (g' := (mkF m 15 #[.val (.ref o1), .val (.int (0 : Int32)), .val (.ref o2), .val (.int (0 : Int32)), .val (.int (2 : Int32)), .val (.int (0 : Int32)), .val (.int c0)] [])) ?_ (fun _ k_ => XS.istore X0.here hx rfl (hb hby d_jdk_52_method_21_code_13) rfl (l' := #[.val (.ref o1), .val (.int (0 : Int32)), .val (.ref o2), .val (.int (0 : Int32)), .val (.int (2 : Int32)), .val (.int (0 : Int32)), .val (.int c0)]) rfl k_)
  refine Go.st (T' := s₁) (g' := (mkF m 17 #[.val (.ref o1), .val (.int (0 : Int32)), .val (.ref o2), .val (.int (0 : Int32)), .val (.int (2 : Int32)), .val (.int (0 : Int32)), .val (.int c0)] [(.int c0)])) ?_ (fun _ k_ => XS.iload X0.here hx rfl (hb hby d_jdk_52_method_21_code_15) rfl k_)
  refine Go.st (T' := s₁) (g' := (mkF m 20 #[.val (.ref o1), .val (.int (0 : Int32)), .val (.ref o2), .val (.int (0 : Int32)), .val (.int (2 : Int32)), .val (.int (0 : Int32)), .val (.int c0)] [(.int (255 : Int32)), (.int c0)])) ?_ (fun _ k_ => XT.sipushV X0.here hx rfl (255 : Int32) (hb hby d_jdk_52_method_21_code_17) (by decide) k_)
  refine Go.st (T' := s₁) (g' := (mkF m 26 #[.val (.ref o1), .val (.int (0 : Int32)), .val (.ref o2), .val (.int (0 : Int32)), .val (.int (2 : Int32)), .val (.int (0 : Int32)), .val (.int c0)] [])) ?_ (fun _ k_ => XS.icmpYes X0.here hx rfl (pc0 := 20) (pc' := 26) rfl (hb hby d_jdk_52_method_21_code_20) rfl (flt (r0 : ¬ (255 : Int32) < c0)).2.2.2 (by decide) (by decide) k_)
  refine Go.st (T' := s₁) (g' := (mkF m 27 #[.val (.ref o1), .val (.int (0 : Int32)), .val (.ref o2), .val (.int (0 : Int32)), .val (.int (2 : Int32)), .val (.int (0 : Int32)), .val (.int c0)] [(.ref o2)])) ?_ (fun _ k_ => XS.aloadN X0.here hx rfl (hb hby d_jdk_52_method_21_code_26) rfl rfl k_)
  refine Go.st (T' := s₁) (g' := (mkF m 28 #[.val (.ref o1), .val (.int (0 : Int32)), .val (.ref o2), .val (.int (0 : Int32)), .val (.int (2 : Int32)), .val (.int (0 : Int32)), .val (.int c0)] [(.int (0 : Int32)), (.ref o2)])) ?_ (fun _ k_ => XS.iloadN X0.here hx rfl (hb hby d_jdk_52_method_21_code_27) rfl k_)
  refine Go.st (T' := s₁) (g' := (mkF m 30 #[.val (.ref o1), .val (.int (0 : Int32)), .val (.ref o2), .val (.int (0 : Int32)), .val (.int (2 : Int32)), .val (.int (0 : Int32)), .val (.int c0)] [(.int c0), (.int (0 : Int32)), (.ref o2)])) ?_ (fun _ k_ => XS.iload X0.here hx rfl (hb hby d_jdk_52_method_21_code_28) rfl k_)
  refine Go.st (T' := s₁) (g' := (mkF m 31 #[.val (.ref o1), .val (.int (0 : Int32)), .val (.ref o2), .val (.int (0 : Int32)), .val (.int (2 : Int32)), .val (.int (0 : Int32)), .val (.int c0)] [(.int c0.toInt8.toInt32), (.int (0 : Int32)), (.ref o2)])) ?_ (fun _ k_ => XT.i2b X0.here hx rfl (hb hby d_jdk_52_method_21_code_30) rfl k_)
  obtain ⟨T1, h1, X1, e1, W1, V1, st1⟩ := own_bastore (own_narb _) X0 hx hZ e0 K2 (by decide) (i := 0) (by decide) (by show 0 < 2; decide) (g := (mkF m 31 #[.val (.ref o1), .val (.int (0 : Int32)), .val (.ref o2), .val (.int (0 : Int32)), .val (.int (2 : Int32)), .val (.int (0 : Int32)), .val (.int c0)] [(.int c0.toInt8.toInt32), (.int (0 : Int32)), (.ref o2)])) rfl rfl (hb hby d_jdk_52_method_21_code_31)
  have N1 := Fr.snoc X1 N0 g2
  replace V1 : Arv Z h1 o2 k2 .byte (2 : Int32) [(.int c0.toInt8.toInt32), (.int (0 : Int32))] (.int 0) := V1
  refine Go.st (T' := T1) (g' := (mkF m 32 #[.val (.ref o1), .val (.int (0 : Int32)), .val (.ref o2), .val (.int (0 : Int32)), .val (.int (2 : Int32)), .val (.int (0 : Int32)), .val (.int c0)] [])) ?_ st1
  refine Go.st (T' := T1) (g' := (mkF m 35 #[.val (.ref o1), .val (.int (1 : Int32)), .val (.ref o2), .val (.int (0 : Int32)), .val (.int (2 : Int32)), .val (.int (0 : Int32)), .val (.int c0)] [])) ?_ (fun _ k_ => XT.iincV X1.here hx rfl (1 : Int32) (hb hby d_jdk_52_method_21_code_32) (by decide) rfl (l' := #[.val (.ref o1), .val (.int (1 : Int32)), .val (.ref o2), .val (.int (0 : Int32)), .val (.int (2 : Int32)), .val (.int (0 : Int32)), .val (.int c0)]) rfl k_)
  refine Go.st (T' := T1) (g' := (mkF m 38 #[.val (.ref o1), .val (.int (1 : Int32)), .val (.ref o2), .val (.int (1 : Int32)), .val (.int (2 : Int32)), .val (.int (0 : Int32)), .val (.int c0)] [])) ?_ (fun _ k_ => XT.iincV X1.here hx rfl (1 : Int32) (hb hby d_jdk_52_method_21_code_35) (by decide) rfl (l' := #[.val (.ref o1), .val (.int (1 : Int32)), .val (.ref o2), .val (.int (1 : Int32)), .val (.int (2 : Int32)), .val (.int (0 : Int32)), .val (.int c0)]) rfl k_)
  refine Go.st (T' := T1) (g' := (mkF m 41 #[.val (.ref o1), .val (.int (1 : Int32)), .val (.ref o2), .val (.int (1 : Int32)), .val (.int (2 : Int32)), .val (.int (1 : Int32)), .val (.int c0)] [])) ?_ (fun _ k_ => XT.iincV X1.here hx rfl (1 : Int32) (hb hby d_jdk_52_method_21_code_38) (by decide) rfl (l' := #[.val (.ref o1), .val (.int (1 : Int32)), .val (.ref o2), .val (.int (1 : Int32)), .val (.int (2 : Int32)), .val (.int (1 : Int32)), .val (.int c0)]) rfl k_)
  refine Go.st (T' := T1) (g' := (mkF m 3 #[.val (.ref o1), .val (.int (1 : Int32)), .val (.ref o2), .val (.int (1 : Int32)), .val (.int (2 : Int32)), .val (.int (1 : Int32)), .val (.int c0)] [])) ?_ (fun _ k_ => XS.goto X1.here hx rfl (pc0 := 41) (pc' := 3) rfl (hb hby d_jdk_52_method_21_code_41) (by decide) (by decide) k_)
  refine Go.st (T' := T1) (g' := (mkF m 5 #[.val (.ref o1), .val (.int (1 : Int32)), .val (.ref o2), .val (.int (1 : Int32)), .val (.int (2 : Int32)), .val (.int (1 : Int32)), .val (.int c0)] [(.int (1 : Int32))])) ?_ (fun _ k_ => XS.iload X1.here hx rfl (hb hby d_jdk_52_method_21_code_3) rfl k_)
  refine Go.st (T' := T1) (g' := (mkF m 7 #[.val (.ref o1), .val (.int (1 : Int32)), .val (.ref o2), .val (.int (1 : Int32)), .val (.int (2 : Int32)), .val (.int (1 : Int32)), .val (.int c0)] [(.int (2 : Int32)), (.int (1 : Int32))])) ?_ (fun _ k_ => XS.iload X1.here hx rfl (hb hby d_jdk_52_method_21_code_5) rfl k_)
  refine Go.st (T' := T1) (g' := (mkF m 10 #[.val (.ref o1), .val (.int (1 : Int32)), .val (.ref o2), .val (.int (1 : Int32)), .val (.int (2 : Int32)), .val (.int (1 : Int32)), .val (.int c0)] [])) ?_ (fun _ k_ => XS.icmpNo X1.here hx rfl (hb hby d_jdk_52_method_21_code_7) rfl (by decide) k_)
  refine Go.st (T' := T1) (g' := (mkF m 11 #[.val (.ref o1), .val (.int (1 : Int32)), .val (.ref o2), .val (.int (1 : Int32)), .val (.int (2 : Int32)), .val (.int (1 : Int32)), .val (.int c0)] [(.ref o1)])) ?_ (fun _ k_ => XS.aloadN X1.here hx rfl (hb hby d_jdk_52_method_21_code_10) rfl rfl k_)
  refine Go.st (T' := T1) (g' := (mkF m 12 #[.val (.ref o1), .val (.int (1 : Int32)), .val (.ref o2), .val (.int (1 : Int32)), .val (.int (2 : Int32)), .val (.int (1 : Int32)), .val (.int c0)] [(.int (1 : Int32)), (.ref o1)])) ?_ (fun _ k_ => XS.iloadN X1.here hx rfl (hb hby d_jdk_52_method_21_code_11) rfl k_)
  refine Go.st (T' := T1) (g' := (mkF m 13 #[.val (.ref o1), .val (.int (1 : Int32)), .val (.ref o2), .val (.int (1 : Int32)), .val (.int (2 : Int32)), .val (.int (1 : Int32)), .val (.int c0)] [(.int c1)])) ?_ (own_caload X1 hx hZ e1 (K1.other W1 ne) (by decide) (by rw [show (1 : Int32).toNatClampNeg = 1 from by decide]; rfl) (g := (mkF m 12 #[.val (.ref o1), .val (.int (1 : Int32)), .val (.ref o2), .val (.int (1 : Int32)), .val (.int (2 : Int32)), .val (.int (1 : Int32)), .val (.int c0)] [(.int (1 : Int32)), (.ref o1)])) rfl rfl (hb hby d_jdk_52_method_21_code_12))
  refine Go.st (T' := T1) (g' := (mkF m 15 #[.val (.ref o1), .val (.int (1 : Int32)), .val (.ref o2), .val (.int (1 : Int32)), .val (.int (2 : Int32)), .val (.int (1 : Int32)), .val (.int c1)] [])) ?_ (fun _ k_ => XS.istore X1.here hx rfl (hb hby d_jdk_52_method_21_code_13) rfl (l' := #[.val (.ref o1), .val (.int (1 : Int32)), .val (.ref o2), .val (.int (1 : Int32)), .val (.int (2 : Int32)), .val (.int (1 : Int32)), .val (.int c1)]) rfl k_)
  refine Go.st (T' := T1) (g' := (mkF m 17 #[.val (.ref o1), .val (.int (1 : Int32)), .val (.ref o2), .val (.int (1 : Int32)), .val (.int (2 : Int32)), .val (.int (1 : Int32)), .val (.int c1)] [(.int c1)])) ?_ (fun _ k_ => XS.iload X1.here hx rfl (hb hby d_jdk_52_method_21_code_15) rfl k_)
  refine Go.st (T' := T1) (g' := (mkF m 20 #[.val (.ref o1), .val (.int (1 : Int32)), .val (.ref o2), .val (.int (1 : Int32)), .val (.int (2 : Int32)), .val (.int (1 : Int32)), .val (.int c1)] [(.int (255 : Int32)), (.int c1)])) ?_ (fun _ k_ => XT.sipushV X1.here hx rfl (255 : Int32) (hb hby d_jdk_52_method_21_code_17) (by decide) k_)
  refine Go.st (T' := T1) (g' := (mkF m 26 #[.val (.ref o1), .val (.int (1 : Int32)), .val (.ref o2), .val (.int (1 : Int32)), .val (.int (2 : Int32)), .val (.int (1 : Int32)), .val (.int c1)] [])) ?_ (fun _ k_ => XS.icmpYes X1.here hx rfl (pc0 := 20) (pc' := 26) rfl (hb hby d_jdk_52_method_21_code_20) rfl (flt (r1 : ¬ (255 : Int32) < c1)).2.2.2 (by decide) (by decide) k_)
  refine Go.st (T' := T1) (g' := (mkF m 27 #[.val (.ref o1), .val (.int (1 : Int32)), .val (.ref o2), .val (.int (1 : Int32)), .val (.int (2 : Int32)), .val (.int (1 : Int32)), .val (.int c1)] [(.ref o2)])) ?_ (fun _ k_ => XS.aloadN X1.here hx rfl (hb hby d_jdk_52_method_21_code_26) rfl rfl k_)
  refine Go.st (T' := T1) (g' := (mkF m 28 #[.val (.ref o1), .val (.int (1 : Int32)), .val (.ref o2), .val (.int (1 : Int32)), .val (.int (2 : Int32)), .val (.int (1 : Int32)), .val (.int c1)] [(.int (1 : Int32)), (.ref o2)])) ?_ (fun _ k_ => XS.iloadN X1.here hx rfl (hb hby d_jdk_52_method_21_code_27) rfl k_)
  refine Go.st (T' := T1) (g' := (mkF m 30 #[.val (.ref o1), .val (.int (1 : Int32)), .val (.ref o2), .val (.int (1 : Int32)), .val (.int (2 : Int32)), .val (.int (1 : Int32)), .val (.int c1)] [(.int c1), (.int (1 : Int32)), (.ref o2)])) ?_ (fun _ k_ => XS.iload X1.here hx rfl (hb hby d_jdk_52_method_21_code_28) rfl k_)
  refine Go.st (T' := T1) (g' := (mkF m 31 #[.val (.ref o1), .val (.int (1 : Int32)), .val (.ref o2), .val (.int (1 : Int32)), .val (.int (2 : Int32)), .val (.int (1 : Int32)), .val (.int c1)] [(.int c1.toInt8.toInt32), (.int (1 : Int32)), (.ref o2)])) ?_ (fun _ k_ => XT.i2b X1.here hx rfl (hb hby d_jdk_52_method_21_code_30) rfl k_)
  obtain ⟨T2, h2, X2, e2, W2, V2, st2⟩ := own_bastore (own_narb _) X1 hx hZ e1 V1 (by decide) (i := 1) (by decide) (by show 1 < 2; decide) (g := (mkF m 31 #[.val (.ref o1), .val (.int (1 : Int32)), .val (.ref o2), .val (.int (1 : Int32)), .val (.int (2 : Int32)), .val (.int (1 : Int32)), .val (.int c1)] [(.int c1.toInt8.toInt32), (.int (1 : Int32)), (.ref o2)])) rfl rfl (hb hby d_jdk_52_method_21_code_31)
  have N2 := Fr.snoc X2 N1 g2
  replace V2 : Arv Z h2 o2 k2 .byte (2 : Int32) [(.int c0.toInt8.toInt32), (.int c1.toInt8.toInt32)] (.int 0) := V2
  refine Go.st (T' := T2) (g' := (mkF m 32 #[.val (.ref o1), .val (.int (1 : Int32)), .val (.ref o2), .val (.int (1 : Int32)), .val (.int (2 : Int32)), .val (.int (1 : Int32)), .val (.int c1)] [])) ?_ st2
  refine Go.st (T' := T2) (g' := (mkF m 35 #[.val (.ref o1), .val (.int (2 : Int32)), .val (.ref o2), .val (.int (1 : Int32)), .val (.int (2 : Int32)), .val (.int (1 : Int32)), .val (.int c1)] [])) ?_ (fun _ k_ => XT.iincV X2.here hx rfl (1 : Int32) (hb hby d_jdk_52_method_21_code_32) (by decide) rfl (l' := #[.val (.ref o1), .val (.int (2 : Int32)), .val (.ref o2), .val (.int (1 : Int32)), .val (.int (2 : Int32)), .val (.int (1 : Int32)), .val (.int c1)]) rfl k_)
  refine Go.st (T' := T2) (g' := (mkF m 38 #[.val (.ref o1), .val (.int (2 : Int32)), .val (.ref o2), .val (.int (2 : Int32)), .val (.int (2 : Int32)), .val (.int (1 : Int32)), .val (.int c1)] [])) ?_ (fun _ k_ => XT.iincV X2.here hx rfl (1 : Int32) (hb hby d_jdk_52_method_21_code_35) (by decide) rfl (l' := #[.val (.ref o1), .val (.int (2 : Int32)), .val (.ref o2), .val (.int (2 : Int32)), .val (.int (2 : Int32)), .val (.int (1 : Int32)), .val (.int c1)]) rfl k_)
  refine Go.st (T' := T2) (g' := (mkF m 41 #[.val (.ref o1), .val (.int (2 : Int32)), .val (.ref o2), .val (.int (2 : Int32)), .val (.int (2 : Int32)), .val (.int (2 : Int32)), .val (.int c1)] [])) ?_ (fun _ k_ => XT.iincV X2.here hx rfl (1 : Int32) (hb hby d_jdk_52_method_21_code_38) (by decide) rfl (l' := #[.val (.ref o1), .val (.int (2 : Int32)), .val (.ref o2), .val (.int (2 : Int32)), .val (.int (2 : Int32)), .val (.int (2 : Int32)), .val (.int c1)]) rfl k_)
  refine Go.st (T' := T2) (g' := (mkF m 3 #[.val (.ref o1), .val (.int (2 : Int32)), .val (.ref o2), .val (.int (2 : Int32)), .val (.int (2 : Int32)), .val (.int (2 : Int32)), .val (.int c1)] [])) ?_ (fun _ k_ => XS.goto X2.here hx rfl (pc0 := 41) (pc' := 3) rfl (hb hby d_jdk_52_method_21_code_41) (by decide) (by decide) k_)
  refine Go.st (T' := T2) (g' := (mkF m 5 #[.val (.ref o1), .val (.int (2 : Int32)), .val (.ref o2), .val (.int (2 : Int32)), .val (.int (2 : Int32)), .val (.int (2 : Int32)), .val (.int c1)] [(.int (2 : Int32))])) ?_ (fun _ k_ => XS.iload X2.here hx rfl (hb hby d_jdk_52_method_21_code_3) rfl k_)
  refine Go.st (T' := T2) (g' := (mkF m 7 #[.val (.ref o1), .val (.int (2 : Int32)), .val (.ref o2), .val (.int (2 : Int32)), .val (.int (2 : Int32)), .val (.int (2 : Int32)), .val (.int c1)] [(.int (2 : Int32)), (.int (2 : Int32))])) ?_ (fun _ k_ => XS.iload X2.here hx rfl (hb hby d_jdk_52_method_21_code_5) rfl k_)
  refine Go.st (T' := T2) (g' := (mkF m 44 #[.val (.ref o1), .val (.int (2 : Int32)), .val (.ref o2), .val (.int (2 : Int32)), .val (.int (2 : Int32)), .val (.int (2 : Int32)), .val (.int c1)] [])) ?_ (fun _ k_ => XS.icmpYes X2.here hx rfl (pc0 := 7) (pc' := 44) rfl (hb hby d_jdk_52_method_21_code_7) rfl (by decide) (by decide) (by decide) k_)
  refine Go.st (T' := T2) (g' := (mkF m 46 #[.val (.ref o1), .val (.int (2 : Int32)), .val (.ref o2), .val (.int (2 : Int32)), .val (.int (2 : Int32)), .val (.int (2 : Int32)), .val (.int c1)] [(.int (2 : Int32))])) ?_ (fun _ k_ => XS.iload X2.here hx rfl (hb hby d_jdk_52_method_21_code_44) rfl k_)
  exact Go.retV (t := .int) X2 hx hret hlk (by decide) (by decide) rfl (Or.inl ⟨rfl, Or.inl rfl, _, rfl⟩) (hb hby d_jdk_52_method_21_code_46) (by rw [e2]; exact ⟨rfl, N2, (show Keep h0 h2 [o2] from (((Keep.refl _ _).wr W1 (Or.inl (List.mem_of_getElem? (i := 0) rfl))).wr W2 (Or.inl (List.mem_of_getElem? (i := 0) rfl)))), V2⟩)
theorem d_jdk_52_method_16_code_0 : decode jdk_52_method_16_code 0 = .ok (.iload_n 2, 1) := by decide +kernel
theorem d_jdk_52_method_16_code_1 : decode jdk_52_method_16_code 1 = .ok (.newarray .byte, 2) := by decide +kernel
theorem d_jdk_52_method_16_code_3 : decode jdk_52_method_16_code 3 = .ok (.astore_n 3, 1) := by decide +kernel
theorem d_jdk_52_method_16_code_4 : decode jdk_52_method_16_code 4 = .ok (.aload_n 0, 1) := by decide +kernel
theorem d_jdk_52_method_16_code_5 : decode jdk_52_method_16_code 5 = .ok (.iload_n 1, 1) := by decide +kernel
theorem d_jdk_52_method_16_code_6 : decode jdk_52_method_16_code 6 = .ok (.aload_n 3, 1) := by decide +kernel
theorem d_jdk_52_method_16_code_7 : decode jdk_52_method_16_code 7 = .ok (.iconst 0, 1) := by decide +kernel
theorem d_jdk_52_method_16_code_8 : decode jdk_52_method_16_code 8 = .ok (.iload_n 2, 1) := by decide +kernel
theorem d_jdk_52_method_16_code_9 : decode jdk_52_method_16_code 9 = .ok (.invokestatic 115, 3) := by decide +kernel
theorem pd___CI_BII_I : parseMethodDescriptor "([CI[BII)I" = some ⟨[(.array .char), .int, (.array .byte), .int, .int], some .int⟩ := by decide +kernel
theorem d_jdk_52_method_16_code_12 : decode jdk_52_method_16_code 12 = .ok (.istore 4, 2) := by decide +kernel
theorem d_jdk_52_method_16_code_14 : decode jdk_52_method_16_code 14 = .ok (.iload 4, 2) := by decide +kernel
theorem d_jdk_52_method_16_code_16 : decode jdk_52_method_16_code 16 = .ok (.iload_n 2, 1) := by decide +kernel
theorem d_jdk_52_method_16_code_17 : decode jdk_52_method_16_code 17 = .ok (.if_icmp .eq 40, 3) := by decide +kernel
theorem d_jdk_52_method_16_code_57 : decode jdk_52_method_16_code 57 = .ok (.aload_n 3, 1) := by decide +kernel
theorem d_jdk_52_method_16_code_58 : decode jdk_52_method_16_code 58 = .ok (.areturn, 1) := by decide +kernel
set_option maxRecDepth 65536 in
set_option maxHeartbeats 40000000 in
theorem cmp3_2 (l : Launch) (Z : State) (a0 : Array Value) (hw : ∀ d ∈ tables_1, d.before a0 Z = true) (ws : List Jvm.Cond) (o1 : Addr) (k1 : ClassId) (c0 c1 : Int32) (h0 : Heap) (n0 : Nat) (Z0 : n0 ≤ h0.size) (K1 : Arv Z h0 o1 k1 .char (2 : Int32) [(.int c0), (.int c1)] (.int 0)) (r0 : ¬ (255 : Int32) < c0) (r1 : ¬ (255 : Int32) < c1) :
    Does l (⟨"java/lang/StringUTF16", "compress", "([CII)[B"⟩ : MethodName) jdk_52_method_16_code 6 (some (.array .byte)) ws ({ frames := 1, cells := 1, slots := 2, locals := 18 } : Room) #[(.ref o1), (.int (0 : Int32)), (.int (2 : Int32))] Z h0 (fun v h L => ∃ b kb, v = some (.ref b) ∧ Fr n0 L ∧ Keep h0 h [] ∧ h0.size ≤ b ∧ Arv Z h b kb .byte (2 : Int32) [(.int c0.toInt8.toInt32), (.int c1.toInt8.toInt32)] (.int 0)) := by
  refine Does.of (plainFor_of_name pn_java_lang_StringUTF16) ?_
  intro p e s m below meth c s₁ hx hby hml hret hlk hown0 hnm hZ X0 e0
  have hown : s.vm.findClass "java/lang/StringUTF16" = some m.cls := hown0
  have N0 := Fr.nil n0
  refine Go.cast (g' := (mkF m 0 #[.val (.ref o1), .val (.int (0 : Int32)), .val (.int (2 : Int32)), .unset, .unset, .unset] [])) (by first | (simp [entryFrame, mkF, argsToLocals, Value.category, maxLocals]; done) | rfl) ?_
  refine Go.st (T' := s₁) (g' := (mkF m 1 #[.val (.ref o1), .val (.int (0 : Int32)), .val (.int (2 : Int32)), .unset, .unset, .unset] [(.int (2 : Int32))])) ?_ (fun _ k_ => XS.iloadN X0.here hx rfl (hb hby d_jdk_52_method_16_code_0) rfl k_)
  obtain ⟨T1, h1, ka1, X1, e1, E1, A1, st1⟩ := newP X0 hx hZ (hw _ (List.mem_of_getElem? (i := 24) rfl)) e0 (g := (mkF m 1 #[.val (.ref o1), .val (.int (0 : Int32)), .val (.int (2 : Int32)), .unset, .unset, .unset] [(.int (2 : Int32))])) rfl (hb hby d_jdk_52_method_16_code_1) rfl (by decide) (cap := 2) (by decide) (by decide) (by decide) (by decide)
  obtain ⟨na1, g1⟩ : ∃ z, z = h0.size := ⟨_, rfl⟩
  rw [← g1] at A1  st1
  have G1 : n0 ≤ na1 := Nat.le_trans Z0 (Nat.le_of_eq g1.symm)
  have H1 : h0.size ≤ na1 := Nat.le_trans (Nat.le_refl _) (Nat.le_of_eq g1.symm)
  have Q1_o1 : ¬ o1 = na1 := Nat.ne_of_lt (by rw [g1]; exact K1.lt)
  have V1 : Arv Z h1 na1 ka1 .byte (2 : Int32) [(.int (0 : Int32)), (.int (0 : Int32))] (.int (0 : Int32)) := (Arv.new A1 (by decide)).pad (pad_rep [] (.int (0 : Int32)) 2)
  refine Go.st (T' := T1) (g' := (mkF m 3 #[.val (.ref o1), .val (.int (0 : Int32)), .val (.int (2 : Int32)), .unset, .unset, .unset] [(.ref na1)])) ?_ st1
  refine Go.st (T' := T1) (g' := (mkF m 4 #[.val (.ref o1), .val (.int (0 : Int32)), .val (.int (2 : Int32)), .val (.ref na1), .unset, .unset] [])) ?_ (fun _ k_ => XS.astoreN X1.here hx rfl (hb hby d_jdk_52_method_16_code_3) rfl rfl (l' := #[.val (.ref o1), .val (.int (0 : Int32)), .val (.int (2 : Int32)), .val (.ref na1), .unset, .unset]) rfl k_)
  refine Go.st (T' := T1) (g' := (mkF m 5 #[.val (.ref o1), .val (.int (0 : Int32)), .val (.int (2 : Int32)), .val (.ref na1), .unset, .unset] [(.ref o1)])) ?_ (fun _ k_ => XS.aloadN X1.here hx rfl (hb hby d_jdk_52_method_16_code_4) rfl rfl k_)
  refine Go.st (T' := T1) (g' := (mkF m 6 #[.val (.ref o1), .val (.int (0 : Int32)), .val (.int (2 : Int32)), .val (.ref na1), .unset, .unset] [(.int (0 : Int32)), (.ref o1)])) ?_ (fun _ k_ => XS.iloadN X1.here hx rfl (hb hby d_jdk_52_method_16_code_5) rfl k_)
  refine Go.st (T' := T1) (g' := (mkF m 7 #[.val (.ref o1), .val (.int (0 : Int32)), .val (.int (2 : Int32)), .val (.ref na1), .unset, .unset] [(.ref na1), (.int (0 : Int32)), (.ref o1)])) ?_ (fun _ k_ => XS.aloadN X1.here hx rfl (hb hby d_jdk_52_method_16_code_6) rfl rfl k_)
  refine Go.st (T' := T1) (g' := (mkF m 8 #[.val (.ref o1), .val (.int (0 : Int32)), .val (.int (2 : Int32)), .val (.ref na1), .unset, .unset] [(.int (0 : Int32)), (.ref na1), (.int (0 : Int32)), (.ref o1)])) ?_ (fun _ k_ => XT.iconstV X1.here hx rfl (0 : Int32) (hb hby d_jdk_52_method_16_code_7) (by decide) k_)
  refine Go.st (T' := T1) (g' := (mkF m 9 #[.val (.ref o1), .val (.int (0 : Int32)), .val (.int (2 : Int32)), .val (.ref na1), .unset, .unset] [(.int (2 : Int32)), (.int (0 : Int32)), (.ref na1), (.int (0 : Int32)), (.ref o1)])) ?_ (fun _ k_ => XS.iloadN X1.here hx rfl (hb hby d_jdk_52_method_16_code_8) rfl k_)
  refine Go.callS X1 hx hZ hown (hw _ (List.mem_of_getElem? (i := 25) rfl)) (hw _ (List.mem_of_getElem? (i := 26) rfl)) (hw _ (List.mem_of_getElem? (i := 22) rfl)) (hw _ (List.mem_of_getElem? (i := 27) rfl)) (by decide) (cmp4_2 l Z a0 hw [] o1 na1 k1 ka1 c0 c1 h1 n0 (Nat.le_trans Z0 E1.1) (K1.ext E1) V1 Q1_o1 G1 r0 r1) e1 (by decide) (W := 0) (by decide) (by decide) (by decide) (g := (mkF m 9 #[.val (.ref o1), .val (.int (0 : Int32)), .val (.int (2 : Int32)), .val (.ref na1), .unset, .unset] [(.int (2 : Int32)), (.int (0 : Int32)), (.ref na1), (.int (0 : Int32)), (.ref o1)])) (rest := []) rfl (by rw [hml]; rfl) (lenOf pd___CI_BII_I rfl) rfl (by show 2 * 0 + _ ≤ _; exact Nat.le_of_eq rfl) (hb hby d_jdk_52_method_16_code_9) ?_
  rintro v2 T2 L2 X2 ⟨rfl, N2, K2, V2⟩
  have M2 := Fr.app N0 N2
  show Go p e below _ T2 (mkF m 12 #[.val (.ref o1), .val (.int (0 : Int32)), .val (.int (2 : Int32)), .val (.ref na1), .unset, .unset] [(.int (2 : Int32))])
  refine Go.st (T' := T2) (g' := (mkF m 14 #[.val (.ref o1), .val (.int (0 : Int32)), .val (.int (2 : Int32)), .val (.ref na1), .val (.int (2 : Int32)), .unset] [])) ?_ (fun _ k_ => XS.istore X2.here hx rfl (hb hby d_jdk_52_method_16_code_12) rfl (l' := #[.val (.ref o1), .val (.int (0 : Int32)), .val (.int (2 : Int32)), .val (.ref na1), .val (.int (2 : Int32)), .unset]) rfl k_)
  refine Go.st (T' := T2) (g' := (mkF m 16 #[.val (.ref o1), .val (.int (0 : Int32)), .val (.int (2 : Int32)), .val (.ref na1), .val (.int (2 : Int32)), .unset] [(.int (2 : Int32))])) ?_ (fun _ k_ => XS.iload X2.here hx rfl (hb hby d_jdk_52_method_16_code_14) rfl k_)
  refine Go.st (T' := T2) (g' := (mkF m 17 #[.val (.ref o1), .val (.int (0 : Int32)), .val (.int (2 : Int32)), .val (.ref na1), .val (.int (2 : Int32)), .unset] [(.int (2 : Int32)), (.int (2 : Int32))])) ?_ (fun _ k_ => XS.iloadN X2.here hx rfl (hb hby d_jdk_52_method_16_code_16) rfl k_)
  refine Go.st (T' := T2) (g' := (mkF m 57 #[.val (.ref o1), .val (.int (0 : Int32)), .val (.int (2 : Int32)), .val (.ref na1), .val (.int (2 : Int32)), .unset] [])) ?_ (fun _ k_ => XS.icmpYes X2.here hx rfl (pc0 := 17) (pc' := 57) rfl (hb hby d_jdk_52_method_16_code_17) rfl (by decide) (by decide) (by decide) k_)
  refine Go.st (T' := T2) (g' := (mkF m 58 #[.val (.ref o1), .val (.int (0 : Int32)), .val (.int (2 : Int32)), .val (.ref na1), .val (.int (2 : Int32)), .unset] [(.ref na1)])) ?_ (fun _ k_ => XS.aloadN X2.here hx rfl (hb hby d_jdk_52_method_16_code_57) rfl rfl k_)
  exact Go.retV (t := (.array .byte)) X2 hx hret hlk (by decide) (by decide) rfl (Or.inr (Or.inr (Or.inr (Or.inr ⟨rfl, rfl, rfl⟩)))) (hb hby d_jdk_52_method_16_code_58) ⟨na1, ka1, rfl, M2, (show Keep h0 T2.heap [] from (((Keep.refl _ _).ext E1).trans K2 (allS (Or.inr H1) all0))), H1, V2⟩
theorem d_jdk_42_method_149_code_0 : decode jdk_42_method_149_code 0 = .ok (.aload_n 0, 1) := by decide +kernel
theorem d_jdk_42_method_149_code_1 : decode jdk_42_method_149_code 1 = .ok (.invokespecial 1, 3) := by decide +kernel
theorem d_jdk_42_method_149_code_4 : decode jdk_42_method_149_code 4 = .ok (.iload_n 3, 1) := by decide +kernel
theorem d_jdk_42_method_149_code_5 : decode jdk_42_method_149_code 5 = .ok (.ifCond .ne 22, 3) := by decide +kernel
theorem d_jdk_42_method_149_code_27 : decode jdk_42_method_149_code 27 = .ok (.getstatic 38, 3) := by decide +kernel
theorem d_jdk_42_method_149_code_30 : decode jdk_42_method_149_code 30 = .ok (.ifCond .eq 28, 3) := by decide +kernel
theorem d_jdk_42_method_149_code_33 : decode jdk_42_method_149_code 33 = .ok (.aload_n 1, 1) := by decide +kernel
theorem d_jdk_42_method_149_code_34 : decode jdk_42_method_149_code 34 = .ok (.iload_n 2, 1) := by decide +kernel
theorem d_jdk_42_method_149_code_35 : decode jdk_42_method_149_code 35 = .ok (.iload_n 3, 1) := by decide +kernel
theorem d_jdk_42_method_149_code_36 : decode jdk_42_method_149_code 36 = .ok (.invokestatic 177, 3) := by decide +kernel
theorem pd___CII__B : parseMethodDescriptor "([CII)[B" = some ⟨[(.array .char), .int, .int], some (.array .byte)⟩ := by decide +kernel
theorem d_jdk_42_method_149_code_39 : decode jdk_42_method_149_code 39 = .ok (.astore 5, 2) := by decide +kernel
theorem d_jdk_42_method_149_code_41 : decode jdk_42_method_149_code 41 = .ok (.aload_n 0, 1) := by decide +kernel
theorem d_jdk_42_method_149_code_42 : decode jdk_42_method_149_code 42 = .ok (.aload 5, 2) := by decide +kernel
theorem d_jdk_42_method_149_code_44 : decode jdk_42_method_149_code 44 = .ok (.iload_n 3, 1) := by decide +kernel
theorem d_jdk_42_method_149_code_45 : decode jdk_42_method_149_code 45 = .ok (.invokestatic 47, 3) := by decide +kernel
theorem pd___BI_B : parseMethodDescriptor "([BI)B" = some ⟨[(.array .byte), .int], some .byte⟩ := by decide +kernel
theorem d_jdk_42_method_149_code_48 : decode jdk_42_method_149_code 48 = .ok (.putfield 15, 3) := by decide +kernel
theorem d_jdk_42_method_149_code_51 : decode jdk_42_method_149_code 51 = .ok (.aload_n 0, 1) := by decide +kernel
theorem d_jdk_42_method_149_code_52 : decode jdk_42_method_149_code 52 = .ok (.aload 5, 2) := by decide +kernel
theorem d_jdk_42_method_149_code_54 : decode jdk_42_method_149_code 54 = .ok (.putfield 9, 3) := by decide +kernel
theorem d_jdk_42_method_149_code_57 : decode jdk_42_method_149_code 57 = .ok (.return_, 1) := by decide +kernel
theorem pn_java_lang_String : plainName "java/lang/String" = true := by first | (simp [plainName, overriddenIn]; done) | decide +kernel
set_option maxRecDepth 65536 in
set_option maxHeartbeats 40000000 in
theorem ini4_2 (l : Launch) (Z : State) (a0 : Array Value) (hw : ∀ d ∈ tables_1, d.before a0 Z = true) (ws : List Jvm.Cond) (o0 o1 : Addr) (k1 : ClassId) (zc : Int32) (c0 c1 : Int32) (h0 : Heap) (n0 : Nat) (Z0 : n0 ≤ h0.size) (K1 : Arv Z h0 o1 k1 .char (2 : Int32) [(.int c0), (.int c1)] (.int 0)) (Fv : Fld Z h0 o0 "java/lang/String" "value" "[B" .null) (Fc : Fld Z h0 o0 "java/lang/String" "coder" "B" (.int (0 : Int32))) (A0 : Exa Z h0 o0 "java/lang/String") (g0 : n0 ≤ o0) (ne : ¬ o0 = o1) (q0 : h0.size ≤ h0.size) (SC : Sta Z h0 "java/lang/String" "COMPACT_STRINGS" "Z" (.int zc)) (hzc : ¬ zc = (0 : Int32)) (r0 : ¬ (255 : Int32) < c0) (r1 : ¬ (255 : Int32) < c1) :
    Does l (⟨"java/lang/String", "<init>", "([CIILjava/lang/Void;)V"⟩ : MethodName) jdk_42_method_149_code 6 none ws ({ frames := 2, cells := 1, slots := 2, locals := 36 } : Room) #[(.ref o0), (.ref o1), (.int (0 : Int32)), (.int (2 : Int32)), .null] Z h0 (fun v h L => v = none ∧ Fr n0 L ∧ Keep h0 h [o0] ∧ ∃ b kb, h0.size ≤ b ∧ Exa Z h o0 "java/lang/String" ∧ Fld Z h o0 "java/lang/String" "coder" "B" (.int (0 : Int32)) ∧ Fld Z h o0 "java/lang/String" "value" "[B" (.ref b) ∧ Arv Z h b kb .byte (2 : Int32) [(.int c0.toInt8.toInt32), (.int c1.toInt8.toInt32)] (.int 0)) := by
  refine Does.of (plainFor_of_name pn_java_lang_String) ?_
  intro p e s m below meth c s₁ hx hby hml hret hlk hown0 hnm hZ X0 e0
  have hown : s.vm.findClass "java/lang/String" = some m.cls := hown0
  have N0 := Fr.nil n0
  refine Go.cast (g' := (mkF m 0 #[.val (.ref o0), .val (.ref o1), .val (.int (0 : Int32)), .val (.int (2 : Int32)), .val .null, .unset] [])) (by first | (simp [entryFrame, mkF, argsToLocals, Value.category, maxLocals]; done) | rfl) ?_
  refine Go.st (T' := s₁) (g' := (mkF m 1 #[.val (.ref o0), .val (.ref o1), .val (.int (0 : Int32)), .val (.int (2 : Int32)), .val .null, .unset] [(.ref o0)])) ?_ (fun _ k_ => XS.aloadN X0.here hx rfl (hb hby d_jdk_42_method_149_code_0) rfl rfl k_)
  obtain ⟨T1, X1, e1, st1⟩ := initO X0 hx hZ hown (hw _ (List.mem_of_getElem? (i := 16) rfl)) (hw _ (List.mem_of_getElem? (i := 17) rfl)) (hw _ (List.mem_of_getElem? (i := 18) rfl)) e0 (g := (mkF m 1 #[.val (.ref o0), .val (.ref o1), .val (.int (0 : Int32)), .val (.int (2 : Int32)), .val .null, .unset] [(.ref o0)])) rfl (by rw [hml]; rfl) rfl (hb hby d_jdk_42_method_149_code_1) (by decide) (W := 0) (by show 2 * 0 + _ ≤ _; exact Nat.le_of_eq rfl) (by decide)
  refine Go.st (T' := T1) (g' := (mkF m 4 #[.val (.ref o0), .val (.ref o1), .val (.int (0 : Int32)), .val (.int (2 : Int32)), .val .null, .unset] [])) ?_ st1
  refine Go.st (T' := T1) (g' := (mkF m 5 #[.val (.ref o0), .val (.ref o1), .val (.int (0 : Int32)), .val (.int (2 : Int32)), .val .null, .unset] [(.int (2 : Int32))])) ?_ (fun _ k_ => XS.iloadN X1.here hx rfl (hb hby d_jdk_42_method_149_code_4) rfl k_)
  refine Go.st (T' := T1) (g' := (mkF m 27 #[.val (.ref o0), .val (.ref o1), .val (.int (0 : Int32)), .val (.int (2 : Int32)), .val .null, .unset] [])) ?_ (fun _ k_ => XS.ifYes X1.here hx rfl (pc0 := 5) (pc' := 27) rfl (hb hby d_jdk_42_method_149_code_5) rfl (by decide) (by decide) (by decide) k_)
  obtain ⟨T2, X2, e2, st2⟩ := getS2 X1 hx hZ hown (host := "") (Or.inl (hw _ (List.mem_of_getElem? (i := 19) rfl))) Via.refl e1 SC (g := (mkF m 27 #[.val (.ref o0), .val (.ref o1), .val (.int (0 : Int32)), .val (.int (2 : Int32)), .val .null, .unset] [])) rfl (hb hby d_jdk_42_method_149_code_27)
  refine Go.st (T' := T2) (g' := (mkF m 30 #[.val (.ref o0), .val (.ref o1), .val (.int (0 : Int32)), .val (.int (2 : Int32)), .val .null, .unset] [(.int zc)])) ?_ st2
  refine Go.st (T' := T2) (g' := (mkF m 33 #[.val (.ref o0), .val (.ref o1), .val (.int (0 : Int32)), .val (.int (2 : Int32)), .val .null, .unset] [])) ?_ (fun _ k_ => XS.ifNo X2.here hx rfl (hb hby d_jdk_42_method_149_code_30) rfl ((if0 _ _).trans (feq (hzc : ¬ zc = (0 : Int32))).1) k_)
  refine Go.st (T' := T2) (g' := (mkF m 34 #[.val (.ref o0), .val (.ref o1), .val (.int (0 : Int32)), .val (.int (2 : Int32)), .val .null, .unset] [(.ref o1)])) ?_ (fun _ k_ => XS.aloadN X2.here hx rfl (hb hby d_jdk_42_method_149_code_33) rfl rfl k_)
  refine Go.st (T' := T2) (g' := (mkF m 35 #[.val (.ref o0), .val (.ref o1), .val (.int (0 : Int32)), .val (.int (2 : Int32)), .val .null, .unset] [(.int (0 : Int32)), (.ref o1)])) ?_ (fun _ k_ => XS.iloadN X2.here hx rfl (hb hby d_jdk_42_method_149_code_34) rfl k_)
  refine Go.st (T' := T2) (g' := (mkF m 36 #[.val (.ref o0), .val (.ref o1), .val (.int (0 : Int32)), .val (.int (2 : Int32)), .val .null, .unset] [(.int (2 : Int32)), (.int (0 : Int32)), (.ref o1)])) ?_ (fun _ k_ => XS.iloadN X2.here hx rfl (hb hby d_jdk_42_method_149_code_35) rfl k_)
  refine Go.callS X2 hx hZ hown (hw _ (List.mem_of_getElem? (i := 20) rfl)) (hw _ (List.mem_of_getElem? (i := 21) rfl)) (hw _ (List.mem_of_getElem? (i := 22) rfl)) (hw _ (List.mem_of_getElem? (i := 23) rfl)) (by decide) (cmp3_2 l Z a0 hw [] o1 k1 c0 c1 h0 n0 Z0 K1 r0 r1) e2 (by decide) (W := 0) (by decide) (by decide) (by decide) (g := (mkF m 36 #[.val (.ref o0), .val (.ref o1), .val (.int (0 : Int32)), .val (.int (2 : Int32)), .val .null, .unset] [(.int (2 : Int32)), (.int (0 : Int32)), (.ref o1)])) (rest := []) rfl (by rw [hml]; rfl) (lenOf pd___CII__B rfl) rfl (by show 2 * 0 + _ ≤ _; exact Nat.le_of_eq rfl) (hb hby d_jdk_42_method_149_code_36) ?_
  rintro v3 T3 L3 X3 ⟨b3, kb3, rfl, N3, K3, g3, V3⟩
  have M3 := Fr.app N0 N3
  have Q3_o0 : ¬ o0 = b3 := Nat.ne_of_lt (Nat.lt_of_lt_of_le A0.lt g3)
  have Q3_o1 : ¬ o1 = b3 := Nat.ne_of_lt (Nat.lt_of_lt_of_le K1.lt g3)
  have H3 : h0.size ≤ b3 := Nat.le_trans (Nat.le_refl _) g3
  show Go p e below _ T3 (mkF m 39 #[.val (.ref o0), .val (.ref o1), .val (.int (0 : Int32)), .val (.int (2 : Int32)), .val .null, .unset] [(.ref b3)])
  refine Go.st (T' := T3) (g' := (mkF m 41 #[.val (.ref o0), .val (.ref o1), .val (.int (0 : Int32)), .val (.int (2 : Int32)), .val .null, .val (.ref b3)] [])) ?_ (fun _ k_ => XS.astore X3.here hx rfl (hb hby d_jdk_42_method_149_code_39) rfl rfl (l' := #[.val (.ref o0), .val (.ref o1), .val (.int (0 : Int32)), .val (.int (2 : Int32)), .val .null, .val (.ref b3)]) rfl k_)
  refine Go.st (T' := T3) (g' := (mkF m 42 #[.val (.ref o0), .val (.ref o1), .val (.int (0 : Int32)), .val (.int (2 : Int32)), .val .null, .val (.ref b3)] [(.ref o0)])) ?_ (fun _ k_ => XS.aloadN X3.here hx rfl (hb hby d_jdk_42_method_149_code_41) rfl rfl k_)
  refine Go.st (T' := T3) (g' := (mkF m 44 #[.val (.ref o0), .val (.ref o1), .val (.int (0 : Int32)), .val (.int (2 : Int32)), .val .null, .val (.ref b3)] [(.ref b3), (.ref o0)])) ?_ (fun _ k_ => XS.aload X3.here hx rfl (hb hby d_jdk_42_method_149_code_42) rfl rfl k_)
  refine Go.st (T' := T3) (g' := (mkF m 45 #[.val (.ref o0), .val (.ref o1), .val (.int (0 : Int32)), .val (.int (2 : Int32)), .val .null, .val (.ref b3)] [(.int (2 : Int32)), (.ref b3), (.ref o0)])) ?_ (fun _ k_ => XS.iloadN X3.here hx rfl (hb hby d_jdk_42_method_149_code_44) rfl k_)
  refine Go.callS X3 hx hZ hown (hw _ (List.mem_of_getElem? (i := 28) rfl)) (hw _ (List.mem_of_getElem? (i := 29) rfl)) (hw _ (List.mem_of_getElem? (i := 22) rfl)) (hw _ (List.mem_of_getElem? (i := 30) rfl)) (by decide) (cod2 l Z a0 hw [] b3 kb3 c0 c1 T3.heap n0 (Nat.le_trans Z0 K3.1) V3) rfl (by decide) (W := 1) (by decide) (by decide) (by decide) (g := (mkF m 45 #[.val (.ref o0), .val (.ref o1), .val (.int (0 : Int32)), .val (.int (2 : Int32)), .val .null, .val (.ref b3)] [(.int (2 : Int32)), (.ref b3), (.ref o0)])) (rest := [(.ref o0)]) rfl (by rw [hml]; rfl) (lenOf pd___BI_B rfl) rfl (by show 2 * 0 + _ ≤ _; exact Nat.le_of_eq rfl) (hb hby d_jdk_42_method_149_code_45) ?_
  rintro v4 T4 L4 X4 ⟨rfl, N4, e4⟩
  have M4 := Fr.app M3 N4
  show Go p e below _ T4 (mkF m 48 #[.val (.ref o0), .val (.ref o1), .val (.int (0 : Int32)), .val (.int (2 : Int32)), .val .null, .val (.ref b3)] [(.int (0 : Int32)), (.ref o0)])
  obtain ⟨T5, h5, X5, e5, W5, st5⟩ := putF X4 hx hZ hown (host := "") (Or.inl (hw _ (List.mem_of_getElem? (i := 31) rfl))) Via.refl e4 (Fc.keep K3 nin0) (A0.keep K3) (Or.inr ⟨(hw _ (List.mem_of_getElem? (i := 32) rfl)), rfl, hnm⟩) (hw _ (List.mem_of_getElem? (i := 7) rfl)) (ty := .byte) (by decide) rfl rfl (g := (mkF m 48 #[.val (.ref o0), .val (.ref o1), .val (.int (0 : Int32)), .val (.int (2 : Int32)), .val .null, .val (.ref b3)] [(.int (0 : Int32)), (.ref o0)])) rfl rfl (hb hby d_jdk_42_method_149_code_48)
  have N5 := Fr.snoc X5 M4 g0
  refine Go.st (T' := T5) (g' := (mkF m 51 #[.val (.ref o0), .val (.ref o1), .val (.int (0 : Int32)), .val (.int (2 : Int32)), .val .null, .val (.ref b3)] [])) ?_ st5
  refine Go.st (T' := T5) (g' := (mkF m 52 #[.val (.ref o0), .val (.ref o1), .val (.int (0 : Int32)), .val (.int (2 : Int32)), .val .null, .val (.ref b3)] [(.ref o0)])) ?_ (fun _ k_ => XS.aloadN X5.here hx rfl (hb hby d_jdk_42_method_149_code_51) rfl rfl k_)
  refine Go.st (T' := T5) (g' := (mkF m 54 #[.val (.ref o0), .val (.ref o1), .val (.int (0 : Int32)), .val (.int (2 : Int32)), .val .null, .val (.ref b3)] [(.ref b3), (.ref o0)])) ?_ (fun _ k_ => XS.aload X5.here hx rfl (hb hby d_jdk_42_method_149_code_52) rfl rfl k_)
  obtain ⟨T6, h6, X6, e6, W6, st6⟩ := putF X5 hx hZ hown (host := "") (Or.inl (hw _ (List.mem_of_getElem? (i := 33) rfl))) Via.refl e5 ((Fv.keep K3 nin0).other W5 (Or.inr (slot_ne (t := (.array .byte)) (t' := .byte) (Or.inr (hw _ (List.mem_of_getElem? (i := 34) rfl))) (Or.inr (hw _ (List.mem_of_getElem? (i := 32) rfl))) (by decide) (by decide) (by decide)))) ((A0.keep K3).wr W5) (Or.inr ⟨(hw _ (List.mem_of_getElem? (i := 34) rfl)), rfl, hnm⟩) (hw _ (List.mem_of_getElem? (i := 7) rfl)) (ty := (.array .byte)) (by decide) rfl rfl (g := (mkF m 54 #[.val (.ref o0), .val (.ref o1), .val (.int (0 : Int32)), .val (.int (2 : Int32)), .val .null, .val (.ref b3)] [(.ref b3), (.ref o0)])) rfl rfl (hb hby d_jdk_42_method_149_code_54)
  have N6 := Fr.snoc X6 N5 g0
  refine Go.st (T' := T6) (g' := (mkF m 57 #[.val (.ref o0), .val (.ref o1), .val (.int (0 : Int32)), .val (.int (2 : Int32)), .val .null, .val (.ref b3)] [])) ?_ st6
  exact Go.retU X6 hx hret hlk (by decide) (by decide) (hb hby d_jdk_42_method_149_code_57) (by rw [e6]; exact ⟨rfl, N6, (show Keep h0 h6 [o0] from ((((Keep.refl _ _).trans K3 all0).wr W5 (Or.inl (List.mem_of_getElem? (i := 0) rfl))).wr W6 (Or.inl (List.mem_of_getElem? (i := 0) rfl)))), b3, kb3, H3, (((A0.keep K3).wr W5).wr W6), (((Fc.keep K3 nin0).same W5).other W6 (Or.inr (slot_ne (t := .byte) (t' := (.array .byte)) (Or.inr (hw _ (List.mem_of_getElem? (i := 32) rfl))) (Or.inr (hw _ (List.mem_of_getElem? (i := 34) rfl))) (by decide) (by decide) (by decide)))), (((Fv.keep K3 nin0).other W5 (Or.inr (slot_ne (t := (.array .byte)) (t' := .byte) (Or.inr (hw _ (List.mem_of_getElem? (i := 34) rfl))) (Or.inr (hw _ (List.mem_of_getElem? (i := 32) rfl))) (by decide) (by decide) (by decide)))).same W6), ((V3.other W5 (fun q_ => Q3_o0 q_.symm)).other W6 (fun q_ => Q3_o0 q_.symm))⟩)
theorem d_jdk_42_method_3_code_0 : decode jdk_42_method_3_code 0 = .ok (.aload_n 0, 1) := by decide +kernel
theorem d_jdk_42_method_3_code_1 : decode jdk_42_method_3_code 1 = .ok (.aload_n 1, 1) := by decide +kernel
theorem d_jdk_42_method_3_code_2 : decode jdk_42_method_3_code 2 = .ok (.iconst 0, 1) := by decide +kernel
theorem d_jdk_42_method_3_code_3 : decode jdk_42_method_3_code 3 = .ok (.aload_n 1, 1) := by decide +kernel
theorem d_jdk_42_method_3_code_4 : decode jdk_42_method_3_code 4 = .ok (.arraylength, 1) := by decide +kernel
theorem d_jdk_42_method_3_code_5 : decode jdk_42_method_3_code 5 = .ok (.aconst_null, 1) := by decide +kernel
theorem d_jdk_42_method_3_code_6 : decode jdk_42_method_3_code 6 = .ok (.invokespecial 27, 3) := by decide +kernel
theorem pd___CIILjava_lang_Void__V : parseMethodDescriptor "([CIILjava/lang/Void;)V" = some ⟨[(.array .char), .int, .int, (.object "java/lang/Void")], none⟩ := by decide +kernel
theorem d_jdk_42_method_3_code_9 : decode jdk_42_method_3_code 9 = .ok (.return_, 1) := by decide +kernel
set_option maxRecDepth 65536 in
set_option maxHeartbeats 40000000 in
theorem ini1_2 (l : Launch) (Z : State) (a0 : Array Value) (hw : ∀ d ∈ tables_1, d.before a0 Z = true) (ws : List Jvm.Cond) (o0 o1 : Addr) (k1 : ClassId) (zc : Int32) (c0 c1 : Int32) (h0 : Heap) (n0 : Nat) (Z0 : n0 ≤ h0.size) (K1 : Arv Z h0 o1 k1 .char (2 : Int32) [(.int c0), (.int c1)] (.int 0)) (Fv : Fld Z h0 o0 "java/lang/String" "value" "[B" .null) (Fc : Fld Z h0 o0 "java/lang/String" "coder" "B" (.int (0 : Int32))) (A0 : Exa Z h0 o0 "java/lang/String") (g0 : n0 ≤ o0) (ne : ¬ o0 = o1) (q0 : h0.size ≤ h0.size) (SC : Sta Z h0 "java/lang/String" "COMPACT_STRINGS" "Z" (.int zc)) (hzc : ¬ zc = (0 : Int32)) (r0 : ¬ (255 : Int32) < c0) (r1 : ¬ (255 : Int32) < c1) :
    Does l (⟨"java/lang/String", "<init>", "([C)V"⟩ : MethodName) jdk_42_method_3_code 2 none ws ({ frames := 3, cells := 1, slots := 2, locals := 53 } : Room) #[(.ref o0), (.ref o1)] Z h0 (fun v h L => v = none ∧ Fr n0 L ∧ Keep h0 h [o0] ∧ ∃ b kb, h0.size ≤ b ∧ Exa Z h o0 "java/lang/String" ∧ Fld Z h o0 "java/lang/String" "coder" "B" (.int (0 : Int32)) ∧ Fld Z h o0 "java/lang/String" "value" "[B" (.ref b) ∧ Arv Z h b kb .byte (2 : Int32) [(.int c0.toInt8.toInt32), (.int c1.toInt8.toInt32)] (.int 0)) := by
  refine Does.of (plainFor_of_name pn_java_lang_String) ?_
  intro p e s m below meth c s₁ hx hby hml hret hlk hown0 hnm hZ X0 e0
  have hown : s.vm.findClass "java/lang/String" = some m.cls := hown0
  have N0 := Fr.nil n0
  refine Go.cast (g' := (mkF m 0 #[.val (.ref o0), .val (.ref o1)] [])) (by first | (simp [entryFrame, mkF, argsToLocals, Value.category, maxLocals]; done) | rfl) ?_
  refine Go.st (T' := s₁) (g' := (mkF m 1 #[.val (.ref o0), .val (.ref o1)] [(.ref o0)])) ?_ (fun _ k_ => XS.aloadN X0.here hx rfl (hb hby d_jdk_42_method_3_code_0) rfl rfl k_)
  refine Go.st (T' := s₁) (g' := (mkF m 2 #[.val (.ref o0), .val (.ref o1)] [(.ref o1), (.ref o0)])) ?_ (fun _ k_ => XS.aloadN X0.here hx rfl (hb hby d_jdk_42_method_3_code_1) rfl rfl k_)
  refine Go.st (T' := s₁) (g' := (mkF m 3 #[.val (.ref o0), .val (.ref o1)] [(.int (0 : Int32)), (.ref o1), (.ref o0)])) ?_ (fun _ k_ => XT.iconstV X0.here hx rfl (0 : Int32) (hb hby d_jdk_42_method_3_code_2) (by decide) k_)
  refine Go.st (T' := s₁) (g' := (mkF m 4 #[.val (.ref o0), .val (.ref o1)] [(.ref o1), (.int (0 : Int32)), (.ref o1), (.ref o0)])) ?_ (fun _ k_ => XS.aloadN X0.here hx rfl (hb hby d_jdk_42_method_3_code_3) rfl rfl k_)
  refine Go.st (T' := s₁) (g' := (mkF m 5 #[.val (.ref o0), .val (.ref o1)] [(.int (2 : Int32)), (.int (0 : Int32)), (.ref o1), (.ref o0)])) ?_ (own_len X0 hx hZ e0 K1 (g := (mkF m 4 #[.val (.ref o0), .val (.ref o1)] [(.ref o1), (.int (0 : Int32)), (.ref o1), (.ref o0)])) rfl rfl (hb hby d_jdk_42_method_3_code_4))
  refine Go.st (T' := s₁) (g' := (mkF m 6 #[.val (.ref o0), .val (.ref o1)] [.null, (.int (2 : Int32)), (.int (0 : Int32)), (.ref o1), (.ref o0)])) ?_ (fun _ k_ => XS.aconstNull X0.here hx rfl (hb hby d_jdk_42_method_3_code_5) k_)
  refine Go.callI X0 hx hZ hown rfl (hw _ (List.mem_of_getElem? (i := 12) rfl)) (hw _ (List.mem_of_getElem? (i := 13) rfl)) (hw _ (List.mem_of_getElem? (i := 8) rfl)) (hw _ (List.mem_of_getElem? (i := 15) rfl)) (by decide) (ini4_2 l Z a0 hw [] o0 o1 k1 zc c0 c1 h0 n0 Z0 K1 Fv Fc A0 g0 ne (Nat.le_refl _) SC hzc r0 r1) e0 (by decide) (W := 0) (by decide) (by decide) (by decide) (g := (mkF m 6 #[.val (.ref o0), .val (.ref o1)] [.null, (.int (2 : Int32)), (.int (0 : Int32)), (.ref o1), (.ref o0)])) (rest := []) rfl (by rw [hml]; rfl) (lenOf pd___CIILjava_lang_Void__V rfl) rfl (by show 2 * 0 + _ ≤ _; exact Nat.le_of_eq rfl) (hb hby d_jdk_42_method_3_code_6) ?_
  rintro v1 T1 L1 X1 ⟨rfl, N1, Q1⟩
  have M1 := Fr.app N0 N1
  show Go p e below _ T1 (mkF m 9 #[.val (.ref o0), .val (.ref o1)] [])
  exact Go.retU X1 hx hret hlk (by decide) (by decide) (hb hby d_jdk_42_method_3_code_9) ⟨rfl, M1, Q1⟩
def own_can (p1 : Int32)  : Int32 := if (255 : Int32) < p1 then (0 : Int32) else (1 : Int32)
theorem d_jdk_43_method_3_code_0 : decode jdk_43_method_3_code 0 = .ok (.iload_n 0, 1) := by decide +kernel
theorem d_jdk_43_method_3_code_1 : decode jdk_43_method_3_code 1 = .ok (.sipush 255, 3) := by decide +kernel
theorem d_jdk_43_method_3_code_4 : decode jdk_43_method_3_code 4 = .ok (.if_icmp .gt 7, 3) := by decide +kernel
theorem d_jdk_43_method_3_code_11 : decode jdk_43_method_3_code 11 = .ok (.iconst 0, 1) := by decide +kernel
theorem d_jdk_43_method_3_code_12 : decode jdk_43_method_3_code 12 = .ok (.ireturn, 1) := by decide +kernel
theorem d_jdk_43_method_3_code_7 : decode jdk_43_method_3_code 7 = .ok (.iconst 1, 1) := by decide +kernel
theorem d_jdk_43_method_3_code_8 : decode jdk_43_method_3_code 8 = .ok (.goto 4, 3) := by decide +kernel
theorem pn_java_lang_StringLatin1 : plainName "java/lang/StringLatin1" = true := by first | (simp [plainName, overriddenIn]; done) | decide +kernel
set_option maxRecDepth 65536 in
set_option maxHeartbeats 40000000 in
theorem can (l : Launch) (Z : State) (a0 : Array Value) (hw : ∀ d ∈ tables_1, d.before a0 Z = true) (ws : List Jvm.Cond) (p1 : Int32)  (h0 : Heap) (n0 : Nat) (Z0 : n0 ≤ h0.size)  :
    Does l (⟨"java/lang/StringLatin1", "canEncode", "(C)Z"⟩ : MethodName) jdk_43_method_3_code 1 (some .boolean) ws ({ frames := 0, cells := 0, slots := 0, locals := 0 } : Room) #[(.int p1)] Z h0 (fun v h L => v = some (.int (own_can p1 )) ∧ Fr n0 L ∧ h = h0) := by
  refine Does.of (plainFor_of_name pn_java_lang_StringLatin1) ?_
  intro p e s m below meth c s₁ hx hby hml hret hlk hown0 hnm hZ X0 e0
  have hown : s.vm.findClass "java/lang/StringLatin1" = some m.cls := hown0
  have N0 := Fr.nil n0
  refine Go.cast (g' := (mkF m 0 #[.val (.int p1)] [])) (by first | (simp [entryFrame, mkF, argsToLocals, Value.category, maxLocals]; done) | rfl) ?_
  refine Go.st (T' := s₁) (g' := (mkF m 1 #[.val (.int p1)] [(.int p1)])) ?_ (fun _ k_ => XS.iloadN X0.here hx rfl (hb hby d_jdk_43_method_3_code_0) rfl k_)
  refine Go.st (T' := s₁) (g' := (mkF m 4 #[.val (.int p1)] [(.int (255 : Int32)), (.int p1)])) ?_ (fun _ k_ => XT.sipushV X0.here hx rfl (255 : Int32) (hb hby d_jdk_43_method_3_code_1) (by decide) k_)
  by_cases hc1 : (255 : Int32) < p1
  · refine Go.st (T' := s₁) (g' := (mkF m 11 #[.val (.int p1)] [])) ?_ (fun _ k_ => XS.icmpYes X0.here hx rfl (pc0 := 4) (pc' := 11) rfl (hb hby d_jdk_43_method_3_code_4) rfl (tlt hc1).2.2.1 (by decide) (by decide) k_)
    refine Go.st (T' := s₁) (g' := (mkF m 12 #[.val (.int p1)] [(.int (0 : Int32))])) ?_ (fun _ k_ => XT.iconstV X0.here hx rfl (0 : Int32) (hb hby d_jdk_43_method_3_code_11) (by decide) k_)
    exact Go.retV (t := .boolean) X0 hx hret hlk (by decide) (by decide) rfl (Or.inl ⟨rfl, Or.inr (Or.inl rfl), _, rfl⟩) (hb hby d_jdk_43_method_3_code_12) ⟨by rw [own_can, if_pos hc1], N0, e0⟩
  · refine Go.st (T' := s₁) (g' := (mkF m 7 #[.val (.int p1)] [])) ?_ (fun _ k_ => XS.icmpNo X0.here hx rfl (hb hby d_jdk_43_method_3_code_4) rfl (flt hc1).2.2.1 k_)
    refine Go.st (T' := s₁) (g' := (mkF m 8 #[.val (.int p1)] [(.int (1 : Int32))])) ?_ (fun _ k_ => XT.iconstV X0.here hx rfl (1 : Int32) (hb hby d_jdk_43_method_3_code_7) (by decide) k_)
    refine Go.st (T' := s₁) (g' := (mkF m 12 #[.val (.int p1)] [(.int (1 : Int32))])) ?_ (fun _ k_ => XS.goto X0.here hx rfl (pc0 := 8) (pc' := 12) rfl (hb hby d_jdk_43_method_3_code_8) (by decide) (by decide) k_)
    exact Go.retV (t := .boolean) X0 hx hret hlk (by decide) (by decide) rfl (Or.inl ⟨rfl, Or.inr (Or.inl rfl), _, rfl⟩) (hb hby d_jdk_43_method_3_code_12) ⟨by rw [own_can, if_neg hc1], N0, e0⟩
theorem d_jdk_43_method_46_code_0 : decode jdk_43_method_46_code 0 = .ok (.iconst 1, 1) := by decide +kernel
theorem d_jdk_43_method_46_code_1 : decode jdk_43_method_46_code 1 = .ok (.newarray .byte, 2) := by decide +kernel
theorem d_jdk_43_method_46_code_3 : decode jdk_43_method_46_code 3 = .ok (.dup, 1) := by decide +kernel
theorem d_jdk_43_method_46_code_4 : decode jdk_43_method_46_code 4 = .ok (.iconst 0, 1) := by decide +kernel
theorem d_jdk_43_method_46_code_5 : decode jdk_43_method_46_code 5 = .ok (.iload_n 0, 1) := by decide +kernel
theorem d_jdk_43_method_46_code_6 : decode jdk_43_method_46_code 6 = .ok (.i2b, 1) := by decide +kernel
theorem d_jdk_43_method_46_code_7 : decode jdk_43_method_46_code 7 = .ok (.bastore, 1) := by decide +kernel
theorem d_jdk_43_method_46_code_8 : decode jdk_43_method_46_code 8 = .ok (.areturn, 1) := by decide +kernel
set_option maxRecDepth 65536 in
set_option maxHeartbeats 40000000 in
theorem tob (l : Launch) (Z : State) (a0 : Array Value) (hw : ∀ d ∈ tables_1, d.before a0 Z = true) (ws : List Jvm.Cond) (c0 : Int32) (h0 : Heap) (n0 : Nat) (Z0 : n0 ≤ h0.size)  :
    Does l (⟨"java/lang/StringLatin1", "toBytes", "(C)[B"⟩ : MethodName) jdk_43_method_46_code 1 (some (.array .byte)) ws ({ frames := 0, cells := 1, slots := 1, locals := 0 } : Room) #[(.int c0)] Z h0 (fun v h L => ∃ b kb, v = some (.ref b) ∧ Fr n0 L ∧ Keep h0 h [] ∧ h0.size ≤ b ∧ Arv Z h b kb .byte (1 : Int32) [(.int c0.toInt8.toInt32)] (.int 0)) := by
  refine Does.of (plainFor_of_name pn_java_lang_StringLatin1) ?_
  intro p e s m below meth c s₁ hx hby hml hret hlk hown0 hnm hZ X0 e0
  have hown : s.vm.findClass "java/lang/StringLatin1" = some m.cls := hown0
  have N0 := Fr.nil n0
  refine Go.cast (g' := (mkF m 0 #[.val (.int c0)] [])) (by first | (simp [entryFrame, mkF, argsToLocals, Value.category, maxLocals]; done) | rfl) ?_
  refine Go.st (T' := s₁) (g' := (mkF m 1 #[.val (.int c0)] [(.int (1 : Int32))])) ?_ (fun _ k_ => XT.iconstV X0.here hx rfl (1 : Int32) (hb hby d_jdk_43_method_46_code_0) (by decide) k_)
  obtain ⟨T1, h1, ka1, X1, e1, E1, A1, st1⟩ := newP X0 hx hZ (hw _ (List.mem_of_getElem? (i := 24) rfl)) e0 (g := (mkF m 1 #[.val (.int c0)] [(.int (1 : Int32))])) rfl (hb hby d_jdk_43_method_46_code_1) rfl (by decide) (cap := 1) (by decide) (by decide) (by decide) (by decide)
  obtain ⟨na1, g1⟩ : ∃ z, z = h0.size := ⟨_, rfl⟩
  rw [← g1] at A1  st1
  have G1 : n0 ≤ na1 := Nat.le_trans Z0 (Nat.le_of_eq g1.symm)
  have H1 : h0.size ≤ na1 := Nat.le_trans (Nat.le_refl _) (Nat.le_of_eq g1.symm)
  have V1 : Arv Z h1 na1 ka1 .byte (1 : Int32) [(.int (0 : Int32))] (.int (0 : Int32)) := (Arv.new A1 (by decide)).pad (pad_rep [] (.int (0 : Int32)) 1)
  refine Go.st (T' := T1) (g' := (mkF m 3 #[.val (.int c0)] [(.ref na1)])) ?_ st1
  refine Go.st (T' := T1) (g' := (mkF m 4 #[.val (.int c0)] [(.ref na1), (.ref na1)])) ?_ (fun _ k_ => XS.dup X1.here hx rfl (hb hby d_jdk_43_method_46_code_3) rfl rfl k_)
  refine Go.st (T' := T1) (g' := (mkF m 5 #[.val (.int c0)] [(.int (0 : Int32)), (.ref na1), (.ref na1)])) ?_ (fun _ k_ => XT.iconstV X1.here hx rfl (0 : Int32) (hb hby d_jdk_43_method_46_code_4) (by decide) k_)
  refine Go.st (T' := T1) (g' := (mkF m 6 #[.val (.int c0)] [(.int c0), (.int (0 : Int32)), (.ref na1), (.ref na1)])) ?_ (fun _ k_ => XS.iloadN X1.here hx rfl (hb hby d_jdk_43_method_46_code_5) rfl k_)
  refine Go.st (T' := T1) (g' := (mkF m 7 #[.val (.int c0)] [(.int c0.toInt8.toInt32), (.int (0 : Int32)), (.ref na1), (.ref na1)])) ?_ (fun _ k_ => XT.i2b X1.here hx rfl (hb hby d_jdk_43_method_46_code_6) rfl k_)
  obtain ⟨T2, h2, X2, e2, W2, V2, st2⟩ := own_bastore (own_narb _) X1 hx hZ e1 V1 (by decide) (i := 0) (by decide) (by show 0 < 1; decide) (g := (mkF m 7 #[.val (.int c0)] [(.int c0.toInt8.toInt32), (.int (0 : Int32)), (.ref na1), (.ref na1)])) rfl rfl (hb hby d_jdk_43_method_46_code_7)
  have N2 := Fr.snoc X2 N0 G1
  replace V2 : Arv Z h2 na1 ka1 .byte (1 : Int32) [(.int c0.toInt8.toInt32)] (.int (0 : Int32)) := V2
  refine Go.st (T' := T2) (g' := (mkF m 8 #[.val (.int c0)] [(.ref na1)])) ?_ st2
  exact Go.retV (t := (.array .byte)) X2 hx hret hlk (by decide) (by decide) rfl (Or.inr (Or.inr (Or.inr (Or.inr ⟨rfl, rfl, rfl⟩)))) (hb hby d_jdk_43_method_46_code_8) (by rw [e2]; exact ⟨na1, ka1, rfl, N2, (show Keep h0 h2 [] from (((Keep.refl _ _).ext E1).wr W2 (Or.inr H1))), H1, V2⟩)
theorem d_jdk_42_method_151_code_0 : decode jdk_42_method_151_code 0 = .ok (.aload_n 0, 1) := by decide +kernel
theorem d_jdk_42_method_151_code_1 : decode jdk_42_method_151_code 1 = .ok (.invokespecial 1, 3) := by decide +kernel
theorem d_jdk_42_method_151_code_4 : decode jdk_42_method_151_code 4 = .ok (.aload_n 0, 1) := by decide +kernel
theorem d_jdk_42_method_151_code_5 : decode jdk_42_method_151_code 5 = .ok (.aload_n 1, 1) := by decide +kernel
theorem d_jdk_42_method_151_code_6 : decode jdk_42_method_151_code 6 = .ok (.putfield 9, 3) := by decide +kernel
theorem d_jdk_42_method_151_code_9 : decode jdk_42_method_151_code 9 = .ok (.aload_n 0, 1) := by decide +kernel
theorem d_jdk_42_method_151_code_10 : decode jdk_42_method_151_code 10 = .ok (.iload_n 2, 1) := by decide +kernel
theorem d_jdk_42_method_151_code_11 : decode jdk_42_method_151_code 11 = .ok (.putfield 15, 3) := by decide +kernel
theorem d_jdk_42_method_151_code_14 : decode jdk_42_method_151_code 14 = .ok (.return_, 1) := by decide +kernel
set_option maxRecDepth 65536 in
set_option maxHeartbeats 40000000 in
theorem inib (l : Launch) (Z : State) (a0 : Array Value) (hw : ∀ d ∈ tables_1, d.before a0 Z = true) (ws : List Jvm.Cond) (o0 o1 : Addr) (h0 : Heap) (n0 : Nat) (Z0 : n0 ≤ h0.size) (Fv : Fld Z h0 o0 "java/lang/String" "value" "[B" .null) (Fc : Fld Z h0 o0 "java/lang/String" "coder" "B" (.int (0 : Int32))) (A0 : Exa Z h0 o0 "java/lang/String") (g0 : n0 ≤ o0) :
    Does l (⟨"java/lang/String", "<init>", "([BB)V"⟩ : MethodName) jdk_42_method_151_code 3 none ws ({ frames := 1, cells := 0, slots := 0, locals := 12 } : Room) #[(.ref o0), (.ref o1), (.int (0 : Int32))] Z h0 (fun v h L => v = none ∧ Fr n0 L ∧ Keep h0 h [o0] ∧ Exa Z h o0 "java/lang/String" ∧ Fld Z h o0 "java/lang/String" "coder" "B" (.int (0 : Int32)) ∧ Fld Z h o0 "java/lang/String" "value" "[B" (.ref o1)) := by
  refine Does.of (plainFor_of_name pn_java_lang_String) ?_
  intro p e s m below meth c s₁ hx hby hml hret hlk hown0 hnm hZ X0 e0
  have hown : s.vm.findClass "java/lang/String" = some m.cls := hown0
  have N0 := Fr.nil n0
  refine Go.cast (g' := (mkF m 0 #[.val (.ref o0), .val (.ref o1), .val (.int (0 : Int32))] [])) (by first | (simp [entryFrame, mkF, argsToLocals, Value.category, maxLocals]; done) | rfl) ?_
  refine Go.st (T' := s₁) (g' := (mkF m 1 #[.val (.ref o0), .val (.ref o1), .val (.int (0 : Int32))] [(.ref o0)])) ?_ (fun _ k_ => XS.aloadN X0.here hx rfl (hb hby d_jdk_42_method_151_code_0) rfl rfl k_)
  obtain ⟨T1, X1, e1, st1⟩ := initO X0 hx hZ hown (hw _ (List.mem_of_getElem? (i := 16) rfl)) (hw _ (List.mem_of_getElem? (i := 17) rfl)) (hw _ (List.mem_of_getElem? (i := 18) rfl)) e0 (g := (mkF m 1 #[.val (.ref o0), .val (.ref o1), .val (.int (0 : Int32))] [(.ref o0)])) rfl (by rw [hml]; rfl) rfl (hb hby d_jdk_42_method_151_code_1) (by decide) (W := 0) (by show 2 * 0 + _ ≤ _; exact Nat.le_of_eq rfl) (by decide)
  refine Go.st (T' := T1) (g' := (mkF m 4 #[.val (.ref o0), .val (.ref o1), .val (.int (0 : Int32))] [])) ?_ st1
  refine Go.st (T' := T1) (g' := (mkF m 5 #[.val (.ref o0), .val (.ref o1), .val (.int (0 : Int32))] [(.ref o0)])) ?_ (fun _ k_ => XS.aloadN X1.here hx rfl (hb hby d_jdk_42_method_151_code_4) rfl rfl k_)
  refine Go.st (T' := T1) (g' := (mkF m 6 #[.val (.ref o0), .val (.ref o1), .val (.int (0 : Int32))] [(.ref o1), (.ref o0)])) ?_ (fun _ k_ => XS.aloadN X1.here hx rfl (hb hby d_jdk_42_method_151_code_5) rfl rfl k_)
  obtain ⟨T2, h2, X2, e2, W2, st2⟩ := putF X1 hx hZ hown (host := "") (Or.inl (hw _ (List.mem_of_getElem? (i := 33) rfl))) Via.refl e1 Fv A0 (Or.inr ⟨(hw _ (List.mem_of_getElem? (i := 34) rfl)), rfl, hnm⟩) (hw _ (List.mem_of_getElem? (i := 7) rfl)) (ty := (.array .byte)) (by decide) rfl rfl (g := (mkF m 6 #[.val (.ref o0), .val (.ref o1), .val (.int (0 : Int32))] [(.ref o1), (.ref o0)])) rfl rfl (hb hby d_jdk_42_method_151_code_6)
  have N2 := Fr.snoc X2 N0 g0
  refine Go.st (T' := T2) (g' := (mkF m 9 #[.val (.ref o0), .val (.ref o1), .val (.int (0 : Int32))] [])) ?_ st2
  refine Go.st (T' := T2) (g' := (mkF m 10 #[.val (.ref o0), .val (.ref o1), .val (.int (0 : Int32))] [(.ref o0)])) ?_ (fun _ k_ => XS.aloadN X2.here hx rfl (hb hby d_jdk_42_method_151_code_9) rfl rfl k_)
  refine Go.st (T' := T2) (g' := (mkF m 11 #[.val (.ref o0), .val (.ref o1), .val (.int (0 : Int32))] [(.int (0 : Int32)), (.ref o0)])) ?_ (fun _ k_ => XS.iloadN X2.here hx rfl (hb hby d_jdk_42_method_151_code_10) rfl k_)
  obtain ⟨T3, h3, X3, e3, W3, st3⟩ := putF X2 hx hZ hown (host := "") (Or.inl (hw _ (List.mem_of_getElem? (i := 31) rfl))) Via.refl e2 (Fc.other W2 (Or.inr (slot_ne (t := .byte) (t' := (.array .byte)) (Or.inr (hw _ (List.mem_of_getElem? (i := 32) rfl))) (Or.inr (hw _ (List.mem_of_getElem? (i := 34) rfl))) (by decide) (by decide) (by decide)))) (A0.wr W2) (Or.inr ⟨(hw _ (List.mem_of_getElem? (i := 32) rfl)), rfl, hnm⟩) (hw _ (List.mem_of_getElem? (i := 7) rfl)) (ty := .byte) (by decide) rfl rfl (g := (mkF m 11 #[.val (.ref o0), .val (.ref o1), .val (.int (0 : Int32))] [(.int (0 : Int32)), (.ref o0)])) rfl rfl (hb hby d_jdk_42_method_151_code_11)
  have N3 := Fr.snoc X3 N2 g0
  refine Go.st (T' := T3) (g' := (mkF m 14 #[.val (.ref o0), .val (.ref o1), .val (.int (0 : Int32))] [])) ?_ st3
  exact Go.retU X3 hx hret hlk (by decide) (by decide) (hb hby d_jdk_42_method_151_code_14) (by rw [e3]; exact ⟨rfl, N3, (show Keep h0 h3 [o0] from (((Keep.refl _ _).wr W2 (Or.inl (List.mem_of_getElem? (i := 0) rfl))).wr W3 (Or.inl (List.mem_of_getElem? (i := 0) rfl)))), ((A0.wr W2).wr W3), ((Fc.other W2 (Or.inr (slot_ne (t := .byte) (t' := (.array .byte)) (Or.inr (hw _ (List.mem_of_getElem? (i := 32) rfl))) (Or.inr (hw _ (List.mem_of_getElem? (i := 34) rfl))) (by decide) (by decide) (by decide)))).same W3), ((Fv.same W2).other W3 (Or.inr (slot_ne (t := (.array .byte)) (t' := .byte) (Or.inr (hw _ (List.mem_of_getElem? (i := 34) rfl))) (Or.inr (hw _ (List.mem_of_getElem? (i := 32) rfl))) (by decide) (by decide) (by decide))))⟩)
theorem d_jdk_42_method_139_code_0 : decode jdk_42_method_139_code 0 = .ok (.getstatic 38, 3) := by decide +kernel
theorem d_jdk_42_method_139_code_3 : decode jdk_42_method_139_code 3 = .ok (.ifCond .eq 23, 3) := by decide +kernel
theorem d_jdk_42_method_139_code_6 : decode jdk_42_method_139_code 6 = .ok (.iload_n 0, 1) := by decide +kernel
theorem d_jdk_42_method_139_code_7 : decode jdk_42_method_139_code 7 = .ok (.invokestatic 1015, 3) := by decide +kernel
theorem pd__C_Z : parseMethodDescriptor "(C)Z" = some ⟨[.char], some .boolean⟩ := by decide +kernel
theorem d_jdk_42_method_139_code_10 : decode jdk_42_method_139_code 10 = .ok (.ifCond .eq 16, 3) := by decide +kernel
theorem d_jdk_42_method_139_code_13 : decode jdk_42_method_139_code 13 = .ok (.new 10, 3) := by decide +kernel
theorem d_jdk_42_method_139_code_16 : decode jdk_42_method_139_code 16 = .ok (.dup, 1) := by decide +kernel
theorem d_jdk_42_method_139_code_17 : decode jdk_42_method_139_code 17 = .ok (.iload_n 0, 1) := by decide +kernel
theorem d_jdk_42_method_139_code_18 : decode jdk_42_method_139_code 18 = .ok (.invokestatic 1018, 3) := by decide +kernel
theorem pd__C__B : parseMethodDescriptor "(C)[B" = some ⟨[.char], some (.array .byte)⟩ := by decide +kernel
theorem d_jdk_42_method_139_code_21 : decode jdk_42_method_139_code 21 = .ok (.iconst 0, 1) := by decide +kernel
theorem d_jdk_42_method_139_code_22 : decode jdk_42_method_139_code 22 = .ok (.invokespecial 209, 3) := by decide +kernel
theorem pd___BB_V : parseMethodDescriptor "([BB)V" = some ⟨[(.array .byte), .byte], none⟩ := by decide +kernel
theorem d_jdk_42_method_139_code_25 : decode jdk_42_method_139_code 25 = .ok (.areturn, 1) := by decide +kernel
set_option maxRecDepth 65536 in
set_option maxHeartbeats 40000000 in
theorem valof (l : Launch) (Z : State) (a0 : Array Value) (hw : ∀ d ∈ tables_1, d.before a0 Z = true) (ws : List Jvm.Cond) (c0 zc : Int32) (h0 : Heap) (n0 : Nat) (Z0 : n0 ≤ h0.size) (SC : Sta Z h0 "java/lang/String" "COMPACT_STRINGS" "Z" (.int zc)) (hzc : ¬ zc = (0 : Int32)) (r0 : ¬ (255 : Int32) < c0) :
    Does l (⟨"java/lang/String", "valueOf", "(C)Ljava/lang/String;"⟩ : MethodName) jdk_42_method_139_code 1 (some (.object "java/lang/String")) ws ({ frames := 2, cells := 2, slots := 5, locals := 28 } : Room) #[(.int c0)] Z h0 (fun v h L => ∃ o b kb, v = some (.ref o) ∧ Fr n0 L ∧ Keep h0 h [] ∧ h0.size ≤ o ∧ h0.size ≤ b ∧ Exa Z h o "java/lang/String" ∧ Fld Z h o "java/lang/String" "coder" "B" (.int (0 : Int32)) ∧ Fld Z h o "java/lang/String" "value" "[B" (.ref b) ∧ Arv Z h b kb .byte (1 : Int32) [(.int c0.toInt8.toInt32)] (.int 0)) := by
  refine Does.of (plainFor_of_name pn_java_lang_String) ?_
  intro p e s m below meth c s₁ hx hby hml hret hlk hown0 hnm hZ X0 e0
  have hown : s.vm.findClass "java/lang/String" = some m.cls := hown0
  have N0 := Fr.nil n0
  refine Go.cast (g' := (mkF m 0 #[.val (.int c0)] [])) (by first | (simp [entryFrame, mkF, argsToLocals, Value.category, maxLocals]; done) | rfl) ?_
  obtain ⟨T1, X1, e1, st1⟩ := getS2 X0 hx hZ hown (host := "") (Or.inl (hw _ (List.mem_of_getElem? (i := 19) rfl))) Via.refl e0 SC (g := (mkF m 0 #[.val (.int c0)] [])) rfl (hb hby d_jdk_42_method_139_code_0)
  refine Go.st (T' := T1) (g' := (mkF m 3 #[.val (.int c0)] [(.int zc)])) ?_ st1
  refine Go.st (T' := T1) (g' := (mkF m 6 #[.val (.int c0)] [])) ?_ (fun _ k_ => XS.ifNo X1.here hx rfl (hb hby d_jdk_42_method_139_code_3) rfl ((if0 _ _).trans (feq (hzc : ¬ zc = (0 : Int32))).1) k_)
  refine Go.st (T' := T1) (g' := (mkF m 7 #[.val (.int c0)] [(.int c0)])) ?_ (fun _ k_ => XS.iloadN X1.here hx rfl (hb hby d_jdk_42_method_139_code_6) rfl k_)
  refine Go.callS X1 hx hZ hown (hw _ (List.mem_of_getElem? (i := 86) rfl)) (hw _ (List.mem_of_getElem? (i := 87) rfl)) (hw _ (List.mem_of_getElem? (i := 88) rfl)) (hw _ (List.mem_of_getElem? (i := 89) rfl)) (by decide) (can l Z a0 hw [] c0  h0 n0 Z0 ) e1 (by decide) (W := 0) (by decide) (by decide) (by decide) (g := (mkF m 7 #[.val (.int c0)] [(.int c0)])) (rest := []) rfl (by rw [hml]; rfl) (lenOf pd__C_Z rfl) rfl (by show 2 * 0 + _ ≤ _; exact Nat.le_of_eq rfl) (hb hby d_jdk_42_method_139_code_7) ?_
  rintro v2 T2 L2 X2 ⟨rfl, N2, e2⟩
  have M2 := Fr.app N0 N2
  rw [show own_can c0  = (1 : Int32) from by rw [own_can, if_neg (r0 : ¬ (255 : Int32) < c0)]]
  show Go p e below _ T2 (mkF m 10 #[.val (.int c0)] [(.int (1 : Int32))])
  refine Go.st (T' := T2) (g' := (mkF m 13 #[.val (.int c0)] [])) ?_ (fun _ k_ => XS.ifNo X2.here hx rfl (hb hby d_jdk_42_method_139_code_10) rfl (by decide) k_)
  obtain ⟨T3, h3, X3, e3, E3, A3, D3, -, st3⟩ := newO X2 hx hZ hown (hw _ (List.mem_of_getElem? (i := 90) rfl)) (hw _ (List.mem_of_getElem? (i := 7) rfl)) (hw _ (List.mem_of_getElem? (i := 8) rfl)) e2 (g := (mkF m 13 #[.val (.int c0)] [])) rfl (hb hby d_jdk_42_method_139_code_13) (by decide) (by decide)
  obtain ⟨na3, g3⟩ : ∃ z, z = h0.size := ⟨_, rfl⟩
  rw [← g3] at A3 D3 st3
  have G3 : n0 ≤ na3 := Nat.le_trans Z0 (Nat.le_of_eq g3.symm)
  have H3 : h0.size ≤ na3 := Nat.le_trans (Nat.le_refl _) (Nat.le_of_eq g3.symm)
  refine Go.st (T' := T3) (g' := (mkF m 16 #[.val (.int c0)] [(.ref na3)])) ?_ st3
  refine Go.st (T' := T3) (g' := (mkF m 17 #[.val (.int c0)] [(.ref na3), (.ref na3)])) ?_ (fun _ k_ => XS.dup X3.here hx rfl (hb hby d_jdk_42_method_139_code_16) rfl rfl k_)
  refine Go.st (T' := T3) (g' := (mkF m 18 #[.val (.int c0)] [(.int c0), (.ref na3), (.ref na3)])) ?_ (fun _ k_ => XS.iloadN X3.here hx rfl (hb hby d_jdk_42_method_139_code_17) rfl k_)
  refine Go.callS X3 hx hZ hown (hw _ (List.mem_of_getElem? (i := 91) rfl)) (hw _ (List.mem_of_getElem? (i := 92) rfl)) (hw _ (List.mem_of_getElem? (i := 88) rfl)) (hw _ (List.mem_of_getElem? (i := 93) rfl)) (by decide) (tob l Z a0 hw [] c0 h3 n0 (Nat.le_trans Z0 E3.1)) e3 (by decide) (W := 2) (by decide) (by decide) (by decide) (g := (mkF m 18 #[.val (.int c0)] [(.int c0), (.ref na3), (.ref na3)])) (rest := [(.ref na3), (.ref na3)]) rfl (by rw [hml]; rfl) (lenOf pd__C__B rfl) rfl (by show 2 * 0 + _ ≤ _; exact Nat.le_of_eq rfl) (hb hby d_jdk_42_method_139_code_18) ?_
  rintro v4 T4 L4 X4 ⟨b4, kb4, rfl, N4, K4, g4, V4⟩
  have M4 := Fr.app M2 N4
  have H4 : h0.size ≤ b4 := Nat.le_trans (Nat.le_trans (Nat.le_refl _) E3.1) g4
  have Q4_na3 : ¬ na3 = b4 := Nat.ne_of_lt (Nat.lt_of_lt_of_le A3.lt g4)
  show Go p e below _ T4 (mkF m 21 #[.val (.int c0)] [(.ref b4), (.ref na3), (.ref na3)])
  refine Go.st (T' := T4) (g' := (mkF m 22 #[.val (.int c0)] [(.int (0 : Int32)), (.ref b4), (.ref na3), (.ref na3)])) ?_ (fun _ k_ => XT.iconstV X4.here hx rfl (0 : Int32) (hb hby d_jdk_42_method_139_code_21) (by decide) k_)
  refine Go.callI X4 hx hZ hown rfl (hw _ (List.mem_of_getElem? (i := 94) rfl)) (hw _ (List.mem_of_getElem? (i := 95) rfl)) (hw _ (List.mem_of_getElem? (i := 8) rfl)) (hw _ (List.mem_of_getElem? (i := 96) rfl)) (by decide) (inib l Z a0 hw [] na3 b4 T4.heap n0 (Nat.le_trans (Nat.le_trans Z0 E3.1) K4.1) ((D3 (Or.inr (hw _ (List.mem_of_getElem? (i := 34) rfl))) (ty := (.array .byte)) (by decide)).keep K4 nin0) ((D3 (Or.inr (hw _ (List.mem_of_getElem? (i := 32) rfl))) (ty := .byte) (by decide)).keep K4 nin0) (A3.keep K4) G3) rfl (by decide) (W := 1) (by decide) (by decide) (by decide) (g := (mkF m 22 #[.val (.int c0)] [(.int (0 : Int32)), (.ref b4), (.ref na3), (.ref na3)])) (rest := [(.ref na3)]) rfl (by rw [hml]; rfl) (lenOf pd___BB_V rfl) rfl (by show 2 * 0 + _ ≤ _; exact Nat.le_of_eq rfl) (hb hby d_jdk_42_method_139_code_22) ?_
  rintro v5 T5 L5 X5 ⟨rfl, N5, K5, A5, C5, F5⟩
  have M5 := Fr.app M4 N5
  show Go p e below _ T5 (mkF m 25 #[.val (.int c0)] [(.ref na3)])
  exact Go.retV (t := (.object "java/lang/String")) X5 hx hret hlk (by decide) (by decide) rfl (Or.inr (Or.inr (Or.inr (Or.inr ⟨rfl, rfl, rfl⟩)))) (hb hby d_jdk_42_method_139_code_25) ⟨na3, b4, kb4, rfl, M5, (show Keep h0 T5.heap [] from ((((Keep.refl _ _).ext E3).trans K4 all0).trans K5 (allS (Or.inr H3) all0))), H3, H4, A5, C5, F5, (V4.keep K5 (ninS (fun q_ => Q4_na3 q_.symm) nin0))⟩
/-- what the case says of the constants -/
def own_F (Z : State) (h : Heap) (w_USER w_CLIENT : Addr) : Prop := Sta Z h "com/example/lean_grant/leangrant/grantset/OwnerType" "USER" "Lcom/example/lean_grant/leangrant/grantset/OwnerType;" (.ref w_USER) ∧ Sta Z h "com/example/lean_grant/leangrant/grantset/OwnerType" "CLIENT" "Lcom/example/lean_grant/leangrant/grantset/OwnerType;" (.ref w_CLIENT) ∧ Exa Z h w_USER "com/example/lean_grant/leangrant/grantset/OwnerType" ∧ Exa Z h w_CLIENT "com/example/lean_grant/leangrant/grantset/OwnerType"
theorem d_method_2_code_0 : decode method_2_code 0 = .ok (.iconst 2, 1) := by decide +kernel
theorem d_method_2_code_1 : decode method_2_code 1 = .ok (.newarray .char, 2) := by decide +kernel
theorem d_method_2_code_3 : decode method_2_code 3 = .ok (.dup, 1) := by decide +kernel
theorem d_method_2_code_4 : decode method_2_code 4 = .ok (.iconst 0, 1) := by decide +kernel
theorem d_method_2_code_5 : decode method_2_code 5 = .ok (.iload_n 0, 1) := by decide +kernel
theorem d_method_2_code_6 : decode method_2_code 6 = .ok (.sipush 255, 3) := by decide +kernel
theorem d_method_2_code_9 : decode method_2_code 9 = .ok (.iand, 1) := by decide +kernel
theorem d_method_2_code_10 : decode method_2_code 10 = .ok (.i2c, 1) := by decide +kernel
theorem d_method_2_code_11 : decode method_2_code 11 = .ok (.castore, 1) := by decide +kernel
theorem d_method_2_code_12 : decode method_2_code 12 = .ok (.dup, 1) := by decide +kernel
theorem d_method_2_code_13 : decode method_2_code 13 = .ok (.iconst 1, 1) := by decide +kernel
theorem d_method_2_code_14 : decode method_2_code 14 = .ok (.iload_n 0, 1) := by decide +kernel
theorem d_method_2_code_15 : decode method_2_code 15 = .ok (.bipush 8, 2) := by decide +kernel
theorem d_method_2_code_17 : decode method_2_code 17 = .ok (.iushr, 1) := by decide +kernel
theorem d_method_2_code_18 : decode method_2_code 18 = .ok (.sipush 255, 3) := by decide +kernel
theorem d_method_2_code_21 : decode method_2_code 21 = .ok (.iand, 1) := by decide +kernel
theorem d_method_2_code_22 : decode method_2_code 22 = .ok (.i2c, 1) := by decide +kernel
theorem d_method_2_code_23 : decode method_2_code 23 = .ok (.castore, 1) := by decide +kernel
theorem d_method_2_code_24 : decode method_2_code 24 = .ok (.astore_n 1, 1) := by decide +kernel
theorem d_method_2_code_25 : decode method_2_code 25 = .ok (.iload_n 0, 1) := by decide +kernel
theorem d_method_2_code_26 : decode method_2_code 26 = .ok (.bipush 16, 2) := by decide +kernel
theorem d_method_2_code_28 : decode method_2_code 28 = .ok (.iushr, 1) := by decide +kernel
theorem d_method_2_code_29 : decode method_2_code 29 = .ok (.iconst 1, 1) := by decide +kernel
theorem d_method_2_code_30 : decode method_2_code 30 = .ok (.iand, 1) := by decide +kernel
theorem d_method_2_code_31 : decode method_2_code 31 = .ok (.ifCond .ne 12, 3) := by decide +kernel
theorem d_method_2_code_34 : decode method_2_code 34 = .ok (.new 7, 3) := by decide +kernel
theorem d_method_2_code_37 : decode method_2_code 37 = .ok (.dup, 1) := by decide +kernel
theorem d_method_2_code_38 : decode method_2_code 38 = .ok (.aload_n 1, 1) := by decide +kernel
theorem d_method_2_code_39 : decode method_2_code 39 = .ok (.invokespecial 9, 3) := by decide +kernel
theorem pd___C_V : parseMethodDescriptor "([C)V" = some ⟨[(.array .char)], none⟩ := by decide +kernel
theorem d_method_2_code_42 : decode method_2_code 42 = .ok (.areturn, 1) := by decide +kernel
theorem d_method_2_code_43 : decode method_2_code 43 = .ok (.aload_n 1, 1) := by decide +kernel
theorem d_method_2_code_44 : decode method_2_code 44 = .ok (.iconst 0, 1) := by decide +kernel
theorem d_method_2_code_45 : decode method_2_code 45 = .ok (.caload, 1) := by decide +kernel
theorem d_method_2_code_46 : decode method_2_code 46 = .ok (.invokestatic 12, 3) := by decide +kernel
theorem pd__C_Ljava_lang_String_ : parseMethodDescriptor "(C)Ljava/lang/String;" = some ⟨[.char], some (.object "java/lang/String")⟩ := by decide +kernel
theorem d_method_2_code_49 : decode method_2_code 49 = .ok (.areturn, 1) := by decide +kernel
theorem pn_com_example_lean_grant_leangrant_check_AccessRequestCallerOfPinLaw : plainName "com/example/lean_grant/leangrant/check/AccessRequestCallerOfPinLaw" = true := by first | (simp [plainName, overriddenIn]; done) | decide +kernel
set_option maxRecDepth 65536 in
set_option maxHeartbeats 40000000 in
theorem drawn (l : Launch) (Z : State) (a0 : Array Value) (hw : ∀ d ∈ tables_1, d.before a0 Z = true) (ws : List Jvm.Cond) (p1 zc : Int32) (h0 : Heap) (n0 : Nat) (Z0 : n0 ≤ h0.size) (SC : Sta Z h0 "java/lang/String" "COMPACT_STRINGS" "Z" (.int zc)) (hzc : ¬ zc = (0 : Int32)) :
    Does l (⟨"com/example/lean_grant/leangrant/check/AccessRequestCallerOfPinLaw", "drawn", "(I)Ljava/lang/String;"⟩ : MethodName) method_2_code 2 (some (.object "java/lang/String")) ws ({ frames := 4, cells := 3, slots := 10, locals := 69 } : Room) #[(.int p1)] Z h0 (fun v h L => ∃ o, v = some (.ref o) ∧ Fr n0 L ∧ Keep h0 h [] ∧ h0.size ≤ o ∧ Exa Z h o "java/lang/String") := by
  refine Does.of (plainFor_of_name pn_com_example_lean_grant_leangrant_check_AccessRequestCallerOfPinLaw) ?_
  intro p e s m below meth c s₁ hx hby hml hret hlk hown0 hnm hZ X0 e0
  have hown : s.vm.findClass "com/example/lean_grant/leangrant/check/AccessRequestCallerOfPinLaw" = some m.cls := hown0
  have N0 := Fr.nil n0
  refine Go.cast (g' := (mkF m 0 #[.val (.int p1), .unset] [])) (by first | (simp [entryFrame, mkF, argsToLocals, Value.category, maxLocals]; done) | rfl) ?_
  refine Go.st (T' := s₁) (g' := (mkF m 1 #[.val (.int p1), .unset] [(.int (2 : Int32))])) ?_ (fun _ k_ => XT.iconstV X0.here hx rfl (2 : Int32) (hb hby d_method_2_code_0) (by decide) k_)
  obtain ⟨T1, h1, ka1, X1, e1, E1, A1, st1⟩ := newP X0 hx hZ (hw _ (List.mem_of_getElem? (i := 5) rfl)) e0 (g := (mkF m 1 #[.val (.int p1), .unset] [(.int (2 : Int32))])) rfl (hb hby d_method_2_code_1) rfl (by decide) (cap := 2) (by decide) (by decide) (by decide) (by decide)
  obtain ⟨na1, g1⟩ : ∃ z, z = h0.size := ⟨_, rfl⟩
  rw [← g1] at A1  st1
  have G1 : n0 ≤ na1 := Nat.le_trans Z0 (Nat.le_of_eq g1.symm)
  have H1 : h0.size ≤ na1 := Nat.le_trans (Nat.le_refl _) (Nat.le_of_eq g1.symm)
  have V1 : Arv Z h1 na1 ka1 .char (2 : Int32) [(.int (0 : Int32)), (.int (0 : Int32))] (.int (0 : Int32)) := (Arv.new A1 (by decide)).pad (pad_rep [] (.int (0 : Int32)) 2)
  refine Go.st (T' := T1) (g' := (mkF m 3 #[.val (.int p1), .unset] [(.ref na1)])) ?_ st1
  refine Go.st (T' := T1) (g' := (mkF m 4 #[.val (.int p1), .unset] [(.ref na1), (.ref na1)])) ?_ (fun _ k_ => XS.dup X1.here hx rfl (hb hby d_method_2_code_3) rfl rfl k_)
  refine Go.st (T' := T1) (g' := (mkF m 5 #[.val (.int p1), .unset] [(.int (0 : Int32)), (.ref na1), (.ref na1)])) ?_ (fun _ k_ => XT.iconstV X1.here hx rfl (0 : Int32) (hb hby d_method_2_code_4) (by decide) k_)
  refine Go.st (T' := T1) (g' := (mkF m 6 #[.val (.int p1), .unset] [(.int p1), (.int (0 : Int32)), (.ref na1), (.ref na1)])) ?_ (fun _ k_ => XS.iloadN X1.here hx rfl (hb hby d_method_2_code_5) rfl k_)
  refine Go.st (T' := T1) (g' := (mkF m 9 #[.val (.int p1), .unset] [(.int (255 : Int32)), (.int p1), (.int (0 : Int32)), (.ref na1), (.ref na1)])) ?_ (fun _ k_ => XT.sipushV X1.here hx rfl (255 : Int32) (hb hby d_method_2_code_6) (by decide) k_)
  refine Go.st (T' := T1) (g' := (mkF m 10 #[.val (.int p1), .unset] [(.int (p1 &&& (255 : Int32))), (.int (0 : Int32)), (.ref na1), (.ref na1)])) ?_ (fun _ k_ => XS.iand X1.here hx rfl (hb hby d_method_2_code_9) rfl k_)
  refine Go.st (T' := T1) (g' := (mkF m 11 #[.val (.int p1), .unset] [(.int (p1 &&& (255 : Int32)).toUInt32.toUInt16.toUInt32.toInt32), (.int (0 : Int32)), (.ref na1), (.ref na1)])) ?_ (fun _ k_ => XT.i2c X1.here hx rfl (hb hby d_method_2_code_10) rfl k_)
  rw [i2c_mask]
  have m_x0 := c_mask p1 255 8 (by decide) (by decide)
  generalize (p1 &&& (255 : Int32)) = x0 at *
  have n_x0 : nar .char x0 = x0 := own_narc (by omega) (by omega)
  have r_x0 : ¬ (255 : Int32) < x0 := own_i_nlt (by decide : (255 : Int32).toInt = 255) rfl (by omega)
  obtain ⟨T2, h2, X2, e2, W2, V2, st2⟩ := own_castore n_x0 X1 hx hZ e1 V1 (by decide) (i := 0) (by decide) (by show 0 < 2; decide) (g := (mkF m 11 #[.val (.int p1), .unset] [(.int x0), (.int (0 : Int32)), (.ref na1), (.ref na1)])) rfl rfl (hb hby d_method_2_code_11)
  have N2 := Fr.snoc X2 N0 G1
  replace V2 : Arv Z h2 na1 ka1 .char (2 : Int32) [(.int x0), (.int (0 : Int32))] (.int (0 : Int32)) := V2
  refine Go.st (T' := T2) (g' := (mkF m 12 #[.val (.int p1), .unset] [(.ref na1)])) ?_ st2
  refine Go.st (T' := T2) (g' := (mkF m 13 #[.val (.int p1), .unset] [(.ref na1), (.ref na1)])) ?_ (fun _ k_ => XS.dup X2.here hx rfl (hb hby d_method_2_code_12) rfl rfl k_)
  refine Go.st (T' := T2) (g' := (mkF m 14 #[.val (.int p1), .unset] [(.int (1 : Int32)), (.ref na1), (.ref na1)])) ?_ (fun _ k_ => XT.iconstV X2.here hx rfl (1 : Int32) (hb hby d_method_2_code_13) (by decide) k_)
  refine Go.st (T' := T2) (g' := (mkF m 15 #[.val (.int p1), .unset] [(.int p1), (.int (1 : Int32)), (.ref na1), (.ref na1)])) ?_ (fun _ k_ => XS.iloadN X2.here hx rfl (hb hby d_method_2_code_14) rfl k_)
  refine Go.st (T' := T2) (g' := (mkF m 17 #[.val (.int p1), .unset] [(.int (8 : Int32)), (.int p1), (.int (1 : Int32)), (.ref na1), (.ref na1)])) ?_ (fun _ k_ => XT.bipushV X2.here hx rfl (8 : Int32) (hb hby d_method_2_code_15) (by decide) k_)
  refine Go.st (T' := T2) (g' := (mkF m 18 #[.val (.int p1), .unset] [(.int (XT.ushr p1 (8 : Int32))), (.int (1 : Int32)), (.ref na1), (.ref na1)])) ?_ (fun _ k_ => XT.iushr X2.here hx rfl (hb hby d_method_2_code_17) rfl k_)
  refine Go.st (T' := T2) (g' := (mkF m 21 #[.val (.int p1), .unset] [(.int (255 : Int32)), (.int (XT.ushr p1 (8 : Int32))), (.int (1 : Int32)), (.ref na1), (.ref na1)])) ?_ (fun _ k_ => XT.sipushV X2.here hx rfl (255 : Int32) (hb hby d_method_2_code_18) (by decide) k_)
  refine Go.st (T' := T2) (g' := (mkF m 22 #[.val (.int p1), .unset] [(.int ((XT.ushr p1 (8 : Int32)) &&& (255 : Int32))), (.int (1 : Int32)), (.ref na1), (.ref na1)])) ?_ (fun _ k_ => XS.iand X2.here hx rfl (hb hby d_method_2_code_21) rfl k_)
  refine Go.st (T' := T2) (g' := (mkF m 23 #[.val (.int p1), .unset] [(.int ((XT.ushr p1 (8 : Int32)) &&& (255 : Int32)).toUInt32.toUInt16.toUInt32.toInt32), (.int (1 : Int32)), (.ref na1), (.ref na1)])) ?_ (fun _ k_ => XT.i2c X2.here hx rfl (hb hby d_method_2_code_22) rfl k_)
  rw [i2c_mask]
  have m_x1 := c_mask (XT.ushr p1 (8 : Int32)) 255 8 (by decide) (by decide)
  generalize ((XT.ushr p1 (8 : Int32)) &&& (255 : Int32)) = x1 at *
  have n_x1 : nar .char x1 = x1 := own_narc (by omega) (by omega)
  have r_x1 : ¬ (255 : Int32) < x1 := own_i_nlt (by decide : (255 : Int32).toInt = 255) rfl (by omega)
  obtain ⟨T3, h3, X3, e3, W3, V3, st3⟩ := own_castore n_x1 X2 hx hZ e2 V2 (by decide) (i := 1) (by decide) (by show 1 < 2; decide) (g := (mkF m 23 #[.val (.int p1), .unset] [(.int x1), (.int (1 : Int32)), (.ref na1), (.ref na1)])) rfl rfl (hb hby d_method_2_code_23)
  have N3 := Fr.snoc X3 N2 G1
  replace V3 : Arv Z h3 na1 ka1 .char (2 : Int32) [(.int x0), (.int x1)] (.int (0 : Int32)) := V3
  refine Go.st (T' := T3) (g' := (mkF m 24 #[.val (.int p1), .unset] [(.ref na1)])) ?_ st3
  refine Go.st (T' := T3) (g' := (mkF m 25 #[.val (.int p1), .val (.ref na1)] [])) ?_ (fun _ k_ => XS.astoreN X3.here hx rfl (hb hby d_method_2_code_24) rfl rfl (l' := #[.val (.int p1), .val (.ref na1)]) rfl k_)
  refine Go.st (T' := T3) (g' := (mkF m 26 #[.val (.int p1), .val (.ref na1)] [(.int p1)])) ?_ (fun _ k_ => XS.iloadN X3.here hx rfl (hb hby d_method_2_code_25) rfl k_)
  refine Go.st (T' := T3) (g' := (mkF m 28 #[.val (.int p1), .val (.ref na1)] [(.int (16 : Int32)), (.int p1)])) ?_ (fun _ k_ => XT.bipushV X3.here hx rfl (16 : Int32) (hb hby d_method_2_code_26) (by decide) k_)
  refine Go.st (T' := T3) (g' := (mkF m 29 #[.val (.int p1), .val (.ref na1)] [(.int (XT.ushr p1 (16 : Int32)))])) ?_ (fun _ k_ => XT.iushr X3.here hx rfl (hb hby d_method_2_code_28) rfl k_)
  refine Go.st (T' := T3) (g' := (mkF m 30 #[.val (.int p1), .val (.ref na1)] [(.int (1 : Int32)), (.int (XT.ushr p1 (16 : Int32)))])) ?_ (fun _ k_ => XT.iconstV X3.here hx rfl (1 : Int32) (hb hby d_method_2_code_29) (by decide) k_)
  refine Go.st (T' := T3) (g' := (mkF m 31 #[.val (.int p1), .val (.ref na1)] [(.int ((XT.ushr p1 (16 : Int32)) &&& (1 : Int32)))])) ?_ (fun _ k_ => XS.iand X3.here hx rfl (hb hby d_method_2_code_30) rfl k_)
  by_cases hc4 : ((XT.ushr p1 (16 : Int32)) &&& (1 : Int32)) = (0 : Int32)
  · refine Go.st (T' := T3) (g' := (mkF m 34 #[.val (.int p1), .val (.ref na1)] [])) ?_ (fun _ k_ => XS.ifNo X3.here hx rfl (hb hby d_method_2_code_31) rfl ((if0 _ _).trans (teq hc4).2) k_)
    obtain ⟨T5, h5, X5, e5, E5, A5, D5, -, st5⟩ := newO X3 hx hZ hown (hw _ (List.mem_of_getElem? (i := 6) rfl)) (hw _ (List.mem_of_getElem? (i := 7) rfl)) (hw _ (List.mem_of_getElem? (i := 8) rfl)) e3 (g := (mkF m 34 #[.val (.int p1), .val (.ref na1)] [])) rfl (hb hby d_method_2_code_34) (by decide) (by decide)
    obtain ⟨na5, g5⟩ : ∃ z, z = h3.size := ⟨_, rfl⟩
    rw [← g5] at A5 D5 st5
    have G5 : n0 ≤ na5 := Nat.le_trans (Nat.le_trans (Nat.le_trans (Nat.le_trans Z0 E1.1) (Nat.le_of_eq W2.size.symm)) (Nat.le_of_eq W3.size.symm)) (Nat.le_of_eq g5.symm)
    have H5 : h0.size ≤ na5 := Nat.le_trans (Nat.le_trans (Nat.le_trans (Nat.le_trans (Nat.le_refl _) E1.1) (Nat.le_of_eq W2.size.symm)) (Nat.le_of_eq W3.size.symm)) (Nat.le_of_eq g5.symm)
    have Q5_na1 : ¬ na1 = na5 := Nat.ne_of_lt (by rw [g5]; exact V3.lt)
    refine Go.st (T' := T5) (g' := (mkF m 37 #[.val (.int p1), .val (.ref na1)] [(.ref na5)])) ?_ st5
    refine Go.st (T' := T5) (g' := (mkF m 38 #[.val (.int p1), .val (.ref na1)] [(.ref na5), (.ref na5)])) ?_ (fun _ k_ => XS.dup X5.here hx rfl (hb hby d_method_2_code_37) rfl rfl k_)
    refine Go.st (T' := T5) (g' := (mkF m 39 #[.val (.int p1), .val (.ref na1)] [(.ref na1), (.ref na5), (.ref na5)])) ?_ (fun _ k_ => XS.aloadN X5.here hx rfl (hb hby d_method_2_code_38) rfl rfl k_)
    refine Go.callI X5 hx hZ hown rfl (hw _ (List.mem_of_getElem? (i := 9) rfl)) (hw _ (List.mem_of_getElem? (i := 10) rfl)) (hw _ (List.mem_of_getElem? (i := 8) rfl)) (hw _ (List.mem_of_getElem? (i := 11) rfl)) (by decide) (ini1_2 l Z a0 hw [] na5 na1 ka1 zc x0 x1 h5 n0 (Nat.le_trans (Nat.le_trans (Nat.le_trans (Nat.le_trans Z0 E1.1) (Nat.le_of_eq W2.size.symm)) (Nat.le_of_eq W3.size.symm)) E5.1) (V3.ext E5) (D5 (Or.inr (hw _ (List.mem_of_getElem? (i := 34) rfl))) (ty := (.array .byte)) (by decide)) (D5 (Or.inr (hw _ (List.mem_of_getElem? (i := 32) rfl))) (ty := .byte) (by decide)) A5 G5 (fun q_ => Q5_na1 q_.symm) (Nat.le_refl _) ((((SC.ext E1).wr W2).wr W3).ext E5) hzc r_x0 r_x1) e5 (by decide) (W := 1) (by decide) (by decide) (by decide) (g := (mkF m 39 #[.val (.int p1), .val (.ref na1)] [(.ref na1), (.ref na5), (.ref na5)])) (rest := [(.ref na5)]) rfl (by rw [hml]; rfl) (lenOf pd___C_V rfl) rfl (by show 2 * 0 + _ ≤ _; exact Nat.le_of_eq rfl) (hb hby d_method_2_code_39) ?_
    rintro v6 T6 L6 X6 ⟨rfl, N6, K6, b6, kb6, g6, A6, C6, F6, V6⟩
    have M6 := Fr.app N3 N6
    have G6 : n0 ≤ b6 := Nat.le_trans (Nat.le_trans (Nat.le_trans (Nat.le_trans (Nat.le_trans Z0 E1.1) (Nat.le_of_eq W2.size.symm)) (Nat.le_of_eq W3.size.symm)) E5.1) g6
    have H6 : h0.size ≤ b6 := Nat.le_trans (Nat.le_trans (Nat.le_trans (Nat.le_trans (Nat.le_trans (Nat.le_refl _) E1.1) (Nat.le_of_eq W2.size.symm)) (Nat.le_of_eq W3.size.symm)) E5.1) g6
    have Q6_na1 : ¬ na1 = b6 := Nat.ne_of_lt (Nat.lt_of_lt_of_le (V3.ext E5).lt g6)
    have Q6_na5 : ¬ na5 = b6 := Nat.ne_of_lt (Nat.lt_of_lt_of_le A5.lt g6)
    show Go p e below _ T6 (mkF m 42 #[.val (.int p1), .val (.ref na1)] [(.ref na5)])
    exact Go.retV (t := (.object "java/lang/String")) X6 hx hret hlk (by decide) (by decide) rfl (Or.inr (Or.inr (Or.inr (Or.inr ⟨rfl, rfl, rfl⟩)))) (hb hby d_method_2_code_42) ⟨na5, rfl, M6, (show Keep h0 T6.heap [] from ((((((Keep.refl _ _).ext E1).wr W2 (Or.inr H1)).wr W3 (Or.inr H1)).ext E5).trans K6 (allS (Or.inr H5) all0))), H5, A6⟩
  · refine Go.st (T' := T3) (g' := (mkF m 43 #[.val (.int p1), .val (.ref na1)] [])) ?_ (fun _ k_ => XS.ifYes X3.here hx rfl (pc0 := 31) (pc' := 43) rfl (hb hby d_method_2_code_31) rfl ((if0 _ _).trans (feq hc4).2) (by decide) (by decide) k_)
    refine Go.st (T' := T3) (g' := (mkF m 44 #[.val (.int p1), .val (.ref na1)] [(.ref na1)])) ?_ (fun _ k_ => XS.aloadN X3.here hx rfl (hb hby d_method_2_code_43) rfl rfl k_)
    refine Go.st (T' := T3) (g' := (mkF m 45 #[.val (.int p1), .val (.ref na1)] [(.int (0 : Int32)), (.ref na1)])) ?_ (fun _ k_ => XT.iconstV X3.here hx rfl (0 : Int32) (hb hby d_method_2_code_44) (by decide) k_)
    refine Go.st (T' := T3) (g' := (mkF m 46 #[.val (.int p1), .val (.ref na1)] [(.int x0)])) ?_ (own_caload X3 hx hZ e3 V3 (by decide) (by rw [show (0 : Int32).toNatClampNeg = 0 from by decide]; rfl) (g := (mkF m 45 #[.val (.int p1), .val (.ref na1)] [(.int (0 : Int32)), (.ref na1)])) rfl rfl (hb hby d_method_2_code_45))
    refine Go.callS X3 hx hZ hown (hw _ (List.mem_of_getElem? (i := 83) rfl)) (hw _ (List.mem_of_getElem? (i := 84) rfl)) (hw _ (List.mem_of_getElem? (i := 8) rfl)) (hw _ (List.mem_of_getElem? (i := 85) rfl)) (by decide) (valof l Z a0 hw [] x0 zc h3 n0 (Nat.le_trans (Nat.le_trans (Nat.le_trans Z0 E1.1) (Nat.le_of_eq W2.size.symm)) (Nat.le_of_eq W3.size.symm)) (((SC.ext E1).wr W2).wr W3) hzc r_x0) e3 (by decide) (W := 0) (by decide) (by decide) (by decide) (g := (mkF m 46 #[.val (.int p1), .val (.ref na1)] [(.int x0)])) (rest := []) rfl (by rw [hml]; rfl) (lenOf pd__C_Ljava_lang_String_ rfl) rfl (by show 2 * 0 + _ ≤ _; exact Nat.le_of_eq rfl) (hb hby d_method_2_code_46) ?_
    rintro v7 T7 L7 X7 ⟨o7, b7, kb7, rfl, N7, K7, g7, gb7, A7, C7, F7, V7⟩
    have M7 := Fr.app N3 N7
    have G_o7 : n0 ≤ o7 := Nat.le_trans (Nat.le_trans (Nat.le_trans (Nat.le_trans Z0 E1.1) (Nat.le_of_eq W2.size.symm)) (Nat.le_of_eq W3.size.symm)) g7
    have H_o7 : h0.size ≤ o7 := Nat.le_trans (Nat.le_trans (Nat.le_trans (Nat.le_trans (Nat.le_refl _) E1.1) (Nat.le_of_eq W2.size.symm)) (Nat.le_of_eq W3.size.symm)) g7
    have Q_o7_na1 : ¬ na1 = o7 := Nat.ne_of_lt (Nat.lt_of_lt_of_le V3.lt g7)
    have G_b7 : n0 ≤ b7 := Nat.le_trans (Nat.le_trans (Nat.le_trans (Nat.le_trans Z0 E1.1) (Nat.le_of_eq W2.size.symm)) (Nat.le_of_eq W3.size.symm)) gb7
    have H_b7 : h0.size ≤ b7 := Nat.le_trans (Nat.le_trans (Nat.le_trans (Nat.le_trans (Nat.le_refl _) E1.1) (Nat.le_of_eq W2.size.symm)) (Nat.le_of_eq W3.size.symm)) gb7
    have Q_b7_na1 : ¬ na1 = b7 := Nat.ne_of_lt (Nat.lt_of_lt_of_le V3.lt gb7)
    show Go p e below _ T7 (mkF m 49 #[.val (.int p1), .val (.ref na1)] [(.ref o7)])
    exact Go.retV (t := (.object "java/lang/String")) X7 hx hret hlk (by decide) (by decide) rfl (Or.inr (Or.inr (Or.inr (Or.inr ⟨rfl, rfl, rfl⟩)))) (hb hby d_method_2_code_49) ⟨o7, rfl, M7, (show Keep h0 T7.heap [] from (((((Keep.refl _ _).ext E1).wr W2 (Or.inr H1)).wr W3 (Or.inr H1)).trans K7 all0)), H_o7, A7⟩
theorem d_jdk_31_method_11_code_0 : decode jdk_31_method_11_code 0 = .ok (.aload_n 0, 1) := by decide +kernel
theorem d_jdk_31_method_11_code_1 : decode jdk_31_method_11_code 1 = .ok (.ifnonnull 12, 3) := by decide +kernel
theorem d_jdk_31_method_11_code_13 : decode jdk_31_method_11_code 13 = .ok (.aload_n 0, 1) := by decide +kernel
theorem d_jdk_31_method_11_code_14 : decode jdk_31_method_11_code 14 = .ok (.areturn, 1) := by decide +kernel
theorem pn_java_util_Objects : plainName "java/util/Objects" = true := by first | (simp [plainName, overriddenIn]; done) | decide +kernel
set_option maxRecDepth 65536 in
set_option maxHeartbeats 40000000 in
theorem rnn (l : Launch) (Z : State) (a0 : Array Value) (hw : ∀ d ∈ tables_1, d.before a0 Z = true) (ws : List Jvm.Cond) (a1 a2 : Addr) (h0 : Heap) (n0 : Nat) (Z0 : n0 ≤ h0.size)  :
    Does l (⟨"java/util/Objects", "requireNonNull", "(Ljava/lang/Object;Ljava/lang/String;)Ljava/lang/Object;"⟩ : MethodName) jdk_31_method_11_code 2 (some (.object "java/lang/Object")) ws ({ frames := 0, cells := 0, slots := 0, locals := 0 } : Room) #[(.ref a1), (.ref a2)] Z h0 (fun v h L => v = some (.ref a1) ∧ Fr n0 L ∧ h = h0) := by
  refine Does.of (plainFor_of_name pn_java_util_Objects) ?_
  intro p e s m below meth c s₁ hx hby hml hret hlk hown0 hnm hZ X0 e0
  have hown : s.vm.findClass "java/util/Objects" = some m.cls := hown0
  have N0 := Fr.nil n0
  refine Go.cast (g' := (mkF m 0 #[.val (.ref a1), .val (.ref a2)] [])) (by first | (simp [entryFrame, mkF, argsToLocals, Value.category, maxLocals]; done) | rfl) ?_
  refine Go.st (T' := s₁) (g' := (mkF m 1 #[.val (.ref a1), .val (.ref a2)] [(.ref a1)])) ?_ (fun _ k_ => XS.aloadN X0.here hx rfl (hb hby d_jdk_31_method_11_code_0) rfl rfl k_)
  refine Go.st (T' := s₁) (g' := (mkF m 13 #[.val (.ref a1), .val (.ref a2)] [])) ?_ (fun _ k_ => XT.ifnonnullYes X0.here hx rfl (pc0 := 1) (pc' := 13) rfl (hb hby d_jdk_31_method_11_code_1) rfl (by decide) (by decide) k_)
  refine Go.st (T' := s₁) (g' := (mkF m 14 #[.val (.ref a1), .val (.ref a2)] [(.ref a1)])) ?_ (fun _ k_ => XS.aloadN X0.here hx rfl (hb hby d_jdk_31_method_11_code_13) rfl rfl k_)
  exact Go.retV (t := (.object "java/lang/Object")) X0 hx hret hlk (by decide) (by decide) rfl (Or.inr (Or.inr (Or.inr (Or.inr ⟨rfl, rfl, rfl⟩)))) (hb hby d_jdk_31_method_11_code_14) ⟨rfl, N0, e0⟩
theorem d_prog_20_method_1_code_0 : decode prog_20_method_1_code 0 = .ok (.aload_n 0, 1) := by decide +kernel
theorem d_prog_20_method_1_code_1 : decode prog_20_method_1_code 1 = .ok (.invokespecial 1, 3) := by decide +kernel
theorem d_prog_20_method_1_code_4 : decode prog_20_method_1_code 4 = .ok (.aload_n 0, 1) := by decide +kernel
theorem d_prog_20_method_1_code_5 : decode prog_20_method_1_code 5 = .ok (.aload_n 1, 1) := by decide +kernel
theorem d_prog_20_method_1_code_6 : decode prog_20_method_1_code 6 = .ok (.ldc 7, 2) := by decide +kernel
theorem d_prog_20_method_1_code_8 : decode prog_20_method_1_code 8 = .ok (.invokestatic 9, 3) := by decide +kernel
theorem pd__Ljava_lang_Object_Ljava_lang_String__Ljava_lang_Object_ : parseMethodDescriptor "(Ljava/lang/Object;Ljava/lang/String;)Ljava/lang/Object;" = some ⟨[(.object "java/lang/Object"), (.object "java/lang/String")], some (.object "java/lang/Object")⟩ := by decide +kernel
theorem d_prog_20_method_1_code_11 : decode prog_20_method_1_code 11 = .ok (.checkcast 15, 3) := by decide +kernel
theorem d_prog_20_method_1_code_14 : decode prog_20_method_1_code 14 = .ok (.putfield 17, 3) := by decide +kernel
theorem d_prog_20_method_1_code_17 : decode prog_20_method_1_code 17 = .ok (.aload_n 0, 1) := by decide +kernel
theorem d_prog_20_method_1_code_18 : decode prog_20_method_1_code 18 = .ok (.aload_n 2, 1) := by decide +kernel
theorem d_prog_20_method_1_code_19 : decode prog_20_method_1_code 19 = .ok (.ldc 22, 2) := by decide +kernel
theorem d_prog_20_method_1_code_21 : decode prog_20_method_1_code 21 = .ok (.invokestatic 9, 3) := by decide +kernel
theorem d_prog_20_method_1_code_24 : decode prog_20_method_1_code 24 = .ok (.checkcast 24, 3) := by decide +kernel
theorem d_prog_20_method_1_code_27 : decode prog_20_method_1_code 27 = .ok (.putfield 26, 3) := by decide +kernel
theorem d_prog_20_method_1_code_30 : decode prog_20_method_1_code 30 = .ok (.return_, 1) := by decide +kernel
theorem pn_com_example_lean_grant_leangrant_grantset_Owner : plainName "com/example/lean_grant/leangrant/grantset/Owner" = true := by first | (simp [plainName, overriddenIn]; done) | decide +kernel
set_option maxRecDepth 65536 in
set_option maxHeartbeats 40000000 in
theorem oinit (l : Launch) (Z : State) (a0 : Array Value) (hw : ∀ d ∈ tables_1, d.before a0 Z = true) (ws : List Jvm.Cond) (o0 o1 o2 : Addr) (h0 : Heap) (n0 : Nat) (Z0 : n0 ≤ h0.size) (Ft : Fld Z h0 o0 "com/example/lean_grant/leangrant/grantset/Owner" "type" "Lcom/example/lean_grant/leangrant/grantset/OwnerType;" .null) (Fi : Fld Z h0 o0 "com/example/lean_grant/leangrant/grantset/Owner" "id" "Ljava/lang/String;" .null) (A0 : Exa Z h0 o0 "com/example/lean_grant/leangrant/grantset/Owner") (A1 : Exa Z h0 o1 "com/example/lean_grant/leangrant/grantset/OwnerType") (A2 : Exa Z h0 o2 "java/lang/String") (g0 : n0 ≤ o0) (n1 : ¬ o0 = o1) (n2 : ¬ o0 = o2) :
    DoesW l (⟨"com/example/lean_grant/leangrant/grantset/Owner", "<init>", "(Lcom/example/lean_grant/leangrant/grantset/OwnerType;Ljava/lang/String;)V"⟩ : MethodName) prog_20_method_1_code 3 none ws ({ frames := 1, cells := 4, slots := 32, locals := 14 } : Room) #[(.ref o0), (.ref o1), (.ref o2)] Z h0 (fun v h L => v = none ∧ Fr n0 L ∧ Keep h0 h [o0] ∧ Exa Z h o0 "com/example/lean_grant/leangrant/grantset/Owner" ∧ Fld Z h o0 "com/example/lean_grant/leangrant/grantset/Owner" "type" "Lcom/example/lean_grant/leangrant/grantset/OwnerType;" (.ref o1) ∧ Fld Z h o0 "com/example/lean_grant/leangrant/grantset/Owner" "id" "Ljava/lang/String;" (.ref o2)) := by
  refine DoesW.of (plainFor_of_name pn_com_example_lean_grant_leangrant_grantset_Owner) ?_
  intro p e s m below meth c s₁ hx hby hml hret hlk hown0 hnm hZ hS X0 e0
  have hown : s.vm.findClass "com/example/lean_grant/leangrant/grantset/Owner" = some m.cls := hown0
  have N0 := Fr.nil n0
  have hk : 0 ≤ h0.size := Nat.zero_le _
  have wS : ∀ d ∈ Bundle.stringAtoms, d.before a0 Z = true := fun d hd => hw d ((by decide +kernel : ∀ d ∈ Bundle.stringAtoms, d ∈ tables_1) d hd)
  refine Go.cast (g' := (mkF m 0 #[.val (.ref o0), .val (.ref o1), .val (.ref o2)] [])) (by first | (simp [entryFrame, mkF, argsToLocals, Value.category, maxLocals]; done) | rfl) ?_
  refine Go.st (T' := s₁) (g' := (mkF m 1 #[.val (.ref o0), .val (.ref o1), .val (.ref o2)] [(.ref o0)])) ?_ (fun _ k_ => XS.aloadN X0.here hx rfl (hb hby d_prog_20_method_1_code_0) rfl rfl k_)
  obtain ⟨T1, X1, e1, st1⟩ := initO X0 hx hZ hown (hw _ (List.mem_of_getElem? (i := 48) rfl)) (hw _ (List.mem_of_getElem? (i := 17) rfl)) (hw _ (List.mem_of_getElem? (i := 18) rfl)) e0 (g := (mkF m 1 #[.val (.ref o0), .val (.ref o1), .val (.ref o2)] [(.ref o0)])) rfl (by rw [hml]; rfl) rfl (hb hby d_prog_20_method_1_code_1) (by decide) (W := 0) (by show 2 * 0 + _ ≤ _; exact Nat.le_of_eq rfl) (by decide)
  refine Go.st (T' := T1) (g' := (mkF m 4 #[.val (.ref o0), .val (.ref o1), .val (.ref o2)] [])) ?_ st1
  refine Go.st (T' := T1) (g' := (mkF m 5 #[.val (.ref o0), .val (.ref o1), .val (.ref o2)] [(.ref o0)])) ?_ (fun _ k_ => XS.aloadN X1.here hx rfl (hb hby d_prog_20_method_1_code_4) rfl rfl k_)
  refine Go.st (T' := T1) (g' := (mkF m 6 #[.val (.ref o0), .val (.ref o1), .val (.ref o2)] [(.ref o1), (.ref o0)])) ?_ (fun _ k_ => XS.aloadN X1.here hx rfl (hb hby d_prog_20_method_1_code_5) rfl rfl k_)
  obtain ⟨t2, T2, h2, k2, X2, e2, E2, hS, hk, hZ, hown, st2⟩ := ldcS X1 hx hZ hown (hw _ (List.mem_of_getElem? (i := 49) rfl)) wS e1 hS hk (g := (mkF m 6 #[.val (.ref o0), .val (.ref o1), .val (.ref o2)] [(.ref o1), (.ref o0)])) rfl (hb hby d_prog_20_method_1_code_6) (n := 16) (by decide) (by decide) (by decide) (by decide)
  refine Go.st (T' := T2) (g' := (mkF m 8 #[.val (.ref o0), .val (.ref o1), .val (.ref o2)] [(.ref t2), (.ref o1), (.ref o0)])) ?_ st2
  refine Go.callS X2 hx hZ hown (hw _ (List.mem_of_getElem? (i := 52) rfl)) (hw _ (List.mem_of_getElem? (i := 53) rfl)) (hw _ (List.mem_of_getElem? (i := 54) rfl)) (hw _ (List.mem_of_getElem? (i := 55) rfl)) (by decide) (rnn l Z a0 hw [] o1 t2 h2 n0 (Nat.le_trans Z0 E2.1)) e2 (by decide) (W := 1) (by decide) (by decide) (by decide) (g := (mkF m 8 #[.val (.ref o0), .val (.ref o1), .val (.ref o2)] [(.ref t2), (.ref o1), (.ref o0)])) (rest := [(.ref o0)]) rfl (by rw [hml]; rfl) (lenOf pd__Ljava_lang_Object_Ljava_lang_String__Ljava_lang_Object_ rfl) rfl (by show 2 * 0 + _ ≤ _; exact Nat.le_of_eq rfl) (hb hby d_prog_20_method_1_code_8) ?_
  rintro v3 T3 L3 X3 ⟨rfl, N3, e3⟩
  have M3 := Fr.app N0 N3
  show Go p e below _ T3 (mkF m 11 #[.val (.ref o0), .val (.ref o1), .val (.ref o2)] [(.ref o1), (.ref o0)])
  obtain ⟨T4, X4, e4, st4⟩ := castY X3 hx hZ hown (hw _ (List.mem_of_getElem? (i := 56) rfl)) e3 (Ins.self (A1.ext E2)) (g := (mkF m 11 #[.val (.ref o0), .val (.ref o1), .val (.ref o2)] [(.ref o1), (.ref o0)])) rfl rfl (hb hby d_prog_20_method_1_code_11)
  refine Go.st (T' := T4) (g' := (mkF m 14 #[.val (.ref o0), .val (.ref o1), .val (.ref o2)] [(.ref o1), (.ref o0)])) ?_ st4
  obtain ⟨T5, h5, X5, e5, W5, st5⟩ := putF X4 hx hZ hown (host := "") (Or.inl (hw _ (List.mem_of_getElem? (i := 58) rfl))) Via.refl e4 (Ft.ext E2) (A0.ext E2) (Or.inr ⟨(hw _ (List.mem_of_getElem? (i := 59) rfl)), rfl, hnm⟩) (hw _ (List.mem_of_getElem? (i := 40) rfl)) (ty := (.object "com/example/lean_grant/leangrant/grantset/OwnerType")) (by decide) rfl rfl (g := (mkF m 14 #[.val (.ref o0), .val (.ref o1), .val (.ref o2)] [(.ref o1), (.ref o0)])) rfl rfl (hb hby d_prog_20_method_1_code_14)
  have N5 := Fr.snoc X5 M3 g0
  refine Go.st (T' := T5) (g' := (mkF m 17 #[.val (.ref o0), .val (.ref o1), .val (.ref o2)] [])) ?_ st5
  refine Go.st (T' := T5) (g' := (mkF m 18 #[.val (.ref o0), .val (.ref o1), .val (.ref o2)] [(.ref o0)])) ?_ (fun _ k_ => XS.aloadN X5.here hx rfl (hb hby d_prog_20_method_1_code_17) rfl rfl k_)
  refine Go.st (T' := T5) (g' := (mkF m 19 #[.val (.ref o0), .val (.ref o1), .val (.ref o2)] [(.ref o2), (.ref o0)])) ?_ (fun _ k_ => XS.aloadN X5.here hx rfl (hb hby d_prog_20_method_1_code_18) rfl rfl k_)
  obtain ⟨t6, T6, h6, k6, X6, e6, E6, hS, hk, hZ, hown, st6⟩ := ldcS X5 hx hZ hown (hw _ (List.mem_of_getElem? (i := 60) rfl)) wS e5 hS (Nat.le_trans hk (Nat.le_of_eq W5.size.symm)) (g := (mkF m 19 #[.val (.ref o0), .val (.ref o1), .val (.ref o2)] [(.ref o2), (.ref o0)])) rfl (hb hby d_prog_20_method_1_code_19) (n := 8) (by decide) (by decide) (by decide) (by decide)
  refine Go.st (T' := T6) (g' := (mkF m 21 #[.val (.ref o0), .val (.ref o1), .val (.ref o2)] [(.ref t6), (.ref o2), (.ref o0)])) ?_ st6
  refine Go.callS X6 hx hZ hown (hw _ (List.mem_of_getElem? (i := 52) rfl)) (hw _ (List.mem_of_getElem? (i := 53) rfl)) (hw _ (List.mem_of_getElem? (i := 54) rfl)) (hw _ (List.mem_of_getElem? (i := 55) rfl)) (by decide) (rnn l Z a0 hw [] o2 t6 h6 n0 (Nat.le_trans (Nat.le_trans (Nat.le_trans Z0 E2.1) (Nat.le_of_eq W5.size.symm)) E6.1)) e6 (by decide) (W := 1) (by decide) (by decide) (by decide) (g := (mkF m 21 #[.val (.ref o0), .val (.ref o1), .val (.ref o2)] [(.ref t6), (.ref o2), (.ref o0)])) (rest := [(.ref o0)]) rfl (by rw [hml]; rfl) (lenOf pd__Ljava_lang_Object_Ljava_lang_String__Ljava_lang_Object_ rfl) rfl (by show 2 * 0 + _ ≤ _; exact Nat.le_of_eq rfl) (hb hby d_prog_20_method_1_code_21) ?_
  rintro v7 T7 L7 X7 ⟨rfl, N7, e7⟩
  have M7 := Fr.app N5 N7
  show Go p e below _ T7 (mkF m 24 #[.val (.ref o0), .val (.ref o1), .val (.ref o2)] [(.ref o2), (.ref o0)])
  obtain ⟨T8, X8, e8, st8⟩ := castY X7 hx hZ hown (hw _ (List.mem_of_getElem? (i := 61) rfl)) e7 (Ins.self (((A2.ext E2).wr W5).ext E6)) (g := (mkF m 24 #[.val (.ref o0), .val (.ref o1), .val (.ref o2)] [(.ref o2), (.ref o0)])) rfl rfl (hb hby d_prog_20_method_1_code_24)
  refine Go.st (T' := T8) (g' := (mkF m 27 #[.val (.ref o0), .val (.ref o1), .val (.ref o2)] [(.ref o2), (.ref o0)])) ?_ st8
  obtain ⟨T9, h9, X9, e9, W9, st9⟩ := putF X8 hx hZ hown (host := "") (Or.inl (hw _ (List.mem_of_getElem? (i := 62) rfl))) Via.refl e8 (((Fi.ext E2).other W5 (Or.inr (slot_ne (t := (.object "java/lang/String")) (t' := (.object "com/example/lean_grant/leangrant/grantset/OwnerType")) (Or.inr (hw _ (List.mem_of_getElem? (i := 63) rfl))) (Or.inr (hw _ (List.mem_of_getElem? (i := 59) rfl))) (by decide) (by decide) (by decide)))).ext E6) (((A0.ext E2).wr W5).ext E6) (Or.inr ⟨(hw _ (List.mem_of_getElem? (i := 63) rfl)), rfl, hnm⟩) (hw _ (List.mem_of_getElem? (i := 40) rfl)) (ty := (.object "java/lang/String")) (by decide) rfl rfl (g := (mkF m 27 #[.val (.ref o0), .val (.ref o1), .val (.ref o2)] [(.ref o2), (.ref o0)])) rfl rfl (hb hby d_prog_20_method_1_code_27)
  have N9 := Fr.snoc X9 M7 g0
  refine Go.st (T' := T9) (g' := (mkF m 30 #[.val (.ref o0), .val (.ref o1), .val (.ref o2)] [])) ?_ st9
  exact Go.retUW X9 hx hS (by rw [e9]; exact (Nat.le_trans hk (Nat.le_of_eq W9.size.symm))) hret hlk (by decide) (by decide) (hb hby d_prog_20_method_1_code_30) (by rw [e9]; exact ⟨rfl, N9, (show Keep h0 h9 [o0] from (((((Keep.refl _ _).ext E2).wr W5 (Or.inl (List.mem_of_getElem? (i := 0) rfl))).ext E6).wr W9 (Or.inl (List.mem_of_getElem? (i := 0) rfl)))), ((((A0.ext E2).wr W5).ext E6).wr W9), ((((Ft.ext E2).same W5).ext E6).other W9 (Or.inr (slot_ne (t := (.object "com/example/lean_grant/leangrant/grantset/OwnerType")) (t' := (.object "java/lang/String")) (Or.inr (hw _ (List.mem_of_getElem? (i := 59) rfl))) (Or.inr (hw _ (List.mem_of_getElem? (i := 63) rfl))) (by decide) (by decide) (by decide)))), ((((Fi.ext E2).other W5 (Or.inr (slot_ne (t := (.object "java/lang/String")) (t' := (.object "com/example/lean_grant/leangrant/grantset/OwnerType")) (Or.inr (hw _ (List.mem_of_getElem? (i := 63) rfl))) (Or.inr (hw _ (List.mem_of_getElem? (i := 59) rfl))) (by decide) (by decide) (by decide)))).ext E6).same W9)⟩)
theorem d_prog_2_method_4_code_0 : decode prog_2_method_4_code 0 = .ok (.aload_n 0, 1) := by decide +kernel
theorem d_prog_2_method_4_code_1 : decode prog_2_method_4_code 1 = .ok (.ifnonnull 17, 3) := by decide +kernel
theorem d_prog_2_method_4_code_18 : decode prog_2_method_4_code 18 = .ok (.aload_n 1, 1) := by decide +kernel
theorem d_prog_2_method_4_code_19 : decode prog_2_method_4_code 19 = .ok (.ifnull 18, 3) := by decide +kernel
theorem d_prog_2_method_4_code_37 : decode prog_2_method_4_code 37 = .ok (.new 77, 3) := by decide +kernel
theorem d_prog_2_method_4_code_40 : decode prog_2_method_4_code 40 = .ok (.dup, 1) := by decide +kernel
theorem d_prog_2_method_4_code_41 : decode prog_2_method_4_code 41 = .ok (.getstatic 88, 3) := by decide +kernel
theorem d_prog_2_method_4_code_44 : decode prog_2_method_4_code 44 = .ok (.aload_n 0, 1) := by decide +kernel
theorem d_prog_2_method_4_code_45 : decode prog_2_method_4_code 45 = .ok (.invokespecial 85, 3) := by decide +kernel
theorem pd__Lcom_example_lean_grant_leangrant_grantset_OwnerType_Ljava_lang_String__V : parseMethodDescriptor "(Lcom/example/lean_grant/leangrant/grantset/OwnerType;Ljava/lang/String;)V" = some ⟨[(.object "com/example/lean_grant/leangrant/grantset/OwnerType"), (.object "java/lang/String")], none⟩ := by decide +kernel
theorem d_prog_2_method_4_code_48 : decode prog_2_method_4_code 48 = .ok (.astore_n 2, 1) := by decide +kernel
theorem d_prog_2_method_4_code_49 : decode prog_2_method_4_code 49 = .ok (.aload_n 2, 1) := by decide +kernel
theorem d_prog_2_method_4_code_50 : decode prog_2_method_4_code 50 = .ok (.areturn, 1) := by decide +kernel
theorem pn_com_example_lean_grant_leangrant_check_AccessRequest : plainName "com/example/lean_grant/leangrant/check/AccessRequest" = true := by first | (simp [plainName, overriddenIn]; done) | decide +kernel
set_option maxRecDepth 65536 in
set_option maxHeartbeats 40000000 in
theorem caller0 (l : Launch) (Z : State) (a0 : Array Value) (hw : ∀ d ∈ tables_1, d.before a0 Z = true) (ws : List Jvm.Cond) (o1 o2 w_USER w_CLIENT : Addr) (h0 : Heap) (n0 : Nat) (Z0 : n0 ≤ h0.size) (AA1 : Exa Z h0 o1 "java/lang/String") (AA2 : Exa Z h0 o2 "java/lang/String") (S_USER : Sta Z h0 "com/example/lean_grant/leangrant/grantset/OwnerType" "USER" "Lcom/example/lean_grant/leangrant/grantset/OwnerType;" (.ref w_USER)) (A_USER : Exa Z h0 w_USER "com/example/lean_grant/leangrant/grantset/OwnerType") (S_CLIENT : Sta Z h0 "com/example/lean_grant/leangrant/grantset/OwnerType" "CLIENT" "Lcom/example/lean_grant/leangrant/grantset/OwnerType;" (.ref w_CLIENT)) (A_CLIENT : Exa Z h0 w_CLIENT "com/example/lean_grant/leangrant/grantset/OwnerType") :
    DoesW l (⟨"com/example/lean_grant/leangrant/check/AccessRequest", "callerOf", "(Ljava/lang/String;Ljava/lang/String;)Lcom/example/lean_grant/leangrant/grantset/Owner;"⟩ : MethodName) prog_2_method_4_code 3 (some (.object "com/example/lean_grant/leangrant/grantset/Owner")) ws ({ frames := 2, cells := 5, slots := 34, locals := 29 } : Room) #[(.ref o1), .null] Z h0 (fun v h L => ∃ o, v = some (.ref o) ∧ Fr n0 L ∧ Keep h0 h [] ∧ h0.size ≤ o ∧ Exa Z h o "com/example/lean_grant/leangrant/grantset/Owner" ∧ Fld Z h o "com/example/lean_grant/leangrant/grantset/Owner" "type" "Lcom/example/lean_grant/leangrant/grantset/OwnerType;" (.ref w_USER) ∧ Fld Z h o "com/example/lean_grant/leangrant/grantset/Owner" "id" "Ljava/lang/String;" (.ref o1)) := by
  refine DoesW.of (plainFor_of_name pn_com_example_lean_grant_leangrant_check_AccessRequest) ?_
  intro p e s m below meth c s₁ hx hby hml hret hlk hown0 hnm hZ hS X0 e0
  have hown : s.vm.findClass "com/example/lean_grant/leangrant/check/AccessRequest" = some m.cls := hown0
  have N0 := Fr.nil n0
  have hk : 0 ≤ h0.size := Nat.zero_le _
  have wS : ∀ d ∈ Bundle.stringAtoms, d.before a0 Z = true := fun d hd => hw d ((by decide +kernel : ∀ d ∈ Bundle.stringAtoms, d ∈ tables_1) d hd)
  refine Go.cast (g' := (mkF m 0 #[.val (.ref o1), .val .null, .unset] [])) (by first | (simp [entryFrame, mkF, argsToLocals, Value.category, maxLocals]; done) | rfl) ?_
  refine Go.st (T' := s₁) (g' := (mkF m 1 #[.val (.ref o1), .val .null, .unset] [(.ref o1)])) ?_ (fun _ k_ => XS.aloadN X0.here hx rfl (hb hby d_prog_2_method_4_code_0) rfl rfl k_)
  refine Go.st (T' := s₁) (g' := (mkF m 18 #[.val (.ref o1), .val .null, .unset] [])) ?_ (fun _ k_ => XT.ifnonnullYes X0.here hx rfl (pc0 := 1) (pc' := 18) rfl (hb hby d_prog_2_method_4_code_1) rfl (by decide) (by decide) k_)
  refine Go.st (T' := s₁) (g' := (mkF m 19 #[.val (.ref o1), .val .null, .unset] [.null])) ?_ (fun _ k_ => XS.aloadN X0.here hx rfl (hb hby d_prog_2_method_4_code_18) rfl rfl k_)
  refine Go.st (T' := s₁) (g' := (mkF m 37 #[.val (.ref o1), .val .null, .unset] [])) ?_ (fun _ k_ => XS.ifnullYes X0.here hx rfl (pc0 := 19) (pc' := 37) rfl (hb hby d_prog_2_method_4_code_19) rfl (by decide) (by decide) k_)
  obtain ⟨T1, h1, X1, e1, E1, A1, D1, -, st1⟩ := newO X0 hx hZ hown (hw _ (List.mem_of_getElem? (i := 39) rfl)) (hw _ (List.mem_of_getElem? (i := 40) rfl)) (hw _ (List.mem_of_getElem? (i := 41) rfl)) e0 (g := (mkF m 37 #[.val (.ref o1), .val .null, .unset] [])) rfl (hb hby d_prog_2_method_4_code_37) (by decide) (by decide)
  obtain ⟨na1, g1⟩ : ∃ z, z = h0.size := ⟨_, rfl⟩
  rw [← g1] at A1 D1 st1
  have G1 : n0 ≤ na1 := Nat.le_trans Z0 (Nat.le_of_eq g1.symm)
  have H1 : h0.size ≤ na1 := Nat.le_trans (Nat.le_refl _) (Nat.le_of_eq g1.symm)
  have Q1_o1 : ¬ o1 = na1 := Nat.ne_of_lt (by rw [g1]; exact AA1.lt)
  have Q1_o2 : ¬ o2 = na1 := Nat.ne_of_lt (by rw [g1]; exact AA2.lt)
  have Q1_w_USER : ¬ w_USER = na1 := Nat.ne_of_lt (by rw [g1]; exact A_USER.lt)
  have Q1_w_CLIENT : ¬ w_CLIENT = na1 := Nat.ne_of_lt (by rw [g1]; exact A_CLIENT.lt)
  refine Go.st (T' := T1) (g' := (mkF m 40 #[.val (.ref o1), .val .null, .unset] [(.ref na1)])) ?_ st1
  refine Go.st (T' := T1) (g' := (mkF m 41 #[.val (.ref o1), .val .null, .unset] [(.ref na1), (.ref na1)])) ?_ (fun _ k_ => XS.dup X1.here hx rfl (hb hby d_prog_2_method_4_code_40) rfl rfl k_)
  obtain ⟨T2, X2, e2, st2⟩ := getS2 X1 hx hZ hown (host := "") (Or.inl (hw _ (List.mem_of_getElem? (i := 42) rfl))) Via.refl e1 (S_USER.ext E1) (g := (mkF m 41 #[.val (.ref o1), .val .null, .unset] [(.ref na1), (.ref na1)])) rfl (hb hby d_prog_2_method_4_code_41)
  refine Go.st (T' := T2) (g' := (mkF m 44 #[.val (.ref o1), .val .null, .unset] [(.ref w_USER), (.ref na1), (.ref na1)])) ?_ st2
  refine Go.st (T' := T2) (g' := (mkF m 45 #[.val (.ref o1), .val .null, .unset] [(.ref o1), (.ref w_USER), (.ref na1), (.ref na1)])) ?_ (fun _ k_ => XS.aloadN X2.here hx rfl (hb hby d_prog_2_method_4_code_44) rfl rfl k_)
  refine Go.callIW X2 hx hZ hown rfl (hw _ (List.mem_of_getElem? (i := 45) rfl)) (hw _ (List.mem_of_getElem? (i := 46) rfl)) (hw _ (List.mem_of_getElem? (i := 41) rfl)) (hw _ (List.mem_of_getElem? (i := 47) rfl)) (by decide) (oinit l Z a0 hw [] na1 w_USER o1 h1 n0 (Nat.le_trans Z0 E1.1) (D1 (Or.inr (hw _ (List.mem_of_getElem? (i := 59) rfl))) (ty := (.object "com/example/lean_grant/leangrant/grantset/OwnerType")) (by decide)) (D1 (Or.inr (hw _ (List.mem_of_getElem? (i := 63) rfl))) (ty := (.object "java/lang/String")) (by decide)) A1 (A_USER.ext E1) (AA1.ext E1) G1 (fun q_ => Q1_w_USER q_.symm) (fun q_ => Q1_o1 q_.symm)) e2 hS (Nat.le_trans hk E1.1) (by decide) (W := 1) (by decide) (by decide) (by decide) (g := (mkF m 45 #[.val (.ref o1), .val .null, .unset] [(.ref o1), (.ref w_USER), (.ref na1), (.ref na1)])) (rest := [(.ref na1)]) rfl (by rw [hml]; rfl) (lenOf pd__Lcom_example_lean_grant_leangrant_grantset_OwnerType_Ljava_lang_String__V rfl) rfl (by show 2 * 0 + _ ≤ _; exact Nat.le_of_eq rfl) (hb hby d_prog_2_method_4_code_45) ?_
  rintro v3 T3 L3 X3 hS hZ hown ⟨rfl, N3, K3, A3, Ft3, Fi3⟩
  have hk := Nat.le_refl T3.heap.size
  have M3 := Fr.app N0 N3
  show Go p e below _ T3 (mkF m 48 #[.val (.ref o1), .val .null, .unset] [(.ref na1)])
  refine Go.st (T' := T3) (g' := (mkF m 49 #[.val (.ref o1), .val .null, .val (.ref na1)] [])) ?_ (fun _ k_ => XS.astoreN X3.here hx rfl (hb hby d_prog_2_method_4_code_48) rfl rfl (l' := #[.val (.ref o1), .val .null, .val (.ref na1)]) rfl k_)
  refine Go.st (T' := T3) (g' := (mkF m 50 #[.val (.ref o1), .val .null, .val (.ref na1)] [(.ref na1)])) ?_ (fun _ k_ => XS.aloadN X3.here hx rfl (hb hby d_prog_2_method_4_code_49) rfl rfl k_)
  exact Go.retVW (t := (.object "com/example/lean_grant/leangrant/grantset/Owner")) X3 hx hS hk hret hlk (by decide) (by decide) rfl (Or.inr (Or.inr (Or.inr (Or.inr ⟨rfl, rfl, rfl⟩)))) (hb hby d_prog_2_method_4_code_50) ⟨na1, rfl, M3, (show Keep h0 T3.heap [] from (((Keep.refl _ _).ext E1).trans K3 (allS (Or.inr H1) all0))), H1, A3, Ft3, Fi3⟩
theorem d_prog_2_method_4_code_4 : decode prog_2_method_4_code 4 = .ok (.aload_n 1, 1) := by decide +kernel
theorem d_prog_2_method_4_code_5 : decode prog_2_method_4_code 5 = .ok (.ifnonnull 13, 3) := by decide +kernel
theorem d_prog_2_method_4_code_22 : decode prog_2_method_4_code 22 = .ok (.new 77, 3) := by decide +kernel
theorem d_prog_2_method_4_code_25 : decode prog_2_method_4_code 25 = .ok (.dup, 1) := by decide +kernel
theorem d_prog_2_method_4_code_26 : decode prog_2_method_4_code 26 = .ok (.getstatic 79, 3) := by decide +kernel
theorem d_prog_2_method_4_code_29 : decode prog_2_method_4_code 29 = .ok (.aload_n 1, 1) := by decide +kernel
theorem d_prog_2_method_4_code_30 : decode prog_2_method_4_code 30 = .ok (.invokespecial 85, 3) := by decide +kernel
theorem d_prog_2_method_4_code_33 : decode prog_2_method_4_code 33 = .ok (.astore_n 2, 1) := by decide +kernel
theorem d_prog_2_method_4_code_34 : decode prog_2_method_4_code 34 = .ok (.goto 15, 3) := by decide +kernel
set_option maxRecDepth 65536 in
set_option maxHeartbeats 40000000 in
theorem caller1 (l : Launch) (Z : State) (a0 : Array Value) (hw : ∀ d ∈ tables_1, d.before a0 Z = true) (ws : List Jvm.Cond) (o1 o2 w_USER w_CLIENT : Addr) (h0 : Heap) (n0 : Nat) (Z0 : n0 ≤ h0.size) (AA1 : Exa Z h0 o1 "java/lang/String") (AA2 : Exa Z h0 o2 "java/lang/String") (S_USER : Sta Z h0 "com/example/lean_grant/leangrant/grantset/OwnerType" "USER" "Lcom/example/lean_grant/leangrant/grantset/OwnerType;" (.ref w_USER)) (A_USER : Exa Z h0 w_USER "com/example/lean_grant/leangrant/grantset/OwnerType") (S_CLIENT : Sta Z h0 "com/example/lean_grant/leangrant/grantset/OwnerType" "CLIENT" "Lcom/example/lean_grant/leangrant/grantset/OwnerType;" (.ref w_CLIENT)) (A_CLIENT : Exa Z h0 w_CLIENT "com/example/lean_grant/leangrant/grantset/OwnerType") :
    DoesW l (⟨"com/example/lean_grant/leangrant/check/AccessRequest", "callerOf", "(Ljava/lang/String;Ljava/lang/String;)Lcom/example/lean_grant/leangrant/grantset/Owner;"⟩ : MethodName) prog_2_method_4_code 3 (some (.object "com/example/lean_grant/leangrant/grantset/Owner")) ws ({ frames := 2, cells := 5, slots := 34, locals := 29 } : Room) #[.null, (.ref o2)] Z h0 (fun v h L => ∃ o, v = some (.ref o) ∧ Fr n0 L ∧ Keep h0 h [] ∧ h0.size ≤ o ∧ Exa Z h o "com/example/lean_grant/leangrant/grantset/Owner" ∧ Fld Z h o "com/example/lean_grant/leangrant/grantset/Owner" "type" "Lcom/example/lean_grant/leangrant/grantset/OwnerType;" (.ref w_CLIENT) ∧ Fld Z h o "com/example/lean_grant/leangrant/grantset/Owner" "id" "Ljava/lang/String;" (.ref o2)) := by
  refine DoesW.of (plainFor_of_name pn_com_example_lean_grant_leangrant_check_AccessRequest) ?_
  intro p e s m below meth c s₁ hx hby hml hret hlk hown0 hnm hZ hS X0 e0
  have hown : s.vm.findClass "com/example/lean_grant/leangrant/check/AccessRequest" = some m.cls := hown0
  have N0 := Fr.nil n0
  have hk : 0 ≤ h0.size := Nat.zero_le _
  have wS : ∀ d ∈ Bundle.stringAtoms, d.before a0 Z = true := fun d hd => hw d ((by decide +kernel : ∀ d ∈ Bundle.stringAtoms, d ∈ tables_1) d hd)
  refine Go.cast (g' := (mkF m 0 #[.val .null, .val (.ref o2), .unset] [])) (by first | (simp [entryFrame, mkF, argsToLocals, Value.category, maxLocals]; done) | rfl) ?_
  refine Go.st (T' := s₁) (g' := (mkF m 1 #[.val .null, .val (.ref o2), .unset] [.null])) ?_ (fun _ k_ => XS.aloadN X0.here hx rfl (hb hby d_prog_2_method_4_code_0) rfl rfl k_)
  refine Go.st (T' := s₁) (g' := (mkF m 4 #[.val .null, .val (.ref o2), .unset] [])) ?_ (fun _ k_ => XT.ifnonnullNo X0.here hx rfl (hb hby d_prog_2_method_4_code_1) rfl k_)
  refine Go.st (T' := s₁) (g' := (mkF m 5 #[.val .null, .val (.ref o2), .unset] [(.ref o2)])) ?_ (fun _ k_ => XS.aloadN X0.here hx rfl (hb hby d_prog_2_method_4_code_4) rfl rfl k_)
  refine Go.st (T' := s₁) (g' := (mkF m 18 #[.val .null, .val (.ref o2), .unset] [])) ?_ (fun _ k_ => XT.ifnonnullYes X0.here hx rfl (pc0 := 5) (pc' := 18) rfl (hb hby d_prog_2_method_4_code_5) rfl (by decide) (by decide) k_)
  refine Go.st (T' := s₁) (g' := (mkF m 19 #[.val .null, .val (.ref o2), .unset] [(.ref o2)])) ?_ (fun _ k_ => XS.aloadN X0.here hx rfl (hb hby d_prog_2_method_4_code_18) rfl rfl k_)
  refine Go.st (T' := s₁) (g' := (mkF m 22 #[.val .null, .val (.ref o2), .unset] [])) ?_ (fun _ k_ => XS.ifnullNo X0.here hx rfl (hb hby d_prog_2_method_4_code_19) rfl k_)
  obtain ⟨T1, h1, X1, e1, E1, A1, D1, -, st1⟩ := newO X0 hx hZ hown (hw _ (List.mem_of_getElem? (i := 39) rfl)) (hw _ (List.mem_of_getElem? (i := 40) rfl)) (hw _ (List.mem_of_getElem? (i := 41) rfl)) e0 (g := (mkF m 22 #[.val .null, .val (.ref o2), .unset] [])) rfl (hb hby d_prog_2_method_4_code_22) (by decide) (by decide)
  obtain ⟨na1, g1⟩ : ∃ z, z = h0.size := ⟨_, rfl⟩
  rw [← g1] at A1 D1 st1
  have G1 : n0 ≤ na1 := Nat.le_trans Z0 (Nat.le_of_eq g1.symm)
  have H1 : h0.size ≤ na1 := Nat.le_trans (Nat.le_refl _) (Nat.le_of_eq g1.symm)
  have Q1_o1 : ¬ o1 = na1 := Nat.ne_of_lt (by rw [g1]; exact AA1.lt)
  have Q1_o2 : ¬ o2 = na1 := Nat.ne_of_lt (by rw [g1]; exact AA2.lt)
  have Q1_w_USER : ¬ w_USER = na1 := Nat.ne_of_lt (by rw [g1]; exact A_USER.lt)
  have Q1_w_CLIENT : ¬ w_CLIENT = na1 := Nat.ne_of_lt (by rw [g1]; exact A_CLIENT.lt)
  refine Go.st (T' := T1) (g' := (mkF m 25 #[.val .null, .val (.ref o2), .unset] [(.ref na1)])) ?_ st1
  refine Go.st (T' := T1) (g' := (mkF m 26 #[.val .null, .val (.ref o2), .unset] [(.ref na1), (.ref na1)])) ?_ (fun _ k_ => XS.dup X1.here hx rfl (hb hby d_prog_2_method_4_code_25) rfl rfl k_)
  obtain ⟨T2, X2, e2, st2⟩ := getS2 X1 hx hZ hown (host := "") (Or.inl (hw _ (List.mem_of_getElem? (i := 80) rfl))) Via.refl e1 (S_CLIENT.ext E1) (g := (mkF m 26 #[.val .null, .val (.ref o2), .unset] [(.ref na1), (.ref na1)])) rfl (hb hby d_prog_2_method_4_code_26)
  refine Go.st (T' := T2) (g' := (mkF m 29 #[.val .null, .val (.ref o2), .unset] [(.ref w_CLIENT), (.ref na1), (.ref na1)])) ?_ st2
  refine Go.st (T' := T2) (g' := (mkF m 30 #[.val .null, .val (.ref o2), .unset] [(.ref o2), (.ref w_CLIENT), (.ref na1), (.ref na1)])) ?_ (fun _ k_ => XS.aloadN X2.here hx rfl (hb hby d_prog_2_method_4_code_29) rfl rfl k_)
  refine Go.callIW X2 hx hZ hown rfl (hw _ (List.mem_of_getElem? (i := 45) rfl)) (hw _ (List.mem_of_getElem? (i := 46) rfl)) (hw _ (List.mem_of_getElem? (i := 41) rfl)) (hw _ (List.mem_of_getElem? (i := 47) rfl)) (by decide) (oinit l Z a0 hw [] na1 w_CLIENT o2 h1 n0 (Nat.le_trans Z0 E1.1) (D1 (Or.inr (hw _ (List.mem_of_getElem? (i := 59) rfl))) (ty := (.object "com/example/lean_grant/leangrant/grantset/OwnerType")) (by decide)) (D1 (Or.inr (hw _ (List.mem_of_getElem? (i := 63) rfl))) (ty := (.object "java/lang/String")) (by decide)) A1 (A_CLIENT.ext E1) (AA2.ext E1) G1 (fun q_ => Q1_w_CLIENT q_.symm) (fun q_ => Q1_o2 q_.symm)) e2 hS (Nat.le_trans hk E1.1) (by decide) (W := 1) (by decide) (by decide) (by decide) (g := (mkF m 30 #[.val .null, .val (.ref o2), .unset] [(.ref o2), (.ref w_CLIENT), (.ref na1), (.ref na1)])) (rest := [(.ref na1)]) rfl (by rw [hml]; rfl) (lenOf pd__Lcom_example_lean_grant_leangrant_grantset_OwnerType_Ljava_lang_String__V rfl) rfl (by show 2 * 0 + _ ≤ _; exact Nat.le_of_eq rfl) (hb hby d_prog_2_method_4_code_30) ?_
  rintro v3 T3 L3 X3 hS hZ hown ⟨rfl, N3, K3, A3, Ft3, Fi3⟩
  have hk := Nat.le_refl T3.heap.size
  have M3 := Fr.app N0 N3
  show Go p e below _ T3 (mkF m 33 #[.val .null, .val (.ref o2), .unset] [(.ref na1)])
  refine Go.st (T' := T3) (g' := (mkF m 34 #[.val .null, .val (.ref o2), .val (.ref na1)] [])) ?_ (fun _ k_ => XS.astoreN X3.here hx rfl (hb hby d_prog_2_method_4_code_33) rfl rfl (l' := #[.val .null, .val (.ref o2), .val (.ref na1)]) rfl k_)
  refine Go.st (T' := T3) (g' := (mkF m 49 #[.val .null, .val (.ref o2), .val (.ref na1)] [])) ?_ (fun _ k_ => XS.goto X3.here hx rfl (pc0 := 34) (pc' := 49) rfl (hb hby d_prog_2_method_4_code_34) (by decide) (by decide) k_)
  refine Go.st (T' := T3) (g' := (mkF m 50 #[.val .null, .val (.ref o2), .val (.ref na1)] [(.ref na1)])) ?_ (fun _ k_ => XS.aloadN X3.here hx rfl (hb hby d_prog_2_method_4_code_49) rfl rfl k_)
  exact Go.retVW (t := (.object "com/example/lean_grant/leangrant/grantset/Owner")) X3 hx hS hk hret hlk (by decide) (by decide) rfl (Or.inr (Or.inr (Or.inr (Or.inr ⟨rfl, rfl, rfl⟩)))) (hb hby d_prog_2_method_4_code_50) ⟨na1, rfl, M3, (show Keep h0 T3.heap [] from (((Keep.refl _ _).ext E1).trans K3 (allS (Or.inr H1) all0))), H1, A3, Ft3, Fi3⟩
set_option maxRecDepth 65536 in
set_option maxHeartbeats 40000000 in
theorem caller2 (l : Launch) (Z : State) (a0 : Array Value) (hw : ∀ d ∈ tables_1, d.before a0 Z = true) (ws : List Jvm.Cond) (o1 o2 w_USER w_CLIENT : Addr) (h0 : Heap) (n0 : Nat) (Z0 : n0 ≤ h0.size) (AA1 : Exa Z h0 o1 "java/lang/String") (AA2 : Exa Z h0 o2 "java/lang/String") (S_USER : Sta Z h0 "com/example/lean_grant/leangrant/grantset/OwnerType" "USER" "Lcom/example/lean_grant/leangrant/grantset/OwnerType;" (.ref w_USER)) (A_USER : Exa Z h0 w_USER "com/example/lean_grant/leangrant/grantset/OwnerType") (S_CLIENT : Sta Z h0 "com/example/lean_grant/leangrant/grantset/OwnerType" "CLIENT" "Lcom/example/lean_grant/leangrant/grantset/OwnerType;" (.ref w_CLIENT)) (A_CLIENT : Exa Z h0 w_CLIENT "com/example/lean_grant/leangrant/grantset/OwnerType") :
    DoesW l (⟨"com/example/lean_grant/leangrant/check/AccessRequest", "callerOf", "(Ljava/lang/String;Ljava/lang/String;)Lcom/example/lean_grant/leangrant/grantset/Owner;"⟩ : MethodName) prog_2_method_4_code 3 (some (.object "com/example/lean_grant/leangrant/grantset/Owner")) ws ({ frames := 2, cells := 5, slots := 34, locals := 29 } : Room) #[(.ref o1), (.ref o2)] Z h0 (fun v h L => ∃ o, v = some (.ref o) ∧ Fr n0 L ∧ Keep h0 h [] ∧ h0.size ≤ o ∧ Exa Z h o "com/example/lean_grant/leangrant/grantset/Owner" ∧ Fld Z h o "com/example/lean_grant/leangrant/grantset/Owner" "type" "Lcom/example/lean_grant/leangrant/grantset/OwnerType;" (.ref w_CLIENT) ∧ Fld Z h o "com/example/lean_grant/leangrant/grantset/Owner" "id" "Ljava/lang/String;" (.ref o2)) := by
  refine DoesW.of (plainFor_of_name pn_com_example_lean_grant_leangrant_check_AccessRequest) ?_
  intro p e s m below meth c s₁ hx hby hml hret hlk hown0 hnm hZ hS X0 e0
  have hown : s.vm.findClass "com/example/lean_grant/leangrant/check/AccessRequest" = some m.cls := hown0
  have N0 := Fr.nil n0
  have hk : 0 ≤ h0.size := Nat.zero_le _
  have wS : ∀ d ∈ Bundle.stringAtoms, d.before a0 Z = true := fun d hd => hw d ((by decide +kernel : ∀ d ∈ Bundle.stringAtoms, d ∈ tables_1) d hd)
  refine Go.cast (g' := (mkF m 0 #[.val (.ref o1), .val (.ref o2), .unset] [])) (by first | (simp [entryFrame, mkF, argsToLocals, Value.category, maxLocals]; done) | rfl) ?_
  refine Go.st (T' := s₁) (g' := (mkF m 1 #[.val (.ref o1), .val (.ref o2), .unset] [(.ref o1)])) ?_ (fun _ k_ => XS.aloadN X0.here hx rfl (hb hby d_prog_2_method_4_code_0) rfl rfl k_)
  refine Go.st (T' := s₁) (g' := (mkF m 18 #[.val (.ref o1), .val (.ref o2), .unset] [])) ?_ (fun _ k_ => XT.ifnonnullYes X0.here hx rfl (pc0 := 1) (pc' := 18) rfl (hb hby d_prog_2_method_4_code_1) rfl (by decide) (by decide) k_)
  refine Go.st (T' := s₁) (g' := (mkF m 19 #[.val (.ref o1), .val (.ref o2), .unset] [(.ref o2)])) ?_ (fun _ k_ => XS.aloadN X0.here hx rfl (hb hby d_prog_2_method_4_code_18) rfl rfl k_)
  refine Go.st (T' := s₁) (g' := (mkF m 22 #[.val (.ref o1), .val (.ref o2), .unset] [])) ?_ (fun _ k_ => XS.ifnullNo X0.here hx rfl (hb hby d_prog_2_method_4_code_19) rfl k_)
  obtain ⟨T1, h1, X1, e1, E1, A1, D1, -, st1⟩ := newO X0 hx hZ hown (hw _ (List.mem_of_getElem? (i := 39) rfl)) (hw _ (List.mem_of_getElem? (i := 40) rfl)) (hw _ (List.mem_of_getElem? (i := 41) rfl)) e0 (g := (mkF m 22 #[.val (.ref o1), .val (.ref o2), .unset] [])) rfl (hb hby d_prog_2_method_4_code_22) (by decide) (by decide)
  obtain ⟨na1, g1⟩ : ∃ z, z = h0.size := ⟨_, rfl⟩
  rw [← g1] at A1 D1 st1
  have G1 : n0 ≤ na1 := Nat.le_trans Z0 (Nat.le_of_eq g1.symm)
  have H1 : h0.size ≤ na1 := Nat.le_trans (Nat.le_refl _) (Nat.le_of_eq g1.symm)
  have Q1_o1 : ¬ o1 = na1 := Nat.ne_of_lt (by rw [g1]; exact AA1.lt)
  have Q1_o2 : ¬ o2 = na1 := Nat.ne_of_lt (by rw [g1]; exact AA2.lt)
  have Q1_w_USER : ¬ w_USER = na1 := Nat.ne_of_lt (by rw [g1]; exact A_USER.lt)
  have Q1_w_CLIENT : ¬ w_CLIENT = na1 := Nat.ne_of_lt (by rw [g1]; exact A_CLIENT.lt)
  refine Go.st (T' := T1) (g' := (mkF m 25 #[.val (.ref o1), .val (.ref o2), .unset] [(.ref na1)])) ?_ st1
  refine Go.st (T' := T1) (g' := (mkF m 26 #[.val (.ref o1), .val (.ref o2), .unset] [(.ref na1), (.ref na1)])) ?_ (fun _ k_ => XS.dup X1.here hx rfl (hb hby d_prog_2_method_4_code_25) rfl rfl k_)
  obtain ⟨T2, X2, e2, st2⟩ := getS2 X1 hx hZ hown (host := "") (Or.inl (hw _ (List.mem_of_getElem? (i := 80) rfl))) Via.refl e1 (S_CLIENT.ext E1) (g := (mkF m 26 #[.val (.ref o1), .val (.ref o2), .unset] [(.ref na1), (.ref na1)])) rfl (hb hby d_prog_2_method_4_code_26)
  refine Go.st (T' := T2) (g' := (mkF m 29 #[.val (.ref o1), .val (.ref o2), .unset] [(.ref w_CLIENT), (.ref na1), (.ref na1)])) ?_ st2
  refine Go.st (T' := T2) (g' := (mkF m 30 #[.val (.ref o1), .val (.ref o2), .unset] [(.ref o2), (.ref w_CLIENT), (.ref na1), (.ref na1)])) ?_ (fun _ k_ => XS.aloadN X2.here hx rfl (hb hby d_prog_2_method_4_code_29) rfl rfl k_)
  refine Go.callIW X2 hx hZ hown rfl (hw _ (List.mem_of_getElem? (i := 45) rfl)) (hw _ (List.mem_of_getElem? (i := 46) rfl)) (hw _ (List.mem_of_getElem? (i := 41) rfl)) (hw _ (List.mem_of_getElem? (i := 47) rfl)) (by decide) (oinit l Z a0 hw [] na1 w_CLIENT o2 h1 n0 (Nat.le_trans Z0 E1.1) (D1 (Or.inr (hw _ (List.mem_of_getElem? (i := 59) rfl))) (ty := (.object "com/example/lean_grant/leangrant/grantset/OwnerType")) (by decide)) (D1 (Or.inr (hw _ (List.mem_of_getElem? (i := 63) rfl))) (ty := (.object "java/lang/String")) (by decide)) A1 (A_CLIENT.ext E1) (AA2.ext E1) G1 (fun q_ => Q1_w_CLIENT q_.symm) (fun q_ => Q1_o2 q_.symm)) e2 hS (Nat.le_trans hk E1.1) (by decide) (W := 1) (by decide) (by decide) (by decide) (g := (mkF m 30 #[.val (.ref o1), .val (.ref o2), .unset] [(.ref o2), (.ref w_CLIENT), (.ref na1), (.ref na1)])) (rest := [(.ref na1)]) rfl (by rw [hml]; rfl) (lenOf pd__Lcom_example_lean_grant_leangrant_grantset_OwnerType_Ljava_lang_String__V rfl) rfl (by show 2 * 0 + _ ≤ _; exact Nat.le_of_eq rfl) (hb hby d_prog_2_method_4_code_30) ?_
  rintro v3 T3 L3 X3 hS hZ hown ⟨rfl, N3, K3, A3, Ft3, Fi3⟩
  have hk := Nat.le_refl T3.heap.size
  have M3 := Fr.app N0 N3
  show Go p e below _ T3 (mkF m 33 #[.val (.ref o1), .val (.ref o2), .unset] [(.ref na1)])
  refine Go.st (T' := T3) (g' := (mkF m 34 #[.val (.ref o1), .val (.ref o2), .val (.ref na1)] [])) ?_ (fun _ k_ => XS.astoreN X3.here hx rfl (hb hby d_prog_2_method_4_code_33) rfl rfl (l' := #[.val (.ref o1), .val (.ref o2), .val (.ref na1)]) rfl k_)
  refine Go.st (T' := T3) (g' := (mkF m 49 #[.val (.ref o1), .val (.ref o2), .val (.ref na1)] [])) ?_ (fun _ k_ => XS.goto X3.here hx rfl (pc0 := 34) (pc' := 49) rfl (hb hby d_prog_2_method_4_code_34) (by decide) (by decide) k_)
  refine Go.st (T' := T3) (g' := (mkF m 50 #[.val (.ref o1), .val (.ref o2), .val (.ref na1)] [(.ref na1)])) ?_ (fun _ k_ => XS.aloadN X3.here hx rfl (hb hby d_prog_2_method_4_code_49) rfl rfl k_)
  exact Go.retVW (t := (.object "com/example/lean_grant/leangrant/grantset/Owner")) X3 hx hS hk hret hlk (by decide) (by decide) rfl (Or.inr (Or.inr (Or.inr (Or.inr ⟨rfl, rfl, rfl⟩)))) (hb hby d_prog_2_method_4_code_50) ⟨na1, rfl, M3, (show Keep h0 T3.heap [] from (((Keep.refl _ _).ext E1).trans K3 (allS (Or.inr H1) all0))), H1, A3, Ft3, Fi3⟩
theorem d_prog_20_method_2_code_0 : decode prog_20_method_2_code 0 = .ok (.aload_n 0, 1) := by decide +kernel
theorem d_prog_20_method_2_code_1 : decode prog_20_method_2_code 1 = .ok (.getfield 17, 3) := by decide +kernel
theorem d_prog_20_method_2_code_4 : decode prog_20_method_2_code 4 = .ok (.areturn, 1) := by decide +kernel
set_option maxRecDepth 65536 in
set_option maxHeartbeats 40000000 in
theorem gett (l : Launch) (Z : State) (a0 : Array Value) (hw : ∀ d ∈ tables_1, d.before a0 Z = true) (ws : List Jvm.Cond) (a1 s1 : Addr) (h0 : Heap) (n0 : Nat) (Z0 : n0 ≤ h0.size) (F1 : Fld Z h0 a1 "com/example/lean_grant/leangrant/grantset/Owner" "type" "Lcom/example/lean_grant/leangrant/grantset/OwnerType;" (.ref s1)) :
    Does l (⟨"com/example/lean_grant/leangrant/grantset/Owner", "getType", "()Lcom/example/lean_grant/leangrant/grantset/OwnerType;"⟩ : MethodName) prog_20_method_2_code 1 (some (.object "com/example/lean_grant/leangrant/grantset/OwnerType")) ws ({ frames := 0, cells := 0, slots := 0, locals := 0 } : Room) #[(.ref a1)] Z h0 (fun v h L => v = some (.ref s1) ∧ Fr n0 L ∧ h = h0) := by
  refine Does.of (plainFor_of_name pn_com_example_lean_grant_leangrant_grantset_Owner) ?_
  intro p e s m below meth c s₁ hx hby hml hret hlk hown0 hnm hZ X0 e0
  have hown : s.vm.findClass "com/example/lean_grant/leangrant/grantset/Owner" = some m.cls := hown0
  have N0 := Fr.nil n0
  refine Go.cast (g' := (mkF m 0 #[.val (.ref a1)] [])) (by first | (simp [entryFrame, mkF, argsToLocals, Value.category, maxLocals]; done) | rfl) ?_
  refine Go.st (T' := s₁) (g' := (mkF m 1 #[.val (.ref a1)] [(.ref a1)])) ?_ (fun _ k_ => XS.aloadN X0.here hx rfl (hb hby d_prog_20_method_2_code_0) rfl rfl k_)
  obtain ⟨T1, X1, e1, st1⟩ := getF X0 hx hZ hown (host := "") (Or.inl (hw _ (List.mem_of_getElem? (i := 58) rfl))) Via.refl e0 F1 (g := (mkF m 1 #[.val (.ref a1)] [(.ref a1)])) rfl rfl (hb hby d_prog_20_method_2_code_1)
  refine Go.st (T' := T1) (g' := (mkF m 4 #[.val (.ref a1)] [(.ref s1)])) ?_ st1
  exact Go.retV (t := (.object "com/example/lean_grant/leangrant/grantset/OwnerType")) X1 hx hret hlk (by decide) (by decide) rfl (Or.inr (Or.inr (Or.inr (Or.inr ⟨rfl, rfl, rfl⟩)))) (hb hby d_prog_20_method_2_code_4) ⟨rfl, N0, e1⟩
theorem d_prog_20_method_3_code_0 : decode prog_20_method_3_code 0 = .ok (.aload_n 0, 1) := by decide +kernel
theorem d_prog_20_method_3_code_1 : decode prog_20_method_3_code 1 = .ok (.getfield 26, 3) := by decide +kernel
theorem d_prog_20_method_3_code_4 : decode prog_20_method_3_code 4 = .ok (.areturn, 1) := by decide +kernel
set_option maxRecDepth 65536 in
set_option maxHeartbeats 40000000 in
theorem geti (l : Launch) (Z : State) (a0 : Array Value) (hw : ∀ d ∈ tables_1, d.before a0 Z = true) (ws : List Jvm.Cond) (a1 s1 : Addr) (h0 : Heap) (n0 : Nat) (Z0 : n0 ≤ h0.size) (F1 : Fld Z h0 a1 "com/example/lean_grant/leangrant/grantset/Owner" "id" "Ljava/lang/String;" (.ref s1)) :
    Does l (⟨"com/example/lean_grant/leangrant/grantset/Owner", "getId", "()Ljava/lang/String;"⟩ : MethodName) prog_20_method_3_code 1 (some (.object "java/lang/String")) ws ({ frames := 0, cells := 0, slots := 0, locals := 0 } : Room) #[(.ref a1)] Z h0 (fun v h L => v = some (.ref s1) ∧ Fr n0 L ∧ h = h0) := by
  refine Does.of (plainFor_of_name pn_com_example_lean_grant_leangrant_grantset_Owner) ?_
  intro p e s m below meth c s₁ hx hby hml hret hlk hown0 hnm hZ X0 e0
  have hown : s.vm.findClass "com/example/lean_grant/leangrant/grantset/Owner" = some m.cls := hown0
  have N0 := Fr.nil n0
  refine Go.cast (g' := (mkF m 0 #[.val (.ref a1)] [])) (by first | (simp [entryFrame, mkF, argsToLocals, Value.category, maxLocals]; done) | rfl) ?_
  refine Go.st (T' := s₁) (g' := (mkF m 1 #[.val (.ref a1)] [(.ref a1)])) ?_ (fun _ k_ => XS.aloadN X0.here hx rfl (hb hby d_prog_20_method_3_code_0) rfl rfl k_)
  obtain ⟨T1, X1, e1, st1⟩ := getF X0 hx hZ hown (host := "") (Or.inl (hw _ (List.mem_of_getElem? (i := 62) rfl))) Via.refl e0 F1 (g := (mkF m 1 #[.val (.ref a1)] [(.ref a1)])) rfl rfl (hb hby d_prog_20_method_3_code_1)
  refine Go.st (T' := T1) (g' := (mkF m 4 #[.val (.ref a1)] [(.ref s1)])) ?_ st1
  exact Go.retV (t := (.object "java/lang/String")) X1 hx hret hlk (by decide) (by decide) rfl (Or.inr (Or.inr (Or.inr (Or.inr ⟨rfl, rfl, rfl⟩)))) (hb hby d_prog_20_method_3_code_4) ⟨rfl, N0, e1⟩
theorem d_jdk_42_method_66_code_0 : decode jdk_42_method_66_code 0 = .ok (.aload_n 0, 1) := by decide +kernel
theorem d_jdk_42_method_66_code_1 : decode jdk_42_method_66_code 1 = .ok (.aload_n 1, 1) := by decide +kernel
theorem d_jdk_42_method_66_code_2 : decode jdk_42_method_66_code 2 = .ok (.if_acmp .ne 5, 3) := by decide +kernel
theorem d_jdk_42_method_66_code_5 : decode jdk_42_method_66_code 5 = .ok (.iconst 1, 1) := by decide +kernel
theorem d_jdk_42_method_66_code_6 : decode jdk_42_method_66_code 6 = .ok (.ireturn, 1) := by decide +kernel
set_option maxRecDepth 65536 in
set_option maxHeartbeats 40000000 in
theorem eqself (l : Launch) (Z : State) (a0 : Array Value) (hw : ∀ d ∈ tables_1, d.before a0 Z = true) (ws : List Jvm.Cond) (a1 : Addr) (h0 : Heap) (n0 : Nat) (Z0 : n0 ≤ h0.size)  :
    Does l (⟨"java/lang/String", "equals", "(Ljava/lang/Object;)Z"⟩ : MethodName) jdk_42_method_66_code 3 (some .boolean) ws ({ frames := 0, cells := 0, slots := 0, locals := 0 } : Room) #[(.ref a1), (.ref a1)] Z h0 (fun v h L => v = some (.int (1 : Int32)) ∧ Fr n0 L ∧ h = h0) := by
  refine Does.of (plainFor_of_name pn_java_lang_String) ?_
  intro p e s m below meth c s₁ hx hby hml hret hlk hown0 hnm hZ X0 e0
  have hown : s.vm.findClass "java/lang/String" = some m.cls := hown0
  have N0 := Fr.nil n0
  refine Go.cast (g' := (mkF m 0 #[.val (.ref a1), .val (.ref a1), .unset] [])) (by first | (simp [entryFrame, mkF, argsToLocals, Value.category, maxLocals]; done) | rfl) ?_
  refine Go.st (T' := s₁) (g' := (mkF m 1 #[.val (.ref a1), .val (.ref a1), .unset] [(.ref a1)])) ?_ (fun _ k_ => XS.aloadN X0.here hx rfl (hb hby d_jdk_42_method_66_code_0) rfl rfl k_)
  refine Go.st (T' := s₁) (g' := (mkF m 2 #[.val (.ref a1), .val (.ref a1), .unset] [(.ref a1), (.ref a1)])) ?_ (fun _ k_ => XS.aloadN X0.here hx rfl (hb hby d_jdk_42_method_66_code_1) rfl rfl k_)
  refine Go.st (T' := s₁) (g' := (mkF m 5 #[.val (.ref a1), .val (.ref a1), .unset] [])) ?_ (fun _ k_ => Jvm.RoadKit.acmp (g := (mkF m 2 #[.val (.ref a1), .val (.ref a1), .unset] [(.ref a1), (.ref a1)])) X0 hx rfl rfl rfl (pc0 := 2) (pc' := 5) (same := true) rfl (hb hby d_jdk_42_method_66_code_2) rfl (decide_eq_true rfl) (by decide) (by decide) k_)
  refine Go.st (T' := s₁) (g' := (mkF m 6 #[.val (.ref a1), .val (.ref a1), .unset] [(.int (1 : Int32))])) ?_ (fun _ k_ => XT.iconstV X0.here hx rfl (1 : Int32) (hb hby d_jdk_42_method_66_code_5) (by decide) k_)
  exact Go.retV (t := .boolean) X0 hx hret hlk (by decide) (by decide) rfl (Or.inl ⟨rfl, Or.inr (Or.inl rfl), _, rfl⟩) (hb hby d_jdk_42_method_66_code_6) ⟨rfl, N0, e0⟩
theorem own_k (p : Int32) : (p &&& 2147483647) % 3 = 0 ∨ (p &&& 2147483647) % 3 = 1 ∨ (p &&& 2147483647) % 3 = 2 := by
  have h1 := c_mask p 2147483647 31 (by decide) (by decide)
  have h2 := (c_irem (p &&& 2147483647) 3 3 (by decide)).1 (by rw [h1]; omega)
  simp only [← Int32.toInt_inj, h2, h1]
  have e0 : (0 : Int32).toInt = 0 := by decide
  have e1 : (1 : Int32).toInt = 1 := by decide
  have e2 : (2 : Int32).toInt = 2 := by decide
  simp only [e0, e1, e2]
  omega
theorem pd__I_Ljava_lang_String_ : parseMethodDescriptor "(I)Ljava/lang/String;" = some ⟨[.int], some (.object "java/lang/String")⟩ := by decide +kernel
theorem pd__Ljava_lang_String_Ljava_lang_String__Lcom_example_lean_grant_leangrant_grantset_Owner_ : parseMethodDescriptor "(Ljava/lang/String;Ljava/lang/String;)Lcom/example/lean_grant/leangrant/grantset/Owner;" = some ⟨[(.object "java/lang/String"), (.object "java/lang/String")], some (.object "com/example/lean_grant/leangrant/grantset/Owner")⟩ := by decide +kernel
theorem pd___Lcom_example_lean_grant_leangrant_grantset_OwnerType_ : parseMethodDescriptor "()Lcom/example/lean_grant/leangrant/grantset/OwnerType;" = some ⟨[], some (.object "com/example/lean_grant/leangrant/grantset/OwnerType")⟩ := by decide +kernel
theorem pd___Ljava_lang_String_ : parseMethodDescriptor "()Ljava/lang/String;" = some ⟨[], some (.object "java/lang/String")⟩ := by decide +kernel
theorem pd__Ljava_lang_Object__Z : parseMethodDescriptor "(Ljava/lang/Object;)Z" = some ⟨[(.object "java/lang/Object")], some .boolean⟩ := by decide +kernel
set_option maxRecDepth 65536 in
set_option maxHeartbeats 40000000 in
theorem rm0 (l : Launch) (Z : State) (a0 : Array Value) (hw : ∀ d ∈ tables_1, d.before a0 Z = true) (ws : List Jvm.Cond) (p1 p2 p3 : Int32) (w_USER w_CLIENT : Addr) (zc : Int32) (h0 : Heap) (n0 : Nat) (Z0 : n0 ≤ h0.size) (FF : own_F Z h0 w_USER w_CLIENT) (SC : Sta Z h0 "java/lang/String" "COMPACT_STRINGS" "Z" (.int zc)) (hzc : ¬ zc = (0 : Int32)) :
    DoesW l x code maxLocals ret ws room_1 #[(.int p1), (.int p2), (.int p3)] Z h0 (fun v h L => v = some (.int 1) ∧ Fr n0 L) := by
  refine DoesW.of (plainFor_of_name pn_com_example_lean_grant_leangrant_check_AccessRequestCallerOfPinLaw) ?_
  intro p e s m below meth c s₁ hx hby hml hret hlk hown0 hnm hZ hS X0 e0
  have hown : s.vm.findClass "com/example/lean_grant/leangrant/check/AccessRequestCallerOfPinLaw" = some m.cls := hown0
  have N0 := Fr.nil n0
  have hk : 0 ≤ h0.size := Nat.zero_le _
  have wS : ∀ d ∈ Bundle.stringAtoms, d.before a0 Z = true := fun d hd => hw d ((by decide +kernel : ∀ d ∈ Bundle.stringAtoms, d ∈ tables_1) d hd)
  obtain ⟨S_USER, S_CLIENT, A_USER, A_CLIENT⟩ := FF
  refine Go.cast (g' := (mkF m 0 #[.val (.int p1), .val (.int p2), .val (.int p3), .unset, .unset, .unset, .unset, .unset, .unset, .unset, .unset] [])) (by first | (simp [entryFrame, mkF, argsToLocals, Value.category, maxLocals]; done) | rfl) ?_
  refine Go.st (T' := s₁) (g' := (mkF m 1 #[.val (.int p1), .val (.int p2), .val (.int p3), .unset, .unset, .unset, .unset, .unset, .unset, .unset, .unset] [(.int p1)])) ?_ (fun _ k_ => XS.iloadN X0.here hx rfl (hb hby at_0) rfl k_)
  refine Go.st (T' := s₁) (g' := (mkF m 3 #[.val (.int p1), .val (.int p2), .val (.int p3), .unset, .unset, .unset, .unset, .unset, .unset, .unset, .unset] [(.int (2147483647 : Int32)), (.int p1)])) ?_ (fun _ k_ => X0.ldcI hx hown (mvT hZ (hw _ (List.mem_of_getElem? (i := 0) rfl))) rfl (hb hby at_1) k_)
  refine Go.st (T' := s₁) (g' := (mkF m 4 #[.val (.int p1), .val (.int p2), .val (.int p3), .unset, .unset, .unset, .unset, .unset, .unset, .unset, .unset] [(.int (p1 &&& (2147483647 : Int32)))])) ?_ (fun _ k_ => XS.iand X0.here hx rfl (hb hby at_3) rfl k_)
  refine Go.st (T' := s₁) (g' := (mkF m 5 #[.val (.int p1), .val (.int p2), .val (.int p3), .unset, .unset, .unset, .unset, .unset, .unset, .unset, .unset] [(.int (3 : Int32)), (.int (p1 &&& (2147483647 : Int32)))])) ?_ (fun _ k_ => XT.iconstV X0.here hx rfl (3 : Int32) (hb hby at_4) (by decide) k_)
  refine Go.st (T' := s₁) (g' := (mkF m 6 #[.val (.int p1), .val (.int p2), .val (.int p3), .unset, .unset, .unset, .unset, .unset, .unset, .unset, .unset] [(.int ((p1 &&& (2147483647 : Int32)) % (3 : Int32)))])) ?_ (fun _ k_ => iremM X0 hx rfl (hb hby at_5) rfl (by decide) k_)
  rcases own_k p1 with hkk | hkk | hkk
  · rw [hkk]
    refine Go.st (T' := s₁) (g' := (mkF m 7 #[.val (.int p1), .val (.int p2), .val (.int p3), .val (.int (0 : Int32)), .unset, .unset, .unset, .unset, .unset, .unset, .unset] [])) ?_ (fun _ k_ => XS.istoreN X0.here hx rfl (hb hby at_6) rfl (l' := #[.val (.int p1), .val (.int p2), .val (.int p3), .val (.int (0 : Int32)), .unset, .unset, .unset, .unset, .unset, .unset, .unset]) rfl k_)
    refine Go.st (T' := s₁) (g' := (mkF m 8 #[.val (.int p1), .val (.int p2), .val (.int p3), .val (.int (0 : Int32)), .unset, .unset, .unset, .unset, .unset, .unset, .unset] [(.int p2)])) ?_ (fun _ k_ => XS.iloadN X0.here hx rfl (hb hby at_7) rfl k_)
    refine Go.callS X0 hx hZ hown (hw _ (List.mem_of_getElem? (i := 1) rfl)) (hw _ (List.mem_of_getElem? (i := 2) rfl)) (hw _ (List.mem_of_getElem? (i := 3) rfl)) (hw _ (List.mem_of_getElem? (i := 4) rfl)) (by decide) (drawn l Z a0 hw [] p2 zc h0 n0 Z0 SC hzc) e0 (by decide) (W := 0) (by decide) (by decide) (by decide) (g := (mkF m 8 #[.val (.int p1), .val (.int p2), .val (.int p3), .val (.int (0 : Int32)), .unset, .unset, .unset, .unset, .unset, .unset, .unset] [(.int p2)])) (rest := []) rfl (by rw [hml]; rfl) (lenOf pd__I_Ljava_lang_String_ rfl) rfl (by show 2 * 0 + _ ≤ _; exact Nat.le_of_eq rfl) (hb hby at_8) ?_
    rintro v1 T1 L1 X1 ⟨o1, rfl, N1, K1, g1, A1⟩
    have M1 := Fr.app N0 N1
    have G_o1 : n0 ≤ o1 := Nat.le_trans Z0 g1
    have Q_o1_w_USER : ¬ w_USER = o1 := Nat.ne_of_lt (Nat.lt_of_lt_of_le A_USER.lt g1)
    have Q_o1_w_CLIENT : ¬ w_CLIENT = o1 := Nat.ne_of_lt (Nat.lt_of_lt_of_le A_CLIENT.lt g1)
    show Go p e below _ T1 (mkF m 11 #[.val (.int p1), .val (.int p2), .val (.int p3), .val (.int (0 : Int32)), .unset, .unset, .unset, .unset, .unset, .unset, .unset] [(.ref o1)])
    refine Go.st (T' := T1) (g' := (mkF m 13 #[.val (.int p1), .val (.int p2), .val (.int p3), .val (.int (0 : Int32)), .val (.ref o1), .unset, .unset, .unset, .unset, .unset, .unset] [])) ?_ (fun _ k_ => XS.astore X1.here hx rfl (hb hby at_11) rfl rfl (l' := #[.val (.int p1), .val (.int p2), .val (.int p3), .val (.int (0 : Int32)), .val (.ref o1), .unset, .unset, .unset, .unset, .unset, .unset]) rfl k_)
    refine Go.st (T' := T1) (g' := (mkF m 14 #[.val (.int p1), .val (.int p2), .val (.int p3), .val (.int (0 : Int32)), .val (.ref o1), .unset, .unset, .unset, .unset, .unset, .unset] [(.int p3)])) ?_ (fun _ k_ => XS.iloadN X1.here hx rfl (hb hby at_13) rfl k_)
    refine Go.callS X1 hx hZ hown (hw _ (List.mem_of_getElem? (i := 1) rfl)) (hw _ (List.mem_of_getElem? (i := 2) rfl)) (hw _ (List.mem_of_getElem? (i := 3) rfl)) (hw _ (List.mem_of_getElem? (i := 4) rfl)) (by decide) (drawn l Z a0 hw [] p3 zc T1.heap n0 (Nat.le_trans Z0 K1.1) (own_sta SC K1 all0) hzc) rfl (by decide) (W := 0) (by decide) (by decide) (by decide) (g := (mkF m 14 #[.val (.int p1), .val (.int p2), .val (.int p3), .val (.int (0 : Int32)), .val (.ref o1), .unset, .unset, .unset, .unset, .unset, .unset] [(.int p3)])) (rest := []) rfl (by rw [hml]; rfl) (lenOf pd__I_Ljava_lang_String_ rfl) rfl (by show 2 * 0 + _ ≤ _; exact Nat.le_of_eq rfl) (hb hby at_14) ?_
    rintro v2 T2 L2 X2 ⟨o2, rfl, N2, K2, g2, A2⟩
    have M2 := Fr.app M1 N2
    have G_o2 : n0 ≤ o2 := Nat.le_trans (Nat.le_trans Z0 K1.1) g2
    have Q_o2_w_USER : ¬ w_USER = o2 := Nat.ne_of_lt (Nat.lt_of_lt_of_le (A_USER.keep K1).lt g2)
    have Q_o2_w_CLIENT : ¬ w_CLIENT = o2 := Nat.ne_of_lt (Nat.lt_of_lt_of_le (A_CLIENT.keep K1).lt g2)
    have Q_o2_o1 : ¬ o1 = o2 := Nat.ne_of_lt (Nat.lt_of_lt_of_le A1.lt g2)
    show Go p e below _ T2 (mkF m 17 #[.val (.int p1), .val (.int p2), .val (.int p3), .val (.int (0 : Int32)), .val (.ref o1), .unset, .unset, .unset, .unset, .unset, .unset] [(.ref o2)])
    refine Go.st (T' := T2) (g' := (mkF m 19 #[.val (.int p1), .val (.int p2), .val (.int p3), .val (.int (0 : Int32)), .val (.ref o1), .val (.ref o2), .unset, .unset, .unset, .unset, .unset] [])) ?_ (fun _ k_ => XS.astore X2.here hx rfl (hb hby at_17) rfl rfl (l' := #[.val (.int p1), .val (.int p2), .val (.int p3), .val (.int (0 : Int32)), .val (.ref o1), .val (.ref o2), .unset, .unset, .unset, .unset, .unset]) rfl k_)
    refine Go.st (T' := T2) (g' := (mkF m 20 #[.val (.int p1), .val (.int p2), .val (.int p3), .val (.int (0 : Int32)), .val (.ref o1), .val (.ref o2), .unset, .unset, .unset, .unset, .unset] [(.int (0 : Int32))])) ?_ (fun _ k_ => XS.iloadN X2.here hx rfl (hb hby at_19) rfl k_)
    refine Go.st (T' := T2) (g' := (mkF m 21 #[.val (.int p1), .val (.int p2), .val (.int p3), .val (.int (0 : Int32)), .val (.ref o1), .val (.ref o2), .unset, .unset, .unset, .unset, .unset] [(.int (1 : Int32)), (.int (0 : Int32))])) ?_ (fun _ k_ => XT.iconstV X2.here hx rfl (1 : Int32) (hb hby at_20) (by decide) k_)
    refine Go.st (T' := T2) (g' := (mkF m 28 #[.val (.int p1), .val (.int p2), .val (.int p3), .val (.int (0 : Int32)), .val (.ref o1), .val (.ref o2), .unset, .unset, .unset, .unset, .unset] [])) ?_ (fun _ k_ => XS.icmpYes X2.here hx rfl (pc0 := 21) (pc' := 28) rfl (hb hby at_21) rfl (by decide) (by decide) (by decide) k_)
    refine Go.st (T' := T2) (g' := (mkF m 30 #[.val (.int p1), .val (.int p2), .val (.int p3), .val (.int (0 : Int32)), .val (.ref o1), .val (.ref o2), .unset, .unset, .unset, .unset, .unset] [(.ref o1)])) ?_ (fun _ k_ => XS.aload X2.here hx rfl (hb hby at_28) rfl rfl k_)
    refine Go.st (T' := T2) (g' := (mkF m 32 #[.val (.int p1), .val (.int p2), .val (.int p3), .val (.int (0 : Int32)), .val (.ref o1), .val (.ref o2), .val (.ref o1), .unset, .unset, .unset, .unset] [])) ?_ (fun _ k_ => XS.astore X2.here hx rfl (hb hby at_30) rfl rfl (l' := #[.val (.int p1), .val (.int p2), .val (.int p3), .val (.int (0 : Int32)), .val (.ref o1), .val (.ref o2), .val (.ref o1), .unset, .unset, .unset, .unset]) rfl k_)
    refine Go.st (T' := T2) (g' := (mkF m 33 #[.val (.int p1), .val (.int p2), .val (.int p3), .val (.int (0 : Int32)), .val (.ref o1), .val (.ref o2), .val (.ref o1), .unset, .unset, .unset, .unset] [(.int (0 : Int32))])) ?_ (fun _ k_ => XS.iloadN X2.here hx rfl (hb hby at_32) rfl k_)
    refine Go.st (T' := T2) (g' := (mkF m 36 #[.val (.int p1), .val (.int p2), .val (.int p3), .val (.int (0 : Int32)), .val (.ref o1), .val (.ref o2), .val (.ref o1), .unset, .unset, .unset, .unset] [])) ?_ (fun _ k_ => XS.ifNo X2.here hx rfl (hb hby at_33) rfl (by decide) k_)
    refine Go.st (T' := T2) (g' := (mkF m 37 #[.val (.int p1), .val (.int p2), .val (.int p3), .val (.int (0 : Int32)), .val (.ref o1), .val (.ref o2), .val (.ref o1), .unset, .unset, .unset, .unset] [.null])) ?_ (fun _ k_ => XS.aconstNull X2.here hx rfl (hb hby at_36) k_)
    refine Go.st (T' := T2) (g' := (mkF m 42 #[.val (.int p1), .val (.int p2), .val (.int p3), .val (.int (0 : Int32)), .val (.ref o1), .val (.ref o2), .val (.ref o1), .unset, .unset, .unset, .unset] [.null])) ?_ (fun _ k_ => XS.goto X2.here hx rfl (pc0 := 37) (pc' := 42) rfl (hb hby at_37) (by decide) (by decide) k_)
    refine Go.st (T' := T2) (g' := (mkF m 44 #[.val (.int p1), .val (.int p2), .val (.int p3), .val (.int (0 : Int32)), .val (.ref o1), .val (.ref o2), .val (.ref o1), .val .null, .unset, .unset, .unset] [])) ?_ (fun _ k_ => XS.astore X2.here hx rfl (hb hby at_42) rfl rfl (l' := #[.val (.int p1), .val (.int p2), .val (.int p3), .val (.int (0 : Int32)), .val (.ref o1), .val (.ref o2), .val (.ref o1), .val .null, .unset, .unset, .unset]) rfl k_)
    refine Go.st (T' := T2) (g' := (mkF m 46 #[.val (.int p1), .val (.int p2), .val (.int p3), .val (.int (0 : Int32)), .val (.ref o1), .val (.ref o2), .val (.ref o1), .val .null, .unset, .unset, .unset] [(.ref o1)])) ?_ (fun _ k_ => XS.aload X2.here hx rfl (hb hby at_44) rfl rfl k_)
    refine Go.st (T' := T2) (g' := (mkF m 48 #[.val (.int p1), .val (.int p2), .val (.int p3), .val (.int (0 : Int32)), .val (.ref o1), .val (.ref o2), .val (.ref o1), .val .null, .unset, .unset, .unset] [.null, (.ref o1)])) ?_ (fun _ k_ => XS.aload X2.here hx rfl (hb hby at_46) rfl rfl k_)
    refine Go.callSW X2 hx hZ hown (hw _ (List.mem_of_getElem? (i := 35) rfl)) (hw _ (List.mem_of_getElem? (i := 36) rfl)) (hw _ (List.mem_of_getElem? (i := 37) rfl)) (hw _ (List.mem_of_getElem? (i := 38) rfl)) (by decide) (caller0 l Z a0 hw [] o1 o2 w_USER w_CLIENT T2.heap n0 (Nat.le_trans (Nat.le_trans Z0 K1.1) K2.1) (A1.keep K2) A2 (own_sta (own_sta S_USER K1 all0) K2 all0) ((A_USER.keep K1).keep K2) (own_sta (own_sta S_CLIENT K1 all0) K2 all0) ((A_CLIENT.keep K1).keep K2)) rfl hS (Nat.le_trans (Nat.le_trans hk K1.1) K2.1) (by decide) (W := 0) (by decide) (by decide) (by decide) (g := (mkF m 48 #[.val (.int p1), .val (.int p2), .val (.int p3), .val (.int (0 : Int32)), .val (.ref o1), .val (.ref o2), .val (.ref o1), .val .null, .unset, .unset, .unset] [.null, (.ref o1)])) (rest := []) rfl (by rw [hml]; rfl) (lenOf pd__Ljava_lang_String_Ljava_lang_String__Lcom_example_lean_grant_leangrant_grantset_Owner_ rfl) rfl (by show 2 * 0 + _ ≤ _; exact Nat.le_of_eq rfl) (hb hby at_48) ?_
    rintro v3 T3 L3 X3 hS hZ hown ⟨o3, rfl, N3, K3, g3, A3, Ft3, Fi3⟩
    have hk := Nat.le_refl T3.heap.size
    have M3 := Fr.app M2 N3
    show Go p e below _ T3 (mkF m 51 #[.val (.int p1), .val (.int p2), .val (.int p3), .val (.int (0 : Int32)), .val (.ref o1), .val (.ref o2), .val (.ref o1), .val .null, .unset, .unset, .unset] [(.ref o3)])
    refine Go.st (T' := T3) (g' := (mkF m 53 #[.val (.int p1), .val (.int p2), .val (.int p3), .val (.int (0 : Int32)), .val (.ref o1), .val (.ref o2), .val (.ref o1), .val .null, .val (.ref o3), .unset, .unset] [])) ?_ (fun _ k_ => XS.astore X3.here hx rfl (hb hby at_51) rfl rfl (l' := #[.val (.int p1), .val (.int p2), .val (.int p3), .val (.int (0 : Int32)), .val (.ref o1), .val (.ref o2), .val (.ref o1), .val .null, .val (.ref o3), .unset, .unset]) rfl k_)
    refine Go.st (T' := T3) (g' := (mkF m 54 #[.val (.int p1), .val (.int p2), .val (.int p3), .val (.int (0 : Int32)), .val (.ref o1), .val (.ref o2), .val (.ref o1), .val .null, .val (.ref o3), .unset, .unset] [(.int (0 : Int32))])) ?_ (fun _ k_ => XS.iloadN X3.here hx rfl (hb hby at_53) rfl k_)
    refine Go.st (T' := T3) (g' := (mkF m 57 #[.val (.int p1), .val (.int p2), .val (.int p3), .val (.int (0 : Int32)), .val (.ref o1), .val (.ref o2), .val (.ref o1), .val .null, .val (.ref o3), .unset, .unset] [])) ?_ (fun _ k_ => XS.ifNo X3.here hx rfl (hb hby at_54) rfl (by decide) k_)
    obtain ⟨T4, X4, e4, st4⟩ := getS2 X3 hx hZ hown (host := "") (Or.inl (hw _ (List.mem_of_getElem? (i := 64) rfl))) Via.refl rfl (own_sta (own_sta (own_sta S_USER K1 all0) K2 all0) K3 all0) (g := (mkF m 57 #[.val (.int p1), .val (.int p2), .val (.int p3), .val (.int (0 : Int32)), .val (.ref o1), .val (.ref o2), .val (.ref o1), .val .null, .val (.ref o3), .unset, .unset] [])) rfl (hb hby at_57)
    refine Go.st (T' := T4) (g' := (mkF m 60 #[.val (.int p1), .val (.int p2), .val (.int p3), .val (.int (0 : Int32)), .val (.ref o1), .val (.ref o2), .val (.ref o1), .val .null, .val (.ref o3), .unset, .unset] [(.ref w_USER)])) ?_ st4
    refine Go.st (T' := T4) (g' := (mkF m 62 #[.val (.int p1), .val (.int p2), .val (.int p3), .val (.int (0 : Int32)), .val (.ref o1), .val (.ref o2), .val (.ref o1), .val .null, .val (.ref o3), .val (.ref w_USER), .unset] [])) ?_ (fun _ k_ => XS.astore X4.here hx rfl (hb hby at_60) rfl rfl (l' := #[.val (.int p1), .val (.int p2), .val (.int p3), .val (.int (0 : Int32)), .val (.ref o1), .val (.ref o2), .val (.ref o1), .val .null, .val (.ref o3), .val (.ref w_USER), .unset]) rfl k_)
    refine Go.st (T' := T4) (g' := (mkF m 64 #[.val (.int p1), .val (.int p2), .val (.int p3), .val (.int (0 : Int32)), .val (.ref o1), .val (.ref o2), .val (.ref o1), .val .null, .val (.ref o3), .val (.ref w_USER), .unset] [(.ref o1)])) ?_ (fun _ k_ => XS.aload X4.here hx rfl (hb hby at_62) rfl rfl k_)
    refine Go.st (T' := T4) (g' := (mkF m 66 #[.val (.int p1), .val (.int p2), .val (.int p3), .val (.int (0 : Int32)), .val (.ref o1), .val (.ref o2), .val (.ref o1), .val .null, .val (.ref o3), .val (.ref w_USER), .val (.ref o1)] [])) ?_ (fun _ k_ => XS.astore X4.here hx rfl (hb hby at_64) rfl rfl (l' := #[.val (.int p1), .val (.int p2), .val (.int p3), .val (.int (0 : Int32)), .val (.ref o1), .val (.ref o2), .val (.ref o1), .val .null, .val (.ref o3), .val (.ref w_USER), .val (.ref o1)]) rfl k_)
    refine Go.st (T' := T4) (g' := (mkF m 78 #[.val (.int p1), .val (.int p2), .val (.int p3), .val (.int (0 : Int32)), .val (.ref o1), .val (.ref o2), .val (.ref o1), .val .null, .val (.ref o3), .val (.ref w_USER), .val (.ref o1)] [])) ?_ (fun _ k_ => XS.goto X4.here hx rfl (pc0 := 66) (pc' := 78) rfl (hb hby at_66) (by decide) (by decide) k_)
    refine Go.st (T' := T4) (g' := (mkF m 80 #[.val (.int p1), .val (.int p2), .val (.int p3), .val (.int (0 : Int32)), .val (.ref o1), .val (.ref o2), .val (.ref o1), .val .null, .val (.ref o3), .val (.ref w_USER), .val (.ref o1)] [(.ref o3)])) ?_ (fun _ k_ => XS.aload X4.here hx rfl (hb hby at_78) rfl rfl k_)
    refine Go.callV X4 hx hZ hown (hw _ (List.mem_of_getElem? (i := 65) rfl)) (hw _ (List.mem_of_getElem? (i := 66) rfl)) (hw _ (List.mem_of_getElem? (i := 68) rfl)) (hw _ (List.mem_of_getElem? (i := 67) rfl)) (hw _ (List.mem_of_getElem? (i := 41) rfl)) (hw _ (List.mem_of_getElem? (i := 69) rfl)) (by decide) A3 (gett l Z a0 hw [] o3 w_USER T3.heap n0 (Nat.le_trans (Nat.le_trans (Nat.le_trans Z0 K1.1) K2.1) K3.1) Ft3) e4 (by decide) (W := 0) (by decide) (by decide) (by decide) (g := (mkF m 80 #[.val (.int p1), .val (.int p2), .val (.int p3), .val (.int (0 : Int32)), .val (.ref o1), .val (.ref o2), .val (.ref o1), .val .null, .val (.ref o3), .val (.ref w_USER), .val (.ref o1)] [(.ref o3)])) (rest := []) rfl (by rw [hml]; rfl) (lenOf pd___Lcom_example_lean_grant_leangrant_grantset_OwnerType_ rfl) rfl (by show 2 * 0 + _ ≤ _; exact Nat.le_of_eq rfl) (hb hby at_80) ?_
    rintro v5 T5 L5 X5 ⟨rfl, N5, e5⟩
    have M5 := Fr.app M3 N5
    show Go p e below _ T5 (mkF m 83 #[.val (.int p1), .val (.int p2), .val (.int p3), .val (.int (0 : Int32)), .val (.ref o1), .val (.ref o2), .val (.ref o1), .val .null, .val (.ref o3), .val (.ref w_USER), .val (.ref o1)] [(.ref w_USER)])
    refine Go.st (T' := T5) (g' := (mkF m 85 #[.val (.int p1), .val (.int p2), .val (.int p3), .val (.int (0 : Int32)), .val (.ref o1), .val (.ref o2), .val (.ref o1), .val .null, .val (.ref o3), .val (.ref w_USER), .val (.ref o1)] [(.ref w_USER), (.ref w_USER)])) ?_ (fun _ k_ => XS.aload X5.here hx rfl (hb hby at_83) rfl rfl k_)
    refine Go.st (T' := T5) (g' := (mkF m 88 #[.val (.int p1), .val (.int p2), .val (.int p3), .val (.int (0 : Int32)), .val (.ref o1), .val (.ref o2), .val (.ref o1), .val .null, .val (.ref o3), .val (.ref w_USER), .val (.ref o1)] [])) ?_ (fun _ k_ => Jvm.RoadKit.acmp (g := (mkF m 85 #[.val (.int p1), .val (.int p2), .val (.int p3), .val (.int (0 : Int32)), .val (.ref o1), .val (.ref o2), .val (.ref o1), .val .null, .val (.ref o3), .val (.ref w_USER), .val (.ref o1)] [(.ref w_USER), (.ref w_USER)])) X5 hx rfl rfl rfl (pc0 := 85) (pc' := 88) (same := true) rfl (hb hby at_85) rfl (decide_eq_true rfl) (by decide) (by decide) k_)
    refine Go.st (T' := T5) (g' := (mkF m 90 #[.val (.int p1), .val (.int p2), .val (.int p3), .val (.int (0 : Int32)), .val (.ref o1), .val (.ref o2), .val (.ref o1), .val .null, .val (.ref o3), .val (.ref w_USER), .val (.ref o1)] [(.ref o3)])) ?_ (fun _ k_ => XS.aload X5.here hx rfl (hb hby at_88) rfl rfl k_)
    refine Go.callV X5 hx hZ hown (hw _ (List.mem_of_getElem? (i := 70) rfl)) (hw _ (List.mem_of_getElem? (i := 71) rfl)) (hw _ (List.mem_of_getElem? (i := 73) rfl)) (hw _ (List.mem_of_getElem? (i := 72) rfl)) (hw _ (List.mem_of_getElem? (i := 41) rfl)) (hw _ (List.mem_of_getElem? (i := 74) rfl)) (by decide) A3 (geti l Z a0 hw [] o3 o1 T3.heap n0 (Nat.le_trans (Nat.le_trans (Nat.le_trans Z0 K1.1) K2.1) K3.1) Fi3) e5 (by decide) (W := 0) (by decide) (by decide) (by decide) (g := (mkF m 90 #[.val (.int p1), .val (.int p2), .val (.int p3), .val (.int (0 : Int32)), .val (.ref o1), .val (.ref o2), .val (.ref o1), .val .null, .val (.ref o3), .val (.ref w_USER), .val (.ref o1)] [(.ref o3)])) (rest := []) rfl (by rw [hml]; rfl) (lenOf pd___Ljava_lang_String_ rfl) rfl (by show 2 * 0 + _ ≤ _; exact Nat.le_of_eq rfl) (hb hby at_90) ?_
    rintro v6 T6 L6 X6 ⟨rfl, N6, e6⟩
    have M6 := Fr.app M5 N6
    show Go p e below _ T6 (mkF m 93 #[.val (.int p1), .val (.int p2), .val (.int p3), .val (.int (0 : Int32)), .val (.ref o1), .val (.ref o2), .val (.ref o1), .val .null, .val (.ref o3), .val (.ref w_USER), .val (.ref o1)] [(.ref o1)])
    refine Go.st (T' := T6) (g' := (mkF m 95 #[.val (.int p1), .val (.int p2), .val (.int p3), .val (.int (0 : Int32)), .val (.ref o1), .val (.ref o2), .val (.ref o1), .val .null, .val (.ref o3), .val (.ref w_USER), .val (.ref o1)] [(.ref o1), (.ref o1)])) ?_ (fun _ k_ => XS.aload X6.here hx rfl (hb hby at_93) rfl rfl k_)
    refine Go.callV X6 hx hZ hown (hw _ (List.mem_of_getElem? (i := 75) rfl)) (hw _ (List.mem_of_getElem? (i := 76) rfl)) (hw _ (List.mem_of_getElem? (i := 78) rfl)) (hw _ (List.mem_of_getElem? (i := 77) rfl)) (hw _ (List.mem_of_getElem? (i := 8) rfl)) (hw _ (List.mem_of_getElem? (i := 79) rfl)) (by decide) ((A1.keep K2).keep K3) (eqself l Z a0 hw [] o1 T3.heap n0 (Nat.le_trans (Nat.le_trans (Nat.le_trans Z0 K1.1) K2.1) K3.1)) e6 (by decide) (W := 0) (by decide) (by decide) (by decide) (g := (mkF m 95 #[.val (.int p1), .val (.int p2), .val (.int p3), .val (.int (0 : Int32)), .val (.ref o1), .val (.ref o2), .val (.ref o1), .val .null, .val (.ref o3), .val (.ref w_USER), .val (.ref o1)] [(.ref o1), (.ref o1)])) (rest := []) rfl (by rw [hml]; rfl) (lenOf pd__Ljava_lang_Object__Z rfl) rfl (by show 2 * 0 + _ ≤ _; exact Nat.le_of_eq rfl) (hb hby at_95) ?_
    rintro v7 T7 L7 X7 ⟨rfl, N7, e7⟩
    have M7 := Fr.app M6 N7
    show Go p e below _ T7 (mkF m 98 #[.val (.int p1), .val (.int p2), .val (.int p3), .val (.int (0 : Int32)), .val (.ref o1), .val (.ref o2), .val (.ref o1), .val .null, .val (.ref o3), .val (.ref w_USER), .val (.ref o1)] [(.int (1 : Int32))])
    refine Go.st (T' := T7) (g' := (mkF m 101 #[.val (.int p1), .val (.int p2), .val (.int p3), .val (.int (0 : Int32)), .val (.ref o1), .val (.ref o2), .val (.ref o1), .val .null, .val (.ref o3), .val (.ref w_USER), .val (.ref o1)] [])) ?_ (fun _ k_ => XS.ifNo X7.here hx rfl (hb hby at_98) rfl (by decide) k_)
    refine Go.st (T' := T7) (g' := (mkF m 102 #[.val (.int p1), .val (.int p2), .val (.int p3), .val (.int (0 : Int32)), .val (.ref o1), .val (.ref o2), .val (.ref o1), .val .null, .val (.ref o3), .val (.ref w_USER), .val (.ref o1)] [(.int (1 : Int32))])) ?_ (fun _ k_ => XT.iconstV X7.here hx rfl (1 : Int32) (hb hby at_101) (by decide) k_)
    refine Go.st (T' := T7) (g' := (mkF m 106 #[.val (.int p1), .val (.int p2), .val (.int p3), .val (.int (0 : Int32)), .val (.ref o1), .val (.ref o2), .val (.ref o1), .val .null, .val (.ref o3), .val (.ref w_USER), .val (.ref o1)] [(.int (1 : Int32))])) ?_ (fun _ k_ => XS.goto X7.here hx rfl (pc0 := 102) (pc' := 106) rfl (hb hby at_102) (by decide) (by decide) k_)
    exact Go.retVW (t := .boolean) X7 hx hS (by rw [e7]; exact hk) hret hlk (by decide) (by decide) rfl (Or.inl ⟨rfl, Or.inr (Or.inl rfl), _, rfl⟩) (hb hby at_106) ⟨rfl, M7⟩
  · rw [hkk]
    refine Go.st (T' := s₁) (g' := (mkF m 7 #[.val (.int p1), .val (.int p2), .val (.int p3), .val (.int (1 : Int32)), .unset, .unset, .unset, .unset, .unset, .unset, .unset] [])) ?_ (fun _ k_ => XS.istoreN X0.here hx rfl (hb hby at_6) rfl (l' := #[.val (.int p1), .val (.int p2), .val (.int p3), .val (.int (1 : Int32)), .unset, .unset, .unset, .unset, .unset, .unset, .unset]) rfl k_)
    refine Go.st (T' := s₁) (g' := (mkF m 8 #[.val (.int p1), .val (.int p2), .val (.int p3), .val (.int (1 : Int32)), .unset, .unset, .unset, .unset, .unset, .unset, .unset] [(.int p2)])) ?_ (fun _ k_ => XS.iloadN X0.here hx rfl (hb hby at_7) rfl k_)
    refine Go.callS X0 hx hZ hown (hw _ (List.mem_of_getElem? (i := 1) rfl)) (hw _ (List.mem_of_getElem? (i := 2) rfl)) (hw _ (List.mem_of_getElem? (i := 3) rfl)) (hw _ (List.mem_of_getElem? (i := 4) rfl)) (by decide) (drawn l Z a0 hw [] p2 zc h0 n0 Z0 SC hzc) e0 (by decide) (W := 0) (by decide) (by decide) (by decide) (g := (mkF m 8 #[.val (.int p1), .val (.int p2), .val (.int p3), .val (.int (1 : Int32)), .unset, .unset, .unset, .unset, .unset, .unset, .unset] [(.int p2)])) (rest := []) rfl (by rw [hml]; rfl) (lenOf pd__I_Ljava_lang_String_ rfl) rfl (by show 2 * 0 + _ ≤ _; exact Nat.le_of_eq rfl) (hb hby at_8) ?_
    rintro v8 T8 L8 X8 ⟨o8, rfl, N8, K8, g8, A8⟩
    have M8 := Fr.app N0 N8
    have G_o8 : n0 ≤ o8 := Nat.le_trans Z0 g8
    have Q_o8_w_USER : ¬ w_USER = o8 := Nat.ne_of_lt (Nat.lt_of_lt_of_le A_USER.lt g8)
    have Q_o8_w_CLIENT : ¬ w_CLIENT = o8 := Nat.ne_of_lt (Nat.lt_of_lt_of_le A_CLIENT.lt g8)
    show Go p e below _ T8 (mkF m 11 #[.val (.int p1), .val (.int p2), .val (.int p3), .val (.int (1 : Int32)), .unset, .unset, .unset, .unset, .unset, .unset, .unset] [(.ref o8)])
    refine Go.st (T' := T8) (g' := (mkF m 13 #[.val (.int p1), .val (.int p2), .val (.int p3), .val (.int (1 : Int32)), .val (.ref o8), .unset, .unset, .unset, .unset, .unset, .unset] [])) ?_ (fun _ k_ => XS.astore X8.here hx rfl (hb hby at_11) rfl rfl (l' := #[.val (.int p1), .val (.int p2), .val (.int p3), .val (.int (1 : Int32)), .val (.ref o8), .unset, .unset, .unset, .unset, .unset, .unset]) rfl k_)
    refine Go.st (T' := T8) (g' := (mkF m 14 #[.val (.int p1), .val (.int p2), .val (.int p3), .val (.int (1 : Int32)), .val (.ref o8), .unset, .unset, .unset, .unset, .unset, .unset] [(.int p3)])) ?_ (fun _ k_ => XS.iloadN X8.here hx rfl (hb hby at_13) rfl k_)
    refine Go.callS X8 hx hZ hown (hw _ (List.mem_of_getElem? (i := 1) rfl)) (hw _ (List.mem_of_getElem? (i := 2) rfl)) (hw _ (List.mem_of_getElem? (i := 3) rfl)) (hw _ (List.mem_of_getElem? (i := 4) rfl)) (by decide) (drawn l Z a0 hw [] p3 zc T8.heap n0 (Nat.le_trans Z0 K8.1) (own_sta SC K8 all0) hzc) rfl (by decide) (W := 0) (by decide) (by decide) (by decide) (g := (mkF m 14 #[.val (.int p1), .val (.int p2), .val (.int p3), .val (.int (1 : Int32)), .val (.ref o8), .unset, .unset, .unset, .unset, .unset, .unset] [(.int p3)])) (rest := []) rfl (by rw [hml]; rfl) (lenOf pd__I_Ljava_lang_String_ rfl) rfl (by show 2 * 0 + _ ≤ _; exact Nat.le_of_eq rfl) (hb hby at_14) ?_
    rintro v9 T9 L9 X9 ⟨o9, rfl, N9, K9, g9, A9⟩
    have M9 := Fr.app M8 N9
    have G_o9 : n0 ≤ o9 := Nat.le_trans (Nat.le_trans Z0 K8.1) g9
    have Q_o9_w_USER : ¬ w_USER = o9 := Nat.ne_of_lt (Nat.lt_of_lt_of_le (A_USER.keep K8).lt g9)
    have Q_o9_w_CLIENT : ¬ w_CLIENT = o9 := Nat.ne_of_lt (Nat.lt_of_lt_of_le (A_CLIENT.keep K8).lt g9)
    have Q_o9_o8 : ¬ o8 = o9 := Nat.ne_of_lt (Nat.lt_of_lt_of_le A8.lt g9)
    show Go p e below _ T9 (mkF m 17 #[.val (.int p1), .val (.int p2), .val (.int p3), .val (.int (1 : Int32)), .val (.ref o8), .unset, .unset, .unset, .unset, .unset, .unset] [(.ref o9)])
    refine Go.st (T' := T9) (g' := (mkF m 19 #[.val (.int p1), .val (.int p2), .val (.int p3), .val (.int (1 : Int32)), .val (.ref o8), .val (.ref o9), .unset, .unset, .unset, .unset, .unset] [])) ?_ (fun _ k_ => XS.astore X9.here hx rfl (hb hby at_17) rfl rfl (l' := #[.val (.int p1), .val (.int p2), .val (.int p3), .val (.int (1 : Int32)), .val (.ref o8), .val (.ref o9), .unset, .unset, .unset, .unset, .unset]) rfl k_)
    refine Go.st (T' := T9) (g' := (mkF m 20 #[.val (.int p1), .val (.int p2), .val (.int p3), .val (.int (1 : Int32)), .val (.ref o8), .val (.ref o9), .unset, .unset, .unset, .unset, .unset] [(.int (1 : Int32))])) ?_ (fun _ k_ => XS.iloadN X9.here hx rfl (hb hby at_19) rfl k_)
    refine Go.st (T' := T9) (g' := (mkF m 21 #[.val (.int p1), .val (.int p2), .val (.int p3), .val (.int (1 : Int32)), .val (.ref o8), .val (.ref o9), .unset, .unset, .unset, .unset, .unset] [(.int (1 : Int32)), (.int (1 : Int32))])) ?_ (fun _ k_ => XT.iconstV X9.here hx rfl (1 : Int32) (hb hby at_20) (by decide) k_)
    refine Go.st (T' := T9) (g' := (mkF m 24 #[.val (.int p1), .val (.int p2), .val (.int p3), .val (.int (1 : Int32)), .val (.ref o8), .val (.ref o9), .unset, .unset, .unset, .unset, .unset] [])) ?_ (fun _ k_ => XS.icmpNo X9.here hx rfl (hb hby at_21) rfl (by decide) k_)
    refine Go.st (T' := T9) (g' := (mkF m 25 #[.val (.int p1), .val (.int p2), .val (.int p3), .val (.int (1 : Int32)), .val (.ref o8), .val (.ref o9), .unset, .unset, .unset, .unset, .unset] [.null])) ?_ (fun _ k_ => XS.aconstNull X9.here hx rfl (hb hby at_24) k_)
    refine Go.st (T' := T9) (g' := (mkF m 30 #[.val (.int p1), .val (.int p2), .val (.int p3), .val (.int (1 : Int32)), .val (.ref o8), .val (.ref o9), .unset, .unset, .unset, .unset, .unset] [.null])) ?_ (fun _ k_ => XS.goto X9.here hx rfl (pc0 := 25) (pc' := 30) rfl (hb hby at_25) (by decide) (by decide) k_)
    refine Go.st (T' := T9) (g' := (mkF m 32 #[.val (.int p1), .val (.int p2), .val (.int p3), .val (.int (1 : Int32)), .val (.ref o8), .val (.ref o9), .val .null, .unset, .unset, .unset, .unset] [])) ?_ (fun _ k_ => XS.astore X9.here hx rfl (hb hby at_30) rfl rfl (l' := #[.val (.int p1), .val (.int p2), .val (.int p3), .val (.int (1 : Int32)), .val (.ref o8), .val (.ref o9), .val .null, .unset, .unset, .unset, .unset]) rfl k_)
    refine Go.st (T' := T9) (g' := (mkF m 33 #[.val (.int p1), .val (.int p2), .val (.int p3), .val (.int (1 : Int32)), .val (.ref o8), .val (.ref o9), .val .null, .unset, .unset, .unset, .unset] [(.int (1 : Int32))])) ?_ (fun _ k_ => XS.iloadN X9.here hx rfl (hb hby at_32) rfl k_)
    refine Go.st (T' := T9) (g' := (mkF m 40 #[.val (.int p1), .val (.int p2), .val (.int p3), .val (.int (1 : Int32)), .val (.ref o8), .val (.ref o9), .val .null, .unset, .unset, .unset, .unset] [])) ?_ (fun _ k_ => XS.ifYes X9.here hx rfl (pc0 := 33) (pc' := 40) rfl (hb hby at_33) rfl (by decide) (by decide) (by decide) k_)
    refine Go.st (T' := T9) (g' := (mkF m 42 #[.val (.int p1), .val (.int p2), .val (.int p3), .val (.int (1 : Int32)), .val (.ref o8), .val (.ref o9), .val .null, .unset, .unset, .unset, .unset] [(.ref o9)])) ?_ (fun _ k_ => XS.aload X9.here hx rfl (hb hby at_40) rfl rfl k_)
    refine Go.st (T' := T9) (g' := (mkF m 44 #[.val (.int p1), .val (.int p2), .val (.int p3), .val (.int (1 : Int32)), .val (.ref o8), .val (.ref o9), .val .null, .val (.ref o9), .unset, .unset, .unset] [])) ?_ (fun _ k_ => XS.astore X9.here hx rfl (hb hby at_42) rfl rfl (l' := #[.val (.int p1), .val (.int p2), .val (.int p3), .val (.int (1 : Int32)), .val (.ref o8), .val (.ref o9), .val .null, .val (.ref o9), .unset, .unset, .unset]) rfl k_)
    refine Go.st (T' := T9) (g' := (mkF m 46 #[.val (.int p1), .val (.int p2), .val (.int p3), .val (.int (1 : Int32)), .val (.ref o8), .val (.ref o9), .val .null, .val (.ref o9), .unset, .unset, .unset] [.null])) ?_ (fun _ k_ => XS.aload X9.here hx rfl (hb hby at_44) rfl rfl k_)
    refine Go.st (T' := T9) (g' := (mkF m 48 #[.val (.int p1), .val (.int p2), .val (.int p3), .val (.int (1 : Int32)), .val (.ref o8), .val (.ref o9), .val .null, .val (.ref o9), .unset, .unset, .unset] [(.ref o9), .null])) ?_ (fun _ k_ => XS.aload X9.here hx rfl (hb hby at_46) rfl rfl k_)
    refine Go.callSW X9 hx hZ hown (hw _ (List.mem_of_getElem? (i := 35) rfl)) (hw _ (List.mem_of_getElem? (i := 36) rfl)) (hw _ (List.mem_of_getElem? (i := 37) rfl)) (hw _ (List.mem_of_getElem? (i := 38) rfl)) (by decide) (caller1 l Z a0 hw [] o8 o9 w_USER w_CLIENT T9.heap n0 (Nat.le_trans (Nat.le_trans Z0 K8.1) K9.1) (A8.keep K9) A9 (own_sta (own_sta S_USER K8 all0) K9 all0) ((A_USER.keep K8).keep K9) (own_sta (own_sta S_CLIENT K8 all0) K9 all0) ((A_CLIENT.keep K8).keep K9)) rfl hS (Nat.le_trans (Nat.le_trans hk K8.1) K9.1) (by decide) (W := 0) (by decide) (by decide) (by decide) (g := (mkF m 48 #[.val (.int p1), .val (.int p2), .val (.int p3), .val (.int (1 : Int32)), .val (.ref o8), .val (.ref o9), .val .null, .val (.ref o9), .unset, .unset, .unset] [(.ref o9), .null])) (rest := []) rfl (by rw [hml]; rfl) (lenOf pd__Ljava_lang_String_Ljava_lang_String__Lcom_example_lean_grant_leangrant_grantset_Owner_ rfl) rfl (by show 2 * 0 + _ ≤ _; exact Nat.le_of_eq rfl) (hb hby at_48) ?_
    rintro v10 T10 L10 X10 hS hZ hown ⟨o10, rfl, N10, K10, g10, A10, Ft10, Fi10⟩
    have hk := Nat.le_refl T10.heap.size
    have M10 := Fr.app M9 N10
    show Go p e below _ T10 (mkF m 51 #[.val (.int p1), .val (.int p2), .val (.int p3), .val (.int (1 : Int32)), .val (.ref o8), .val (.ref o9), .val .null, .val (.ref o9), .unset, .unset, .unset] [(.ref o10)])
    refine Go.st (T' := T10) (g' := (mkF m 53 #[.val (.int p1), .val (.int p2), .val (.int p3), .val (.int (1 : Int32)), .val (.ref o8), .val (.ref o9), .val .null, .val (.ref o9), .val (.ref o10), .unset, .unset] [])) ?_ (fun _ k_ => XS.astore X10.here hx rfl (hb hby at_51) rfl rfl (l' := #[.val (.int p1), .val (.int p2), .val (.int p3), .val (.int (1 : Int32)), .val (.ref o8), .val (.ref o9), .val .null, .val (.ref o9), .val (.ref o10), .unset, .unset]) rfl k_)
    refine Go.st (T' := T10) (g' := (mkF m 54 #[.val (.int p1), .val (.int p2), .val (.int p3), .val (.int (1 : Int32)), .val (.ref o8), .val (.ref o9), .val .null, .val (.ref o9), .val (.ref o10), .unset, .unset] [(.int (1 : Int32))])) ?_ (fun _ k_ => XS.iloadN X10.here hx rfl (hb hby at_53) rfl k_)
    refine Go.st (T' := T10) (g' := (mkF m 69 #[.val (.int p1), .val (.int p2), .val (.int p3), .val (.int (1 : Int32)), .val (.ref o8), .val (.ref o9), .val .null, .val (.ref o9), .val (.ref o10), .unset, .unset] [])) ?_ (fun _ k_ => XS.ifYes X10.here hx rfl (pc0 := 54) (pc' := 69) rfl (hb hby at_54) rfl (by decide) (by decide) (by decide) k_)
    obtain ⟨T11, X11, e11, st11⟩ := getS2 X10 hx hZ hown (host := "") (Or.inl (hw _ (List.mem_of_getElem? (i := 82) rfl))) Via.refl rfl (own_sta (own_sta (own_sta S_CLIENT K8 all0) K9 all0) K10 all0) (g := (mkF m 69 #[.val (.int p1), .val (.int p2), .val (.int p3), .val (.int (1 : Int32)), .val (.ref o8), .val (.ref o9), .val .null, .val (.ref o9), .val (.ref o10), .unset, .unset] [])) rfl (hb hby at_69)
    refine Go.st (T' := T11) (g' := (mkF m 72 #[.val (.int p1), .val (.int p2), .val (.int p3), .val (.int (1 : Int32)), .val (.ref o8), .val (.ref o9), .val .null, .val (.ref o9), .val (.ref o10), .unset, .unset] [(.ref w_CLIENT)])) ?_ st11
    refine Go.st (T' := T11) (g' := (mkF m 74 #[.val (.int p1), .val (.int p2), .val (.int p3), .val (.int (1 : Int32)), .val (.ref o8), .val (.ref o9), .val .null, .val (.ref o9), .val (.ref o10), .val (.ref w_CLIENT), .unset] [])) ?_ (fun _ k_ => XS.astore X11.here hx rfl (hb hby at_72) rfl rfl (l' := #[.val (.int p1), .val (.int p2), .val (.int p3), .val (.int (1 : Int32)), .val (.ref o8), .val (.ref o9), .val .null, .val (.ref o9), .val (.ref o10), .val (.ref w_CLIENT), .unset]) rfl k_)
    refine Go.st (T' := T11) (g' := (mkF m 76 #[.val (.int p1), .val (.int p2), .val (.int p3), .val (.int (1 : Int32)), .val (.ref o8), .val (.ref o9), .val .null, .val (.ref o9), .val (.ref o10), .val (.ref w_CLIENT), .unset] [(.ref o9)])) ?_ (fun _ k_ => XS.aload X11.here hx rfl (hb hby at_74) rfl rfl k_)
    refine Go.st (T' := T11) (g' := (mkF m 78 #[.val (.int p1), .val (.int p2), .val (.int p3), .val (.int (1 : Int32)), .val (.ref o8), .val (.ref o9), .val .null, .val (.ref o9), .val (.ref o10), .val (.ref w_CLIENT), .val (.ref o9)] [])) ?_ (fun _ k_ => XS.astore X11.here hx rfl (hb hby at_76) rfl rfl (l' := #[.val (.int p1), .val (.int p2), .val (.int p3), .val (.int (1 : Int32)), .val (.ref o8), .val (.ref o9), .val .null, .val (.ref o9), .val (.ref o10), .val (.ref w_CLIENT), .val (.ref o9)]) rfl k_)
    refine Go.st (T' := T11) (g' := (mkF m 80 #[.val (.int p1), .val (.int p2), .val (.int p3), .val (.int (1 : Int32)), .val (.ref o8), .val (.ref o9), .val .null, .val (.ref o9), .val (.ref o10), .val (.ref w_CLIENT), .val (.ref o9)] [(.ref o10)])) ?_ (fun _ k_ => XS.aload X11.here hx rfl (hb hby at_78) rfl rfl k_)
    refine Go.callV X11 hx hZ hown (hw _ (List.mem_of_getElem? (i := 65) rfl)) (hw _ (List.mem_of_getElem? (i := 66) rfl)) (hw _ (List.mem_of_getElem? (i := 68) rfl)) (hw _ (List.mem_of_getElem? (i := 67) rfl)) (hw _ (List.mem_of_getElem? (i := 41) rfl)) (hw _ (List.mem_of_getElem? (i := 69) rfl)) (by decide) A10 (gett l Z a0 hw [] o10 w_CLIENT T10.heap n0 (Nat.le_trans (Nat.le_trans (Nat.le_trans Z0 K8.1) K9.1) K10.1) Ft10) e11 (by decide) (W := 0) (by decide) (by decide) (by decide) (g := (mkF m 80 #[.val (.int p1), .val (.int p2), .val (.int p3), .val (.int (1 : Int32)), .val (.ref o8), .val (.ref o9), .val .null, .val (.ref o9), .val (.ref o10), .val (.ref w_CLIENT), .val (.ref o9)] [(.ref o10)])) (rest := []) rfl (by rw [hml]; rfl) (lenOf pd___Lcom_example_lean_grant_leangrant_grantset_OwnerType_ rfl) rfl (by show 2 * 0 + _ ≤ _; exact Nat.le_of_eq rfl) (hb hby at_80) ?_
    rintro v12 T12 L12 X12 ⟨rfl, N12, e12⟩
    have M12 := Fr.app M10 N12
    show Go p e below _ T12 (mkF m 83 #[.val (.int p1), .val (.int p2), .val (.int p3), .val (.int (1 : Int32)), .val (.ref o8), .val (.ref o9), .val .null, .val (.ref o9), .val (.ref o10), .val (.ref w_CLIENT), .val (.ref o9)] [(.ref w_CLIENT)])
    refine Go.st (T' := T12) (g' := (mkF m 85 #[.val (.int p1), .val (.int p2), .val (.int p3), .val (.int (1 : Int32)), .val (.ref o8), .val (.ref o9), .val .null, .val (.ref o9), .val (.ref o10), .val (.ref w_CLIENT), .val (.ref o9)] [(.ref w_CLIENT), (.ref w_CLIENT)])) ?_ (fun _ k_ => XS.aload X12.here hx rfl (hb hby at_83) rfl rfl k_)
    refine Go.st (T' := T12) (g' := (mkF m 88 #[.val (.int p1), .val (.int p2), .val (.int p3), .val (.int (1 : Int32)), .val (.ref o8), .val (.ref o9), .val .null, .val (.ref o9), .val (.ref o10), .val (.ref w_CLIENT), .val (.ref o9)] [])) ?_ (fun _ k_ => Jvm.RoadKit.acmp (g := (mkF m 85 #[.val (.int p1), .val (.int p2), .val (.int p3), .val (.int (1 : Int32)), .val (.ref o8), .val (.ref o9), .val .null, .val (.ref o9), .val (.ref o10), .val (.ref w_CLIENT), .val (.ref o9)] [(.ref w_CLIENT), (.ref w_CLIENT)])) X12 hx rfl rfl rfl (pc0 := 85) (pc' := 88) (same := true) rfl (hb hby at_85) rfl (decide_eq_true rfl) (by decide) (by decide) k_)
    refine Go.st (T' := T12) (g' := (mkF m 90 #[.val (.int p1), .val (.int p2), .val (.int p3), .val (.int (1 : Int32)), .val (.ref o8), .val (.ref o9), .val .null, .val (.ref o9), .val (.ref o10), .val (.ref w_CLIENT), .val (.ref o9)] [(.ref o10)])) ?_ (fun _ k_ => XS.aload X12.here hx rfl (hb hby at_88) rfl rfl k_)
    refine Go.callV X12 hx hZ hown (hw _ (List.mem_of_getElem? (i := 70) rfl)) (hw _ (List.mem_of_getElem? (i := 71) rfl)) (hw _ (List.mem_of_getElem? (i := 73) rfl)) (hw _ (List.mem_of_getElem? (i := 72) rfl)) (hw _ (List.mem_of_getElem? (i := 41) rfl)) (hw _ (List.mem_of_getElem? (i := 74) rfl)) (by decide) A10 (geti l Z a0 hw [] o10 o9 T10.heap n0 (Nat.le_trans (Nat.le_trans (Nat.le_trans Z0 K8.1) K9.1) K10.1) Fi10) e12 (by decide) (W := 0) (by decide) (by decide) (by decide) (g := (mkF m 90 #[.val (.int p1), .val (.int p2), .val (.int p3), .val (.int (1 : Int32)), .val (.ref o8), .val (.ref o9), .val .null, .val (.ref o9), .val (.ref o10), .val (.ref w_CLIENT), .val (.ref o9)] [(.ref o10)])) (rest := []) rfl (by rw [hml]; rfl) (lenOf pd___Ljava_lang_String_ rfl) rfl (by show 2 * 0 + _ ≤ _; exact Nat.le_of_eq rfl) (hb hby at_90) ?_
    rintro v13 T13 L13 X13 ⟨rfl, N13, e13⟩
    have M13 := Fr.app M12 N13
    show Go p e below _ T13 (mkF m 93 #[.val (.int p1), .val (.int p2), .val (.int p3), .val (.int (1 : Int32)), .val (.ref o8), .val (.ref o9), .val .null, .val (.ref o9), .val (.ref o10), .val (.ref w_CLIENT), .val (.ref o9)] [(.ref o9)])
    refine Go.st (T' := T13) (g' := (mkF m 95 #[.val (.int p1), .val (.int p2), .val (.int p3), .val (.int (1 : Int32)), .val (.ref o8), .val (.ref o9), .val .null, .val (.ref o9), .val (.ref o10), .val (.ref w_CLIENT), .val (.ref o9)] [(.ref o9), (.ref o9)])) ?_ (fun _ k_ => XS.aload X13.here hx rfl (hb hby at_93) rfl rfl k_)
    refine Go.callV X13 hx hZ hown (hw _ (List.mem_of_getElem? (i := 75) rfl)) (hw _ (List.mem_of_getElem? (i := 76) rfl)) (hw _ (List.mem_of_getElem? (i := 78) rfl)) (hw _ (List.mem_of_getElem? (i := 77) rfl)) (hw _ (List.mem_of_getElem? (i := 8) rfl)) (hw _ (List.mem_of_getElem? (i := 79) rfl)) (by decide) (A9.keep K10) (eqself l Z a0 hw [] o9 T10.heap n0 (Nat.le_trans (Nat.le_trans (Nat.le_trans Z0 K8.1) K9.1) K10.1)) e13 (by decide) (W := 0) (by decide) (by decide) (by decide) (g := (mkF m 95 #[.val (.int p1), .val (.int p2), .val (.int p3), .val (.int (1 : Int32)), .val (.ref o8), .val (.ref o9), .val .null, .val (.ref o9), .val (.ref o10), .val (.ref w_CLIENT), .val (.ref o9)] [(.ref o9), (.ref o9)])) (rest := []) rfl (by rw [hml]; rfl) (lenOf pd__Ljava_lang_Object__Z rfl) rfl (by show 2 * 0 + _ ≤ _; exact Nat.le_of_eq rfl) (hb hby at_95) ?_
    rintro v14 T14 L14 X14 ⟨rfl, N14, e14⟩
    have M14 := Fr.app M13 N14
    show Go p e below _ T14 (mkF m 98 #[.val (.int p1), .val (.int p2), .val (.int p3), .val (.int (1 : Int32)), .val (.ref o8), .val (.ref o9), .val .null, .val (.ref o9), .val (.ref o10), .val (.ref w_CLIENT), .val (.ref o9)] [(.int (1 : Int32))])
    refine Go.st (T' := T14) (g' := (mkF m 101 #[.val (.int p1), .val (.int p2), .val (.int p3), .val (.int (1 : Int32)), .val (.ref o8), .val (.ref o9), .val .null, .val (.ref o9), .val (.ref o10), .val (.ref w_CLIENT), .val (.ref o9)] [])) ?_ (fun _ k_ => XS.ifNo X14.here hx rfl (hb hby at_98) rfl (by decide) k_)
    refine Go.st (T' := T14) (g' := (mkF m 102 #[.val (.int p1), .val (.int p2), .val (.int p3), .val (.int (1 : Int32)), .val (.ref o8), .val (.ref o9), .val .null, .val (.ref o9), .val (.ref o10), .val (.ref w_CLIENT), .val (.ref o9)] [(.int (1 : Int32))])) ?_ (fun _ k_ => XT.iconstV X14.here hx rfl (1 : Int32) (hb hby at_101) (by decide) k_)
    refine Go.st (T' := T14) (g' := (mkF m 106 #[.val (.int p1), .val (.int p2), .val (.int p3), .val (.int (1 : Int32)), .val (.ref o8), .val (.ref o9), .val .null, .val (.ref o9), .val (.ref o10), .val (.ref w_CLIENT), .val (.ref o9)] [(.int (1 : Int32))])) ?_ (fun _ k_ => XS.goto X14.here hx rfl (pc0 := 102) (pc' := 106) rfl (hb hby at_102) (by decide) (by decide) k_)
    exact Go.retVW (t := .boolean) X14 hx hS (by rw [e14]; exact hk) hret hlk (by decide) (by decide) rfl (Or.inl ⟨rfl, Or.inr (Or.inl rfl), _, rfl⟩) (hb hby at_106) ⟨rfl, M14⟩
  · rw [hkk]
    refine Go.st (T' := s₁) (g' := (mkF m 7 #[.val (.int p1), .val (.int p2), .val (.int p3), .val (.int (2 : Int32)), .unset, .unset, .unset, .unset, .unset, .unset, .unset] [])) ?_ (fun _ k_ => XS.istoreN X0.here hx rfl (hb hby at_6) rfl (l' := #[.val (.int p1), .val (.int p2), .val (.int p3), .val (.int (2 : Int32)), .unset, .unset, .unset, .unset, .unset, .unset, .unset]) rfl k_)
    refine Go.st (T' := s₁) (g' := (mkF m 8 #[.val (.int p1), .val (.int p2), .val (.int p3), .val (.int (2 : Int32)), .unset, .unset, .unset, .unset, .unset, .unset, .unset] [(.int p2)])) ?_ (fun _ k_ => XS.iloadN X0.here hx rfl (hb hby at_7) rfl k_)
    refine Go.callS X0 hx hZ hown (hw _ (List.mem_of_getElem? (i := 1) rfl)) (hw _ (List.mem_of_getElem? (i := 2) rfl)) (hw _ (List.mem_of_getElem? (i := 3) rfl)) (hw _ (List.mem_of_getElem? (i := 4) rfl)) (by decide) (drawn l Z a0 hw [] p2 zc h0 n0 Z0 SC hzc) e0 (by decide) (W := 0) (by decide) (by decide) (by decide) (g := (mkF m 8 #[.val (.int p1), .val (.int p2), .val (.int p3), .val (.int (2 : Int32)), .unset, .unset, .unset, .unset, .unset, .unset, .unset] [(.int p2)])) (rest := []) rfl (by rw [hml]; rfl) (lenOf pd__I_Ljava_lang_String_ rfl) rfl (by show 2 * 0 + _ ≤ _; exact Nat.le_of_eq rfl) (hb hby at_8) ?_
    rintro v15 T15 L15 X15 ⟨o15, rfl, N15, K15, g15, A15⟩
    have M15 := Fr.app N0 N15
    have G_o15 : n0 ≤ o15 := Nat.le_trans Z0 g15
    have Q_o15_w_USER : ¬ w_USER = o15 := Nat.ne_of_lt (Nat.lt_of_lt_of_le A_USER.lt g15)
    have Q_o15_w_CLIENT : ¬ w_CLIENT = o15 := Nat.ne_of_lt (Nat.lt_of_lt_of_le A_CLIENT.lt g15)
    show Go p e below _ T15 (mkF m 11 #[.val (.int p1), .val (.int p2), .val (.int p3), .val (.int (2 : Int32)), .unset, .unset, .unset, .unset, .unset, .unset, .unset] [(.ref o15)])
    refine Go.st (T' := T15) (g' := (mkF m 13 #[.val (.int p1), .val (.int p2), .val (.int p3), .val (.int (2 : Int32)), .val (.ref o15), .unset, .unset, .unset, .unset, .unset, .unset] [])) ?_ (fun _ k_ => XS.astore X15.here hx rfl (hb hby at_11) rfl rfl (l' := #[.val (.int p1), .val (.int p2), .val (.int p3), .val (.int (2 : Int32)), .val (.ref o15), .unset, .unset, .unset, .unset, .unset, .unset]) rfl k_)
    refine Go.st (T' := T15) (g' := (mkF m 14 #[.val (.int p1), .val (.int p2), .val (.int p3), .val (.int (2 : Int32)), .val (.ref o15), .unset, .unset, .unset, .unset, .unset, .unset] [(.int p3)])) ?_ (fun _ k_ => XS.iloadN X15.here hx rfl (hb hby at_13) rfl k_)
    refine Go.callS X15 hx hZ hown (hw _ (List.mem_of_getElem? (i := 1) rfl)) (hw _ (List.mem_of_getElem? (i := 2) rfl)) (hw _ (List.mem_of_getElem? (i := 3) rfl)) (hw _ (List.mem_of_getElem? (i := 4) rfl)) (by decide) (drawn l Z a0 hw [] p3 zc T15.heap n0 (Nat.le_trans Z0 K15.1) (own_sta SC K15 all0) hzc) rfl (by decide) (W := 0) (by decide) (by decide) (by decide) (g := (mkF m 14 #[.val (.int p1), .val (.int p2), .val (.int p3), .val (.int (2 : Int32)), .val (.ref o15), .unset, .unset, .unset, .unset, .unset, .unset] [(.int p3)])) (rest := []) rfl (by rw [hml]; rfl) (lenOf pd__I_Ljava_lang_String_ rfl) rfl (by show 2 * 0 + _ ≤ _; exact Nat.le_of_eq rfl) (hb hby at_14) ?_
    rintro v16 T16 L16 X16 ⟨o16, rfl, N16, K16, g16, A16⟩
    have M16 := Fr.app M15 N16
    have G_o16 : n0 ≤ o16 := Nat.le_trans (Nat.le_trans Z0 K15.1) g16
    have Q_o16_w_USER : ¬ w_USER = o16 := Nat.ne_of_lt (Nat.lt_of_lt_of_le (A_USER.keep K15).lt g16)
    have Q_o16_w_CLIENT : ¬ w_CLIENT = o16 := Nat.ne_of_lt (Nat.lt_of_lt_of_le (A_CLIENT.keep K15).lt g16)
    have Q_o16_o15 : ¬ o15 = o16 := Nat.ne_of_lt (Nat.lt_of_lt_of_le A15.lt g16)
    show Go p e below _ T16 (mkF m 17 #[.val (.int p1), .val (.int p2), .val (.int p3), .val (.int (2 : Int32)), .val (.ref o15), .unset, .unset, .unset, .unset, .unset, .unset] [(.ref o16)])
    refine Go.st (T' := T16) (g' := (mkF m 19 #[.val (.int p1), .val (.int p2), .val (.int p3), .val (.int (2 : Int32)), .val (.ref o15), .val (.ref o16), .unset, .unset, .unset, .unset, .unset] [])) ?_ (fun _ k_ => XS.astore X16.here hx rfl (hb hby at_17) rfl rfl (l' := #[.val (.int p1), .val (.int p2), .val (.int p3), .val (.int (2 : Int32)), .val (.ref o15), .val (.ref o16), .unset, .unset, .unset, .unset, .unset]) rfl k_)
    refine Go.st (T' := T16) (g' := (mkF m 20 #[.val (.int p1), .val (.int p2), .val (.int p3), .val (.int (2 : Int32)), .val (.ref o15), .val (.ref o16), .unset, .unset, .unset, .unset, .unset] [(.int (2 : Int32))])) ?_ (fun _ k_ => XS.iloadN X16.here hx rfl (hb hby at_19) rfl k_)
    refine Go.st (T' := T16) (g' := (mkF m 21 #[.val (.int p1), .val (.int p2), .val (.int p3), .val (.int (2 : Int32)), .val (.ref o15), .val (.ref o16), .unset, .unset, .unset, .unset, .unset] [(.int (1 : Int32)), (.int (2 : Int32))])) ?_ (fun _ k_ => XT.iconstV X16.here hx rfl (1 : Int32) (hb hby at_20) (by decide) k_)
    refine Go.st (T' := T16) (g' := (mkF m 28 #[.val (.int p1), .val (.int p2), .val (.int p3), .val (.int (2 : Int32)), .val (.ref o15), .val (.ref o16), .unset, .unset, .unset, .unset, .unset] [])) ?_ (fun _ k_ => XS.icmpYes X16.here hx rfl (pc0 := 21) (pc' := 28) rfl (hb hby at_21) rfl (by decide) (by decide) (by decide) k_)
    refine Go.st (T' := T16) (g' := (mkF m 30 #[.val (.int p1), .val (.int p2), .val (.int p3), .val (.int (2 : Int32)), .val (.ref o15), .val (.ref o16), .unset, .unset, .unset, .unset, .unset] [(.ref o15)])) ?_ (fun _ k_ => XS.aload X16.here hx rfl (hb hby at_28) rfl rfl k_)
    refine Go.st (T' := T16) (g' := (mkF m 32 #[.val (.int p1), .val (.int p2), .val (.int p3), .val (.int (2 : Int32)), .val (.ref o15), .val (.ref o16), .val (.ref o15), .unset, .unset, .unset, .unset] [])) ?_ (fun _ k_ => XS.astore X16.here hx rfl (hb hby at_30) rfl rfl (l' := #[.val (.int p1), .val (.int p2), .val (.int p3), .val (.int (2 : Int32)), .val (.ref o15), .val (.ref o16), .val (.ref o15), .unset, .unset, .unset, .unset]) rfl k_)
    refine Go.st (T' := T16) (g' := (mkF m 33 #[.val (.int p1), .val (.int p2), .val (.int p3), .val (.int (2 : Int32)), .val (.ref o15), .val (.ref o16), .val (.ref o15), .unset, .unset, .unset, .unset] [(.int (2 : Int32))])) ?_ (fun _ k_ => XS.iloadN X16.here hx rfl (hb hby at_32) rfl k_)
    refine Go.st (T' := T16) (g' := (mkF m 40 #[.val (.int p1), .val (.int p2), .val (.int p3), .val (.int (2 : Int32)), .val (.ref o15), .val (.ref o16), .val (.ref o15), .unset, .unset, .unset, .unset] [])) ?_ (fun _ k_ => XS.ifYes X16.here hx rfl (pc0 := 33) (pc' := 40) rfl (hb hby at_33) rfl (by decide) (by decide) (by decide) k_)
    refine Go.st (T' := T16) (g' := (mkF m 42 #[.val (.int p1), .val (.int p2), .val (.int p3), .val (.int (2 : Int32)), .val (.ref o15), .val (.ref o16), .val (.ref o15), .unset, .unset, .unset, .unset] [(.ref o16)])) ?_ (fun _ k_ => XS.aload X16.here hx rfl (hb hby at_40) rfl rfl k_)
    refine Go.st (T' := T16) (g' := (mkF m 44 #[.val (.int p1), .val (.int p2), .val (.int p3), .val (.int (2 : Int32)), .val (.ref o15), .val (.ref o16), .val (.ref o15), .val (.ref o16), .unset, .unset, .unset] [])) ?_ (fun _ k_ => XS.astore X16.here hx rfl (hb hby at_42) rfl rfl (l' := #[.val (.int p1), .val (.int p2), .val (.int p3), .val (.int (2 : Int32)), .val (.ref o15), .val (.ref o16), .val (.ref o15), .val (.ref o16), .unset, .unset, .unset]) rfl k_)
    refine Go.st (T' := T16) (g' := (mkF m 46 #[.val (.int p1), .val (.int p2), .val (.int p3), .val (.int (2 : Int32)), .val (.ref o15), .val (.ref o16), .val (.ref o15), .val (.ref o16), .unset, .unset, .unset] [(.ref o15)])) ?_ (fun _ k_ => XS.aload X16.here hx rfl (hb hby at_44) rfl rfl k_)
    refine Go.st (T' := T16) (g' := (mkF m 48 #[.val (.int p1), .val (.int p2), .val (.int p3), .val (.int (2 : Int32)), .val (.ref o15), .val (.ref o16), .val (.ref o15), .val (.ref o16), .unset, .unset, .unset] [(.ref o16), (.ref o15)])) ?_ (fun _ k_ => XS.aload X16.here hx rfl (hb hby at_46) rfl rfl k_)
    refine Go.callSW X16 hx hZ hown (hw _ (List.mem_of_getElem? (i := 35) rfl)) (hw _ (List.mem_of_getElem? (i := 36) rfl)) (hw _ (List.mem_of_getElem? (i := 37) rfl)) (hw _ (List.mem_of_getElem? (i := 38) rfl)) (by decide) (caller2 l Z a0 hw [] o15 o16 w_USER w_CLIENT T16.heap n0 (Nat.le_trans (Nat.le_trans Z0 K15.1) K16.1) (A15.keep K16) A16 (own_sta (own_sta S_USER K15 all0) K16 all0) ((A_USER.keep K15).keep K16) (own_sta (own_sta S_CLIENT K15 all0) K16 all0) ((A_CLIENT.keep K15).keep K16)) rfl hS (Nat.le_trans (Nat.le_trans hk K15.1) K16.1) (by decide) (W := 0) (by decide) (by decide) (by decide) (g := (mkF m 48 #[.val (.int p1), .val (.int p2), .val (.int p3), .val (.int (2 : Int32)), .val (.ref o15), .val (.ref o16), .val (.ref o15), .val (.ref o16), .unset, .unset, .unset] [(.ref o16), (.ref o15)])) (rest := []) rfl (by rw [hml]; rfl) (lenOf pd__Ljava_lang_String_Ljava_lang_String__Lcom_example_lean_grant_leangrant_grantset_Owner_ rfl) rfl (by show 2 * 0 + _ ≤ _; exact Nat.le_of_eq rfl) (hb hby at_48) ?_
    rintro v17 T17 L17 X17 hS hZ hown ⟨o17, rfl, N17, K17, g17, A17, Ft17, Fi17⟩
    have hk := Nat.le_refl T17.heap.size
    have M17 := Fr.app M16 N17
    show Go p e below _ T17 (mkF m 51 #[.val (.int p1), .val (.int p2), .val (.int p3), .val (.int (2 : Int32)), .val (.ref o15), .val (.ref o16), .val (.ref o15), .val (.ref o16), .unset, .unset, .unset] [(.ref o17)])
    refine Go.st (T' := T17) (g' := (mkF m 53 #[.val (.int p1), .val (.int p2), .val (.int p3), .val (.int (2 : Int32)), .val (.ref o15), .val (.ref o16), .val (.ref o15), .val (.ref o16), .val (.ref o17), .unset, .unset] [])) ?_ (fun _ k_ => XS.astore X17.here hx rfl (hb hby at_51) rfl rfl (l' := #[.val (.int p1), .val (.int p2), .val (.int p3), .val (.int (2 : Int32)), .val (.ref o15), .val (.ref o16), .val (.ref o15), .val (.ref o16), .val (.ref o17), .unset, .unset]) rfl k_)
    refine Go.st (T' := T17) (g' := (mkF m 54 #[.val (.int p1), .val (.int p2), .val (.int p3), .val (.int (2 : Int32)), .val (.ref o15), .val (.ref o16), .val (.ref o15), .val (.ref o16), .val (.ref o17), .unset, .unset] [(.int (2 : Int32))])) ?_ (fun _ k_ => XS.iloadN X17.here hx rfl (hb hby at_53) rfl k_)
    refine Go.st (T' := T17) (g' := (mkF m 69 #[.val (.int p1), .val (.int p2), .val (.int p3), .val (.int (2 : Int32)), .val (.ref o15), .val (.ref o16), .val (.ref o15), .val (.ref o16), .val (.ref o17), .unset, .unset] [])) ?_ (fun _ k_ => XS.ifYes X17.here hx rfl (pc0 := 54) (pc' := 69) rfl (hb hby at_54) rfl (by decide) (by decide) (by decide) k_)
    obtain ⟨T18, X18, e18, st18⟩ := getS2 X17 hx hZ hown (host := "") (Or.inl (hw _ (List.mem_of_getElem? (i := 82) rfl))) Via.refl rfl (own_sta (own_sta (own_sta S_CLIENT K15 all0) K16 all0) K17 all0) (g := (mkF m 69 #[.val (.int p1), .val (.int p2), .val (.int p3), .val (.int (2 : Int32)), .val (.ref o15), .val (.ref o16), .val (.ref o15), .val (.ref o16), .val (.ref o17), .unset, .unset] [])) rfl (hb hby at_69)
    refine Go.st (T' := T18) (g' := (mkF m 72 #[.val (.int p1), .val (.int p2), .val (.int p3), .val (.int (2 : Int32)), .val (.ref o15), .val (.ref o16), .val (.ref o15), .val (.ref o16), .val (.ref o17), .unset, .unset] [(.ref w_CLIENT)])) ?_ st18
    refine Go.st (T' := T18) (g' := (mkF m 74 #[.val (.int p1), .val (.int p2), .val (.int p3), .val (.int (2 : Int32)), .val (.ref o15), .val (.ref o16), .val (.ref o15), .val (.ref o16), .val (.ref o17), .val (.ref w_CLIENT), .unset] [])) ?_ (fun _ k_ => XS.astore X18.here hx rfl (hb hby at_72) rfl rfl (l' := #[.val (.int p1), .val (.int p2), .val (.int p3), .val (.int (2 : Int32)), .val (.ref o15), .val (.ref o16), .val (.ref o15), .val (.ref o16), .val (.ref o17), .val (.ref w_CLIENT), .unset]) rfl k_)
    refine Go.st (T' := T18) (g' := (mkF m 76 #[.val (.int p1), .val (.int p2), .val (.int p3), .val (.int (2 : Int32)), .val (.ref o15), .val (.ref o16), .val (.ref o15), .val (.ref o16), .val (.ref o17), .val (.ref w_CLIENT), .unset] [(.ref o16)])) ?_ (fun _ k_ => XS.aload X18.here hx rfl (hb hby at_74) rfl rfl k_)
    refine Go.st (T' := T18) (g' := (mkF m 78 #[.val (.int p1), .val (.int p2), .val (.int p3), .val (.int (2 : Int32)), .val (.ref o15), .val (.ref o16), .val (.ref o15), .val (.ref o16), .val (.ref o17), .val (.ref w_CLIENT), .val (.ref o16)] [])) ?_ (fun _ k_ => XS.astore X18.here hx rfl (hb hby at_76) rfl rfl (l' := #[.val (.int p1), .val (.int p2), .val (.int p3), .val (.int (2 : Int32)), .val (.ref o15), .val (.ref o16), .val (.ref o15), .val (.ref o16), .val (.ref o17), .val (.ref w_CLIENT), .val (.ref o16)]) rfl k_)
    refine Go.st (T' := T18) (g' := (mkF m 80 #[.val (.int p1), .val (.int p2), .val (.int p3), .val (.int (2 : Int32)), .val (.ref o15), .val (.ref o16), .val (.ref o15), .val (.ref o16), .val (.ref o17), .val (.ref w_CLIENT), .val (.ref o16)] [(.ref o17)])) ?_ (fun _ k_ => XS.aload X18.here hx rfl (hb hby at_78) rfl rfl k_)
    refine Go.callV X18 hx hZ hown (hw _ (List.mem_of_getElem? (i := 65) rfl)) (hw _ (List.mem_of_getElem? (i := 66) rfl)) (hw _ (List.mem_of_getElem? (i := 68) rfl)) (hw _ (List.mem_of_getElem? (i := 67) rfl)) (hw _ (List.mem_of_getElem? (i := 41) rfl)) (hw _ (List.mem_of_getElem? (i := 69) rfl)) (by decide) A17 (gett l Z a0 hw [] o17 w_CLIENT T17.heap n0 (Nat.le_trans (Nat.le_trans (Nat.le_trans Z0 K15.1) K16.1) K17.1) Ft17) e18 (by decide) (W := 0) (by decide) (by decide) (by decide) (g := (mkF m 80 #[.val (.int p1), .val (.int p2), .val (.int p3), .val (.int (2 : Int32)), .val (.ref o15), .val (.ref o16), .val (.ref o15), .val (.ref o16), .val (.ref o17), .val (.ref w_CLIENT), .val (.ref o16)] [(.ref o17)])) (rest := []) rfl (by rw [hml]; rfl) (lenOf pd___Lcom_example_lean_grant_leangrant_grantset_OwnerType_ rfl) rfl (by show 2 * 0 + _ ≤ _; exact Nat.le_of_eq rfl) (hb hby at_80) ?_
    rintro v19 T19 L19 X19 ⟨rfl, N19, e19⟩
    have M19 := Fr.app M17 N19
    show Go p e below _ T19 (mkF m 83 #[.val (.int p1), .val (.int p2), .val (.int p3), .val (.int (2 : Int32)), .val (.ref o15), .val (.ref o16), .val (.ref o15), .val (.ref o16), .val (.ref o17), .val (.ref w_CLIENT), .val (.ref o16)] [(.ref w_CLIENT)])
    refine Go.st (T' := T19) (g' := (mkF m 85 #[.val (.int p1), .val (.int p2), .val (.int p3), .val (.int (2 : Int32)), .val (.ref o15), .val (.ref o16), .val (.ref o15), .val (.ref o16), .val (.ref o17), .val (.ref w_CLIENT), .val (.ref o16)] [(.ref w_CLIENT), (.ref w_CLIENT)])) ?_ (fun _ k_ => XS.aload X19.here hx rfl (hb hby at_83) rfl rfl k_)
    refine Go.st (T' := T19) (g' := (mkF m 88 #[.val (.int p1), .val (.int p2), .val (.int p3), .val (.int (2 : Int32)), .val (.ref o15), .val (.ref o16), .val (.ref o15), .val (.ref o16), .val (.ref o17), .val (.ref w_CLIENT), .val (.ref o16)] [])) ?_ (fun _ k_ => Jvm.RoadKit.acmp (g := (mkF m 85 #[.val (.int p1), .val (.int p2), .val (.int p3), .val (.int (2 : Int32)), .val (.ref o15), .val (.ref o16), .val (.ref o15), .val (.ref o16), .val (.ref o17), .val (.ref w_CLIENT), .val (.ref o16)] [(.ref w_CLIENT), (.ref w_CLIENT)])) X19 hx rfl rfl rfl (pc0 := 85) (pc' := 88) (same := true) rfl (hb hby at_85) rfl (decide_eq_true rfl) (by decide) (by decide) k_)
    refine Go.st (T' := T19) (g' := (mkF m 90 #[.val (.int p1), .val (.int p2), .val (.int p3), .val (.int (2 : Int32)), .val (.ref o15), .val (.ref o16), .val (.ref o15), .val (.ref o16), .val (.ref o17), .val (.ref w_CLIENT), .val (.ref o16)] [(.ref o17)])) ?_ (fun _ k_ => XS.aload X19.here hx rfl (hb hby at_88) rfl rfl k_)
    refine Go.callV X19 hx hZ hown (hw _ (List.mem_of_getElem? (i := 70) rfl)) (hw _ (List.mem_of_getElem? (i := 71) rfl)) (hw _ (List.mem_of_getElem? (i := 73) rfl)) (hw _ (List.mem_of_getElem? (i := 72) rfl)) (hw _ (List.mem_of_getElem? (i := 41) rfl)) (hw _ (List.mem_of_getElem? (i := 74) rfl)) (by decide) A17 (geti l Z a0 hw [] o17 o16 T17.heap n0 (Nat.le_trans (Nat.le_trans (Nat.le_trans Z0 K15.1) K16.1) K17.1) Fi17) e19 (by decide) (W := 0) (by decide) (by decide) (by decide) (g := (mkF m 90 #[.val (.int p1), .val (.int p2), .val (.int p3), .val (.int (2 : Int32)), .val (.ref o15), .val (.ref o16), .val (.ref o15), .val (.ref o16), .val (.ref o17), .val (.ref w_CLIENT), .val (.ref o16)] [(.ref o17)])) (rest := []) rfl (by rw [hml]; rfl) (lenOf pd___Ljava_lang_String_ rfl) rfl (by show 2 * 0 + _ ≤ _; exact Nat.le_of_eq rfl) (hb hby at_90) ?_
    rintro v20 T20 L20 X20 ⟨rfl, N20, e20⟩
    have M20 := Fr.app M19 N20
    show Go p e below _ T20 (mkF m 93 #[.val (.int p1), .val (.int p2), .val (.int p3), .val (.int (2 : Int32)), .val (.ref o15), .val (.ref o16), .val (.ref o15), .val (.ref o16), .val (.ref o17), .val (.ref w_CLIENT), .val (.ref o16)] [(.ref o16)])
    refine Go.st (T' := T20) (g' := (mkF m 95 #[.val (.int p1), .val (.int p2), .val (.int p3), .val (.int (2 : Int32)), .val (.ref o15), .val (.ref o16), .val (.ref o15), .val (.ref o16), .val (.ref o17), .val (.ref w_CLIENT), .val (.ref o16)] [(.ref o16), (.ref o16)])) ?_ (fun _ k_ => XS.aload X20.here hx rfl (hb hby at_93) rfl rfl k_)
    refine Go.callV X20 hx hZ hown (hw _ (List.mem_of_getElem? (i := 75) rfl)) (hw _ (List.mem_of_getElem? (i := 76) rfl)) (hw _ (List.mem_of_getElem? (i := 78) rfl)) (hw _ (List.mem_of_getElem? (i := 77) rfl)) (hw _ (List.mem_of_getElem? (i := 8) rfl)) (hw _ (List.mem_of_getElem? (i := 79) rfl)) (by decide) (A16.keep K17) (eqself l Z a0 hw [] o16 T17.heap n0 (Nat.le_trans (Nat.le_trans (Nat.le_trans Z0 K15.1) K16.1) K17.1)) e20 (by decide) (W := 0) (by decide) (by decide) (by decide) (g := (mkF m 95 #[.val (.int p1), .val (.int p2), .val (.int p3), .val (.int (2 : Int32)), .val (.ref o15), .val (.ref o16), .val (.ref o15), .val (.ref o16), .val (.ref o17), .val (.ref w_CLIENT), .val (.ref o16)] [(.ref o16), (.ref o16)])) (rest := []) rfl (by rw [hml]; rfl) (lenOf pd__Ljava_lang_Object__Z rfl) rfl (by show 2 * 0 + _ ≤ _; exact Nat.le_of_eq rfl) (hb hby at_95) ?_
    rintro v21 T21 L21 X21 ⟨rfl, N21, e21⟩
    have M21 := Fr.app M20 N21
    show Go p e below _ T21 (mkF m 98 #[.val (.int p1), .val (.int p2), .val (.int p3), .val (.int (2 : Int32)), .val (.ref o15), .val (.ref o16), .val (.ref o15), .val (.ref o16), .val (.ref o17), .val (.ref w_CLIENT), .val (.ref o16)] [(.int (1 : Int32))])
    refine Go.st (T' := T21) (g' := (mkF m 101 #[.val (.int p1), .val (.int p2), .val (.int p3), .val (.int (2 : Int32)), .val (.ref o15), .val (.ref o16), .val (.ref o15), .val (.ref o16), .val (.ref o17), .val (.ref w_CLIENT), .val (.ref o16)] [])) ?_ (fun _ k_ => XS.ifNo X21.here hx rfl (hb hby at_98) rfl (by decide) k_)
    refine Go.st (T' := T21) (g' := (mkF m 102 #[.val (.int p1), .val (.int p2), .val (.int p3), .val (.int (2 : Int32)), .val (.ref o15), .val (.ref o16), .val (.ref o15), .val (.ref o16), .val (.ref o17), .val (.ref w_CLIENT), .val (.ref o16)] [(.int (1 : Int32))])) ?_ (fun _ k_ => XT.iconstV X21.here hx rfl (1 : Int32) (hb hby at_101) (by decide) k_)
    refine Go.st (T' := T21) (g' := (mkF m 106 #[.val (.int p1), .val (.int p2), .val (.int p3), .val (.int (2 : Int32)), .val (.ref o15), .val (.ref o16), .val (.ref o15), .val (.ref o16), .val (.ref o17), .val (.ref w_CLIENT), .val (.ref o16)] [(.int (1 : Int32))])) ?_ (fun _ k_ => XS.goto X21.here hx rfl (pc0 := 102) (pc' := 106) rfl (hb hby at_102) (by decide) (by decide) k_)
    exact Go.retVW (t := .boolean) X21 hx hS (by rw [e21]; exact hk) hret hlk (by decide) (by decide) rfl (Or.inl ⟨rfl, Or.inr (Or.inl rfl), _, rfl⟩) (hb hby at_106) ⟨rfl, M21⟩
set_option maxRecDepth 65536 in
set_option maxHeartbeats 40000000 in
theorem comes_1 {Post : Tables → Env → Array Value → State → Outcome → State → Prop} (hpost : ∀ tb e args s v u, (limb_1_1.after args s (.returned v) u = true ∧ limb_1_2.after args s (.returned v) u = true ∧ True) → FramedW s (.returned v) u (Jvm.fieldLocs frame_1_writes args s ++ Jvm.arrayLocs frame_1_arrays args s ++ Jvm.staticLocs frame_1_statics s) 32 2176 → Post tb e args s (.returned v) u) :
    ArmFor flags0 classFile x code maxLocals ret World_1 tables_1 room_1 Calls_1 rest_1 Pre_1 Post := by
  intro l hfl _ _ p e ha hc hk s m args below hf hA hF happ hP
  obtain ⟨hcalls, hrest, hpre⟩ := hP
  obtain ⟨-, -, -, hnamed, -, -, -, hat⟩ := (Spec.applies_iff hf).mp happ
  obtain ⟨hg, hn⟩ := and_e (Cond.before_iff.mp (show (Jvm.Cond.and given_1 narrow_1).before args s = true from hpre))
  obtain ⟨g0, hg⟩ := and_e hg
  obtain ⟨g1, hg⟩ := and_e hg
  obtain ⟨g2, hg⟩ := and_e hg
  obtain ⟨w0, w1, w2, rfl⟩ : ∃ w0 w1 w2 : Value, args = #[w0, w1, w2] := by
    have hs : args.size = 3 := by simpa [Cond.value, given_1] using g0
    obtain ⟨L⟩ := args
    match L, hs with
    | [w0, w1, w2], _ => exact ⟨w0, w1, w2, rfl⟩
  have hw := fun d (hd : d ∈ tables_1) => atoms_spec (ws := Jvm.Cond.code x code maxLocals ret :: tables_1) hat d (List.mem_cons_of_mem _ hd)
  obtain ⟨i0, ei0⟩ := is_v g1
  obtain rfl : w0 = (.int i0) := Option.some.inj ei0
  obtain ⟨i1, ei1⟩ := is_v g2
  obtain rfl : w1 = (.int i1) := Option.some.inj ei1
  obtain ⟨i2, ei2⟩ := is_v hg
  obtain rfl : w2 = (.int i2) := Option.some.inj ei2
  obtain ⟨hsets, hown0⟩ := atoms_of _ (rest_1_c_eq ▸ (show rest_1_c.before _ s = true from hrest))
  obtain ⟨zc, ezc⟩ := is_v (Cond.before_iff.mp (hsets _ (List.mem_of_getElem? (i := 1) rfl)))
  have SC : Sta s s.heap "java/lang/String" "COMPACT_STRINGS" "Z" (.int zc) := Sta.start ezc (Or.inl (hsets _ (List.mem_of_getElem? (i := 0) rfl)))
  have hcw := hsets _ (List.mem_of_getElem? (i := 2) rfl)
  have hzc : ¬ zc = (0 : Int32) := fun q => by
    have n3 := not_v (Cond.before_iff.mp hcw)
    subst q
    simp [Jvm.Cond.value, ezc, Term.int_eval] at n3
  obtain ⟨f1a, f1b⟩ := and_e hn
  obtain ⟨w_USER, ev_USER⟩ := exa_v f1a
  have S_USER := Sta.start ev_USER (Or.inr ⟨(hw _ (List.mem_of_getElem? (i := 43) rfl)), (hw _ (List.mem_of_getElem? (i := 44) rfl))⟩)
  have A_USER := Exa.start ev_USER f1a
  obtain ⟨w_CLIENT, ev_CLIENT⟩ := exa_v f1b
  have S_CLIENT := Sta.start ev_CLIENT (Or.inr ⟨(hw _ (List.mem_of_getElem? (i := 43) rfl)), (hw _ (List.mem_of_getElem? (i := 81) rfl))⟩)
  have A_CLIENT := Exa.start ev_CLIENT f1b
  have FF : own_F s s.heap w_USER w_CLIENT := ⟨S_USER, S_CLIENT, A_USER, A_CLIENT⟩
  obtain ⟨n, o, h1, h2, h3, _, L, rfl, ⟨rfl, N⟩, hq⟩ := rm0 l s _ hw tables_1 i0 i1 i2 w_USER w_CLIENT zc s.heap s.heap.size (Nat.le_refl _) FF SC hzc p e ha hc hk s m _ below hf ((Spec.applies_iff_loose hf).mp happ).1 ⟨rfl, State.Warmed39.refl s, rfl⟩ trivial
  refine ⟨n, _, h1, h2, h3, hpost _ _ _ _ _ _ ⟨Cond.after_iff.mpr rfl, Cond.after_iff.mpr (eq_i res_at (Term.int_eval (1)) rfl), trivial⟩ ⟨hq.1, hq.2.1, hq.2.2.1, (hq.2.2.2.sift fun y hy => Or.inr (N y hy)).mono (by decide) (by decide)⟩⟩
theorem main_1_1 : Claimed_1_1 := comes_1 fun _ _ _ _ _ _ h hF => ⟨h.1, hF⟩
theorem main_1_2 : Claimed_1_2 := comes_1 fun _ _ _ _ _ _ h hF => ⟨h.2.1, hF⟩
end Jvm.Pilot.@@N@@
namespace Jvm.Pilot.@@N@@
open Jvm Jvm.ClassFile Sem Op Lib Jvm.Free Jvm.Stand Jvm.Pilot.@@N@@.Jvm.D
/-! MADE BY PROGRAM (witnessworld.py) out of the Statement's table words and the real class files: 24 classes; the members and pool entries that the words name. The judged class is class 1, her method 2. -/
namespace start1
open Jvm.ClassFile
def u (s : String) : CpInfo := .utf8 (stringToUtf16 s)
/-- a pool by its gaps: so many unusable entries, then the entry; so many at the end -/
def gap : Nat → List CpInfo → List CpInfo
  | 0, r => r
  | n + 1, r => .unusable :: gap n r
def poolList (es : List (Nat × CpInfo)) (last : Nat) : List CpInfo := es.foldr (fun e r => gap e.1 (e.2 :: r)) (gap last [])
def pool (es : List (Nat × CpInfo)) (last : Nat) : Array CpInfo := ⟨poolList es last⟩
def fileOf (pool : Array CpInfo) (this : Nat) (attrs : Array Attribute := #[]) (ms : Array MethodInfo := #[]) (fl : Nat := 33) (sup : Nat := 0) (ifs : Array Nat := #[]) (fds : Array FieldInfo := #[]) : ClassFile where
  minorVersion := 0
  majorVersion := 65
  constantPool := pool
  accessFlags := fl
  thisClass := this
  superClass := sup
  interfaces := ifs
  fields := fds
  methods := ms
  attributes := attrs
def plain (name : String) (sup : Option ClassId) : Class where
  name := name
  kind := .ordinary
  loader := none
  accessFlags := 33
  super := sup
  interfaces := #[]
  cf := none
  fields := #[]
  methods := #[]
  instanceTypes := #[]
  staticTypes := #[]
  resolved := #[]
  callSites := []
  init := .initialized
  statics := none
  mirror := none

def pool0 : Array CpInfo := pool [(5, u "<init>"), (0, u "()V"), (1, .class_ 10), (1, u "java/lang/Object")] 113

def k0c0 : Code := { maxStack := 0, maxLocals := 1, code := object_method_1_code, exceptionTable := #[], attributes := #[] }
def k0m0 : Method := { name := "<init>", desc := "()V", sig := { parameters := [], returnType := none }, accessFlags := 1, code := some k0c0 }
/-- java/lang/Object -/
def k0 : Class := { plain "java/lang/Object" none with
  accessFlags := 33
  interfaces := #[]
  cf := some (fileOf pool0 8 #[] #[{ accessFlags := 1, nameIndex := 5, descriptorIndex := 6, attributes := #[] }] 33 0 #[] #[])
  fields := #[]
  methods := #[k0m0]
  instanceTypes := #[]
  staticTypes := #[]
  resolved := Array.replicate 124 none
  statics := none }

def pool1 : Array CpInfo := pool [(2, .class_ 4), (1, u "java/lang/Object"), (0, u "<init>"), (0, u "()V"), (0, .class_ 8), (0, u "java/lang/String"), (0, .methodref 7 10), (0, .nameAndType 5 11), (0, u "([C)V"), (0, .methodref 7 13), (0, .nameAndType 14 15), (0, u "valueOf"), (0, u "(C)Ljava/lang/String;"), (0, .integer 2147483647), (0, .methodref 18 19), (0, .class_ 20), (0, .nameAndType 21 22), (0, u "com/example/lean_grant/leangrant/check/AccessRequestCallerOfPinLaw"), (0, u "drawn"), (0, u "(I)Ljava/lang/String;"), (0, .methodref 24 25), (0, .class_ 26), (0, .nameAndType 27 28), (0, u "com/example/lean_grant/leangrant/check/AccessRequest"), (0, u "callerOf"), (0, u "(Ljava/lang/String;Ljava/lang/String;)Lcom/example/lean_grant/leangrant/grantset/Owner;"), (0, .fieldref 30 31), (0, .class_ 32), (0, .nameAndType 33 34), (0, u "com/example/lean_grant/leangrant/grantset/OwnerType"), (0, u "USER"), (0, u "Lcom/example/lean_grant/leangrant/grantset/OwnerType;"), (0, .fieldref 30 36), (0, .nameAndType 37 34), (0, u "CLIENT"), (0, .methodref 39 40), (0, .class_ 41), (0, .nameAndType 42 43), (0, u "com/example/lean_grant/leangrant/grantset/Owner"), (0, u "getType"), (0, u "()Lcom/example/lean_grant/leangrant/grantset/OwnerType;"), (0, .methodref 39 45), (0, .nameAndType 46 47), (0, u "getId"), (0, u "()Ljava/lang/String;"), (0, .methodref 7 49), (0, .nameAndType 50 51), (0, u "equals"), (0, u "(Ljava/lang/Object;)Z"), (5, u "law"), (0, u "(III)Z")] 2

def k1m0 : Method := { name := "<init>", desc := "()V", sig := { parameters := [], returnType := none }, accessFlags := 1, code := none }
def k1c1 : Code := { maxStack := 5, maxLocals := 2, code := method_2_code, exceptionTable := #[], attributes := #[] }
def k1m1 : Method := { name := "drawn", desc := "(I)Ljava/lang/String;", sig := { parameters := [.int], returnType := some (.object "java/lang/String") }, accessFlags := 10, code := some k1c1 }
def k1c2 : Code := { maxStack := 2, maxLocals := 11, code := code, exceptionTable := #[], attributes := #[] }
def k1m2 : Method := { name := "law", desc := "(III)Z", sig := { parameters := [.int, .int, .int], returnType := some .boolean }, accessFlags := 9, code := some k1c2 }
/-- com/example/lean_grant/leangrant/check/AccessRequestCallerOfPinLaw -/
def k1 : Class := { plain "com/example/lean_grant/leangrant/check/AccessRequestCallerOfPinLaw" (some 0) with
  accessFlags := 49
  interfaces := #[]
  cf := some (fileOf pool1 18 #[] #[{ accessFlags := 1, nameIndex := 5, descriptorIndex := 6, attributes := #[] }, { accessFlags := 10, nameIndex := 21, descriptorIndex := 22, attributes := #[] }, { accessFlags := 9, nameIndex := 57, descriptorIndex := 58, attributes := #[] }] 49 2 #[] #[])
  fields := #[]
  methods := #[k1m0, k1m1, k1m2]
  instanceTypes := #[]
  staticTypes := #[]
  resolved := Array.replicate 61 none
  statics := none }

def pool2 : Array CpInfo := pool [(1, .class_ 2), (0, u "java/io/Serializable"), (0, .class_ 4), (0, u "java/lang/Object")] 2

/-- java/io/Serializable -/
def k2 : Class := { plain "java/io/Serializable" (some 0) with
  accessFlags := 1537
  interfaces := #[]
  cf := some (fileOf pool2 1 #[] #[] 1537 3 #[] #[])
  fields := #[]
  methods := #[]
  instanceTypes := #[]
  staticTypes := #[]
  resolved := Array.replicate 7 none
  statics := none }

def pool3 : Array CpInfo := pool [(1, .class_ 2), (0, u "java/lang/Comparable"), (0, .class_ 4), (0, u "java/lang/Object")] 7

/-- java/lang/Comparable -/
def k3 : Class := { plain "java/lang/Comparable" (some 0) with
  accessFlags := 1537
  interfaces := #[]
  cf := some (fileOf pool3 1 #[] #[] 1537 3 #[] #[])
  fields := #[]
  methods := #[]
  instanceTypes := #[]
  staticTypes := #[]
  resolved := Array.replicate 12 none
  statics := none }

def pool4 : Array CpInfo := pool [(2, .class_ 4), (1, u "java/lang/CharSequence"), (42, .class_ 48), (0, u "java/lang/CharSequence$1CodePointIterator"), (10, .class_ 60), (0, u "java/lang/CharSequence$1CharIterator"), (5, .class_ 67), (0, u "java/lang/Object")] 63

/-- java/lang/CharSequence -/
def k4 : Class := { plain "java/lang/CharSequence" (some 0) with
  accessFlags := 1537
  interfaces := #[]
  cf := some (fileOf pool4 2 #[.nestMembers #[47, 59]] #[] 1537 66 #[] #[])
  fields := #[]
  methods := #[]
  instanceTypes := #[]
  staticTypes := #[]
  resolved := Array.replicate 131 none
  statics := none }

def pool5 : Array CpInfo := pool [(1, .class_ 2), (0, u "java/lang/constant/Constable"), (0, .class_ 4), (0, u "java/lang/Object")] 6

/-- java/lang/constant/Constable -/
def k5 : Class := { plain "java/lang/constant/Constable" (some 0) with
  accessFlags := 1537
  interfaces := #[]
  cf := some (fileOf pool5 1 #[] #[] 1537 3 #[] #[])
  fields := #[]
  methods := #[]
  instanceTypes := #[]
  staticTypes := #[]
  resolved := Array.replicate 11 none
  statics := none }

def pool6 : Array CpInfo := pool [(1, .class_ 2), (0, u "java/lang/constant/ConstantDesc"), (0, .class_ 4), (0, u "java/lang/Object")] 32

/-- java/lang/constant/ConstantDesc -/
def k6 : Class := { plain "java/lang/constant/ConstantDesc" (some 0) with
  accessFlags := 1537
  interfaces := #[]
  cf := some (fileOf pool6 1 #[] #[] 1537 3 #[] #[])
  fields := #[]
  methods := #[]
  instanceTypes := #[]
  staticTypes := #[]
  resolved := Array.replicate 37 none
  statics := none }

def pool7 : Array CpInfo := pool [(1, .methodref 2 3), (0, .class_ 4), (0, .nameAndType 5 6), (0, u "java/lang/Object"), (0, u "<init>"), (0, u "()V"), (2, .fieldref 10 11), (0, .class_ 12), (0, .nameAndType 13 14), (0, u "java/lang/String"), (0, u "value"), (0, u "[B"), (0, .fieldref 10 16), (0, .nameAndType 17 18), (0, u "coder"), (0, u "B"), (2, u "hash"), (0, u "I"), (2, u "hashIsZero"), (0, u "Z"), (0, .methodref 10 28), (0, .nameAndType 5 29), (0, u "([CIILjava/lang/Void;)V"), (8, .fieldref 10 39), (0, .nameAndType 40 26), (0, u "COMPACT_STRINGS"), (1, .class_ 44), (1, u "java/lang/StringUTF16"), (0, u "compress"), (1, .methodref 42 48), (0, .nameAndType 49 50), (0, u "coderFromArrayLen"), (0, u "([BI)B"), (2, u "toBytes"), (53, .class_ 109), (1, u "java/lang/StringLatin1"), (67, .methodref 42 178), (0, .nameAndType 45 179), (0, u "([CII)[B"), (29, .methodref 10 210), (0, .nameAndType 5 211), (0, u "([BB)V"), (157, u "(C)Z"), (173, u "equals"), (29, u "(Ljava/lang/Object;)Z"), (1, .class_ 576), (0, u "java/lang/CharSequence"), (22, u "CASE_INSENSITIVE_ORDER"), (0, u "Ljava/util/Comparator;"), (181, u "valueOf"), (0, u "(C)Ljava/lang/String;"), (226, u "([C)V"), (4, .methodref 107 1016), (0, .nameAndType 1017 369), (0, u "canEncode"), (0, .methodref 107 1019), (0, .nameAndType 53 1020), (0, u "(C)[B"), (80, u "serialPersistentFields"), (0, u "[Ljava/io/ObjectStreamField;"), (0, .class_ 1104), (0, u "java/lang/String$CaseInsensitiveComparator"), (1, .class_ 1107), (0, u "java/io/Serializable"), (0, .class_ 1109), (0, u "java/lang/Comparable"), (0, .class_ 1111), (0, u "java/lang/constant/Constable"), (0, .class_ 1113), (0, u "java/lang/constant/ConstantDesc"), (2, u "serialVersionUID"), (0, u "J"), (3, u "REPL"), (0, u "C"), (2, u "LATIN1"), (1, u "UTF16")] 323

def k7m0 : Method := { name := "<init>", desc := "()V", sig := { parameters := [], returnType := none }, accessFlags := 1, code := none }
def k7c1 : Code := { maxStack := 5, maxLocals := 2, code := jdk_42_method_3_code, exceptionTable := #[], attributes := #[] }
def k7m1 : Method := { name := "<init>", desc := "([C)V", sig := { parameters := [(.array .char)], returnType := none }, accessFlags := 1, code := some k7c1 }
def k7c2 : Code := { maxStack := 2, maxLocals := 3, code := jdk_42_method_66_code, exceptionTable := #[], attributes := #[] }
def k7m2 : Method := { name := "equals", desc := "(Ljava/lang/Object;)Z", sig := { parameters := [(.object "java/lang/Object")], returnType := some .boolean }, accessFlags := 1, code := some k7c2 }
def k7c3 : Code := { maxStack := 4, maxLocals := 1, code := jdk_42_method_139_code, exceptionTable := #[], attributes := #[] }
def k7m3 : Method := { name := "valueOf", desc := "(C)Ljava/lang/String;", sig := { parameters := [.char], returnType := some (.object "java/lang/String") }, accessFlags := 9, code := some k7c3 }
def k7c4 : Code := { maxStack := 4, maxLocals := 6, code := jdk_42_method_149_code, exceptionTable := #[], attributes := #[] }
def k7m4 : Method := { name := "<init>", desc := "([CIILjava/lang/Void;)V", sig := { parameters := [(.array .char), .int, .int, (.object "java/lang/Void")], returnType := none }, accessFlags := 2, code := some k7c4 }
def k7c5 : Code := { maxStack := 2, maxLocals := 3, code := jdk_42_method_151_code, exceptionTable := #[], attributes := #[] }
def k7m5 : Method := { name := "<init>", desc := "([BB)V", sig := { parameters := [(.array .byte), .byte], returnType := none }, accessFlags := 0, code := some k7c5 }
/-- java/lang/String -/
def k7 : Class := { plain "java/lang/String" (some 0) with
  accessFlags := 49
  interfaces := #[2, 3, 4, 5, 6]
  cf := some (fileOf pool7 10 #[.nestMembers #[1103]] #[{ accessFlags := 1, nameIndex := 5, descriptorIndex := 6, attributes := #[] }, { accessFlags := 1, nameIndex := 5, descriptorIndex := 1010, attributes := #[] }, { accessFlags := 1, nameIndex := 543, descriptorIndex := 573, attributes := #[] }, { accessFlags := 9, nameIndex := 782, descriptorIndex := 783, attributes := #[] }, { accessFlags := 2, nameIndex := 5, descriptorIndex := 29, attributes := #[] }, { accessFlags := 0, nameIndex := 5, descriptorIndex := 211, attributes := #[] }] 49 2 #[1106, 1108, 575, 1110, 1112] #[{ accessFlags := 18, nameIndex := 13, descriptorIndex := 14, attributes := #[] }, { accessFlags := 18, nameIndex := 17, descriptorIndex := 18, attributes := #[] }, { accessFlags := 2, nameIndex := 21, descriptorIndex := 22, attributes := #[] }, { accessFlags := 2, nameIndex := 25, descriptorIndex := 26, attributes := #[] }, { accessFlags := 26, nameIndex := 1116, descriptorIndex := 1117, attributes := #[] }, { accessFlags := 24, nameIndex := 40, descriptorIndex := 26, attributes := #[] }, { accessFlags := 26, nameIndex := 1101, descriptorIndex := 1102, attributes := #[] }, { accessFlags := 26, nameIndex := 1121, descriptorIndex := 1122, attributes := #[] }, { accessFlags := 25, nameIndex := 599, descriptorIndex := 600, attributes := #[] }, { accessFlags := 24, nameIndex := 1125, descriptorIndex := 18, attributes := #[] }, { accessFlags := 24, nameIndex := 1127, descriptorIndex := 18, attributes := #[] }])
  fields := #[{ name := "value", type := (.array .byte), accessFlags := 18, slot := 0, constantValue := 0 }, { name := "coder", type := .byte, accessFlags := 18, slot := 1, constantValue := 0 }, { name := "hash", type := .int, accessFlags := 2, slot := 2, constantValue := 0 }, { name := "hashIsZero", type := .boolean, accessFlags := 2, slot := 3, constantValue := 0 }, { name := "serialVersionUID", type := .long, accessFlags := 26, slot := 0, constantValue := 0 }, { name := "COMPACT_STRINGS", type := .boolean, accessFlags := 24, slot := 1, constantValue := 0 }, { name := "serialPersistentFields", type := (.array (.object "java/io/ObjectStreamField")), accessFlags := 26, slot := 2, constantValue := 0 }, { name := "REPL", type := .char, accessFlags := 26, slot := 3, constantValue := 0 }, { name := "CASE_INSENSITIVE_ORDER", type := (.object "java/util/Comparator"), accessFlags := 25, slot := 4, constantValue := 0 }, { name := "LATIN1", type := .byte, accessFlags := 24, slot := 5, constantValue := 0 }, { name := "UTF16", type := .byte, accessFlags := 24, slot := 6, constantValue := 0 }]
  methods := #[k7m0, k7m1, k7m2, k7m3, k7m4, k7m5]
  instanceTypes := #[(.array .byte), .byte, .int, .boolean]
  staticTypes := #[.long, .boolean, (.array (.object "java/io/ObjectStreamField")), .char, (.object "java/util/Comparator"), .byte, .byte]
  resolved := Array.replicate 1451 none
  statics := some 0 }

def pool8 : Array CpInfo := pool [(6, .class_ 8), (1, u "java/lang/Object"), (0, u "<init>"), (0, u "()V"), (1, .class_ 14), (1, u "java/lang/StringUTF16"), (31, u "$assertionsDisabled"), (0, u "Z"), (13, u "HI_BYTE_SHIFT"), (0, u "I"), (2, u "LO_BYTE_SHIFT"), (49, .methodref 12 116), (0, .nameAndType 117 118), (0, u "compress"), (0, u "([CI[BII)I"), (3, u "([CII)[B"), (138, u "coderFromArrayLen"), (0, u "([BI)B"), (106, .class_ 371), (1, u "java/lang/StringUTF16$LinesSpliterator"), (58, u "MAX_LENGTH"), (196, .class_ 628), (0, u "java/lang/StringUTF16$CodePointsSpliterator"), (0, .class_ 630), (0, u "java/lang/StringUTF16$CharsSpliterator")] 4

def k8m0 : Method := { name := "<init>", desc := "()V", sig := { parameters := [], returnType := none }, accessFlags := 0, code := none }
def k8c1 : Code := { maxStack := 2, maxLocals := 2, code := jdk_52_method_15_code, exceptionTable := #[], attributes := #[] }
def k8m1 : Method := { name := "coderFromArrayLen", desc := "([BI)B", sig := { parameters := [(.array .byte), .int], returnType := some .byte }, accessFlags := 8, code := some k8c1 }
def k8c2 : Code := { maxStack := 5, maxLocals := 6, code := jdk_52_method_16_code, exceptionTable := #[], attributes := #[] }
def k8m2 : Method := { name := "compress", desc := "([CII)[B", sig := { parameters := [(.array .char), .int, .int], returnType := some (.array .byte) }, accessFlags := 9, code := some k8c2 }
def k8c3 : Code := { maxStack := 3, maxLocals := 7, code := jdk_52_method_21_code, exceptionTable := #[], attributes := #[] }
def k8m3 : Method := { name := "compress", desc := "([CI[BII)I", sig := { parameters := [(.array .char), .int, (.array .byte), .int, .int], returnType := some .int }, accessFlags := 9, code := some k8c3 }
/-- java/lang/StringUTF16 -/
def k8 : Class := { plain "java/lang/StringUTF16" (some 0) with
  accessFlags := 48
  interfaces := #[]
  cf := some (fileOf pool8 12 #[.nestMembers #[627, 629, 369]] #[{ accessFlags := 0, nameIndex := 9, descriptorIndex := 10, attributes := #[] }, { accessFlags := 8, nameIndex := 261, descriptorIndex := 262, attributes := #[] }, { accessFlags := 9, nameIndex := 117, descriptorIndex := 122, attributes := #[] }, { accessFlags := 9, nameIndex := 117, descriptorIndex := 118, attributes := #[] }] 48 6 #[] #[{ accessFlags := 26, nameIndex := 61, descriptorIndex := 62, attributes := #[] }, { accessFlags := 26, nameIndex := 65, descriptorIndex := 62, attributes := #[] }, { accessFlags := 24, nameIndex := 430, descriptorIndex := 62, attributes := #[] }, { accessFlags := 4120, nameIndex := 46, descriptorIndex := 47, attributes := #[] }])
  fields := #[{ name := "HI_BYTE_SHIFT", type := .int, accessFlags := 26, slot := 0, constantValue := 0 }, { name := "LO_BYTE_SHIFT", type := .int, accessFlags := 26, slot := 1, constantValue := 0 }, { name := "MAX_LENGTH", type := .int, accessFlags := 24, slot := 2, constantValue := 0 }, { name := "$assertionsDisabled", type := .boolean, accessFlags := 4120, slot := 3, constantValue := 0 }]
  methods := #[k8m0, k8m1, k8m2, k8m3]
  instanceTypes := #[]
  staticTypes := #[.int, .int, .int, .boolean]
  resolved := Array.replicate 635 none
  statics := none }

def pool9 : Array CpInfo := pool [(2, .class_ 4), (1, u "com/example/lean_grant/leangrant/check/AccessRequest"), (3, .class_ 10), (1, u "com/example/lean_grant/leangrant/check/AccessRequest$Builder"), (0, u "resourceIds"), (3, u "<init>"), (2, .class_ 20), (1, u "java/lang/Object"), (3, u "caller"), (0, u "Lcom/example/lean_grant/leangrant/grantset/Owner;"), (3, u "claims"), (0, u "Ljava/util/Map;"), (7, u "resourceType"), (0, u "Ljava/lang/String;"), (3, u "permission"), (3, u "Ljava/util/List;"), (8, u "properties"), (3, u "tenantId"), (3, u "newResource"), (0, u "Z"), (11, .class_ 78), (0, u "com/example/lean_grant/leangrant/grantset/Owner"), (0, .fieldref 80 81), (0, .class_ 82), (0, .nameAndType 83 84), (0, u "com/example/lean_grant/leangrant/grantset/OwnerType"), (0, u "CLIENT"), (0, u "Lcom/example/lean_grant/leangrant/grantset/OwnerType;"), (0, .methodref 77 86), (0, .nameAndType 15 87), (0, u "(Lcom/example/lean_grant/leangrant/grantset/OwnerType;Ljava/lang/String;)V"), (0, .fieldref 80 89), (0, .nameAndType 90 84), (0, u "USER"), (68, u "callerOf"), (0, u "(Ljava/lang/String;Ljava/lang/String;)Lcom/example/lean_grant/leangrant/grantset/Owner;")] 21

def k9c0 : Code := { maxStack := 4, maxLocals := 3, code := prog_2_method_4_code, exceptionTable := #[], attributes := #[] }
def k9m0 : Method := { name := "callerOf", desc := "(Ljava/lang/String;Ljava/lang/String;)Lcom/example/lean_grant/leangrant/grantset/Owner;", sig := { parameters := [(.object "java/lang/String"), (.object "java/lang/String")], returnType := some (.object "com/example/lean_grant/leangrant/grantset/Owner") }, accessFlags := 9, code := some k9c0 }
/-- com/example/lean_grant/leangrant/check/AccessRequest -/
def k9 : Class := { plain "com/example/lean_grant/leangrant/check/AccessRequest" (some 0) with
  accessFlags := 49
  interfaces := #[]
  cf := some (fileOf pool9 2 #[.nestMembers #[8]] #[{ accessFlags := 9, nameIndex := 159, descriptorIndex := 160, attributes := #[] }] 49 18 #[] #[{ accessFlags := 18, nameIndex := 24, descriptorIndex := 25, attributes := #[] }, { accessFlags := 18, nameIndex := 29, descriptorIndex := 30, attributes := #[] }, { accessFlags := 18, nameIndex := 38, descriptorIndex := 39, attributes := #[] }, { accessFlags := 18, nameIndex := 43, descriptorIndex := 39, attributes := #[] }, { accessFlags := 18, nameIndex := 11, descriptorIndex := 47, attributes := #[] }, { accessFlags := 18, nameIndex := 56, descriptorIndex := 30, attributes := #[] }, { accessFlags := 18, nameIndex := 60, descriptorIndex := 39, attributes := #[] }, { accessFlags := 18, nameIndex := 64, descriptorIndex := 65, attributes := #[] }])
  fields := #[{ name := "caller", type := (.object "com/example/lean_grant/leangrant/grantset/Owner"), accessFlags := 18, slot := 0, constantValue := 0 }, { name := "claims", type := (.object "java/util/Map"), accessFlags := 18, slot := 1, constantValue := 0 }, { name := "resourceType", type := (.object "java/lang/String"), accessFlags := 18, slot := 2, constantValue := 0 }, { name := "permission", type := (.object "java/lang/String"), accessFlags := 18, slot := 3, constantValue := 0 }, { name := "resourceIds", type := (.object "java/util/List"), accessFlags := 18, slot := 4, constantValue := 0 }, { name := "properties", type := (.object "java/util/Map"), accessFlags := 18, slot := 5, constantValue := 0 }, { name := "tenantId", type := (.object "java/lang/String"), accessFlags := 18, slot := 6, constantValue := 0 }, { name := "newResource", type := .boolean, accessFlags := 18, slot := 7, constantValue := 0 }]
  methods := #[k9m0]
  instanceTypes := #[(.object "com/example/lean_grant/leangrant/grantset/Owner"), (.object "java/util/Map"), (.object "java/lang/String"), (.object "java/lang/String"), (.object "java/util/List"), (.object "java/util/Map"), (.object "java/lang/String"), .boolean]
  staticTypes := #[]
  resolved := Array.replicate 182 none
  statics := none }

def pool10 : Array CpInfo := pool [(1, .methodref 2 3), (0, .class_ 4), (0, .nameAndType 5 6), (0, u "java/lang/Object"), (0, u "<init>"), (0, u "()V"), (0, .string 8), (0, u "type"), (0, .methodref 10 11), (0, .class_ 12), (0, .nameAndType 13 14), (0, u "java/util/Objects"), (0, u "requireNonNull"), (0, u "(Ljava/lang/Object;Ljava/lang/String;)Ljava/lang/Object;"), (0, .class_ 16), (0, u "com/example/lean_grant/leangrant/grantset/OwnerType"), (0, .fieldref 18 19), (0, .class_ 20), (0, .nameAndType 8 21), (0, u "com/example/lean_grant/leangrant/grantset/Owner"), (0, u "Lcom/example/lean_grant/leangrant/grantset/OwnerType;"), (0, .string 23), (0, u "id"), (0, .class_ 25), (0, u "java/lang/String"), (0, .fieldref 18 27), (0, .nameAndType 23 28), (0, u "Ljava/lang/String;"), (17, u "(Lcom/example/lean_grant/leangrant/grantset/OwnerType;Ljava/lang/String;)V"), (2, u "getType"), (0, u "()Lcom/example/lean_grant/leangrant/grantset/OwnerType;"), (0, u "getId"), (0, u "()Ljava/lang/String;")] 19

def k10c0 : Code := { maxStack := 3, maxLocals := 3, code := prog_20_method_1_code, exceptionTable := #[], attributes := #[] }
def k10m0 : Method := { name := "<init>", desc := "(Lcom/example/lean_grant/leangrant/grantset/OwnerType;Ljava/lang/String;)V", sig := { parameters := [(.object "com/example/lean_grant/leangrant/grantset/OwnerType"), (.object "java/lang/String")], returnType := none }, accessFlags := 1, code := some k10c0 }
def k10c1 : Code := { maxStack := 1, maxLocals := 1, code := prog_20_method_2_code, exceptionTable := #[], attributes := #[] }
def k10m1 : Method := { name := "getType", desc := "()Lcom/example/lean_grant/leangrant/grantset/OwnerType;", sig := { parameters := [], returnType := some (.object "com/example/lean_grant/leangrant/grantset/OwnerType") }, accessFlags := 1, code := some k10c1 }
def k10c2 : Code := { maxStack := 1, maxLocals := 1, code := prog_20_method_3_code, exceptionTable := #[], attributes := #[] }
def k10m2 : Method := { name := "getId", desc := "()Ljava/lang/String;", sig := { parameters := [], returnType := some (.object "java/lang/String") }, accessFlags := 1, code := some k10c2 }
/-- com/example/lean_grant/leangrant/grantset/Owner -/
def k10 : Class := { plain "com/example/lean_grant/leangrant/grantset/Owner" (some 0) with
  accessFlags := 49
  interfaces := #[]
  cf := some (fileOf pool10 18 #[] #[{ accessFlags := 1, nameIndex := 5, descriptorIndex := 46, attributes := #[] }, { accessFlags := 1, nameIndex := 49, descriptorIndex := 50, attributes := #[] }, { accessFlags := 1, nameIndex := 51, descriptorIndex := 52, attributes := #[] }] 49 2 #[] #[{ accessFlags := 18, nameIndex := 8, descriptorIndex := 21, attributes := #[] }, { accessFlags := 18, nameIndex := 23, descriptorIndex := 28, attributes := #[] }])
  fields := #[{ name := "type", type := (.object "com/example/lean_grant/leangrant/grantset/OwnerType"), accessFlags := 18, slot := 0, constantValue := 0 }, { name := "id", type := (.object "java/lang/String"), accessFlags := 18, slot := 1, constantValue := 0 }]
  methods := #[k10m0, k10m1, k10m2]
  instanceTypes := #[(.object "com/example/lean_grant/leangrant/grantset/OwnerType"), (.object "java/lang/String")]
  staticTypes := #[]
  resolved := Array.replicate 72 none
  statics := none }

def pool11 : Array CpInfo := pool [(2, .class_ 4), (1, u "java/lang/Enum"), (0, u "name"), (0, u "Ljava/lang/String;"), (2, u "ordinal"), (0, u "I"), (1, .class_ 14), (1, u "java/lang/Object"), (4, u "hash"), (86, .class_ 108), (1, u "java/lang/Enum$EnumDesc"), (2, .class_ 112), (0, u "java/lang/constant/Constable"), (0, .class_ 114), (0, u "java/lang/Comparable"), (0, .class_ 116), (0, u "java/io/Serializable")] 87

/-- java/lang/Enum -/
def k11 : Class := { plain "java/lang/Enum" (some 0) with
  accessFlags := 1057
  interfaces := #[5, 3, 2]
  cf := some (fileOf pool11 2 #[.nestMembers #[106]] #[] 1057 12 #[111, 113, 115] #[{ accessFlags := 18, nameIndex := 5, descriptorIndex := 6, attributes := #[] }, { accessFlags := 18, nameIndex := 9, descriptorIndex := 10, attributes := #[] }, { accessFlags := 2, nameIndex := 19, descriptorIndex := 10, attributes := #[] }])
  fields := #[{ name := "name", type := (.object "java/lang/String"), accessFlags := 18, slot := 0, constantValue := 0 }, { name := "ordinal", type := .int, accessFlags := 18, slot := 1, constantValue := 0 }, { name := "hash", type := .int, accessFlags := 2, slot := 2, constantValue := 0 }]
  methods := #[]
  instanceTypes := #[(.object "java/lang/String"), .int, .int]
  staticTypes := #[]
  resolved := Array.replicate 204 none
  statics := none }

def pool12 : Array CpInfo := pool [(1, .class_ 2), (0, u "com/example/lean_grant/leangrant/grantset/OwnerType"), (2, u "USER"), (0, u "Lcom/example/lean_grant/leangrant/grantset/OwnerType;"), (2, u "CLIENT"), (2, u "GROUP"), (2, u "ROLE"), (2, u "TENANT"), (2, u "MAPPING_RULE"), (2, u "$VALUES"), (0, u "[Lcom/example/lean_grant/leangrant/grantset/OwnerType;"), (6, .class_ 34), (1, u "java/lang/Enum")] 28

/-- com/example/lean_grant/leangrant/grantset/OwnerType -/
def k12 : Class := { plain "com/example/lean_grant/leangrant/grantset/OwnerType" (some 11) with
  accessFlags := 16433
  interfaces := #[]
  cf := some (fileOf pool12 1 #[] #[] 16433 32 #[] #[{ accessFlags := 16409, nameIndex := 5, descriptorIndex := 6, attributes := #[] }, { accessFlags := 16409, nameIndex := 9, descriptorIndex := 6, attributes := #[] }, { accessFlags := 16409, nameIndex := 12, descriptorIndex := 6, attributes := #[] }, { accessFlags := 16409, nameIndex := 15, descriptorIndex := 6, attributes := #[] }, { accessFlags := 16409, nameIndex := 18, descriptorIndex := 6, attributes := #[] }, { accessFlags := 16409, nameIndex := 21, descriptorIndex := 6, attributes := #[] }, { accessFlags := 4122, nameIndex := 24, descriptorIndex := 25, attributes := #[] }])
  fields := #[{ name := "USER", type := (.object "com/example/lean_grant/leangrant/grantset/OwnerType"), accessFlags := 16409, slot := 0, constantValue := 0 }, { name := "CLIENT", type := (.object "com/example/lean_grant/leangrant/grantset/OwnerType"), accessFlags := 16409, slot := 1, constantValue := 0 }, { name := "GROUP", type := (.object "com/example/lean_grant/leangrant/grantset/OwnerType"), accessFlags := 16409, slot := 2, constantValue := 0 }, { name := "ROLE", type := (.object "com/example/lean_grant/leangrant/grantset/OwnerType"), accessFlags := 16409, slot := 3, constantValue := 0 }, { name := "TENANT", type := (.object "com/example/lean_grant/leangrant/grantset/OwnerType"), accessFlags := 16409, slot := 4, constantValue := 0 }, { name := "MAPPING_RULE", type := (.object "com/example/lean_grant/leangrant/grantset/OwnerType"), accessFlags := 16409, slot := 5, constantValue := 0 }, { name := "$VALUES", type := (.array (.object "com/example/lean_grant/leangrant/grantset/OwnerType")), accessFlags := 4122, slot := 6, constantValue := 0 }]
  methods := #[]
  instanceTypes := #[(.object "java/lang/String"), .int, .int]
  staticTypes := #[(.object "com/example/lean_grant/leangrant/grantset/OwnerType"), (.object "com/example/lean_grant/leangrant/grantset/OwnerType"), (.object "com/example/lean_grant/leangrant/grantset/OwnerType"), (.object "com/example/lean_grant/leangrant/grantset/OwnerType"), (.object "com/example/lean_grant/leangrant/grantset/OwnerType"), (.object "com/example/lean_grant/leangrant/grantset/OwnerType"), (.array (.object "com/example/lean_grant/leangrant/grantset/OwnerType"))]
  resolved := Array.replicate 63 none
  statics := some 1 }

def pool13 : Array CpInfo := pool [(2, .class_ 4), (1, u "java/lang/Object"), (0, u "<init>"), (0, u "()V"), (35, .class_ 44), (1, u "java/util/Objects"), (0, u "requireNonNull"), (48, u "(Ljava/lang/Object;Ljava/lang/String;)Ljava/lang/Object;")] 89

def k13m0 : Method := { name := "<init>", desc := "()V", sig := { parameters := [], returnType := none }, accessFlags := 2, code := none }
def k13c1 : Code := { maxStack := 3, maxLocals := 2, code := jdk_31_method_11_code, exceptionTable := #[], attributes := #[] }
def k13m1 : Method := { name := "requireNonNull", desc := "(Ljava/lang/Object;Ljava/lang/String;)Ljava/lang/Object;", sig := { parameters := [(.object "java/lang/Object"), (.object "java/lang/String")], returnType := some (.object "java/lang/Object") }, accessFlags := 9, code := some k13c1 }
/-- java/util/Objects -/
def k13 : Class := { plain "java/util/Objects" (some 0) with
  accessFlags := 49
  interfaces := #[]
  cf := some (fileOf pool13 42 #[] #[{ accessFlags := 2, nameIndex := 5, descriptorIndex := 6, attributes := #[] }, { accessFlags := 9, nameIndex := 45, descriptorIndex := 94, attributes := #[] }] 49 2 #[] #[])
  fields := #[]
  methods := #[k13m0, k13m1]
  instanceTypes := #[]
  staticTypes := #[]
  resolved := Array.replicate 184 none
  statics := none }

def pool14 : Array CpInfo := pool [(4, .class_ 6), (1, u "java/lang/Object"), (0, u "<init>"), (0, u "()V"), (5, .class_ 16), (1, u "java/lang/StringLatin1"), (73, u "canEncode"), (14, u "(C)Z"), (15, u "$assertionsDisabled"), (0, u "Z"), (98, .class_ 223), (1, u "java/lang/StringLatin1$LinesSpliterator"), (156, u "toBytes"), (1, u "(C)[B"), (7, .class_ 391), (0, u "java/lang/StringLatin1$CharsSpliterator")] 3

def k14m0 : Method := { name := "<init>", desc := "()V", sig := { parameters := [], returnType := none }, accessFlags := 0, code := none }
def k14c1 : Code := { maxStack := 2, maxLocals := 1, code := jdk_43_method_3_code, exceptionTable := #[], attributes := #[] }
def k14m1 : Method := { name := "canEncode", desc := "(C)Z", sig := { parameters := [.char], returnType := some .boolean }, accessFlags := 9, code := some k14c1 }
def k14c2 : Code := { maxStack := 4, maxLocals := 1, code := jdk_43_method_46_code, exceptionTable := #[], attributes := #[] }
def k14m2 : Method := { name := "toBytes", desc := "(C)[B", sig := { parameters := [.char], returnType := some (.array .byte) }, accessFlags := 9, code := some k14c2 }
/-- java/lang/StringLatin1 -/
def k14 : Class := { plain "java/lang/StringLatin1" (some 0) with
  accessFlags := 48
  interfaces := #[]
  cf := some (fileOf pool14 14 #[.nestMembers #[390, 221]] #[{ accessFlags := 0, nameIndex := 7, descriptorIndex := 8, attributes := #[] }, { accessFlags := 9, nameIndex := 90, descriptorIndex := 105, attributes := #[] }, { accessFlags := 9, nameIndex := 380, descriptorIndex := 382, attributes := #[] }] 48 4 #[] #[{ accessFlags := 4120, nameIndex := 121, descriptorIndex := 122, attributes := #[] }])
  fields := #[{ name := "$assertionsDisabled", type := .boolean, accessFlags := 4120, slot := 0, constantValue := 0 }]
  methods := #[k14m0, k14m1, k14m2]
  instanceTypes := #[]
  staticTypes := #[.boolean]
  resolved := Array.replicate 395 none
  statics := none }

def pool15 : Array CpInfo := pool [(2, .class_ 4), (1, u "java/lang/Object"), (0, u "<init>"), (0, u "()V"), (17, .class_ 26), (1, u "jdk/internal/util/Preconditions"), (28, .class_ 56), (0, u "jdk/internal/util/Preconditions$4"), (57, .class_ 115), (0, u "jdk/internal/util/Preconditions$1"), (7, u "SIOOBE_FORMATTER"), (0, u "Ljava/util/function/BiFunction;"), (0, .class_ 126), (0, u "jdk/internal/util/Preconditions$2"), (3, u "AIOOBE_FORMATTER"), (0, .class_ 132), (0, u "jdk/internal/util/Preconditions$3"), (3, u "IOOBE_FORMATTER")] 57

def k15m0 : Method := { name := "<init>", desc := "()V", sig := { parameters := [], returnType := none }, accessFlags := 1, code := none }
/-- jdk/internal/util/Preconditions -/
def k15 : Class := { plain "jdk/internal/util/Preconditions" (some 0) with
  accessFlags := 33
  interfaces := #[]
  cf := some (fileOf pool15 24 #[.nestMembers #[55, 131, 125, 114]] #[{ accessFlags := 1, nameIndex := 5, descriptorIndex := 6, attributes := #[] }] 33 2 #[] #[{ accessFlags := 25, nameIndex := 123, descriptorIndex := 124, attributes := #[] }, { accessFlags := 25, nameIndex := 130, descriptorIndex := 124, attributes := #[] }, { accessFlags := 25, nameIndex := 136, descriptorIndex := 124, attributes := #[] }])
  fields := #[{ name := "SIOOBE_FORMATTER", type := (.object "java/util/function/BiFunction"), accessFlags := 25, slot := 0, constantValue := 0 }, { name := "AIOOBE_FORMATTER", type := (.object "java/util/function/BiFunction"), accessFlags := 25, slot := 1, constantValue := 0 }, { name := "IOOBE_FORMATTER", type := (.object "java/util/function/BiFunction"), accessFlags := 25, slot := 2, constantValue := 0 }]
  methods := #[k15m0]
  instanceTypes := #[]
  staticTypes := #[(.object "java/util/function/BiFunction"), (.object "java/util/function/BiFunction"), (.object "java/util/function/BiFunction")]
  resolved := Array.replicate 194 none
  statics := some 2 }

def pool16 : Array CpInfo := pool [(9, u "<init>"), (6, .class_ 18), (1, u "java/lang/Object"), (0, u "()V"), (1, .class_ 23), (1, u "jdk/internal/util/ArraysSupport"), (0, u "LOG2_ARRAY_LONG_INDEX_SCALE"), (0, u "I"), (2, u "U"), (0, u "Ljdk/internal/misc/Unsafe;"), (8, u "BIG_ENDIAN"), (0, u "Z"), (8, u "LOG2_BYTE_BIT_SIZE"), (4, u "LOG2_ARRAY_INT_INDEX_SCALE"), (54, u "JLA"), (0, u "Ljdk/internal/access/JavaLangAccess;"), (11, u "LOG2_ARRAY_BOOLEAN_INDEX_SCALE"), (9, u "LOG2_ARRAY_BYTE_INDEX_SCALE"), (5, u "LOG2_ARRAY_CHAR_INDEX_SCALE"), (5, u "LOG2_ARRAY_SHORT_INDEX_SCALE"), (18, u "LOG2_ARRAY_FLOAT_INDEX_SCALE"), (24, u "LOG2_ARRAY_DOUBLE_INDEX_SCALE"), (89, u "T_BOOLEAN"), (2, u "T_CHAR"), (1, u "T_FLOAT"), (1, u "T_DOUBLE"), (1, u "T_BYTE"), (1, u "T_SHORT"), (1, u "T_INT"), (1, u "T_LONG"), (1, u "SOFT_MAX_ARRAY_LENGTH")] 83

def k16m0 : Method := { name := "<init>", desc := "()V", sig := { parameters := [], returnType := none }, accessFlags := 2, code := none }
/-- jdk/internal/util/ArraysSupport -/
def k16 : Class := { plain "jdk/internal/util/ArraysSupport" (some 0) with
  accessFlags := 33
  interfaces := #[]
  cf := some (fileOf pool16 21 #[] #[{ accessFlags := 2, nameIndex := 9, descriptorIndex := 19, attributes := #[] }] 33 16 #[] #[{ accessFlags := 24, nameIndex := 28, descriptorIndex := 29, attributes := #[] }, { accessFlags := 26, nameIndex := 38, descriptorIndex := 39, attributes := #[] }, { accessFlags := 25, nameIndex := 121, descriptorIndex := 25, attributes := #[] }, { accessFlags := 25, nameIndex := 131, descriptorIndex := 25, attributes := #[] }, { accessFlags := 25, nameIndex := 137, descriptorIndex := 25, attributes := #[] }, { accessFlags := 25, nameIndex := 143, descriptorIndex := 25, attributes := #[] }, { accessFlags := 25, nameIndex := 53, descriptorIndex := 25, attributes := #[] }, { accessFlags := 25, nameIndex := 24, descriptorIndex := 25, attributes := #[] }, { accessFlags := 25, nameIndex := 162, descriptorIndex := 25, attributes := #[] }, { accessFlags := 25, nameIndex := 187, descriptorIndex := 25, attributes := #[] }, { accessFlags := 26, nameIndex := 48, descriptorIndex := 25, attributes := #[] }, { accessFlags := 25, nameIndex := 277, descriptorIndex := 25, attributes := #[] }, { accessFlags := 25, nameIndex := 280, descriptorIndex := 25, attributes := #[] }, { accessFlags := 25, nameIndex := 282, descriptorIndex := 25, attributes := #[] }, { accessFlags := 25, nameIndex := 284, descriptorIndex := 25, attributes := #[] }, { accessFlags := 25, nameIndex := 286, descriptorIndex := 25, attributes := #[] }, { accessFlags := 25, nameIndex := 288, descriptorIndex := 25, attributes := #[] }, { accessFlags := 25, nameIndex := 290, descriptorIndex := 25, attributes := #[] }, { accessFlags := 25, nameIndex := 292, descriptorIndex := 25, attributes := #[] }, { accessFlags := 26, nameIndex := 108, descriptorIndex := 109, attributes := #[] }, { accessFlags := 25, nameIndex := 294, descriptorIndex := 25, attributes := #[] }])
  fields := #[{ name := "U", type := (.object "jdk/internal/misc/Unsafe"), accessFlags := 24, slot := 0, constantValue := 0 }, { name := "BIG_ENDIAN", type := .boolean, accessFlags := 26, slot := 1, constantValue := 0 }, { name := "LOG2_ARRAY_BOOLEAN_INDEX_SCALE", type := .int, accessFlags := 25, slot := 2, constantValue := 0 }, { name := "LOG2_ARRAY_BYTE_INDEX_SCALE", type := .int, accessFlags := 25, slot := 3, constantValue := 0 }, { name := "LOG2_ARRAY_CHAR_INDEX_SCALE", type := .int, accessFlags := 25, slot := 4, constantValue := 0 }, { name := "LOG2_ARRAY_SHORT_INDEX_SCALE", type := .int, accessFlags := 25, slot := 5, constantValue := 0 }, { name := "LOG2_ARRAY_INT_INDEX_SCALE", type := .int, accessFlags := 25, slot := 6, constantValue := 0 }, { name := "LOG2_ARRAY_LONG_INDEX_SCALE", type := .int, accessFlags := 25, slot := 7, constantValue := 0 }, { name := "LOG2_ARRAY_FLOAT_INDEX_SCALE", type := .int, accessFlags := 25, slot := 8, constantValue := 0 }, { name := "LOG2_ARRAY_DOUBLE_INDEX_SCALE", type := .int, accessFlags := 25, slot := 9, constantValue := 0 }, { name := "LOG2_BYTE_BIT_SIZE", type := .int, accessFlags := 26, slot := 10, constantValue := 0 }, { name := "T_BOOLEAN", type := .int, accessFlags := 25, slot := 11, constantValue := 0 }, { name := "T_CHAR", type := .int, accessFlags := 25, slot := 12, constantValue := 0 }, { name := "T_FLOAT", type := .int, accessFlags := 25, slot := 13, constantValue := 0 }, { name := "T_DOUBLE", type := .int, accessFlags := 25, slot := 14, constantValue := 0 }, { name := "T_BYTE", type := .int, accessFlags := 25, slot := 15, constantValue := 0 }, { name := "T_SHORT", type := .int, accessFlags := 25, slot := 16, constantValue := 0 }, { name := "T_INT", type := .int, accessFlags := 25, slot := 17, constantValue := 0 }, { name := "T_LONG", type := .int, accessFlags := 25, slot := 18, constantValue := 0 }, { name := "JLA", type := (.object "jdk/internal/access/JavaLangAccess"), accessFlags := 26, slot := 19, constantValue := 0 }, { name := "SOFT_MAX_ARRAY_LENGTH", type := .int, accessFlags := 25, slot := 20, constantValue := 0 }]
  methods := #[k16m0]
  instanceTypes := #[]
  staticTypes := #[(.object "jdk/internal/misc/Unsafe"), .boolean, .int, .int, .int, .int, .int, .int, .int, .int, .int, .int, .int, .int, .int, .int, .int, .int, .int, (.object "jdk/internal/access/JavaLangAccess"), .int]
  resolved := Array.replicate 378 none
  statics := none }

def pool17 : Array CpInfo := pool [(1, u "java/lang/Cloneable"), (0, .class_ 1), (0, u "java/lang/Object"), (0, .class_ 3)] 3

/-- java/lang/Cloneable -/
def k17 : Class := { plain "java/lang/Cloneable" (some 0) with
  accessFlags := 1537
  interfaces := #[]
  cf := some (fileOf pool17 2 #[] #[] 1537 4 #[] #[])
  fields := #[]
  methods := #[]
  instanceTypes := #[]
  staticTypes := #[]
  resolved := Array.replicate 8 none
  statics := none }

/-- the primitive byte -/
def k18 : Class := { plain "byte" none with kind := .primitive 'B', accessFlags := 0x411 }
/-- [B -/
def k19 : Class := { plain "[B" (some 0) with kind := .array 18 .byte, interfaces := #[17, 2], accessFlags := 1041 }

/-- the primitive char -/
def k20 : Class := { plain "char" none with kind := .primitive 'C', accessFlags := 0x411 }
/-- [C -/
def k21 : Class := { plain "[C" (some 0) with kind := .array 20 .char, interfaces := #[17, 2], accessFlags := 1041 }

/-- the primitive int -/
def k22 : Class := { plain "int" none with kind := .primitive 'I', accessFlags := 0x411 }
/-- [I -/
def k23 : Class := { plain "[I" (some 0) with kind := .array 22 .int, interfaces := #[17, 2], accessFlags := 1041 }

def heap : Heap := #[{ cls := 7, slots := #[.long 0, .int 1, .null, .int 0, .null, .int 0, .int 0], vm := .statics 7 },
  { cls := 12, slots := #[.ref 3, .ref 4, .null, .null, .null, .null, .null], vm := .statics 12 },
  { cls := 15, slots := #[.null, .null, .null], vm := .statics 15 },
  { cls := 12, slots := #[.null, .int 0, .int 0], vm := .none },
  { cls := 12, slots := #[.null, .int 0, .int 0], vm := .none }]
def classes : Array Class := #[k0, k1, k2, k3, k4, k5, k6, k7, k8, k9, k10, k11, k12, k13, k14, k15, k16, k17, k18, k19, k20, k21, k22, k23]
def interned : List (Array UInt16 × Addr) := []
def slotsUsed : Nat := 23
def theMethod : MethodId := ⟨1, 2⟩
def args0 : Array Value := #[.int 4, .int 65, .int 66]
def aboutOver (below : List Frame) : State where
  vm := { classes := classes, interned := interned.toArray }
  heap := heap
  slotsUsed := slotsUsed
  threads := #[{ frames := .invoking theMethod args0 :: below }]
def below0 : List Frame := [.native { method := ⟨0, 0⟩, args := #[] }]
def about1 : State := aboutOver below0
def p0 : Program := .bare "" "" ""
def e0 : Env := launch0.env 0 0 0
theorem w_frames : about1.frames = Frame.invoking theMethod args0 :: below0 := rfl
set_option maxRecDepth 65536 in
theorem w_args : argsFit about1.vm theMethod args0 = true := by decide +kernel
set_option maxRecDepth 65536 in
theorem w_heap : heapFits about1 = true := by decide +kernel
set_option maxRecDepth 65536 in
theorem w_runnable : about1.curStatus? = some .runnable := by decide +kernel
set_option maxRecDepth 65536 in
theorem w_alone : about1.alone = true := by decide +kernel
set_option maxRecDepth 65536 in
theorem w_named : about1.methodNamed? x = some theMethod := by decide +kernel
set_option maxRecDepth 65536 in
theorem w_hears : about1.hears theMethod below0 = true := by decide +kernel
set_option maxRecDepth 65536 in
theorem w_ripe : about1.ripe theMethod args0 below0 = true := by decide +kernel
theorem w_running : about1.status = .running := rfl
set_option maxRecDepth 65536 in
theorem w_room : about1.hasRoom e0.platform room_1 = true :=
  launch0.hasRoom_least _ room_1 (by decide +kernel) (by decide +kernel) (by decide +kernel) (by decide +kernel) (by decide +kernel) (by decide +kernel)
theorem allAtoms_all (ts : List Jvm.Cond) (a : Array Jvm.Value) (st : Jvm.State) : (allAtoms ts).before a st = ts.all (fun c => c.before a st) := by
  induction ts with
  | nil => rfl
  | cons c t ih =>
    show (Jvm.Cond.and c (allAtoms t)).before a st = _
    rw [Jvm.Cond.before_and, ih, List.all_cons]
def words1 : List Jvm.Cond := Jvm.Cond.code x code maxLocals ret :: tables_1
/-- a 'code' word, met by the world's own term for the bytes: nothing is compared byte by byte -/
theorem code_word {y : MethodName} {bytes : ByteArray} {mx : Nat} {rt : Option FieldType} {a : Array Value} {s : State} {m : MethodId} {meth : Method} {c : Code} (h1 : s.methodNamed? y = some m) (h2 : s.vm.method? m = some meth) (h3 : meth.code = some c) (h4 : c.code = bytes)
    (h5 : (c.maxLocals == mx && c.exceptionTable.isEmpty && decide (c.maxStack ≤ mostOperands) && decide (meth.sig.returnType = rt) && !meth.locks && decide (parseMethodDescriptor y.desc = some meth.sig)) = true) : (Jvm.Cond.code y bytes mx rt).before a s = true := by
  simp only [Bool.and_eq_true, beq_iff_eq, Bool.not_eq_true', decide_eq_true_eq] at h5
  obtain ⟨⟨⟨⟨⟨g1, g2⟩, g3⟩, g4⟩, g5⟩, g6⟩ := h5
  simp [Cond.before, Cond.holds, Cond.value, h1, h2, h3, h4, g1, g2, g3, g4, g5, g6]
def isCode : Jvm.Cond → Bool
  | .code _ _ _ _ => true
  | _ => false
theorem all_split {L : List Jvm.Cond} {P : Jvm.Cond → Bool} (h1 : L.all (fun c => isCode c || P c) = true) (h2 : ∀ c ∈ L.filter isCode, P c = true) : L.all P = true := by
  refine List.all_eq_true.mpr fun c hc => ?_
  have h := List.all_eq_true.mp h1 c hc
  rcases Bool.eq_false_or_eq_true (isCode c) with hi | hi
  · exact h2 c (List.mem_filter.mpr ⟨hc, hi⟩)
  · simpa [hi] using h
set_option maxRecDepth 65536 in
theorem w_c0 : (Jvm.Cond.code x code maxLocals ret).before args0 about1 = true := code_word (m := ⟨1, 2⟩) (meth := k1m2) (c := k1c2) (by decide +kernel) rfl rfl rfl (by decide +kernel)
set_option maxRecDepth 65536 in
theorem w_c1 : (Jvm.Cond.code ({ cls := "com/example/lean_grant/leangrant/check/AccessRequestCallerOfPinLaw", name := "drawn", desc := "(I)Ljava/lang/String;" } : Jvm.MethodName) method_2_code (2 : Nat) (Option.some (Jvm.ClassFile.FieldType.object "java/lang/String"))).before args0 about1 = true := code_word (m := ⟨1, 1⟩) (meth := k1m1) (c := k1c1) (by decide +kernel) rfl rfl rfl (by decide +kernel)
set_option maxRecDepth 65536 in
theorem w_c2 : (Jvm.Cond.code ({ cls := "java/lang/String", name := "<init>", desc := "([C)V" } : Jvm.MethodName) jdk_42_method_3_code (2 : Nat) (Option.none : Option Jvm.ClassFile.FieldType)).before args0 about1 = true := code_word (m := ⟨7, 1⟩) (meth := k7m1) (c := k7c1) (by decide +kernel) rfl rfl rfl (by decide +kernel)
set_option maxRecDepth 65536 in
theorem w_c3 : (Jvm.Cond.code ({ cls := "java/lang/String", name := "<init>", desc := "([CIILjava/lang/Void;)V" } : Jvm.MethodName) jdk_42_method_149_code (6 : Nat) (Option.none : Option Jvm.ClassFile.FieldType)).before args0 about1 = true := code_word (m := ⟨7, 4⟩) (meth := k7m4) (c := k7c4) (by decide +kernel) rfl rfl rfl (by decide +kernel)
set_option maxRecDepth 65536 in
theorem w_c4 : (Jvm.Cond.code ({ cls := "java/lang/Object", name := "<init>", desc := "()V" } : Jvm.MethodName) object_method_1_code (1 : Nat) (Option.none : Option Jvm.ClassFile.FieldType)).before args0 about1 = true := code_word (m := ⟨0, 0⟩) (meth := k0m0) (c := k0c0) (by decide +kernel) rfl rfl rfl (by decide +kernel)
set_option maxRecDepth 65536 in
theorem w_c5 : (Jvm.Cond.code ({ cls := "java/lang/StringUTF16", name := "compress", desc := "([CII)[B" } : Jvm.MethodName) jdk_52_method_16_code (6 : Nat) (Option.some (Jvm.ClassFile.FieldType.array Jvm.ClassFile.FieldType.byte))).before args0 about1 = true := code_word (m := ⟨8, 2⟩) (meth := k8m2) (c := k8c2) (by decide +kernel) rfl rfl rfl (by decide +kernel)
set_option maxRecDepth 65536 in
theorem w_c6 : (Jvm.Cond.code ({ cls := "java/lang/StringUTF16", name := "compress", desc := "([CI[BII)I" } : Jvm.MethodName) jdk_52_method_21_code (7 : Nat) (Option.some Jvm.ClassFile.FieldType.int)).before args0 about1 = true := code_word (m := ⟨8, 3⟩) (meth := k8m3) (c := k8c3) (by decide +kernel) rfl rfl rfl (by decide +kernel)
set_option maxRecDepth 65536 in
theorem w_c7 : (Jvm.Cond.code ({ cls := "java/lang/StringUTF16", name := "coderFromArrayLen", desc := "([BI)B" } : Jvm.MethodName) jdk_52_method_15_code (2 : Nat) (Option.some Jvm.ClassFile.FieldType.byte)).before args0 about1 = true := code_word (m := ⟨8, 1⟩) (meth := k8m1) (c := k8c1) (by decide +kernel) rfl rfl rfl (by decide +kernel)
set_option maxRecDepth 65536 in
theorem w_c8 : (Jvm.Cond.code ({ cls := "com/example/lean_grant/leangrant/check/AccessRequest", name := "callerOf", desc := "(Ljava/lang/String;Ljava/lang/String;)Lcom/example/lean_grant/leangrant/grantset/Owner;" } : Jvm.MethodName) prog_2_method_4_code (3 : Nat) (Option.some (Jvm.ClassFile.FieldType.object "com/example/lean_grant/leangrant/grantset/Owner"))).before args0 about1 = true := code_word (m := ⟨9, 0⟩) (meth := k9m0) (c := k9c0) (by decide +kernel) rfl rfl rfl (by decide +kernel)
set_option maxRecDepth 65536 in
theorem w_c9 : (Jvm.Cond.code ({ cls := "com/example/lean_grant/leangrant/grantset/Owner", name := "<init>", desc := "(Lcom/example/lean_grant/leangrant/grantset/OwnerType;Ljava/lang/String;)V" } : Jvm.MethodName) prog_20_method_1_code (3 : Nat) (Option.none : Option Jvm.ClassFile.FieldType)).before args0 about1 = true := code_word (m := ⟨10, 0⟩) (meth := k10m0) (c := k10c0) (by decide +kernel) rfl rfl rfl (by decide +kernel)
set_option maxRecDepth 65536 in
theorem w_c10 : (Jvm.Cond.code ({ cls := "java/util/Objects", name := "requireNonNull", desc := "(Ljava/lang/Object;Ljava/lang/String;)Ljava/lang/Object;" } : Jvm.MethodName) jdk_31_method_11_code (2 : Nat) (Option.some (Jvm.ClassFile.FieldType.object "java/lang/Object"))).before args0 about1 = true := code_word (m := ⟨13, 1⟩) (meth := k13m1) (c := k13c1) (by decide +kernel) rfl rfl rfl (by decide +kernel)
set_option maxRecDepth 65536 in
theorem w_c11 : (Jvm.Cond.code ({ cls := "com/example/lean_grant/leangrant/grantset/Owner", name := "getType", desc := "()Lcom/example/lean_grant/leangrant/grantset/OwnerType;" } : Jvm.MethodName) prog_20_method_2_code (1 : Nat) (Option.some (Jvm.ClassFile.FieldType.object "com/example/lean_grant/leangrant/grantset/OwnerType"))).before args0 about1 = true := code_word (m := ⟨10, 1⟩) (meth := k10m1) (c := k10c1) (by decide +kernel) rfl rfl rfl (by decide +kernel)
set_option maxRecDepth 65536 in
theorem w_c12 : (Jvm.Cond.code ({ cls := "com/example/lean_grant/leangrant/grantset/Owner", name := "getId", desc := "()Ljava/lang/String;" } : Jvm.MethodName) prog_20_method_3_code (1 : Nat) (Option.some (Jvm.ClassFile.FieldType.object "java/lang/String"))).before args0 about1 = true := code_word (m := ⟨10, 2⟩) (meth := k10m2) (c := k10c2) (by decide +kernel) rfl rfl rfl (by decide +kernel)
set_option maxRecDepth 65536 in
theorem w_c13 : (Jvm.Cond.code ({ cls := "java/lang/String", name := "equals", desc := "(Ljava/lang/Object;)Z" } : Jvm.MethodName) jdk_42_method_66_code (3 : Nat) (Option.some Jvm.ClassFile.FieldType.boolean)).before args0 about1 = true := code_word (m := ⟨7, 2⟩) (meth := k7m2) (c := k7c2) (by decide +kernel) rfl rfl rfl (by decide +kernel)
set_option maxRecDepth 65536 in
theorem w_c14 : (Jvm.Cond.code ({ cls := "java/lang/String", name := "valueOf", desc := "(C)Ljava/lang/String;" } : Jvm.MethodName) jdk_42_method_139_code (1 : Nat) (Option.some (Jvm.ClassFile.FieldType.object "java/lang/String"))).before args0 about1 = true := code_word (m := ⟨7, 3⟩) (meth := k7m3) (c := k7c3) (by decide +kernel) rfl rfl rfl (by decide +kernel)
set_option maxRecDepth 65536 in
theorem w_c15 : (Jvm.Cond.code ({ cls := "java/lang/StringLatin1", name := "canEncode", desc := "(C)Z" } : Jvm.MethodName) jdk_43_method_3_code (1 : Nat) (Option.some Jvm.ClassFile.FieldType.boolean)).before args0 about1 = true := code_word (m := ⟨14, 1⟩) (meth := k14m1) (c := k14c1) (by decide +kernel) rfl rfl rfl (by decide +kernel)
set_option maxRecDepth 65536 in
theorem w_c16 : (Jvm.Cond.code ({ cls := "java/lang/StringLatin1", name := "toBytes", desc := "(C)[B" } : Jvm.MethodName) jdk_43_method_46_code (1 : Nat) (Option.some (Jvm.ClassFile.FieldType.array Jvm.ClassFile.FieldType.byte))).before args0 about1 = true := code_word (m := ⟨14, 2⟩) (meth := k14m2) (c := k14c2) (by decide +kernel) rfl rfl rfl (by decide +kernel)
set_option maxRecDepth 65536 in
theorem w_c17 : (Jvm.Cond.code ({ cls := "java/lang/String", name := "<init>", desc := "([BB)V" } : Jvm.MethodName) jdk_42_method_151_code (3 : Nat) (Option.none : Option Jvm.ClassFile.FieldType)).before args0 about1 = true := code_word (m := ⟨7, 5⟩) (meth := k7m5) (c := k7c5) (by decide +kernel) rfl rfl rfl (by decide +kernel)
def codes1 : List Jvm.Cond := [Jvm.Cond.code x code maxLocals ret, Jvm.Cond.code ({ cls := "com/example/lean_grant/leangrant/check/AccessRequestCallerOfPinLaw", name := "drawn", desc := "(I)Ljava/lang/String;" } : Jvm.MethodName) method_2_code (2 : Nat) (Option.some (Jvm.ClassFile.FieldType.object "java/lang/String")), Jvm.Cond.code ({ cls := "java/lang/String", name := "<init>", desc := "([C)V" } : Jvm.MethodName) jdk_42_method_3_code (2 : Nat) (Option.none : Option Jvm.ClassFile.FieldType), Jvm.Cond.code ({ cls := "java/lang/String", name := "<init>", desc := "([CIILjava/lang/Void;)V" } : Jvm.MethodName) jdk_42_method_149_code (6 : Nat) (Option.none : Option Jvm.ClassFile.FieldType), Jvm.Cond.code ({ cls := "java/lang/Object", name := "<init>", desc := "()V" } : Jvm.MethodName) object_method_1_code (1 : Nat) (Option.none : Option Jvm.ClassFile.FieldType), Jvm.Cond.code ({ cls := "java/lang/StringUTF16", name := "compress", desc := "([CII)[B" } : Jvm.MethodName) jdk_52_method_16_code (6 : Nat) (Option.some (Jvm.ClassFile.FieldType.array Jvm.ClassFile.FieldType.byte)), Jvm.Cond.code ({ cls := "java/lang/StringUTF16", name := "compress", desc := "([CI[BII)I" } : Jvm.MethodName) jdk_52_method_21_code (7 : Nat) (Option.some Jvm.ClassFile.FieldType.int), Jvm.Cond.code ({ cls := "java/lang/StringUTF16", name := "coderFromArrayLen", desc := "([BI)B" } : Jvm.MethodName) jdk_52_method_15_code (2 : Nat) (Option.some Jvm.ClassFile.FieldType.byte), Jvm.Cond.code ({ cls := "com/example/lean_grant/leangrant/check/AccessRequest", name := "callerOf", desc := "(Ljava/lang/String;Ljava/lang/String;)Lcom/example/lean_grant/leangrant/grantset/Owner;" } : Jvm.MethodName) prog_2_method_4_code (3 : Nat) (Option.some (Jvm.ClassFile.FieldType.object "com/example/lean_grant/leangrant/grantset/Owner")), Jvm.Cond.code ({ cls := "com/example/lean_grant/leangrant/grantset/Owner", name := "<init>", desc := "(Lcom/example/lean_grant/leangrant/grantset/OwnerType;Ljava/lang/String;)V" } : Jvm.MethodName) prog_20_method_1_code (3 : Nat) (Option.none : Option Jvm.ClassFile.FieldType), Jvm.Cond.code ({ cls := "java/util/Objects", name := "requireNonNull", desc := "(Ljava/lang/Object;Ljava/lang/String;)Ljava/lang/Object;" } : Jvm.MethodName) jdk_31_method_11_code (2 : Nat) (Option.some (Jvm.ClassFile.FieldType.object "java/lang/Object")), Jvm.Cond.code ({ cls := "com/example/lean_grant/leangrant/grantset/Owner", name := "getType", desc := "()Lcom/example/lean_grant/leangrant/grantset/OwnerType;" } : Jvm.MethodName) prog_20_method_2_code (1 : Nat) (Option.some (Jvm.ClassFile.FieldType.object "com/example/lean_grant/leangrant/grantset/OwnerType")), Jvm.Cond.code ({ cls := "com/example/lean_grant/leangrant/grantset/Owner", name := "getId", desc := "()Ljava/lang/String;" } : Jvm.MethodName) prog_20_method_3_code (1 : Nat) (Option.some (Jvm.ClassFile.FieldType.object "java/lang/String")), Jvm.Cond.code ({ cls := "java/lang/String", name := "equals", desc := "(Ljava/lang/Object;)Z" } : Jvm.MethodName) jdk_42_method_66_code (3 : Nat) (Option.some Jvm.ClassFile.FieldType.boolean), Jvm.Cond.code ({ cls := "java/lang/String", name := "valueOf", desc := "(C)Ljava/lang/String;" } : Jvm.MethodName) jdk_42_method_139_code (1 : Nat) (Option.some (Jvm.ClassFile.FieldType.object "java/lang/String")), Jvm.Cond.code ({ cls := "java/lang/StringLatin1", name := "canEncode", desc := "(C)Z" } : Jvm.MethodName) jdk_43_method_3_code (1 : Nat) (Option.some Jvm.ClassFile.FieldType.boolean), Jvm.Cond.code ({ cls := "java/lang/StringLatin1", name := "toBytes", desc := "(C)[B" } : Jvm.MethodName) jdk_43_method_46_code (1 : Nat) (Option.some (Jvm.ClassFile.FieldType.array Jvm.ClassFile.FieldType.byte)), Jvm.Cond.code ({ cls := "java/lang/String", name := "<init>", desc := "([BB)V" } : Jvm.MethodName) jdk_42_method_151_code (3 : Nat) (Option.none : Option Jvm.ClassFile.FieldType)]
set_option maxRecDepth 65536 in
theorem codes_eq : words1.filter isCode = codes1 := rfl
theorem w_codes : ∀ c ∈ words1.filter isCode, c.before args0 about1 = true := by
  rw [codes_eq]
  intro c hc
  simp only [codes1, List.mem_cons, List.not_mem_nil, or_false] at hc
  rcases hc with rfl | rfl | rfl | rfl | rfl | rfl | rfl | rfl | rfl | rfl | rfl | rfl | rfl | rfl | rfl | rfl | rfl | rfl
  · exact w_c0
  · exact w_c1
  · exact w_c2
  · exact w_c3
  · exact w_c4
  · exact w_c5
  · exact w_c6
  · exact w_c7
  · exact w_c8
  · exact w_c9
  · exact w_c10
  · exact w_c11
  · exact w_c12
  · exact w_c13
  · exact w_c14
  · exact w_c15
  · exact w_c16
  · exact w_c17
set_option maxRecDepth 65536 in
theorem w_t1 : (words1.take 24).all (fun c => isCode c || c.before args0 about1) = true := by decide +kernel
set_option maxRecDepth 65536 in
theorem w_t2 : ((words1.drop 24).take 24).all (fun c => isCode c || c.before args0 about1) = true := by decide +kernel
set_option maxRecDepth 65536 in
theorem w_t3 : (((words1.drop 24).drop 24).take 24).all (fun c => isCode c || c.before args0 about1) = true := by decide +kernel
set_option maxRecDepth 65536 in
theorem w_t4 : ((((words1.drop 24).drop 24).drop 24).take 24).all (fun c => isCode c || c.before args0 about1) = true := by decide +kernel
set_option maxRecDepth 65536 in
theorem w_t5 : ((((words1.drop 24).drop 24).drop 24).drop 24).all (fun c => isCode c || c.before args0 about1) = true := by decide +kernel
theorem w_tables : (allAtoms (Jvm.Cond.code x code maxLocals ret :: tables_1)).before args0 about1 = true := by
  rw [allAtoms_all]
  show words1.all (fun c => c.before args0 about1) = true
  refine all_split ?_ w_codes
  rw [← List.take_append_drop 24 words1, List.all_append, w_t1, ← List.take_append_drop 24 (words1.drop 24), List.all_append, w_t2, ← List.take_append_drop 24 ((words1.drop 24).drop 24), List.all_append, w_t3, ← List.take_append_drop 24 (((words1.drop 24).drop 24).drop 24), List.all_append, w_t4, w_t5]
  rfl
set_option maxRecDepth 65536 in
theorem w_rest : rest_1_c.before args0 about1 = true := by decide +kernel
set_option maxRecDepth 65536 in
theorem w_case : (Jvm.Cond.and given_1 narrow_1).before args0 about1 = true := by decide +kernel
theorem w_applies : (headSpec (Jvm.Cond.code x code maxLocals ret :: tables_1) room_1).applies x e0.platform about1 = true :=
  (Spec.applies_iff w_frames).mpr ⟨w_running, w_runnable, w_alone, w_named, w_hears, w_ripe, w_room, w_tables⟩
theorem atStart : AtStart classFile x code maxLocals ret World_1 tables_1 room_1 Calls_1 rest_1 Pre_1 launch0 p0 e0 about1 theMethod args0 below0 :=
  ⟨lists_1, trivial, launch0.admits_env _ _ _, launch0.least_env, fairChoices_fair.cas, fairChoices_fair.clock, w_frames, w_args, w_heap, w_applies, trivial, w_rest, w_case⟩
end start1
theorem witness_1 : WitnessClaimed_1 := ⟨start1.p0, start1.e0, start1.about1, start1.theMethod, start1.args0, start1.below0, start1.atStart⟩
end Jvm.Pilot.@@N@@
