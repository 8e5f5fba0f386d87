import JvmDerived
import JvmDerived.Pilot.@@N@@Statement
import JvmDerived.Pilot.@@N@@Code
set_option linter.unusedVariables false
set_option linter.unusedSimpArgs false
namespace Jvm.Pilot.@@N@@
open Jvm Jvm.ClassFile Sem Op Lib Jvm.Free Jvm.Stand Jvm.LawKit Jvm.RoadKit Bundle Jvm.Pilot.@@N@@.Jvm.D
/-! own_: A WALK AS A CHAIN OF 'Go': from T, with the frame g on top, the run comes to a state of which P holds. A fork (by_cases, rcases) may stand anywhere in the chain. -/
def Go (p : Program) (e : Env) (below : List Frame) (P : State → Prop) (T : State) (g : JFrame) : Prop := ∃ t, Steps p.tables e below (T.setTop g) t ∧ P t
/-- what a body owes at its end -/
def EndP (below : List Frame) (s : State) (Q : Option Value → Heap → List Loc → Prop) (ce sl : Nat) (t : State) : Prop := ∃ o, t.status = .running ∧ Ended t below o ∧ ∃ v L, o = .returned v ∧ Q v t.heap L ∧ FrameEnd s o t L ce sl
/-- a method's contract: called with as' on the heap h0 it returns, and Q holds of what it returns, the heap that it leaves and the places that it wrote -/
abbrev Does (l : Launch) (y : MethodName) (bytes : ByteArray) (maxL : Nat) (rt : Option FieldType) (ws : List Jvm.Cond) (rm : Room) (as' : Array Value) (Z : State) (h0 : Heap) (Q : Option Value → Heap → List Loc → Prop) : Prop :=
  MetFree l y (head1 (Jvm.Cond.code y bytes maxL rt :: ws) rm) (fun a U => a = as' ∧ Z.Warmed39 U.vm ∧ U.heap = h0) (fun _ _ _ _ _ => True) (fun _ U o U' => ∃ v L, o = .returned v ∧ Q v U'.heap L ∧ FrameEnd U o U' L rm.cells rm.slots)
section Own
variable {p : Program} {l : Launch} {e : Env} {R : Room} {s : State} {m : MethodId} {args : Array Value} {below : List Frame} {meth : Method} {c : Code} {T T' : State} {locs : List Loc} {cells slots : Nat} {P : State → Prop} {g g' : JFrame} {Z : State} {h h0 : Heap} {a0 as' : Array Value} {own : String} {index : Nat} {y z : MethodName} {bytes : ByteArray} {maxL : Nat} {rt : Option FieldType} {rm : Room} {ws : List Jvm.Cond} {Q : Option Value → Heap → List Loc → Prop} {ce sl W : Nat} {argsL rest : List Value}
theorem Go.st (hh : Go p e below P T' g') (st : ∀ t, Steps p.tables e below (T'.setTop g') t → Steps p.tables e below (T.setTop g) t) : Go p e below P T g := by
  obtain ⟨t, h1, h2⟩ := hh
  exact ⟨t, st t h1, h2⟩
theorem Go.cast (q : g = g') (hh : Go p e below P T g') : Go p e below P T g := q ▸ hh
theorem Go.ret {v : Option Value} (X : Stand p l e R s m args below meth c T locs cells slots) (hv : meth.sig.returnType = none → v = none) (hlocks : meth.locks = false) (hc : cells ≤ ce) (hs : slots ≤ sl) (hq : Q v T.heap locs)
    (st : ∀ fs, (∀ (f : JFrame) (acts : List Action), f.method = m → f.locked = none → f.entered = [] → (doReturn e (T.setTop f) acts v).1 = T.setFrames fs) → Steps p.tables e below (T.setTop g) (T.setFrames fs)) : Go p e below (EndP below s Q ce sl) T g := by
  obtain ⟨fs, hr, hrun, hended, hW, hsame⟩ := X.leave (v := v) hv hlocks
  exact ⟨_, st fs hr, _, hrun, hended, _, _, rfl, hq, ⟨_, rfl⟩, hW, hsame.mono hc hs⟩
/-- a value is returned -/
theorem Go.retV {w : Value} {t : FieldType} {i : Instr} {pc : Nat} {Ls : Array Slot} (X : Stand p l e R s m args below meth c T locs cells slots) (hx : p.tables.exec = Jvm.exec) (hret : meth.sig.returnType = some t) (hlocks : meth.locks = false) (hc : cells ≤ ce) (hs : slots ≤ sl) (hn : narrow t w = w)
    (hi : (i = .ireturn ∧ (t = .int ∨ t = .boolean ∨ t = .byte ∨ t = .char ∨ t = .short) ∧ ∃ z, w = .int z) ∨ (i = .lreturn ∧ t = .long ∧ ∃ z, w = .long z) ∨ (i = .dreturn ∧ t = .double ∧ ∃ z, w = .double z) ∨ (i = .freturn ∧ t = .float ∧ ∃ z, w = .float z) ∨ (i = .areturn ∧ t.isReference = true ∧ w.isRef = true))
    (hd : decode c.code pc = .ok (i, 1)) (hq : Q (some w) T.heap locs) : Go p e below (EndP below s Q ce sl) T (mkF m pc Ls (w :: rest)) :=
  Go.ret X (fun q => by rw [hret] at q; cases q) hlocks hc hs hq fun _ hr => retOut X hx hret hn hi hd hr
/-- nothing is returned -/
theorem Go.retU {pc : Nat} {Ls : Array Slot} (X : Stand p l e R s m args below meth c T locs cells slots) (hx : p.tables.exec = Jvm.exec) (hret : meth.sig.returnType = none) (hlocks : meth.locks = false) (hc : cells ≤ ce) (hs : slots ≤ sl)
    (hd : decode c.code pc = .ok (.return_, 1)) (hq : Q none T.heap locs) : Go p e below (EndP below s Q ce sl) T (mkF m pc Ls []) :=
  Go.ret X (fun _ => rfl) hlocks hc hs hq fun _ hr => X.returnOut hx hret hd hr
/-- a body that goes well has its contract -/
theorem Does.of (hp : plainFor y = true) (body : ∀ (p : Program) (e : Env) (s : State) (m : MethodId) (below : List Frame) (meth : Method) (c : Code) (s₁ : State), p.tables.exec = Jvm.exec → c.code = bytes → c.maxLocals = maxL → meth.sig.returnType = rt → meth.locks = false → s.vm.findClass y.cls = some m.cls → meth.name = y.name → Z.Warmed39 s.vm →
      Stand p l e rm s m as' below meth c s₁ [] 0 0 → s₁.heap = h0 → Go p e below (EndP below s Q rm.cells rm.slots) s₁ (entryFrame m as' maxL)) : Does l y bytes maxL rt ws rm as' Z h0 Q := by
  refine MetFree.of_bodySF hp hisR ?_
  intro p e s m args below meth c s₁ Bd hml0 hP hK
  obtain ⟨rfl, hZ, hh⟩ := hP
  obtain ⟨t, h1, o, h2, h3, h4⟩ := body p e s m below meth c s₁ Bd.exec Bd.bytes hml0 Bd.returns Bd.notSynchronized (findClass_of_methodNamed Bd.named) (name_of_methodNamed Bd.named Bd.method).1 hZ (Stand.of_body Bd) (by rw [← hh, Bd.state]; rfl)
  exact ⟨t, o, h1, h2, h3, h4⟩
/-- a static call by the callee's contract -/
theorem Go.callS (X : Stand p l e R s m args below meth c T locs cells slots) (hx : p.tables.exec = Jvm.exec) (hZ : Z.Warmed39 s.vm) (hown : s.vm.findClass own = some m.cls) (w1 : (Jvm.Cond.methodLink own index y).before a0 Z = true) (w2 : (Jvm.Cond.static y).before a0 Z = true) (w3 : (Jvm.Cond.initialized y.cls).before a0 Z = true) (w4 : (Jvm.Cond.code y bytes maxL rt).before a0 Z = true)
    (hy : y.cls ≠ "java/lang/invoke/MethodHandle" ∧ y.cls ≠ "java/lang/invoke/VarHandle") (D : Does l y bytes maxL rt [] rm argsL.toArray Z h Q) (eT : T.heap = h) (hf : rm.frames + 1 ≤ R.frames) (hl : W + (maxL + 11) + rm.locals ≤ R.locals) (hc : cells + rm.cells ≤ R.cells) (hs : slots + rm.slots ≤ R.slots)
    (hg : g.method = m) (hsize : g.locals.size = c.maxLocals) (hlen : ∀ sig, parseMethodDescriptor y.desc = some sig → argsL.length = sig.parameters.length) (hstack : g.stack = argsL.reverse ++ rest) (hW : 2 * g.monitorRoom + (rest.map fun v => v.category).sum ≤ W) (hdg : decode c.code g.pc = .ok (.invokestatic index, 3))
    (k : ∀ (v : Option Value) (T' : State) (L : List Loc), Stand p l e R s m args below meth c T' (locs ++ L) (cells + rm.cells) (slots + rm.slots) → Q v T'.heap L → Go p e below P T' { g with pc := g.pc + 3, stack := v.toList ++ rest }) : Go p e below P T g := by
  obtain ⟨v, _, ⟨T1, L1, k1, n1⟩, -, X1, ⟨Lc, hQ, l1, y1, z1⟩, st⟩ := Jvm.LawKit.callS X hx (y := y) hown (mvT hZ w1) (mvT hZ w2) (mvT hZ w3) (mvT hZ w4) hy (backOf (W := W) D hZ w4 w3 hf hl) (g := g) hg hsize (argsL := argsL) (rest := rest) hlen hstack hW hdg (fun _ _ => ⟨rfl, eT, hc, hs⟩)
  dsimp only [Pt.U, Pt.locs, Pt.cells, Pt.slots] at X1 l1 y1 z1 st hQ
  subst l1 y1 z1
  exact Go.st (k v T1 Lc X1 hQ) st
/-- a virtual call by the contract of the method that it selects -/
theorem Go.callV {C : String} {a : Addr} (X : Stand p l e R s m args below meth c T locs cells slots) (hx : p.tables.exec = Jvm.exec) (hZ : Z.Warmed39 s.vm) (hown : s.vm.findClass own = some m.cls) (w1 : (Jvm.Cond.methodLink own index y).before a0 Z = true) (w2 : (Jvm.Cond.declares y).before a0 Z = true) (w5 : (Jvm.Cond.selects C y y).before a0 Z = true) (w6 : (Jvm.Cond.instanceMethod y).before a0 Z = true) (w3 : (Jvm.Cond.initialized y.cls).before a0 Z = true) (w4 : (Jvm.Cond.code y bytes maxL rt).before a0 Z = true)
    (hy : y.cls ≠ "java/lang/invoke/MethodHandle" ∧ y.cls ≠ "java/lang/invoke/VarHandle") (A : Exa Z h a C) (D : Does l y bytes maxL rt [] rm (.ref a :: argsL).toArray Z h Q) (eT : T.heap = h) (hf : rm.frames + 1 ≤ R.frames) (hl : W + (maxL + 11) + rm.locals ≤ R.locals) (hc : cells + rm.cells ≤ R.cells) (hs : slots + rm.slots ≤ R.slots)
    (hg : g.method = m) (hsize : g.locals.size = c.maxLocals) (hlen : ∀ sig, parseMethodDescriptor y.desc = some sig → argsL.length = sig.parameters.length) (hstack : g.stack = argsL.reverse ++ .ref a :: rest) (hW : 2 * g.monitorRoom + (rest.map fun v => v.category).sum ≤ W) (hdg : decode c.code g.pc = .ok (.invokevirtual index, 3))
    (k : ∀ (v : Option Value) (T' : State) (L : List Loc), Stand p l e R s m args below meth c T' (locs ++ L) (cells + rm.cells) (slots + rm.slots) → Q v T'.heap L → Go p e below P T' { g with pc := g.pc + 3, stack := v.toList ++ rest }) : Go p e below P T g := by
  obtain ⟨cq, kq, qa, qb, qc⟩ := isOf hZ eT A
  obtain ⟨v, _, ⟨T1, L1, k1, n1⟩, -, X1, ⟨Lc, hQ, l1, y1, z1⟩, st⟩ := X.virtualBack hx (y := y) (z := y) hown (mvT hZ w1) (mvT hZ w2) (notFace_of_selects (args := #[]) (mvT hZ w5)) (mvT hZ w5) (mvT hZ w6) hy (backOf (W := W) D hZ w4 w3 hf hl) qa qc (g := g) hg hsize (Steps.refl _) (argsL := argsL) (rest := rest) hlen hstack hW hdg (fun _ _ => ⟨rfl, eT, hc, hs⟩)
  dsimp only [Pt.U, Pt.locs, Pt.cells, Pt.slots] at X1 l1 y1 z1 st hQ
  subst l1 y1 z1
  exact Go.st (k v T1 Lc X1 hQ) fun _ q => st.trans q
/-- a constructor by its contract -/
theorem Go.callI {a : Addr} (X : Stand p l e R s m args below meth c T locs cells slots) (hx : p.tables.exec = Jvm.exec) (hZ : Z.Warmed39 s.vm) (hown : s.vm.findClass own = some m.cls) (hin : y.name = "<init>") (w1 : (Jvm.Cond.methodLink own index y).before a0 Z = true) (w6 : (Jvm.Cond.instanceMethod y).before a0 Z = true) (w3 : (Jvm.Cond.initialized y.cls).before a0 Z = true) (w4 : (Jvm.Cond.code y bytes maxL none).before a0 Z = true)
    (hy : y.cls ≠ "java/lang/invoke/MethodHandle" ∧ y.cls ≠ "java/lang/invoke/VarHandle") (D : Does l y bytes maxL none [] rm (.ref a :: argsL).toArray Z h Q) (eT : T.heap = h) (hf : rm.frames + 1 ≤ R.frames) (hl : W + (maxL + 11) + rm.locals ≤ R.locals) (hc : cells + rm.cells ≤ R.cells) (hs : slots + rm.slots ≤ R.slots)
    (hg : g.method = m) (hsize : g.locals.size = c.maxLocals) (hlen : ∀ sig, parseMethodDescriptor y.desc = some sig → argsL.length = sig.parameters.length) (hstack : g.stack = argsL.reverse ++ .ref a :: rest) (hW : 2 * g.monitorRoom + (rest.map fun v => v.category).sum ≤ W) (hdg : decode c.code g.pc = .ok (.invokespecial index, 3))
    (k : ∀ (v : Option Value) (T' : State) (L : List Loc), Stand p l e R s m args below meth c T' (locs ++ L) (cells + rm.cells) (slots + rm.slots) → Q v T'.heap L → Go p e below P T' { g with pc := g.pc + 3, stack := v.toList ++ rest }) : Go p e below P T g := by
  obtain ⟨v, _, ⟨T1, L1, k1, n1⟩, -, X1, ⟨Lc, hQ, l1, y1, z1⟩, st⟩ := X.specialBack hx (y := y) hin hown (mvT hZ w1) (mvT hZ w6) (mvT hZ w4) hy (backOf (W := W) D hZ w4 w3 hf hl) (g := g) hg hsize (Steps.refl _) (a := a) (argsL := argsL) (rest := rest) hlen hstack hW hdg (fun _ _ => ⟨rfl, eT, hc, hs⟩)
  dsimp only [Pt.U, Pt.locs, Pt.cells, Pt.slots] at X1 l1 y1 z1 st hQ
  subst l1 y1 z1
  exact Go.st (k v T1 Lc X1 hQ) fun _ q => st.trans q
end Own
theorem own_i_eq {x y : Int32} {a b : Int} (hx : x.toInt = a) (hy : y.toInt = b) (q : a = b) : x = y := Int32.toInt_inj.mp (by rw [hx, hy, q])
theorem own_i_neq {x y : Int32} {a b : Int} (hx : x.toInt = a) (hy : y.toInt = b) (q : ¬ a = b) : ¬ x = y := fun r => q (by rw [← hx, ← hy, r])
theorem own_i_lt {x y : Int32} {a b : Int} (hx : x.toInt = a) (hy : y.toInt = b) (q : a < b) : x < y := by rw [Int32.lt_iff_toInt_lt, hx, hy]; exact q
theorem own_i_nlt {x y : Int32} {a b : Int} (hx : x.toInt = a) (hy : y.toInt = b) (q : ¬ a < b) : ¬ x < y := by rw [Int32.lt_iff_toInt_lt, hx, hy]; exact q
theorem own_l_eq {x y : Int64} {a b : Int} (hx : x.toInt = a) (hy : y.toInt = b) (q : a = b) : x = y := Int64.toInt_inj.mp (by rw [hx, hy, q])
theorem own_l_neq {x y : Int64} {a b : Int} (hx : x.toInt = a) (hy : y.toInt = b) (q : ¬ a = b) : ¬ x = y := fun r => q (by rw [← hx, ← hy, r])
theorem own_l_lt {x y : Int64} {a b : Int} (hx : x.toInt = a) (hy : y.toInt = b) (q : a < b) : x < y := by rw [Int64.lt_iff_toInt_lt, hx, hy]; exact q
theorem own_l_nlt {x y : Int64} {a b : Int} (hx : x.toInt = a) (hy : y.toInt = b) (q : ¬ a < b) : ¬ x < y := by rw [Int64.lt_iff_toInt_lt, hx, hy]; exact q
/-- a number in a field, out of the case's words -/
theorem own_fldInt {args : Array Value} {s : State} {t : Term} {a : Addr} {C n d : String} {k : Int32} (ht : t.eval args s none [] s = some (.ref a)) (hh : (Jvm.Cond.eq (.field t C n d) (.int k)).value args s none s [] = some true) : Fld s s.heap a C n d (.int k) := by
  refine Fld.start ?_
  simp only [Jvm.Cond.value, fld_at ht, Term.int_eval] at hh
  cases hf : s.fieldOf? a C n d with
  | none => simp [hf] at hh
  | some v => cases v <;> simp_all
/-- what the case says of the constants -/
def own_F (Z : State) (h : Heap) (w_METADATA w_OFFSET_COMMIT w_DESCRIBE_GROUPS w_SYNC_GROUP w_API_VERSIONS w_DELETE_GROUPS w_FIND_COORDINATOR w_OFFSET_DELETE w_JOIN_GROUP w_HEARTBEAT w_OFFSET_FETCH w_LEAVE_GROUP w_LIST_GROUPS : Addr) : Prop := Sta Z h "com/example/groupkeeper/groupkeeper/wire/ApiKey" "METADATA" "Lcom/example/groupkeeper/groupkeeper/wire/ApiKey;" (.ref w_METADATA) ∧ Sta Z h "com/example/groupkeeper/groupkeeper/wire/ApiKey" "OFFSET_COMMIT" "Lcom/example/groupkeeper/groupkeeper/wire/ApiKey;" (.ref w_OFFSET_COMMIT) ∧ Sta Z h "com/example/groupkeeper/groupkeeper/wire/ApiKey" "DESCRIBE_GROUPS" "Lcom/example/groupkeeper/groupkeeper/wire/ApiKey;" (.ref w_DESCRIBE_GROUPS) ∧ Sta Z h "com/example/groupkeeper/groupkeeper/wire/ApiKey" "SYNC_GROUP" "Lcom/example/groupkeeper/groupkeeper/wire/ApiKey;" (.ref w_SYNC_GROUP) ∧ Sta Z h "com/example/groupkeeper/groupkeeper/wire/ApiKey" "API_VERSIONS" "Lcom/example/groupkeeper/groupkeeper/wire/ApiKey;" (.ref w_API_VERSIONS) ∧ Sta Z h "com/example/groupkeeper/groupkeeper/wire/ApiKey" "DELETE_GROUPS" "Lcom/example/groupkeeper/groupkeeper/wire/ApiKey;" (.ref w_DELETE_GROUPS) ∧ Sta Z h "com/example/groupkeeper/groupkeeper/wire/ApiKey" "FIND_COORDINATOR" "Lcom/example/groupkeeper/groupkeeper/wire/ApiKey;" (.ref w_FIND_COORDINATOR) ∧ Sta Z h "com/example/groupkeeper/groupkeeper/wire/ApiKey" "OFFSET_DELETE" "Lcom/example/groupkeeper/groupkeeper/wire/ApiKey;" (.ref w_OFFSET_DELETE) ∧ Sta Z h "com/example/groupkeeper/groupkeeper/wire/ApiKey" "JOIN_GROUP" "Lcom/example/groupkeeper/groupkeeper/wire/ApiKey;" (.ref w_JOIN_GROUP) ∧ Sta Z h "com/example/groupkeeper/groupkeeper/wire/ApiKey" "HEARTBEAT" "Lcom/example/groupkeeper/groupkeeper/wire/ApiKey;" (.ref w_HEARTBEAT) ∧ Sta Z h "com/example/groupkeeper/groupkeeper/wire/ApiKey" "OFFSET_FETCH" "Lcom/example/groupkeeper/groupkeeper/wire/ApiKey;" (.ref w_OFFSET_FETCH) ∧ Sta Z h "com/example/groupkeeper/groupkeeper/wire/ApiKey" "LEAVE_GROUP" "Lcom/example/groupkeeper/groupkeeper/wire/ApiKey;" (.ref w_LEAVE_GROUP) ∧ Sta Z h "com/example/groupkeeper/groupkeeper/wire/ApiKey" "LIST_GROUPS" "Lcom/example/groupkeeper/groupkeeper/wire/ApiKey;" (.ref w_LIST_GROUPS) ∧ Exa Z h w_METADATA "com/example/groupkeeper/groupkeeper/wire/ApiKey" ∧ Exa Z h w_OFFSET_COMMIT "com/example/groupkeeper/groupkeeper/wire/ApiKey" ∧ Exa Z h w_DESCRIBE_GROUPS "com/example/groupkeeper/groupkeeper/wire/ApiKey" ∧ Exa Z h w_SYNC_GROUP "com/example/groupkeeper/groupkeeper/wire/ApiKey" ∧ Exa Z h w_API_VERSIONS "com/example/groupkeeper/groupkeeper/wire/ApiKey" ∧ Exa Z h w_DELETE_GROUPS "com/example/groupkeeper/groupkeeper/wire/ApiKey" ∧ Exa Z h w_FIND_COORDINATOR "com/example/groupkeeper/groupkeeper/wire/ApiKey" ∧ Exa Z h w_OFFSET_DELETE "com/example/groupkeeper/groupkeeper/wire/ApiKey" ∧ Exa Z h w_JOIN_GROUP "com/example/groupkeeper/groupkeeper/wire/ApiKey" ∧ Exa Z h w_HEARTBEAT "com/example/groupkeeper/groupkeeper/wire/ApiKey" ∧ Exa Z h w_OFFSET_FETCH "com/example/groupkeeper/groupkeeper/wire/ApiKey" ∧ Exa Z h w_LEAVE_GROUP "com/example/groupkeeper/groupkeeper/wire/ApiKey" ∧ Exa Z h w_LIST_GROUPS "com/example/groupkeeper/groupkeeper/wire/ApiKey" ∧ Fld Z h w_METADATA "com/example/groupkeeper/groupkeeper/wire/ApiKey" "firstFlexibleVersion" "S" (.int (9 : Int32)) ∧ Fld Z h w_OFFSET_COMMIT "com/example/groupkeeper/groupkeeper/wire/ApiKey" "firstFlexibleVersion" "S" (.int (8 : Int32)) ∧ Fld Z h w_DESCRIBE_GROUPS "com/example/groupkeeper/groupkeeper/wire/ApiKey" "firstFlexibleVersion" "S" (.int (5 : Int32)) ∧ Fld Z h w_SYNC_GROUP "com/example/groupkeeper/groupkeeper/wire/ApiKey" "firstFlexibleVersion" "S" (.int (4 : Int32)) ∧ Fld Z h w_API_VERSIONS "com/example/groupkeeper/groupkeeper/wire/ApiKey" "firstFlexibleVersion" "S" (.int (3 : Int32)) ∧ Fld Z h w_DELETE_GROUPS "com/example/groupkeeper/groupkeeper/wire/ApiKey" "firstFlexibleVersion" "S" (.int (2 : Int32)) ∧ Fld Z h w_FIND_COORDINATOR "com/example/groupkeeper/groupkeeper/wire/ApiKey" "firstFlexibleVersion" "S" (.int (3 : Int32)) ∧ Fld Z h w_OFFSET_DELETE "com/example/groupkeeper/groupkeeper/wire/ApiKey" "firstFlexibleVersion" "S" (.int (32767 : Int32)) ∧ Fld Z h w_JOIN_GROUP "com/example/groupkeeper/groupkeeper/wire/ApiKey" "firstFlexibleVersion" "S" (.int (6 : Int32)) ∧ Fld Z h w_HEARTBEAT "com/example/groupkeeper/groupkeeper/wire/ApiKey" "firstFlexibleVersion" "S" (.int (4 : Int32)) ∧ Fld Z h w_OFFSET_FETCH "com/example/groupkeeper/groupkeeper/wire/ApiKey" "firstFlexibleVersion" "S" (.int (6 : Int32)) ∧ Fld Z h w_LEAVE_GROUP "com/example/groupkeeper/groupkeeper/wire/ApiKey" "firstFlexibleVersion" "S" (.int (4 : Int32)) ∧ Fld Z h w_LIST_GROUPS "com/example/groupkeeper/groupkeeper/wire/ApiKey" "firstFlexibleVersion" "S" (.int (3 : Int32))
def own_key (p1 : Int32) (w_METADATA w_OFFSET_COMMIT w_DESCRIBE_GROUPS w_SYNC_GROUP w_API_VERSIONS w_DELETE_GROUPS w_FIND_COORDINATOR w_OFFSET_DELETE w_JOIN_GROUP w_HEARTBEAT w_OFFSET_FETCH w_LEAVE_GROUP w_LIST_GROUPS : Addr) : Addr := if p1 = (0 : Int32) then w_METADATA else (if p1 = (1 : Int32) then w_OFFSET_COMMIT else (if p1 = (2 : Int32) then w_OFFSET_FETCH else (if p1 = (3 : Int32) then w_FIND_COORDINATOR else (if p1 = (4 : Int32) then w_JOIN_GROUP else (if p1 = (5 : Int32) then w_HEARTBEAT else (if p1 = (6 : Int32) then w_LEAVE_GROUP else (if p1 = (7 : Int32) then w_SYNC_GROUP else (if p1 = (8 : Int32) then w_DESCRIBE_GROUPS else (if p1 = (9 : Int32) then w_LIST_GROUPS else (if p1 = (10 : Int32) then w_API_VERSIONS else (if p1 = (11 : Int32) then w_DELETE_GROUPS else w_OFFSET_DELETE)))))))))))
theorem d_method_2_code_0 : decode method_2_code 0 = .ok (.iload_n 0, 1) := by decide +kernel
theorem d_method_2_code_1 : decode method_2_code 1 = .ok (.ifCond .ne 7, 3) := by decide +kernel
theorem d_method_2_code_4 : decode method_2_code 4 = .ok (.getstatic 7, 3) := by decide +kernel
theorem d_method_2_code_7 : decode method_2_code 7 = .ok (.areturn, 1) := by decide +kernel
theorem d_method_2_code_8 : decode method_2_code 8 = .ok (.iload_n 0, 1) := by decide +kernel
theorem d_method_2_code_9 : decode method_2_code 9 = .ok (.iconst 1, 1) := by decide +kernel
theorem d_method_2_code_10 : decode method_2_code 10 = .ok (.if_icmp .ne 7, 3) := by decide +kernel
theorem d_method_2_code_13 : decode method_2_code 13 = .ok (.getstatic 13, 3) := by decide +kernel
theorem d_method_2_code_16 : decode method_2_code 16 = .ok (.areturn, 1) := by decide +kernel
theorem d_method_2_code_17 : decode method_2_code 17 = .ok (.iload_n 0, 1) := by decide +kernel
theorem d_method_2_code_18 : decode method_2_code 18 = .ok (.iconst 2, 1) := by decide +kernel
theorem d_method_2_code_19 : decode method_2_code 19 = .ok (.if_icmp .ne 7, 3) := by decide +kernel
theorem d_method_2_code_22 : decode method_2_code 22 = .ok (.getstatic 16, 3) := by decide +kernel
theorem d_method_2_code_25 : decode method_2_code 25 = .ok (.areturn, 1) := by decide +kernel
theorem d_method_2_code_26 : decode method_2_code 26 = .ok (.iload_n 0, 1) := by decide +kernel
theorem d_method_2_code_27 : decode method_2_code 27 = .ok (.iconst 3, 1) := by decide +kernel
theorem d_method_2_code_28 : decode method_2_code 28 = .ok (.if_icmp .ne 7, 3) := by decide +kernel
theorem d_method_2_code_31 : decode method_2_code 31 = .ok (.getstatic 19, 3) := by decide +kernel
theorem d_method_2_code_34 : decode method_2_code 34 = .ok (.areturn, 1) := by decide +kernel
theorem d_method_2_code_35 : decode method_2_code 35 = .ok (.iload_n 0, 1) := by decide +kernel
theorem d_method_2_code_36 : decode method_2_code 36 = .ok (.iconst 4, 1) := by decide +kernel
theorem d_method_2_code_37 : decode method_2_code 37 = .ok (.if_icmp .ne 7, 3) := by decide +kernel
theorem d_method_2_code_40 : decode method_2_code 40 = .ok (.getstatic 22, 3) := by decide +kernel
theorem d_method_2_code_43 : decode method_2_code 43 = .ok (.areturn, 1) := by decide +kernel
theorem d_method_2_code_44 : decode method_2_code 44 = .ok (.iload_n 0, 1) := by decide +kernel
theorem d_method_2_code_45 : decode method_2_code 45 = .ok (.iconst 5, 1) := by decide +kernel
theorem d_method_2_code_46 : decode method_2_code 46 = .ok (.if_icmp .ne 7, 3) := by decide +kernel
theorem d_method_2_code_49 : decode method_2_code 49 = .ok (.getstatic 25, 3) := by decide +kernel
theorem d_method_2_code_52 : decode method_2_code 52 = .ok (.areturn, 1) := by decide +kernel
theorem d_method_2_code_53 : decode method_2_code 53 = .ok (.iload_n 0, 1) := by decide +kernel
theorem d_method_2_code_54 : decode method_2_code 54 = .ok (.bipush 6, 2) := by decide +kernel
theorem d_method_2_code_56 : decode method_2_code 56 = .ok (.if_icmp .ne 7, 3) := by decide +kernel
theorem d_method_2_code_59 : decode method_2_code 59 = .ok (.getstatic 28, 3) := by decide +kernel
theorem d_method_2_code_62 : decode method_2_code 62 = .ok (.areturn, 1) := by decide +kernel
theorem d_method_2_code_63 : decode method_2_code 63 = .ok (.iload_n 0, 1) := by decide +kernel
theorem d_method_2_code_64 : decode method_2_code 64 = .ok (.bipush 7, 2) := by decide +kernel
theorem d_method_2_code_66 : decode method_2_code 66 = .ok (.if_icmp .ne 7, 3) := by decide +kernel
theorem d_method_2_code_69 : decode method_2_code 69 = .ok (.getstatic 31, 3) := by decide +kernel
theorem d_method_2_code_72 : decode method_2_code 72 = .ok (.areturn, 1) := by decide +kernel
theorem d_method_2_code_73 : decode method_2_code 73 = .ok (.iload_n 0, 1) := by decide +kernel
theorem d_method_2_code_74 : decode method_2_code 74 = .ok (.bipush 8, 2) := by decide +kernel
theorem d_method_2_code_76 : decode method_2_code 76 = .ok (.if_icmp .ne 7, 3) := by decide +kernel
theorem d_method_2_code_79 : decode method_2_code 79 = .ok (.getstatic 34, 3) := by decide +kernel
theorem d_method_2_code_82 : decode method_2_code 82 = .ok (.areturn, 1) := by decide +kernel
theorem d_method_2_code_83 : decode method_2_code 83 = .ok (.iload_n 0, 1) := by decide +kernel
theorem d_method_2_code_84 : decode method_2_code 84 = .ok (.bipush 9, 2) := by decide +kernel
theorem d_method_2_code_86 : decode method_2_code 86 = .ok (.if_icmp .ne 7, 3) := by decide +kernel
theorem d_method_2_code_89 : decode method_2_code 89 = .ok (.getstatic 37, 3) := by decide +kernel
theorem d_method_2_code_92 : decode method_2_code 92 = .ok (.areturn, 1) := by decide +kernel
theorem d_method_2_code_93 : decode method_2_code 93 = .ok (.iload_n 0, 1) := by decide +kernel
theorem d_method_2_code_94 : decode method_2_code 94 = .ok (.bipush 10, 2) := by decide +kernel
theorem d_method_2_code_96 : decode method_2_code 96 = .ok (.if_icmp .ne 7, 3) := by decide +kernel
theorem d_method_2_code_99 : decode method_2_code 99 = .ok (.getstatic 40, 3) := by decide +kernel
theorem d_method_2_code_102 : decode method_2_code 102 = .ok (.areturn, 1) := by decide +kernel
theorem d_method_2_code_103 : decode method_2_code 103 = .ok (.iload_n 0, 1) := by decide +kernel
theorem d_method_2_code_104 : decode method_2_code 104 = .ok (.bipush 11, 2) := by decide +kernel
theorem d_method_2_code_106 : decode method_2_code 106 = .ok (.if_icmp .ne 7, 3) := by decide +kernel
theorem d_method_2_code_109 : decode method_2_code 109 = .ok (.getstatic 43, 3) := by decide +kernel
theorem d_method_2_code_112 : decode method_2_code 112 = .ok (.areturn, 1) := by decide +kernel
theorem d_method_2_code_113 : decode method_2_code 113 = .ok (.getstatic 46, 3) := by decide +kernel
theorem d_method_2_code_116 : decode method_2_code 116 = .ok (.areturn, 1) := by decide +kernel
theorem pn_com_example_groupkeeper_groupkeeper_wire_ApiKeyIsFlexiblePinLaw : plainName "com/example/groupkeeper/groupkeeper/wire/ApiKeyIsFlexiblePinLaw" = true := by first | (simp [plainName, overriddenIn]; done) | decide +kernel
set_option maxRecDepth 65536 in
set_option maxHeartbeats 40000000 in
theorem rm1 (l : Launch) (Z : State) (a0 : Array Value) (hw : ∀ d ∈ tables_1, d.before a0 Z = true) (ws : List Jvm.Cond) (p1 : Int32) (w_METADATA w_OFFSET_COMMIT w_DESCRIBE_GROUPS w_SYNC_GROUP w_API_VERSIONS w_DELETE_GROUPS w_FIND_COORDINATOR w_OFFSET_DELETE w_JOIN_GROUP w_HEARTBEAT w_OFFSET_FETCH w_LEAVE_GROUP w_LIST_GROUPS : Addr) (h0 : Heap) (n0 : Nat) (Z0 : n0 ≤ h0.size) (FF : own_F Z h0 w_METADATA w_OFFSET_COMMIT w_DESCRIBE_GROUPS w_SYNC_GROUP w_API_VERSIONS w_DELETE_GROUPS w_FIND_COORDINATOR w_OFFSET_DELETE w_JOIN_GROUP w_HEARTBEAT w_OFFSET_FETCH w_LEAVE_GROUP w_LIST_GROUPS)  :
    Does l (⟨"com/example/groupkeeper/groupkeeper/wire/ApiKeyIsFlexiblePinLaw", "key", "(I)Lcom/example/groupkeeper/groupkeeper/wire/ApiKey;"⟩ : MethodName) method_2_code 1 (some (.object "com/example/groupkeeper/groupkeeper/wire/ApiKey")) ws ({ frames := 0, cells := 0, slots := 0, locals := 0 } : Room) #[(.int p1)] Z h0 (fun v h L => v = some (.ref (own_key p1 w_METADATA w_OFFSET_COMMIT w_DESCRIBE_GROUPS w_SYNC_GROUP w_API_VERSIONS w_DELETE_GROUPS w_FIND_COORDINATOR w_OFFSET_DELETE w_JOIN_GROUP w_HEARTBEAT w_OFFSET_FETCH w_LEAVE_GROUP w_LIST_GROUPS)) ∧ Fr n0 L ∧ h = h0) := by
  refine Does.of (plainFor_of_name pn_com_example_groupkeeper_groupkeeper_wire_ApiKeyIsFlexiblePinLaw) ?_
  intro p e s m below meth c s₁ hx hby hml hret hlk hown0 hnm hZ X0 e0
  have hown : s.vm.findClass "com/example/groupkeeper/groupkeeper/wire/ApiKeyIsFlexiblePinLaw" = some m.cls := hown0
  have N0 := Fr.nil n0
  have FF0 := FF
  obtain ⟨S_METADATA, S_OFFSET_COMMIT, S_DESCRIBE_GROUPS, S_SYNC_GROUP, S_API_VERSIONS, S_DELETE_GROUPS, S_FIND_COORDINATOR, S_OFFSET_DELETE, S_JOIN_GROUP, S_HEARTBEAT, S_OFFSET_FETCH, S_LEAVE_GROUP, S_LIST_GROUPS, A_METADATA, A_OFFSET_COMMIT, A_DESCRIBE_GROUPS, A_SYNC_GROUP, A_API_VERSIONS, A_DELETE_GROUPS, A_FIND_COORDINATOR, A_OFFSET_DELETE, A_JOIN_GROUP, A_HEARTBEAT, A_OFFSET_FETCH, A_LEAVE_GROUP, A_LIST_GROUPS, F_METADATA_firstFlexibleVersion, F_OFFSET_COMMIT_firstFlexibleVersion, F_DESCRIBE_GROUPS_firstFlexibleVersion, F_SYNC_GROUP_firstFlexibleVersion, F_API_VERSIONS_firstFlexibleVersion, F_DELETE_GROUPS_firstFlexibleVersion, F_FIND_COORDINATOR_firstFlexibleVersion, F_OFFSET_DELETE_firstFlexibleVersion, F_JOIN_GROUP_firstFlexibleVersion, F_HEARTBEAT_firstFlexibleVersion, F_OFFSET_FETCH_firstFlexibleVersion, F_LEAVE_GROUP_firstFlexibleVersion, F_LIST_GROUPS_firstFlexibleVersion⟩ := FF
  refine Go.cast (g' := (mkF m 0 #[.val (.int p1)] [])) (by first | rfl | (simp [entryFrame, mkF, argsToLocals, Value.category, maxLocals]; done)) ?_
  refine Go.st (T' := s₁) (g' := (mkF m 1 #[.val (.int p1)] [(.int p1)])) ?_ (fun _ k_ => XS.iloadN X0.here hx rfl (hb hby d_method_2_code_0) rfl k_)
  by_cases hc1 : p1 = (0 : Int32)
  · refine Go.st (T' := s₁) (g' := (mkF m 4 #[.val (.int p1)] [])) ?_ (fun _ k_ => XS.ifNo X0.here hx rfl (hb hby d_method_2_code_1) rfl ((if0 _ _).trans (teq hc1).2) k_)
    obtain ⟨T2, X2, e2, st2⟩ := getS2 X0 hx hZ hown (host := "") (Or.inl (hw _ (List.mem_of_getElem? (i := 5) rfl))) Via.refl e0 S_METADATA (g := (mkF m 4 #[.val (.int p1)] [])) rfl (hb hby d_method_2_code_4)
    refine Go.st (T' := T2) (g' := (mkF m 7 #[.val (.int p1)] [(.ref w_METADATA)])) ?_ st2
    exact Go.retV (t := (.object "com/example/groupkeeper/groupkeeper/wire/ApiKey")) X2 hx hret hlk (by decide) (by decide) rfl (Or.inr (Or.inr (Or.inr (Or.inr ⟨rfl, rfl, rfl⟩)))) (hb hby d_method_2_code_7) ⟨by rw [own_key, if_pos hc1], N0, e2⟩
  · refine Go.st (T' := s₁) (g' := (mkF m 8 #[.val (.int p1)] [])) ?_ (fun _ k_ => XS.ifYes X0.here hx rfl (pc0 := 1) (pc' := 8) rfl (hb hby d_method_2_code_1) rfl ((if0 _ _).trans (feq hc1).2) (by decide) (by decide) k_)
    refine Go.st (T' := s₁) (g' := (mkF m 9 #[.val (.int p1)] [(.int p1)])) ?_ (fun _ k_ => XS.iloadN X0.here hx rfl (hb hby d_method_2_code_8) rfl k_)
    refine Go.st (T' := s₁) (g' := (mkF m 10 #[.val (.int p1)] [(.int (1 : Int32)), (.int p1)])) ?_ (fun _ k_ => XT.iconstV X0.here hx rfl (1 : Int32) (hb hby d_method_2_code_9) (by decide) k_)
    by_cases hc3 : p1 = (1 : Int32)
    · refine Go.st (T' := s₁) (g' := (mkF m 13 #[.val (.int p1)] [])) ?_ (fun _ k_ => XS.icmpNo X0.here hx rfl (hb hby d_method_2_code_10) rfl (teq hc3).2 k_)
      obtain ⟨T4, X4, e4, st4⟩ := getS2 X0 hx hZ hown (host := "") (Or.inl (hw _ (List.mem_of_getElem? (i := 18) rfl))) Via.refl e0 S_OFFSET_COMMIT (g := (mkF m 13 #[.val (.int p1)] [])) rfl (hb hby d_method_2_code_13)
      refine Go.st (T' := T4) (g' := (mkF m 16 #[.val (.int p1)] [(.ref w_OFFSET_COMMIT)])) ?_ st4
      exact Go.retV (t := (.object "com/example/groupkeeper/groupkeeper/wire/ApiKey")) X4 hx hret hlk (by decide) (by decide) rfl (Or.inr (Or.inr (Or.inr (Or.inr ⟨rfl, rfl, rfl⟩)))) (hb hby d_method_2_code_16) ⟨by rw [own_key, if_neg hc1, if_pos hc3], N0, e4⟩
    · refine Go.st (T' := s₁) (g' := (mkF m 17 #[.val (.int p1)] [])) ?_ (fun _ k_ => XS.icmpYes X0.here hx rfl (pc0 := 10) (pc' := 17) rfl (hb hby d_method_2_code_10) rfl (feq hc3).2 (by decide) (by decide) k_)
      refine Go.st (T' := s₁) (g' := (mkF m 18 #[.val (.int p1)] [(.int p1)])) ?_ (fun _ k_ => XS.iloadN X0.here hx rfl (hb hby d_method_2_code_17) rfl k_)
      refine Go.st (T' := s₁) (g' := (mkF m 19 #[.val (.int p1)] [(.int (2 : Int32)), (.int p1)])) ?_ (fun _ k_ => XT.iconstV X0.here hx rfl (2 : Int32) (hb hby d_method_2_code_18) (by decide) k_)
      by_cases hc5 : p1 = (2 : Int32)
      · refine Go.st (T' := s₁) (g' := (mkF m 22 #[.val (.int p1)] [])) ?_ (fun _ k_ => XS.icmpNo X0.here hx rfl (hb hby d_method_2_code_19) rfl (teq hc5).2 k_)
        obtain ⟨T6, X6, e6, st6⟩ := getS2 X0 hx hZ hown (host := "") (Or.inl (hw _ (List.mem_of_getElem? (i := 36) rfl))) Via.refl e0 S_OFFSET_FETCH (g := (mkF m 22 #[.val (.int p1)] [])) rfl (hb hby d_method_2_code_22)
        refine Go.st (T' := T6) (g' := (mkF m 25 #[.val (.int p1)] [(.ref w_OFFSET_FETCH)])) ?_ st6
        exact Go.retV (t := (.object "com/example/groupkeeper/groupkeeper/wire/ApiKey")) X6 hx hret hlk (by decide) (by decide) rfl (Or.inr (Or.inr (Or.inr (Or.inr ⟨rfl, rfl, rfl⟩)))) (hb hby d_method_2_code_25) ⟨by rw [own_key, if_neg hc1, if_neg hc3, if_pos hc5], N0, e6⟩
      · refine Go.st (T' := s₁) (g' := (mkF m 26 #[.val (.int p1)] [])) ?_ (fun _ k_ => XS.icmpYes X0.here hx rfl (pc0 := 19) (pc' := 26) rfl (hb hby d_method_2_code_19) rfl (feq hc5).2 (by decide) (by decide) k_)
        refine Go.st (T' := s₁) (g' := (mkF m 27 #[.val (.int p1)] [(.int p1)])) ?_ (fun _ k_ => XS.iloadN X0.here hx rfl (hb hby d_method_2_code_26) rfl k_)
        refine Go.st (T' := s₁) (g' := (mkF m 28 #[.val (.int p1)] [(.int (3 : Int32)), (.int p1)])) ?_ (fun _ k_ => XT.iconstV X0.here hx rfl (3 : Int32) (hb hby d_method_2_code_27) (by decide) k_)
        by_cases hc7 : p1 = (3 : Int32)
        · refine Go.st (T' := s₁) (g' := (mkF m 31 #[.val (.int p1)] [])) ?_ (fun _ k_ => XS.icmpNo X0.here hx rfl (hb hby d_method_2_code_28) rfl (teq hc7).2 k_)
          obtain ⟨T8, X8, e8, st8⟩ := getS2 X0 hx hZ hown (host := "") (Or.inl (hw _ (List.mem_of_getElem? (i := 28) rfl))) Via.refl e0 S_FIND_COORDINATOR (g := (mkF m 31 #[.val (.int p1)] [])) rfl (hb hby d_method_2_code_31)
          refine Go.st (T' := T8) (g' := (mkF m 34 #[.val (.int p1)] [(.ref w_FIND_COORDINATOR)])) ?_ st8
          exact Go.retV (t := (.object "com/example/groupkeeper/groupkeeper/wire/ApiKey")) X8 hx hret hlk (by decide) (by decide) rfl (Or.inr (Or.inr (Or.inr (Or.inr ⟨rfl, rfl, rfl⟩)))) (hb hby d_method_2_code_34) ⟨by rw [own_key, if_neg hc1, if_neg hc3, if_neg hc5, if_pos hc7], N0, e8⟩
        · refine Go.st (T' := s₁) (g' := (mkF m 35 #[.val (.int p1)] [])) ?_ (fun _ k_ => XS.icmpYes X0.here hx rfl (pc0 := 28) (pc' := 35) rfl (hb hby d_method_2_code_28) rfl (feq hc7).2 (by decide) (by decide) k_)
          refine Go.st (T' := s₁) (g' := (mkF m 36 #[.val (.int p1)] [(.int p1)])) ?_ (fun _ k_ => XS.iloadN X0.here hx rfl (hb hby d_method_2_code_35) rfl k_)
          refine Go.st (T' := s₁) (g' := (mkF m 37 #[.val (.int p1)] [(.int (4 : Int32)), (.int p1)])) ?_ (fun _ k_ => XT.iconstV X0.here hx rfl (4 : Int32) (hb hby d_method_2_code_36) (by decide) k_)
          by_cases hc9 : p1 = (4 : Int32)
          · refine Go.st (T' := s₁) (g' := (mkF m 40 #[.val (.int p1)] [])) ?_ (fun _ k_ => XS.icmpNo X0.here hx rfl (hb hby d_method_2_code_37) rfl (teq hc9).2 k_)
            obtain ⟨T10, X10, e10, st10⟩ := getS2 X0 hx hZ hown (host := "") (Or.inl (hw _ (List.mem_of_getElem? (i := 32) rfl))) Via.refl e0 S_JOIN_GROUP (g := (mkF m 40 #[.val (.int p1)] [])) rfl (hb hby d_method_2_code_40)
            refine Go.st (T' := T10) (g' := (mkF m 43 #[.val (.int p1)] [(.ref w_JOIN_GROUP)])) ?_ st10
            exact Go.retV (t := (.object "com/example/groupkeeper/groupkeeper/wire/ApiKey")) X10 hx hret hlk (by decide) (by decide) rfl (Or.inr (Or.inr (Or.inr (Or.inr ⟨rfl, rfl, rfl⟩)))) (hb hby d_method_2_code_43) ⟨by rw [own_key, if_neg hc1, if_neg hc3, if_neg hc5, if_neg hc7, if_pos hc9], N0, e10⟩
          · refine Go.st (T' := s₁) (g' := (mkF m 44 #[.val (.int p1)] [])) ?_ (fun _ k_ => XS.icmpYes X0.here hx rfl (pc0 := 37) (pc' := 44) rfl (hb hby d_method_2_code_37) rfl (feq hc9).2 (by decide) (by decide) k_)
            refine Go.st (T' := s₁) (g' := (mkF m 45 #[.val (.int p1)] [(.int p1)])) ?_ (fun _ k_ => XS.iloadN X0.here hx rfl (hb hby d_method_2_code_44) rfl k_)
            refine Go.st (T' := s₁) (g' := (mkF m 46 #[.val (.int p1)] [(.int (5 : Int32)), (.int p1)])) ?_ (fun _ k_ => XT.iconstV X0.here hx rfl (5 : Int32) (hb hby d_method_2_code_45) (by decide) k_)
            by_cases hc11 : p1 = (5 : Int32)
            · refine Go.st (T' := s₁) (g' := (mkF m 49 #[.val (.int p1)] [])) ?_ (fun _ k_ => XS.icmpNo X0.here hx rfl (hb hby d_method_2_code_46) rfl (teq hc11).2 k_)
              obtain ⟨T12, X12, e12, st12⟩ := getS2 X0 hx hZ hown (host := "") (Or.inl (hw _ (List.mem_of_getElem? (i := 34) rfl))) Via.refl e0 S_HEARTBEAT (g := (mkF m 49 #[.val (.int p1)] [])) rfl (hb hby d_method_2_code_49)
              refine Go.st (T' := T12) (g' := (mkF m 52 #[.val (.int p1)] [(.ref w_HEARTBEAT)])) ?_ st12
              exact Go.retV (t := (.object "com/example/groupkeeper/groupkeeper/wire/ApiKey")) X12 hx hret hlk (by decide) (by decide) rfl (Or.inr (Or.inr (Or.inr (Or.inr ⟨rfl, rfl, rfl⟩)))) (hb hby d_method_2_code_52) ⟨by rw [own_key, if_neg hc1, if_neg hc3, if_neg hc5, if_neg hc7, if_neg hc9, if_pos hc11], N0, e12⟩
            · refine Go.st (T' := s₁) (g' := (mkF m 53 #[.val (.int p1)] [])) ?_ (fun _ k_ => XS.icmpYes X0.here hx rfl (pc0 := 46) (pc' := 53) rfl (hb hby d_method_2_code_46) rfl (feq hc11).2 (by decide) (by decide) k_)
              refine Go.st (T' := s₁) (g' := (mkF m 54 #[.val (.int p1)] [(.int p1)])) ?_ (fun _ k_ => XS.iloadN X0.here hx rfl (hb hby d_method_2_code_53) rfl k_)
              refine Go.st (T' := s₁) (g' := (mkF m 56 #[.val (.int p1)] [(.int (6 : Int32)), (.int p1)])) ?_ (fun _ k_ => XT.bipushV X0.here hx rfl (6 : Int32) (hb hby d_method_2_code_54) (by decide) k_)
              by_cases hc13 : p1 = (6 : Int32)
              · refine Go.st (T' := s₁) (g' := (mkF m 59 #[.val (.int p1)] [])) ?_ (fun _ k_ => XS.icmpNo X0.here hx rfl (hb hby d_method_2_code_56) rfl (teq hc13).2 k_)
                obtain ⟨T14, X14, e14, st14⟩ := getS2 X0 hx hZ hown (host := "") (Or.inl (hw _ (List.mem_of_getElem? (i := 38) rfl))) Via.refl e0 S_LEAVE_GROUP (g := (mkF m 59 #[.val (.int p1)] [])) rfl (hb hby d_method_2_code_59)
                refine Go.st (T' := T14) (g' := (mkF m 62 #[.val (.int p1)] [(.ref w_LEAVE_GROUP)])) ?_ st14
                exact Go.retV (t := (.object "com/example/groupkeeper/groupkeeper/wire/ApiKey")) X14 hx hret hlk (by decide) (by decide) rfl (Or.inr (Or.inr (Or.inr (Or.inr ⟨rfl, rfl, rfl⟩)))) (hb hby d_method_2_code_62) ⟨by rw [own_key, if_neg hc1, if_neg hc3, if_neg hc5, if_neg hc7, if_neg hc9, if_neg hc11, if_pos hc13], N0, e14⟩
              · refine Go.st (T' := s₁) (g' := (mkF m 63 #[.val (.int p1)] [])) ?_ (fun _ k_ => XS.icmpYes X0.here hx rfl (pc0 := 56) (pc' := 63) rfl (hb hby d_method_2_code_56) rfl (feq hc13).2 (by decide) (by decide) k_)
                refine Go.st (T' := s₁) (g' := (mkF m 64 #[.val (.int p1)] [(.int p1)])) ?_ (fun _ k_ => XS.iloadN X0.here hx rfl (hb hby d_method_2_code_63) rfl k_)
                refine Go.st (T' := s₁) (g' := (mkF m 66 #[.val (.int p1)] [(.int (7 : Int32)), (.int p1)])) ?_ (fun _ k_ => XT.bipushV X0.here hx rfl (7 : Int32) (hb hby d_method_2_code_64) (by decide) k_)
                by_cases hc15 : p1 = (7 : Int32)
                · refine Go.st (T' := s₁) (g' := (mkF m 69 #[.val (.int p1)] [])) ?_ (fun _ k_ => XS.icmpNo X0.here hx rfl (hb hby d_method_2_code_66) rfl (teq hc15).2 k_)
                  obtain ⟨T16, X16, e16, st16⟩ := getS2 X0 hx hZ hown (host := "") (Or.inl (hw _ (List.mem_of_getElem? (i := 22) rfl))) Via.refl e0 S_SYNC_GROUP (g := (mkF m 69 #[.val (.int p1)] [])) rfl (hb hby d_method_2_code_69)
                  refine Go.st (T' := T16) (g' := (mkF m 72 #[.val (.int p1)] [(.ref w_SYNC_GROUP)])) ?_ st16
                  exact Go.retV (t := (.object "com/example/groupkeeper/groupkeeper/wire/ApiKey")) X16 hx hret hlk (by decide) (by decide) rfl (Or.inr (Or.inr (Or.inr (Or.inr ⟨rfl, rfl, rfl⟩)))) (hb hby d_method_2_code_72) ⟨by rw [own_key, if_neg hc1, if_neg hc3, if_neg hc5, if_neg hc7, if_neg hc9, if_neg hc11, if_neg hc13, if_pos hc15], N0, e16⟩
                · refine Go.st (T' := s₁) (g' := (mkF m 73 #[.val (.int p1)] [])) ?_ (fun _ k_ => XS.icmpYes X0.here hx rfl (pc0 := 66) (pc' := 73) rfl (hb hby d_method_2_code_66) rfl (feq hc15).2 (by decide) (by decide) k_)
                  refine Go.st (T' := s₁) (g' := (mkF m 74 #[.val (.int p1)] [(.int p1)])) ?_ (fun _ k_ => XS.iloadN X0.here hx rfl (hb hby d_method_2_code_73) rfl k_)
                  refine Go.st (T' := s₁) (g' := (mkF m 76 #[.val (.int p1)] [(.int (8 : Int32)), (.int p1)])) ?_ (fun _ k_ => XT.bipushV X0.here hx rfl (8 : Int32) (hb hby d_method_2_code_74) (by decide) k_)
                  by_cases hc17 : p1 = (8 : Int32)
                  · refine Go.st (T' := s₁) (g' := (mkF m 79 #[.val (.int p1)] [])) ?_ (fun _ k_ => XS.icmpNo X0.here hx rfl (hb hby d_method_2_code_76) rfl (teq hc17).2 k_)
                    obtain ⟨T18, X18, e18, st18⟩ := getS2 X0 hx hZ hown (host := "") (Or.inl (hw _ (List.mem_of_getElem? (i := 20) rfl))) Via.refl e0 S_DESCRIBE_GROUPS (g := (mkF m 79 #[.val (.int p1)] [])) rfl (hb hby d_method_2_code_79)
                    refine Go.st (T' := T18) (g' := (mkF m 82 #[.val (.int p1)] [(.ref w_DESCRIBE_GROUPS)])) ?_ st18
                    exact Go.retV (t := (.object "com/example/groupkeeper/groupkeeper/wire/ApiKey")) X18 hx hret hlk (by decide) (by decide) rfl (Or.inr (Or.inr (Or.inr (Or.inr ⟨rfl, rfl, rfl⟩)))) (hb hby d_method_2_code_82) ⟨by rw [own_key, if_neg hc1, if_neg hc3, if_neg hc5, if_neg hc7, if_neg hc9, if_neg hc11, if_neg hc13, if_neg hc15, if_pos hc17], N0, e18⟩
                  · refine Go.st (T' := s₁) (g' := (mkF m 83 #[.val (.int p1)] [])) ?_ (fun _ k_ => XS.icmpYes X0.here hx rfl (pc0 := 76) (pc' := 83) rfl (hb hby d_method_2_code_76) rfl (feq hc17).2 (by decide) (by decide) k_)
                    refine Go.st (T' := s₁) (g' := (mkF m 84 #[.val (.int p1)] [(.int p1)])) ?_ (fun _ k_ => XS.iloadN X0.here hx rfl (hb hby d_method_2_code_83) rfl k_)
                    refine Go.st (T' := s₁) (g' := (mkF m 86 #[.val (.int p1)] [(.int (9 : Int32)), (.int p1)])) ?_ (fun _ k_ => XT.bipushV X0.here hx rfl (9 : Int32) (hb hby d_method_2_code_84) (by decide) k_)
                    by_cases hc19 : p1 = (9 : Int32)
                    · refine Go.st (T' := s₁) (g' := (mkF m 89 #[.val (.int p1)] [])) ?_ (fun _ k_ => XS.icmpNo X0.here hx rfl (hb hby d_method_2_code_86) rfl (teq hc19).2 k_)
                      obtain ⟨T20, X20, e20, st20⟩ := getS2 X0 hx hZ hown (host := "") (Or.inl (hw _ (List.mem_of_getElem? (i := 40) rfl))) Via.refl e0 S_LIST_GROUPS (g := (mkF m 89 #[.val (.int p1)] [])) rfl (hb hby d_method_2_code_89)
                      refine Go.st (T' := T20) (g' := (mkF m 92 #[.val (.int p1)] [(.ref w_LIST_GROUPS)])) ?_ st20
                      exact Go.retV (t := (.object "com/example/groupkeeper/groupkeeper/wire/ApiKey")) X20 hx hret hlk (by decide) (by decide) rfl (Or.inr (Or.inr (Or.inr (Or.inr ⟨rfl, rfl, rfl⟩)))) (hb hby d_method_2_code_92) ⟨by rw [own_key, if_neg hc1, if_neg hc3, if_neg hc5, if_neg hc7, if_neg hc9, if_neg hc11, if_neg hc13, if_neg hc15, if_neg hc17, if_pos hc19], N0, e20⟩
                    · refine Go.st (T' := s₁) (g' := (mkF m 93 #[.val (.int p1)] [])) ?_ (fun _ k_ => XS.icmpYes X0.here hx rfl (pc0 := 86) (pc' := 93) rfl (hb hby d_method_2_code_86) rfl (feq hc19).2 (by decide) (by decide) k_)
                      refine Go.st (T' := s₁) (g' := (mkF m 94 #[.val (.int p1)] [(.int p1)])) ?_ (fun _ k_ => XS.iloadN X0.here hx rfl (hb hby d_method_2_code_93) rfl k_)
                      refine Go.st (T' := s₁) (g' := (mkF m 96 #[.val (.int p1)] [(.int (10 : Int32)), (.int p1)])) ?_ (fun _ k_ => XT.bipushV X0.here hx rfl (10 : Int32) (hb hby d_method_2_code_94) (by decide) k_)
                      by_cases hc21 : p1 = (10 : Int32)
                      · refine Go.st (T' := s₁) (g' := (mkF m 99 #[.val (.int p1)] [])) ?_ (fun _ k_ => XS.icmpNo X0.here hx rfl (hb hby d_method_2_code_96) rfl (teq hc21).2 k_)
                        obtain ⟨T22, X22, e22, st22⟩ := getS2 X0 hx hZ hown (host := "") (Or.inl (hw _ (List.mem_of_getElem? (i := 24) rfl))) Via.refl e0 S_API_VERSIONS (g := (mkF m 99 #[.val (.int p1)] [])) rfl (hb hby d_method_2_code_99)
                        refine Go.st (T' := T22) (g' := (mkF m 102 #[.val (.int p1)] [(.ref w_API_VERSIONS)])) ?_ st22
                        exact Go.retV (t := (.object "com/example/groupkeeper/groupkeeper/wire/ApiKey")) X22 hx hret hlk (by decide) (by decide) rfl (Or.inr (Or.inr (Or.inr (Or.inr ⟨rfl, rfl, rfl⟩)))) (hb hby d_method_2_code_102) ⟨by rw [own_key, if_neg hc1, if_neg hc3, if_neg hc5, if_neg hc7, if_neg hc9, if_neg hc11, if_neg hc13, if_neg hc15, if_neg hc17, if_neg hc19, if_pos hc21], N0, e22⟩
                      · refine Go.st (T' := s₁) (g' := (mkF m 103 #[.val (.int p1)] [])) ?_ (fun _ k_ => XS.icmpYes X0.here hx rfl (pc0 := 96) (pc' := 103) rfl (hb hby d_method_2_code_96) rfl (feq hc21).2 (by decide) (by decide) k_)
                        refine Go.st (T' := s₁) (g' := (mkF m 104 #[.val (.int p1)] [(.int p1)])) ?_ (fun _ k_ => XS.iloadN X0.here hx rfl (hb hby d_method_2_code_103) rfl k_)
                        refine Go.st (T' := s₁) (g' := (mkF m 106 #[.val (.int p1)] [(.int (11 : Int32)), (.int p1)])) ?_ (fun _ k_ => XT.bipushV X0.here hx rfl (11 : Int32) (hb hby d_method_2_code_104) (by decide) k_)
                        by_cases hc23 : p1 = (11 : Int32)
                        · refine Go.st (T' := s₁) (g' := (mkF m 109 #[.val (.int p1)] [])) ?_ (fun _ k_ => XS.icmpNo X0.here hx rfl (hb hby d_method_2_code_106) rfl (teq hc23).2 k_)
                          obtain ⟨T24, X24, e24, st24⟩ := getS2 X0 hx hZ hown (host := "") (Or.inl (hw _ (List.mem_of_getElem? (i := 26) rfl))) Via.refl e0 S_DELETE_GROUPS (g := (mkF m 109 #[.val (.int p1)] [])) rfl (hb hby d_method_2_code_109)
                          refine Go.st (T' := T24) (g' := (mkF m 112 #[.val (.int p1)] [(.ref w_DELETE_GROUPS)])) ?_ st24
                          exact Go.retV (t := (.object "com/example/groupkeeper/groupkeeper/wire/ApiKey")) X24 hx hret hlk (by decide) (by decide) rfl (Or.inr (Or.inr (Or.inr (Or.inr ⟨rfl, rfl, rfl⟩)))) (hb hby d_method_2_code_112) ⟨by rw [own_key, if_neg hc1, if_neg hc3, if_neg hc5, if_neg hc7, if_neg hc9, if_neg hc11, if_neg hc13, if_neg hc15, if_neg hc17, if_neg hc19, if_neg hc21, if_pos hc23], N0, e24⟩
                        · refine Go.st (T' := s₁) (g' := (mkF m 113 #[.val (.int p1)] [])) ?_ (fun _ k_ => XS.icmpYes X0.here hx rfl (pc0 := 106) (pc' := 113) rfl (hb hby d_method_2_code_106) rfl (feq hc23).2 (by decide) (by decide) k_)
                          obtain ⟨T25, X25, e25, st25⟩ := getS2 X0 hx hZ hown (host := "") (Or.inl (hw _ (List.mem_of_getElem? (i := 30) rfl))) Via.refl e0 S_OFFSET_DELETE (g := (mkF m 113 #[.val (.int p1)] [])) rfl (hb hby d_method_2_code_113)
                          refine Go.st (T' := T25) (g' := (mkF m 116 #[.val (.int p1)] [(.ref w_OFFSET_DELETE)])) ?_ st25
                          exact Go.retV (t := (.object "com/example/groupkeeper/groupkeeper/wire/ApiKey")) X25 hx hret hlk (by decide) (by decide) rfl (Or.inr (Or.inr (Or.inr (Or.inr ⟨rfl, rfl, rfl⟩)))) (hb hby d_method_2_code_116) ⟨by rw [own_key, if_neg hc1, if_neg hc3, if_neg hc5, if_neg hc7, if_neg hc9, if_neg hc11, if_neg hc13, if_neg hc15, if_neg hc17, if_neg hc19, if_neg hc21, if_neg hc23], N0, e25⟩
def own_first (p1 : Int32)  : Int32 := if p1 = (0 : Int32) then (9 : Int32) else (if p1 = (1 : Int32) then (8 : Int32) else (if p1 = (2 : Int32) then (6 : Int32) else (if p1 = (3 : Int32) then (3 : Int32) else (if p1 = (4 : Int32) then (6 : Int32) else (if p1 = (5 : Int32) then (4 : Int32) else (if p1 = (6 : Int32) then (4 : Int32) else (if p1 = (7 : Int32) then (4 : Int32) else (if p1 = (8 : Int32) then (5 : Int32) else (if p1 = (9 : Int32) then (3 : Int32) else (if p1 = (10 : Int32) then (3 : Int32) else (if p1 = (11 : Int32) then (2 : Int32) else (32767 : Int32))))))))))))
theorem d_method_3_code_0 : decode method_3_code 0 = .ok (.iload_n 0, 1) := by decide +kernel
theorem d_method_3_code_1 : decode method_3_code 1 = .ok (.ifCond .ne 6, 3) := by decide +kernel
theorem d_method_3_code_4 : decode method_3_code 4 = .ok (.bipush 9, 2) := by decide +kernel
theorem d_method_3_code_6 : decode method_3_code 6 = .ok (.ireturn, 1) := by decide +kernel
theorem d_method_3_code_7 : decode method_3_code 7 = .ok (.iload_n 0, 1) := by decide +kernel
theorem d_method_3_code_8 : decode method_3_code 8 = .ok (.iconst 1, 1) := by decide +kernel
theorem d_method_3_code_9 : decode method_3_code 9 = .ok (.if_icmp .ne 6, 3) := by decide +kernel
theorem d_method_3_code_12 : decode method_3_code 12 = .ok (.bipush 8, 2) := by decide +kernel
theorem d_method_3_code_14 : decode method_3_code 14 = .ok (.ireturn, 1) := by decide +kernel
theorem d_method_3_code_15 : decode method_3_code 15 = .ok (.iload_n 0, 1) := by decide +kernel
theorem d_method_3_code_16 : decode method_3_code 16 = .ok (.iconst 2, 1) := by decide +kernel
theorem d_method_3_code_17 : decode method_3_code 17 = .ok (.if_icmp .ne 6, 3) := by decide +kernel
theorem d_method_3_code_20 : decode method_3_code 20 = .ok (.bipush 6, 2) := by decide +kernel
theorem d_method_3_code_22 : decode method_3_code 22 = .ok (.ireturn, 1) := by decide +kernel
theorem d_method_3_code_23 : decode method_3_code 23 = .ok (.iload_n 0, 1) := by decide +kernel
theorem d_method_3_code_24 : decode method_3_code 24 = .ok (.iconst 3, 1) := by decide +kernel
theorem d_method_3_code_25 : decode method_3_code 25 = .ok (.if_icmp .ne 5, 3) := by decide +kernel
theorem d_method_3_code_28 : decode method_3_code 28 = .ok (.iconst 3, 1) := by decide +kernel
theorem d_method_3_code_29 : decode method_3_code 29 = .ok (.ireturn, 1) := by decide +kernel
theorem d_method_3_code_30 : decode method_3_code 30 = .ok (.iload_n 0, 1) := by decide +kernel
theorem d_method_3_code_31 : decode method_3_code 31 = .ok (.iconst 4, 1) := by decide +kernel
theorem d_method_3_code_32 : decode method_3_code 32 = .ok (.if_icmp .ne 6, 3) := by decide +kernel
theorem d_method_3_code_35 : decode method_3_code 35 = .ok (.bipush 6, 2) := by decide +kernel
theorem d_method_3_code_37 : decode method_3_code 37 = .ok (.ireturn, 1) := by decide +kernel
theorem d_method_3_code_38 : decode method_3_code 38 = .ok (.iload_n 0, 1) := by decide +kernel
theorem d_method_3_code_39 : decode method_3_code 39 = .ok (.iconst 5, 1) := by decide +kernel
theorem d_method_3_code_40 : decode method_3_code 40 = .ok (.if_icmp .ne 5, 3) := by decide +kernel
theorem d_method_3_code_43 : decode method_3_code 43 = .ok (.iconst 4, 1) := by decide +kernel
theorem d_method_3_code_44 : decode method_3_code 44 = .ok (.ireturn, 1) := by decide +kernel
theorem d_method_3_code_45 : decode method_3_code 45 = .ok (.iload_n 0, 1) := by decide +kernel
theorem d_method_3_code_46 : decode method_3_code 46 = .ok (.bipush 6, 2) := by decide +kernel
theorem d_method_3_code_48 : decode method_3_code 48 = .ok (.if_icmp .ne 5, 3) := by decide +kernel
theorem d_method_3_code_51 : decode method_3_code 51 = .ok (.iconst 4, 1) := by decide +kernel
theorem d_method_3_code_52 : decode method_3_code 52 = .ok (.ireturn, 1) := by decide +kernel
theorem d_method_3_code_53 : decode method_3_code 53 = .ok (.iload_n 0, 1) := by decide +kernel
theorem d_method_3_code_54 : decode method_3_code 54 = .ok (.bipush 7, 2) := by decide +kernel
theorem d_method_3_code_56 : decode method_3_code 56 = .ok (.if_icmp .ne 5, 3) := by decide +kernel
theorem d_method_3_code_59 : decode method_3_code 59 = .ok (.iconst 4, 1) := by decide +kernel
theorem d_method_3_code_60 : decode method_3_code 60 = .ok (.ireturn, 1) := by decide +kernel
theorem d_method_3_code_61 : decode method_3_code 61 = .ok (.iload_n 0, 1) := by decide +kernel
theorem d_method_3_code_62 : decode method_3_code 62 = .ok (.bipush 8, 2) := by decide +kernel
theorem d_method_3_code_64 : decode method_3_code 64 = .ok (.if_icmp .ne 5, 3) := by decide +kernel
theorem d_method_3_code_67 : decode method_3_code 67 = .ok (.iconst 5, 1) := by decide +kernel
theorem d_method_3_code_68 : decode method_3_code 68 = .ok (.ireturn, 1) := by decide +kernel
theorem d_method_3_code_69 : decode method_3_code 69 = .ok (.iload_n 0, 1) := by decide +kernel
theorem d_method_3_code_70 : decode method_3_code 70 = .ok (.bipush 9, 2) := by decide +kernel
theorem d_method_3_code_72 : decode method_3_code 72 = .ok (.if_icmp .ne 5, 3) := by decide +kernel
theorem d_method_3_code_75 : decode method_3_code 75 = .ok (.iconst 3, 1) := by decide +kernel
theorem d_method_3_code_76 : decode method_3_code 76 = .ok (.ireturn, 1) := by decide +kernel
theorem d_method_3_code_77 : decode method_3_code 77 = .ok (.iload_n 0, 1) := by decide +kernel
theorem d_method_3_code_78 : decode method_3_code 78 = .ok (.bipush 10, 2) := by decide +kernel
theorem d_method_3_code_80 : decode method_3_code 80 = .ok (.if_icmp .ne 5, 3) := by decide +kernel
theorem d_method_3_code_83 : decode method_3_code 83 = .ok (.iconst 3, 1) := by decide +kernel
theorem d_method_3_code_84 : decode method_3_code 84 = .ok (.ireturn, 1) := by decide +kernel
theorem d_method_3_code_85 : decode method_3_code 85 = .ok (.iload_n 0, 1) := by decide +kernel
theorem d_method_3_code_86 : decode method_3_code 86 = .ok (.bipush 11, 2) := by decide +kernel
theorem d_method_3_code_88 : decode method_3_code 88 = .ok (.if_icmp .ne 5, 3) := by decide +kernel
theorem d_method_3_code_91 : decode method_3_code 91 = .ok (.iconst 2, 1) := by decide +kernel
theorem d_method_3_code_92 : decode method_3_code 92 = .ok (.ireturn, 1) := by decide +kernel
theorem d_method_3_code_93 : decode method_3_code 93 = .ok (.sipush 32767, 3) := by decide +kernel
theorem d_method_3_code_96 : decode method_3_code 96 = .ok (.ireturn, 1) := by decide +kernel
set_option maxRecDepth 65536 in
set_option maxHeartbeats 40000000 in
theorem rm2 (l : Launch) (Z : State) (a0 : Array Value) (hw : ∀ d ∈ tables_1, d.before a0 Z = true) (ws : List Jvm.Cond) (p1 : Int32)  (h0 : Heap) (n0 : Nat) (Z0 : n0 ≤ h0.size)  :
    Does l (⟨"com/example/groupkeeper/groupkeeper/wire/ApiKeyIsFlexiblePinLaw", "first", "(I)I"⟩ : MethodName) method_3_code 1 (some .int) ws ({ frames := 0, cells := 0, slots := 0, locals := 0 } : Room) #[(.int p1)] Z h0 (fun v h L => v = some (.int (own_first p1 )) ∧ Fr n0 L ∧ h = h0) := by
  refine Does.of (plainFor_of_name pn_com_example_groupkeeper_groupkeeper_wire_ApiKeyIsFlexiblePinLaw) ?_
  intro p e s m below meth c s₁ hx hby hml hret hlk hown0 hnm hZ X0 e0
  have hown : s.vm.findClass "com/example/groupkeeper/groupkeeper/wire/ApiKeyIsFlexiblePinLaw" = some m.cls := hown0
  have N0 := Fr.nil n0
  refine Go.cast (g' := (mkF m 0 #[.val (.int p1)] [])) (by first | rfl | (simp [entryFrame, mkF, argsToLocals, Value.category, maxLocals]; done)) ?_
  refine Go.st (T' := s₁) (g' := (mkF m 1 #[.val (.int p1)] [(.int p1)])) ?_ (fun _ k_ => XS.iloadN X0.here hx rfl (hb hby d_method_3_code_0) rfl k_)
  by_cases hc1 : p1 = (0 : Int32)
  · refine Go.st (T' := s₁) (g' := (mkF m 4 #[.val (.int p1)] [])) ?_ (fun _ k_ => XS.ifNo X0.here hx rfl (hb hby d_method_3_code_1) rfl ((if0 _ _).trans (teq hc1).2) k_)
    refine Go.st (T' := s₁) (g' := (mkF m 6 #[.val (.int p1)] [(.int (9 : Int32))])) ?_ (fun _ k_ => XT.bipushV X0.here hx rfl (9 : Int32) (hb hby d_method_3_code_4) (by decide) k_)
    exact Go.retV (t := .int) X0 hx hret hlk (by decide) (by decide) rfl (Or.inl ⟨rfl, Or.inl rfl, _, rfl⟩) (hb hby d_method_3_code_6) ⟨by rw [own_first, if_pos hc1], N0, e0⟩
  · refine Go.st (T' := s₁) (g' := (mkF m 7 #[.val (.int p1)] [])) ?_ (fun _ k_ => XS.ifYes X0.here hx rfl (pc0 := 1) (pc' := 7) rfl (hb hby d_method_3_code_1) rfl ((if0 _ _).trans (feq hc1).2) (by decide) (by decide) k_)
    refine Go.st (T' := s₁) (g' := (mkF m 8 #[.val (.int p1)] [(.int p1)])) ?_ (fun _ k_ => XS.iloadN X0.here hx rfl (hb hby d_method_3_code_7) rfl k_)
    refine Go.st (T' := s₁) (g' := (mkF m 9 #[.val (.int p1)] [(.int (1 : Int32)), (.int p1)])) ?_ (fun _ k_ => XT.iconstV X0.here hx rfl (1 : Int32) (hb hby d_method_3_code_8) (by decide) k_)
    by_cases hc2 : p1 = (1 : Int32)
    · refine Go.st (T' := s₁) (g' := (mkF m 12 #[.val (.int p1)] [])) ?_ (fun _ k_ => XS.icmpNo X0.here hx rfl (hb hby d_method_3_code_9) rfl (teq hc2).2 k_)
      refine Go.st (T' := s₁) (g' := (mkF m 14 #[.val (.int p1)] [(.int (8 : Int32))])) ?_ (fun _ k_ => XT.bipushV X0.here hx rfl (8 : Int32) (hb hby d_method_3_code_12) (by decide) k_)
      exact Go.retV (t := .int) X0 hx hret hlk (by decide) (by decide) rfl (Or.inl ⟨rfl, Or.inl rfl, _, rfl⟩) (hb hby d_method_3_code_14) ⟨by rw [own_first, if_neg hc1, if_pos hc2], N0, e0⟩
    · refine Go.st (T' := s₁) (g' := (mkF m 15 #[.val (.int p1)] [])) ?_ (fun _ k_ => XS.icmpYes X0.here hx rfl (pc0 := 9) (pc' := 15) rfl (hb hby d_method_3_code_9) rfl (feq hc2).2 (by decide) (by decide) k_)
      refine Go.st (T' := s₁) (g' := (mkF m 16 #[.val (.int p1)] [(.int p1)])) ?_ (fun _ k_ => XS.iloadN X0.here hx rfl (hb hby d_method_3_code_15) rfl k_)
      refine Go.st (T' := s₁) (g' := (mkF m 17 #[.val (.int p1)] [(.int (2 : Int32)), (.int p1)])) ?_ (fun _ k_ => XT.iconstV X0.here hx rfl (2 : Int32) (hb hby d_method_3_code_16) (by decide) k_)
      by_cases hc3 : p1 = (2 : Int32)
      · refine Go.st (T' := s₁) (g' := (mkF m 20 #[.val (.int p1)] [])) ?_ (fun _ k_ => XS.icmpNo X0.here hx rfl (hb hby d_method_3_code_17) rfl (teq hc3).2 k_)
        refine Go.st (T' := s₁) (g' := (mkF m 22 #[.val (.int p1)] [(.int (6 : Int32))])) ?_ (fun _ k_ => XT.bipushV X0.here hx rfl (6 : Int32) (hb hby d_method_3_code_20) (by decide) k_)
        exact Go.retV (t := .int) X0 hx hret hlk (by decide) (by decide) rfl (Or.inl ⟨rfl, Or.inl rfl, _, rfl⟩) (hb hby d_method_3_code_22) ⟨by rw [own_first, if_neg hc1, if_neg hc2, if_pos hc3], N0, e0⟩
      · refine Go.st (T' := s₁) (g' := (mkF m 23 #[.val (.int p1)] [])) ?_ (fun _ k_ => XS.icmpYes X0.here hx rfl (pc0 := 17) (pc' := 23) rfl (hb hby d_method_3_code_17) rfl (feq hc3).2 (by decide) (by decide) k_)
        refine Go.st (T' := s₁) (g' := (mkF m 24 #[.val (.int p1)] [(.int p1)])) ?_ (fun _ k_ => XS.iloadN X0.here hx rfl (hb hby d_method_3_code_23) rfl k_)
        refine Go.st (T' := s₁) (g' := (mkF m 25 #[.val (.int p1)] [(.int (3 : Int32)), (.int p1)])) ?_ (fun _ k_ => XT.iconstV X0.here hx rfl (3 : Int32) (hb hby d_method_3_code_24) (by decide) k_)
        by_cases hc4 : p1 = (3 : Int32)
        · refine Go.st (T' := s₁) (g' := (mkF m 28 #[.val (.int p1)] [])) ?_ (fun _ k_ => XS.icmpNo X0.here hx rfl (hb hby d_method_3_code_25) rfl (teq hc4).2 k_)
          refine Go.st (T' := s₁) (g' := (mkF m 29 #[.val (.int p1)] [(.int (3 : Int32))])) ?_ (fun _ k_ => XT.iconstV X0.here hx rfl (3 : Int32) (hb hby d_method_3_code_28) (by decide) k_)
          exact Go.retV (t := .int) X0 hx hret hlk (by decide) (by decide) rfl (Or.inl ⟨rfl, Or.inl rfl, _, rfl⟩) (hb hby d_method_3_code_29) ⟨by rw [own_first, if_neg hc1, if_neg hc2, if_neg hc3, if_pos hc4], N0, e0⟩
        · refine Go.st (T' := s₁) (g' := (mkF m 30 #[.val (.int p1)] [])) ?_ (fun _ k_ => XS.icmpYes X0.here hx rfl (pc0 := 25) (pc' := 30) rfl (hb hby d_method_3_code_25) rfl (feq hc4).2 (by decide) (by decide) k_)
          refine Go.st (T' := s₁) (g' := (mkF m 31 #[.val (.int p1)] [(.int p1)])) ?_ (fun _ k_ => XS.iloadN X0.here hx rfl (hb hby d_method_3_code_30) rfl k_)
          refine Go.st (T' := s₁) (g' := (mkF m 32 #[.val (.int p1)] [(.int (4 : Int32)), (.int p1)])) ?_ (fun _ k_ => XT.iconstV X0.here hx rfl (4 : Int32) (hb hby d_method_3_code_31) (by decide) k_)
          by_cases hc5 : p1 = (4 : Int32)
          · refine Go.st (T' := s₁) (g' := (mkF m 35 #[.val (.int p1)] [])) ?_ (fun _ k_ => XS.icmpNo X0.here hx rfl (hb hby d_method_3_code_32) rfl (teq hc5).2 k_)
            refine Go.st (T' := s₁) (g' := (mkF m 37 #[.val (.int p1)] [(.int (6 : Int32))])) ?_ (fun _ k_ => XT.bipushV X0.here hx rfl (6 : Int32) (hb hby d_method_3_code_35) (by decide) k_)
            exact Go.retV (t := .int) X0 hx hret hlk (by decide) (by decide) rfl (Or.inl ⟨rfl, Or.inl rfl, _, rfl⟩) (hb hby d_method_3_code_37) ⟨by rw [own_first, if_neg hc1, if_neg hc2, if_neg hc3, if_neg hc4, if_pos hc5], N0, e0⟩
          · refine Go.st (T' := s₁) (g' := (mkF m 38 #[.val (.int p1)] [])) ?_ (fun _ k_ => XS.icmpYes X0.here hx rfl (pc0 := 32) (pc' := 38) rfl (hb hby d_method_3_code_32) rfl (feq hc5).2 (by decide) (by decide) k_)
            refine Go.st (T' := s₁) (g' := (mkF m 39 #[.val (.int p1)] [(.int p1)])) ?_ (fun _ k_ => XS.iloadN X0.here hx rfl (hb hby d_method_3_code_38) rfl k_)
            refine Go.st (T' := s₁) (g' := (mkF m 40 #[.val (.int p1)] [(.int (5 : Int32)), (.int p1)])) ?_ (fun _ k_ => XT.iconstV X0.here hx rfl (5 : Int32) (hb hby d_method_3_code_39) (by decide) k_)
            by_cases hc6 : p1 = (5 : Int32)
            · refine Go.st (T' := s₁) (g' := (mkF m 43 #[.val (.int p1)] [])) ?_ (fun _ k_ => XS.icmpNo X0.here hx rfl (hb hby d_method_3_code_40) rfl (teq hc6).2 k_)
              refine Go.st (T' := s₁) (g' := (mkF m 44 #[.val (.int p1)] [(.int (4 : Int32))])) ?_ (fun _ k_ => XT.iconstV X0.here hx rfl (4 : Int32) (hb hby d_method_3_code_43) (by decide) k_)
              exact Go.retV (t := .int) X0 hx hret hlk (by decide) (by decide) rfl (Or.inl ⟨rfl, Or.inl rfl, _, rfl⟩) (hb hby d_method_3_code_44) ⟨by rw [own_first, if_neg hc1, if_neg hc2, if_neg hc3, if_neg hc4, if_neg hc5, if_pos hc6], N0, e0⟩
            · refine Go.st (T' := s₁) (g' := (mkF m 45 #[.val (.int p1)] [])) ?_ (fun _ k_ => XS.icmpYes X0.here hx rfl (pc0 := 40) (pc' := 45) rfl (hb hby d_method_3_code_40) rfl (feq hc6).2 (by decide) (by decide) k_)
              refine Go.st (T' := s₁) (g' := (mkF m 46 #[.val (.int p1)] [(.int p1)])) ?_ (fun _ k_ => XS.iloadN X0.here hx rfl (hb hby d_method_3_code_45) rfl k_)
              refine Go.st (T' := s₁) (g' := (mkF m 48 #[.val (.int p1)] [(.int (6 : Int32)), (.int p1)])) ?_ (fun _ k_ => XT.bipushV X0.here hx rfl (6 : Int32) (hb hby d_method_3_code_46) (by decide) k_)
              by_cases hc7 : p1 = (6 : Int32)
              · refine Go.st (T' := s₁) (g' := (mkF m 51 #[.val (.int p1)] [])) ?_ (fun _ k_ => XS.icmpNo X0.here hx rfl (hb hby d_method_3_code_48) rfl (teq hc7).2 k_)
                refine Go.st (T' := s₁) (g' := (mkF m 52 #[.val (.int p1)] [(.int (4 : Int32))])) ?_ (fun _ k_ => XT.iconstV X0.here hx rfl (4 : Int32) (hb hby d_method_3_code_51) (by decide) k_)
                exact Go.retV (t := .int) X0 hx hret hlk (by decide) (by decide) rfl (Or.inl ⟨rfl, Or.inl rfl, _, rfl⟩) (hb hby d_method_3_code_52) ⟨by rw [own_first, if_neg hc1, if_neg hc2, if_neg hc3, if_neg hc4, if_neg hc5, if_neg hc6, if_pos hc7], N0, e0⟩
              · refine Go.st (T' := s₁) (g' := (mkF m 53 #[.val (.int p1)] [])) ?_ (fun _ k_ => XS.icmpYes X0.here hx rfl (pc0 := 48) (pc' := 53) rfl (hb hby d_method_3_code_48) rfl (feq hc7).2 (by decide) (by decide) k_)
                refine Go.st (T' := s₁) (g' := (mkF m 54 #[.val (.int p1)] [(.int p1)])) ?_ (fun _ k_ => XS.iloadN X0.here hx rfl (hb hby d_method_3_code_53) rfl k_)
                refine Go.st (T' := s₁) (g' := (mkF m 56 #[.val (.int p1)] [(.int (7 : Int32)), (.int p1)])) ?_ (fun _ k_ => XT.bipushV X0.here hx rfl (7 : Int32) (hb hby d_method_3_code_54) (by decide) k_)
                by_cases hc8 : p1 = (7 : Int32)
                · refine Go.st (T' := s₁) (g' := (mkF m 59 #[.val (.int p1)] [])) ?_ (fun _ k_ => XS.icmpNo X0.here hx rfl (hb hby d_method_3_code_56) rfl (teq hc8).2 k_)
                  refine Go.st (T' := s₁) (g' := (mkF m 60 #[.val (.int p1)] [(.int (4 : Int32))])) ?_ (fun _ k_ => XT.iconstV X0.here hx rfl (4 : Int32) (hb hby d_method_3_code_59) (by decide) k_)
                  exact Go.retV (t := .int) X0 hx hret hlk (by decide) (by decide) rfl (Or.inl ⟨rfl, Or.inl rfl, _, rfl⟩) (hb hby d_method_3_code_60) ⟨by rw [own_first, if_neg hc1, if_neg hc2, if_neg hc3, if_neg hc4, if_neg hc5, if_neg hc6, if_neg hc7, if_pos hc8], N0, e0⟩
                · refine Go.st (T' := s₁) (g' := (mkF m 61 #[.val (.int p1)] [])) ?_ (fun _ k_ => XS.icmpYes X0.here hx rfl (pc0 := 56) (pc' := 61) rfl (hb hby d_method_3_code_56) rfl (feq hc8).2 (by decide) (by decide) k_)
                  refine Go.st (T' := s₁) (g' := (mkF m 62 #[.val (.int p1)] [(.int p1)])) ?_ (fun _ k_ => XS.iloadN X0.here hx rfl (hb hby d_method_3_code_61) rfl k_)
                  refine Go.st (T' := s₁) (g' := (mkF m 64 #[.val (.int p1)] [(.int (8 : Int32)), (.int p1)])) ?_ (fun _ k_ => XT.bipushV X0.here hx rfl (8 : Int32) (hb hby d_method_3_code_62) (by decide) k_)
                  by_cases hc9 : p1 = (8 : Int32)
                  · refine Go.st (T' := s₁) (g' := (mkF m 67 #[.val (.int p1)] [])) ?_ (fun _ k_ => XS.icmpNo X0.here hx rfl (hb hby d_method_3_code_64) rfl (teq hc9).2 k_)
                    refine Go.st (T' := s₁) (g' := (mkF m 68 #[.val (.int p1)] [(.int (5 : Int32))])) ?_ (fun _ k_ => XT.iconstV X0.here hx rfl (5 : Int32) (hb hby d_method_3_code_67) (by decide) k_)
                    exact Go.retV (t := .int) X0 hx hret hlk (by decide) (by decide) rfl (Or.inl ⟨rfl, Or.inl rfl, _, rfl⟩) (hb hby d_method_3_code_68) ⟨by rw [own_first, if_neg hc1, if_neg hc2, if_neg hc3, if_neg hc4, if_neg hc5, if_neg hc6, if_neg hc7, if_neg hc8, if_pos hc9], N0, e0⟩
                  · refine Go.st (T' := s₁) (g' := (mkF m 69 #[.val (.int p1)] [])) ?_ (fun _ k_ => XS.icmpYes X0.here hx rfl (pc0 := 64) (pc' := 69) rfl (hb hby d_method_3_code_64) rfl (feq hc9).2 (by decide) (by decide) k_)
                    refine Go.st (T' := s₁) (g' := (mkF m 70 #[.val (.int p1)] [(.int p1)])) ?_ (fun _ k_ => XS.iloadN X0.here hx rfl (hb hby d_method_3_code_69) rfl k_)
                    refine Go.st (T' := s₁) (g' := (mkF m 72 #[.val (.int p1)] [(.int (9 : Int32)), (.int p1)])) ?_ (fun _ k_ => XT.bipushV X0.here hx rfl (9 : Int32) (hb hby d_method_3_code_70) (by decide) k_)
                    by_cases hc10 : p1 = (9 : Int32)
                    · refine Go.st (T' := s₁) (g' := (mkF m 75 #[.val (.int p1)] [])) ?_ (fun _ k_ => XS.icmpNo X0.here hx rfl (hb hby d_method_3_code_72) rfl (teq hc10).2 k_)
                      refine Go.st (T' := s₁) (g' := (mkF m 76 #[.val (.int p1)] [(.int (3 : Int32))])) ?_ (fun _ k_ => XT.iconstV X0.here hx rfl (3 : Int32) (hb hby d_method_3_code_75) (by decide) k_)
                      exact Go.retV (t := .int) X0 hx hret hlk (by decide) (by decide) rfl (Or.inl ⟨rfl, Or.inl rfl, _, rfl⟩) (hb hby d_method_3_code_76) ⟨by rw [own_first, if_neg hc1, if_neg hc2, if_neg hc3, if_neg hc4, if_neg hc5, if_neg hc6, if_neg hc7, if_neg hc8, if_neg hc9, if_pos hc10], N0, e0⟩
                    · refine Go.st (T' := s₁) (g' := (mkF m 77 #[.val (.int p1)] [])) ?_ (fun _ k_ => XS.icmpYes X0.here hx rfl (pc0 := 72) (pc' := 77) rfl (hb hby d_method_3_code_72) rfl (feq hc10).2 (by decide) (by decide) k_)
                      refine Go.st (T' := s₁) (g' := (mkF m 78 #[.val (.int p1)] [(.int p1)])) ?_ (fun _ k_ => XS.iloadN X0.here hx rfl (hb hby d_method_3_code_77) rfl k_)
                      refine Go.st (T' := s₁) (g' := (mkF m 80 #[.val (.int p1)] [(.int (10 : Int32)), (.int p1)])) ?_ (fun _ k_ => XT.bipushV X0.here hx rfl (10 : Int32) (hb hby d_method_3_code_78) (by decide) k_)
                      by_cases hc11 : p1 = (10 : Int32)
                      · refine Go.st (T' := s₁) (g' := (mkF m 83 #[.val (.int p1)] [])) ?_ (fun _ k_ => XS.icmpNo X0.here hx rfl (hb hby d_method_3_code_80) rfl (teq hc11).2 k_)
                        refine Go.st (T' := s₁) (g' := (mkF m 84 #[.val (.int p1)] [(.int (3 : Int32))])) ?_ (fun _ k_ => XT.iconstV X0.here hx rfl (3 : Int32) (hb hby d_method_3_code_83) (by decide) k_)
                        exact Go.retV (t := .int) X0 hx hret hlk (by decide) (by decide) rfl (Or.inl ⟨rfl, Or.inl rfl, _, rfl⟩) (hb hby d_method_3_code_84) ⟨by rw [own_first, if_neg hc1, if_neg hc2, if_neg hc3, if_neg hc4, if_neg hc5, if_neg hc6, if_neg hc7, if_neg hc8, if_neg hc9, if_neg hc10, if_pos hc11], N0, e0⟩
                      · refine Go.st (T' := s₁) (g' := (mkF m 85 #[.val (.int p1)] [])) ?_ (fun _ k_ => XS.icmpYes X0.here hx rfl (pc0 := 80) (pc' := 85) rfl (hb hby d_method_3_code_80) rfl (feq hc11).2 (by decide) (by decide) k_)
                        refine Go.st (T' := s₁) (g' := (mkF m 86 #[.val (.int p1)] [(.int p1)])) ?_ (fun _ k_ => XS.iloadN X0.here hx rfl (hb hby d_method_3_code_85) rfl k_)
                        refine Go.st (T' := s₁) (g' := (mkF m 88 #[.val (.int p1)] [(.int (11 : Int32)), (.int p1)])) ?_ (fun _ k_ => XT.bipushV X0.here hx rfl (11 : Int32) (hb hby d_method_3_code_86) (by decide) k_)
                        by_cases hc12 : p1 = (11 : Int32)
                        · refine Go.st (T' := s₁) (g' := (mkF m 91 #[.val (.int p1)] [])) ?_ (fun _ k_ => XS.icmpNo X0.here hx rfl (hb hby d_method_3_code_88) rfl (teq hc12).2 k_)
                          refine Go.st (T' := s₁) (g' := (mkF m 92 #[.val (.int p1)] [(.int (2 : Int32))])) ?_ (fun _ k_ => XT.iconstV X0.here hx rfl (2 : Int32) (hb hby d_method_3_code_91) (by decide) k_)
                          exact Go.retV (t := .int) X0 hx hret hlk (by decide) (by decide) rfl (Or.inl ⟨rfl, Or.inl rfl, _, rfl⟩) (hb hby d_method_3_code_92) ⟨by rw [own_first, if_neg hc1, if_neg hc2, if_neg hc3, if_neg hc4, if_neg hc5, if_neg hc6, if_neg hc7, if_neg hc8, if_neg hc9, if_neg hc10, if_neg hc11, if_pos hc12], N0, e0⟩
                        · refine Go.st (T' := s₁) (g' := (mkF m 93 #[.val (.int p1)] [])) ?_ (fun _ k_ => XS.icmpYes X0.here hx rfl (pc0 := 88) (pc' := 93) rfl (hb hby d_method_3_code_88) rfl (feq hc12).2 (by decide) (by decide) k_)
                          refine Go.st (T' := s₁) (g' := (mkF m 96 #[.val (.int p1)] [(.int (32767 : Int32))])) ?_ (fun _ k_ => XT.sipushV X0.here hx rfl (32767 : Int32) (hb hby d_method_3_code_93) (by decide) k_)
                          exact Go.retV (t := .int) X0 hx hret hlk (by decide) (by decide) rfl (Or.inl ⟨rfl, Or.inl rfl, _, rfl⟩) (hb hby d_method_3_code_96) ⟨by rw [own_first, if_neg hc1, if_neg hc2, if_neg hc3, if_neg hc4, if_neg hc5, if_neg hc6, if_neg hc7, if_neg hc8, if_neg hc9, if_neg hc10, if_neg hc11, if_neg hc12], N0, e0⟩
def own_flex (a1 : Addr) (p1 f1 : Int32)  : Int32 := if p1 < f1 then (0 : Int32) else (1 : Int32)
theorem d_prog_104_method_6_code_0 : decode prog_104_method_6_code 0 = .ok (.iload_n 1, 1) := by decide +kernel
theorem d_prog_104_method_6_code_1 : decode prog_104_method_6_code 1 = .ok (.aload_n 0, 1) := by decide +kernel
theorem d_prog_104_method_6_code_2 : decode prog_104_method_6_code 2 = .ok (.getfield 66, 3) := by decide +kernel
theorem d_prog_104_method_6_code_5 : decode prog_104_method_6_code 5 = .ok (.if_icmp .lt 7, 3) := by decide +kernel
theorem d_prog_104_method_6_code_12 : decode prog_104_method_6_code 12 = .ok (.iconst 0, 1) := by decide +kernel
theorem d_prog_104_method_6_code_13 : decode prog_104_method_6_code 13 = .ok (.ireturn, 1) := by decide +kernel
theorem d_prog_104_method_6_code_8 : decode prog_104_method_6_code 8 = .ok (.iconst 1, 1) := by decide +kernel
theorem d_prog_104_method_6_code_9 : decode prog_104_method_6_code 9 = .ok (.goto 4, 3) := by decide +kernel
theorem pn_com_example_groupkeeper_groupkeeper_wire_ApiKey : plainName "com/example/groupkeeper/groupkeeper/wire/ApiKey" = true := by first | (simp [plainName, overriddenIn]; done) | decide +kernel
set_option maxRecDepth 65536 in
set_option maxHeartbeats 40000000 in
theorem rm3 (l : Launch) (Z : State) (a0 : Array Value) (hw : ∀ d ∈ tables_1, d.before a0 Z = true) (ws : List Jvm.Cond) (a1 : Addr) (p1 f1 : Int32)  (h0 : Heap) (n0 : Nat) (Z0 : n0 ≤ h0.size)  (G_f1 : Fld Z h0 a1 "com/example/groupkeeper/groupkeeper/wire/ApiKey" "firstFlexibleVersion" "S" (.int f1)) :
    Does l (⟨"com/example/groupkeeper/groupkeeper/wire/ApiKey", "isFlexible", "(S)Z"⟩ : MethodName) prog_104_method_6_code 2 (some .boolean) ws ({ frames := 0, cells := 0, slots := 0, locals := 0 } : Room) #[(.ref a1), (.int p1)] Z h0 (fun v h L => v = some (.int (own_flex a1 p1 f1 )) ∧ Fr n0 L ∧ h = h0) := by
  refine Does.of (plainFor_of_name pn_com_example_groupkeeper_groupkeeper_wire_ApiKey) ?_
  intro p e s m below meth c s₁ hx hby hml hret hlk hown0 hnm hZ X0 e0
  have hown : s.vm.findClass "com/example/groupkeeper/groupkeeper/wire/ApiKey" = some m.cls := hown0
  have N0 := Fr.nil n0
  refine Go.cast (g' := (mkF m 0 #[.val (.ref a1), .val (.int p1)] [])) (by first | rfl | (simp [entryFrame, mkF, argsToLocals, Value.category, maxLocals]; done)) ?_
  refine Go.st (T' := s₁) (g' := (mkF m 1 #[.val (.ref a1), .val (.int p1)] [(.int p1)])) ?_ (fun _ k_ => XS.iloadN X0.here hx rfl (hb hby d_prog_104_method_6_code_0) rfl k_)
  refine Go.st (T' := s₁) (g' := (mkF m 2 #[.val (.ref a1), .val (.int p1)] [(.ref a1), (.int p1)])) ?_ (fun _ k_ => XS.aloadN X0.here hx rfl (hb hby d_prog_104_method_6_code_1) rfl rfl k_)
  obtain ⟨T1, X1, e1, st1⟩ := getF X0 hx hZ hown (host := "") (Or.inl (hw _ (List.mem_of_getElem? (i := 16) rfl))) Via.refl e0 G_f1 (g := (mkF m 2 #[.val (.ref a1), .val (.int p1)] [(.ref a1), (.int p1)])) rfl rfl (hb hby d_prog_104_method_6_code_2)
  refine Go.st (T' := T1) (g' := (mkF m 5 #[.val (.ref a1), .val (.int p1)] [(.int f1), (.int p1)])) ?_ st1
  by_cases hc2 : p1 < f1
  · refine Go.st (T' := T1) (g' := (mkF m 12 #[.val (.ref a1), .val (.int p1)] [])) ?_ (fun _ k_ => XS.icmpYes X1.here hx rfl (pc0 := 5) (pc' := 12) rfl (hb hby d_prog_104_method_6_code_5) rfl (tlt hc2).1 (by decide) (by decide) k_)
    refine Go.st (T' := T1) (g' := (mkF m 13 #[.val (.ref a1), .val (.int p1)] [(.int (0 : Int32))])) ?_ (fun _ k_ => XT.iconstV X1.here hx rfl (0 : Int32) (hb hby d_prog_104_method_6_code_12) (by decide) k_)
    exact Go.retV (t := .boolean) X1 hx hret hlk (by decide) (by decide) rfl (Or.inl ⟨rfl, Or.inr (Or.inl rfl), _, rfl⟩) (hb hby d_prog_104_method_6_code_13) ⟨by rw [own_flex, if_pos hc2], N0, e1⟩
  · refine Go.st (T' := T1) (g' := (mkF m 8 #[.val (.ref a1), .val (.int p1)] [])) ?_ (fun _ k_ => XS.icmpNo X1.here hx rfl (hb hby d_prog_104_method_6_code_5) rfl (flt hc2).1 k_)
    refine Go.st (T' := T1) (g' := (mkF m 9 #[.val (.ref a1), .val (.int p1)] [(.int (1 : Int32))])) ?_ (fun _ k_ => XT.iconstV X1.here hx rfl (1 : Int32) (hb hby d_prog_104_method_6_code_8) (by decide) k_)
    refine Go.st (T' := T1) (g' := (mkF m 13 #[.val (.ref a1), .val (.int p1)] [(.int (1 : Int32))])) ?_ (fun _ k_ => XS.goto X1.here hx rfl (pc0 := 9) (pc' := 13) rfl (hb hby d_prog_104_method_6_code_9) (by decide) (by decide) k_)
    exact Go.retV (t := .boolean) X1 hx hret hlk (by decide) (by decide) rfl (Or.inl ⟨rfl, Or.inr (Or.inl rfl), _, rfl⟩) (hb hby d_prog_104_method_6_code_13) ⟨by rw [own_flex, if_neg hc2], N0, e1⟩
theorem own_k (p : Int32) : (p &&& 2147483647) % 13 = 0 ∨ (p &&& 2147483647) % 13 = 1 ∨ (p &&& 2147483647) % 13 = 2 ∨ (p &&& 2147483647) % 13 = 3 ∨ (p &&& 2147483647) % 13 = 4 ∨ (p &&& 2147483647) % 13 = 5 ∨ (p &&& 2147483647) % 13 = 6 ∨ (p &&& 2147483647) % 13 = 7 ∨ (p &&& 2147483647) % 13 = 8 ∨ (p &&& 2147483647) % 13 = 9 ∨ (p &&& 2147483647) % 13 = 10 ∨ (p &&& 2147483647) % 13 = 11 ∨ (p &&& 2147483647) % 13 = 12 := by
  have h1 := c_mask p 2147483647 31 (by decide) (by decide)
  have h2 := (c_irem (p &&& 2147483647) 13 13 (by decide)).1 (by rw [h1]; omega)
  simp only [← Int32.toInt_inj, h2, h1]
  have e0 : (0 : Int32).toInt = 0 := by decide
  have e1 : (1 : Int32).toInt = 1 := by decide
  have e2 : (2 : Int32).toInt = 2 := by decide
  have e3 : (3 : Int32).toInt = 3 := by decide
  have e4 : (4 : Int32).toInt = 4 := by decide
  have e5 : (5 : Int32).toInt = 5 := by decide
  have e6 : (6 : Int32).toInt = 6 := by decide
  have e7 : (7 : Int32).toInt = 7 := by decide
  have e8 : (8 : Int32).toInt = 8 := by decide
  have e9 : (9 : Int32).toInt = 9 := by decide
  have e10 : (10 : Int32).toInt = 10 := by decide
  have e11 : (11 : Int32).toInt = 11 := by decide
  have e12 : (12 : Int32).toInt = 12 := by decide
  simp only [e0, e1, e2, e3, e4, e5, e6, e7, e8, e9, e10, e11, e12]
  omega
theorem own_b (p : Int32) : p &&& 1 = 0 ∨ p &&& 1 = 1 := by
  have h1 := c_mask p 1 1 (by decide) (by decide)
  simp only [← Int32.toInt_inj, h1]
  have e0 : (0 : Int32).toInt = 0 := by decide
  have e1 : (1 : Int32).toInt = 1 := by decide
  simp only [e0, e1]
  omega
theorem own_both (Z : State) (h : Heap) (w_METADATA w_OFFSET_COMMIT w_DESCRIBE_GROUPS w_SYNC_GROUP w_API_VERSIONS w_DELETE_GROUPS w_FIND_COORDINATOR w_OFFSET_DELETE w_JOIN_GROUP w_HEARTBEAT w_OFFSET_FETCH w_LEAVE_GROUP w_LIST_GROUPS : Addr) (FF : own_F Z h w_METADATA w_OFFSET_COMMIT w_DESCRIBE_GROUPS w_SYNC_GROUP w_API_VERSIONS w_DELETE_GROUPS w_FIND_COORDINATOR w_OFFSET_DELETE w_JOIN_GROUP w_HEARTBEAT w_OFFSET_FETCH w_LEAVE_GROUP w_LIST_GROUPS) (k : Int32) (hk : k = 0 ∨ k = 1 ∨ k = 2 ∨ k = 3 ∨ k = 4 ∨ k = 5 ∨ k = 6 ∨ k = 7 ∨ k = 8 ∨ k = 9 ∨ k = 10 ∨ k = 11 ∨ k = 12) : ∃ (a : Addr) (t : Int32), own_key k w_METADATA w_OFFSET_COMMIT w_DESCRIBE_GROUPS w_SYNC_GROUP w_API_VERSIONS w_DELETE_GROUPS w_FIND_COORDINATOR w_OFFSET_DELETE w_JOIN_GROUP w_HEARTBEAT w_OFFSET_FETCH w_LEAVE_GROUP w_LIST_GROUPS = a ∧ own_first k = t ∧ Exa Z h a "com/example/groupkeeper/groupkeeper/wire/ApiKey" ∧ Fld Z h a "com/example/groupkeeper/groupkeeper/wire/ApiKey" "firstFlexibleVersion" "S" (.int t) := by
  obtain ⟨S_METADATA, S_OFFSET_COMMIT, S_DESCRIBE_GROUPS, S_SYNC_GROUP, S_API_VERSIONS, S_DELETE_GROUPS, S_FIND_COORDINATOR, S_OFFSET_DELETE, S_JOIN_GROUP, S_HEARTBEAT, S_OFFSET_FETCH, S_LEAVE_GROUP, S_LIST_GROUPS, A_METADATA, A_OFFSET_COMMIT, A_DESCRIBE_GROUPS, A_SYNC_GROUP, A_API_VERSIONS, A_DELETE_GROUPS, A_FIND_COORDINATOR, A_OFFSET_DELETE, A_JOIN_GROUP, A_HEARTBEAT, A_OFFSET_FETCH, A_LEAVE_GROUP, A_LIST_GROUPS, F_METADATA_firstFlexibleVersion, F_OFFSET_COMMIT_firstFlexibleVersion, F_DESCRIBE_GROUPS_firstFlexibleVersion, F_SYNC_GROUP_firstFlexibleVersion, F_API_VERSIONS_firstFlexibleVersion, F_DELETE_GROUPS_firstFlexibleVersion, F_FIND_COORDINATOR_firstFlexibleVersion, F_OFFSET_DELETE_firstFlexibleVersion, F_JOIN_GROUP_firstFlexibleVersion, F_HEARTBEAT_firstFlexibleVersion, F_OFFSET_FETCH_firstFlexibleVersion, F_LEAVE_GROUP_firstFlexibleVersion, F_LIST_GROUPS_firstFlexibleVersion⟩ := FF
  rcases hk with rfl | rfl | rfl | rfl | rfl | rfl | rfl | rfl | rfl | rfl | rfl | rfl | rfl
  · exact ⟨w_METADATA, (9 : Int32), by rw [own_key, if_pos (by decide)], by rw [own_first, if_pos (by decide)], A_METADATA, F_METADATA_firstFlexibleVersion⟩
  · exact ⟨w_OFFSET_COMMIT, (8 : Int32), by rw [own_key, if_neg (by decide), if_pos (by decide)], by rw [own_first, if_neg (by decide), if_pos (by decide)], A_OFFSET_COMMIT, F_OFFSET_COMMIT_firstFlexibleVersion⟩
  · exact ⟨w_OFFSET_FETCH, (6 : Int32), by rw [own_key, if_neg (by decide), if_neg (by decide), if_pos (by decide)], by rw [own_first, if_neg (by decide), if_neg (by decide), if_pos (by decide)], A_OFFSET_FETCH, F_OFFSET_FETCH_firstFlexibleVersion⟩
  · exact ⟨w_FIND_COORDINATOR, (3 : Int32), by rw [own_key, if_neg (by decide), if_neg (by decide), if_neg (by decide), if_pos (by decide)], by rw [own_first, if_neg (by decide), if_neg (by decide), if_neg (by decide), if_pos (by decide)], A_FIND_COORDINATOR, F_FIND_COORDINATOR_firstFlexibleVersion⟩
  · exact ⟨w_JOIN_GROUP, (6 : Int32), by rw [own_key, if_neg (by decide), if_neg (by decide), if_neg (by decide), if_neg (by decide), if_pos (by decide)], by rw [own_first, if_neg (by decide), if_neg (by decide), if_neg (by decide), if_neg (by decide), if_pos (by decide)], A_JOIN_GROUP, F_JOIN_GROUP_firstFlexibleVersion⟩
  · exact ⟨w_HEARTBEAT, (4 : Int32), by rw [own_key, if_neg (by decide), if_neg (by decide), if_neg (by decide), if_neg (by decide), if_neg (by decide), if_pos (by decide)], by rw [own_first, if_neg (by decide), if_neg (by decide), if_neg (by decide), if_neg (by decide), if_neg (by decide), if_pos (by decide)], A_HEARTBEAT, F_HEARTBEAT_firstFlexibleVersion⟩
  · exact ⟨w_LEAVE_GROUP, (4 : Int32), by rw [own_key, if_neg (by decide), if_neg (by decide), if_neg (by decide), if_neg (by decide), if_neg (by decide), if_neg (by decide), if_pos (by decide)], by rw [own_first, if_neg (by decide), if_neg (by decide), if_neg (by decide), if_neg (by decide), if_neg (by decide), if_neg (by decide), if_pos (by decide)], A_LEAVE_GROUP, F_LEAVE_GROUP_firstFlexibleVersion⟩
  · exact ⟨w_SYNC_GROUP, (4 : Int32), by rw [own_key, if_neg (by decide), if_neg (by decide), if_neg (by decide), if_neg (by decide), if_neg (by decide), if_neg (by decide), if_neg (by decide), if_pos (by decide)], by rw [own_first, if_neg (by decide), if_neg (by decide), if_neg (by decide), if_neg (by decide), if_neg (by decide), if_neg (by decide), if_neg (by decide), if_pos (by decide)], A_SYNC_GROUP, F_SYNC_GROUP_firstFlexibleVersion⟩
  · exact ⟨w_DESCRIBE_GROUPS, (5 : Int32), by rw [own_key, if_neg (by decide), if_neg (by decide), if_neg (by decide), if_neg (by decide), if_neg (by decide), if_neg (by decide), if_neg (by decide), if_neg (by decide), if_pos (by decide)], by rw [own_first, if_neg (by decide), if_neg (by decide), if_neg (by decide), if_neg (by decide), if_neg (by decide), if_neg (by decide), if_neg (by decide), if_neg (by decide), if_pos (by decide)], A_DESCRIBE_GROUPS, F_DESCRIBE_GROUPS_firstFlexibleVersion⟩
  · exact ⟨w_LIST_GROUPS, (3 : Int32), by rw [own_key, if_neg (by decide), if_neg (by decide), if_neg (by decide), if_neg (by decide), if_neg (by decide), if_neg (by decide), if_neg (by decide), if_neg (by decide), if_neg (by decide), if_pos (by decide)], by rw [own_first, if_neg (by decide), if_neg (by decide), if_neg (by decide), if_neg (by decide), if_neg (by decide), if_neg (by decide), if_neg (by decide), if_neg (by decide), if_neg (by decide), if_pos (by decide)], A_LIST_GROUPS, F_LIST_GROUPS_firstFlexibleVersion⟩
  · exact ⟨w_API_VERSIONS, (3 : Int32), by rw [own_key, if_neg (by decide), if_neg (by decide), if_neg (by decide), if_neg (by decide), if_neg (by decide), if_neg (by decide), if_neg (by decide), if_neg (by decide), if_neg (by decide), if_neg (by decide), if_pos (by decide)], by rw [own_first, if_neg (by decide), if_neg (by decide), if_neg (by decide), if_neg (by decide), if_neg (by decide), if_neg (by decide), if_neg (by decide), if_neg (by decide), if_neg (by decide), if_neg (by decide), if_pos (by decide)], A_API_VERSIONS, F_API_VERSIONS_firstFlexibleVersion⟩
  · exact ⟨w_DELETE_GROUPS, (2 : Int32), by rw [own_key, if_neg (by decide), if_neg (by decide), if_neg (by decide), if_neg (by decide), if_neg (by decide), if_neg (by decide), if_neg (by decide), if_neg (by decide), if_neg (by decide), if_neg (by decide), if_neg (by decide), if_pos (by decide)], by rw [own_first, if_neg (by decide), if_neg (by decide), if_neg (by decide), if_neg (by decide), if_neg (by decide), if_neg (by decide), if_neg (by decide), if_neg (by decide), if_neg (by decide), if_neg (by decide), if_neg (by decide), if_pos (by decide)], A_DELETE_GROUPS, F_DELETE_GROUPS_firstFlexibleVersion⟩
  · exact ⟨w_OFFSET_DELETE, (32767 : Int32), by rw [own_key, if_neg (by decide), if_neg (by decide), if_neg (by decide), if_neg (by decide), if_neg (by decide), if_neg (by decide), if_neg (by decide), if_neg (by decide), if_neg (by decide), if_neg (by decide), if_neg (by decide), if_neg (by decide)], by rw [own_first, if_neg (by decide), if_neg (by decide), if_neg (by decide), if_neg (by decide), if_neg (by decide), if_neg (by decide), if_neg (by decide), if_neg (by decide), if_neg (by decide), if_neg (by decide), if_neg (by decide), if_neg (by decide)], A_OFFSET_DELETE, F_OFFSET_DELETE_firstFlexibleVersion⟩
theorem pd__I_Lcom_example_groupkeeper_groupkeeper_wire_ApiKey_ : parseMethodDescriptor "(I)Lcom/example/groupkeeper/groupkeeper/wire/ApiKey;" = some ⟨[.int], some (.object "com/example/groupkeeper/groupkeeper/wire/ApiKey")⟩ := by decide +kernel
theorem pd__I_I : parseMethodDescriptor "(I)I" = some ⟨[.int], some .int⟩ := by decide +kernel
theorem pd__S_Z : parseMethodDescriptor "(S)Z" = some ⟨[.short], some .boolean⟩ := by decide +kernel
set_option maxRecDepth 65536 in
set_option maxHeartbeats 40000000 in
theorem rm0 (l : Launch) (Z : State) (a0 : Array Value) (hw : ∀ d ∈ tables_1, d.before a0 Z = true) (ws : List Jvm.Cond) (p1 p2 p3 : Int32) (w_METADATA w_OFFSET_COMMIT w_DESCRIBE_GROUPS w_SYNC_GROUP w_API_VERSIONS w_DELETE_GROUPS w_FIND_COORDINATOR w_OFFSET_DELETE w_JOIN_GROUP w_HEARTBEAT w_OFFSET_FETCH w_LEAVE_GROUP w_LIST_GROUPS : Addr) (h0 : Heap) (n0 : Nat) (Z0 : n0 ≤ h0.size) (FF : own_F Z h0 w_METADATA w_OFFSET_COMMIT w_DESCRIBE_GROUPS w_SYNC_GROUP w_API_VERSIONS w_DELETE_GROUPS w_FIND_COORDINATOR w_OFFSET_DELETE w_JOIN_GROUP w_HEARTBEAT w_OFFSET_FETCH w_LEAVE_GROUP w_LIST_GROUPS) :
    Does l x code maxLocals ret ws room_1 #[(.int p1), (.int p2), (.int p3)] Z h0 (fun v h L => v = some (.int 1) ∧ Fr n0 L) := by
  refine Does.of (plainFor_of_name pn_com_example_groupkeeper_groupkeeper_wire_ApiKeyIsFlexiblePinLaw) ?_
  intro p e s m below meth c s₁ hx hby hml hret hlk hown0 hnm hZ X0 e0
  have hown : s.vm.findClass "com/example/groupkeeper/groupkeeper/wire/ApiKeyIsFlexiblePinLaw" = some m.cls := hown0
  have N0 := Fr.nil n0
  have FF0 := FF
  refine Go.cast (g' := (mkF m 0 #[.val (.int p1), .val (.int p2), .val (.int p3), .unset, .unset, .unset, .unset, .unset] [])) (by first | rfl | (simp [entryFrame, mkF, argsToLocals, Value.category, maxLocals]; done)) ?_
  refine Go.st (T' := s₁) (g' := (mkF m 1 #[.val (.int p1), .val (.int p2), .val (.int p3), .unset, .unset, .unset, .unset, .unset] [(.int p1)])) ?_ (fun _ k_ => XS.iloadN X0.here hx rfl (hb hby at_0) rfl k_)
  refine Go.st (T' := s₁) (g' := (mkF m 3 #[.val (.int p1), .val (.int p2), .val (.int p3), .unset, .unset, .unset, .unset, .unset] [(.int (2147483647 : Int32)), (.int p1)])) ?_ (fun _ k_ => X0.ldcI hx hown (mvT hZ (hw _ (List.mem_of_getElem? (i := 0) rfl))) rfl (hb hby at_1) k_)
  refine Go.st (T' := s₁) (g' := (mkF m 4 #[.val (.int p1), .val (.int p2), .val (.int p3), .unset, .unset, .unset, .unset, .unset] [(.int (p1 &&& (2147483647 : Int32)))])) ?_ (fun _ k_ => XS.iand X0.here hx rfl (hb hby at_3) rfl k_)
  refine Go.st (T' := s₁) (g' := (mkF m 6 #[.val (.int p1), .val (.int p2), .val (.int p3), .unset, .unset, .unset, .unset, .unset] [(.int (13 : Int32)), (.int (p1 &&& (2147483647 : Int32)))])) ?_ (fun _ k_ => XT.bipushV X0.here hx rfl (13 : Int32) (hb hby at_4) (by decide) k_)
  refine Go.st (T' := s₁) (g' := (mkF m 7 #[.val (.int p1), .val (.int p2), .val (.int p3), .unset, .unset, .unset, .unset, .unset] [(.int ((p1 &&& (2147483647 : Int32)) % (13 : Int32)))])) ?_ (fun _ k_ => iremM X0 hx rfl (hb hby at_6) rfl (by decide) k_)
  have hk := own_k p1
  generalize ((p1 &&& (2147483647 : Int32)) % (13 : Int32)) = k at *
  obtain ⟨a, t, ha, ht, A, F⟩ := own_both Z h0 w_METADATA w_OFFSET_COMMIT w_DESCRIBE_GROUPS w_SYNC_GROUP w_API_VERSIONS w_DELETE_GROUPS w_FIND_COORDINATOR w_OFFSET_DELETE w_JOIN_GROUP w_HEARTBEAT w_OFFSET_FETCH w_LEAVE_GROUP w_LIST_GROUPS FF0 k hk
  refine Go.st (T' := s₁) (g' := (mkF m 8 #[.val (.int p1), .val (.int p2), .val (.int p3), .val (.int k), .unset, .unset, .unset, .unset] [])) ?_ (fun _ k_ => XS.istoreN X0.here hx rfl (hb hby at_7) rfl (l' := #[.val (.int p1), .val (.int p2), .val (.int p3), .val (.int k), .unset, .unset, .unset, .unset]) rfl k_)
  refine Go.st (T' := s₁) (g' := (mkF m 9 #[.val (.int p1), .val (.int p2), .val (.int p3), .val (.int k), .unset, .unset, .unset, .unset] [(.int k)])) ?_ (fun _ k_ => XS.iloadN X0.here hx rfl (hb hby at_8) rfl k_)
  refine Go.callS X0 hx hZ hown (hw _ (List.mem_of_getElem? (i := 1) rfl)) (hw _ (List.mem_of_getElem? (i := 2) rfl)) (hw _ (List.mem_of_getElem? (i := 3) rfl)) (hw _ (List.mem_of_getElem? (i := 4) rfl)) (by decide) (rm1 l Z a0 hw [] k w_METADATA w_OFFSET_COMMIT w_DESCRIBE_GROUPS w_SYNC_GROUP w_API_VERSIONS w_DELETE_GROUPS w_FIND_COORDINATOR w_OFFSET_DELETE w_JOIN_GROUP w_HEARTBEAT w_OFFSET_FETCH w_LEAVE_GROUP w_LIST_GROUPS h0 n0 Z0 FF0 ) e0 (by decide) (W := 0) (by decide) (by decide) (by decide) (g := (mkF m 9 #[.val (.int p1), .val (.int p2), .val (.int p3), .val (.int k), .unset, .unset, .unset, .unset] [(.int k)])) (rest := []) rfl (by rw [hml]; rfl) (lenOf pd__I_Lcom_example_groupkeeper_groupkeeper_wire_ApiKey_ rfl) rfl (by show 2 * 0 + _ ≤ _; exact Nat.le_of_eq rfl) (hb hby at_9) ?_
  rintro v1 T1 L1 X1 ⟨rfl, N1, e1⟩
  have M1 := Fr.app N0 N1
  rw [ha]
  show Go p e below _ T1 (mkF m 12 #[.val (.int p1), .val (.int p2), .val (.int p3), .val (.int k), .unset, .unset, .unset, .unset] [(.ref a)])
  refine Go.st (T' := T1) (g' := (mkF m 14 #[.val (.int p1), .val (.int p2), .val (.int p3), .val (.int k), .val (.ref a), .unset, .unset, .unset] [])) ?_ (fun _ k_ => XS.astore X1.here hx rfl (hb hby at_12) rfl rfl (l' := #[.val (.int p1), .val (.int p2), .val (.int p3), .val (.int k), .val (.ref a), .unset, .unset, .unset]) rfl k_)
  refine Go.st (T' := T1) (g' := (mkF m 15 #[.val (.int p1), .val (.int p2), .val (.int p3), .val (.int k), .val (.ref a), .unset, .unset, .unset] [(.int k)])) ?_ (fun _ k_ => XS.iloadN X1.here hx rfl (hb hby at_14) rfl k_)
  refine Go.callS X1 hx hZ hown (hw _ (List.mem_of_getElem? (i := 8) rfl)) (hw _ (List.mem_of_getElem? (i := 9) rfl)) (hw _ (List.mem_of_getElem? (i := 3) rfl)) (hw _ (List.mem_of_getElem? (i := 10) rfl)) (by decide) (rm2 l Z a0 hw [] k  h0 n0 Z0 ) e1 (by decide) (W := 0) (by decide) (by decide) (by decide) (g := (mkF m 15 #[.val (.int p1), .val (.int p2), .val (.int p3), .val (.int k), .val (.ref a), .unset, .unset, .unset] [(.int k)])) (rest := []) rfl (by rw [hml]; rfl) (lenOf pd__I_I rfl) rfl (by show 2 * 0 + _ ≤ _; exact Nat.le_of_eq rfl) (hb hby at_15) ?_
  rintro v2 T2 L2 X2 ⟨rfl, N2, e2⟩
  have M2 := Fr.app M1 N2
  rw [ht]
  show Go p e below _ T2 (mkF m 18 #[.val (.int p1), .val (.int p2), .val (.int p3), .val (.int k), .val (.ref a), .unset, .unset, .unset] [(.int t)])
  refine Go.st (T' := T2) (g' := (mkF m 20 #[.val (.int p1), .val (.int p2), .val (.int p3), .val (.int k), .val (.ref a), .val (.int t), .unset, .unset] [])) ?_ (fun _ k_ => XS.istore X2.here hx rfl (hb hby at_18) rfl (l' := #[.val (.int p1), .val (.int p2), .val (.int p3), .val (.int k), .val (.ref a), .val (.int t), .unset, .unset]) rfl k_)
  refine Go.st (T' := T2) (g' := (mkF m 21 #[.val (.int p1), .val (.int p2), .val (.int p3), .val (.int k), .val (.ref a), .val (.int t), .unset, .unset] [(.int p3)])) ?_ (fun _ k_ => XS.iloadN X2.here hx rfl (hb hby at_20) rfl k_)
  refine Go.st (T' := T2) (g' := (mkF m 22 #[.val (.int p1), .val (.int p2), .val (.int p3), .val (.int k), .val (.ref a), .val (.int t), .unset, .unset] [(.int (1 : Int32)), (.int p3)])) ?_ (fun _ k_ => XT.iconstV X2.here hx rfl (1 : Int32) (hb hby at_21) (by decide) k_)
  refine Go.st (T' := T2) (g' := (mkF m 23 #[.val (.int p1), .val (.int p2), .val (.int p3), .val (.int k), .val (.ref a), .val (.int t), .unset, .unset] [(.int (p3 &&& (1 : Int32)))])) ?_ (fun _ k_ => XS.iand X2.here hx rfl (hb hby at_22) rfl k_)
  rcases own_b p3 with hm | hm
  · rw [hm]
    refine Go.st (T' := T2) (g' := (mkF m 33 #[.val (.int p1), .val (.int p2), .val (.int p3), .val (.int k), .val (.ref a), .val (.int t), .unset, .unset] [])) ?_ (fun _ k_ => XS.ifYes X2.here hx rfl (pc0 := 23) (pc' := 33) rfl (hb hby at_23) rfl (by decide) (by decide) (by decide) k_)
    refine Go.st (T' := T2) (g' := (mkF m 35 #[.val (.int p1), .val (.int p2), .val (.int p3), .val (.int k), .val (.ref a), .val (.int t), .unset, .unset] [(.int t)])) ?_ (fun _ k_ => XS.iload X2.here hx rfl (hb hby at_33) rfl k_)
    refine Go.st (T' := T2) (g' := (mkF m 36 #[.val (.int p1), .val (.int p2), .val (.int p3), .val (.int k), .val (.ref a), .val (.int t), .unset, .unset] [(.int p2), (.int t)])) ?_ (fun _ k_ => XS.iloadN X2.here hx rfl (hb hby at_35) rfl k_)
    refine Go.st (T' := T2) (g' := (mkF m 37 #[.val (.int p1), .val (.int p2), .val (.int p3), .val (.int k), .val (.ref a), .val (.int t), .unset, .unset] [(.int (3 : Int32)), (.int p2), (.int t)])) ?_ (fun _ k_ => XT.iconstV X2.here hx rfl (3 : Int32) (hb hby at_36) (by decide) k_)
    refine Go.st (T' := T2) (g' := (mkF m 38 #[.val (.int p1), .val (.int p2), .val (.int p3), .val (.int k), .val (.ref a), .val (.int t), .unset, .unset] [(.int (p2 &&& (3 : Int32))), (.int t)])) ?_ (fun _ k_ => XS.iand X2.here hx rfl (hb hby at_37) rfl k_)
    refine Go.st (T' := T2) (g' := (mkF m 39 #[.val (.int p1), .val (.int p2), .val (.int p3), .val (.int k), .val (.ref a), .val (.int t), .unset, .unset] [(.int (2 : Int32)), (.int (p2 &&& (3 : Int32))), (.int t)])) ?_ (fun _ k_ => XT.iconstV X2.here hx rfl (2 : Int32) (hb hby at_38) (by decide) k_)
    refine Go.st (T' := T2) (g' := (mkF m 40 #[.val (.int p1), .val (.int p2), .val (.int p3), .val (.int k), .val (.ref a), .val (.int t), .unset, .unset] [(.int ((p2 &&& (3 : Int32)) - (2 : Int32))), (.int t)])) ?_ (fun _ k_ => XS.isub X2.here hx rfl (hb hby at_39) rfl k_)
    refine Go.st (T' := T2) (g' := (mkF m 41 #[.val (.int p1), .val (.int p2), .val (.int p3), .val (.int k), .val (.ref a), .val (.int t), .unset, .unset] [(.int (t + ((p2 &&& (3 : Int32)) - (2 : Int32))))])) ?_ (fun _ k_ => XS.iadd X2.here hx rfl (hb hby at_40) rfl k_)
    refine Go.st (T' := T2) (g' := (mkF m 42 #[.val (.int p1), .val (.int p2), .val (.int p3), .val (.int k), .val (.ref a), .val (.int t), .unset, .unset] [(.int (t + ((p2 &&& (3 : Int32)) - (2 : Int32))).toInt16.toInt32)])) ?_ (fun _ k_ => XT.i2s X2.here hx rfl (hb hby at_41) rfl k_)
    generalize (t + ((p2 &&& (3 : Int32)) - (2 : Int32))).toInt16.toInt32 = ver at *
    refine Go.st (T' := T2) (g' := (mkF m 44 #[.val (.int p1), .val (.int p2), .val (.int p3), .val (.int k), .val (.ref a), .val (.int t), .val (.int ver), .unset] [])) ?_ (fun _ k_ => XS.istore X2.here hx rfl (hb hby at_42) rfl (l' := #[.val (.int p1), .val (.int p2), .val (.int p3), .val (.int k), .val (.ref a), .val (.int t), .val (.int ver), .unset]) rfl k_)
    refine Go.st (T' := T2) (g' := (mkF m 46 #[.val (.int p1), .val (.int p2), .val (.int p3), .val (.int k), .val (.ref a), .val (.int t), .val (.int ver), .unset] [(.int ver)])) ?_ (fun _ k_ => XS.iload X2.here hx rfl (hb hby at_44) rfl k_)
    refine Go.st (T' := T2) (g' := (mkF m 48 #[.val (.int p1), .val (.int p2), .val (.int p3), .val (.int k), .val (.ref a), .val (.int t), .val (.int ver), .unset] [(.int t), (.int ver)])) ?_ (fun _ k_ => XS.iload X2.here hx rfl (hb hby at_46) rfl k_)
    by_cases hc3 : ver < t
    · refine Go.st (T' := T2) (g' := (mkF m 55 #[.val (.int p1), .val (.int p2), .val (.int p3), .val (.int k), .val (.ref a), .val (.int t), .val (.int ver), .unset] [])) ?_ (fun _ k_ => XS.icmpYes X2.here hx rfl (pc0 := 48) (pc' := 55) rfl (hb hby at_48) rfl (tlt hc3).1 (by decide) (by decide) k_)
      refine Go.st (T' := T2) (g' := (mkF m 56 #[.val (.int p1), .val (.int p2), .val (.int p3), .val (.int k), .val (.ref a), .val (.int t), .val (.int ver), .unset] [(.int (0 : Int32))])) ?_ (fun _ k_ => XT.iconstV X2.here hx rfl (0 : Int32) (hb hby at_55) (by decide) k_)
      refine Go.st (T' := T2) (g' := (mkF m 58 #[.val (.int p1), .val (.int p2), .val (.int p3), .val (.int k), .val (.ref a), .val (.int t), .val (.int ver), .val (.int (0 : Int32))] [])) ?_ (fun _ k_ => XS.istore X2.here hx rfl (hb hby at_56) rfl (l' := #[.val (.int p1), .val (.int p2), .val (.int p3), .val (.int k), .val (.ref a), .val (.int t), .val (.int ver), .val (.int (0 : Int32))]) rfl k_)
      refine Go.st (T' := T2) (g' := (mkF m 60 #[.val (.int p1), .val (.int p2), .val (.int p3), .val (.int k), .val (.ref a), .val (.int t), .val (.int ver), .val (.int (0 : Int32))] [(.ref a)])) ?_ (fun _ k_ => XS.aload X2.here hx rfl (hb hby at_58) rfl rfl k_)
      refine Go.st (T' := T2) (g' := (mkF m 62 #[.val (.int p1), .val (.int p2), .val (.int p3), .val (.int k), .val (.ref a), .val (.int t), .val (.int ver), .val (.int (0 : Int32))] [(.int ver), (.ref a)])) ?_ (fun _ k_ => XS.iload X2.here hx rfl (hb hby at_60) rfl k_)
      refine Go.callV X2 hx hZ hown (hw _ (List.mem_of_getElem? (i := 11) rfl)) (hw _ (List.mem_of_getElem? (i := 12) rfl)) (hw _ (List.mem_of_getElem? (i := 14) rfl)) (hw _ (List.mem_of_getElem? (i := 13) rfl)) (hw _ (List.mem_of_getElem? (i := 6) rfl)) (hw _ (List.mem_of_getElem? (i := 15) rfl)) (by decide) A (rm3 l Z a0 hw [] a ver t  h0 n0 Z0  F) e2 (by decide) (W := 0) (by decide) (by decide) (by decide) (g := (mkF m 62 #[.val (.int p1), .val (.int p2), .val (.int p3), .val (.int k), .val (.ref a), .val (.int t), .val (.int ver), .val (.int (0 : Int32))] [(.int ver), (.ref a)])) (rest := []) rfl (by rw [hml]; rfl) (lenOf pd__S_Z rfl) rfl (by show 2 * 0 + _ ≤ _; exact Nat.le_of_eq rfl) (hb hby at_62) ?_
      rintro v4 T4 L4 X4 ⟨rfl, N4, e4⟩
      have M4 := Fr.app M2 N4
      rw [show own_flex a ver t  = (0 : Int32) from by rw [own_flex, if_pos (hc3 : ver < t)]]
      show Go p e below _ T4 (mkF m 65 #[.val (.int p1), .val (.int p2), .val (.int p3), .val (.int k), .val (.ref a), .val (.int t), .val (.int ver), .val (.int (0 : Int32))] [(.int (0 : Int32))])
      refine Go.st (T' := T4) (g' := (mkF m 67 #[.val (.int p1), .val (.int p2), .val (.int p3), .val (.int k), .val (.ref a), .val (.int t), .val (.int ver), .val (.int (0 : Int32))] [(.int (0 : Int32)), (.int (0 : Int32))])) ?_ (fun _ k_ => XS.iload X4.here hx rfl (hb hby at_65) rfl k_)
      refine Go.st (T' := T4) (g' := (mkF m 70 #[.val (.int p1), .val (.int p2), .val (.int p3), .val (.int k), .val (.ref a), .val (.int t), .val (.int ver), .val (.int (0 : Int32))] [])) ?_ (fun _ k_ => XS.icmpNo X4.here hx rfl (hb hby at_67) rfl (by decide) k_)
      refine Go.st (T' := T4) (g' := (mkF m 71 #[.val (.int p1), .val (.int p2), .val (.int p3), .val (.int k), .val (.ref a), .val (.int t), .val (.int ver), .val (.int (0 : Int32))] [(.int (1 : Int32))])) ?_ (fun _ k_ => XT.iconstV X4.here hx rfl (1 : Int32) (hb hby at_70) (by decide) k_)
      refine Go.st (T' := T4) (g' := (mkF m 75 #[.val (.int p1), .val (.int p2), .val (.int p3), .val (.int k), .val (.ref a), .val (.int t), .val (.int ver), .val (.int (0 : Int32))] [(.int (1 : Int32))])) ?_ (fun _ k_ => XS.goto X4.here hx rfl (pc0 := 71) (pc' := 75) rfl (hb hby at_71) (by decide) (by decide) k_)
      exact Go.retV (t := .boolean) X4 hx hret hlk (by decide) (by decide) rfl (Or.inl ⟨rfl, Or.inr (Or.inl rfl), _, rfl⟩) (hb hby at_75) ⟨rfl, M4⟩
    · refine Go.st (T' := T2) (g' := (mkF m 51 #[.val (.int p1), .val (.int p2), .val (.int p3), .val (.int k), .val (.ref a), .val (.int t), .val (.int ver), .unset] [])) ?_ (fun _ k_ => XS.icmpNo X2.here hx rfl (hb hby at_48) rfl (flt hc3).1 k_)
      refine Go.st (T' := T2) (g' := (mkF m 52 #[.val (.int p1), .val (.int p2), .val (.int p3), .val (.int k), .val (.ref a), .val (.int t), .val (.int ver), .unset] [(.int (1 : Int32))])) ?_ (fun _ k_ => XT.iconstV X2.here hx rfl (1 : Int32) (hb hby at_51) (by decide) k_)
      refine Go.st (T' := T2) (g' := (mkF m 56 #[.val (.int p1), .val (.int p2), .val (.int p3), .val (.int k), .val (.ref a), .val (.int t), .val (.int ver), .unset] [(.int (1 : Int32))])) ?_ (fun _ k_ => XS.goto X2.here hx rfl (pc0 := 52) (pc' := 56) rfl (hb hby at_52) (by decide) (by decide) k_)
      refine Go.st (T' := T2) (g' := (mkF m 58 #[.val (.int p1), .val (.int p2), .val (.int p3), .val (.int k), .val (.ref a), .val (.int t), .val (.int ver), .val (.int (1 : Int32))] [])) ?_ (fun _ k_ => XS.istore X2.here hx rfl (hb hby at_56) rfl (l' := #[.val (.int p1), .val (.int p2), .val (.int p3), .val (.int k), .val (.ref a), .val (.int t), .val (.int ver), .val (.int (1 : Int32))]) rfl k_)
      refine Go.st (T' := T2) (g' := (mkF m 60 #[.val (.int p1), .val (.int p2), .val (.int p3), .val (.int k), .val (.ref a), .val (.int t), .val (.int ver), .val (.int (1 : Int32))] [(.ref a)])) ?_ (fun _ k_ => XS.aload X2.here hx rfl (hb hby at_58) rfl rfl k_)
      refine Go.st (T' := T2) (g' := (mkF m 62 #[.val (.int p1), .val (.int p2), .val (.int p3), .val (.int k), .val (.ref a), .val (.int t), .val (.int ver), .val (.int (1 : Int32))] [(.int ver), (.ref a)])) ?_ (fun _ k_ => XS.iload X2.here hx rfl (hb hby at_60) rfl k_)
      refine Go.callV X2 hx hZ hown (hw _ (List.mem_of_getElem? (i := 11) rfl)) (hw _ (List.mem_of_getElem? (i := 12) rfl)) (hw _ (List.mem_of_getElem? (i := 14) rfl)) (hw _ (List.mem_of_getElem? (i := 13) rfl)) (hw _ (List.mem_of_getElem? (i := 6) rfl)) (hw _ (List.mem_of_getElem? (i := 15) rfl)) (by decide) A (rm3 l Z a0 hw [] a ver t  h0 n0 Z0  F) e2 (by decide) (W := 0) (by decide) (by decide) (by decide) (g := (mkF m 62 #[.val (.int p1), .val (.int p2), .val (.int p3), .val (.int k), .val (.ref a), .val (.int t), .val (.int ver), .val (.int (1 : Int32))] [(.int ver), (.ref a)])) (rest := []) rfl (by rw [hml]; rfl) (lenOf pd__S_Z rfl) rfl (by show 2 * 0 + _ ≤ _; exact Nat.le_of_eq rfl) (hb hby at_62) ?_
      rintro v5 T5 L5 X5 ⟨rfl, N5, e5⟩
      have M5 := Fr.app M2 N5
      rw [show own_flex a ver t  = (1 : Int32) from by rw [own_flex, if_neg (hc3 : ¬ ver < t)]]
      show Go p e below _ T5 (mkF m 65 #[.val (.int p1), .val (.int p2), .val (.int p3), .val (.int k), .val (.ref a), .val (.int t), .val (.int ver), .val (.int (1 : Int32))] [(.int (1 : Int32))])
      refine Go.st (T' := T5) (g' := (mkF m 67 #[.val (.int p1), .val (.int p2), .val (.int p3), .val (.int k), .val (.ref a), .val (.int t), .val (.int ver), .val (.int (1 : Int32))] [(.int (1 : Int32)), (.int (1 : Int32))])) ?_ (fun _ k_ => XS.iload X5.here hx rfl (hb hby at_65) rfl k_)
      refine Go.st (T' := T5) (g' := (mkF m 70 #[.val (.int p1), .val (.int p2), .val (.int p3), .val (.int k), .val (.ref a), .val (.int t), .val (.int ver), .val (.int (1 : Int32))] [])) ?_ (fun _ k_ => XS.icmpNo X5.here hx rfl (hb hby at_67) rfl (by decide) k_)
      refine Go.st (T' := T5) (g' := (mkF m 71 #[.val (.int p1), .val (.int p2), .val (.int p3), .val (.int k), .val (.ref a), .val (.int t), .val (.int ver), .val (.int (1 : Int32))] [(.int (1 : Int32))])) ?_ (fun _ k_ => XT.iconstV X5.here hx rfl (1 : Int32) (hb hby at_70) (by decide) k_)
      refine Go.st (T' := T5) (g' := (mkF m 75 #[.val (.int p1), .val (.int p2), .val (.int p3), .val (.int k), .val (.ref a), .val (.int t), .val (.int ver), .val (.int (1 : Int32))] [(.int (1 : Int32))])) ?_ (fun _ k_ => XS.goto X5.here hx rfl (pc0 := 71) (pc' := 75) rfl (hb hby at_71) (by decide) (by decide) k_)
      exact Go.retV (t := .boolean) X5 hx hret hlk (by decide) (by decide) rfl (Or.inl ⟨rfl, Or.inr (Or.inl rfl), _, rfl⟩) (hb hby at_75) ⟨rfl, M5⟩
  · rw [hm]
    refine Go.st (T' := T2) (g' := (mkF m 26 #[.val (.int p1), .val (.int p2), .val (.int p3), .val (.int k), .val (.ref a), .val (.int t), .unset, .unset] [])) ?_ (fun _ k_ => XS.ifNo X2.here hx rfl (hb hby at_23) rfl (by decide) k_)
    refine Go.st (T' := T2) (g' := (mkF m 27 #[.val (.int p1), .val (.int p2), .val (.int p3), .val (.int k), .val (.ref a), .val (.int t), .unset, .unset] [(.int p2)])) ?_ (fun _ k_ => XS.iloadN X2.here hx rfl (hb hby at_26) rfl k_)
    refine Go.st (T' := T2) (g' := (mkF m 28 #[.val (.int p1), .val (.int p2), .val (.int p3), .val (.int k), .val (.ref a), .val (.int t), .unset, .unset] [(.int p2.toInt16.toInt32)])) ?_ (fun _ k_ => XT.i2s X2.here hx rfl (hb hby at_27) rfl k_)
    generalize p2.toInt16.toInt32 = ver at *
    refine Go.st (T' := T2) (g' := (mkF m 30 #[.val (.int p1), .val (.int p2), .val (.int p3), .val (.int k), .val (.ref a), .val (.int t), .val (.int ver), .unset] [])) ?_ (fun _ k_ => XS.istore X2.here hx rfl (hb hby at_28) rfl (l' := #[.val (.int p1), .val (.int p2), .val (.int p3), .val (.int k), .val (.ref a), .val (.int t), .val (.int ver), .unset]) rfl k_)
    refine Go.st (T' := T2) (g' := (mkF m 44 #[.val (.int p1), .val (.int p2), .val (.int p3), .val (.int k), .val (.ref a), .val (.int t), .val (.int ver), .unset] [])) ?_ (fun _ k_ => XS.goto X2.here hx rfl (pc0 := 30) (pc' := 44) rfl (hb hby at_30) (by decide) (by decide) k_)
    refine Go.st (T' := T2) (g' := (mkF m 46 #[.val (.int p1), .val (.int p2), .val (.int p3), .val (.int k), .val (.ref a), .val (.int t), .val (.int ver), .unset] [(.int ver)])) ?_ (fun _ k_ => XS.iload X2.here hx rfl (hb hby at_44) rfl k_)
    refine Go.st (T' := T2) (g' := (mkF m 48 #[.val (.int p1), .val (.int p2), .val (.int p3), .val (.int k), .val (.ref a), .val (.int t), .val (.int ver), .unset] [(.int t), (.int ver)])) ?_ (fun _ k_ => XS.iload X2.here hx rfl (hb hby at_46) rfl k_)
    by_cases hc6 : ver < t
    · refine Go.st (T' := T2) (g' := (mkF m 55 #[.val (.int p1), .val (.int p2), .val (.int p3), .val (.int k), .val (.ref a), .val (.int t), .val (.int ver), .unset] [])) ?_ (fun _ k_ => XS.icmpYes X2.here hx rfl (pc0 := 48) (pc' := 55) rfl (hb hby at_48) rfl (tlt hc6).1 (by decide) (by decide) k_)
      refine Go.st (T' := T2) (g' := (mkF m 56 #[.val (.int p1), .val (.int p2), .val (.int p3), .val (.int k), .val (.ref a), .val (.int t), .val (.int ver), .unset] [(.int (0 : Int32))])) ?_ (fun _ k_ => XT.iconstV X2.here hx rfl (0 : Int32) (hb hby at_55) (by decide) k_)
      refine Go.st (T' := T2) (g' := (mkF m 58 #[.val (.int p1), .val (.int p2), .val (.int p3), .val (.int k), .val (.ref a), .val (.int t), .val (.int ver), .val (.int (0 : Int32))] [])) ?_ (fun _ k_ => XS.istore X2.here hx rfl (hb hby at_56) rfl (l' := #[.val (.int p1), .val (.int p2), .val (.int p3), .val (.int k), .val (.ref a), .val (.int t), .val (.int ver), .val (.int (0 : Int32))]) rfl k_)
      refine Go.st (T' := T2) (g' := (mkF m 60 #[.val (.int p1), .val (.int p2), .val (.int p3), .val (.int k), .val (.ref a), .val (.int t), .val (.int ver), .val (.int (0 : Int32))] [(.ref a)])) ?_ (fun _ k_ => XS.aload X2.here hx rfl (hb hby at_58) rfl rfl k_)
      refine Go.st (T' := T2) (g' := (mkF m 62 #[.val (.int p1), .val (.int p2), .val (.int p3), .val (.int k), .val (.ref a), .val (.int t), .val (.int ver), .val (.int (0 : Int32))] [(.int ver), (.ref a)])) ?_ (fun _ k_ => XS.iload X2.here hx rfl (hb hby at_60) rfl k_)
      refine Go.callV X2 hx hZ hown (hw _ (List.mem_of_getElem? (i := 11) rfl)) (hw _ (List.mem_of_getElem? (i := 12) rfl)) (hw _ (List.mem_of_getElem? (i := 14) rfl)) (hw _ (List.mem_of_getElem? (i := 13) rfl)) (hw _ (List.mem_of_getElem? (i := 6) rfl)) (hw _ (List.mem_of_getElem? (i := 15) rfl)) (by decide) A (rm3 l Z a0 hw [] a ver t  h0 n0 Z0  F) e2 (by decide) (W := 0) (by decide) (by decide) (by decide) (g := (mkF m 62 #[.val (.int p1), .val (.int p2), .val (.int p3), .val (.int k), .val (.ref a), .val (.int t), .val (.int ver), .val (.int (0 : Int32))] [(.int ver), (.ref a)])) (rest := []) rfl (by rw [hml]; rfl) (lenOf pd__S_Z rfl) rfl (by show 2 * 0 + _ ≤ _; exact Nat.le_of_eq rfl) (hb hby at_62) ?_
      rintro v7 T7 L7 X7 ⟨rfl, N7, e7⟩
      have M7 := Fr.app M2 N7
      rw [show own_flex a ver t  = (0 : Int32) from by rw [own_flex, if_pos (hc6 : ver < t)]]
      show Go p e below _ T7 (mkF m 65 #[.val (.int p1), .val (.int p2), .val (.int p3), .val (.int k), .val (.ref a), .val (.int t), .val (.int ver), .val (.int (0 : Int32))] [(.int (0 : Int32))])
      refine Go.st (T' := T7) (g' := (mkF m 67 #[.val (.int p1), .val (.int p2), .val (.int p3), .val (.int k), .val (.ref a), .val (.int t), .val (.int ver), .val (.int (0 : Int32))] [(.int (0 : Int32)), (.int (0 : Int32))])) ?_ (fun _ k_ => XS.iload X7.here hx rfl (hb hby at_65) rfl k_)
      refine Go.st (T' := T7) (g' := (mkF m 70 #[.val (.int p1), .val (.int p2), .val (.int p3), .val (.int k), .val (.ref a), .val (.int t), .val (.int ver), .val (.int (0 : Int32))] [])) ?_ (fun _ k_ => XS.icmpNo X7.here hx rfl (hb hby at_67) rfl (by decide) k_)
      refine Go.st (T' := T7) (g' := (mkF m 71 #[.val (.int p1), .val (.int p2), .val (.int p3), .val (.int k), .val (.ref a), .val (.int t), .val (.int ver), .val (.int (0 : Int32))] [(.int (1 : Int32))])) ?_ (fun _ k_ => XT.iconstV X7.here hx rfl (1 : Int32) (hb hby at_70) (by decide) k_)
      refine Go.st (T' := T7) (g' := (mkF m 75 #[.val (.int p1), .val (.int p2), .val (.int p3), .val (.int k), .val (.ref a), .val (.int t), .val (.int ver), .val (.int (0 : Int32))] [(.int (1 : Int32))])) ?_ (fun _ k_ => XS.goto X7.here hx rfl (pc0 := 71) (pc' := 75) rfl (hb hby at_71) (by decide) (by decide) k_)
      exact Go.retV (t := .boolean) X7 hx hret hlk (by decide) (by decide) rfl (Or.inl ⟨rfl, Or.inr (Or.inl rfl), _, rfl⟩) (hb hby at_75) ⟨rfl, M7⟩
    · refine Go.st (T' := T2) (g' := (mkF m 51 #[.val (.int p1), .val (.int p2), .val (.int p3), .val (.int k), .val (.ref a), .val (.int t), .val (.int ver), .unset] [])) ?_ (fun _ k_ => XS.icmpNo X2.here hx rfl (hb hby at_48) rfl (flt hc6).1 k_)
      refine Go.st (T' := T2) (g' := (mkF m 52 #[.val (.int p1), .val (.int p2), .val (.int p3), .val (.int k), .val (.ref a), .val (.int t), .val (.int ver), .unset] [(.int (1 : Int32))])) ?_ (fun _ k_ => XT.iconstV X2.here hx rfl (1 : Int32) (hb hby at_51) (by decide) k_)
      refine Go.st (T' := T2) (g' := (mkF m 56 #[.val (.int p1), .val (.int p2), .val (.int p3), .val (.int k), .val (.ref a), .val (.int t), .val (.int ver), .unset] [(.int (1 : Int32))])) ?_ (fun _ k_ => XS.goto X2.here hx rfl (pc0 := 52) (pc' := 56) rfl (hb hby at_52) (by decide) (by decide) k_)
      refine Go.st (T' := T2) (g' := (mkF m 58 #[.val (.int p1), .val (.int p2), .val (.int p3), .val (.int k), .val (.ref a), .val (.int t), .val (.int ver), .val (.int (1 : Int32))] [])) ?_ (fun _ k_ => XS.istore X2.here hx rfl (hb hby at_56) rfl (l' := #[.val (.int p1), .val (.int p2), .val (.int p3), .val (.int k), .val (.ref a), .val (.int t), .val (.int ver), .val (.int (1 : Int32))]) rfl k_)
      refine Go.st (T' := T2) (g' := (mkF m 60 #[.val (.int p1), .val (.int p2), .val (.int p3), .val (.int k), .val (.ref a), .val (.int t), .val (.int ver), .val (.int (1 : Int32))] [(.ref a)])) ?_ (fun _ k_ => XS.aload X2.here hx rfl (hb hby at_58) rfl rfl k_)
      refine Go.st (T' := T2) (g' := (mkF m 62 #[.val (.int p1), .val (.int p2), .val (.int p3), .val (.int k), .val (.ref a), .val (.int t), .val (.int ver), .val (.int (1 : Int32))] [(.int ver), (.ref a)])) ?_ (fun _ k_ => XS.iload X2.here hx rfl (hb hby at_60) rfl k_)
      refine Go.callV X2 hx hZ hown (hw _ (List.mem_of_getElem? (i := 11) rfl)) (hw _ (List.mem_of_getElem? (i := 12) rfl)) (hw _ (List.mem_of_getElem? (i := 14) rfl)) (hw _ (List.mem_of_getElem? (i := 13) rfl)) (hw _ (List.mem_of_getElem? (i := 6) rfl)) (hw _ (List.mem_of_getElem? (i := 15) rfl)) (by decide) A (rm3 l Z a0 hw [] a ver t  h0 n0 Z0  F) e2 (by decide) (W := 0) (by decide) (by decide) (by decide) (g := (mkF m 62 #[.val (.int p1), .val (.int p2), .val (.int p3), .val (.int k), .val (.ref a), .val (.int t), .val (.int ver), .val (.int (1 : Int32))] [(.int ver), (.ref a)])) (rest := []) rfl (by rw [hml]; rfl) (lenOf pd__S_Z rfl) rfl (by show 2 * 0 + _ ≤ _; exact Nat.le_of_eq rfl) (hb hby at_62) ?_
      rintro v8 T8 L8 X8 ⟨rfl, N8, e8⟩
      have M8 := Fr.app M2 N8
      rw [show own_flex a ver t  = (1 : Int32) from by rw [own_flex, if_neg (hc6 : ¬ ver < t)]]
      show Go p e below _ T8 (mkF m 65 #[.val (.int p1), .val (.int p2), .val (.int p3), .val (.int k), .val (.ref a), .val (.int t), .val (.int ver), .val (.int (1 : Int32))] [(.int (1 : Int32))])
      refine Go.st (T' := T8) (g' := (mkF m 67 #[.val (.int p1), .val (.int p2), .val (.int p3), .val (.int k), .val (.ref a), .val (.int t), .val (.int ver), .val (.int (1 : Int32))] [(.int (1 : Int32)), (.int (1 : Int32))])) ?_ (fun _ k_ => XS.iload X8.here hx rfl (hb hby at_65) rfl k_)
      refine Go.st (T' := T8) (g' := (mkF m 70 #[.val (.int p1), .val (.int p2), .val (.int p3), .val (.int k), .val (.ref a), .val (.int t), .val (.int ver), .val (.int (1 : Int32))] [])) ?_ (fun _ k_ => XS.icmpNo X8.here hx rfl (hb hby at_67) rfl (by decide) k_)
      refine Go.st (T' := T8) (g' := (mkF m 71 #[.val (.int p1), .val (.int p2), .val (.int p3), .val (.int k), .val (.ref a), .val (.int t), .val (.int ver), .val (.int (1 : Int32))] [(.int (1 : Int32))])) ?_ (fun _ k_ => XT.iconstV X8.here hx rfl (1 : Int32) (hb hby at_70) (by decide) k_)
      refine Go.st (T' := T8) (g' := (mkF m 75 #[.val (.int p1), .val (.int p2), .val (.int p3), .val (.int k), .val (.ref a), .val (.int t), .val (.int ver), .val (.int (1 : Int32))] [(.int (1 : Int32))])) ?_ (fun _ k_ => XS.goto X8.here hx rfl (pc0 := 71) (pc' := 75) rfl (hb hby at_71) (by decide) (by decide) k_)
      exact Go.retV (t := .boolean) X8 hx hret hlk (by decide) (by decide) rfl (Or.inl ⟨rfl, Or.inr (Or.inl rfl), _, rfl⟩) (hb hby at_75) ⟨rfl, M8⟩
set_option maxRecDepth 65536 in
set_option maxHeartbeats 40000000 in
theorem comes_1 {Post : Tables → Env → Array Value → State → Outcome → State → Prop} (hpost : ∀ tb e args s v u, (limb_1_1.after args s (.returned v) u = true ∧ limb_1_2.after args s (.returned v) u = true ∧ True) → FrameEnd s (.returned v) u (Jvm.fieldLocs frame_1_writes args s ++ Jvm.arrayLocs frame_1_arrays args s ++ Jvm.staticLocs frame_1_statics s) 0 0 → Post tb e args s (.returned v) u) :
    ArmFor flags0 classFile x code maxLocals ret World_1 tables_1 room_1 Calls_1 rest_1 Pre_1 Post := by
  intro l hfl _ _ p e ha hc hk s m args below hf hA hF happ hP
  obtain ⟨hcalls, hrest, hpre⟩ := hP
  obtain ⟨-, -, -, hnamed, -, -, -, hat⟩ := (Spec.applies_iff hf).mp happ
  obtain ⟨hg, hn⟩ := and_e (Cond.before_iff.mp (show (Jvm.Cond.and given_1 narrow_1).before args s = true from hpre))
  obtain ⟨g0, hg⟩ := and_e hg
  obtain ⟨g1, hg⟩ := and_e hg
  obtain ⟨g2, hg⟩ := and_e hg
  obtain ⟨w0, w1, w2, rfl⟩ : ∃ w0 w1 w2 : Value, args = #[w0, w1, w2] := by
    have hs : args.size = 3 := by simpa [Cond.value, given_1] using g0
    obtain ⟨L⟩ := args
    match L, hs with
    | [w0, w1, w2], _ => exact ⟨w0, w1, w2, rfl⟩
  have hw := fun d (hd : d ∈ tables_1) => atoms_spec (ws := Jvm.Cond.code x code maxLocals ret :: tables_1) hat d (List.mem_cons_of_mem _ hd)
  obtain ⟨i0, ei0⟩ := is_v g1
  obtain rfl : w0 = (.int i0) := Option.some.inj ei0
  obtain ⟨i1, ei1⟩ := is_v g2
  obtain rfl : w1 = (.int i1) := Option.some.inj ei1
  obtain ⟨i2, ei2⟩ := is_v hg
  obtain rfl : w2 = (.int i2) := Option.some.inj ei2
  obtain ⟨f1a, f1b⟩ := and_e hn
  obtain ⟨f2a, f2b⟩ := and_e f1b
  obtain ⟨f3a, f3b⟩ := and_e f2b
  obtain ⟨f4a, f4b⟩ := and_e f3b
  obtain ⟨f5a, f5b⟩ := and_e f4b
  obtain ⟨f6a, f6b⟩ := and_e f5b
  obtain ⟨f7a, f7b⟩ := and_e f6b
  obtain ⟨f8a, f8b⟩ := and_e f7b
  obtain ⟨f9a, f9b⟩ := and_e f8b
  obtain ⟨f10a, f10b⟩ := and_e f9b
  obtain ⟨f11a, f11b⟩ := and_e f10b
  obtain ⟨f12a, f12b⟩ := and_e f11b
  obtain ⟨f13a, f13b⟩ := and_e f12b
  obtain ⟨f14a, f14b⟩ := and_e f13b
  obtain ⟨f15a, f15b⟩ := and_e f14b
  obtain ⟨f16a, f16b⟩ := and_e f15b
  obtain ⟨f17a, f17b⟩ := and_e f16b
  obtain ⟨f18a, f18b⟩ := and_e f17b
  obtain ⟨f19a, f19b⟩ := and_e f18b
  obtain ⟨f20a, f20b⟩ := and_e f19b
  obtain ⟨f21a, f21b⟩ := and_e f20b
  obtain ⟨f22a, f22b⟩ := and_e f21b
  obtain ⟨f23a, f23b⟩ := and_e f22b
  obtain ⟨f24a, f24b⟩ := and_e f23b
  obtain ⟨f25a, f25b⟩ := and_e f24b
  obtain ⟨w_METADATA, ev_METADATA⟩ := exa_v f1a
  have S_METADATA := Sta.start ev_METADATA (Or.inr ⟨(hw _ (List.mem_of_getElem? (i := 6) rfl)), (hw _ (List.mem_of_getElem? (i := 7) rfl))⟩)
  have A_METADATA := Exa.start ev_METADATA f1a
  obtain ⟨w_OFFSET_COMMIT, ev_OFFSET_COMMIT⟩ := exa_v f3a
  have S_OFFSET_COMMIT := Sta.start ev_OFFSET_COMMIT (Or.inr ⟨(hw _ (List.mem_of_getElem? (i := 6) rfl)), (hw _ (List.mem_of_getElem? (i := 19) rfl))⟩)
  have A_OFFSET_COMMIT := Exa.start ev_OFFSET_COMMIT f3a
  obtain ⟨w_DESCRIBE_GROUPS, ev_DESCRIBE_GROUPS⟩ := exa_v f5a
  have S_DESCRIBE_GROUPS := Sta.start ev_DESCRIBE_GROUPS (Or.inr ⟨(hw _ (List.mem_of_getElem? (i := 6) rfl)), (hw _ (List.mem_of_getElem? (i := 21) rfl))⟩)
  have A_DESCRIBE_GROUPS := Exa.start ev_DESCRIBE_GROUPS f5a
  obtain ⟨w_SYNC_GROUP, ev_SYNC_GROUP⟩ := exa_v f7a
  have S_SYNC_GROUP := Sta.start ev_SYNC_GROUP (Or.inr ⟨(hw _ (List.mem_of_getElem? (i := 6) rfl)), (hw _ (List.mem_of_getElem? (i := 23) rfl))⟩)
  have A_SYNC_GROUP := Exa.start ev_SYNC_GROUP f7a
  obtain ⟨w_API_VERSIONS, ev_API_VERSIONS⟩ := exa_v f9a
  have S_API_VERSIONS := Sta.start ev_API_VERSIONS (Or.inr ⟨(hw _ (List.mem_of_getElem? (i := 6) rfl)), (hw _ (List.mem_of_getElem? (i := 25) rfl))⟩)
  have A_API_VERSIONS := Exa.start ev_API_VERSIONS f9a
  obtain ⟨w_DELETE_GROUPS, ev_DELETE_GROUPS⟩ := exa_v f11a
  have S_DELETE_GROUPS := Sta.start ev_DELETE_GROUPS (Or.inr ⟨(hw _ (List.mem_of_getElem? (i := 6) rfl)), (hw _ (List.mem_of_getElem? (i := 27) rfl))⟩)
  have A_DELETE_GROUPS := Exa.start ev_DELETE_GROUPS f11a
  obtain ⟨w_FIND_COORDINATOR, ev_FIND_COORDINATOR⟩ := exa_v f13a
  have S_FIND_COORDINATOR := Sta.start ev_FIND_COORDINATOR (Or.inr ⟨(hw _ (List.mem_of_getElem? (i := 6) rfl)), (hw _ (List.mem_of_getElem? (i := 29) rfl))⟩)
  have A_FIND_COORDINATOR := Exa.start ev_FIND_COORDINATOR f13a
  obtain ⟨w_OFFSET_DELETE, ev_OFFSET_DELETE⟩ := exa_v f15a
  have S_OFFSET_DELETE := Sta.start ev_OFFSET_DELETE (Or.inr ⟨(hw _ (List.mem_of_getElem? (i := 6) rfl)), (hw _ (List.mem_of_getElem? (i := 31) rfl))⟩)
  have A_OFFSET_DELETE := Exa.start ev_OFFSET_DELETE f15a
  obtain ⟨w_JOIN_GROUP, ev_JOIN_GROUP⟩ := exa_v f17a
  have S_JOIN_GROUP := Sta.start ev_JOIN_GROUP (Or.inr ⟨(hw _ (List.mem_of_getElem? (i := 6) rfl)), (hw _ (List.mem_of_getElem? (i := 33) rfl))⟩)
  have A_JOIN_GROUP := Exa.start ev_JOIN_GROUP f17a
  obtain ⟨w_HEARTBEAT, ev_HEARTBEAT⟩ := exa_v f19a
  have S_HEARTBEAT := Sta.start ev_HEARTBEAT (Or.inr ⟨(hw _ (List.mem_of_getElem? (i := 6) rfl)), (hw _ (List.mem_of_getElem? (i := 35) rfl))⟩)
  have A_HEARTBEAT := Exa.start ev_HEARTBEAT f19a
  obtain ⟨w_OFFSET_FETCH, ev_OFFSET_FETCH⟩ := exa_v f21a
  have S_OFFSET_FETCH := Sta.start ev_OFFSET_FETCH (Or.inr ⟨(hw _ (List.mem_of_getElem? (i := 6) rfl)), (hw _ (List.mem_of_getElem? (i := 37) rfl))⟩)
  have A_OFFSET_FETCH := Exa.start ev_OFFSET_FETCH f21a
  obtain ⟨w_LEAVE_GROUP, ev_LEAVE_GROUP⟩ := exa_v f23a
  have S_LEAVE_GROUP := Sta.start ev_LEAVE_GROUP (Or.inr ⟨(hw _ (List.mem_of_getElem? (i := 6) rfl)), (hw _ (List.mem_of_getElem? (i := 39) rfl))⟩)
  have A_LEAVE_GROUP := Exa.start ev_LEAVE_GROUP f23a
  obtain ⟨w_LIST_GROUPS, ev_LIST_GROUPS⟩ := exa_v f25a
  have S_LIST_GROUPS := Sta.start ev_LIST_GROUPS (Or.inr ⟨(hw _ (List.mem_of_getElem? (i := 6) rfl)), (hw _ (List.mem_of_getElem? (i := 41) rfl))⟩)
  have A_LIST_GROUPS := Exa.start ev_LIST_GROUPS f25a
  have F_METADATA_firstFlexibleVersion := own_fldInt ev_METADATA f2a
  have F_OFFSET_COMMIT_firstFlexibleVersion := own_fldInt ev_OFFSET_COMMIT f4a
  have F_DESCRIBE_GROUPS_firstFlexibleVersion := own_fldInt ev_DESCRIBE_GROUPS f6a
  have F_SYNC_GROUP_firstFlexibleVersion := own_fldInt ev_SYNC_GROUP f8a
  have F_API_VERSIONS_firstFlexibleVersion := own_fldInt ev_API_VERSIONS f10a
  have F_DELETE_GROUPS_firstFlexibleVersion := own_fldInt ev_DELETE_GROUPS f12a
  have F_FIND_COORDINATOR_firstFlexibleVersion := own_fldInt ev_FIND_COORDINATOR f14a
  have F_OFFSET_DELETE_firstFlexibleVersion := own_fldInt ev_OFFSET_DELETE f16a
  have F_JOIN_GROUP_firstFlexibleVersion := own_fldInt ev_JOIN_GROUP f18a
  have F_HEARTBEAT_firstFlexibleVersion := own_fldInt ev_HEARTBEAT f20a
  have F_OFFSET_FETCH_firstFlexibleVersion := own_fldInt ev_OFFSET_FETCH f22a
  have F_LEAVE_GROUP_firstFlexibleVersion := own_fldInt ev_LEAVE_GROUP f24a
  have F_LIST_GROUPS_firstFlexibleVersion := own_fldInt ev_LIST_GROUPS f25b
  have FF : own_F s s.heap w_METADATA w_OFFSET_COMMIT w_DESCRIBE_GROUPS w_SYNC_GROUP w_API_VERSIONS w_DELETE_GROUPS w_FIND_COORDINATOR w_OFFSET_DELETE w_JOIN_GROUP w_HEARTBEAT w_OFFSET_FETCH w_LEAVE_GROUP w_LIST_GROUPS := ⟨S_METADATA, S_OFFSET_COMMIT, S_DESCRIBE_GROUPS, S_SYNC_GROUP, S_API_VERSIONS, S_DELETE_GROUPS, S_FIND_COORDINATOR, S_OFFSET_DELETE, S_JOIN_GROUP, S_HEARTBEAT, S_OFFSET_FETCH, S_LEAVE_GROUP, S_LIST_GROUPS, A_METADATA, A_OFFSET_COMMIT, A_DESCRIBE_GROUPS, A_SYNC_GROUP, A_API_VERSIONS, A_DELETE_GROUPS, A_FIND_COORDINATOR, A_OFFSET_DELETE, A_JOIN_GROUP, A_HEARTBEAT, A_OFFSET_FETCH, A_LEAVE_GROUP, A_LIST_GROUPS, F_METADATA_firstFlexibleVersion, F_OFFSET_COMMIT_firstFlexibleVersion, F_DESCRIBE_GROUPS_firstFlexibleVersion, F_SYNC_GROUP_firstFlexibleVersion, F_API_VERSIONS_firstFlexibleVersion, F_DELETE_GROUPS_firstFlexibleVersion, F_FIND_COORDINATOR_firstFlexibleVersion, F_OFFSET_DELETE_firstFlexibleVersion, F_JOIN_GROUP_firstFlexibleVersion, F_HEARTBEAT_firstFlexibleVersion, F_OFFSET_FETCH_firstFlexibleVersion, F_LEAVE_GROUP_firstFlexibleVersion, F_LIST_GROUPS_firstFlexibleVersion⟩
  obtain ⟨n, o, h1, h2, h3, _, L, rfl, ⟨rfl, N⟩, hq⟩ := rm0 l s _ hw tables_1 i0 i1 i2 w_METADATA w_OFFSET_COMMIT w_DESCRIBE_GROUPS w_SYNC_GROUP w_API_VERSIONS w_DELETE_GROUPS w_FIND_COORDINATOR w_OFFSET_DELETE w_JOIN_GROUP w_HEARTBEAT w_OFFSET_FETCH w_LEAVE_GROUP w_LIST_GROUPS s.heap s.heap.size (Nat.le_refl _) FF p e ha hc hk s m _ below hf ((Spec.applies_iff_loose hf).mp happ).1 ⟨rfl, State.Warmed39.refl s, rfl⟩ trivial
  refine ⟨n, _, h1, h2, h3, hpost _ _ _ _ _ _ ⟨Cond.after_iff.mpr rfl, Cond.after_iff.mpr (eq_i res_at (Term.int_eval (1)) rfl), trivial⟩ ⟨hq.1, hq.2.1, (hq.2.2.sift fun y hy => Or.inr (N y hy)).mono (by decide) (by decide)⟩⟩
theorem main_1_1 : Claimed_1_1 := comes_1 fun _ _ _ _ _ _ h hF => ⟨h.1, hF⟩
theorem main_1_2 : Claimed_1_2 := comes_1 fun _ _ _ _ _ _ h hF => ⟨h.2.1, hF⟩
end Jvm.Pilot.@@N@@
namespace Jvm.Pilot.@@N@@
open Jvm Jvm.ClassFile Sem Op Lib Jvm.Free Jvm.Stand Jvm.Pilot.@@N@@.Jvm.D
/-! MADE BY PROGRAM (witnessworld.py) out of the Statement's table words and the real class files: 12 classes; the members and pool entries that the words name. The judged class is class 1, her method 3. -/
namespace start1
open Jvm.ClassFile
def u (s : String) : CpInfo := .utf8 (stringToUtf16 s)
/-- a pool by its gaps: so many unusable entries, then the entry; so many at the end -/
def gap : Nat → List CpInfo → List CpInfo
  | 0, r => r
  | n + 1, r => .unusable :: gap n r
def poolList (es : List (Nat × CpInfo)) (last : Nat) : List CpInfo := es.foldr (fun e r => gap e.1 (e.2 :: r)) (gap last [])
def pool (es : List (Nat × CpInfo)) (last : Nat) : Array CpInfo := ⟨poolList es last⟩
def fileOf (pool : Array CpInfo) (this : Nat) (attrs : Array Attribute := #[]) (ms : Array MethodInfo := #[]) (fl : Nat := 33) (sup : Nat := 0) (ifs : Array Nat := #[]) (fds : Array FieldInfo := #[]) : ClassFile where
  minorVersion := 0
  majorVersion := 65
  constantPool := pool
  accessFlags := fl
  thisClass := this
  superClass := sup
  interfaces := ifs
  fields := fds
  methods := ms
  attributes := attrs
def plain (name : String) (sup : Option ClassId) : Class where
  name := name
  kind := .ordinary
  loader := none
  accessFlags := 33
  super := sup
  interfaces := #[]
  cf := none
  fields := #[]
  methods := #[]
  instanceTypes := #[]
  staticTypes := #[]
  resolved := #[]
  callSites := []
  init := .initialized
  statics := none
  mirror := none

def pool0 : Array CpInfo := pool [(5, u "<init>"), (0, u "()V"), (1, .class_ 10), (1, u "java/lang/Object")] 113

def k0m0 : Method := { name := "<init>", desc := "()V", sig := { parameters := [], returnType := none }, accessFlags := 1, code := none }
/-- java/lang/Object -/
def k0 : Class := { plain "java/lang/Object" none with
  accessFlags := 33
  interfaces := #[]
  cf := some (fileOf pool0 8 #[] #[{ accessFlags := 1, nameIndex := 5, descriptorIndex := 6, attributes := #[] }] 33 0 #[] #[])
  fields := #[]
  methods := #[k0m0]
  instanceTypes := #[]
  staticTypes := #[]
  resolved := Array.replicate 124 none
  statics := none }

def pool1 : Array CpInfo := pool [(2, .class_ 4), (1, u "java/lang/Object"), (0, u "<init>"), (0, u "()V"), (0, .fieldref 8 9), (0, .class_ 10), (0, .nameAndType 11 12), (0, u "com/example/groupkeeper/groupkeeper/wire/ApiKey"), (0, u "METADATA"), (0, u "Lcom/example/groupkeeper/groupkeeper/wire/ApiKey;"), (0, .fieldref 8 14), (0, .nameAndType 15 12), (0, u "OFFSET_COMMIT"), (0, .fieldref 8 17), (0, .nameAndType 18 12), (0, u "OFFSET_FETCH"), (0, .fieldref 8 20), (0, .nameAndType 21 12), (0, u "FIND_COORDINATOR"), (0, .fieldref 8 23), (0, .nameAndType 24 12), (0, u "JOIN_GROUP"), (0, .fieldref 8 26), (0, .nameAndType 27 12), (0, u "HEARTBEAT"), (0, .fieldref 8 29), (0, .nameAndType 30 12), (0, u "LEAVE_GROUP"), (0, .fieldref 8 32), (0, .nameAndType 33 12), (0, u "SYNC_GROUP"), (0, .fieldref 8 35), (0, .nameAndType 36 12), (0, u "DESCRIBE_GROUPS"), (0, .fieldref 8 38), (0, .nameAndType 39 12), (0, u "LIST_GROUPS"), (0, .fieldref 8 41), (0, .nameAndType 42 12), (0, u "API_VERSIONS"), (0, .fieldref 8 44), (0, .nameAndType 45 12), (0, u "DELETE_GROUPS"), (0, .fieldref 8 47), (0, .nameAndType 48 12), (0, u "OFFSET_DELETE"), (0, .integer 2147483647), (0, .methodref 51 52), (0, .class_ 53), (0, .nameAndType 54 55), (0, u "com/example/groupkeeper/groupkeeper/wire/ApiKeyIsFlexiblePinLaw"), (0, u "key"), (0, u "(I)Lcom/example/groupkeeper/groupkeeper/wire/ApiKey;"), (0, .methodref 51 57), (0, .nameAndType 58 59), (0, u "first"), (0, u "(I)I"), (0, .methodref 8 61), (0, .nameAndType 62 63), (0, u "isFlexible"), (0, u "(S)Z"), (3, u "law"), (0, u "(III)Z")] 2

def k1m0 : Method := { name := "<init>", desc := "()V", sig := { parameters := [], returnType := none }, accessFlags := 1, code := none }
def k1c1 : Code := { maxStack := 2, maxLocals := 1, code := method_2_code, exceptionTable := #[], attributes := #[] }
def k1m1 : Method := { name := "key", desc := "(I)Lcom/example/groupkeeper/groupkeeper/wire/ApiKey;", sig := { parameters := [.int], returnType := some (.object "com/example/groupkeeper/groupkeeper/wire/ApiKey") }, accessFlags := 10, code := some k1c1 }
def k1c2 : Code := { maxStack := 2, maxLocals := 1, code := method_3_code, exceptionTable := #[], attributes := #[] }
def k1m2 : Method := { name := "first", desc := "(I)I", sig := { parameters := [.int], returnType := some .int }, accessFlags := 10, code := some k1c2 }
def k1c3 : Code := { maxStack := 3, maxLocals := 8, code := code, exceptionTable := #[], attributes := #[] }
def k1m3 : Method := { name := "law", desc := "(III)Z", sig := { parameters := [.int, .int, .int], returnType := some .boolean }, accessFlags := 9, code := some k1c3 }
/-- com/example/groupkeeper/groupkeeper/wire/ApiKeyIsFlexiblePinLaw -/
def k1 : Class := { plain "com/example/groupkeeper/groupkeeper/wire/ApiKeyIsFlexiblePinLaw" (some 0) with
  accessFlags := 49
  interfaces := #[]
  cf := some (fileOf pool1 51 #[] #[{ accessFlags := 1, nameIndex := 5, descriptorIndex := 6, attributes := #[] }, { accessFlags := 10, nameIndex := 54, descriptorIndex := 55, attributes := #[] }, { accessFlags := 10, nameIndex := 58, descriptorIndex := 59, attributes := #[] }, { accessFlags := 9, nameIndex := 67, descriptorIndex := 68, attributes := #[] }] 49 2 #[] #[])
  fields := #[]
  methods := #[k1m0, k1m1, k1m2, k1m3]
  instanceTypes := #[]
  staticTypes := #[]
  resolved := Array.replicate 71 none
  statics := none }

def pool2 : Array CpInfo := pool [(1, .class_ 2), (0, u "java/lang/constant/Constable"), (0, .class_ 4), (0, u "java/lang/Object")] 6

/-- java/lang/constant/Constable -/
def k2 : Class := { plain "java/lang/constant/Constable" (some 0) with
  accessFlags := 1537
  interfaces := #[]
  cf := some (fileOf pool2 1 #[] #[] 1537 3 #[] #[])
  fields := #[]
  methods := #[]
  instanceTypes := #[]
  staticTypes := #[]
  resolved := Array.replicate 11 none
  statics := none }

def pool3 : Array CpInfo := pool [(1, .class_ 2), (0, u "java/lang/Comparable"), (0, .class_ 4), (0, u "java/lang/Object")] 7

/-- java/lang/Comparable -/
def k3 : Class := { plain "java/lang/Comparable" (some 0) with
  accessFlags := 1537
  interfaces := #[]
  cf := some (fileOf pool3 1 #[] #[] 1537 3 #[] #[])
  fields := #[]
  methods := #[]
  instanceTypes := #[]
  staticTypes := #[]
  resolved := Array.replicate 12 none
  statics := none }

def pool4 : Array CpInfo := pool [(1, .class_ 2), (0, u "java/io/Serializable"), (0, .class_ 4), (0, u "java/lang/Object")] 2

/-- java/io/Serializable -/
def k4 : Class := { plain "java/io/Serializable" (some 0) with
  accessFlags := 1537
  interfaces := #[]
  cf := some (fileOf pool4 1 #[] #[] 1537 3 #[] #[])
  fields := #[]
  methods := #[]
  instanceTypes := #[]
  staticTypes := #[]
  resolved := Array.replicate 7 none
  statics := none }

def pool5 : Array CpInfo := pool [(2, .class_ 4), (1, u "java/lang/Enum"), (0, u "name"), (0, u "Ljava/lang/String;"), (2, u "ordinal"), (0, u "I"), (1, .class_ 14), (1, u "java/lang/Object"), (4, u "hash"), (86, .class_ 108), (1, u "java/lang/Enum$EnumDesc"), (2, .class_ 112), (0, u "java/lang/constant/Constable"), (0, .class_ 114), (0, u "java/lang/Comparable"), (0, .class_ 116), (0, u "java/io/Serializable")] 87

/-- java/lang/Enum -/
def k5 : Class := { plain "java/lang/Enum" (some 0) with
  accessFlags := 1057
  interfaces := #[2, 3, 4]
  cf := some (fileOf pool5 2 #[.nestMembers #[106]] #[] 1057 12 #[111, 113, 115] #[{ accessFlags := 18, nameIndex := 5, descriptorIndex := 6, attributes := #[] }, { accessFlags := 18, nameIndex := 9, descriptorIndex := 10, attributes := #[] }, { accessFlags := 2, nameIndex := 19, descriptorIndex := 10, attributes := #[] }])
  fields := #[{ name := "name", type := (.object "java/lang/String"), accessFlags := 18, slot := 0, constantValue := 0 }, { name := "ordinal", type := .int, accessFlags := 18, slot := 1, constantValue := 0 }, { name := "hash", type := .int, accessFlags := 2, slot := 2, constantValue := 0 }]
  methods := #[]
  instanceTypes := #[(.object "java/lang/String"), .int, .int]
  staticTypes := #[]
  resolved := Array.replicate 204 none
  statics := none }

def pool6 : Array CpInfo := pool [(1, .class_ 2), (0, u "com/example/groupkeeper/groupkeeper/wire/ApiKey"), (2, u "METADATA"), (0, u "Lcom/example/groupkeeper/groupkeeper/wire/ApiKey;"), (2, u "OFFSET_COMMIT"), (2, u "OFFSET_FETCH"), (2, u "FIND_COORDINATOR"), (2, u "JOIN_GROUP"), (2, u "HEARTBEAT"), (2, u "LEAVE_GROUP"), (2, u "SYNC_GROUP"), (2, u "DESCRIBE_GROUPS"), (2, u "LIST_GROUPS"), (2, u "API_VERSIONS"), (2, u "DELETE_GROUPS"), (2, u "OFFSET_DELETE"), (2, u "$VALUES"), (0, u "[Lcom/example/groupkeeper/groupkeeper/wire/ApiKey;"), (6, .class_ 55), (1, u "java/lang/Enum"), (8, u "code"), (0, u "S"), (0, .fieldref 1 67), (0, .nameAndType 68 65), (0, u "firstFlexibleVersion"), (6, u "isFlexible"), (0, u "(S)Z")] 37

def k6c0 : Code := { maxStack := 2, maxLocals := 2, code := prog_104_method_6_code, exceptionTable := #[], attributes := #[] }
def k6m0 : Method := { name := "isFlexible", desc := "(S)Z", sig := { parameters := [.short], returnType := some .boolean }, accessFlags := 1, code := some k6c0 }
/-- com/example/groupkeeper/groupkeeper/wire/ApiKey -/
def k6 : Class := { plain "com/example/groupkeeper/groupkeeper/wire/ApiKey" (some 5) with
  accessFlags := 16433
  interfaces := #[]
  cf := some (fileOf pool6 1 #[] #[{ accessFlags := 1, nameIndex := 75, descriptorIndex := 76, attributes := #[] }] 16433 53 #[] #[{ accessFlags := 16409, nameIndex := 5, descriptorIndex := 6, attributes := #[] }, { accessFlags := 16409, nameIndex := 9, descriptorIndex := 6, attributes := #[] }, { accessFlags := 16409, nameIndex := 12, descriptorIndex := 6, attributes := #[] }, { accessFlags := 16409, nameIndex := 15, descriptorIndex := 6, attributes := #[] }, { accessFlags := 16409, nameIndex := 18, descriptorIndex := 6, attributes := #[] }, { accessFlags := 16409, nameIndex := 21, descriptorIndex := 6, attributes := #[] }, { accessFlags := 16409, nameIndex := 24, descriptorIndex := 6, attributes := #[] }, { accessFlags := 16409, nameIndex := 27, descriptorIndex := 6, attributes := #[] }, { accessFlags := 16409, nameIndex := 30, descriptorIndex := 6, attributes := #[] }, { accessFlags := 16409, nameIndex := 33, descriptorIndex := 6, attributes := #[] }, { accessFlags := 16409, nameIndex := 36, descriptorIndex := 6, attributes := #[] }, { accessFlags := 16409, nameIndex := 39, descriptorIndex := 6, attributes := #[] }, { accessFlags := 16409, nameIndex := 42, descriptorIndex := 6, attributes := #[] }, { accessFlags := 18, nameIndex := 64, descriptorIndex := 65, attributes := #[] }, { accessFlags := 18, nameIndex := 68, descriptorIndex := 65, attributes := #[] }, { accessFlags := 4122, nameIndex := 45, descriptorIndex := 46, attributes := #[] }])
  fields := #[{ name := "METADATA", type := (.object "com/example/groupkeeper/groupkeeper/wire/ApiKey"), accessFlags := 16409, slot := 0, constantValue := 0 }, { name := "OFFSET_COMMIT", type := (.object "com/example/groupkeeper/groupkeeper/wire/ApiKey"), accessFlags := 16409, slot := 1, constantValue := 0 }, { name := "OFFSET_FETCH", type := (.object "com/example/groupkeeper/groupkeeper/wire/ApiKey"), accessFlags := 16409, slot := 2, constantValue := 0 }, { name := "FIND_COORDINATOR", type := (.object "com/example/groupkeeper/groupkeeper/wire/ApiKey"), accessFlags := 16409, slot := 3, constantValue := 0 }, { name := "JOIN_GROUP", type := (.object "com/example/groupkeeper/groupkeeper/wire/ApiKey"), accessFlags := 16409, slot := 4, constantValue := 0 }, { name := "HEARTBEAT", type := (.object "com/example/groupkeeper/groupkeeper/wire/ApiKey"), accessFlags := 16409, slot := 5, constantValue := 0 }, { name := "LEAVE_GROUP", type := (.object "com/example/groupkeeper/groupkeeper/wire/ApiKey"), accessFlags := 16409, slot := 6, constantValue := 0 }, { name := "SYNC_GROUP", type := (.object "com/example/groupkeeper/groupkeeper/wire/ApiKey"), accessFlags := 16409, slot := 7, constantValue := 0 }, { name := "DESCRIBE_GROUPS", type := (.object "com/example/groupkeeper/groupkeeper/wire/ApiKey"), accessFlags := 16409, slot := 8, constantValue := 0 }, { name := "LIST_GROUPS", type := (.object "com/example/groupkeeper/groupkeeper/wire/ApiKey"), accessFlags := 16409, slot := 9, constantValue := 0 }, { name := "API_VERSIONS", type := (.object "com/example/groupkeeper/groupkeeper/wire/ApiKey"), accessFlags := 16409, slot := 10, constantValue := 0 }, { name := "DELETE_GROUPS", type := (.object "com/example/groupkeeper/groupkeeper/wire/ApiKey"), accessFlags := 16409, slot := 11, constantValue := 0 }, { name := "OFFSET_DELETE", type := (.object "com/example/groupkeeper/groupkeeper/wire/ApiKey"), accessFlags := 16409, slot := 12, constantValue := 0 }, { name := "code", type := .short, accessFlags := 18, slot := 3, constantValue := 0 }, { name := "firstFlexibleVersion", type := .short, accessFlags := 18, slot := 4, constantValue := 0 }, { name := "$VALUES", type := (.array (.object "com/example/groupkeeper/groupkeeper/wire/ApiKey")), accessFlags := 4122, slot := 13, constantValue := 0 }]
  methods := #[k6m0]
  instanceTypes := #[(.object "java/lang/String"), .int, .int, .short, .short]
  staticTypes := #[(.object "com/example/groupkeeper/groupkeeper/wire/ApiKey"), (.object "com/example/groupkeeper/groupkeeper/wire/ApiKey"), (.object "com/example/groupkeeper/groupkeeper/wire/ApiKey"), (.object "com/example/groupkeeper/groupkeeper/wire/ApiKey"), (.object "com/example/groupkeeper/groupkeeper/wire/ApiKey"), (.object "com/example/groupkeeper/groupkeeper/wire/ApiKey"), (.object "com/example/groupkeeper/groupkeeper/wire/ApiKey"), (.object "com/example/groupkeeper/groupkeeper/wire/ApiKey"), (.object "com/example/groupkeeper/groupkeeper/wire/ApiKey"), (.object "com/example/groupkeeper/groupkeeper/wire/ApiKey"), (.object "com/example/groupkeeper/groupkeeper/wire/ApiKey"), (.object "com/example/groupkeeper/groupkeeper/wire/ApiKey"), (.object "com/example/groupkeeper/groupkeeper/wire/ApiKey"), (.array (.object "com/example/groupkeeper/groupkeeper/wire/ApiKey"))]
  resolved := Array.replicate 114 none
  statics := some 0 }

def pool7 : Array CpInfo := pool [(1, u "java/lang/Cloneable"), (0, .class_ 1), (0, u "java/lang/Object"), (0, .class_ 3)] 3

/-- java/lang/Cloneable -/
def k7 : Class := { plain "java/lang/Cloneable" (some 0) with
  accessFlags := 1537
  interfaces := #[]
  cf := some (fileOf pool7 2 #[] #[] 1537 4 #[] #[])
  fields := #[]
  methods := #[]
  instanceTypes := #[]
  staticTypes := #[]
  resolved := Array.replicate 8 none
  statics := none }

/-- the primitive byte -/
def k8 : Class := { plain "byte" none with kind := .primitive 'B', accessFlags := 0x411 }
/-- [B -/
def k9 : Class := { plain "[B" (some 0) with kind := .array 8 .byte, interfaces := #[7, 4], accessFlags := 1041 }

/-- the primitive int -/
def k10 : Class := { plain "int" none with kind := .primitive 'I', accessFlags := 0x411 }
/-- [I -/
def k11 : Class := { plain "[I" (some 0) with kind := .array 10 .int, interfaces := #[7, 4], accessFlags := 1041 }

def heap : Heap := #[{ cls := 6, slots := #[.ref 1, .ref 2, .ref 11, .ref 7, .ref 9, .ref 10, .ref 12, .ref 4, .ref 3, .ref 13, .ref 5, .ref 6, .ref 8, .null], vm := .statics 6 },
  { cls := 6, slots := #[.null, .int 0, .int 0, .int 0, .int 9], vm := .none },
  { cls := 6, slots := #[.null, .int 0, .int 0, .int 0, .int 8], vm := .none },
  { cls := 6, slots := #[.null, .int 0, .int 0, .int 0, .int 5], vm := .none },
  { cls := 6, slots := #[.null, .int 0, .int 0, .int 0, .int 4], vm := .none },
  { cls := 6, slots := #[.null, .int 0, .int 0, .int 0, .int 3], vm := .none },
  { cls := 6, slots := #[.null, .int 0, .int 0, .int 0, .int 2], vm := .none },
  { cls := 6, slots := #[.null, .int 0, .int 0, .int 0, .int 3], vm := .none },
  { cls := 6, slots := #[.null, .int 0, .int 0, .int 0, .int 32767], vm := .none },
  { cls := 6, slots := #[.null, .int 0, .int 0, .int 0, .int 6], vm := .none },
  { cls := 6, slots := #[.null, .int 0, .int 0, .int 0, .int 4], vm := .none },
  { cls := 6, slots := #[.null, .int 0, .int 0, .int 0, .int 6], vm := .none },
  { cls := 6, slots := #[.null, .int 0, .int 0, .int 0, .int 4], vm := .none },
  { cls := 6, slots := #[.null, .int 0, .int 0, .int 0, .int 3], vm := .none }]
def classes : Array Class := #[k0, k1, k2, k3, k4, k5, k6, k7, k8, k9, k10, k11]
def interned : List (Array UInt16 × Addr) := []
def slotsUsed : Nat := 79
def theMethod : MethodId := ⟨1, 3⟩
def args0 : Array Value := #[.int 4, .int 5, .int 6]
def aboutOver (below : List Frame) : State where
  vm := { classes := classes, interned := interned.toArray }
  heap := heap
  slotsUsed := slotsUsed
  threads := #[{ frames := .invoking theMethod args0 :: below }]
def below0 : List Frame := [.native { method := ⟨0, 0⟩, args := #[] }]
def about1 : State := aboutOver below0
def p0 : Program := .bare "" "" ""
def e0 : Env := launch0.env 0 0 0
theorem w_frames : about1.frames = Frame.invoking theMethod args0 :: below0 := rfl
set_option maxRecDepth 65536 in
theorem w_args : argsFit about1.vm theMethod args0 = true := by decide +kernel
set_option maxRecDepth 65536 in
theorem w_heap : heapFits about1 = true := by decide +kernel
set_option maxRecDepth 65536 in
theorem w_runnable : about1.curStatus? = some .runnable := by decide +kernel
set_option maxRecDepth 65536 in
theorem w_alone : about1.alone = true := by decide +kernel
set_option maxRecDepth 65536 in
theorem w_named : about1.methodNamed? x = some theMethod := by decide +kernel
set_option maxRecDepth 65536 in
theorem w_hears : about1.hears theMethod below0 = true := by decide +kernel
set_option maxRecDepth 65536 in
theorem w_ripe : about1.ripe theMethod args0 below0 = true := by decide +kernel
theorem w_running : about1.status = .running := rfl
set_option maxRecDepth 65536 in
theorem w_room : about1.hasRoom e0.platform room_1 = true :=
  launch0.hasRoom_least _ room_1 (by decide +kernel) (by decide +kernel) (by decide +kernel) (by decide +kernel) (by decide +kernel) (by decide +kernel)
theorem allAtoms_all (ts : List Jvm.Cond) (a : Array Jvm.Value) (st : Jvm.State) : (allAtoms ts).before a st = ts.all (fun c => c.before a st) := by
  induction ts with
  | nil => rfl
  | cons c t ih =>
    show (Jvm.Cond.and c (allAtoms t)).before a st = _
    rw [Jvm.Cond.before_and, ih, List.all_cons]
def words1 : List Jvm.Cond := Jvm.Cond.code x code maxLocals ret :: tables_1
/-- a 'code' word, met by the world's own term for the bytes: nothing is compared byte by byte -/
theorem code_word {y : MethodName} {bytes : ByteArray} {mx : Nat} {rt : Option FieldType} {a : Array Value} {s : State} {m : MethodId} {meth : Method} {c : Code} (h1 : s.methodNamed? y = some m) (h2 : s.vm.method? m = some meth) (h3 : meth.code = some c) (h4 : c.code = bytes)
    (h5 : (c.maxLocals == mx && c.exceptionTable.isEmpty && decide (c.maxStack ≤ mostOperands) && decide (meth.sig.returnType = rt) && !meth.locks && decide (parseMethodDescriptor y.desc = some meth.sig)) = true) : (Jvm.Cond.code y bytes mx rt).before a s = true := by
  simp only [Bool.and_eq_true, beq_iff_eq, Bool.not_eq_true', decide_eq_true_eq] at h5
  obtain ⟨⟨⟨⟨⟨g1, g2⟩, g3⟩, g4⟩, g5⟩, g6⟩ := h5
  simp [Cond.before, Cond.holds, Cond.value, h1, h2, h3, h4, g1, g2, g3, g4, g5, g6]
def isCode : Jvm.Cond → Bool
  | .code _ _ _ _ => true
  | _ => false
theorem all_split {L : List Jvm.Cond} {P : Jvm.Cond → Bool} (h1 : L.all (fun c => isCode c || P c) = true) (h2 : ∀ c ∈ L.filter isCode, P c = true) : L.all P = true := by
  refine List.all_eq_true.mpr fun c hc => ?_
  have h := List.all_eq_true.mp h1 c hc
  rcases Bool.eq_false_or_eq_true (isCode c) with hi | hi
  · exact h2 c (List.mem_filter.mpr ⟨hc, hi⟩)
  · simpa [hi] using h
set_option maxRecDepth 65536 in
theorem w_c0 : (Jvm.Cond.code x code maxLocals ret).before args0 about1 = true := code_word (m := ⟨1, 3⟩) (meth := k1m3) (c := k1c3) (by decide +kernel) rfl rfl rfl (by decide +kernel)
set_option maxRecDepth 65536 in
theorem w_c1 : (Jvm.Cond.code ({ cls := "com/example/groupkeeper/groupkeeper/wire/ApiKeyIsFlexiblePinLaw", name := "key", desc := "(I)Lcom/example/groupkeeper/groupkeeper/wire/ApiKey;" } : Jvm.MethodName) method_2_code (1 : Nat) (Option.some (Jvm.ClassFile.FieldType.object "com/example/groupkeeper/groupkeeper/wire/ApiKey"))).before args0 about1 = true := code_word (m := ⟨1, 1⟩) (meth := k1m1) (c := k1c1) (by decide +kernel) rfl rfl rfl (by decide +kernel)
set_option maxRecDepth 65536 in
theorem w_c2 : (Jvm.Cond.code ({ cls := "com/example/groupkeeper/groupkeeper/wire/ApiKeyIsFlexiblePinLaw", name := "first", desc := "(I)I" } : Jvm.MethodName) method_3_code (1 : Nat) (Option.some Jvm.ClassFile.FieldType.int)).before args0 about1 = true := code_word (m := ⟨1, 2⟩) (meth := k1m2) (c := k1c2) (by decide +kernel) rfl rfl rfl (by decide +kernel)
set_option maxRecDepth 65536 in
theorem w_c3 : (Jvm.Cond.code ({ cls := "com/example/groupkeeper/groupkeeper/wire/ApiKey", name := "isFlexible", desc := "(S)Z" } : Jvm.MethodName) prog_104_method_6_code (2 : Nat) (Option.some Jvm.ClassFile.FieldType.boolean)).before args0 about1 = true := code_word (m := ⟨6, 0⟩) (meth := k6m0) (c := k6c0) (by decide +kernel) rfl rfl rfl (by decide +kernel)
def codes1 : List Jvm.Cond := [Jvm.Cond.code x code maxLocals ret, Jvm.Cond.code ({ cls := "com/example/groupkeeper/groupkeeper/wire/ApiKeyIsFlexiblePinLaw", name := "key", desc := "(I)Lcom/example/groupkeeper/groupkeeper/wire/ApiKey;" } : Jvm.MethodName) method_2_code (1 : Nat) (Option.some (Jvm.ClassFile.FieldType.object "com/example/groupkeeper/groupkeeper/wire/ApiKey")), Jvm.Cond.code ({ cls := "com/example/groupkeeper/groupkeeper/wire/ApiKeyIsFlexiblePinLaw", name := "first", desc := "(I)I" } : Jvm.MethodName) method_3_code (1 : Nat) (Option.some Jvm.ClassFile.FieldType.int), Jvm.Cond.code ({ cls := "com/example/groupkeeper/groupkeeper/wire/ApiKey", name := "isFlexible", desc := "(S)Z" } : Jvm.MethodName) prog_104_method_6_code (2 : Nat) (Option.some Jvm.ClassFile.FieldType.boolean)]
set_option maxRecDepth 65536 in
theorem codes_eq : words1.filter isCode = codes1 := rfl
theorem w_codes : ∀ c ∈ words1.filter isCode, c.before args0 about1 = true := by
  rw [codes_eq]
  intro c hc
  simp only [codes1, List.mem_cons, List.not_mem_nil, or_false] at hc
  rcases hc with rfl | rfl | rfl | rfl
  · exact w_c0
  · exact w_c1
  · exact w_c2
  · exact w_c3
set_option maxRecDepth 65536 in
theorem w_t1 : (words1.take 24).all (fun c => isCode c || c.before args0 about1) = true := by decide +kernel
set_option maxRecDepth 65536 in
theorem w_t2 : (words1.drop 24).all (fun c => isCode c || c.before args0 about1) = true := by decide +kernel
theorem w_tables : (allAtoms (Jvm.Cond.code x code maxLocals ret :: tables_1)).before args0 about1 = true := by
  rw [allAtoms_all]
  show words1.all (fun c => c.before args0 about1) = true
  refine all_split ?_ w_codes
  rw [← List.take_append_drop 24 words1, List.all_append, w_t1, w_t2]
  rfl
set_option maxRecDepth 65536 in
theorem w_case : (Jvm.Cond.and given_1 narrow_1).before args0 about1 = true := by decide +kernel
theorem w_applies : (headSpec (Jvm.Cond.code x code maxLocals ret :: tables_1) room_1).applies x e0.platform about1 = true :=
  (Spec.applies_iff w_frames).mpr ⟨w_running, w_runnable, w_alone, w_named, w_hears, w_ripe, w_room, w_tables⟩
theorem atStart : AtStart classFile x code maxLocals ret World_1 tables_1 room_1 Calls_1 rest_1 Pre_1 launch0 p0 e0 about1 theMethod args0 below0 :=
  ⟨lists_1, trivial, launch0.admits_env _ _ _, launch0.least_env, fairChoices_fair.cas, fairChoices_fair.clock, w_frames, w_args, w_heap, w_applies, trivial, trivial, w_case⟩
end start1
theorem witness_1 : WitnessClaimed_1 := ⟨start1.p0, start1.e0, start1.about1, start1.theMethod, start1.args0, start1.below0, start1.atStart⟩
end Jvm.Pilot.@@N@@
