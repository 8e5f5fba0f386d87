import JvmDerived
import JvmDerived.Pilot.@@N@@Statement
import JvmDerived.Pilot.@@N@@Code
set_option linter.unusedVariables false
set_option linter.unusedSimpArgs false
namespace Jvm.Pilot.@@N@@
open Jvm Jvm.ClassFile Sem Op Lib Jvm.Free Jvm.Stand Jvm.LawKit Jvm.RoadKit Bundle Jvm.Pilot.@@N@@.Jvm.D
/-! own_: A WALK AS A CHAIN OF 'Go': from T, with the frame g on top, the run comes to a state of which P holds. A fork (by_cases, rcases) may stand anywhere in the chain. -/
def Go (p : Program) (e : Env) (below : List Frame) (P : State → Prop) (T : State) (g : JFrame) : Prop := ∃ t, Steps p.tables e below (T.setTop g) t ∧ P t
/-- what a body owes at its end -/
def EndP (below : List Frame) (s : State) (Q : Option Value → Heap → List Loc → Prop) (ce sl : Nat) (t : State) : Prop := ∃ o, t.status = .running ∧ Ended t below o ∧ ∃ v L, o = .returned v ∧ Q v t.heap L ∧ FrameEnd s o t L ce sl
/-- a method's contract: called with as' on the heap h0 it returns, and Q holds of what it returns, the heap that it leaves and the places that it wrote -/
abbrev Does (l : Launch) (y : MethodName) (bytes : ByteArray) (maxL : Nat) (rt : Option FieldType) (ws : List Jvm.Cond) (rm : Room) (as' : Array Value) (Z : State) (h0 : Heap) (Q : Option Value → Heap → List Loc → Prop) : Prop :=
  MetFree l y (head1 (Jvm.Cond.code y bytes maxL rt :: ws) rm) (fun a U => a = as' ∧ Z.Warmed39 U.vm ∧ U.heap = h0) (fun _ _ _ _ _ => True) (fun _ U o U' => ∃ v L, o = .returned v ∧ Q v U'.heap L ∧ FrameEnd U o U' L rm.cells rm.slots)
section Own
variable {p : Program} {l : Launch} {e : Env} {R : Room} {s : State} {m : MethodId} {args : Array Value} {below : List Frame} {meth : Method} {c : Code} {T T' : State} {locs : List Loc} {cells slots : Nat} {P : State → Prop} {g g' : JFrame} {Z : State} {h h0 : Heap} {a0 as' : Array Value} {own : String} {index : Nat} {y z : MethodName} {bytes : ByteArray} {maxL : Nat} {rt : Option FieldType} {rm : Room} {ws : List Jvm.Cond} {Q : Option Value → Heap → List Loc → Prop} {ce sl W : Nat} {argsL rest : List Value}
theorem Go.st (hh : Go p e below P T' g') (st : ∀ t, Steps p.tables e below (T'.setTop g') t → Steps p.tables e below (T.setTop g) t) : Go p e below P T g := by
  obtain ⟨t, h1, h2⟩ := hh
  exact ⟨t, st t h1, h2⟩
theorem Go.cast (q : g = g') (hh : Go p e below P T g') : Go p e below P T g := q ▸ hh
theorem Go.ret {v : Option Value} (X : Stand p l e R s m args below meth c T locs cells slots) (hv : meth.sig.returnType = none → v = none) (hlocks : meth.locks = false) (hc : cells ≤ ce) (hs : slots ≤ sl) (hq : Q v T.heap locs)
    (st : ∀ fs, (∀ (f : JFrame) (acts : List Action), f.method = m → f.locked = none → f.entered = [] → (doReturn e (T.setTop f) acts v).1 = T.setFrames fs) → Steps p.tables e below (T.setTop g) (T.setFrames fs)) : Go p e below (EndP below s Q ce sl) T g := by
  obtain ⟨fs, hr, hrun, hended, hW, hsame⟩ := X.leave (v := v) hv hlocks
  exact ⟨_, st fs hr, _, hrun, hended, _, _, rfl, hq, ⟨_, rfl⟩, hW, hsame.mono hc hs⟩
/-- a value is returned -/
theorem Go.retV {w : Value} {t : FieldType} {i : Instr} {pc : Nat} {Ls : Array Slot} (X : Stand p l e R s m args below meth c T locs cells slots) (hx : p.tables.exec = Jvm.exec) (hret : meth.sig.returnType = some t) (hlocks : meth.locks = false) (hc : cells ≤ ce) (hs : slots ≤ sl) (hn : narrow t w = w)
    (hi : (i = .ireturn ∧ (t = .int ∨ t = .boolean ∨ t = .byte ∨ t = .char ∨ t = .short) ∧ ∃ z, w = .int z) ∨ (i = .lreturn ∧ t = .long ∧ ∃ z, w = .long z) ∨ (i = .dreturn ∧ t = .double ∧ ∃ z, w = .double z) ∨ (i = .freturn ∧ t = .float ∧ ∃ z, w = .float z) ∨ (i = .areturn ∧ t.isReference = true ∧ w.isRef = true))
    (hd : decode c.code pc = .ok (i, 1)) (hq : Q (some w) T.heap locs) : Go p e below (EndP below s Q ce sl) T (mkF m pc Ls (w :: rest)) :=
  Go.ret X (fun q => by rw [hret] at q; cases q) hlocks hc hs hq fun _ hr => retOut X hx hret hn hi hd hr
/-- nothing is returned -/
theorem Go.retU {pc : Nat} {Ls : Array Slot} (X : Stand p l e R s m args below meth c T locs cells slots) (hx : p.tables.exec = Jvm.exec) (hret : meth.sig.returnType = none) (hlocks : meth.locks = false) (hc : cells ≤ ce) (hs : slots ≤ sl)
    (hd : decode c.code pc = .ok (.return_, 1)) (hq : Q none T.heap locs) : Go p e below (EndP below s Q ce sl) T (mkF m pc Ls []) :=
  Go.ret X (fun _ => rfl) hlocks hc hs hq fun _ hr => X.returnOut hx hret hd hr
/-- a body that goes well has its contract -/
theorem Does.of (hp : plainFor y = true) (body : ∀ (p : Program) (e : Env) (s : State) (m : MethodId) (below : List Frame) (meth : Method) (c : Code) (s₁ : State), p.tables.exec = Jvm.exec → c.code = bytes → c.maxLocals = maxL → meth.sig.returnType = rt → meth.locks = false → s.vm.findClass y.cls = some m.cls → meth.name = y.name → Z.Warmed39 s.vm →
      Stand p l e rm s m as' below meth c s₁ [] 0 0 → s₁.heap = h0 → Go p e below (EndP below s Q rm.cells rm.slots) s₁ (entryFrame m as' maxL)) : Does l y bytes maxL rt ws rm as' Z h0 Q := by
  refine MetFree.of_bodySF hp hisR ?_
  intro p e s m args below meth c s₁ Bd hml0 hP hK
  obtain ⟨rfl, hZ, hh⟩ := hP
  obtain ⟨t, h1, o, h2, h3, h4⟩ := body p e s m below meth c s₁ Bd.exec Bd.bytes hml0 Bd.returns Bd.notSynchronized (findClass_of_methodNamed Bd.named) (name_of_methodNamed Bd.named Bd.method).1 hZ (Stand.of_body Bd) (by rw [← hh, Bd.state]; rfl)
  exact ⟨t, o, h1, h2, h3, h4⟩
/-- a static call by the callee's contract -/
theorem Go.callS (X : Stand p l e R s m args below meth c T locs cells slots) (hx : p.tables.exec = Jvm.exec) (hZ : Z.Warmed39 s.vm) (hown : s.vm.findClass own = some m.cls) (w1 : (Jvm.Cond.methodLink own index y).before a0 Z = true) (w2 : (Jvm.Cond.static y).before a0 Z = true) (w3 : (Jvm.Cond.initialized y.cls).before a0 Z = true) (w4 : (Jvm.Cond.code y bytes maxL rt).before a0 Z = true)
    (hy : y.cls ≠ "java/lang/invoke/MethodHandle" ∧ y.cls ≠ "java/lang/invoke/VarHandle") (D : Does l y bytes maxL rt [] rm argsL.toArray Z h Q) (eT : T.heap = h) (hf : rm.frames + 1 ≤ R.frames) (hl : W + (maxL + 11) + rm.locals ≤ R.locals) (hc : cells + rm.cells ≤ R.cells) (hs : slots + rm.slots ≤ R.slots)
    (hg : g.method = m) (hsize : g.locals.size = c.maxLocals) (hlen : ∀ sig, parseMethodDescriptor y.desc = some sig → argsL.length = sig.parameters.length) (hstack : g.stack = argsL.reverse ++ rest) (hW : 2 * g.monitorRoom + (rest.map fun v => v.category).sum ≤ W) (hdg : decode c.code g.pc = .ok (.invokestatic index, 3))
    (k : ∀ (v : Option Value) (T' : State) (L : List Loc), Stand p l e R s m args below meth c T' (locs ++ L) (cells + rm.cells) (slots + rm.slots) → Q v T'.heap L → Go p e below P T' { g with pc := g.pc + 3, stack := v.toList ++ rest }) : Go p e below P T g := by
  obtain ⟨v, _, ⟨T1, L1, k1, n1⟩, -, X1, ⟨Lc, hQ, l1, y1, z1⟩, st⟩ := Jvm.LawKit.callS X hx (y := y) hown (mvT hZ w1) (mvT hZ w2) (mvT hZ w3) (mvT hZ w4) hy (backOf (W := W) D hZ w4 w3 hf hl) (g := g) hg hsize (argsL := argsL) (rest := rest) hlen hstack hW hdg (fun _ _ => ⟨rfl, eT, hc, hs⟩)
  dsimp only [Pt.U, Pt.locs, Pt.cells, Pt.slots] at X1 l1 y1 z1 st hQ
  subst l1 y1 z1
  exact Go.st (k v T1 Lc X1 hQ) st
/-- a virtual call by the contract of the method that it selects -/
theorem Go.callV {C : String} {a : Addr} (X : Stand p l e R s m args below meth c T locs cells slots) (hx : p.tables.exec = Jvm.exec) (hZ : Z.Warmed39 s.vm) (hown : s.vm.findClass own = some m.cls) (w1 : (Jvm.Cond.methodLink own index y).before a0 Z = true) (w2 : (Jvm.Cond.declares y).before a0 Z = true) (w5 : (Jvm.Cond.selects C y y).before a0 Z = true) (w6 : (Jvm.Cond.instanceMethod y).before a0 Z = true) (w3 : (Jvm.Cond.initialized y.cls).before a0 Z = true) (w4 : (Jvm.Cond.code y bytes maxL rt).before a0 Z = true)
    (hy : y.cls ≠ "java/lang/invoke/MethodHandle" ∧ y.cls ≠ "java/lang/invoke/VarHandle") (A : Exa Z h a C) (D : Does l y bytes maxL rt [] rm (.ref a :: argsL).toArray Z h Q) (eT : T.heap = h) (hf : rm.frames + 1 ≤ R.frames) (hl : W + (maxL + 11) + rm.locals ≤ R.locals) (hc : cells + rm.cells ≤ R.cells) (hs : slots + rm.slots ≤ R.slots)
    (hg : g.method = m) (hsize : g.locals.size = c.maxLocals) (hlen : ∀ sig, parseMethodDescriptor y.desc = some sig → argsL.length = sig.parameters.length) (hstack : g.stack = argsL.reverse ++ .ref a :: rest) (hW : 2 * g.monitorRoom + (rest.map fun v => v.category).sum ≤ W) (hdg : decode c.code g.pc = .ok (.invokevirtual index, 3))
    (k : ∀ (v : Option Value) (T' : State) (L : List Loc), Stand p l e R s m args below meth c T' (locs ++ L) (cells + rm.cells) (slots + rm.slots) → Q v T'.heap L → Go p e below P T' { g with pc := g.pc + 3, stack := v.toList ++ rest }) : Go p e below P T g := by
  obtain ⟨cq, kq, qa, qb, qc⟩ := isOf hZ eT A
  obtain ⟨v, _, ⟨T1, L1, k1, n1⟩, -, X1, ⟨Lc, hQ, l1, y1, z1⟩, st⟩ := X.virtualBack hx (y := y) (z := y) hown (mvT hZ w1) (mvT hZ w2) (notFace_of_selects (args := #[]) (mvT hZ w5)) (mvT hZ w5) (mvT hZ w6) hy (backOf (W := W) D hZ w4 w3 hf hl) qa qc (g := g) hg hsize (Steps.refl _) (argsL := argsL) (rest := rest) hlen hstack hW hdg (fun _ _ => ⟨rfl, eT, hc, hs⟩)
  dsimp only [Pt.U, Pt.locs, Pt.cells, Pt.slots] at X1 l1 y1 z1 st hQ
  subst l1 y1 z1
  exact Go.st (k v T1 Lc X1 hQ) fun _ q => st.trans q
/-- a constructor by its contract -/
theorem Go.callI {a : Addr} (X : Stand p l e R s m args below meth c T locs cells slots) (hx : p.tables.exec = Jvm.exec) (hZ : Z.Warmed39 s.vm) (hown : s.vm.findClass own = some m.cls) (hin : y.name = "<init>") (w1 : (Jvm.Cond.methodLink own index y).before a0 Z = true) (w6 : (Jvm.Cond.instanceMethod y).before a0 Z = true) (w3 : (Jvm.Cond.initialized y.cls).before a0 Z = true) (w4 : (Jvm.Cond.code y bytes maxL none).before a0 Z = true)
    (hy : y.cls ≠ "java/lang/invoke/MethodHandle" ∧ y.cls ≠ "java/lang/invoke/VarHandle") (D : Does l y bytes maxL none [] rm (.ref a :: argsL).toArray Z h Q) (eT : T.heap = h) (hf : rm.frames + 1 ≤ R.frames) (hl : W + (maxL + 11) + rm.locals ≤ R.locals) (hc : cells + rm.cells ≤ R.cells) (hs : slots + rm.slots ≤ R.slots)
    (hg : g.method = m) (hsize : g.locals.size = c.maxLocals) (hlen : ∀ sig, parseMethodDescriptor y.desc = some sig → argsL.length = sig.parameters.length) (hstack : g.stack = argsL.reverse ++ .ref a :: rest) (hW : 2 * g.monitorRoom + (rest.map fun v => v.category).sum ≤ W) (hdg : decode c.code g.pc = .ok (.invokespecial index, 3))
    (k : ∀ (v : Option Value) (T' : State) (L : List Loc), Stand p l e R s m args below meth c T' (locs ++ L) (cells + rm.cells) (slots + rm.slots) → Q v T'.heap L → Go p e below P T' { g with pc := g.pc + 3, stack := v.toList ++ rest }) : Go p e below P T g := by
  obtain ⟨v, _, ⟨T1, L1, k1, n1⟩, -, X1, ⟨Lc, hQ, l1, y1, z1⟩, st⟩ := X.specialBack hx (y := y) hin hown (mvT hZ w1) (mvT hZ w6) (mvT hZ w4) hy (backOf (W := W) D hZ w4 w3 hf hl) (g := g) hg hsize (Steps.refl _) (a := a) (argsL := argsL) (rest := rest) hlen hstack hW hdg (fun _ _ => ⟨rfl, eT, hc, hs⟩)
  dsimp only [Pt.U, Pt.locs, Pt.cells, Pt.slots] at X1 l1 y1 z1 st hQ
  subst l1 y1 z1
  exact Go.st (k v T1 Lc X1 hQ) fun _ q => st.trans q
end Own
theorem own_i_eq {x y : Int32} {a b : Int} (hx : x.toInt = a) (hy : y.toInt = b) (q : a = b) : x = y := Int32.toInt_inj.mp (by rw [hx, hy, q])
theorem own_i_neq {x y : Int32} {a b : Int} (hx : x.toInt = a) (hy : y.toInt = b) (q : ¬ a = b) : ¬ x = y := fun r => q (by rw [← hx, ← hy, r])
theorem own_i_lt {x y : Int32} {a b : Int} (hx : x.toInt = a) (hy : y.toInt = b) (q : a < b) : x < y := by rw [Int32.lt_iff_toInt_lt, hx, hy]; exact q
theorem own_i_nlt {x y : Int32} {a b : Int} (hx : x.toInt = a) (hy : y.toInt = b) (q : ¬ a < b) : ¬ x < y := by rw [Int32.lt_iff_toInt_lt, hx, hy]; exact q
theorem own_l_eq {x y : Int64} {a b : Int} (hx : x.toInt = a) (hy : y.toInt = b) (q : a = b) : x = y := Int64.toInt_inj.mp (by rw [hx, hy, q])
theorem own_l_neq {x y : Int64} {a b : Int} (hx : x.toInt = a) (hy : y.toInt = b) (q : ¬ a = b) : ¬ x = y := fun r => q (by rw [← hx, ← hy, r])
theorem own_l_lt {x y : Int64} {a b : Int} (hx : x.toInt = a) (hy : y.toInt = b) (q : a < b) : x < y := by rw [Int64.lt_iff_toInt_lt, hx, hy]; exact q
theorem own_l_nlt {x y : Int64} {a b : Int} (hx : x.toInt = a) (hy : y.toInt = b) (q : ¬ a < b) : ¬ x < y := by rw [Int64.lt_iff_toInt_lt, hx, hy]; exact q
/-- a number in a field, out of the case's words -/
theorem own_fldInt {args : Array Value} {s : State} {t : Term} {a : Addr} {C n d : String} {k : Int32} (ht : t.eval args s none [] s = some (.ref a)) (hh : (Jvm.Cond.eq (.field t C n d) (.int k)).value args s none s [] = some true) : Fld s s.heap a C n d (.int k) := by
  refine Fld.start ?_
  simp only [Jvm.Cond.value, fld_at ht, Term.int_eval] at hh
  cases hf : s.fieldOf? a C n d with
  | none => simp [hf] at hh
  | some v => cases v <;> simp_all
def own_m1 (z : Int64) : Int64 := ((z ^^^ (XT.ushrL z (30 : Int32))) * (-4658895280553007687 : Int64))
def own_m2 (z : Int64) : Int64 := ((z ^^^ (XT.ushrL z (27 : Int32))) * (-7723592293110705685 : Int64))
def own_m3 (z : Int64) : Int64 := (z ^^^ (XT.ushrL z (31 : Int32)))
def own_mix (z : Int64) : Int64 := own_m3 (own_m2 (own_m1 z))
/-- the exact shape of a whole number from 1 to 2^53 - 1 -/
theorem own_shape (n : Int64) (h1 : 1 ≤ n.toInt) (h2 : n.toInt < 9007199254740992) : ∃ (c : Nat) (q : Int), FP.Core.val64 (FP.l2d n) = .fin false c q ∧ 2 ^ 52 ≤ c ∧ c < 2 ^ 53 ∧ -52 ≤ q ∧ q ≤ 0 := by
  obtain ⟨c, q, e⟩ := FP.Core.l2d_shape n
  have w := FP.Core.l2d_whole (a := n) ⟨by omega, by omega⟩
  have f := FP.Core.val64_fits (FP.Core.l2d n)
  rw [show decide (n.toInt < 0) = false from by simp; omega] at e
  rw [e] at w f
  obtain ⟨f1, f2, f3, f4⟩ := f
  have hp : FP.Core.b64.p = 53 := rfl
  have hm : FP.Core.b64.qmin = -1074 := by decide
  have ht : FP.Core.b64.tails = 2 ^ 52 := by decide
  rw [hp] at f1; rw [hm] at f2 f4; rw [ht] at f4
  simp only [FP.Core.Whole, FP.Core.signed] at w
  have w' : ((c * 2 ^ q.toNat : Nat) : Int) = n.toInt * ((2 ^ (-q).toNat : Nat) : Int) := by simpa using w
  obtain ⟨m, hm'⟩ : ∃ m : Nat, n.toInt = (m : Int) := ⟨n.toInt.toNat, by omega⟩
  rw [hm'] at w' h1 h2
  have wn : c * 2 ^ q.toNat = m * 2 ^ (-q).toNat := by exact_mod_cast w'
  have m1 : 1 ≤ m := by omega
  have m2 : m < 2 ^ 53 := by have : (2:Nat) ^ 53 = 9007199254740992 := by decide
                             omega
  have hq0 : q ≤ 0 := by
    apply Int.not_lt.mp; intro hq
    have e1 : (-q).toNat = 0 := by omega
    obtain ⟨r, hr⟩ : ∃ r, q.toNat = r + 1 := ⟨q.toNat - 1, by omega⟩
    rw [e1, hr] at wn
    rcases f4 with f4 | f4
    · omega
    · have : 2 ^ 52 * 2 ^ (r + 1) ≤ c * 2 ^ (r + 1) := Nat.mul_le_mul_right _ f4
      have : 2 ^ (52 + 1) ≤ 2 ^ 52 * 2 ^ (r + 1) := by rw [← Nat.pow_add]; exact Nat.pow_le_pow_right (by decide) (by omega)
      omega
  have e0 : q.toNat = 0 := by omega
  rw [e0] at wn
  have wn' : c = m * 2 ^ (-q).toNat := by simpa using wn
  have hq1 : -52 ≤ q := by
    apply Int.not_lt.mp; intro hq
    have : 2 ^ 53 ≤ 2 ^ (-q).toNat := Nat.pow_le_pow_right (by decide) (by omega)
    have : 1 * 2 ^ (-q).toNat ≤ m * 2 ^ (-q).toNat := Nat.mul_le_mul_right _ m1
    omega
  refine ⟨c, q, e, ?_, f1, hq1, hq0⟩
  rcases f4 with f4 | f4
  · omega
  · exact f4
theorem own_fits (c : Nat) (q : Int) (h1 : 2 ^ 52 ≤ c) (h2 : c < 2 ^ 53) (h3 : -1000 ≤ q) (h4 : q ≤ 100) : FP.Core.fits FP.Core.b64 (.fin false c q) := by
  have hm : FP.Core.b64.qmin = -1074 := by decide
  have hx : FP.Core.b64.qmax = 971 := by decide
  have ht : FP.Core.b64.tails = 2 ^ 52 := by decide
  exact ⟨h2, by rw [hm]; omega, by rw [hx]; omega, Or.inr (by rw [ht]; exact h1)⟩
/-- times a power of two: exact -/
theorem own_scale (x k : UInt64) (c : Nat) (q r : Int) (hx : FP.Core.val64 x = .fin false c q) (hk : FP.Core.val64 k = .fin false (2 ^ 52) (r - 52)) (h1 : 2 ^ 52 ≤ c) (h2 : c < 2 ^ 53) (h3 : -1000 ≤ q + r) (h4 : q + r ≤ 100) : FP.Core.val64 (FP.dmul x k) = .fin false c (q + r) := by
  show FP.Core.val64 (FP.Core.dmul x k) = _
  rw [FP.Core.val64_dmul, hx, hk]
  show FP.Core.roundRatio FP.Core.b64 false (c * 2 ^ 52) 1 (q + (r - 52)) = _
  refine FP.Core.roundRatio_exact FP.Core.good_b64 (by decide) (own_fits c (q + r) h1 h2 h3 h4) ?_
  rw [show (q + (r - 52) - (q + r)).toNat = 0 from by omega, show (q + r - (q + (r - 52))).toNat = 52 from by omega]
  simp
theorem own_dbl (n : Int64) (h1 : 0 ≤ n.toInt) (h2 : n.toInt < 9007199254740992) :
    Jvm.Free.Fl.NoNaN64 (FP.dmul (FP.l2d n) 4368491638549381120) ∧ (cmpValue (FP.dcmp 0 (FP.dmul (FP.l2d n) 4368491638549381120)) .g = -1 ∨ cmpValue (FP.dcmp 0 (FP.dmul (FP.l2d n) 4368491638549381120)) .g = 0) ∧ cmpValue (FP.dcmp (FP.dmul (FP.l2d n) 4368491638549381120) 4607182418800017408) .g = -1 ∧
    FP.dmul (FP.dmul (FP.l2d n) 4368491638549381120) 4845873199050653696 = FP.l2d n := by
  by_cases hz : n = 0
  · subst hz
    have e : FP.dmul (FP.l2d 0) 4368491638549381120 = 0 := by decide +kernel
    rw [e]
    exact ⟨by decide, Or.inr (by decide +kernel), by decide +kernel, by decide +kernel⟩
  · have h3 : 1 ≤ n.toInt := by
      have : n.toInt ≠ 0 := fun q => hz (Int64.toInt_inj.mp q)
      omega
    obtain ⟨c, q, e, c1, c2, q1, q2⟩ := own_shape n h3 h2
    have k1 : FP.Core.val64 4368491638549381120 = .fin false (2 ^ 52) (-53 - 52) := by decide +kernel
    have k2 : FP.Core.val64 4845873199050653696 = .fin false (2 ^ 52) (53 - 52) := by decide +kernel
    have d1 := own_scale _ _ c q (-53) e k1 c1 c2 (by omega) (by omega)
    have d2 := own_scale _ _ c (q + -53) 53 d1 k2 c1 c2 (by omega) (by omega)
    generalize FP.dmul (FP.l2d n) 4368491638549381120 = d at *
    refine ⟨(Jvm.Free.Fl.fin64_core.mpr ⟨_, _, _, d1⟩).noNaN, Or.inl ?_, ?_, ?_⟩
    · have : FP.dcmp 0 d = some .lt := by
        show FP.Core.order (FP.Core.val64 0) (FP.Core.val64 d) = _
        rw [FP.Core.val64_zero, d1]
        show some (compare _ _) = _
        congr 1
        rw [Int.compare_eq_lt]
        simp only [FP.Core.signed, FP.Core.inUnits]
        have : 0 < c * 2 ^ (q + -53 - min FP.Core.b64.qmin (q + -53)).toNat := Nat.mul_pos (by omega) (Nat.two_pow_pos _)
        simpa using Int.ofNat_lt.mpr this
      rw [this]; rfl
    · have : FP.dcmp d 4607182418800017408 = some .lt := by
        show FP.Core.order (FP.Core.val64 d) (FP.Core.val64 FP.Core.dconst1) = _
        rw [FP.Core.val64_dconst1, d1]
        show some (compare _ _) = _
        congr 1
        rw [Int.compare_eq_lt, show min (q + -53) (-52) = q + -53 from by omega]
        simp only [FP.Core.signed, FP.Core.inUnits]
        rw [show (q + -53 - (q + -53)).toNat = 0 from by omega]
        have : 2 ^ 52 * 2 ^ 1 ≤ 2 ^ 52 * 2 ^ (-52 - (q + -53)).toNat := Nat.mul_le_mul_left _ (Nat.pow_le_pow_right (by decide) (by omega))
        have : c * 2 ^ 0 < 2 ^ 52 * 2 ^ (-52 - (q + -53)).toNat := by omega
        simpa using Int.ofNat_lt.mpr this
      rw [this]; rfl
    · refine (FP.Core.val64_inj (a := FP.l2d n) (by rw [e]; simp) ?_).symm
      rw [d2, e]; congr 1; omega
/-- the double that a word gives -/
def own_dd (w : Int64) : UInt64 := FP.dmul (FP.l2d (XT.ushrL w (11 : Int32))) (4368491638549381120 : UInt64)
theorem own_ush (x : Int64) : 0 ≤ (XT.ushrL x (11 : Int32)).toInt ∧ (XT.ushrL x (11 : Int32)).toInt < 9007199254740992 := by
  have h := c_lushr x 11 11 (by decide) (by decide)
  have e : XT.ushrL x (11 : Int32) = (x.toUInt64 >>> ((11 : Int32) &&& 0x3f).toInt64.toUInt64).toInt64 := by
    unfold XT.ushrL
    rw [show ((11 : Int32).toInt64.toUInt64 &&& Int64.toUInt64 63) = ((11 : Int32) &&& 0x3f).toInt64.toUInt64 from by decide]
  rw [e, h]
  have : (2 : Nat) ^ 11 = 2048 := by decide
  rw [this]
  omega
theorem own_dd_spec (w : Int64) : Jvm.Free.Fl.NoNaN64 (own_dd w) ∧ (cmpValue (FP.dcmp 0 (own_dd w)) .g = -1 ∨ cmpValue (FP.dcmp 0 (own_dd w)) .g = 0) ∧ cmpValue (FP.dcmp (own_dd w) 4607182418800017408) .g = -1 ∧ FP.dmul (own_dd w) 4845873199050653696 = FP.l2d (XT.ushrL w (11 : Int32)) :=
  own_dbl _ (own_ush w).1 (own_ush w).2
theorem d_prog_4_method_1_code_0 : decode prog_4_method_1_code 0 = .ok (.aload_n 0, 1) := by decide +kernel
theorem d_prog_4_method_1_code_1 : decode prog_4_method_1_code 1 = .ok (.invokespecial 1, 3) := by decide +kernel
theorem d_prog_4_method_1_code_4 : decode prog_4_method_1_code 4 = .ok (.aload_n 0, 1) := by decide +kernel
theorem d_prog_4_method_1_code_5 : decode prog_4_method_1_code 5 = .ok (.lload_n 1, 1) := by decide +kernel
theorem d_prog_4_method_1_code_6 : decode prog_4_method_1_code 6 = .ok (.putfield 7, 3) := by decide +kernel
theorem d_prog_4_method_1_code_9 : decode prog_4_method_1_code 9 = .ok (.return_, 1) := by decide +kernel
theorem pn_com_example_amblesim_amblesim_model_RandomSource : plainName "com/example/amblesim/amblesim/model/RandomSource" = true := by first | (simp [plainName, overriddenIn]; done) | decide +kernel
set_option maxRecDepth 65536 in
set_option maxHeartbeats 40000000 in
theorem rm1 (l : Launch) (Z : State) (a0 : Array Value) (hw : ∀ d ∈ tables_1, d.before a0 Z = true) (ws : List Jvm.Cond) (a1 : Addr) (q1 : Int64) (h0 : Heap) (n0 : Nat) (Z0 : n0 ≤ h0.size) (F0 : Fld Z h0 a1 "com/example/amblesim/amblesim/model/RandomSource" "state" "J" (.long (0 : Int64))) (A0 : Exa Z h0 a1 "com/example/amblesim/amblesim/model/RandomSource") (g0 : n0 ≤ a1) :
    Does l (⟨"com/example/amblesim/amblesim/model/RandomSource", "<init>", "(J)V"⟩ : MethodName) prog_4_method_1_code 3 none ws ({ frames := 1, cells := 0, slots := 0, locals := 12 } : Room) #[(.ref a1), (.long q1)] Z h0 (fun v h L => v = none ∧ Fr n0 L ∧ Keep h0 h [a1] ∧ Exa Z h a1 "com/example/amblesim/amblesim/model/RandomSource" ∧ Fld Z h a1 "com/example/amblesim/amblesim/model/RandomSource" "state" "J" (.long q1)) := by
  refine Does.of (plainFor_of_name pn_com_example_amblesim_amblesim_model_RandomSource) ?_
  intro p e s m below meth c s₁ hx hby hml hret hlk hown0 hnm hZ X0 e0
  have hown : s.vm.findClass "com/example/amblesim/amblesim/model/RandomSource" = some m.cls := hown0
  have N0 := Fr.nil n0
  refine Go.cast (g' := (mkF m 0 #[.val (.ref a1), .val (.long q1), .second] [])) (by first | (simp [entryFrame, mkF, argsToLocals, Value.category, maxLocals]; done) | rfl) ?_
  refine Go.st (T' := s₁) (g' := (mkF m 1 #[.val (.ref a1), .val (.long q1), .second] [(.ref a1)])) ?_ (fun _ k_ => XS.aloadN X0.here hx rfl (hb hby d_prog_4_method_1_code_0) rfl rfl k_)
  obtain ⟨T1, X1, e1, st1⟩ := initO X0 hx hZ hown (hw _ (List.mem_of_getElem? (i := 6) rfl)) (hw _ (List.mem_of_getElem? (i := 7) rfl)) (hw _ (List.mem_of_getElem? (i := 8) rfl)) e0 (g := (mkF m 1 #[.val (.ref a1), .val (.long q1), .second] [(.ref a1)])) rfl (by rw [hml]; rfl) rfl (hb hby d_prog_4_method_1_code_1) (by decide) (W := 0) (by show 2 * 0 + _ ≤ _; exact Nat.le_of_eq rfl) (by decide)
  refine Go.st (T' := T1) (g' := (mkF m 4 #[.val (.ref a1), .val (.long q1), .second] [])) ?_ st1
  refine Go.st (T' := T1) (g' := (mkF m 5 #[.val (.ref a1), .val (.long q1), .second] [(.ref a1)])) ?_ (fun _ k_ => XS.aloadN X1.here hx rfl (hb hby d_prog_4_method_1_code_4) rfl rfl k_)
  refine Go.st (T' := T1) (g' := (mkF m 6 #[.val (.ref a1), .val (.long q1), .second] [(.long q1), (.ref a1)])) ?_ (fun _ k_ => XT.lloadN X1.here hx rfl (hb hby d_prog_4_method_1_code_5) rfl k_)
  obtain ⟨T2, h2, X2, e2, W2, st2⟩ := putF X1 hx hZ hown (host := "") (Or.inl (hw _ (List.mem_of_getElem? (i := 9) rfl))) Via.refl e1 F0 A0 (Or.inl (hw _ (List.mem_of_getElem? (i := 10) rfl))) (hw _ (List.mem_of_getElem? (i := 1) rfl)) (ty := .long) (by decide) rfl rfl (g := (mkF m 6 #[.val (.ref a1), .val (.long q1), .second] [(.long q1), (.ref a1)])) rfl rfl (hb hby d_prog_4_method_1_code_6)
  have N2 := Fr.snoc X2 N0 g0
  refine Go.st (T' := T2) (g' := (mkF m 9 #[.val (.ref a1), .val (.long q1), .second] [])) ?_ st2
  exact Go.retU X2 hx hret hlk (by decide) (by decide) (hb hby d_prog_4_method_1_code_9) (by rw [e2]; exact ⟨rfl, N2, (show Keep h0 h2 [a1] from ((Keep.refl _ _).wr W2 (Or.inl (List.mem_of_getElem? (i := 0) rfl)))), (A0.wr W2), (F0.same W2)⟩)
theorem d_prog_4_method_2_code_0 : decode prog_4_method_2_code 0 = .ok (.aload_n 0, 1) := by decide +kernel
theorem d_prog_4_method_2_code_1 : decode prog_4_method_2_code 1 = .ok (.dup, 1) := by decide +kernel
theorem d_prog_4_method_2_code_2 : decode prog_4_method_2_code 2 = .ok (.getfield 7, 3) := by decide +kernel
theorem d_prog_4_method_2_code_5 : decode prog_4_method_2_code 5 = .ok (.ldc2_w 13, 3) := by decide +kernel
theorem d_prog_4_method_2_code_8 : decode prog_4_method_2_code 8 = .ok (.ladd, 1) := by decide +kernel
theorem d_prog_4_method_2_code_9 : decode prog_4_method_2_code 9 = .ok (.putfield 7, 3) := by decide +kernel
theorem d_prog_4_method_2_code_12 : decode prog_4_method_2_code 12 = .ok (.aload_n 0, 1) := by decide +kernel
theorem d_prog_4_method_2_code_13 : decode prog_4_method_2_code 13 = .ok (.getfield 7, 3) := by decide +kernel
theorem d_prog_4_method_2_code_16 : decode prog_4_method_2_code 16 = .ok (.lstore_n 1, 1) := by decide +kernel
theorem d_prog_4_method_2_code_17 : decode prog_4_method_2_code 17 = .ok (.lload_n 1, 1) := by decide +kernel
theorem d_prog_4_method_2_code_18 : decode prog_4_method_2_code 18 = .ok (.lload_n 1, 1) := by decide +kernel
theorem d_prog_4_method_2_code_19 : decode prog_4_method_2_code 19 = .ok (.bipush 30, 2) := by decide +kernel
theorem d_prog_4_method_2_code_21 : decode prog_4_method_2_code 21 = .ok (.lushr, 1) := by decide +kernel
theorem d_prog_4_method_2_code_22 : decode prog_4_method_2_code 22 = .ok (.lxor, 1) := by decide +kernel
theorem d_prog_4_method_2_code_23 : decode prog_4_method_2_code 23 = .ok (.ldc2_w 15, 3) := by decide +kernel
theorem d_prog_4_method_2_code_26 : decode prog_4_method_2_code 26 = .ok (.lmul, 1) := by decide +kernel
theorem d_prog_4_method_2_code_27 : decode prog_4_method_2_code 27 = .ok (.lstore_n 1, 1) := by decide +kernel
theorem d_prog_4_method_2_code_28 : decode prog_4_method_2_code 28 = .ok (.lload_n 1, 1) := by decide +kernel
theorem d_prog_4_method_2_code_29 : decode prog_4_method_2_code 29 = .ok (.lload_n 1, 1) := by decide +kernel
theorem d_prog_4_method_2_code_30 : decode prog_4_method_2_code 30 = .ok (.bipush 27, 2) := by decide +kernel
theorem d_prog_4_method_2_code_32 : decode prog_4_method_2_code 32 = .ok (.lushr, 1) := by decide +kernel
theorem d_prog_4_method_2_code_33 : decode prog_4_method_2_code 33 = .ok (.lxor, 1) := by decide +kernel
theorem d_prog_4_method_2_code_34 : decode prog_4_method_2_code 34 = .ok (.ldc2_w 17, 3) := by decide +kernel
theorem d_prog_4_method_2_code_37 : decode prog_4_method_2_code 37 = .ok (.lmul, 1) := by decide +kernel
theorem d_prog_4_method_2_code_38 : decode prog_4_method_2_code 38 = .ok (.lstore_n 1, 1) := by decide +kernel
theorem d_prog_4_method_2_code_39 : decode prog_4_method_2_code 39 = .ok (.lload_n 1, 1) := by decide +kernel
theorem d_prog_4_method_2_code_40 : decode prog_4_method_2_code 40 = .ok (.lload_n 1, 1) := by decide +kernel
theorem d_prog_4_method_2_code_41 : decode prog_4_method_2_code 41 = .ok (.bipush 31, 2) := by decide +kernel
theorem d_prog_4_method_2_code_43 : decode prog_4_method_2_code 43 = .ok (.lushr, 1) := by decide +kernel
theorem d_prog_4_method_2_code_44 : decode prog_4_method_2_code 44 = .ok (.lxor, 1) := by decide +kernel
theorem d_prog_4_method_2_code_45 : decode prog_4_method_2_code 45 = .ok (.lreturn, 1) := by decide +kernel
set_option maxRecDepth 65536 in
set_option maxHeartbeats 40000000 in
theorem rm2 (l : Launch) (Z : State) (a0 : Array Value) (hw : ∀ d ∈ tables_1, d.before a0 Z = true) (ws : List Jvm.Cond) (a1 : Addr) (q1 : Int64) (h0 : Heap) (n0 : Nat) (Z0 : n0 ≤ h0.size) (F0 : Fld Z h0 a1 "com/example/amblesim/amblesim/model/RandomSource" "state" "J" (.long q1)) (A0 : Exa Z h0 a1 "com/example/amblesim/amblesim/model/RandomSource") (g0 : n0 ≤ a1) :
    Does l (⟨"com/example/amblesim/amblesim/model/RandomSource", "nextLong", "()J"⟩ : MethodName) prog_4_method_2_code 3 (some .long) ws ({ frames := 0, cells := 0, slots := 0, locals := 0 } : Room) #[(.ref a1)] Z h0 (fun v h L => v = some (.long (own_mix (q1 + (-7046029254386353131 : Int64)))) ∧ Fr n0 L ∧ Keep h0 h [a1] ∧ Exa Z h a1 "com/example/amblesim/amblesim/model/RandomSource" ∧ Fld Z h a1 "com/example/amblesim/amblesim/model/RandomSource" "state" "J" (.long (q1 + (-7046029254386353131 : Int64)))) := by
  refine Does.of (plainFor_of_name pn_com_example_amblesim_amblesim_model_RandomSource) ?_
  intro p e s m below meth c s₁ hx hby hml hret hlk hown0 hnm hZ X0 e0
  have hown : s.vm.findClass "com/example/amblesim/amblesim/model/RandomSource" = some m.cls := hown0
  have N0 := Fr.nil n0
  refine Go.cast (g' := (mkF m 0 #[.val (.ref a1), .unset, .unset] [])) (by first | (simp [entryFrame, mkF, argsToLocals, Value.category, maxLocals]; done) | rfl) ?_
  refine Go.st (T' := s₁) (g' := (mkF m 1 #[.val (.ref a1), .unset, .unset] [(.ref a1)])) ?_ (fun _ k_ => XS.aloadN X0.here hx rfl (hb hby d_prog_4_method_2_code_0) rfl rfl k_)
  refine Go.st (T' := s₁) (g' := (mkF m 2 #[.val (.ref a1), .unset, .unset] [(.ref a1), (.ref a1)])) ?_ (fun _ k_ => XS.dup X0.here hx rfl (hb hby d_prog_4_method_2_code_1) rfl rfl k_)
  obtain ⟨T1, X1, e1, st1⟩ := getF X0 hx hZ hown (host := "") (Or.inl (hw _ (List.mem_of_getElem? (i := 9) rfl))) Via.refl e0 F0 (g := (mkF m 2 #[.val (.ref a1), .unset, .unset] [(.ref a1), (.ref a1)])) rfl rfl (hb hby d_prog_4_method_2_code_2)
  refine Go.st (T' := T1) (g' := (mkF m 5 #[.val (.ref a1), .unset, .unset] [(.long q1), (.ref a1)])) ?_ st1
  refine Go.st (T' := T1) (g' := (mkF m 8 #[.val (.ref a1), .unset, .unset] [(.long (-7046029254386353131 : Int64)), (.long q1), (.ref a1)])) ?_ (fun _ k_ => X1.ldc2J hx hown (mvT hZ (hw _ (List.mem_of_getElem? (i := 21) rfl))) rfl (hb hby d_prog_4_method_2_code_5) k_)
  refine Go.st (T' := T1) (g' := (mkF m 9 #[.val (.ref a1), .unset, .unset] [(.long (q1 + (-7046029254386353131 : Int64))), (.ref a1)])) ?_ (fun _ k_ => XT.ladd X1.here hx rfl (hb hby d_prog_4_method_2_code_8) rfl k_)
  obtain ⟨T2, h2, X2, e2, W2, st2⟩ := putF X1 hx hZ hown (host := "") (Or.inl (hw _ (List.mem_of_getElem? (i := 9) rfl))) Via.refl e1 F0 A0 (Or.inl (hw _ (List.mem_of_getElem? (i := 10) rfl))) (hw _ (List.mem_of_getElem? (i := 1) rfl)) (ty := .long) (by decide) rfl rfl (g := (mkF m 9 #[.val (.ref a1), .unset, .unset] [(.long (q1 + (-7046029254386353131 : Int64))), (.ref a1)])) rfl rfl (hb hby d_prog_4_method_2_code_9)
  have N2 := Fr.snoc X2 N0 g0
  refine Go.st (T' := T2) (g' := (mkF m 12 #[.val (.ref a1), .unset, .unset] [])) ?_ st2
  refine Go.st (T' := T2) (g' := (mkF m 13 #[.val (.ref a1), .unset, .unset] [(.ref a1)])) ?_ (fun _ k_ => XS.aloadN X2.here hx rfl (hb hby d_prog_4_method_2_code_12) rfl rfl k_)
  obtain ⟨T3, X3, e3, st3⟩ := getF X2 hx hZ hown (host := "") (Or.inl (hw _ (List.mem_of_getElem? (i := 9) rfl))) Via.refl e2 (F0.same W2) (g := (mkF m 13 #[.val (.ref a1), .unset, .unset] [(.ref a1)])) rfl rfl (hb hby d_prog_4_method_2_code_13)
  refine Go.st (T' := T3) (g' := (mkF m 16 #[.val (.ref a1), .unset, .unset] [(.long (q1 + (-7046029254386353131 : Int64)))])) ?_ st3
  refine Go.st (T' := T3) (g' := (mkF m 17 #[.val (.ref a1), .val (.long (q1 + (-7046029254386353131 : Int64))), .second] [])) ?_ (fun _ k_ => XT.lstoreN X3.here hx rfl (hb hby d_prog_4_method_2_code_16) rfl (l' := #[.val (.ref a1), .val (.long (q1 + (-7046029254386353131 : Int64))), .second]) rfl k_)
  refine Go.st (T' := T3) (g' := (mkF m 18 #[.val (.ref a1), .val (.long (q1 + (-7046029254386353131 : Int64))), .second] [(.long (q1 + (-7046029254386353131 : Int64)))])) ?_ (fun _ k_ => XT.lloadN X3.here hx rfl (hb hby d_prog_4_method_2_code_17) rfl k_)
  refine Go.st (T' := T3) (g' := (mkF m 19 #[.val (.ref a1), .val (.long (q1 + (-7046029254386353131 : Int64))), .second] [(.long (q1 + (-7046029254386353131 : Int64))), (.long (q1 + (-7046029254386353131 : Int64)))])) ?_ (fun _ k_ => XT.lloadN X3.here hx rfl (hb hby d_prog_4_method_2_code_18) rfl k_)
  refine Go.st (T' := T3) (g' := (mkF m 21 #[.val (.ref a1), .val (.long (q1 + (-7046029254386353131 : Int64))), .second] [(.int (30 : Int32)), (.long (q1 + (-7046029254386353131 : Int64))), (.long (q1 + (-7046029254386353131 : Int64)))])) ?_ (fun _ k_ => XT.bipushV X3.here hx rfl (30 : Int32) (hb hby d_prog_4_method_2_code_19) (by decide) k_)
  refine Go.st (T' := T3) (g' := (mkF m 22 #[.val (.ref a1), .val (.long (q1 + (-7046029254386353131 : Int64))), .second] [(.long (XT.ushrL (q1 + (-7046029254386353131 : Int64)) (30 : Int32))), (.long (q1 + (-7046029254386353131 : Int64)))])) ?_ (fun _ k_ => XT.lushr X3.here hx rfl (hb hby d_prog_4_method_2_code_21) rfl k_)
  refine Go.st (T' := T3) (g' := (mkF m 23 #[.val (.ref a1), .val (.long (q1 + (-7046029254386353131 : Int64))), .second] [(.long ((q1 + (-7046029254386353131 : Int64)) ^^^ (XT.ushrL (q1 + (-7046029254386353131 : Int64)) (30 : Int32))))])) ?_ (fun _ k_ => XT.lxor X3.here hx rfl (hb hby d_prog_4_method_2_code_22) rfl k_)
  refine Go.st (T' := T3) (g' := (mkF m 26 #[.val (.ref a1), .val (.long (q1 + (-7046029254386353131 : Int64))), .second] [(.long (-4658895280553007687 : Int64)), (.long ((q1 + (-7046029254386353131 : Int64)) ^^^ (XT.ushrL (q1 + (-7046029254386353131 : Int64)) (30 : Int32))))])) ?_ (fun _ k_ => X3.ldc2J hx hown (mvT hZ (hw _ (List.mem_of_getElem? (i := 22) rfl))) rfl (hb hby d_prog_4_method_2_code_23) k_)
  refine Go.st (T' := T3) (g' := (mkF m 27 #[.val (.ref a1), .val (.long (q1 + (-7046029254386353131 : Int64))), .second] [(.long (((q1 + (-7046029254386353131 : Int64)) ^^^ (XT.ushrL (q1 + (-7046029254386353131 : Int64)) (30 : Int32))) * (-4658895280553007687 : Int64)))])) ?_ (fun _ k_ => XT.lmul X3.here hx rfl (hb hby d_prog_4_method_2_code_26) rfl k_)
  show Go p e below _ T3 (mkF m 27 #[.val (.ref a1), .val (.long (q1 + (-7046029254386353131 : Int64))), .second] [(.long (own_m1 (q1 + (-7046029254386353131 : Int64))))])
  refine Go.st (T' := T3) (g' := (mkF m 28 #[.val (.ref a1), .val (.long (own_m1 (q1 + (-7046029254386353131 : Int64)))), .second] [])) ?_ (fun _ k_ => XT.lstoreN X3.here hx rfl (hb hby d_prog_4_method_2_code_27) rfl (l' := #[.val (.ref a1), .val (.long (own_m1 (q1 + (-7046029254386353131 : Int64)))), .second]) rfl k_)
  refine Go.st (T' := T3) (g' := (mkF m 29 #[.val (.ref a1), .val (.long (own_m1 (q1 + (-7046029254386353131 : Int64)))), .second] [(.long (own_m1 (q1 + (-7046029254386353131 : Int64))))])) ?_ (fun _ k_ => XT.lloadN X3.here hx rfl (hb hby d_prog_4_method_2_code_28) rfl k_)
  refine Go.st (T' := T3) (g' := (mkF m 30 #[.val (.ref a1), .val (.long (own_m1 (q1 + (-7046029254386353131 : Int64)))), .second] [(.long (own_m1 (q1 + (-7046029254386353131 : Int64)))), (.long (own_m1 (q1 + (-7046029254386353131 : Int64))))])) ?_ (fun _ k_ => XT.lloadN X3.here hx rfl (hb hby d_prog_4_method_2_code_29) rfl k_)
  refine Go.st (T' := T3) (g' := (mkF m 32 #[.val (.ref a1), .val (.long (own_m1 (q1 + (-7046029254386353131 : Int64)))), .second] [(.int (27 : Int32)), (.long (own_m1 (q1 + (-7046029254386353131 : Int64)))), (.long (own_m1 (q1 + (-7046029254386353131 : Int64))))])) ?_ (fun _ k_ => XT.bipushV X3.here hx rfl (27 : Int32) (hb hby d_prog_4_method_2_code_30) (by decide) k_)
  refine Go.st (T' := T3) (g' := (mkF m 33 #[.val (.ref a1), .val (.long (own_m1 (q1 + (-7046029254386353131 : Int64)))), .second] [(.long (XT.ushrL (own_m1 (q1 + (-7046029254386353131 : Int64))) (27 : Int32))), (.long (own_m1 (q1 + (-7046029254386353131 : Int64))))])) ?_ (fun _ k_ => XT.lushr X3.here hx rfl (hb hby d_prog_4_method_2_code_32) rfl k_)
  refine Go.st (T' := T3) (g' := (mkF m 34 #[.val (.ref a1), .val (.long (own_m1 (q1 + (-7046029254386353131 : Int64)))), .second] [(.long ((own_m1 (q1 + (-7046029254386353131 : Int64))) ^^^ (XT.ushrL (own_m1 (q1 + (-7046029254386353131 : Int64))) (27 : Int32))))])) ?_ (fun _ k_ => XT.lxor X3.here hx rfl (hb hby d_prog_4_method_2_code_33) rfl k_)
  refine Go.st (T' := T3) (g' := (mkF m 37 #[.val (.ref a1), .val (.long (own_m1 (q1 + (-7046029254386353131 : Int64)))), .second] [(.long (-7723592293110705685 : Int64)), (.long ((own_m1 (q1 + (-7046029254386353131 : Int64))) ^^^ (XT.ushrL (own_m1 (q1 + (-7046029254386353131 : Int64))) (27 : Int32))))])) ?_ (fun _ k_ => X3.ldc2J hx hown (mvT hZ (hw _ (List.mem_of_getElem? (i := 23) rfl))) rfl (hb hby d_prog_4_method_2_code_34) k_)
  refine Go.st (T' := T3) (g' := (mkF m 38 #[.val (.ref a1), .val (.long (own_m1 (q1 + (-7046029254386353131 : Int64)))), .second] [(.long (((own_m1 (q1 + (-7046029254386353131 : Int64))) ^^^ (XT.ushrL (own_m1 (q1 + (-7046029254386353131 : Int64))) (27 : Int32))) * (-7723592293110705685 : Int64)))])) ?_ (fun _ k_ => XT.lmul X3.here hx rfl (hb hby d_prog_4_method_2_code_37) rfl k_)
  show Go p e below _ T3 (mkF m 38 #[.val (.ref a1), .val (.long (own_m1 (q1 + (-7046029254386353131 : Int64)))), .second] [(.long (own_m2 (own_m1 (q1 + (-7046029254386353131 : Int64)))))])
  refine Go.st (T' := T3) (g' := (mkF m 39 #[.val (.ref a1), .val (.long (own_m2 (own_m1 (q1 + (-7046029254386353131 : Int64))))), .second] [])) ?_ (fun _ k_ => XT.lstoreN X3.here hx rfl (hb hby d_prog_4_method_2_code_38) rfl (l' := #[.val (.ref a1), .val (.long (own_m2 (own_m1 (q1 + (-7046029254386353131 : Int64))))), .second]) rfl k_)
  refine Go.st (T' := T3) (g' := (mkF m 40 #[.val (.ref a1), .val (.long (own_m2 (own_m1 (q1 + (-7046029254386353131 : Int64))))), .second] [(.long (own_m2 (own_m1 (q1 + (-7046029254386353131 : Int64)))))])) ?_ (fun _ k_ => XT.lloadN X3.here hx rfl (hb hby d_prog_4_method_2_code_39) rfl k_)
  refine Go.st (T' := T3) (g' := (mkF m 41 #[.val (.ref a1), .val (.long (own_m2 (own_m1 (q1 + (-7046029254386353131 : Int64))))), .second] [(.long (own_m2 (own_m1 (q1 + (-7046029254386353131 : Int64))))), (.long (own_m2 (own_m1 (q1 + (-7046029254386353131 : Int64)))))])) ?_ (fun _ k_ => XT.lloadN X3.here hx rfl (hb hby d_prog_4_method_2_code_40) rfl k_)
  refine Go.st (T' := T3) (g' := (mkF m 43 #[.val (.ref a1), .val (.long (own_m2 (own_m1 (q1 + (-7046029254386353131 : Int64))))), .second] [(.int (31 : Int32)), (.long (own_m2 (own_m1 (q1 + (-7046029254386353131 : Int64))))), (.long (own_m2 (own_m1 (q1 + (-7046029254386353131 : Int64)))))])) ?_ (fun _ k_ => XT.bipushV X3.here hx rfl (31 : Int32) (hb hby d_prog_4_method_2_code_41) (by decide) k_)
  refine Go.st (T' := T3) (g' := (mkF m 44 #[.val (.ref a1), .val (.long (own_m2 (own_m1 (q1 + (-7046029254386353131 : Int64))))), .second] [(.long (XT.ushrL (own_m2 (own_m1 (q1 + (-7046029254386353131 : Int64)))) (31 : Int32))), (.long (own_m2 (own_m1 (q1 + (-7046029254386353131 : Int64)))))])) ?_ (fun _ k_ => XT.lushr X3.here hx rfl (hb hby d_prog_4_method_2_code_43) rfl k_)
  refine Go.st (T' := T3) (g' := (mkF m 45 #[.val (.ref a1), .val (.long (own_m2 (own_m1 (q1 + (-7046029254386353131 : Int64))))), .second] [(.long ((own_m2 (own_m1 (q1 + (-7046029254386353131 : Int64)))) ^^^ (XT.ushrL (own_m2 (own_m1 (q1 + (-7046029254386353131 : Int64)))) (31 : Int32))))])) ?_ (fun _ k_ => XT.lxor X3.here hx rfl (hb hby d_prog_4_method_2_code_44) rfl k_)
  show Go p e below _ T3 (mkF m 45 #[.val (.ref a1), .val (.long (own_m2 (own_m1 (q1 + (-7046029254386353131 : Int64))))), .second] [(.long (own_mix (q1 + (-7046029254386353131 : Int64))))])
  exact Go.retV (t := .long) X3 hx hret hlk (by decide) (by decide) rfl (Or.inr (Or.inl ⟨rfl, rfl, _, rfl⟩)) (hb hby d_prog_4_method_2_code_45) (by rw [e3]; exact ⟨rfl, N2, (show Keep h0 h2 [a1] from ((Keep.refl _ _).wr W2 (Or.inl (List.mem_of_getElem? (i := 0) rfl)))), (A0.wr W2), (F0.same W2)⟩)
theorem d_prog_4_method_3_code_0 : decode prog_4_method_3_code 0 = .ok (.aload_n 0, 1) := by decide +kernel
theorem d_prog_4_method_3_code_1 : decode prog_4_method_3_code 1 = .ok (.invokevirtual 19, 3) := by decide +kernel
theorem pd___J : parseMethodDescriptor "()J" = some ⟨[], some .long⟩ := by decide +kernel
theorem d_prog_4_method_3_code_4 : decode prog_4_method_3_code 4 = .ok (.bipush 11, 2) := by decide +kernel
theorem d_prog_4_method_3_code_6 : decode prog_4_method_3_code 6 = .ok (.lushr, 1) := by decide +kernel
theorem d_prog_4_method_3_code_7 : decode prog_4_method_3_code 7 = .ok (.l2d, 1) := by decide +kernel
theorem d_prog_4_method_3_code_8 : decode prog_4_method_3_code 8 = .ok (.ldc2_w 23, 3) := by decide +kernel
theorem d_prog_4_method_3_code_11 : decode prog_4_method_3_code 11 = .ok (.dmul, 1) := by decide +kernel
theorem d_prog_4_method_3_code_12 : decode prog_4_method_3_code 12 = .ok (.dreturn, 1) := by decide +kernel
set_option maxRecDepth 65536 in
set_option maxHeartbeats 40000000 in
theorem rm3 (l : Launch) (Z : State) (a0 : Array Value) (hw : ∀ d ∈ tables_1, d.before a0 Z = true) (ws : List Jvm.Cond) (a1 : Addr) (q1 : Int64) (h0 : Heap) (n0 : Nat) (Z0 : n0 ≤ h0.size) (F0 : Fld Z h0 a1 "com/example/amblesim/amblesim/model/RandomSource" "state" "J" (.long q1)) (A0 : Exa Z h0 a1 "com/example/amblesim/amblesim/model/RandomSource") (g0 : n0 ≤ a1) :
    Does l (⟨"com/example/amblesim/amblesim/model/RandomSource", "nextDouble", "()D"⟩ : MethodName) prog_4_method_3_code 1 (some .double) ws ({ frames := 1, cells := 0, slots := 0, locals := 14 } : Room) #[(.ref a1)] Z h0 (fun v h L => v = some (.double (own_dd (own_mix (q1 + (-7046029254386353131 : Int64))))) ∧ Fr n0 L ∧ Keep h0 h [a1] ∧ Exa Z h a1 "com/example/amblesim/amblesim/model/RandomSource" ∧ Fld Z h a1 "com/example/amblesim/amblesim/model/RandomSource" "state" "J" (.long (q1 + (-7046029254386353131 : Int64)))) := by
  refine Does.of (plainFor_of_name pn_com_example_amblesim_amblesim_model_RandomSource) ?_
  intro p e s m below meth c s₁ hx hby hml hret hlk hown0 hnm hZ X0 e0
  have hown : s.vm.findClass "com/example/amblesim/amblesim/model/RandomSource" = some m.cls := hown0
  have N0 := Fr.nil n0
  refine Go.cast (g' := (mkF m 0 #[.val (.ref a1)] [])) (by first | (simp [entryFrame, mkF, argsToLocals, Value.category, maxLocals]; done) | rfl) ?_
  refine Go.st (T' := s₁) (g' := (mkF m 1 #[.val (.ref a1)] [(.ref a1)])) ?_ (fun _ k_ => XS.aloadN X0.here hx rfl (hb hby d_prog_4_method_3_code_0) rfl rfl k_)
  refine Go.callV X0 hx hZ hown (hw _ (List.mem_of_getElem? (i := 16) rfl)) (hw _ (List.mem_of_getElem? (i := 17) rfl)) (hw _ (List.mem_of_getElem? (i := 19) rfl)) (hw _ (List.mem_of_getElem? (i := 18) rfl)) (hw _ (List.mem_of_getElem? (i := 2) rfl)) (hw _ (List.mem_of_getElem? (i := 20) rfl)) (by decide) A0 (rm2 l Z a0 hw [] a1 q1 h0 n0 Z0 F0 A0 g0) e0 (by decide) (W := 0) (by decide) (by decide) (by decide) (g := (mkF m 1 #[.val (.ref a1)] [(.ref a1)])) (rest := []) rfl (by rw [hml]; rfl) (lenOf pd___J rfl) rfl (by show 2 * 0 + _ ≤ _; exact Nat.le_of_eq rfl) (hb hby d_prog_4_method_3_code_1) ?_
  rintro v1 T1 L1 X1 ⟨rfl, N1, K1, A1, F1⟩
  have M1 := Fr.app N0 N1
  show Go p e below _ T1 (mkF m 4 #[.val (.ref a1)] [(.long (own_mix (q1 + (-7046029254386353131 : Int64))))])
  refine Go.st (T' := T1) (g' := (mkF m 6 #[.val (.ref a1)] [(.int (11 : Int32)), (.long (own_mix (q1 + (-7046029254386353131 : Int64))))])) ?_ (fun _ k_ => XT.bipushV X1.here hx rfl (11 : Int32) (hb hby d_prog_4_method_3_code_4) (by decide) k_)
  refine Go.st (T' := T1) (g' := (mkF m 7 #[.val (.ref a1)] [(.long (XT.ushrL (own_mix (q1 + (-7046029254386353131 : Int64))) (11 : Int32)))])) ?_ (fun _ k_ => XT.lushr X1.here hx rfl (hb hby d_prog_4_method_3_code_6) rfl k_)
  refine Go.st (T' := T1) (g' := (mkF m 8 #[.val (.ref a1)] [(.double (FP.l2d (XT.ushrL (own_mix (q1 + (-7046029254386353131 : Int64))) (11 : Int32))))])) ?_ (fun _ k_ => XS.l2dS X1.here hx rfl (hb hby d_prog_4_method_3_code_7) rfl rfl k_)
  have ww2 : (Jvm.Cond.constantDouble "com/example/amblesim/amblesim/model/RandomSource" 23 (4368491638549381120 : UInt64)).before a0 Z = true := (hw _ (List.mem_of_getElem? (i := 24) rfl))
  have wv2 : (Jvm.Cond.constantDouble "com/example/amblesim/amblesim/model/RandomSource" 23 (4368491638549381120 : UInt64)).before #[(.ref a1)] s = true := mv hZ ww2 (by rfl)
  refine Go.st (T' := T1) (g' := (mkF m 11 #[.val (.ref a1)] [(.double (4368491638549381120 : UInt64)), (.double (FP.l2d (XT.ushrL (own_mix (q1 + (-7046029254386353131 : Int64))) (11 : Int32))))])) ?_ (X1.ldc2DoubleC hx hown wv2 (g := (mkF m 8 #[.val (.ref a1)] [(.double (FP.l2d (XT.ushrL (own_mix (q1 + (-7046029254386353131 : Int64))) (11 : Int32))))])) rfl (hb hby d_prog_4_method_3_code_8))
  refine Go.st (T' := T1) (g' := (mkF m 12 #[.val (.ref a1)] [(.double (own_dd (own_mix (q1 + (-7046029254386353131 : Int64)))))])) ?_ (fun _ k_ => XS.dmulS X1.here hx rfl (hb hby d_prog_4_method_3_code_11) rfl (own_dd_spec _).1 rfl k_)
  exact Go.retV (t := .double) X1 hx hret hlk (by decide) (by decide) rfl (Or.inr (Or.inr (Or.inl ⟨rfl, rfl, _, rfl⟩))) (hb hby d_prog_4_method_3_code_12) ⟨rfl, M1, (show Keep h0 T1.heap [a1] from ((Keep.refl _ _).trans K1 (allS (Or.inl (List.mem_of_getElem? (i := 0) rfl)) all0))), A1, F1⟩
theorem d_method_2_code_0 : decode method_2_code 0 = .ok (.dconst 0, 1) := by decide +kernel
theorem d_method_2_code_1 : decode method_2_code 1 = .ok (.dload_n 0, 1) := by decide +kernel
theorem d_method_2_code_2 : decode method_2_code 2 = .ok (.dcmp .g, 1) := by decide +kernel
theorem d_method_2_code_3 : decode method_2_code 3 = .ok (.ifCond .gt 9, 3) := by decide +kernel
theorem d_method_2_code_6 : decode method_2_code 6 = .ok (.dload_n 0, 1) := by decide +kernel
theorem d_method_2_code_7 : decode method_2_code 7 = .ok (.dconst 1, 1) := by decide +kernel
theorem d_method_2_code_8 : decode method_2_code 8 = .ok (.dcmp .g, 1) := by decide +kernel
theorem d_method_2_code_9 : decode method_2_code 9 = .ok (.ifCond .lt 5, 3) := by decide +kernel
theorem d_method_2_code_14 : decode method_2_code 14 = .ok (.dload_n 0, 1) := by decide +kernel
theorem d_method_2_code_15 : decode method_2_code 15 = .ok (.ldc2_w 7, 3) := by decide +kernel
theorem d_method_2_code_18 : decode method_2_code 18 = .ok (.dmul, 1) := by decide +kernel
theorem d_method_2_code_19 : decode method_2_code 19 = .ok (.d2l, 1) := by decide +kernel
theorem d_method_2_code_20 : decode method_2_code 20 = .ok (.lstore 4, 2) := by decide +kernel
theorem d_method_2_code_22 : decode method_2_code 22 = .ok (.lload 4, 2) := by decide +kernel
theorem d_method_2_code_24 : decode method_2_code 24 = .ok (.lload_n 2, 1) := by decide +kernel
theorem d_method_2_code_25 : decode method_2_code 25 = .ok (.bipush 11, 2) := by decide +kernel
theorem d_method_2_code_27 : decode method_2_code 27 = .ok (.lushr, 1) := by decide +kernel
theorem d_method_2_code_28 : decode method_2_code 28 = .ok (.lcmp, 1) := by decide +kernel
theorem d_method_2_code_29 : decode method_2_code 29 = .ok (.ifCond .ne 7, 3) := by decide +kernel
theorem d_method_2_code_32 : decode method_2_code 32 = .ok (.iconst 1, 1) := by decide +kernel
theorem d_method_2_code_33 : decode method_2_code 33 = .ok (.goto 4, 3) := by decide +kernel
theorem d_method_2_code_37 : decode method_2_code 37 = .ok (.ireturn, 1) := by decide +kernel
theorem pn_com_example_amblesim_amblesim_model_RandomSourceNextDoublePinLaw : plainName "com/example/amblesim/amblesim/model/RandomSourceNextDoublePinLaw" = true := by first | (simp [plainName, overriddenIn]; done) | decide +kernel
set_option maxRecDepth 65536 in
set_option maxHeartbeats 40000000 in
theorem rm4 (l : Launch) (Z : State) (a0 : Array Value) (hw : ∀ d ∈ tables_1, d.before a0 Z = true) (ws : List Jvm.Cond) (w : Int64) (h0 : Heap) (n0 : Nat) (Z0 : n0 ≤ h0.size)  :
    Does l (⟨"com/example/amblesim/amblesim/model/RandomSourceNextDoublePinLaw", "matches", "(DJ)Z"⟩ : MethodName) method_2_code 6 (some .boolean) ws ({ frames := 0, cells := 0, slots := 0, locals := 0 } : Room) #[(.double (own_dd w)), (.long w)] Z h0 (fun v h L => v = some (.int 1) ∧ Fr n0 L ∧ h = h0) := by
  refine Does.of (plainFor_of_name pn_com_example_amblesim_amblesim_model_RandomSourceNextDoublePinLaw) ?_
  intro p e s m below meth c s₁ hx hby hml hret hlk hown0 hnm hZ X0 e0
  have hown : s.vm.findClass "com/example/amblesim/amblesim/model/RandomSourceNextDoublePinLaw" = some m.cls := hown0
  have N0 := Fr.nil n0
  refine Go.cast (g' := (mkF m 0 #[.val (.double (own_dd w)), .second, .val (.long w), .second, .unset, .unset] [])) (by first | (simp [entryFrame, mkF, argsToLocals, Value.category, maxLocals]; done) | rfl) ?_
  refine Go.st (T' := s₁) (g' := (mkF m 1 #[.val (.double (own_dd w)), .second, .val (.long w), .second, .unset, .unset] [(.double (0 : UInt64))])) ?_ (fun _ k_ => XS.dconst0 X0.here hx rfl (hb hby d_method_2_code_0) rfl k_)
  refine Go.st (T' := s₁) (g' := (mkF m 2 #[.val (.double (own_dd w)), .second, .val (.long w), .second, .unset, .unset] [(.double (own_dd w)), (.double (0 : UInt64))])) ?_ (fun _ k_ => XS.dloadN X0.here hx rfl (hb hby d_method_2_code_1) rfl k_)
  obtain ⟨s1, s2, s3, s4⟩ := own_dd_spec w
  rcases s2 with s2 | s2
  · have s5 := s2
    refine Go.st (T' := s₁) (g' := (mkF m 3 #[.val (.double (own_dd w)), .second, .val (.long w), .second, .unset, .unset] [(.int (-1 : Int32))])) ?_ (fun _ k_ => XS.dcmpS X0.here hx rfl (hb hby d_method_2_code_2) rfl s2 k_)
    refine Go.st (T' := s₁) (g' := (mkF m 6 #[.val (.double (own_dd w)), .second, .val (.long w), .second, .unset, .unset] [])) ?_ (fun _ k_ => XS.ifNo X0.here hx rfl (hb hby d_method_2_code_3) rfl (by decide) k_)
    refine Go.st (T' := s₁) (g' := (mkF m 7 #[.val (.double (own_dd w)), .second, .val (.long w), .second, .unset, .unset] [(.double (own_dd w))])) ?_ (fun _ k_ => XS.dloadN X0.here hx rfl (hb hby d_method_2_code_6) rfl k_)
    refine Go.st (T' := s₁) (g' := (mkF m 8 #[.val (.double (own_dd w)), .second, .val (.long w), .second, .unset, .unset] [(.double (4607182418800017408 : UInt64)), (.double (own_dd w))])) ?_ (fun _ k_ => XS.dconst1 X0.here hx rfl (hb hby d_method_2_code_7) rfl k_)
    refine Go.st (T' := s₁) (g' := (mkF m 9 #[.val (.double (own_dd w)), .second, .val (.long w), .second, .unset, .unset] [(.int (-1 : Int32))])) ?_ (fun _ k_ => XS.dcmpS X0.here hx rfl (hb hby d_method_2_code_8) rfl s3 k_)
    refine Go.st (T' := s₁) (g' := (mkF m 14 #[.val (.double (own_dd w)), .second, .val (.long w), .second, .unset, .unset] [])) ?_ (fun _ k_ => XS.ifYes X0.here hx rfl (pc0 := 9) (pc' := 14) rfl (hb hby d_method_2_code_9) rfl (by decide) (by decide) (by decide) k_)
    refine Go.st (T' := s₁) (g' := (mkF m 15 #[.val (.double (own_dd w)), .second, .val (.long w), .second, .unset, .unset] [(.double (own_dd w))])) ?_ (fun _ k_ => XS.dloadN X0.here hx rfl (hb hby d_method_2_code_14) rfl k_)
    have ww1 : (Jvm.Cond.constantDouble "com/example/amblesim/amblesim/model/RandomSourceNextDoublePinLaw" 7 (4845873199050653696 : UInt64)).before a0 Z = true := (hw _ (List.mem_of_getElem? (i := 30) rfl))
    have wv1 : (Jvm.Cond.constantDouble "com/example/amblesim/amblesim/model/RandomSourceNextDoublePinLaw" 7 (4845873199050653696 : UInt64)).before #[(.double (own_dd w)), (.long w)] s = true := mv hZ ww1 (by rfl)
    refine Go.st (T' := s₁) (g' := (mkF m 18 #[.val (.double (own_dd w)), .second, .val (.long w), .second, .unset, .unset] [(.double (4845873199050653696 : UInt64)), (.double (own_dd w))])) ?_ (X0.ldc2DoubleC hx hown wv1 (g := (mkF m 15 #[.val (.double (own_dd w)), .second, .val (.long w), .second, .unset, .unset] [(.double (own_dd w))])) rfl (hb hby d_method_2_code_15))
    refine Go.st (T' := s₁) (g' := (mkF m 19 #[.val (.double (own_dd w)), .second, .val (.long w), .second, .unset, .unset] [(.double (FP.l2d (XT.ushrL w (11 : Int32))))])) ?_ (fun _ k_ => XS.dmulS X0.here hx rfl (hb hby d_method_2_code_18) rfl (nn_w s4) s4 k_)
    refine Go.st (T' := s₁) (g' := (mkF m 20 #[.val (.double (own_dd w)), .second, .val (.long w), .second, .unset, .unset] [(.long (XT.ushrL w (11 : Int32)))])) ?_ (fun _ k_ => XS.d2lS X0.here hx rfl (hb hby d_method_2_code_19) rfl (d2l_w ⟨by have := own_ush w; omega, (own_ush w).2⟩) k_)
    refine Go.st (T' := s₁) (g' := (mkF m 22 #[.val (.double (own_dd w)), .second, .val (.long w), .second, .val (.long (XT.ushrL w (11 : Int32))), .second] [])) ?_ (fun _ k_ => XT.lstore X0.here hx rfl (hb hby d_method_2_code_20) rfl (l' := #[.val (.double (own_dd w)), .second, .val (.long w), .second, .val (.long (XT.ushrL w (11 : Int32))), .second]) rfl k_)
    refine Go.st (T' := s₁) (g' := (mkF m 24 #[.val (.double (own_dd w)), .second, .val (.long w), .second, .val (.long (XT.ushrL w (11 : Int32))), .second] [(.long (XT.ushrL w (11 : Int32)))])) ?_ (fun _ k_ => XT.lload X0.here hx rfl (hb hby d_method_2_code_22) rfl k_)
    refine Go.st (T' := s₁) (g' := (mkF m 25 #[.val (.double (own_dd w)), .second, .val (.long w), .second, .val (.long (XT.ushrL w (11 : Int32))), .second] [(.long w), (.long (XT.ushrL w (11 : Int32)))])) ?_ (fun _ k_ => XT.lloadN X0.here hx rfl (hb hby d_method_2_code_24) rfl k_)
    refine Go.st (T' := s₁) (g' := (mkF m 27 #[.val (.double (own_dd w)), .second, .val (.long w), .second, .val (.long (XT.ushrL w (11 : Int32))), .second] [(.int (11 : Int32)), (.long w), (.long (XT.ushrL w (11 : Int32)))])) ?_ (fun _ k_ => XT.bipushV X0.here hx rfl (11 : Int32) (hb hby d_method_2_code_25) (by decide) k_)
    refine Go.st (T' := s₁) (g' := (mkF m 28 #[.val (.double (own_dd w)), .second, .val (.long w), .second, .val (.long (XT.ushrL w (11 : Int32))), .second] [(.long (XT.ushrL w (11 : Int32))), (.long (XT.ushrL w (11 : Int32)))])) ?_ (fun _ k_ => XT.lushr X0.here hx rfl (hb hby d_method_2_code_27) rfl k_)
    refine Go.st (T' := s₁) (g' := (mkF m 29 #[.val (.double (own_dd w)), .second, .val (.long w), .second, .val (.long (XT.ushrL w (11 : Int32))), .second] [(.int (lcmpW (XT.ushrL w (11 : Int32)) (XT.ushrL w (11 : Int32))))])) ?_ (fun _ k_ => XT.lcmp X0.here hx rfl (hb hby d_method_2_code_28) rfl k_)
    refine Go.st (T' := s₁) (g' := (mkF m 32 #[.val (.double (own_dd w)), .second, .val (.long w), .second, .val (.long (XT.ushrL w (11 : Int32))), .second] [])) ?_ (fun _ k_ => XS.ifNo X0.here hx rfl (hb hby d_method_2_code_29) rfl ((if0 _ _).trans (teq ((lw_eq _ _).mpr (rfl : (XT.ushrL w (11 : Int32)) = (XT.ushrL w (11 : Int32))))).2) k_)
    refine Go.st (T' := s₁) (g' := (mkF m 33 #[.val (.double (own_dd w)), .second, .val (.long w), .second, .val (.long (XT.ushrL w (11 : Int32))), .second] [(.int (1 : Int32))])) ?_ (fun _ k_ => XT.iconstV X0.here hx rfl (1 : Int32) (hb hby d_method_2_code_32) (by decide) k_)
    refine Go.st (T' := s₁) (g' := (mkF m 37 #[.val (.double (own_dd w)), .second, .val (.long w), .second, .val (.long (XT.ushrL w (11 : Int32))), .second] [(.int (1 : Int32))])) ?_ (fun _ k_ => XS.goto X0.here hx rfl (pc0 := 33) (pc' := 37) rfl (hb hby d_method_2_code_33) (by decide) (by decide) k_)
    exact Go.retV (t := .boolean) X0 hx hret hlk (by decide) (by decide) rfl (Or.inl ⟨rfl, Or.inr (Or.inl rfl), _, rfl⟩) (hb hby d_method_2_code_37) ⟨rfl, N0, e0⟩
  · have s5 := s2
    refine Go.st (T' := s₁) (g' := (mkF m 3 #[.val (.double (own_dd w)), .second, .val (.long w), .second, .unset, .unset] [(.int (0 : Int32))])) ?_ (fun _ k_ => XS.dcmpS X0.here hx rfl (hb hby d_method_2_code_2) rfl s2 k_)
    refine Go.st (T' := s₁) (g' := (mkF m 6 #[.val (.double (own_dd w)), .second, .val (.long w), .second, .unset, .unset] [])) ?_ (fun _ k_ => XS.ifNo X0.here hx rfl (hb hby d_method_2_code_3) rfl (by decide) k_)
    refine Go.st (T' := s₁) (g' := (mkF m 7 #[.val (.double (own_dd w)), .second, .val (.long w), .second, .unset, .unset] [(.double (own_dd w))])) ?_ (fun _ k_ => XS.dloadN X0.here hx rfl (hb hby d_method_2_code_6) rfl k_)
    refine Go.st (T' := s₁) (g' := (mkF m 8 #[.val (.double (own_dd w)), .second, .val (.long w), .second, .unset, .unset] [(.double (4607182418800017408 : UInt64)), (.double (own_dd w))])) ?_ (fun _ k_ => XS.dconst1 X0.here hx rfl (hb hby d_method_2_code_7) rfl k_)
    refine Go.st (T' := s₁) (g' := (mkF m 9 #[.val (.double (own_dd w)), .second, .val (.long w), .second, .unset, .unset] [(.int (-1 : Int32))])) ?_ (fun _ k_ => XS.dcmpS X0.here hx rfl (hb hby d_method_2_code_8) rfl s3 k_)
    refine Go.st (T' := s₁) (g' := (mkF m 14 #[.val (.double (own_dd w)), .second, .val (.long w), .second, .unset, .unset] [])) ?_ (fun _ k_ => XS.ifYes X0.here hx rfl (pc0 := 9) (pc' := 14) rfl (hb hby d_method_2_code_9) rfl (by decide) (by decide) (by decide) k_)
    refine Go.st (T' := s₁) (g' := (mkF m 15 #[.val (.double (own_dd w)), .second, .val (.long w), .second, .unset, .unset] [(.double (own_dd w))])) ?_ (fun _ k_ => XS.dloadN X0.here hx rfl (hb hby d_method_2_code_14) rfl k_)
    have ww2 : (Jvm.Cond.constantDouble "com/example/amblesim/amblesim/model/RandomSourceNextDoublePinLaw" 7 (4845873199050653696 : UInt64)).before a0 Z = true := (hw _ (List.mem_of_getElem? (i := 30) rfl))
    have wv2 : (Jvm.Cond.constantDouble "com/example/amblesim/amblesim/model/RandomSourceNextDoublePinLaw" 7 (4845873199050653696 : UInt64)).before #[(.double (own_dd w)), (.long w)] s = true := mv hZ ww2 (by rfl)
    refine Go.st (T' := s₁) (g' := (mkF m 18 #[.val (.double (own_dd w)), .second, .val (.long w), .second, .unset, .unset] [(.double (4845873199050653696 : UInt64)), (.double (own_dd w))])) ?_ (X0.ldc2DoubleC hx hown wv2 (g := (mkF m 15 #[.val (.double (own_dd w)), .second, .val (.long w), .second, .unset, .unset] [(.double (own_dd w))])) rfl (hb hby d_method_2_code_15))
    refine Go.st (T' := s₁) (g' := (mkF m 19 #[.val (.double (own_dd w)), .second, .val (.long w), .second, .unset, .unset] [(.double (FP.l2d (XT.ushrL w (11 : Int32))))])) ?_ (fun _ k_ => XS.dmulS X0.here hx rfl (hb hby d_method_2_code_18) rfl (nn_w s4) s4 k_)
    refine Go.st (T' := s₁) (g' := (mkF m 20 #[.val (.double (own_dd w)), .second, .val (.long w), .second, .unset, .unset] [(.long (XT.ushrL w (11 : Int32)))])) ?_ (fun _ k_ => XS.d2lS X0.here hx rfl (hb hby d_method_2_code_19) rfl (d2l_w ⟨by have := own_ush w; omega, (own_ush w).2⟩) k_)
    refine Go.st (T' := s₁) (g' := (mkF m 22 #[.val (.double (own_dd w)), .second, .val (.long w), .second, .val (.long (XT.ushrL w (11 : Int32))), .second] [])) ?_ (fun _ k_ => XT.lstore X0.here hx rfl (hb hby d_method_2_code_20) rfl (l' := #[.val (.double (own_dd w)), .second, .val (.long w), .second, .val (.long (XT.ushrL w (11 : Int32))), .second]) rfl k_)
    refine Go.st (T' := s₁) (g' := (mkF m 24 #[.val (.double (own_dd w)), .second, .val (.long w), .second, .val (.long (XT.ushrL w (11 : Int32))), .second] [(.long (XT.ushrL w (11 : Int32)))])) ?_ (fun _ k_ => XT.lload X0.here hx rfl (hb hby d_method_2_code_22) rfl k_)
    refine Go.st (T' := s₁) (g' := (mkF m 25 #[.val (.double (own_dd w)), .second, .val (.long w), .second, .val (.long (XT.ushrL w (11 : Int32))), .second] [(.long w), (.long (XT.ushrL w (11 : Int32)))])) ?_ (fun _ k_ => XT.lloadN X0.here hx rfl (hb hby d_method_2_code_24) rfl k_)
    refine Go.st (T' := s₁) (g' := (mkF m 27 #[.val (.double (own_dd w)), .second, .val (.long w), .second, .val (.long (XT.ushrL w (11 : Int32))), .second] [(.int (11 : Int32)), (.long w), (.long (XT.ushrL w (11 : Int32)))])) ?_ (fun _ k_ => XT.bipushV X0.here hx rfl (11 : Int32) (hb hby d_method_2_code_25) (by decide) k_)
    refine Go.st (T' := s₁) (g' := (mkF m 28 #[.val (.double (own_dd w)), .second, .val (.long w), .second, .val (.long (XT.ushrL w (11 : Int32))), .second] [(.long (XT.ushrL w (11 : Int32))), (.long (XT.ushrL w (11 : Int32)))])) ?_ (fun _ k_ => XT.lushr X0.here hx rfl (hb hby d_method_2_code_27) rfl k_)
    refine Go.st (T' := s₁) (g' := (mkF m 29 #[.val (.double (own_dd w)), .second, .val (.long w), .second, .val (.long (XT.ushrL w (11 : Int32))), .second] [(.int (lcmpW (XT.ushrL w (11 : Int32)) (XT.ushrL w (11 : Int32))))])) ?_ (fun _ k_ => XT.lcmp X0.here hx rfl (hb hby d_method_2_code_28) rfl k_)
    refine Go.st (T' := s₁) (g' := (mkF m 32 #[.val (.double (own_dd w)), .second, .val (.long w), .second, .val (.long (XT.ushrL w (11 : Int32))), .second] [])) ?_ (fun _ k_ => XS.ifNo X0.here hx rfl (hb hby d_method_2_code_29) rfl ((if0 _ _).trans (teq ((lw_eq _ _).mpr (rfl : (XT.ushrL w (11 : Int32)) = (XT.ushrL w (11 : Int32))))).2) k_)
    refine Go.st (T' := s₁) (g' := (mkF m 33 #[.val (.double (own_dd w)), .second, .val (.long w), .second, .val (.long (XT.ushrL w (11 : Int32))), .second] [(.int (1 : Int32))])) ?_ (fun _ k_ => XT.iconstV X0.here hx rfl (1 : Int32) (hb hby d_method_2_code_32) (by decide) k_)
    refine Go.st (T' := s₁) (g' := (mkF m 37 #[.val (.double (own_dd w)), .second, .val (.long w), .second, .val (.long (XT.ushrL w (11 : Int32))), .second] [(.int (1 : Int32))])) ?_ (fun _ k_ => XS.goto X0.here hx rfl (pc0 := 33) (pc' := 37) rfl (hb hby d_method_2_code_33) (by decide) (by decide) k_)
    exact Go.retV (t := .boolean) X0 hx hret hlk (by decide) (by decide) rfl (Or.inl ⟨rfl, Or.inr (Or.inl rfl), _, rfl⟩) (hb hby d_method_2_code_37) ⟨rfl, N0, e0⟩
theorem pd__J_V : parseMethodDescriptor "(J)V" = some ⟨[.long], none⟩ := by decide +kernel
theorem pd___D : parseMethodDescriptor "()D" = some ⟨[], some .double⟩ := by decide +kernel
theorem pd__DJ_Z : parseMethodDescriptor "(DJ)Z" = some ⟨[.double, .long], some .boolean⟩ := by decide +kernel
set_option maxRecDepth 65536 in
set_option maxHeartbeats 40000000 in
theorem rm0 (l : Launch) (Z : State) (a0 : Array Value) (hw : ∀ d ∈ tables_1, d.before a0 Z = true) (ws : List Jvm.Cond) (q1 : Int64) (h0 : Heap) (n0 : Nat) (Z0 : n0 ≤ h0.size)  :
    Does l x code maxLocals ret ws room_1 #[(.long q1)] Z h0 (fun v h L => v = some (.int 1) ∧ Fr n0 L) := by
  refine Does.of (plainFor_of_name pn_com_example_amblesim_amblesim_model_RandomSourceNextDoublePinLaw) ?_
  intro p e s m below meth c s₁ hx hby hml hret hlk hown0 hnm hZ X0 e0
  have hown : s.vm.findClass "com/example/amblesim/amblesim/model/RandomSourceNextDoublePinLaw" = some m.cls := hown0
  have N0 := Fr.nil n0
  refine Go.cast (g' := (mkF m 0 #[.val (.long q1), .second, .unset, .unset, .unset, .unset, .unset, .unset, .unset, .unset, .unset, .unset, .unset, .unset, .unset, .unset] [])) (by first | (simp [entryFrame, mkF, argsToLocals, Value.category, maxLocals]; done) | rfl) ?_
  obtain ⟨T1, h1, X1, e1, E1, A1, D1, -, st1⟩ := newO X0 hx hZ hown (hw _ (List.mem_of_getElem? (i := 0) rfl)) (hw _ (List.mem_of_getElem? (i := 1) rfl)) (hw _ (List.mem_of_getElem? (i := 2) rfl)) e0 (g := (mkF m 0 #[.val (.long q1), .second, .unset, .unset, .unset, .unset, .unset, .unset, .unset, .unset, .unset, .unset, .unset, .unset, .unset, .unset] [])) rfl (hb hby at_0) (by decide) (by decide)
  obtain ⟨na1, g1⟩ : ∃ z, z = h0.size := ⟨_, rfl⟩
  rw [← g1] at A1 D1 st1
  have G1 : n0 ≤ na1 := Nat.le_trans Z0 (Nat.le_of_eq g1.symm)
  have H1 : h0.size ≤ na1 := Nat.le_trans (Nat.le_refl _) (Nat.le_of_eq g1.symm)
  refine Go.st (T' := T1) (g' := (mkF m 3 #[.val (.long q1), .second, .unset, .unset, .unset, .unset, .unset, .unset, .unset, .unset, .unset, .unset, .unset, .unset, .unset, .unset] [(.ref na1)])) ?_ st1
  refine Go.st (T' := T1) (g' := (mkF m 4 #[.val (.long q1), .second, .unset, .unset, .unset, .unset, .unset, .unset, .unset, .unset, .unset, .unset, .unset, .unset, .unset, .unset] [(.ref na1), (.ref na1)])) ?_ (fun _ k_ => XS.dup X1.here hx rfl (hb hby at_3) rfl rfl k_)
  refine Go.st (T' := T1) (g' := (mkF m 5 #[.val (.long q1), .second, .unset, .unset, .unset, .unset, .unset, .unset, .unset, .unset, .unset, .unset, .unset, .unset, .unset, .unset] [(.long q1), (.ref na1), (.ref na1)])) ?_ (fun _ k_ => XT.lloadN X1.here hx rfl (hb hby at_4) rfl k_)
  refine Go.callI X1 hx hZ hown rfl (hw _ (List.mem_of_getElem? (i := 3) rfl)) (hw _ (List.mem_of_getElem? (i := 4) rfl)) (hw _ (List.mem_of_getElem? (i := 2) rfl)) (hw _ (List.mem_of_getElem? (i := 5) rfl)) (by decide) (rm1 l Z a0 hw [] na1 q1 h1 n0 (Nat.le_trans Z0 E1.1) (D1 (Or.inl (hw _ (List.mem_of_getElem? (i := 10) rfl))) (ty := .long) (by decide)) A1 G1) e1 (by decide) (W := 1) (by decide) (by decide) (by decide) (g := (mkF m 5 #[.val (.long q1), .second, .unset, .unset, .unset, .unset, .unset, .unset, .unset, .unset, .unset, .unset, .unset, .unset, .unset, .unset] [(.long q1), (.ref na1), (.ref na1)])) (rest := [(.ref na1)]) rfl (by rw [hml]; rfl) (lenOf pd__J_V rfl) rfl (by show 2 * 0 + _ ≤ _; exact Nat.le_of_eq rfl) (hb hby at_5) ?_
  rintro v2 T2 L2 X2 ⟨rfl, N2, K2, A2, F2⟩
  have M2 := Fr.app N0 N2
  show Go p e below _ T2 (mkF m 8 #[.val (.long q1), .second, .unset, .unset, .unset, .unset, .unset, .unset, .unset, .unset, .unset, .unset, .unset, .unset, .unset, .unset] [(.ref na1)])
  refine Go.st (T' := T2) (g' := (mkF m 9 #[.val (.long q1), .second, .val (.ref na1), .unset, .unset, .unset, .unset, .unset, .unset, .unset, .unset, .unset, .unset, .unset, .unset, .unset] [])) ?_ (fun _ k_ => XS.astoreN X2.here hx rfl (hb hby at_8) rfl rfl (l' := #[.val (.long q1), .second, .val (.ref na1), .unset, .unset, .unset, .unset, .unset, .unset, .unset, .unset, .unset, .unset, .unset, .unset, .unset]) rfl k_)
  obtain ⟨T3, h3, X3, e3, E3, A3, D3, -, st3⟩ := newO X2 hx hZ hown (hw _ (List.mem_of_getElem? (i := 0) rfl)) (hw _ (List.mem_of_getElem? (i := 1) rfl)) (hw _ (List.mem_of_getElem? (i := 2) rfl)) rfl (g := (mkF m 9 #[.val (.long q1), .second, .val (.ref na1), .unset, .unset, .unset, .unset, .unset, .unset, .unset, .unset, .unset, .unset, .unset, .unset, .unset] [])) rfl (hb hby at_9) (by decide) (by decide)
  obtain ⟨na3, g3⟩ : ∃ z, z = T2.heap.size := ⟨_, rfl⟩
  rw [← g3] at A3 D3 st3
  have G3 : n0 ≤ na3 := Nat.le_trans (Nat.le_trans (Nat.le_trans Z0 E1.1) K2.1) (Nat.le_of_eq g3.symm)
  have H3 : h0.size ≤ na3 := Nat.le_trans (Nat.le_trans (Nat.le_trans (Nat.le_refl _) E1.1) K2.1) (Nat.le_of_eq g3.symm)
  have Q3_na1 : ¬ na1 = na3 := Nat.ne_of_lt (by rw [g3]; exact A2.lt)
  refine Go.st (T' := T3) (g' := (mkF m 12 #[.val (.long q1), .second, .val (.ref na1), .unset, .unset, .unset, .unset, .unset, .unset, .unset, .unset, .unset, .unset, .unset, .unset, .unset] [(.ref na3)])) ?_ st3
  refine Go.st (T' := T3) (g' := (mkF m 13 #[.val (.long q1), .second, .val (.ref na1), .unset, .unset, .unset, .unset, .unset, .unset, .unset, .unset, .unset, .unset, .unset, .unset, .unset] [(.ref na3), (.ref na3)])) ?_ (fun _ k_ => XS.dup X3.here hx rfl (hb hby at_12) rfl rfl k_)
  refine Go.st (T' := T3) (g' := (mkF m 14 #[.val (.long q1), .second, .val (.ref na1), .unset, .unset, .unset, .unset, .unset, .unset, .unset, .unset, .unset, .unset, .unset, .unset, .unset] [(.long q1), (.ref na3), (.ref na3)])) ?_ (fun _ k_ => XT.lloadN X3.here hx rfl (hb hby at_13) rfl k_)
  refine Go.callI X3 hx hZ hown rfl (hw _ (List.mem_of_getElem? (i := 3) rfl)) (hw _ (List.mem_of_getElem? (i := 4) rfl)) (hw _ (List.mem_of_getElem? (i := 2) rfl)) (hw _ (List.mem_of_getElem? (i := 5) rfl)) (by decide) (rm1 l Z a0 hw [] na3 q1 h3 n0 (Nat.le_trans (Nat.le_trans (Nat.le_trans Z0 E1.1) K2.1) E3.1) (D3 (Or.inl (hw _ (List.mem_of_getElem? (i := 10) rfl))) (ty := .long) (by decide)) A3 G3) e3 (by decide) (W := 1) (by decide) (by decide) (by decide) (g := (mkF m 14 #[.val (.long q1), .second, .val (.ref na1), .unset, .unset, .unset, .unset, .unset, .unset, .unset, .unset, .unset, .unset, .unset, .unset, .unset] [(.long q1), (.ref na3), (.ref na3)])) (rest := [(.ref na3)]) rfl (by rw [hml]; rfl) (lenOf pd__J_V rfl) rfl (by show 2 * 0 + _ ≤ _; exact Nat.le_of_eq rfl) (hb hby at_14) ?_
  rintro v4 T4 L4 X4 ⟨rfl, N4, K4, A4, F4⟩
  have M4 := Fr.app M2 N4
  show Go p e below _ T4 (mkF m 17 #[.val (.long q1), .second, .val (.ref na1), .unset, .unset, .unset, .unset, .unset, .unset, .unset, .unset, .unset, .unset, .unset, .unset, .unset] [(.ref na3)])
  refine Go.st (T' := T4) (g' := (mkF m 18 #[.val (.long q1), .second, .val (.ref na1), .val (.ref na3), .unset, .unset, .unset, .unset, .unset, .unset, .unset, .unset, .unset, .unset, .unset, .unset] [])) ?_ (fun _ k_ => XS.astoreN X4.here hx rfl (hb hby at_17) rfl rfl (l' := #[.val (.long q1), .second, .val (.ref na1), .val (.ref na3), .unset, .unset, .unset, .unset, .unset, .unset, .unset, .unset, .unset, .unset, .unset, .unset]) rfl k_)
  refine Go.st (T' := T4) (g' := (mkF m 19 #[.val (.long q1), .second, .val (.ref na1), .val (.ref na3), .unset, .unset, .unset, .unset, .unset, .unset, .unset, .unset, .unset, .unset, .unset, .unset] [(.ref na1)])) ?_ (fun _ k_ => XS.aloadN X4.here hx rfl (hb hby at_18) rfl rfl k_)
  refine Go.callV X4 hx hZ hown (hw _ (List.mem_of_getElem? (i := 11) rfl)) (hw _ (List.mem_of_getElem? (i := 12) rfl)) (hw _ (List.mem_of_getElem? (i := 14) rfl)) (hw _ (List.mem_of_getElem? (i := 13) rfl)) (hw _ (List.mem_of_getElem? (i := 2) rfl)) (hw _ (List.mem_of_getElem? (i := 15) rfl)) (by decide) ((A2.ext E3).keep K4) (rm3 l Z a0 hw [] na1 q1 T4.heap n0 (Nat.le_trans (Nat.le_trans (Nat.le_trans (Nat.le_trans Z0 E1.1) K2.1) E3.1) K4.1) ((F2.ext E3).keep K4 (ninS Q3_na1 nin0)) ((A2.ext E3).keep K4) G1) rfl (by decide) (W := 0) (by decide) (by decide) (by decide) (g := (mkF m 19 #[.val (.long q1), .second, .val (.ref na1), .val (.ref na3), .unset, .unset, .unset, .unset, .unset, .unset, .unset, .unset, .unset, .unset, .unset, .unset] [(.ref na1)])) (rest := []) rfl (by rw [hml]; rfl) (lenOf pd___D rfl) rfl (by show 2 * 0 + _ ≤ _; exact Nat.le_of_eq rfl) (hb hby at_19) ?_
  rintro v5 T5 L5 X5 ⟨rfl, N5, K5, A5, F5⟩
  have M5 := Fr.app M4 N5
  show Go p e below _ T5 (mkF m 22 #[.val (.long q1), .second, .val (.ref na1), .val (.ref na3), .unset, .unset, .unset, .unset, .unset, .unset, .unset, .unset, .unset, .unset, .unset, .unset] [(.double (own_dd (own_mix (q1 + (-7046029254386353131 : Int64)))))])
  refine Go.st (T' := T5) (g' := (mkF m 24 #[.val (.long q1), .second, .val (.ref na1), .val (.ref na3), .val (.double (own_dd (own_mix (q1 + (-7046029254386353131 : Int64))))), .second, .unset, .unset, .unset, .unset, .unset, .unset, .unset, .unset, .unset, .unset] [])) ?_ (fun _ k_ => XS.dstore X5.here hx rfl (hb hby at_22) rfl (l' := #[.val (.long q1), .second, .val (.ref na1), .val (.ref na3), .val (.double (own_dd (own_mix (q1 + (-7046029254386353131 : Int64))))), .second, .unset, .unset, .unset, .unset, .unset, .unset, .unset, .unset, .unset, .unset]) rfl k_)
  refine Go.st (T' := T5) (g' := (mkF m 25 #[.val (.long q1), .second, .val (.ref na1), .val (.ref na3), .val (.double (own_dd (own_mix (q1 + (-7046029254386353131 : Int64))))), .second, .unset, .unset, .unset, .unset, .unset, .unset, .unset, .unset, .unset, .unset] [(.ref na3)])) ?_ (fun _ k_ => XS.aloadN X5.here hx rfl (hb hby at_24) rfl rfl k_)
  refine Go.callV X5 hx hZ hown (hw _ (List.mem_of_getElem? (i := 25) rfl)) (hw _ (List.mem_of_getElem? (i := 17) rfl)) (hw _ (List.mem_of_getElem? (i := 19) rfl)) (hw _ (List.mem_of_getElem? (i := 18) rfl)) (hw _ (List.mem_of_getElem? (i := 2) rfl)) (hw _ (List.mem_of_getElem? (i := 20) rfl)) (by decide) (A4.keep K5) (rm2 l Z a0 hw [] na3 q1 T5.heap n0 (Nat.le_trans (Nat.le_trans (Nat.le_trans (Nat.le_trans (Nat.le_trans Z0 E1.1) K2.1) E3.1) K4.1) K5.1) (F4.keep K5 (ninS (fun q_ => Q3_na1 q_.symm) nin0)) (A4.keep K5) G3) rfl (by decide) (W := 0) (by decide) (by decide) (by decide) (g := (mkF m 25 #[.val (.long q1), .second, .val (.ref na1), .val (.ref na3), .val (.double (own_dd (own_mix (q1 + (-7046029254386353131 : Int64))))), .second, .unset, .unset, .unset, .unset, .unset, .unset, .unset, .unset, .unset, .unset] [(.ref na3)])) (rest := []) rfl (by rw [hml]; rfl) (lenOf pd___J rfl) rfl (by show 2 * 0 + _ ≤ _; exact Nat.le_of_eq rfl) (hb hby at_25) ?_
  rintro v6 T6 L6 X6 ⟨rfl, N6, K6, A6, F6⟩
  have M6 := Fr.app M5 N6
  show Go p e below _ T6 (mkF m 28 #[.val (.long q1), .second, .val (.ref na1), .val (.ref na3), .val (.double (own_dd (own_mix (q1 + (-7046029254386353131 : Int64))))), .second, .unset, .unset, .unset, .unset, .unset, .unset, .unset, .unset, .unset, .unset] [(.long (own_mix (q1 + (-7046029254386353131 : Int64))))])
  refine Go.st (T' := T6) (g' := (mkF m 30 #[.val (.long q1), .second, .val (.ref na1), .val (.ref na3), .val (.double (own_dd (own_mix (q1 + (-7046029254386353131 : Int64))))), .second, .val (.long (own_mix (q1 + (-7046029254386353131 : Int64)))), .second, .unset, .unset, .unset, .unset, .unset, .unset, .unset, .unset] [])) ?_ (fun _ k_ => XT.lstore X6.here hx rfl (hb hby at_28) rfl (l' := #[.val (.long q1), .second, .val (.ref na1), .val (.ref na3), .val (.double (own_dd (own_mix (q1 + (-7046029254386353131 : Int64))))), .second, .val (.long (own_mix (q1 + (-7046029254386353131 : Int64)))), .second, .unset, .unset, .unset, .unset, .unset, .unset, .unset, .unset]) rfl k_)
  refine Go.st (T' := T6) (g' := (mkF m 31 #[.val (.long q1), .second, .val (.ref na1), .val (.ref na3), .val (.double (own_dd (own_mix (q1 + (-7046029254386353131 : Int64))))), .second, .val (.long (own_mix (q1 + (-7046029254386353131 : Int64)))), .second, .unset, .unset, .unset, .unset, .unset, .unset, .unset, .unset] [(.ref na1)])) ?_ (fun _ k_ => XS.aloadN X6.here hx rfl (hb hby at_30) rfl rfl k_)
  refine Go.callV X6 hx hZ hown (hw _ (List.mem_of_getElem? (i := 11) rfl)) (hw _ (List.mem_of_getElem? (i := 12) rfl)) (hw _ (List.mem_of_getElem? (i := 14) rfl)) (hw _ (List.mem_of_getElem? (i := 13) rfl)) (hw _ (List.mem_of_getElem? (i := 2) rfl)) (hw _ (List.mem_of_getElem? (i := 15) rfl)) (by decide) (A5.keep K6) (rm3 l Z a0 hw [] na1 (q1 + (-7046029254386353131 : Int64)) T6.heap n0 (Nat.le_trans (Nat.le_trans (Nat.le_trans (Nat.le_trans (Nat.le_trans (Nat.le_trans Z0 E1.1) K2.1) E3.1) K4.1) K5.1) K6.1) (F5.keep K6 (ninS Q3_na1 nin0)) (A5.keep K6) G1) rfl (by decide) (W := 0) (by decide) (by decide) (by decide) (g := (mkF m 31 #[.val (.long q1), .second, .val (.ref na1), .val (.ref na3), .val (.double (own_dd (own_mix (q1 + (-7046029254386353131 : Int64))))), .second, .val (.long (own_mix (q1 + (-7046029254386353131 : Int64)))), .second, .unset, .unset, .unset, .unset, .unset, .unset, .unset, .unset] [(.ref na1)])) (rest := []) rfl (by rw [hml]; rfl) (lenOf pd___D rfl) rfl (by show 2 * 0 + _ ≤ _; exact Nat.le_of_eq rfl) (hb hby at_31) ?_
  rintro v7 T7 L7 X7 ⟨rfl, N7, K7, A7, F7⟩
  have M7 := Fr.app M6 N7
  show Go p e below _ T7 (mkF m 34 #[.val (.long q1), .second, .val (.ref na1), .val (.ref na3), .val (.double (own_dd (own_mix (q1 + (-7046029254386353131 : Int64))))), .second, .val (.long (own_mix (q1 + (-7046029254386353131 : Int64)))), .second, .unset, .unset, .unset, .unset, .unset, .unset, .unset, .unset] [(.double (own_dd (own_mix ((q1 + (-7046029254386353131 : Int64)) + (-7046029254386353131 : Int64)))))])
  refine Go.st (T' := T7) (g' := (mkF m 36 #[.val (.long q1), .second, .val (.ref na1), .val (.ref na3), .val (.double (own_dd (own_mix (q1 + (-7046029254386353131 : Int64))))), .second, .val (.long (own_mix (q1 + (-7046029254386353131 : Int64)))), .second, .val (.double (own_dd (own_mix ((q1 + (-7046029254386353131 : Int64)) + (-7046029254386353131 : Int64))))), .second, .unset, .unset, .unset, .unset, .unset, .unset] [])) ?_ (fun _ k_ => XS.dstore X7.here hx rfl (hb hby at_34) rfl (l' := #[.val (.long q1), .second, .val (.ref na1), .val (.ref na3), .val (.double (own_dd (own_mix (q1 + (-7046029254386353131 : Int64))))), .second, .val (.long (own_mix (q1 + (-7046029254386353131 : Int64)))), .second, .val (.double (own_dd (own_mix ((q1 + (-7046029254386353131 : Int64)) + (-7046029254386353131 : Int64))))), .second, .unset, .unset, .unset, .unset, .unset, .unset]) rfl k_)
  refine Go.st (T' := T7) (g' := (mkF m 37 #[.val (.long q1), .second, .val (.ref na1), .val (.ref na3), .val (.double (own_dd (own_mix (q1 + (-7046029254386353131 : Int64))))), .second, .val (.long (own_mix (q1 + (-7046029254386353131 : Int64)))), .second, .val (.double (own_dd (own_mix ((q1 + (-7046029254386353131 : Int64)) + (-7046029254386353131 : Int64))))), .second, .unset, .unset, .unset, .unset, .unset, .unset] [(.ref na3)])) ?_ (fun _ k_ => XS.aloadN X7.here hx rfl (hb hby at_36) rfl rfl k_)
  refine Go.callV X7 hx hZ hown (hw _ (List.mem_of_getElem? (i := 25) rfl)) (hw _ (List.mem_of_getElem? (i := 17) rfl)) (hw _ (List.mem_of_getElem? (i := 19) rfl)) (hw _ (List.mem_of_getElem? (i := 18) rfl)) (hw _ (List.mem_of_getElem? (i := 2) rfl)) (hw _ (List.mem_of_getElem? (i := 20) rfl)) (by decide) (A6.keep K7) (rm2 l Z a0 hw [] na3 (q1 + (-7046029254386353131 : Int64)) T7.heap n0 (Nat.le_trans (Nat.le_trans (Nat.le_trans (Nat.le_trans (Nat.le_trans (Nat.le_trans (Nat.le_trans Z0 E1.1) K2.1) E3.1) K4.1) K5.1) K6.1) K7.1) (F6.keep K7 (ninS (fun q_ => Q3_na1 q_.symm) nin0)) (A6.keep K7) G3) rfl (by decide) (W := 0) (by decide) (by decide) (by decide) (g := (mkF m 37 #[.val (.long q1), .second, .val (.ref na1), .val (.ref na3), .val (.double (own_dd (own_mix (q1 + (-7046029254386353131 : Int64))))), .second, .val (.long (own_mix (q1 + (-7046029254386353131 : Int64)))), .second, .val (.double (own_dd (own_mix ((q1 + (-7046029254386353131 : Int64)) + (-7046029254386353131 : Int64))))), .second, .unset, .unset, .unset, .unset, .unset, .unset] [(.ref na3)])) (rest := []) rfl (by rw [hml]; rfl) (lenOf pd___J rfl) rfl (by show 2 * 0 + _ ≤ _; exact Nat.le_of_eq rfl) (hb hby at_37) ?_
  rintro v8 T8 L8 X8 ⟨rfl, N8, K8, A8, F8⟩
  have M8 := Fr.app M7 N8
  show Go p e below _ T8 (mkF m 40 #[.val (.long q1), .second, .val (.ref na1), .val (.ref na3), .val (.double (own_dd (own_mix (q1 + (-7046029254386353131 : Int64))))), .second, .val (.long (own_mix (q1 + (-7046029254386353131 : Int64)))), .second, .val (.double (own_dd (own_mix ((q1 + (-7046029254386353131 : Int64)) + (-7046029254386353131 : Int64))))), .second, .unset, .unset, .unset, .unset, .unset, .unset] [(.long (own_mix ((q1 + (-7046029254386353131 : Int64)) + (-7046029254386353131 : Int64))))])
  refine Go.st (T' := T8) (g' := (mkF m 42 #[.val (.long q1), .second, .val (.ref na1), .val (.ref na3), .val (.double (own_dd (own_mix (q1 + (-7046029254386353131 : Int64))))), .second, .val (.long (own_mix (q1 + (-7046029254386353131 : Int64)))), .second, .val (.double (own_dd (own_mix ((q1 + (-7046029254386353131 : Int64)) + (-7046029254386353131 : Int64))))), .second, .val (.long (own_mix ((q1 + (-7046029254386353131 : Int64)) + (-7046029254386353131 : Int64)))), .second, .unset, .unset, .unset, .unset] [])) ?_ (fun _ k_ => XT.lstore X8.here hx rfl (hb hby at_40) rfl (l' := #[.val (.long q1), .second, .val (.ref na1), .val (.ref na3), .val (.double (own_dd (own_mix (q1 + (-7046029254386353131 : Int64))))), .second, .val (.long (own_mix (q1 + (-7046029254386353131 : Int64)))), .second, .val (.double (own_dd (own_mix ((q1 + (-7046029254386353131 : Int64)) + (-7046029254386353131 : Int64))))), .second, .val (.long (own_mix ((q1 + (-7046029254386353131 : Int64)) + (-7046029254386353131 : Int64)))), .second, .unset, .unset, .unset, .unset]) rfl k_)
  refine Go.st (T' := T8) (g' := (mkF m 43 #[.val (.long q1), .second, .val (.ref na1), .val (.ref na3), .val (.double (own_dd (own_mix (q1 + (-7046029254386353131 : Int64))))), .second, .val (.long (own_mix (q1 + (-7046029254386353131 : Int64)))), .second, .val (.double (own_dd (own_mix ((q1 + (-7046029254386353131 : Int64)) + (-7046029254386353131 : Int64))))), .second, .val (.long (own_mix ((q1 + (-7046029254386353131 : Int64)) + (-7046029254386353131 : Int64)))), .second, .unset, .unset, .unset, .unset] [(.ref na1)])) ?_ (fun _ k_ => XS.aloadN X8.here hx rfl (hb hby at_42) rfl rfl k_)
  refine Go.callV X8 hx hZ hown (hw _ (List.mem_of_getElem? (i := 25) rfl)) (hw _ (List.mem_of_getElem? (i := 17) rfl)) (hw _ (List.mem_of_getElem? (i := 19) rfl)) (hw _ (List.mem_of_getElem? (i := 18) rfl)) (hw _ (List.mem_of_getElem? (i := 2) rfl)) (hw _ (List.mem_of_getElem? (i := 20) rfl)) (by decide) (A7.keep K8) (rm2 l Z a0 hw [] na1 ((q1 + (-7046029254386353131 : Int64)) + (-7046029254386353131 : Int64)) T8.heap n0 (Nat.le_trans (Nat.le_trans (Nat.le_trans (Nat.le_trans (Nat.le_trans (Nat.le_trans (Nat.le_trans (Nat.le_trans Z0 E1.1) K2.1) E3.1) K4.1) K5.1) K6.1) K7.1) K8.1) (F7.keep K8 (ninS Q3_na1 nin0)) (A7.keep K8) G1) rfl (by decide) (W := 0) (by decide) (by decide) (by decide) (g := (mkF m 43 #[.val (.long q1), .second, .val (.ref na1), .val (.ref na3), .val (.double (own_dd (own_mix (q1 + (-7046029254386353131 : Int64))))), .second, .val (.long (own_mix (q1 + (-7046029254386353131 : Int64)))), .second, .val (.double (own_dd (own_mix ((q1 + (-7046029254386353131 : Int64)) + (-7046029254386353131 : Int64))))), .second, .val (.long (own_mix ((q1 + (-7046029254386353131 : Int64)) + (-7046029254386353131 : Int64)))), .second, .unset, .unset, .unset, .unset] [(.ref na1)])) (rest := []) rfl (by rw [hml]; rfl) (lenOf pd___J rfl) rfl (by show 2 * 0 + _ ≤ _; exact Nat.le_of_eq rfl) (hb hby at_43) ?_
  rintro v9 T9 L9 X9 ⟨rfl, N9, K9, A9, F9⟩
  have M9 := Fr.app M8 N9
  show Go p e below _ T9 (mkF m 46 #[.val (.long q1), .second, .val (.ref na1), .val (.ref na3), .val (.double (own_dd (own_mix (q1 + (-7046029254386353131 : Int64))))), .second, .val (.long (own_mix (q1 + (-7046029254386353131 : Int64)))), .second, .val (.double (own_dd (own_mix ((q1 + (-7046029254386353131 : Int64)) + (-7046029254386353131 : Int64))))), .second, .val (.long (own_mix ((q1 + (-7046029254386353131 : Int64)) + (-7046029254386353131 : Int64)))), .second, .unset, .unset, .unset, .unset] [(.long (own_mix (((q1 + (-7046029254386353131 : Int64)) + (-7046029254386353131 : Int64)) + (-7046029254386353131 : Int64))))])
  refine Go.st (T' := T9) (g' := (mkF m 48 #[.val (.long q1), .second, .val (.ref na1), .val (.ref na3), .val (.double (own_dd (own_mix (q1 + (-7046029254386353131 : Int64))))), .second, .val (.long (own_mix (q1 + (-7046029254386353131 : Int64)))), .second, .val (.double (own_dd (own_mix ((q1 + (-7046029254386353131 : Int64)) + (-7046029254386353131 : Int64))))), .second, .val (.long (own_mix ((q1 + (-7046029254386353131 : Int64)) + (-7046029254386353131 : Int64)))), .second, .val (.long (own_mix (((q1 + (-7046029254386353131 : Int64)) + (-7046029254386353131 : Int64)) + (-7046029254386353131 : Int64)))), .second, .unset, .unset] [])) ?_ (fun _ k_ => XT.lstore X9.here hx rfl (hb hby at_46) rfl (l' := #[.val (.long q1), .second, .val (.ref na1), .val (.ref na3), .val (.double (own_dd (own_mix (q1 + (-7046029254386353131 : Int64))))), .second, .val (.long (own_mix (q1 + (-7046029254386353131 : Int64)))), .second, .val (.double (own_dd (own_mix ((q1 + (-7046029254386353131 : Int64)) + (-7046029254386353131 : Int64))))), .second, .val (.long (own_mix ((q1 + (-7046029254386353131 : Int64)) + (-7046029254386353131 : Int64)))), .second, .val (.long (own_mix (((q1 + (-7046029254386353131 : Int64)) + (-7046029254386353131 : Int64)) + (-7046029254386353131 : Int64)))), .second, .unset, .unset]) rfl k_)
  refine Go.st (T' := T9) (g' := (mkF m 49 #[.val (.long q1), .second, .val (.ref na1), .val (.ref na3), .val (.double (own_dd (own_mix (q1 + (-7046029254386353131 : Int64))))), .second, .val (.long (own_mix (q1 + (-7046029254386353131 : Int64)))), .second, .val (.double (own_dd (own_mix ((q1 + (-7046029254386353131 : Int64)) + (-7046029254386353131 : Int64))))), .second, .val (.long (own_mix ((q1 + (-7046029254386353131 : Int64)) + (-7046029254386353131 : Int64)))), .second, .val (.long (own_mix (((q1 + (-7046029254386353131 : Int64)) + (-7046029254386353131 : Int64)) + (-7046029254386353131 : Int64)))), .second, .unset, .unset] [(.ref na3)])) ?_ (fun _ k_ => XS.aloadN X9.here hx rfl (hb hby at_48) rfl rfl k_)
  refine Go.callV X9 hx hZ hown (hw _ (List.mem_of_getElem? (i := 25) rfl)) (hw _ (List.mem_of_getElem? (i := 17) rfl)) (hw _ (List.mem_of_getElem? (i := 19) rfl)) (hw _ (List.mem_of_getElem? (i := 18) rfl)) (hw _ (List.mem_of_getElem? (i := 2) rfl)) (hw _ (List.mem_of_getElem? (i := 20) rfl)) (by decide) (A8.keep K9) (rm2 l Z a0 hw [] na3 ((q1 + (-7046029254386353131 : Int64)) + (-7046029254386353131 : Int64)) T9.heap n0 (Nat.le_trans (Nat.le_trans (Nat.le_trans (Nat.le_trans (Nat.le_trans (Nat.le_trans (Nat.le_trans (Nat.le_trans (Nat.le_trans Z0 E1.1) K2.1) E3.1) K4.1) K5.1) K6.1) K7.1) K8.1) K9.1) (F8.keep K9 (ninS (fun q_ => Q3_na1 q_.symm) nin0)) (A8.keep K9) G3) rfl (by decide) (W := 0) (by decide) (by decide) (by decide) (g := (mkF m 49 #[.val (.long q1), .second, .val (.ref na1), .val (.ref na3), .val (.double (own_dd (own_mix (q1 + (-7046029254386353131 : Int64))))), .second, .val (.long (own_mix (q1 + (-7046029254386353131 : Int64)))), .second, .val (.double (own_dd (own_mix ((q1 + (-7046029254386353131 : Int64)) + (-7046029254386353131 : Int64))))), .second, .val (.long (own_mix ((q1 + (-7046029254386353131 : Int64)) + (-7046029254386353131 : Int64)))), .second, .val (.long (own_mix (((q1 + (-7046029254386353131 : Int64)) + (-7046029254386353131 : Int64)) + (-7046029254386353131 : Int64)))), .second, .unset, .unset] [(.ref na3)])) (rest := []) rfl (by rw [hml]; rfl) (lenOf pd___J rfl) rfl (by show 2 * 0 + _ ≤ _; exact Nat.le_of_eq rfl) (hb hby at_49) ?_
  rintro v10 T10 L10 X10 ⟨rfl, N10, K10, A10, F10⟩
  have M10 := Fr.app M9 N10
  show Go p e below _ T10 (mkF m 52 #[.val (.long q1), .second, .val (.ref na1), .val (.ref na3), .val (.double (own_dd (own_mix (q1 + (-7046029254386353131 : Int64))))), .second, .val (.long (own_mix (q1 + (-7046029254386353131 : Int64)))), .second, .val (.double (own_dd (own_mix ((q1 + (-7046029254386353131 : Int64)) + (-7046029254386353131 : Int64))))), .second, .val (.long (own_mix ((q1 + (-7046029254386353131 : Int64)) + (-7046029254386353131 : Int64)))), .second, .val (.long (own_mix (((q1 + (-7046029254386353131 : Int64)) + (-7046029254386353131 : Int64)) + (-7046029254386353131 : Int64)))), .second, .unset, .unset] [(.long (own_mix (((q1 + (-7046029254386353131 : Int64)) + (-7046029254386353131 : Int64)) + (-7046029254386353131 : Int64))))])
  refine Go.st (T' := T10) (g' := (mkF m 54 #[.val (.long q1), .second, .val (.ref na1), .val (.ref na3), .val (.double (own_dd (own_mix (q1 + (-7046029254386353131 : Int64))))), .second, .val (.long (own_mix (q1 + (-7046029254386353131 : Int64)))), .second, .val (.double (own_dd (own_mix ((q1 + (-7046029254386353131 : Int64)) + (-7046029254386353131 : Int64))))), .second, .val (.long (own_mix ((q1 + (-7046029254386353131 : Int64)) + (-7046029254386353131 : Int64)))), .second, .val (.long (own_mix (((q1 + (-7046029254386353131 : Int64)) + (-7046029254386353131 : Int64)) + (-7046029254386353131 : Int64)))), .second, .val (.long (own_mix (((q1 + (-7046029254386353131 : Int64)) + (-7046029254386353131 : Int64)) + (-7046029254386353131 : Int64)))), .second] [])) ?_ (fun _ k_ => XT.lstore X10.here hx rfl (hb hby at_52) rfl (l' := #[.val (.long q1), .second, .val (.ref na1), .val (.ref na3), .val (.double (own_dd (own_mix (q1 + (-7046029254386353131 : Int64))))), .second, .val (.long (own_mix (q1 + (-7046029254386353131 : Int64)))), .second, .val (.double (own_dd (own_mix ((q1 + (-7046029254386353131 : Int64)) + (-7046029254386353131 : Int64))))), .second, .val (.long (own_mix ((q1 + (-7046029254386353131 : Int64)) + (-7046029254386353131 : Int64)))), .second, .val (.long (own_mix (((q1 + (-7046029254386353131 : Int64)) + (-7046029254386353131 : Int64)) + (-7046029254386353131 : Int64)))), .second, .val (.long (own_mix (((q1 + (-7046029254386353131 : Int64)) + (-7046029254386353131 : Int64)) + (-7046029254386353131 : Int64)))), .second]) rfl k_)
  refine Go.st (T' := T10) (g' := (mkF m 56 #[.val (.long q1), .second, .val (.ref na1), .val (.ref na3), .val (.double (own_dd (own_mix (q1 + (-7046029254386353131 : Int64))))), .second, .val (.long (own_mix (q1 + (-7046029254386353131 : Int64)))), .second, .val (.double (own_dd (own_mix ((q1 + (-7046029254386353131 : Int64)) + (-7046029254386353131 : Int64))))), .second, .val (.long (own_mix ((q1 + (-7046029254386353131 : Int64)) + (-7046029254386353131 : Int64)))), .second, .val (.long (own_mix (((q1 + (-7046029254386353131 : Int64)) + (-7046029254386353131 : Int64)) + (-7046029254386353131 : Int64)))), .second, .val (.long (own_mix (((q1 + (-7046029254386353131 : Int64)) + (-7046029254386353131 : Int64)) + (-7046029254386353131 : Int64)))), .second] [(.double (own_dd (own_mix (q1 + (-7046029254386353131 : Int64)))))])) ?_ (fun _ k_ => XS.dload X10.here hx rfl (hb hby at_54) rfl k_)
  refine Go.st (T' := T10) (g' := (mkF m 58 #[.val (.long q1), .second, .val (.ref na1), .val (.ref na3), .val (.double (own_dd (own_mix (q1 + (-7046029254386353131 : Int64))))), .second, .val (.long (own_mix (q1 + (-7046029254386353131 : Int64)))), .second, .val (.double (own_dd (own_mix ((q1 + (-7046029254386353131 : Int64)) + (-7046029254386353131 : Int64))))), .second, .val (.long (own_mix ((q1 + (-7046029254386353131 : Int64)) + (-7046029254386353131 : Int64)))), .second, .val (.long (own_mix (((q1 + (-7046029254386353131 : Int64)) + (-7046029254386353131 : Int64)) + (-7046029254386353131 : Int64)))), .second, .val (.long (own_mix (((q1 + (-7046029254386353131 : Int64)) + (-7046029254386353131 : Int64)) + (-7046029254386353131 : Int64)))), .second] [(.long (own_mix (q1 + (-7046029254386353131 : Int64)))), (.double (own_dd (own_mix (q1 + (-7046029254386353131 : Int64)))))])) ?_ (fun _ k_ => XT.lload X10.here hx rfl (hb hby at_56) rfl k_)
  refine Go.callS X10 hx hZ hown (hw _ (List.mem_of_getElem? (i := 26) rfl)) (hw _ (List.mem_of_getElem? (i := 27) rfl)) (hw _ (List.mem_of_getElem? (i := 28) rfl)) (hw _ (List.mem_of_getElem? (i := 29) rfl)) (by decide) (rm4 l Z a0 hw [] (own_mix (q1 + (-7046029254386353131 : Int64))) T10.heap n0 (Nat.le_trans (Nat.le_trans (Nat.le_trans (Nat.le_trans (Nat.le_trans (Nat.le_trans (Nat.le_trans (Nat.le_trans (Nat.le_trans (Nat.le_trans Z0 E1.1) K2.1) E3.1) K4.1) K5.1) K6.1) K7.1) K8.1) K9.1) K10.1)) rfl (by decide) (W := 0) (by decide) (by decide) (by decide) (g := (mkF m 58 #[.val (.long q1), .second, .val (.ref na1), .val (.ref na3), .val (.double (own_dd (own_mix (q1 + (-7046029254386353131 : Int64))))), .second, .val (.long (own_mix (q1 + (-7046029254386353131 : Int64)))), .second, .val (.double (own_dd (own_mix ((q1 + (-7046029254386353131 : Int64)) + (-7046029254386353131 : Int64))))), .second, .val (.long (own_mix ((q1 + (-7046029254386353131 : Int64)) + (-7046029254386353131 : Int64)))), .second, .val (.long (own_mix (((q1 + (-7046029254386353131 : Int64)) + (-7046029254386353131 : Int64)) + (-7046029254386353131 : Int64)))), .second, .val (.long (own_mix (((q1 + (-7046029254386353131 : Int64)) + (-7046029254386353131 : Int64)) + (-7046029254386353131 : Int64)))), .second] [(.long (own_mix (q1 + (-7046029254386353131 : Int64)))), (.double (own_dd (own_mix (q1 + (-7046029254386353131 : Int64)))))])) (rest := []) rfl (by rw [hml]; rfl) (lenOf pd__DJ_Z rfl) rfl (by show 2 * 0 + _ ≤ _; exact Nat.le_of_eq rfl) (hb hby at_58) ?_
  rintro v11 T11 L11 X11 ⟨rfl, N11, e11⟩
  have M11 := Fr.app M10 N11
  show Go p e below _ T11 (mkF m 61 #[.val (.long q1), .second, .val (.ref na1), .val (.ref na3), .val (.double (own_dd (own_mix (q1 + (-7046029254386353131 : Int64))))), .second, .val (.long (own_mix (q1 + (-7046029254386353131 : Int64)))), .second, .val (.double (own_dd (own_mix ((q1 + (-7046029254386353131 : Int64)) + (-7046029254386353131 : Int64))))), .second, .val (.long (own_mix ((q1 + (-7046029254386353131 : Int64)) + (-7046029254386353131 : Int64)))), .second, .val (.long (own_mix (((q1 + (-7046029254386353131 : Int64)) + (-7046029254386353131 : Int64)) + (-7046029254386353131 : Int64)))), .second, .val (.long (own_mix (((q1 + (-7046029254386353131 : Int64)) + (-7046029254386353131 : Int64)) + (-7046029254386353131 : Int64)))), .second] [(.int (1 : Int32))])
  refine Go.st (T' := T11) (g' := (mkF m 64 #[.val (.long q1), .second, .val (.ref na1), .val (.ref na3), .val (.double (own_dd (own_mix (q1 + (-7046029254386353131 : Int64))))), .second, .val (.long (own_mix (q1 + (-7046029254386353131 : Int64)))), .second, .val (.double (own_dd (own_mix ((q1 + (-7046029254386353131 : Int64)) + (-7046029254386353131 : Int64))))), .second, .val (.long (own_mix ((q1 + (-7046029254386353131 : Int64)) + (-7046029254386353131 : Int64)))), .second, .val (.long (own_mix (((q1 + (-7046029254386353131 : Int64)) + (-7046029254386353131 : Int64)) + (-7046029254386353131 : Int64)))), .second, .val (.long (own_mix (((q1 + (-7046029254386353131 : Int64)) + (-7046029254386353131 : Int64)) + (-7046029254386353131 : Int64)))), .second] [])) ?_ (fun _ k_ => XS.ifNo X11.here hx rfl (hb hby at_61) rfl (by decide) k_)
  refine Go.st (T' := T11) (g' := (mkF m 66 #[.val (.long q1), .second, .val (.ref na1), .val (.ref na3), .val (.double (own_dd (own_mix (q1 + (-7046029254386353131 : Int64))))), .second, .val (.long (own_mix (q1 + (-7046029254386353131 : Int64)))), .second, .val (.double (own_dd (own_mix ((q1 + (-7046029254386353131 : Int64)) + (-7046029254386353131 : Int64))))), .second, .val (.long (own_mix ((q1 + (-7046029254386353131 : Int64)) + (-7046029254386353131 : Int64)))), .second, .val (.long (own_mix (((q1 + (-7046029254386353131 : Int64)) + (-7046029254386353131 : Int64)) + (-7046029254386353131 : Int64)))), .second, .val (.long (own_mix (((q1 + (-7046029254386353131 : Int64)) + (-7046029254386353131 : Int64)) + (-7046029254386353131 : Int64)))), .second] [(.double (own_dd (own_mix ((q1 + (-7046029254386353131 : Int64)) + (-7046029254386353131 : Int64)))))])) ?_ (fun _ k_ => XS.dload X11.here hx rfl (hb hby at_64) rfl k_)
  refine Go.st (T' := T11) (g' := (mkF m 68 #[.val (.long q1), .second, .val (.ref na1), .val (.ref na3), .val (.double (own_dd (own_mix (q1 + (-7046029254386353131 : Int64))))), .second, .val (.long (own_mix (q1 + (-7046029254386353131 : Int64)))), .second, .val (.double (own_dd (own_mix ((q1 + (-7046029254386353131 : Int64)) + (-7046029254386353131 : Int64))))), .second, .val (.long (own_mix ((q1 + (-7046029254386353131 : Int64)) + (-7046029254386353131 : Int64)))), .second, .val (.long (own_mix (((q1 + (-7046029254386353131 : Int64)) + (-7046029254386353131 : Int64)) + (-7046029254386353131 : Int64)))), .second, .val (.long (own_mix (((q1 + (-7046029254386353131 : Int64)) + (-7046029254386353131 : Int64)) + (-7046029254386353131 : Int64)))), .second] [(.long (own_mix ((q1 + (-7046029254386353131 : Int64)) + (-7046029254386353131 : Int64)))), (.double (own_dd (own_mix ((q1 + (-7046029254386353131 : Int64)) + (-7046029254386353131 : Int64)))))])) ?_ (fun _ k_ => XT.lload X11.here hx rfl (hb hby at_66) rfl k_)
  refine Go.callS X11 hx hZ hown (hw _ (List.mem_of_getElem? (i := 26) rfl)) (hw _ (List.mem_of_getElem? (i := 27) rfl)) (hw _ (List.mem_of_getElem? (i := 28) rfl)) (hw _ (List.mem_of_getElem? (i := 29) rfl)) (by decide) (rm4 l Z a0 hw [] (own_mix ((q1 + (-7046029254386353131 : Int64)) + (-7046029254386353131 : Int64))) T10.heap n0 (Nat.le_trans (Nat.le_trans (Nat.le_trans (Nat.le_trans (Nat.le_trans (Nat.le_trans (Nat.le_trans (Nat.le_trans (Nat.le_trans (Nat.le_trans Z0 E1.1) K2.1) E3.1) K4.1) K5.1) K6.1) K7.1) K8.1) K9.1) K10.1)) e11 (by decide) (W := 0) (by decide) (by decide) (by decide) (g := (mkF m 68 #[.val (.long q1), .second, .val (.ref na1), .val (.ref na3), .val (.double (own_dd (own_mix (q1 + (-7046029254386353131 : Int64))))), .second, .val (.long (own_mix (q1 + (-7046029254386353131 : Int64)))), .second, .val (.double (own_dd (own_mix ((q1 + (-7046029254386353131 : Int64)) + (-7046029254386353131 : Int64))))), .second, .val (.long (own_mix ((q1 + (-7046029254386353131 : Int64)) + (-7046029254386353131 : Int64)))), .second, .val (.long (own_mix (((q1 + (-7046029254386353131 : Int64)) + (-7046029254386353131 : Int64)) + (-7046029254386353131 : Int64)))), .second, .val (.long (own_mix (((q1 + (-7046029254386353131 : Int64)) + (-7046029254386353131 : Int64)) + (-7046029254386353131 : Int64)))), .second] [(.long (own_mix ((q1 + (-7046029254386353131 : Int64)) + (-7046029254386353131 : Int64)))), (.double (own_dd (own_mix ((q1 + (-7046029254386353131 : Int64)) + (-7046029254386353131 : Int64)))))])) (rest := []) rfl (by rw [hml]; rfl) (lenOf pd__DJ_Z rfl) rfl (by show 2 * 0 + _ ≤ _; exact Nat.le_of_eq rfl) (hb hby at_68) ?_
  rintro v12 T12 L12 X12 ⟨rfl, N12, e12⟩
  have M12 := Fr.app M11 N12
  show Go p e below _ T12 (mkF m 71 #[.val (.long q1), .second, .val (.ref na1), .val (.ref na3), .val (.double (own_dd (own_mix (q1 + (-7046029254386353131 : Int64))))), .second, .val (.long (own_mix (q1 + (-7046029254386353131 : Int64)))), .second, .val (.double (own_dd (own_mix ((q1 + (-7046029254386353131 : Int64)) + (-7046029254386353131 : Int64))))), .second, .val (.long (own_mix ((q1 + (-7046029254386353131 : Int64)) + (-7046029254386353131 : Int64)))), .second, .val (.long (own_mix (((q1 + (-7046029254386353131 : Int64)) + (-7046029254386353131 : Int64)) + (-7046029254386353131 : Int64)))), .second, .val (.long (own_mix (((q1 + (-7046029254386353131 : Int64)) + (-7046029254386353131 : Int64)) + (-7046029254386353131 : Int64)))), .second] [(.int (1 : Int32))])
  refine Go.st (T' := T12) (g' := (mkF m 74 #[.val (.long q1), .second, .val (.ref na1), .val (.ref na3), .val (.double (own_dd (own_mix (q1 + (-7046029254386353131 : Int64))))), .second, .val (.long (own_mix (q1 + (-7046029254386353131 : Int64)))), .second, .val (.double (own_dd (own_mix ((q1 + (-7046029254386353131 : Int64)) + (-7046029254386353131 : Int64))))), .second, .val (.long (own_mix ((q1 + (-7046029254386353131 : Int64)) + (-7046029254386353131 : Int64)))), .second, .val (.long (own_mix (((q1 + (-7046029254386353131 : Int64)) + (-7046029254386353131 : Int64)) + (-7046029254386353131 : Int64)))), .second, .val (.long (own_mix (((q1 + (-7046029254386353131 : Int64)) + (-7046029254386353131 : Int64)) + (-7046029254386353131 : Int64)))), .second] [])) ?_ (fun _ k_ => XS.ifNo X12.here hx rfl (hb hby at_71) rfl (by decide) k_)
  refine Go.st (T' := T12) (g' := (mkF m 76 #[.val (.long q1), .second, .val (.ref na1), .val (.ref na3), .val (.double (own_dd (own_mix (q1 + (-7046029254386353131 : Int64))))), .second, .val (.long (own_mix (q1 + (-7046029254386353131 : Int64)))), .second, .val (.double (own_dd (own_mix ((q1 + (-7046029254386353131 : Int64)) + (-7046029254386353131 : Int64))))), .second, .val (.long (own_mix ((q1 + (-7046029254386353131 : Int64)) + (-7046029254386353131 : Int64)))), .second, .val (.long (own_mix (((q1 + (-7046029254386353131 : Int64)) + (-7046029254386353131 : Int64)) + (-7046029254386353131 : Int64)))), .second, .val (.long (own_mix (((q1 + (-7046029254386353131 : Int64)) + (-7046029254386353131 : Int64)) + (-7046029254386353131 : Int64)))), .second] [(.long (own_mix (((q1 + (-7046029254386353131 : Int64)) + (-7046029254386353131 : Int64)) + (-7046029254386353131 : Int64))))])) ?_ (fun _ k_ => XT.lload X12.here hx rfl (hb hby at_74) rfl k_)
  refine Go.st (T' := T12) (g' := (mkF m 78 #[.val (.long q1), .second, .val (.ref na1), .val (.ref na3), .val (.double (own_dd (own_mix (q1 + (-7046029254386353131 : Int64))))), .second, .val (.long (own_mix (q1 + (-7046029254386353131 : Int64)))), .second, .val (.double (own_dd (own_mix ((q1 + (-7046029254386353131 : Int64)) + (-7046029254386353131 : Int64))))), .second, .val (.long (own_mix ((q1 + (-7046029254386353131 : Int64)) + (-7046029254386353131 : Int64)))), .second, .val (.long (own_mix (((q1 + (-7046029254386353131 : Int64)) + (-7046029254386353131 : Int64)) + (-7046029254386353131 : Int64)))), .second, .val (.long (own_mix (((q1 + (-7046029254386353131 : Int64)) + (-7046029254386353131 : Int64)) + (-7046029254386353131 : Int64)))), .second] [(.long (own_mix (((q1 + (-7046029254386353131 : Int64)) + (-7046029254386353131 : Int64)) + (-7046029254386353131 : Int64)))), (.long (own_mix (((q1 + (-7046029254386353131 : Int64)) + (-7046029254386353131 : Int64)) + (-7046029254386353131 : Int64))))])) ?_ (fun _ k_ => XT.lload X12.here hx rfl (hb hby at_76) rfl k_)
  refine Go.st (T' := T12) (g' := (mkF m 79 #[.val (.long q1), .second, .val (.ref na1), .val (.ref na3), .val (.double (own_dd (own_mix (q1 + (-7046029254386353131 : Int64))))), .second, .val (.long (own_mix (q1 + (-7046029254386353131 : Int64)))), .second, .val (.double (own_dd (own_mix ((q1 + (-7046029254386353131 : Int64)) + (-7046029254386353131 : Int64))))), .second, .val (.long (own_mix ((q1 + (-7046029254386353131 : Int64)) + (-7046029254386353131 : Int64)))), .second, .val (.long (own_mix (((q1 + (-7046029254386353131 : Int64)) + (-7046029254386353131 : Int64)) + (-7046029254386353131 : Int64)))), .second, .val (.long (own_mix (((q1 + (-7046029254386353131 : Int64)) + (-7046029254386353131 : Int64)) + (-7046029254386353131 : Int64)))), .second] [(.int (lcmpW (own_mix (((q1 + (-7046029254386353131 : Int64)) + (-7046029254386353131 : Int64)) + (-7046029254386353131 : Int64))) (own_mix (((q1 + (-7046029254386353131 : Int64)) + (-7046029254386353131 : Int64)) + (-7046029254386353131 : Int64)))))])) ?_ (fun _ k_ => XT.lcmp X12.here hx rfl (hb hby at_78) rfl k_)
  refine Go.st (T' := T12) (g' := (mkF m 82 #[.val (.long q1), .second, .val (.ref na1), .val (.ref na3), .val (.double (own_dd (own_mix (q1 + (-7046029254386353131 : Int64))))), .second, .val (.long (own_mix (q1 + (-7046029254386353131 : Int64)))), .second, .val (.double (own_dd (own_mix ((q1 + (-7046029254386353131 : Int64)) + (-7046029254386353131 : Int64))))), .second, .val (.long (own_mix ((q1 + (-7046029254386353131 : Int64)) + (-7046029254386353131 : Int64)))), .second, .val (.long (own_mix (((q1 + (-7046029254386353131 : Int64)) + (-7046029254386353131 : Int64)) + (-7046029254386353131 : Int64)))), .second, .val (.long (own_mix (((q1 + (-7046029254386353131 : Int64)) + (-7046029254386353131 : Int64)) + (-7046029254386353131 : Int64)))), .second] [])) ?_ (fun _ k_ => XS.ifNo X12.here hx rfl (hb hby at_79) rfl ((if0 _ _).trans (teq ((lw_eq _ _).mpr (rfl : (own_mix (((q1 + (-7046029254386353131 : Int64)) + (-7046029254386353131 : Int64)) + (-7046029254386353131 : Int64))) = (own_mix (((q1 + (-7046029254386353131 : Int64)) + (-7046029254386353131 : Int64)) + (-7046029254386353131 : Int64)))))).2) k_)
  refine Go.st (T' := T12) (g' := (mkF m 83 #[.val (.long q1), .second, .val (.ref na1), .val (.ref na3), .val (.double (own_dd (own_mix (q1 + (-7046029254386353131 : Int64))))), .second, .val (.long (own_mix (q1 + (-7046029254386353131 : Int64)))), .second, .val (.double (own_dd (own_mix ((q1 + (-7046029254386353131 : Int64)) + (-7046029254386353131 : Int64))))), .second, .val (.long (own_mix ((q1 + (-7046029254386353131 : Int64)) + (-7046029254386353131 : Int64)))), .second, .val (.long (own_mix (((q1 + (-7046029254386353131 : Int64)) + (-7046029254386353131 : Int64)) + (-7046029254386353131 : Int64)))), .second, .val (.long (own_mix (((q1 + (-7046029254386353131 : Int64)) + (-7046029254386353131 : Int64)) + (-7046029254386353131 : Int64)))), .second] [(.int (1 : Int32))])) ?_ (fun _ k_ => XT.iconstV X12.here hx rfl (1 : Int32) (hb hby at_82) (by decide) k_)
  refine Go.st (T' := T12) (g' := (mkF m 87 #[.val (.long q1), .second, .val (.ref na1), .val (.ref na3), .val (.double (own_dd (own_mix (q1 + (-7046029254386353131 : Int64))))), .second, .val (.long (own_mix (q1 + (-7046029254386353131 : Int64)))), .second, .val (.double (own_dd (own_mix ((q1 + (-7046029254386353131 : Int64)) + (-7046029254386353131 : Int64))))), .second, .val (.long (own_mix ((q1 + (-7046029254386353131 : Int64)) + (-7046029254386353131 : Int64)))), .second, .val (.long (own_mix (((q1 + (-7046029254386353131 : Int64)) + (-7046029254386353131 : Int64)) + (-7046029254386353131 : Int64)))), .second, .val (.long (own_mix (((q1 + (-7046029254386353131 : Int64)) + (-7046029254386353131 : Int64)) + (-7046029254386353131 : Int64)))), .second] [(.int (1 : Int32))])) ?_ (fun _ k_ => XS.goto X12.here hx rfl (pc0 := 83) (pc' := 87) rfl (hb hby at_83) (by decide) (by decide) k_)
  exact Go.retV (t := .boolean) X12 hx hret hlk (by decide) (by decide) rfl (Or.inl ⟨rfl, Or.inr (Or.inl rfl), _, rfl⟩) (hb hby at_87) ⟨rfl, M12⟩
set_option maxRecDepth 65536 in
set_option maxHeartbeats 40000000 in
theorem comes_1 {Post : Tables → Env → Array Value → State → Outcome → State → Prop} (hpost : ∀ tb e args s v u, (limb_1_1.after args s (.returned v) u = true ∧ limb_1_2.after args s (.returned v) u = true ∧ True) → FrameEnd s (.returned v) u (Jvm.fieldLocs frame_1_writes args s ++ Jvm.arrayLocs frame_1_arrays args s ++ Jvm.staticLocs frame_1_statics s) 16 128 → Post tb e args s (.returned v) u) :
    ArmFor flags0 classFile x code maxLocals ret World_1 tables_1 room_1 Calls_1 rest_1 Pre_1 Post := by
  intro l hfl _ _ p e ha hc hk s m args below hf hA hF happ hP
  obtain ⟨hcalls, hrest, hpre⟩ := hP
  obtain ⟨-, -, -, hnamed, -, -, -, hat⟩ := (Spec.applies_iff hf).mp happ
  obtain ⟨hg, hn⟩ := and_e (Cond.before_iff.mp (show (Jvm.Cond.and given_1 narrow_1).before args s = true from hpre))
  obtain ⟨g0, hg⟩ := and_e hg
  obtain ⟨w0, rfl⟩ : ∃ w0 : Value, args = #[w0] := by
    have hs : args.size = 1 := by simpa [Cond.value, given_1] using g0
    obtain ⟨L⟩ := args
    match L, hs with
    | [w0], _ => exact ⟨w0, rfl⟩
  have hw := fun d (hd : d ∈ tables_1) => atoms_spec (ws := Jvm.Cond.code x code maxLocals ret :: tables_1) hat d (List.mem_cons_of_mem _ hd)
  obtain ⟨i0, ei0⟩ := isL_v hg
  obtain rfl : w0 = (.long i0) := Option.some.inj ei0
  obtain ⟨n, o, h1, h2, h3, _, L, rfl, ⟨rfl, N⟩, hq⟩ := rm0 l s _ hw tables_1 i0 s.heap s.heap.size (Nat.le_refl _)  p e ha hc hk s m _ below hf ((Spec.applies_iff_loose hf).mp happ).1 ⟨rfl, State.Warmed39.refl s, rfl⟩ trivial
  refine ⟨n, _, h1, h2, h3, hpost _ _ _ _ _ _ ⟨Cond.after_iff.mpr rfl, Cond.after_iff.mpr (eq_i res_at (Term.int_eval (1)) rfl), trivial⟩ ⟨hq.1, hq.2.1, (hq.2.2.sift fun y hy => Or.inr (N y hy)).mono (by decide) (by decide)⟩⟩
theorem main_1_1 : Claimed_1_1 := comes_1 fun _ _ _ _ _ _ h hF => ⟨h.1, hF⟩
theorem main_1_2 : Claimed_1_2 := comes_1 fun _ _ _ _ _ _ h hF => ⟨h.2.1, hF⟩
end Jvm.Pilot.@@N@@
namespace Jvm.Pilot.@@N@@
open Jvm Jvm.ClassFile Sem Op Lib Jvm.Free Jvm.Stand Jvm.Pilot.@@N@@.Jvm.D
/-! MADE BY PROGRAM (witnessworld.py) out of the Statement's table words and the real class files: 9 classes; the members and pool entries that the words name. The judged class is class 1, her method 2. -/
namespace start1
open Jvm.ClassFile
def u (s : String) : CpInfo := .utf8 (stringToUtf16 s)
/-- a pool by its gaps: so many unusable entries, then the entry; so many at the end -/
def gap : Nat → List CpInfo → List CpInfo
  | 0, r => r
  | n + 1, r => .unusable :: gap n r
def poolList (es : List (Nat × CpInfo)) (last : Nat) : List CpInfo := es.foldr (fun e r => gap e.1 (e.2 :: r)) (gap last [])
def pool (es : List (Nat × CpInfo)) (last : Nat) : Array CpInfo := ⟨poolList es last⟩
def fileOf (pool : Array CpInfo) (this : Nat) (attrs : Array Attribute := #[]) (ms : Array MethodInfo := #[]) (fl : Nat := 33) (sup : Nat := 0) (ifs : Array Nat := #[]) (fds : Array FieldInfo := #[]) : ClassFile where
  minorVersion := 0
  majorVersion := 65
  constantPool := pool
  accessFlags := fl
  thisClass := this
  superClass := sup
  interfaces := ifs
  fields := fds
  methods := ms
  attributes := attrs
def plain (name : String) (sup : Option ClassId) : Class where
  name := name
  kind := .ordinary
  loader := none
  accessFlags := 33
  super := sup
  interfaces := #[]
  cf := none
  fields := #[]
  methods := #[]
  instanceTypes := #[]
  staticTypes := #[]
  resolved := #[]
  callSites := []
  init := .initialized
  statics := none
  mirror := none

def pool0 : Array CpInfo := pool [(5, u "<init>"), (0, u "()V"), (1, .class_ 10), (1, u "java/lang/Object")] 113

def k0c0 : Code := { maxStack := 0, maxLocals := 1, code := object_method_1_code, exceptionTable := #[], attributes := #[] }
def k0m0 : Method := { name := "<init>", desc := "()V", sig := { parameters := [], returnType := none }, accessFlags := 1, code := some k0c0 }
/-- java/lang/Object -/
def k0 : Class := { plain "java/lang/Object" none with
  accessFlags := 33
  interfaces := #[]
  cf := some (fileOf pool0 8 #[] #[{ accessFlags := 1, nameIndex := 5, descriptorIndex := 6, attributes := #[] }] 33 0 #[] #[])
  fields := #[]
  methods := #[k0m0]
  instanceTypes := #[]
  staticTypes := #[]
  resolved := Array.replicate 124 none
  statics := none }

def pool1 : Array CpInfo := pool [(2, .class_ 4), (1, u "java/lang/Object"), (0, u "<init>"), (0, u "()V"), (0, .double 4845873199050653696), (1, .class_ 10), (0, u "com/example/amblesim/amblesim/model/RandomSource"), (0, .methodref 9 12), (0, .nameAndType 5 13), (0, u "(J)V"), (0, .methodref 9 15), (0, .nameAndType 16 17), (0, u "nextDouble"), (0, u "()D"), (0, .methodref 9 19), (0, .nameAndType 20 21), (0, u "nextLong"), (0, u "()J"), (0, .methodref 23 24), (0, .class_ 25), (0, .nameAndType 26 27), (0, u "com/example/amblesim/amblesim/model/RandomSourceNextDoublePinLaw"), (0, u "matches"), (0, u "(DJ)Z"), (3, u "law"), (0, u "(J)Z")] 2

def k1m0 : Method := { name := "<init>", desc := "()V", sig := { parameters := [], returnType := none }, accessFlags := 1, code := none }
def k1c1 : Code := { maxStack := 5, maxLocals := 6, code := method_2_code, exceptionTable := #[], attributes := #[] }
def k1m1 : Method := { name := "matches", desc := "(DJ)Z", sig := { parameters := [.double, .long], returnType := some .boolean }, accessFlags := 10, code := some k1c1 }
def k1c2 : Code := { maxStack := 4, maxLocals := 16, code := code, exceptionTable := #[], attributes := #[] }
def k1m2 : Method := { name := "law", desc := "(J)Z", sig := { parameters := [.long], returnType := some .boolean }, accessFlags := 9, code := some k1c2 }
/-- com/example/amblesim/amblesim/model/RandomSourceNextDoublePinLaw -/
def k1 : Class := { plain "com/example/amblesim/amblesim/model/RandomSourceNextDoublePinLaw" (some 0) with
  accessFlags := 49
  interfaces := #[]
  cf := some (fileOf pool1 23 #[] #[{ accessFlags := 1, nameIndex := 5, descriptorIndex := 6, attributes := #[] }, { accessFlags := 10, nameIndex := 26, descriptorIndex := 27, attributes := #[] }, { accessFlags := 9, nameIndex := 31, descriptorIndex := 32, attributes := #[] }] 49 2 #[] #[])
  fields := #[]
  methods := #[k1m0, k1m1, k1m2]
  instanceTypes := #[]
  staticTypes := #[]
  resolved := Array.replicate 35 none
  statics := none }

def pool2 : Array CpInfo := pool [(1, .methodref 2 3), (0, .class_ 4), (0, .nameAndType 5 6), (0, u "java/lang/Object"), (0, u "<init>"), (0, u "()V"), (0, .fieldref 8 9), (0, .class_ 10), (0, .nameAndType 11 12), (0, u "com/example/amblesim/amblesim/model/RandomSource"), (0, u "state"), (0, u "J"), (0, .long 11400714819323198485), (1, .long 13787848793156543929), (1, .long 10723151780598845931), (1, .methodref 8 20), (0, .nameAndType 21 22), (0, u "nextLong"), (0, u "()J"), (0, .double 4368491638549381120), (1, u "GAMMA"), (1, u "DOUBLE_UNIT"), (0, u "D"), (0, u "(J)V"), (2, u "nextDouble"), (0, u "()D")] 4

def k2c0 : Code := { maxStack := 3, maxLocals := 3, code := prog_4_method_1_code, exceptionTable := #[], attributes := #[] }
def k2m0 : Method := { name := "<init>", desc := "(J)V", sig := { parameters := [.long], returnType := none }, accessFlags := 0, code := some k2c0 }
def k2c1 : Code := { maxStack := 5, maxLocals := 3, code := prog_4_method_2_code, exceptionTable := #[], attributes := #[] }
def k2m1 : Method := { name := "nextLong", desc := "()J", sig := { parameters := [], returnType := some .long }, accessFlags := 0, code := some k2c1 }
def k2c2 : Code := { maxStack := 4, maxLocals := 1, code := prog_4_method_3_code, exceptionTable := #[], attributes := #[] }
def k2m2 : Method := { name := "nextDouble", desc := "()D", sig := { parameters := [], returnType := some .double }, accessFlags := 0, code := some k2c2 }
/-- com/example/amblesim/amblesim/model/RandomSource -/
def k2 : Class := { plain "com/example/amblesim/amblesim/model/RandomSource" (some 0) with
  accessFlags := 32
  interfaces := #[]
  cf := some (fileOf pool2 8 #[] #[{ accessFlags := 0, nameIndex := 5, descriptorIndex := 29, attributes := #[] }, { accessFlags := 0, nameIndex := 21, descriptorIndex := 22, attributes := #[] }, { accessFlags := 0, nameIndex := 32, descriptorIndex := 33, attributes := #[] }] 32 2 #[] #[{ accessFlags := 26, nameIndex := 25, descriptorIndex := 12, attributes := #[] }, { accessFlags := 26, nameIndex := 27, descriptorIndex := 28, attributes := #[] }, { accessFlags := 2, nameIndex := 11, descriptorIndex := 12, attributes := #[] }])
  fields := #[{ name := "GAMMA", type := .long, accessFlags := 26, slot := 0, constantValue := 0 }, { name := "DOUBLE_UNIT", type := .double, accessFlags := 26, slot := 1, constantValue := 0 }, { name := "state", type := .long, accessFlags := 2, slot := 0, constantValue := 0 }]
  methods := #[k2m0, k2m1, k2m2]
  instanceTypes := #[.long]
  staticTypes := #[.long, .double]
  resolved := Array.replicate 38 none
  statics := none }

def pool3 : Array CpInfo := pool [(1, u "java/lang/Cloneable"), (0, .class_ 1), (0, u "java/lang/Object"), (0, .class_ 3)] 3

/-- java/lang/Cloneable -/
def k3 : Class := { plain "java/lang/Cloneable" (some 0) with
  accessFlags := 1537
  interfaces := #[]
  cf := some (fileOf pool3 2 #[] #[] 1537 4 #[] #[])
  fields := #[]
  methods := #[]
  instanceTypes := #[]
  staticTypes := #[]
  resolved := Array.replicate 8 none
  statics := none }

def pool4 : Array CpInfo := pool [(1, u "java/io/Serializable"), (0, .class_ 1), (0, u "java/lang/Object"), (0, .class_ 3)] 3

/-- java/io/Serializable -/
def k4 : Class := { plain "java/io/Serializable" (some 0) with
  accessFlags := 1537
  interfaces := #[]
  cf := some (fileOf pool4 2 #[] #[] 1537 4 #[] #[])
  fields := #[]
  methods := #[]
  instanceTypes := #[]
  staticTypes := #[]
  resolved := Array.replicate 8 none
  statics := none }

/-- the primitive byte -/
def k5 : Class := { plain "byte" none with kind := .primitive 'B', accessFlags := 0x411 }
/-- [B -/
def k6 : Class := { plain "[B" (some 0) with kind := .array 5 .byte, interfaces := #[3, 4], accessFlags := 1041 }

/-- the primitive int -/
def k7 : Class := { plain "int" none with kind := .primitive 'I', accessFlags := 0x411 }
/-- [I -/
def k8 : Class := { plain "[I" (some 0) with kind := .array 7 .int, interfaces := #[3, 4], accessFlags := 1041 }

def heap : Heap := #[]
def classes : Array Class := #[k0, k1, k2, k3, k4, k5, k6, k7, k8]
def interned : List (Array UInt16 × Addr) := []
def slotsUsed : Nat := 0
def theMethod : MethodId := ⟨1, 2⟩
def args0 : Array Value := #[.long 5]
def aboutOver (below : List Frame) : State where
  vm := { classes := classes, interned := interned.toArray }
  heap := heap
  slotsUsed := slotsUsed
  threads := #[{ frames := .invoking theMethod args0 :: below }]
def below0 : List Frame := [.native { method := ⟨0, 0⟩, args := #[] }]
def about1 : State := aboutOver below0
def p0 : Program := .bare "" "" ""
def e0 : Env := launch0.env 0 0 0
theorem w_frames : about1.frames = Frame.invoking theMethod args0 :: below0 := rfl
set_option maxRecDepth 65536 in
theorem w_args : argsFit about1.vm theMethod args0 = true := by decide +kernel
set_option maxRecDepth 65536 in
theorem w_heap : heapFits about1 = true := by decide +kernel
set_option maxRecDepth 65536 in
theorem w_runnable : about1.curStatus? = some .runnable := by decide +kernel
set_option maxRecDepth 65536 in
theorem w_alone : about1.alone = true := by decide +kernel
set_option maxRecDepth 65536 in
theorem w_named : about1.methodNamed? x = some theMethod := by decide +kernel
set_option maxRecDepth 65536 in
theorem w_hears : about1.hears theMethod below0 = true := by decide +kernel
set_option maxRecDepth 65536 in
theorem w_ripe : about1.ripe theMethod args0 below0 = true := by decide +kernel
theorem w_running : about1.status = .running := rfl
set_option maxRecDepth 65536 in
theorem w_room : about1.hasRoom e0.platform room_1 = true :=
  launch0.hasRoom_least _ room_1 (by decide +kernel) (by decide +kernel) (by decide +kernel) (by decide +kernel) (by decide +kernel) (by decide +kernel)
theorem allAtoms_all (ts : List Jvm.Cond) (a : Array Jvm.Value) (st : Jvm.State) : (allAtoms ts).before a st = ts.all (fun c => c.before a st) := by
  induction ts with
  | nil => rfl
  | cons c t ih =>
    show (Jvm.Cond.and c (allAtoms t)).before a st = _
    rw [Jvm.Cond.before_and, ih, List.all_cons]
def words1 : List Jvm.Cond := Jvm.Cond.code x code maxLocals ret :: tables_1
/-- a 'code' word, met by the world's own term for the bytes: nothing is compared byte by byte -/
theorem code_word {y : MethodName} {bytes : ByteArray} {mx : Nat} {rt : Option FieldType} {a : Array Value} {s : State} {m : MethodId} {meth : Method} {c : Code} (h1 : s.methodNamed? y = some m) (h2 : s.vm.method? m = some meth) (h3 : meth.code = some c) (h4 : c.code = bytes)
    (h5 : (c.maxLocals == mx && c.exceptionTable.isEmpty && decide (c.maxStack ≤ mostOperands) && decide (meth.sig.returnType = rt) && !meth.locks && decide (parseMethodDescriptor y.desc = some meth.sig)) = true) : (Jvm.Cond.code y bytes mx rt).before a s = true := by
  simp only [Bool.and_eq_true, beq_iff_eq, Bool.not_eq_true', decide_eq_true_eq] at h5
  obtain ⟨⟨⟨⟨⟨g1, g2⟩, g3⟩, g4⟩, g5⟩, g6⟩ := h5
  simp [Cond.before, Cond.holds, Cond.value, h1, h2, h3, h4, g1, g2, g3, g4, g5, g6]
def isCode : Jvm.Cond → Bool
  | .code _ _ _ _ => true
  | _ => false
theorem all_split {L : List Jvm.Cond} {P : Jvm.Cond → Bool} (h1 : L.all (fun c => isCode c || P c) = true) (h2 : ∀ c ∈ L.filter isCode, P c = true) : L.all P = true := by
  refine List.all_eq_true.mpr fun c hc => ?_
  have h := List.all_eq_true.mp h1 c hc
  rcases Bool.eq_false_or_eq_true (isCode c) with hi | hi
  · exact h2 c (List.mem_filter.mpr ⟨hc, hi⟩)
  · simpa [hi] using h
set_option maxRecDepth 65536 in
theorem w_c0 : (Jvm.Cond.code x code maxLocals ret).before args0 about1 = true := code_word (m := ⟨1, 2⟩) (meth := k1m2) (c := k1c2) (by decide +kernel) rfl rfl rfl (by decide +kernel)
set_option maxRecDepth 65536 in
theorem w_c1 : (Jvm.Cond.code ({ cls := "com/example/amblesim/amblesim/model/RandomSource", name := "<init>", desc := "(J)V" } : Jvm.MethodName) prog_4_method_1_code (3 : Nat) (Option.none : Option Jvm.ClassFile.FieldType)).before args0 about1 = true := code_word (m := ⟨2, 0⟩) (meth := k2m0) (c := k2c0) (by decide +kernel) rfl rfl rfl (by decide +kernel)
set_option maxRecDepth 65536 in
theorem w_c2 : (Jvm.Cond.code ({ cls := "java/lang/Object", name := "<init>", desc := "()V" } : Jvm.MethodName) object_method_1_code (1 : Nat) (Option.none : Option Jvm.ClassFile.FieldType)).before args0 about1 = true := code_word (m := ⟨0, 0⟩) (meth := k0m0) (c := k0c0) (by decide +kernel) rfl rfl rfl (by decide +kernel)
set_option maxRecDepth 65536 in
theorem w_c3 : (Jvm.Cond.code ({ cls := "com/example/amblesim/amblesim/model/RandomSource", name := "nextDouble", desc := "()D" } : Jvm.MethodName) prog_4_method_3_code (1 : Nat) (Option.some Jvm.ClassFile.FieldType.double)).before args0 about1 = true := code_word (m := ⟨2, 2⟩) (meth := k2m2) (c := k2c2) (by decide +kernel) rfl rfl rfl (by decide +kernel)
set_option maxRecDepth 65536 in
theorem w_c4 : (Jvm.Cond.code ({ cls := "com/example/amblesim/amblesim/model/RandomSource", name := "nextLong", desc := "()J" } : Jvm.MethodName) prog_4_method_2_code (3 : Nat) (Option.some Jvm.ClassFile.FieldType.long)).before args0 about1 = true := code_word (m := ⟨2, 1⟩) (meth := k2m1) (c := k2c1) (by decide +kernel) rfl rfl rfl (by decide +kernel)
set_option maxRecDepth 65536 in
theorem w_c5 : (Jvm.Cond.code ({ cls := "com/example/amblesim/amblesim/model/RandomSourceNextDoublePinLaw", name := "matches", desc := "(DJ)Z" } : Jvm.MethodName) method_2_code (6 : Nat) (Option.some Jvm.ClassFile.FieldType.boolean)).before args0 about1 = true := code_word (m := ⟨1, 1⟩) (meth := k1m1) (c := k1c1) (by decide +kernel) rfl rfl rfl (by decide +kernel)
def codes1 : List Jvm.Cond := [Jvm.Cond.code x code maxLocals ret, Jvm.Cond.code ({ cls := "com/example/amblesim/amblesim/model/RandomSource", name := "<init>", desc := "(J)V" } : Jvm.MethodName) prog_4_method_1_code (3 : Nat) (Option.none : Option Jvm.ClassFile.FieldType), Jvm.Cond.code ({ cls := "java/lang/Object", name := "<init>", desc := "()V" } : Jvm.MethodName) object_method_1_code (1 : Nat) (Option.none : Option Jvm.ClassFile.FieldType), Jvm.Cond.code ({ cls := "com/example/amblesim/amblesim/model/RandomSource", name := "nextDouble", desc := "()D" } : Jvm.MethodName) prog_4_method_3_code (1 : Nat) (Option.some Jvm.ClassFile.FieldType.double), Jvm.Cond.code ({ cls := "com/example/amblesim/amblesim/model/RandomSource", name := "nextLong", desc := "()J" } : Jvm.MethodName) prog_4_method_2_code (3 : Nat) (Option.some Jvm.ClassFile.FieldType.long), Jvm.Cond.code ({ cls := "com/example/amblesim/amblesim/model/RandomSourceNextDoublePinLaw", name := "matches", desc := "(DJ)Z" } : Jvm.MethodName) method_2_code (6 : Nat) (Option.some Jvm.ClassFile.FieldType.boolean)]
set_option maxRecDepth 65536 in
theorem codes_eq : words1.filter isCode = codes1 := rfl
theorem w_codes : ∀ c ∈ words1.filter isCode, c.before args0 about1 = true := by
  rw [codes_eq]
  intro c hc
  simp only [codes1, List.mem_cons, List.not_mem_nil, or_false] at hc
  rcases hc with rfl | rfl | rfl | rfl | rfl | rfl
  · exact w_c0
  · exact w_c1
  · exact w_c2
  · exact w_c3
  · exact w_c4
  · exact w_c5
set_option maxRecDepth 65536 in
theorem w_t1 : (words1.take 24).all (fun c => isCode c || c.before args0 about1) = true := by decide +kernel
set_option maxRecDepth 65536 in
theorem w_t2 : (words1.drop 24).all (fun c => isCode c || c.before args0 about1) = true := by decide +kernel
theorem w_tables : (allAtoms (Jvm.Cond.code x code maxLocals ret :: tables_1)).before args0 about1 = true := by
  rw [allAtoms_all]
  show words1.all (fun c => c.before args0 about1) = true
  refine all_split ?_ w_codes
  rw [← List.take_append_drop 24 words1, List.all_append, w_t1, w_t2]
  rfl
set_option maxRecDepth 65536 in
theorem w_case : (Jvm.Cond.and given_1 narrow_1).before args0 about1 = true := by decide +kernel
theorem w_applies : (headSpec (Jvm.Cond.code x code maxLocals ret :: tables_1) room_1).applies x e0.platform about1 = true :=
  (Spec.applies_iff w_frames).mpr ⟨w_running, w_runnable, w_alone, w_named, w_hears, w_ripe, w_room, w_tables⟩
theorem atStart : AtStart classFile x code maxLocals ret World_1 tables_1 room_1 Calls_1 rest_1 Pre_1 launch0 p0 e0 about1 theMethod args0 below0 :=
  ⟨lists_1, trivial, launch0.admits_env _ _ _, launch0.least_env, fairChoices_fair.cas, fairChoices_fair.clock, w_frames, w_args, w_heap, w_applies, trivial, trivial, w_case⟩
end start1
theorem witness_1 : WitnessClaimed_1 := ⟨start1.p0, start1.e0, start1.about1, start1.theMethod, start1.args0, start1.below0, start1.atStart⟩
end Jvm.Pilot.@@N@@
