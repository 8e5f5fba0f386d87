import JvmDerived
import JvmDerived.Pilot.@@N@@Statement
import JvmDerived.Pilot.@@N@@Code
set_option linter.unusedVariables false
set_option linter.unusedSimpArgs false
namespace Jvm.Pilot.@@N@@
open Jvm Jvm.ClassFile Sem Op Lib Jvm.Free Jvm.Stand Jvm.LawKit Jvm.RoadKit Bundle Jvm.Pilot.@@N@@.Jvm.D
/-! own_: A WALK AS A CHAIN OF 'Go': from T, with the frame g on top, the run comes to a state of which P holds. A fork (by_cases, rcases) may stand anywhere in the chain. -/
def Go (p : Program) (e : Env) (below : List Frame) (P : State → Prop) (T : State) (g : JFrame) : Prop := ∃ t, Steps p.tables e below (T.setTop g) t ∧ P t
/-- what a body owes at its end -/
def EndP (below : List Frame) (s : State) (Q : Option Value → Heap → List Loc → Prop) (ce sl : Nat) (t : State) : Prop := ∃ o, t.status = .running ∧ Ended t below o ∧ ∃ v L, o = .returned v ∧ Q v t.heap L ∧ FrameEnd s o t L ce sl
/-- a method's contract: called with as' on the heap h0 it returns, and Q holds of what it returns, the heap that it leaves and the places that it wrote -/
abbrev Does (l : Launch) (y : MethodName) (bytes : ByteArray) (maxL : Nat) (rt : Option FieldType) (ws : List Jvm.Cond) (rm : Room) (as' : Array Value) (Z : State) (h0 : Heap) (Q : Option Value → Heap → List Loc → Prop) : Prop :=
  MetFree l y (head1 (Jvm.Cond.code y bytes maxL rt :: ws) rm) (fun a U => a = as' ∧ Z.Warmed39 U.vm ∧ U.heap = h0) (fun _ _ _ _ _ => True) (fun _ U o U' => ∃ v L, o = .returned v ∧ Q v U'.heap L ∧ FrameEnd U o U' L rm.cells rm.slots)
section Own
variable {p : Program} {l : Launch} {e : Env} {R : Room} {s : State} {m : MethodId} {args : Array Value} {below : List Frame} {meth : Method} {c : Code} {T T' : State} {locs : List Loc} {cells slots : Nat} {P : State → Prop} {g g' : JFrame} {Z : State} {h h0 : Heap} {a0 as' : Array Value} {own : String} {index : Nat} {y z : MethodName} {bytes : ByteArray} {maxL : Nat} {rt : Option FieldType} {rm : Room} {ws : List Jvm.Cond} {Q : Option Value → Heap → List Loc → Prop} {ce sl W : Nat} {argsL rest : List Value}
theorem Go.st (hh : Go p e below P T' g') (st : ∀ t, Steps p.tables e below (T'.setTop g') t → Steps p.tables e below (T.setTop g) t) : Go p e below P T g := by
  obtain ⟨t, h1, h2⟩ := hh
  exact ⟨t, st t h1, h2⟩
theorem Go.cast (q : g = g') (hh : Go p e below P T g') : Go p e below P T g := q ▸ hh
theorem Go.ret {v : Option Value} (X : Stand p l e R s m args below meth c T locs cells slots) (hv : meth.sig.returnType = none → v = none) (hlocks : meth.locks = false) (hc : cells ≤ ce) (hs : slots ≤ sl) (hq : Q v T.heap locs)
    (st : ∀ fs, (∀ (f : JFrame) (acts : List Action), f.method = m → f.locked = none → f.entered = [] → (doReturn e (T.setTop f) acts v).1 = T.setFrames fs) → Steps p.tables e below (T.setTop g) (T.setFrames fs)) : Go p e below (EndP below s Q ce sl) T g := by
  obtain ⟨fs, hr, hrun, hended, hW, hsame⟩ := X.leave (v := v) hv hlocks
  exact ⟨_, st fs hr, _, hrun, hended, _, _, rfl, hq, ⟨_, rfl⟩, hW, hsame.mono hc hs⟩
/-- a value is returned -/
theorem Go.retV {w : Value} {t : FieldType} {i : Instr} {pc : Nat} {Ls : Array Slot} (X : Stand p l e R s m args below meth c T locs cells slots) (hx : p.tables.exec = Jvm.exec) (hret : meth.sig.returnType = some t) (hlocks : meth.locks = false) (hc : cells ≤ ce) (hs : slots ≤ sl) (hn : narrow t w = w)
    (hi : (i = .ireturn ∧ (t = .int ∨ t = .boolean ∨ t = .byte ∨ t = .char ∨ t = .short) ∧ ∃ z, w = .int z) ∨ (i = .lreturn ∧ t = .long ∧ ∃ z, w = .long z) ∨ (i = .dreturn ∧ t = .double ∧ ∃ z, w = .double z) ∨ (i = .freturn ∧ t = .float ∧ ∃ z, w = .float z) ∨ (i = .areturn ∧ t.isReference = true ∧ w.isRef = true))
    (hd : decode c.code pc = .ok (i, 1)) (hq : Q (some w) T.heap locs) : Go p e below (EndP below s Q ce sl) T (mkF m pc Ls (w :: rest)) :=
  Go.ret X (fun q => by rw [hret] at q; cases q) hlocks hc hs hq fun _ hr => retOut X hx hret hn hi hd hr
/-- nothing is returned -/
theorem Go.retU {pc : Nat} {Ls : Array Slot} (X : Stand p l e R s m args below meth c T locs cells slots) (hx : p.tables.exec = Jvm.exec) (hret : meth.sig.returnType = none) (hlocks : meth.locks = false) (hc : cells ≤ ce) (hs : slots ≤ sl)
    (hd : decode c.code pc = .ok (.return_, 1)) (hq : Q none T.heap locs) : Go p e below (EndP below s Q ce sl) T (mkF m pc Ls []) :=
  Go.ret X (fun _ => rfl) hlocks hc hs hq fun _ hr => X.returnOut hx hret hd hr
/-- a body that goes well has its contract -/
theorem Does.of (hp : plainFor y = true) (body : ∀ (p : Program) (e : Env) (s : State) (m : MethodId) (below : List Frame) (meth : Method) (c : Code) (s₁ : State), p.tables.exec = Jvm.exec → c.code = bytes → c.maxLocals = maxL → meth.sig.returnType = rt → meth.locks = false → s.vm.findClass y.cls = some m.cls → meth.name = y.name → Z.Warmed39 s.vm →
      Stand p l e rm s m as' below meth c s₁ [] 0 0 → s₁.heap = h0 → Go p e below (EndP below s Q rm.cells rm.slots) s₁ (entryFrame m as' maxL)) : Does l y bytes maxL rt ws rm as' Z h0 Q := by
  refine MetFree.of_bodySF hp hisR ?_
  intro p e s m args below meth c s₁ Bd hml0 hP hK
  obtain ⟨rfl, hZ, hh⟩ := hP
  obtain ⟨t, h1, o, h2, h3, h4⟩ := body p e s m below meth c s₁ Bd.exec Bd.bytes hml0 Bd.returns Bd.notSynchronized (findClass_of_methodNamed Bd.named) (name_of_methodNamed Bd.named Bd.method).1 hZ (Stand.of_body Bd) (by rw [← hh, Bd.state]; rfl)
  exact ⟨t, o, h1, h2, h3, h4⟩
/-- a static call by the callee's contract -/
theorem Go.callS (X : Stand p l e R s m args below meth c T locs cells slots) (hx : p.tables.exec = Jvm.exec) (hZ : Z.Warmed39 s.vm) (hown : s.vm.findClass own = some m.cls) (w1 : (Jvm.Cond.methodLink own index y).before a0 Z = true) (w2 : (Jvm.Cond.static y).before a0 Z = true) (w3 : (Jvm.Cond.initialized y.cls).before a0 Z = true) (w4 : (Jvm.Cond.code y bytes maxL rt).before a0 Z = true)
    (hy : y.cls ≠ "java/lang/invoke/MethodHandle" ∧ y.cls ≠ "java/lang/invoke/VarHandle") (D : Does l y bytes maxL rt [] rm argsL.toArray Z h Q) (eT : T.heap = h) (hf : rm.frames + 1 ≤ R.frames) (hl : W + (maxL + 11) + rm.locals ≤ R.locals) (hc : cells + rm.cells ≤ R.cells) (hs : slots + rm.slots ≤ R.slots)
    (hg : g.method = m) (hsize : g.locals.size = c.maxLocals) (hlen : ∀ sig, parseMethodDescriptor y.desc = some sig → argsL.length = sig.parameters.length) (hstack : g.stack = argsL.reverse ++ rest) (hW : 2 * g.monitorRoom + (rest.map fun v => v.category).sum ≤ W) (hdg : decode c.code g.pc = .ok (.invokestatic index, 3))
    (k : ∀ (v : Option Value) (T' : State) (L : List Loc), Stand p l e R s m args below meth c T' (locs ++ L) (cells + rm.cells) (slots + rm.slots) → Q v T'.heap L → Go p e below P T' { g with pc := g.pc + 3, stack := v.toList ++ rest }) : Go p e below P T g := by
  obtain ⟨v, _, ⟨T1, L1, k1, n1⟩, -, X1, ⟨Lc, hQ, l1, y1, z1⟩, st⟩ := Jvm.LawKit.callS X hx (y := y) hown (mvT hZ w1) (mvT hZ w2) (mvT hZ w3) (mvT hZ w4) hy (backOf (W := W) D hZ w4 w3 hf hl) (g := g) hg hsize (argsL := argsL) (rest := rest) hlen hstack hW hdg (fun _ _ => ⟨rfl, eT, hc, hs⟩)
  dsimp only [Pt.U, Pt.locs, Pt.cells, Pt.slots] at X1 l1 y1 z1 st hQ
  subst l1 y1 z1
  exact Go.st (k v T1 Lc X1 hQ) st
/-- a virtual call by the contract of the method that it selects -/
theorem Go.callV {C : String} {a : Addr} (X : Stand p l e R s m args below meth c T locs cells slots) (hx : p.tables.exec = Jvm.exec) (hZ : Z.Warmed39 s.vm) (hown : s.vm.findClass own = some m.cls) (w1 : (Jvm.Cond.methodLink own index y).before a0 Z = true) (w2 : (Jvm.Cond.declares y).before a0 Z = true) (w5 : (Jvm.Cond.selects C y y).before a0 Z = true) (w6 : (Jvm.Cond.instanceMethod y).before a0 Z = true) (w3 : (Jvm.Cond.initialized y.cls).before a0 Z = true) (w4 : (Jvm.Cond.code y bytes maxL rt).before a0 Z = true)
    (hy : y.cls ≠ "java/lang/invoke/MethodHandle" ∧ y.cls ≠ "java/lang/invoke/VarHandle") (A : Exa Z h a C) (D : Does l y bytes maxL rt [] rm (.ref a :: argsL).toArray Z h Q) (eT : T.heap = h) (hf : rm.frames + 1 ≤ R.frames) (hl : W + (maxL + 11) + rm.locals ≤ R.locals) (hc : cells + rm.cells ≤ R.cells) (hs : slots + rm.slots ≤ R.slots)
    (hg : g.method = m) (hsize : g.locals.size = c.maxLocals) (hlen : ∀ sig, parseMethodDescriptor y.desc = some sig → argsL.length = sig.parameters.length) (hstack : g.stack = argsL.reverse ++ .ref a :: rest) (hW : 2 * g.monitorRoom + (rest.map fun v => v.category).sum ≤ W) (hdg : decode c.code g.pc = .ok (.invokevirtual index, 3))
    (k : ∀ (v : Option Value) (T' : State) (L : List Loc), Stand p l e R s m args below meth c T' (locs ++ L) (cells + rm.cells) (slots + rm.slots) → Q v T'.heap L → Go p e below P T' { g with pc := g.pc + 3, stack := v.toList ++ rest }) : Go p e below P T g := by
  obtain ⟨cq, kq, qa, qb, qc⟩ := isOf hZ eT A
  obtain ⟨v, _, ⟨T1, L1, k1, n1⟩, -, X1, ⟨Lc, hQ, l1, y1, z1⟩, st⟩ := X.virtualBack hx (y := y) (z := y) hown (mvT hZ w1) (mvT hZ w2) (notFace_of_selects (args := #[]) (mvT hZ w5)) (mvT hZ w5) (mvT hZ w6) hy (backOf (W := W) D hZ w4 w3 hf hl) qa qc (g := g) hg hsize (Steps.refl _) (argsL := argsL) (rest := rest) hlen hstack hW hdg (fun _ _ => ⟨rfl, eT, hc, hs⟩)
  dsimp only [Pt.U, Pt.locs, Pt.cells, Pt.slots] at X1 l1 y1 z1 st hQ
  subst l1 y1 z1
  exact Go.st (k v T1 Lc X1 hQ) fun _ q => st.trans q
/-- a constructor by its contract -/
theorem Go.callI {a : Addr} (X : Stand p l e R s m args below meth c T locs cells slots) (hx : p.tables.exec = Jvm.exec) (hZ : Z.Warmed39 s.vm) (hown : s.vm.findClass own = some m.cls) (hin : y.name = "<init>") (w1 : (Jvm.Cond.methodLink own index y).before a0 Z = true) (w6 : (Jvm.Cond.instanceMethod y).before a0 Z = true) (w3 : (Jvm.Cond.initialized y.cls).before a0 Z = true) (w4 : (Jvm.Cond.code y bytes maxL none).before a0 Z = true)
    (hy : y.cls ≠ "java/lang/invoke/MethodHandle" ∧ y.cls ≠ "java/lang/invoke/VarHandle") (D : Does l y bytes maxL none [] rm (.ref a :: argsL).toArray Z h Q) (eT : T.heap = h) (hf : rm.frames + 1 ≤ R.frames) (hl : W + (maxL + 11) + rm.locals ≤ R.locals) (hc : cells + rm.cells ≤ R.cells) (hs : slots + rm.slots ≤ R.slots)
    (hg : g.method = m) (hsize : g.locals.size = c.maxLocals) (hlen : ∀ sig, parseMethodDescriptor y.desc = some sig → argsL.length = sig.parameters.length) (hstack : g.stack = argsL.reverse ++ .ref a :: rest) (hW : 2 * g.monitorRoom + (rest.map fun v => v.category).sum ≤ W) (hdg : decode c.code g.pc = .ok (.invokespecial index, 3))
    (k : ∀ (v : Option Value) (T' : State) (L : List Loc), Stand p l e R s m args below meth c T' (locs ++ L) (cells + rm.cells) (slots + rm.slots) → Q v T'.heap L → Go p e below P T' { g with pc := g.pc + 3, stack := v.toList ++ rest }) : Go p e below P T g := by
  obtain ⟨v, _, ⟨T1, L1, k1, n1⟩, -, X1, ⟨Lc, hQ, l1, y1, z1⟩, st⟩ := X.specialBack hx (y := y) hin hown (mvT hZ w1) (mvT hZ w6) (mvT hZ w4) hy (backOf (W := W) D hZ w4 w3 hf hl) (g := g) hg hsize (Steps.refl _) (a := a) (argsL := argsL) (rest := rest) hlen hstack hW hdg (fun _ _ => ⟨rfl, eT, hc, hs⟩)
  dsimp only [Pt.U, Pt.locs, Pt.cells, Pt.slots] at X1 l1 y1 z1 st hQ
  subst l1 y1 z1
  exact Go.st (k v T1 Lc X1 hQ) fun _ q => st.trans q
end Own
theorem own_i_eq {x y : Int32} {a b : Int} (hx : x.toInt = a) (hy : y.toInt = b) (q : a = b) : x = y := Int32.toInt_inj.mp (by rw [hx, hy, q])
theorem own_i_neq {x y : Int32} {a b : Int} (hx : x.toInt = a) (hy : y.toInt = b) (q : ¬ a = b) : ¬ x = y := fun r => q (by rw [← hx, ← hy, r])
theorem own_i_lt {x y : Int32} {a b : Int} (hx : x.toInt = a) (hy : y.toInt = b) (q : a < b) : x < y := by rw [Int32.lt_iff_toInt_lt, hx, hy]; exact q
theorem own_i_nlt {x y : Int32} {a b : Int} (hx : x.toInt = a) (hy : y.toInt = b) (q : ¬ a < b) : ¬ x < y := by rw [Int32.lt_iff_toInt_lt, hx, hy]; exact q
theorem own_l_eq {x y : Int64} {a b : Int} (hx : x.toInt = a) (hy : y.toInt = b) (q : a = b) : x = y := Int64.toInt_inj.mp (by rw [hx, hy, q])
theorem own_l_neq {x y : Int64} {a b : Int} (hx : x.toInt = a) (hy : y.toInt = b) (q : ¬ a = b) : ¬ x = y := fun r => q (by rw [← hx, ← hy, r])
theorem own_l_lt {x y : Int64} {a b : Int} (hx : x.toInt = a) (hy : y.toInt = b) (q : a < b) : x < y := by rw [Int64.lt_iff_toInt_lt, hx, hy]; exact q
theorem own_l_nlt {x y : Int64} {a b : Int} (hx : x.toInt = a) (hy : y.toInt = b) (q : ¬ a < b) : ¬ x < y := by rw [Int64.lt_iff_toInt_lt, hx, hy]; exact q
/-- a number in a field, out of the case's words -/
theorem own_fldInt {args : Array Value} {s : State} {t : Term} {a : Addr} {C n d : String} {k : Int32} (ht : t.eval args s none [] s = some (.ref a)) (hh : (Jvm.Cond.eq (.field t C n d) (.int k)).value args s none s [] = some true) : Fld s s.heap a C n d (.int k) := by
  refine Fld.start ?_
  simp only [Jvm.Cond.value, fld_at ht, Term.int_eval] at hh
  cases hf : s.fieldOf? a C n d with
  | none => simp [hf] at hh
  | some v => cases v <;> simp_all
def own_m1 (z : Int64) : Int64 := ((z ^^^ (XT.ushrL z (30 : Int32))) * (-4658895280553007687 : Int64))
def own_m2 (z : Int64) : Int64 := ((z ^^^ (XT.ushrL z (27 : Int32))) * (-7723592293110705685 : Int64))
def own_m3 (z : Int64) : Int64 := (z ^^^ (XT.ushrL z (31 : Int32)))
def own_mix (z : Int64) : Int64 := own_m3 (own_m2 (own_m1 z))
def own_st (a x : Int64) : Int64 := (x * ((2 : Int64) - (a * x)))
def own_inv (a : Int64) : Int64 := own_st a (own_st a (own_st a (own_st a (own_st a a))))
def own_u1 (z : Int64) : Int64 := ((z ^^^ (XT.ushrL z (31 : Int32))) ^^^ (XT.ushrL z (62 : Int32)))
def own_u2 (z : Int64) : Int64 := ((z ^^^ (XT.ushrL z (27 : Int32))) ^^^ (XT.ushrL z (54 : Int32)))
def own_u3 (z : Int64) : Int64 := ((z ^^^ (XT.ushrL z (30 : Int32))) ^^^ (XT.ushrL z (60 : Int32)))
def own_unmix (z : Int64) : Int64 := own_u3 (own_u2 (own_u1 z * own_inv (-7723592293110705685 : Int64)) * own_inv (-4658895280553007687 : Int64))
theorem own_sh (x : Int64) (y : Int32) (n : Nat) (h : (y.toInt64.toUInt64 &&& Int64.toUInt64 63).toBitVec.toNat = n) (hn : n < 64) : (XT.ushrL x y).toBitVec = x.toBitVec >>> n := by
  show (x.toUInt64 >>> (y.toInt64.toUInt64 &&& Int64.toUInt64 63)).toBitVec = _
  rw [UInt64.toBitVec_shiftRight]
  generalize (y.toInt64.toUInt64 &&& Int64.toUInt64 63) = w at *
  show x.toBitVec >>> ((w.toBitVec % 64#64).toNat) = _
  rw [BitVec.toNat_umod, h]
  congr 1
  show n % 64 = n
  omega
theorem own_xs (x : BitVec 64) (k : Nat) (h : 64 ≤ 3 * k) : (x ^^^ x >>> k) ^^^ (x ^^^ x >>> k) >>> k ^^^ (x ^^^ x >>> k) >>> (2 * k) = x := by
  apply BitVec.eq_of_getLsbD_eq
  intro i hi
  simp only [BitVec.getLsbD_xor, BitVec.getLsbD_ushiftRight]
  rw [show k + (k + i) = 2 * k + i by omega, BitVec.getLsbD_of_ge x (k + (2 * k + i)) (by omega)]
  generalize x.getLsbD i = a; generalize x.getLsbD (k + i) = b; generalize x.getLsbD (2 * k + i) = c
  cases a <;> cases b <;> cases c <;> rfl
theorem own_um1 (z : Int64) : own_u1 (own_m3 z) = z := by
  apply Int64.toBitVec_inj.mp
  simp only [own_u1, own_m3, Int64.toBitVec_xor, own_sh _ 31 31 (by decide) (by decide), own_sh _ 62 62 (by decide) (by decide)]
  exact own_xs z.toBitVec 31 (by decide)
theorem own_um2 (z : Int64) : own_u2 (z ^^^ (XT.ushrL z (27 : Int32))) = z := by
  apply Int64.toBitVec_inj.mp
  simp only [own_u2, Int64.toBitVec_xor, own_sh _ 27 27 (by decide) (by decide), own_sh _ 54 54 (by decide) (by decide)]
  exact own_xs z.toBitVec 27 (by decide)
theorem own_um3 (z : Int64) : own_u3 (z ^^^ (XT.ushrL z (30 : Int32))) = z := by
  apply Int64.toBitVec_inj.mp
  simp only [own_u3, Int64.toBitVec_xor, own_sh _ 30 30 (by decide) (by decide), own_sh _ 60 60 (by decide) (by decide)]
  exact own_xs z.toBitVec 30 (by decide)
theorem own_i2 : (-7723592293110705685 : Int64) * own_inv (-7723592293110705685 : Int64) = 1 := by decide +kernel
theorem own_i1 : (-4658895280553007687 : Int64) * own_inv (-4658895280553007687 : Int64) = 1 := by decide +kernel
theorem own_id (z : Int64) : own_unmix (own_mix z) = z := by
  rw [own_unmix, own_mix, own_um1, own_m2, Int64.mul_assoc, own_i2, Int64.mul_one, own_um2, own_m1, Int64.mul_assoc, own_i1, Int64.mul_one, own_um3]
theorem d_prog_4_method_1_code_0 : decode prog_4_method_1_code 0 = .ok (.aload_n 0, 1) := by decide +kernel
theorem d_prog_4_method_1_code_1 : decode prog_4_method_1_code 1 = .ok (.invokespecial 1, 3) := by decide +kernel
theorem d_prog_4_method_1_code_4 : decode prog_4_method_1_code 4 = .ok (.aload_n 0, 1) := by decide +kernel
theorem d_prog_4_method_1_code_5 : decode prog_4_method_1_code 5 = .ok (.lload_n 1, 1) := by decide +kernel
theorem d_prog_4_method_1_code_6 : decode prog_4_method_1_code 6 = .ok (.putfield 7, 3) := by decide +kernel
theorem d_prog_4_method_1_code_9 : decode prog_4_method_1_code 9 = .ok (.return_, 1) := by decide +kernel
theorem pn_com_example_amblesim_amblesim_model_RandomSource : plainName "com/example/amblesim/amblesim/model/RandomSource" = true := by first | (simp [plainName, overriddenIn]; done) | decide +kernel
set_option maxRecDepth 65536 in
set_option maxHeartbeats 40000000 in
theorem rm1 (l : Launch) (Z : State) (a0 : Array Value) (hw : ∀ d ∈ tables_1, d.before a0 Z = true) (ws : List Jvm.Cond) (a1 : Addr) (q1 : Int64) (h0 : Heap) (n0 : Nat) (Z0 : n0 ≤ h0.size) (F0 : Fld Z h0 a1 "com/example/amblesim/amblesim/model/RandomSource" "state" "J" (.long (0 : Int64))) (A0 : Exa Z h0 a1 "com/example/amblesim/amblesim/model/RandomSource") (g0 : n0 ≤ a1) :
    Does l (⟨"com/example/amblesim/amblesim/model/RandomSource", "<init>", "(J)V"⟩ : MethodName) prog_4_method_1_code 3 none ws ({ frames := 1, cells := 0, slots := 0, locals := 12 } : Room) #[(.ref a1), (.long q1)] Z h0 (fun v h L => v = none ∧ Fr n0 L ∧ Keep h0 h [a1] ∧ Exa Z h a1 "com/example/amblesim/amblesim/model/RandomSource" ∧ Fld Z h a1 "com/example/amblesim/amblesim/model/RandomSource" "state" "J" (.long q1)) := by
  refine Does.of (plainFor_of_name pn_com_example_amblesim_amblesim_model_RandomSource) ?_
  intro p e s m below meth c s₁ hx hby hml hret hlk hown0 hnm hZ X0 e0
  have hown : s.vm.findClass "com/example/amblesim/amblesim/model/RandomSource" = some m.cls := hown0
  have N0 := Fr.nil n0
  refine Go.cast (g' := (mkF m 0 #[.val (.ref a1), .val (.long q1), .second] [])) (by first | rfl | (simp [entryFrame, mkF, argsToLocals, Value.category, maxLocals]; done)) ?_
  refine Go.st (T' := s₁) (g' := (mkF m 1 #[.val (.ref a1), .val (.long q1), .second] [(.ref a1)])) ?_ (fun _ k_ => XS.aloadN X0.here hx rfl (hb hby d_prog_4_method_1_code_0) rfl rfl k_)
  obtain ⟨T1, X1, e1, st1⟩ := initO X0 hx hZ hown (hw _ (List.mem_of_getElem? (i := 6) rfl)) (hw _ (List.mem_of_getElem? (i := 7) rfl)) (hw _ (List.mem_of_getElem? (i := 8) rfl)) e0 (g := (mkF m 1 #[.val (.ref a1), .val (.long q1), .second] [(.ref a1)])) rfl (by rw [hml]; rfl) rfl (hb hby d_prog_4_method_1_code_1) (by decide) (W := 0) (by show 2 * 0 + _ ≤ _; exact Nat.le_of_eq rfl) (by decide)
  refine Go.st (T' := T1) (g' := (mkF m 4 #[.val (.ref a1), .val (.long q1), .second] [])) ?_ st1
  refine Go.st (T' := T1) (g' := (mkF m 5 #[.val (.ref a1), .val (.long q1), .second] [(.ref a1)])) ?_ (fun _ k_ => XS.aloadN X1.here hx rfl (hb hby d_prog_4_method_1_code_4) rfl rfl k_)
  refine Go.st (T' := T1) (g' := (mkF m 6 #[.val (.ref a1), .val (.long q1), .second] [(.long q1), (.ref a1)])) ?_ (fun _ k_ => XT.lloadN X1.here hx rfl (hb hby d_prog_4_method_1_code_5) rfl k_)
  obtain ⟨T2, h2, X2, e2, W2, st2⟩ := putF X1 hx hZ hown (host := "") (Or.inl (hw _ (List.mem_of_getElem? (i := 9) rfl))) Via.refl e1 F0 A0 (Or.inl (hw _ (List.mem_of_getElem? (i := 10) rfl))) (hw _ (List.mem_of_getElem? (i := 1) rfl)) (ty := .long) (by decide) rfl rfl (g := (mkF m 6 #[.val (.ref a1), .val (.long q1), .second] [(.long q1), (.ref a1)])) rfl rfl (hb hby d_prog_4_method_1_code_6)
  have N2 := Fr.snoc X2 N0 g0
  refine Go.st (T' := T2) (g' := (mkF m 9 #[.val (.ref a1), .val (.long q1), .second] [])) ?_ st2
  exact Go.retU X2 hx hret hlk (by decide) (by decide) (hb hby d_prog_4_method_1_code_9) (by rw [e2]; exact ⟨rfl, N2, (show Keep h0 h2 [a1] from ((Keep.refl _ _).wr W2 (Or.inl (List.mem_of_getElem? (i := 0) rfl)))), (A0.wr W2), (F0.same W2)⟩)
theorem d_prog_4_method_2_code_0 : decode prog_4_method_2_code 0 = .ok (.aload_n 0, 1) := by decide +kernel
theorem d_prog_4_method_2_code_1 : decode prog_4_method_2_code 1 = .ok (.dup, 1) := by decide +kernel
theorem d_prog_4_method_2_code_2 : decode prog_4_method_2_code 2 = .ok (.getfield 7, 3) := by decide +kernel
theorem d_prog_4_method_2_code_5 : decode prog_4_method_2_code 5 = .ok (.ldc2_w 13, 3) := by decide +kernel
theorem d_prog_4_method_2_code_8 : decode prog_4_method_2_code 8 = .ok (.ladd, 1) := by decide +kernel
theorem d_prog_4_method_2_code_9 : decode prog_4_method_2_code 9 = .ok (.putfield 7, 3) := by decide +kernel
theorem d_prog_4_method_2_code_12 : decode prog_4_method_2_code 12 = .ok (.aload_n 0, 1) := by decide +kernel
theorem d_prog_4_method_2_code_13 : decode prog_4_method_2_code 13 = .ok (.getfield 7, 3) := by decide +kernel
theorem d_prog_4_method_2_code_16 : decode prog_4_method_2_code 16 = .ok (.lstore_n 1, 1) := by decide +kernel
theorem d_prog_4_method_2_code_17 : decode prog_4_method_2_code 17 = .ok (.lload_n 1, 1) := by decide +kernel
theorem d_prog_4_method_2_code_18 : decode prog_4_method_2_code 18 = .ok (.lload_n 1, 1) := by decide +kernel
theorem d_prog_4_method_2_code_19 : decode prog_4_method_2_code 19 = .ok (.bipush 30, 2) := by decide +kernel
theorem d_prog_4_method_2_code_21 : decode prog_4_method_2_code 21 = .ok (.lushr, 1) := by decide +kernel
theorem d_prog_4_method_2_code_22 : decode prog_4_method_2_code 22 = .ok (.lxor, 1) := by decide +kernel
theorem d_prog_4_method_2_code_23 : decode prog_4_method_2_code 23 = .ok (.ldc2_w 15, 3) := by decide +kernel
theorem d_prog_4_method_2_code_26 : decode prog_4_method_2_code 26 = .ok (.lmul, 1) := by decide +kernel
theorem d_prog_4_method_2_code_27 : decode prog_4_method_2_code 27 = .ok (.lstore_n 1, 1) := by decide +kernel
theorem d_prog_4_method_2_code_28 : decode prog_4_method_2_code 28 = .ok (.lload_n 1, 1) := by decide +kernel
theorem d_prog_4_method_2_code_29 : decode prog_4_method_2_code 29 = .ok (.lload_n 1, 1) := by decide +kernel
theorem d_prog_4_method_2_code_30 : decode prog_4_method_2_code 30 = .ok (.bipush 27, 2) := by decide +kernel
theorem d_prog_4_method_2_code_32 : decode prog_4_method_2_code 32 = .ok (.lushr, 1) := by decide +kernel
theorem d_prog_4_method_2_code_33 : decode prog_4_method_2_code 33 = .ok (.lxor, 1) := by decide +kernel
theorem d_prog_4_method_2_code_34 : decode prog_4_method_2_code 34 = .ok (.ldc2_w 17, 3) := by decide +kernel
theorem d_prog_4_method_2_code_37 : decode prog_4_method_2_code 37 = .ok (.lmul, 1) := by decide +kernel
theorem d_prog_4_method_2_code_38 : decode prog_4_method_2_code 38 = .ok (.lstore_n 1, 1) := by decide +kernel
theorem d_prog_4_method_2_code_39 : decode prog_4_method_2_code 39 = .ok (.lload_n 1, 1) := by decide +kernel
theorem d_prog_4_method_2_code_40 : decode prog_4_method_2_code 40 = .ok (.lload_n 1, 1) := by decide +kernel
theorem d_prog_4_method_2_code_41 : decode prog_4_method_2_code 41 = .ok (.bipush 31, 2) := by decide +kernel
theorem d_prog_4_method_2_code_43 : decode prog_4_method_2_code 43 = .ok (.lushr, 1) := by decide +kernel
theorem d_prog_4_method_2_code_44 : decode prog_4_method_2_code 44 = .ok (.lxor, 1) := by decide +kernel
theorem d_prog_4_method_2_code_45 : decode prog_4_method_2_code 45 = .ok (.lreturn, 1) := by decide +kernel
set_option maxRecDepth 65536 in
set_option maxHeartbeats 40000000 in
theorem rm2 (l : Launch) (Z : State) (a0 : Array Value) (hw : ∀ d ∈ tables_1, d.before a0 Z = true) (ws : List Jvm.Cond) (a1 : Addr) (q1 : Int64) (h0 : Heap) (n0 : Nat) (Z0 : n0 ≤ h0.size) (F0 : Fld Z h0 a1 "com/example/amblesim/amblesim/model/RandomSource" "state" "J" (.long q1)) (A0 : Exa Z h0 a1 "com/example/amblesim/amblesim/model/RandomSource") (g0 : n0 ≤ a1) :
    Does l (⟨"com/example/amblesim/amblesim/model/RandomSource", "nextLong", "()J"⟩ : MethodName) prog_4_method_2_code 3 (some .long) ws ({ frames := 0, cells := 0, slots := 0, locals := 0 } : Room) #[(.ref a1)] Z h0 (fun v h L => v = some (.long (own_mix (q1 + (-7046029254386353131 : Int64)))) ∧ Fr n0 L ∧ Keep h0 h [a1] ∧ Exa Z h a1 "com/example/amblesim/amblesim/model/RandomSource" ∧ Fld Z h a1 "com/example/amblesim/amblesim/model/RandomSource" "state" "J" (.long (q1 + (-7046029254386353131 : Int64)))) := by
  refine Does.of (plainFor_of_name pn_com_example_amblesim_amblesim_model_RandomSource) ?_
  intro p e s m below meth c s₁ hx hby hml hret hlk hown0 hnm hZ X0 e0
  have hown : s.vm.findClass "com/example/amblesim/amblesim/model/RandomSource" = some m.cls := hown0
  have N0 := Fr.nil n0
  refine Go.cast (g' := (mkF m 0 #[.val (.ref a1), .unset, .unset] [])) (by first | rfl | (simp [entryFrame, mkF, argsToLocals, Value.category, maxLocals]; done)) ?_
  refine Go.st (T' := s₁) (g' := (mkF m 1 #[.val (.ref a1), .unset, .unset] [(.ref a1)])) ?_ (fun _ k_ => XS.aloadN X0.here hx rfl (hb hby d_prog_4_method_2_code_0) rfl rfl k_)
  refine Go.st (T' := s₁) (g' := (mkF m 2 #[.val (.ref a1), .unset, .unset] [(.ref a1), (.ref a1)])) ?_ (fun _ k_ => XS.dup X0.here hx rfl (hb hby d_prog_4_method_2_code_1) rfl rfl k_)
  obtain ⟨T1, X1, e1, st1⟩ := getF X0 hx hZ hown (host := "") (Or.inl (hw _ (List.mem_of_getElem? (i := 9) rfl))) Via.refl e0 F0 (g := (mkF m 2 #[.val (.ref a1), .unset, .unset] [(.ref a1), (.ref a1)])) rfl rfl (hb hby d_prog_4_method_2_code_2)
  refine Go.st (T' := T1) (g' := (mkF m 5 #[.val (.ref a1), .unset, .unset] [(.long q1), (.ref a1)])) ?_ st1
  refine Go.st (T' := T1) (g' := (mkF m 8 #[.val (.ref a1), .unset, .unset] [(.long (-7046029254386353131 : Int64)), (.long q1), (.ref a1)])) ?_ (fun _ k_ => X1.ldc2J hx hown (mvT hZ (hw _ (List.mem_of_getElem? (i := 16) rfl))) rfl (hb hby d_prog_4_method_2_code_5) k_)
  refine Go.st (T' := T1) (g' := (mkF m 9 #[.val (.ref a1), .unset, .unset] [(.long (q1 + (-7046029254386353131 : Int64))), (.ref a1)])) ?_ (fun _ k_ => XT.ladd X1.here hx rfl (hb hby d_prog_4_method_2_code_8) rfl k_)
  obtain ⟨T2, h2, X2, e2, W2, st2⟩ := putF X1 hx hZ hown (host := "") (Or.inl (hw _ (List.mem_of_getElem? (i := 9) rfl))) Via.refl e1 F0 A0 (Or.inl (hw _ (List.mem_of_getElem? (i := 10) rfl))) (hw _ (List.mem_of_getElem? (i := 1) rfl)) (ty := .long) (by decide) rfl rfl (g := (mkF m 9 #[.val (.ref a1), .unset, .unset] [(.long (q1 + (-7046029254386353131 : Int64))), (.ref a1)])) rfl rfl (hb hby d_prog_4_method_2_code_9)
  have N2 := Fr.snoc X2 N0 g0
  refine Go.st (T' := T2) (g' := (mkF m 12 #[.val (.ref a1), .unset, .unset] [])) ?_ st2
  refine Go.st (T' := T2) (g' := (mkF m 13 #[.val (.ref a1), .unset, .unset] [(.ref a1)])) ?_ (fun _ k_ => XS.aloadN X2.here hx rfl (hb hby d_prog_4_method_2_code_12) rfl rfl k_)
  obtain ⟨T3, X3, e3, st3⟩ := getF X2 hx hZ hown (host := "") (Or.inl (hw _ (List.mem_of_getElem? (i := 9) rfl))) Via.refl e2 (F0.same W2) (g := (mkF m 13 #[.val (.ref a1), .unset, .unset] [(.ref a1)])) rfl rfl (hb hby d_prog_4_method_2_code_13)
  refine Go.st (T' := T3) (g' := (mkF m 16 #[.val (.ref a1), .unset, .unset] [(.long (q1 + (-7046029254386353131 : Int64)))])) ?_ st3
  refine Go.st (T' := T3) (g' := (mkF m 17 #[.val (.ref a1), .val (.long (q1 + (-7046029254386353131 : Int64))), .second] [])) ?_ (fun _ k_ => XT.lstoreN X3.here hx rfl (hb hby d_prog_4_method_2_code_16) rfl (l' := #[.val (.ref a1), .val (.long (q1 + (-7046029254386353131 : Int64))), .second]) rfl k_)
  refine Go.st (T' := T3) (g' := (mkF m 18 #[.val (.ref a1), .val (.long (q1 + (-7046029254386353131 : Int64))), .second] [(.long (q1 + (-7046029254386353131 : Int64)))])) ?_ (fun _ k_ => XT.lloadN X3.here hx rfl (hb hby d_prog_4_method_2_code_17) rfl k_)
  refine Go.st (T' := T3) (g' := (mkF m 19 #[.val (.ref a1), .val (.long (q1 + (-7046029254386353131 : Int64))), .second] [(.long (q1 + (-7046029254386353131 : Int64))), (.long (q1 + (-7046029254386353131 : Int64)))])) ?_ (fun _ k_ => XT.lloadN X3.here hx rfl (hb hby d_prog_4_method_2_code_18) rfl k_)
  refine Go.st (T' := T3) (g' := (mkF m 21 #[.val (.ref a1), .val (.long (q1 + (-7046029254386353131 : Int64))), .second] [(.int (30 : Int32)), (.long (q1 + (-7046029254386353131 : Int64))), (.long (q1 + (-7046029254386353131 : Int64)))])) ?_ (fun _ k_ => XT.bipushV X3.here hx rfl (30 : Int32) (hb hby d_prog_4_method_2_code_19) (by decide) k_)
  refine Go.st (T' := T3) (g' := (mkF m 22 #[.val (.ref a1), .val (.long (q1 + (-7046029254386353131 : Int64))), .second] [(.long (XT.ushrL (q1 + (-7046029254386353131 : Int64)) (30 : Int32))), (.long (q1 + (-7046029254386353131 : Int64)))])) ?_ (fun _ k_ => XT.lushr X3.here hx rfl (hb hby d_prog_4_method_2_code_21) rfl k_)
  refine Go.st (T' := T3) (g' := (mkF m 23 #[.val (.ref a1), .val (.long (q1 + (-7046029254386353131 : Int64))), .second] [(.long ((q1 + (-7046029254386353131 : Int64)) ^^^ (XT.ushrL (q1 + (-7046029254386353131 : Int64)) (30 : Int32))))])) ?_ (fun _ k_ => XT.lxor X3.here hx rfl (hb hby d_prog_4_method_2_code_22) rfl k_)
  refine Go.st (T' := T3) (g' := (mkF m 26 #[.val (.ref a1), .val (.long (q1 + (-7046029254386353131 : Int64))), .second] [(.long (-4658895280553007687 : Int64)), (.long ((q1 + (-7046029254386353131 : Int64)) ^^^ (XT.ushrL (q1 + (-7046029254386353131 : Int64)) (30 : Int32))))])) ?_ (fun _ k_ => X3.ldc2J hx hown (mvT hZ (hw _ (List.mem_of_getElem? (i := 17) rfl))) rfl (hb hby d_prog_4_method_2_code_23) k_)
  refine Go.st (T' := T3) (g' := (mkF m 27 #[.val (.ref a1), .val (.long (q1 + (-7046029254386353131 : Int64))), .second] [(.long (((q1 + (-7046029254386353131 : Int64)) ^^^ (XT.ushrL (q1 + (-7046029254386353131 : Int64)) (30 : Int32))) * (-4658895280553007687 : Int64)))])) ?_ (fun _ k_ => XT.lmul X3.here hx rfl (hb hby d_prog_4_method_2_code_26) rfl k_)
  show Go p e below _ T3 (mkF m 27 #[.val (.ref a1), .val (.long (q1 + (-7046029254386353131 : Int64))), .second] [(.long (own_m1 (q1 + (-7046029254386353131 : Int64))))])
  refine Go.st (T' := T3) (g' := (mkF m 28 #[.val (.ref a1), .val (.long (own_m1 (q1 + (-7046029254386353131 : Int64)))), .second] [])) ?_ (fun _ k_ => XT.lstoreN X3.here hx rfl (hb hby d_prog_4_method_2_code_27) rfl (l' := #[.val (.ref a1), .val (.long (own_m1 (q1 + (-7046029254386353131 : Int64)))), .second]) rfl k_)
  refine Go.st (T' := T3) (g' := (mkF m 29 #[.val (.ref a1), .val (.long (own_m1 (q1 + (-7046029254386353131 : Int64)))), .second] [(.long (own_m1 (q1 + (-7046029254386353131 : Int64))))])) ?_ (fun _ k_ => XT.lloadN X3.here hx rfl (hb hby d_prog_4_method_2_code_28) rfl k_)
  refine Go.st (T' := T3) (g' := (mkF m 30 #[.val (.ref a1), .val (.long (own_m1 (q1 + (-7046029254386353131 : Int64)))), .second] [(.long (own_m1 (q1 + (-7046029254386353131 : Int64)))), (.long (own_m1 (q1 + (-7046029254386353131 : Int64))))])) ?_ (fun _ k_ => XT.lloadN X3.here hx rfl (hb hby d_prog_4_method_2_code_29) rfl k_)
  refine Go.st (T' := T3) (g' := (mkF m 32 #[.val (.ref a1), .val (.long (own_m1 (q1 + (-7046029254386353131 : Int64)))), .second] [(.int (27 : Int32)), (.long (own_m1 (q1 + (-7046029254386353131 : Int64)))), (.long (own_m1 (q1 + (-7046029254386353131 : Int64))))])) ?_ (fun _ k_ => XT.bipushV X3.here hx rfl (27 : Int32) (hb hby d_prog_4_method_2_code_30) (by decide) k_)
  refine Go.st (T' := T3) (g' := (mkF m 33 #[.val (.ref a1), .val (.long (own_m1 (q1 + (-7046029254386353131 : Int64)))), .second] [(.long (XT.ushrL (own_m1 (q1 + (-7046029254386353131 : Int64))) (27 : Int32))), (.long (own_m1 (q1 + (-7046029254386353131 : Int64))))])) ?_ (fun _ k_ => XT.lushr X3.here hx rfl (hb hby d_prog_4_method_2_code_32) rfl k_)
  refine Go.st (T' := T3) (g' := (mkF m 34 #[.val (.ref a1), .val (.long (own_m1 (q1 + (-7046029254386353131 : Int64)))), .second] [(.long ((own_m1 (q1 + (-7046029254386353131 : Int64))) ^^^ (XT.ushrL (own_m1 (q1 + (-7046029254386353131 : Int64))) (27 : Int32))))])) ?_ (fun _ k_ => XT.lxor X3.here hx rfl (hb hby d_prog_4_method_2_code_33) rfl k_)
  refine Go.st (T' := T3) (g' := (mkF m 37 #[.val (.ref a1), .val (.long (own_m1 (q1 + (-7046029254386353131 : Int64)))), .second] [(.long (-7723592293110705685 : Int64)), (.long ((own_m1 (q1 + (-7046029254386353131 : Int64))) ^^^ (XT.ushrL (own_m1 (q1 + (-7046029254386353131 : Int64))) (27 : Int32))))])) ?_ (fun _ k_ => X3.ldc2J hx hown (mvT hZ (hw _ (List.mem_of_getElem? (i := 18) rfl))) rfl (hb hby d_prog_4_method_2_code_34) k_)
  refine Go.st (T' := T3) (g' := (mkF m 38 #[.val (.ref a1), .val (.long (own_m1 (q1 + (-7046029254386353131 : Int64)))), .second] [(.long (((own_m1 (q1 + (-7046029254386353131 : Int64))) ^^^ (XT.ushrL (own_m1 (q1 + (-7046029254386353131 : Int64))) (27 : Int32))) * (-7723592293110705685 : Int64)))])) ?_ (fun _ k_ => XT.lmul X3.here hx rfl (hb hby d_prog_4_method_2_code_37) rfl k_)
  show Go p e below _ T3 (mkF m 38 #[.val (.ref a1), .val (.long (own_m1 (q1 + (-7046029254386353131 : Int64)))), .second] [(.long (own_m2 (own_m1 (q1 + (-7046029254386353131 : Int64)))))])
  refine Go.st (T' := T3) (g' := (mkF m 39 #[.val (.ref a1), .val (.long (own_m2 (own_m1 (q1 + (-7046029254386353131 : Int64))))), .second] [])) ?_ (fun _ k_ => XT.lstoreN X3.here hx rfl (hb hby d_prog_4_method_2_code_38) rfl (l' := #[.val (.ref a1), .val (.long (own_m2 (own_m1 (q1 + (-7046029254386353131 : Int64))))), .second]) rfl k_)
  refine Go.st (T' := T3) (g' := (mkF m 40 #[.val (.ref a1), .val (.long (own_m2 (own_m1 (q1 + (-7046029254386353131 : Int64))))), .second] [(.long (own_m2 (own_m1 (q1 + (-7046029254386353131 : Int64)))))])) ?_ (fun _ k_ => XT.lloadN X3.here hx rfl (hb hby d_prog_4_method_2_code_39) rfl k_)
  refine Go.st (T' := T3) (g' := (mkF m 41 #[.val (.ref a1), .val (.long (own_m2 (own_m1 (q1 + (-7046029254386353131 : Int64))))), .second] [(.long (own_m2 (own_m1 (q1 + (-7046029254386353131 : Int64))))), (.long (own_m2 (own_m1 (q1 + (-7046029254386353131 : Int64)))))])) ?_ (fun _ k_ => XT.lloadN X3.here hx rfl (hb hby d_prog_4_method_2_code_40) rfl k_)
  refine Go.st (T' := T3) (g' := (mkF m 43 #[.val (.ref a1), .val (.long (own_m2 (own_m1 (q1 + (-7046029254386353131 : Int64))))), .second] [(.int (31 : Int32)), (.long (own_m2 (own_m1 (q1 + (-7046029254386353131 : Int64))))), (.long (own_m2 (own_m1 (q1 + (-7046029254386353131 : Int64)))))])) ?_ (fun _ k_ => XT.bipushV X3.here hx rfl (31 : Int32) (hb hby d_prog_4_method_2_code_41) (by decide) k_)
  refine Go.st (T' := T3) (g' := (mkF m 44 #[.val (.ref a1), .val (.long (own_m2 (own_m1 (q1 + (-7046029254386353131 : Int64))))), .second] [(.long (XT.ushrL (own_m2 (own_m1 (q1 + (-7046029254386353131 : Int64)))) (31 : Int32))), (.long (own_m2 (own_m1 (q1 + (-7046029254386353131 : Int64)))))])) ?_ (fun _ k_ => XT.lushr X3.here hx rfl (hb hby d_prog_4_method_2_code_43) rfl k_)
  refine Go.st (T' := T3) (g' := (mkF m 45 #[.val (.ref a1), .val (.long (own_m2 (own_m1 (q1 + (-7046029254386353131 : Int64))))), .second] [(.long ((own_m2 (own_m1 (q1 + (-7046029254386353131 : Int64)))) ^^^ (XT.ushrL (own_m2 (own_m1 (q1 + (-7046029254386353131 : Int64)))) (31 : Int32))))])) ?_ (fun _ k_ => XT.lxor X3.here hx rfl (hb hby d_prog_4_method_2_code_44) rfl k_)
  show Go p e below _ T3 (mkF m 45 #[.val (.ref a1), .val (.long (own_m2 (own_m1 (q1 + (-7046029254386353131 : Int64))))), .second] [(.long (own_mix (q1 + (-7046029254386353131 : Int64))))])
  exact Go.retV (t := .long) X3 hx hret hlk (by decide) (by decide) rfl (Or.inr (Or.inl ⟨rfl, rfl, _, rfl⟩)) (hb hby d_prog_4_method_2_code_45) (by rw [e3]; exact ⟨rfl, N2, (show Keep h0 h2 [a1] from ((Keep.refl _ _).wr W2 (Or.inl (List.mem_of_getElem? (i := 0) rfl)))), (A0.wr W2), (F0.same W2)⟩)
theorem d_method_2_code_0 : decode method_2_code 0 = .ok (.lload_n 0, 1) := by decide +kernel
theorem d_method_2_code_1 : decode method_2_code 1 = .ok (.lstore_n 2, 1) := by decide +kernel
theorem d_method_2_code_2 : decode method_2_code 2 = .ok (.lload_n 2, 1) := by decide +kernel
theorem d_method_2_code_3 : decode method_2_code 3 = .ok (.ldc2_w 7, 3) := by decide +kernel
theorem d_method_2_code_6 : decode method_2_code 6 = .ok (.lload_n 0, 1) := by decide +kernel
theorem d_method_2_code_7 : decode method_2_code 7 = .ok (.lload_n 2, 1) := by decide +kernel
theorem d_method_2_code_8 : decode method_2_code 8 = .ok (.lmul, 1) := by decide +kernel
theorem d_method_2_code_9 : decode method_2_code 9 = .ok (.lsub, 1) := by decide +kernel
theorem d_method_2_code_10 : decode method_2_code 10 = .ok (.lmul, 1) := by decide +kernel
theorem d_method_2_code_11 : decode method_2_code 11 = .ok (.lstore_n 2, 1) := by decide +kernel
theorem d_method_2_code_12 : decode method_2_code 12 = .ok (.lload_n 2, 1) := by decide +kernel
theorem d_method_2_code_13 : decode method_2_code 13 = .ok (.ldc2_w 7, 3) := by decide +kernel
theorem d_method_2_code_16 : decode method_2_code 16 = .ok (.lload_n 0, 1) := by decide +kernel
theorem d_method_2_code_17 : decode method_2_code 17 = .ok (.lload_n 2, 1) := by decide +kernel
theorem d_method_2_code_18 : decode method_2_code 18 = .ok (.lmul, 1) := by decide +kernel
theorem d_method_2_code_19 : decode method_2_code 19 = .ok (.lsub, 1) := by decide +kernel
theorem d_method_2_code_20 : decode method_2_code 20 = .ok (.lmul, 1) := by decide +kernel
theorem d_method_2_code_21 : decode method_2_code 21 = .ok (.lstore_n 2, 1) := by decide +kernel
theorem d_method_2_code_22 : decode method_2_code 22 = .ok (.lload_n 2, 1) := by decide +kernel
theorem d_method_2_code_23 : decode method_2_code 23 = .ok (.ldc2_w 7, 3) := by decide +kernel
theorem d_method_2_code_26 : decode method_2_code 26 = .ok (.lload_n 0, 1) := by decide +kernel
theorem d_method_2_code_27 : decode method_2_code 27 = .ok (.lload_n 2, 1) := by decide +kernel
theorem d_method_2_code_28 : decode method_2_code 28 = .ok (.lmul, 1) := by decide +kernel
theorem d_method_2_code_29 : decode method_2_code 29 = .ok (.lsub, 1) := by decide +kernel
theorem d_method_2_code_30 : decode method_2_code 30 = .ok (.lmul, 1) := by decide +kernel
theorem d_method_2_code_31 : decode method_2_code 31 = .ok (.lstore_n 2, 1) := by decide +kernel
theorem d_method_2_code_32 : decode method_2_code 32 = .ok (.lload_n 2, 1) := by decide +kernel
theorem d_method_2_code_33 : decode method_2_code 33 = .ok (.ldc2_w 7, 3) := by decide +kernel
theorem d_method_2_code_36 : decode method_2_code 36 = .ok (.lload_n 0, 1) := by decide +kernel
theorem d_method_2_code_37 : decode method_2_code 37 = .ok (.lload_n 2, 1) := by decide +kernel
theorem d_method_2_code_38 : decode method_2_code 38 = .ok (.lmul, 1) := by decide +kernel
theorem d_method_2_code_39 : decode method_2_code 39 = .ok (.lsub, 1) := by decide +kernel
theorem d_method_2_code_40 : decode method_2_code 40 = .ok (.lmul, 1) := by decide +kernel
theorem d_method_2_code_41 : decode method_2_code 41 = .ok (.lstore_n 2, 1) := by decide +kernel
theorem d_method_2_code_42 : decode method_2_code 42 = .ok (.lload_n 2, 1) := by decide +kernel
theorem d_method_2_code_43 : decode method_2_code 43 = .ok (.ldc2_w 7, 3) := by decide +kernel
theorem d_method_2_code_46 : decode method_2_code 46 = .ok (.lload_n 0, 1) := by decide +kernel
theorem d_method_2_code_47 : decode method_2_code 47 = .ok (.lload_n 2, 1) := by decide +kernel
theorem d_method_2_code_48 : decode method_2_code 48 = .ok (.lmul, 1) := by decide +kernel
theorem d_method_2_code_49 : decode method_2_code 49 = .ok (.lsub, 1) := by decide +kernel
theorem d_method_2_code_50 : decode method_2_code 50 = .ok (.lmul, 1) := by decide +kernel
theorem d_method_2_code_51 : decode method_2_code 51 = .ok (.lstore_n 2, 1) := by decide +kernel
theorem d_method_2_code_52 : decode method_2_code 52 = .ok (.lload_n 2, 1) := by decide +kernel
theorem d_method_2_code_53 : decode method_2_code 53 = .ok (.lreturn, 1) := by decide +kernel
theorem pn_com_example_amblesim_amblesim_model_RandomSourceNextLongPinLaw : plainName "com/example/amblesim/amblesim/model/RandomSourceNextLongPinLaw" = true := by first | (simp [plainName, overriddenIn]; done) | decide +kernel
set_option maxRecDepth 65536 in
set_option maxHeartbeats 40000000 in
theorem rm3 (l : Launch) (Z : State) (a0 : Array Value) (hw : ∀ d ∈ tables_1, d.before a0 Z = true) (ws : List Jvm.Cond) (q1 : Int64) (h0 : Heap) (n0 : Nat) (Z0 : n0 ≤ h0.size)  :
    Does l (⟨"com/example/amblesim/amblesim/model/RandomSourceNextLongPinLaw", "inv", "(J)J"⟩ : MethodName) method_2_code 4 (some .long) ws ({ frames := 0, cells := 0, slots := 0, locals := 0 } : Room) #[(.long q1)] Z h0 (fun v h L => v = some (.long (own_inv q1)) ∧ Fr n0 L ∧ h = h0) := by
  refine Does.of (plainFor_of_name pn_com_example_amblesim_amblesim_model_RandomSourceNextLongPinLaw) ?_
  intro p e s m below meth c s₁ hx hby hml hret hlk hown0 hnm hZ X0 e0
  have hown : s.vm.findClass "com/example/amblesim/amblesim/model/RandomSourceNextLongPinLaw" = some m.cls := hown0
  have N0 := Fr.nil n0
  refine Go.cast (g' := (mkF m 0 #[.val (.long q1), .second, .unset, .unset] [])) (by first | rfl | (simp [entryFrame, mkF, argsToLocals, Value.category, maxLocals]; done)) ?_
  refine Go.st (T' := s₁) (g' := (mkF m 1 #[.val (.long q1), .second, .unset, .unset] [(.long q1)])) ?_ (fun _ k_ => XT.lloadN X0.here hx rfl (hb hby d_method_2_code_0) rfl k_)
  refine Go.st (T' := s₁) (g' := (mkF m 2 #[.val (.long q1), .second, .val (.long q1), .second] [])) ?_ (fun _ k_ => XT.lstoreN X0.here hx rfl (hb hby d_method_2_code_1) rfl (l' := #[.val (.long q1), .second, .val (.long q1), .second]) rfl k_)
  refine Go.st (T' := s₁) (g' := (mkF m 3 #[.val (.long q1), .second, .val (.long q1), .second] [(.long q1)])) ?_ (fun _ k_ => XT.lloadN X0.here hx rfl (hb hby d_method_2_code_2) rfl k_)
  refine Go.st (T' := s₁) (g' := (mkF m 6 #[.val (.long q1), .second, .val (.long q1), .second] [(.long (2 : Int64)), (.long q1)])) ?_ (fun _ k_ => X0.ldc2J hx hown (mvT hZ (hw _ (List.mem_of_getElem? (i := 28) rfl))) rfl (hb hby d_method_2_code_3) k_)
  refine Go.st (T' := s₁) (g' := (mkF m 7 #[.val (.long q1), .second, .val (.long q1), .second] [(.long q1), (.long (2 : Int64)), (.long q1)])) ?_ (fun _ k_ => XT.lloadN X0.here hx rfl (hb hby d_method_2_code_6) rfl k_)
  refine Go.st (T' := s₁) (g' := (mkF m 8 #[.val (.long q1), .second, .val (.long q1), .second] [(.long q1), (.long q1), (.long (2 : Int64)), (.long q1)])) ?_ (fun _ k_ => XT.lloadN X0.here hx rfl (hb hby d_method_2_code_7) rfl k_)
  refine Go.st (T' := s₁) (g' := (mkF m 9 #[.val (.long q1), .second, .val (.long q1), .second] [(.long (q1 * q1)), (.long (2 : Int64)), (.long q1)])) ?_ (fun _ k_ => XT.lmul X0.here hx rfl (hb hby d_method_2_code_8) rfl k_)
  refine Go.st (T' := s₁) (g' := (mkF m 10 #[.val (.long q1), .second, .val (.long q1), .second] [(.long ((2 : Int64) - (q1 * q1))), (.long q1)])) ?_ (fun _ k_ => XT.lsub X0.here hx rfl (hb hby d_method_2_code_9) rfl k_)
  refine Go.st (T' := s₁) (g' := (mkF m 11 #[.val (.long q1), .second, .val (.long q1), .second] [(.long (q1 * ((2 : Int64) - (q1 * q1))))])) ?_ (fun _ k_ => XT.lmul X0.here hx rfl (hb hby d_method_2_code_10) rfl k_)
  show Go p e below _ s₁ (mkF m 11 #[.val (.long q1), .second, .val (.long q1), .second] [(.long (own_st q1 q1))])
  refine Go.st (T' := s₁) (g' := (mkF m 12 #[.val (.long q1), .second, .val (.long (own_st q1 q1)), .second] [])) ?_ (fun _ k_ => XT.lstoreN X0.here hx rfl (hb hby d_method_2_code_11) rfl (l' := #[.val (.long q1), .second, .val (.long (own_st q1 q1)), .second]) rfl k_)
  refine Go.st (T' := s₁) (g' := (mkF m 13 #[.val (.long q1), .second, .val (.long (own_st q1 q1)), .second] [(.long (own_st q1 q1))])) ?_ (fun _ k_ => XT.lloadN X0.here hx rfl (hb hby d_method_2_code_12) rfl k_)
  refine Go.st (T' := s₁) (g' := (mkF m 16 #[.val (.long q1), .second, .val (.long (own_st q1 q1)), .second] [(.long (2 : Int64)), (.long (own_st q1 q1))])) ?_ (fun _ k_ => X0.ldc2J hx hown (mvT hZ (hw _ (List.mem_of_getElem? (i := 28) rfl))) rfl (hb hby d_method_2_code_13) k_)
  refine Go.st (T' := s₁) (g' := (mkF m 17 #[.val (.long q1), .second, .val (.long (own_st q1 q1)), .second] [(.long q1), (.long (2 : Int64)), (.long (own_st q1 q1))])) ?_ (fun _ k_ => XT.lloadN X0.here hx rfl (hb hby d_method_2_code_16) rfl k_)
  refine Go.st (T' := s₁) (g' := (mkF m 18 #[.val (.long q1), .second, .val (.long (own_st q1 q1)), .second] [(.long (own_st q1 q1)), (.long q1), (.long (2 : Int64)), (.long (own_st q1 q1))])) ?_ (fun _ k_ => XT.lloadN X0.here hx rfl (hb hby d_method_2_code_17) rfl k_)
  refine Go.st (T' := s₁) (g' := (mkF m 19 #[.val (.long q1), .second, .val (.long (own_st q1 q1)), .second] [(.long (q1 * (own_st q1 q1))), (.long (2 : Int64)), (.long (own_st q1 q1))])) ?_ (fun _ k_ => XT.lmul X0.here hx rfl (hb hby d_method_2_code_18) rfl k_)
  refine Go.st (T' := s₁) (g' := (mkF m 20 #[.val (.long q1), .second, .val (.long (own_st q1 q1)), .second] [(.long ((2 : Int64) - (q1 * (own_st q1 q1)))), (.long (own_st q1 q1))])) ?_ (fun _ k_ => XT.lsub X0.here hx rfl (hb hby d_method_2_code_19) rfl k_)
  refine Go.st (T' := s₁) (g' := (mkF m 21 #[.val (.long q1), .second, .val (.long (own_st q1 q1)), .second] [(.long ((own_st q1 q1) * ((2 : Int64) - (q1 * (own_st q1 q1)))))])) ?_ (fun _ k_ => XT.lmul X0.here hx rfl (hb hby d_method_2_code_20) rfl k_)
  show Go p e below _ s₁ (mkF m 21 #[.val (.long q1), .second, .val (.long (own_st q1 q1)), .second] [(.long (own_st q1 (own_st q1 q1)))])
  refine Go.st (T' := s₁) (g' := (mkF m 22 #[.val (.long q1), .second, .val (.long (own_st q1 (own_st q1 q1))), .second] [])) ?_ (fun _ k_ => XT.lstoreN X0.here hx rfl (hb hby d_method_2_code_21) rfl (l' := #[.val (.long q1), .second, .val (.long (own_st q1 (own_st q1 q1))), .second]) rfl k_)
  refine Go.st (T' := s₁) (g' := (mkF m 23 #[.val (.long q1), .second, .val (.long (own_st q1 (own_st q1 q1))), .second] [(.long (own_st q1 (own_st q1 q1)))])) ?_ (fun _ k_ => XT.lloadN X0.here hx rfl (hb hby d_method_2_code_22) rfl k_)
  refine Go.st (T' := s₁) (g' := (mkF m 26 #[.val (.long q1), .second, .val (.long (own_st q1 (own_st q1 q1))), .second] [(.long (2 : Int64)), (.long (own_st q1 (own_st q1 q1)))])) ?_ (fun _ k_ => X0.ldc2J hx hown (mvT hZ (hw _ (List.mem_of_getElem? (i := 28) rfl))) rfl (hb hby d_method_2_code_23) k_)
  refine Go.st (T' := s₁) (g' := (mkF m 27 #[.val (.long q1), .second, .val (.long (own_st q1 (own_st q1 q1))), .second] [(.long q1), (.long (2 : Int64)), (.long (own_st q1 (own_st q1 q1)))])) ?_ (fun _ k_ => XT.lloadN X0.here hx rfl (hb hby d_method_2_code_26) rfl k_)
  refine Go.st (T' := s₁) (g' := (mkF m 28 #[.val (.long q1), .second, .val (.long (own_st q1 (own_st q1 q1))), .second] [(.long (own_st q1 (own_st q1 q1))), (.long q1), (.long (2 : Int64)), (.long (own_st q1 (own_st q1 q1)))])) ?_ (fun _ k_ => XT.lloadN X0.here hx rfl (hb hby d_method_2_code_27) rfl k_)
  refine Go.st (T' := s₁) (g' := (mkF m 29 #[.val (.long q1), .second, .val (.long (own_st q1 (own_st q1 q1))), .second] [(.long (q1 * (own_st q1 (own_st q1 q1)))), (.long (2 : Int64)), (.long (own_st q1 (own_st q1 q1)))])) ?_ (fun _ k_ => XT.lmul X0.here hx rfl (hb hby d_method_2_code_28) rfl k_)
  refine Go.st (T' := s₁) (g' := (mkF m 30 #[.val (.long q1), .second, .val (.long (own_st q1 (own_st q1 q1))), .second] [(.long ((2 : Int64) - (q1 * (own_st q1 (own_st q1 q1))))), (.long (own_st q1 (own_st q1 q1)))])) ?_ (fun _ k_ => XT.lsub X0.here hx rfl (hb hby d_method_2_code_29) rfl k_)
  refine Go.st (T' := s₁) (g' := (mkF m 31 #[.val (.long q1), .second, .val (.long (own_st q1 (own_st q1 q1))), .second] [(.long ((own_st q1 (own_st q1 q1)) * ((2 : Int64) - (q1 * (own_st q1 (own_st q1 q1))))))])) ?_ (fun _ k_ => XT.lmul X0.here hx rfl (hb hby d_method_2_code_30) rfl k_)
  show Go p e below _ s₁ (mkF m 31 #[.val (.long q1), .second, .val (.long (own_st q1 (own_st q1 q1))), .second] [(.long (own_st q1 (own_st q1 (own_st q1 q1))))])
  refine Go.st (T' := s₁) (g' := (mkF m 32 #[.val (.long q1), .second, .val (.long (own_st q1 (own_st q1 (own_st q1 q1)))), .second] [])) ?_ (fun _ k_ => XT.lstoreN X0.here hx rfl (hb hby d_method_2_code_31) rfl (l' := #[.val (.long q1), .second, .val (.long (own_st q1 (own_st q1 (own_st q1 q1)))), .second]) rfl k_)
  refine Go.st (T' := s₁) (g' := (mkF m 33 #[.val (.long q1), .second, .val (.long (own_st q1 (own_st q1 (own_st q1 q1)))), .second] [(.long (own_st q1 (own_st q1 (own_st q1 q1))))])) ?_ (fun _ k_ => XT.lloadN X0.here hx rfl (hb hby d_method_2_code_32) rfl k_)
  refine Go.st (T' := s₁) (g' := (mkF m 36 #[.val (.long q1), .second, .val (.long (own_st q1 (own_st q1 (own_st q1 q1)))), .second] [(.long (2 : Int64)), (.long (own_st q1 (own_st q1 (own_st q1 q1))))])) ?_ (fun _ k_ => X0.ldc2J hx hown (mvT hZ (hw _ (List.mem_of_getElem? (i := 28) rfl))) rfl (hb hby d_method_2_code_33) k_)
  refine Go.st (T' := s₁) (g' := (mkF m 37 #[.val (.long q1), .second, .val (.long (own_st q1 (own_st q1 (own_st q1 q1)))), .second] [(.long q1), (.long (2 : Int64)), (.long (own_st q1 (own_st q1 (own_st q1 q1))))])) ?_ (fun _ k_ => XT.lloadN X0.here hx rfl (hb hby d_method_2_code_36) rfl k_)
  refine Go.st (T' := s₁) (g' := (mkF m 38 #[.val (.long q1), .second, .val (.long (own_st q1 (own_st q1 (own_st q1 q1)))), .second] [(.long (own_st q1 (own_st q1 (own_st q1 q1)))), (.long q1), (.long (2 : Int64)), (.long (own_st q1 (own_st q1 (own_st q1 q1))))])) ?_ (fun _ k_ => XT.lloadN X0.here hx rfl (hb hby d_method_2_code_37) rfl k_)
  refine Go.st (T' := s₁) (g' := (mkF m 39 #[.val (.long q1), .second, .val (.long (own_st q1 (own_st q1 (own_st q1 q1)))), .second] [(.long (q1 * (own_st q1 (own_st q1 (own_st q1 q1))))), (.long (2 : Int64)), (.long (own_st q1 (own_st q1 (own_st q1 q1))))])) ?_ (fun _ k_ => XT.lmul X0.here hx rfl (hb hby d_method_2_code_38) rfl k_)
  refine Go.st (T' := s₁) (g' := (mkF m 40 #[.val (.long q1), .second, .val (.long (own_st q1 (own_st q1 (own_st q1 q1)))), .second] [(.long ((2 : Int64) - (q1 * (own_st q1 (own_st q1 (own_st q1 q1)))))), (.long (own_st q1 (own_st q1 (own_st q1 q1))))])) ?_ (fun _ k_ => XT.lsub X0.here hx rfl (hb hby d_method_2_code_39) rfl k_)
  refine Go.st (T' := s₁) (g' := (mkF m 41 #[.val (.long q1), .second, .val (.long (own_st q1 (own_st q1 (own_st q1 q1)))), .second] [(.long ((own_st q1 (own_st q1 (own_st q1 q1))) * ((2 : Int64) - (q1 * (own_st q1 (own_st q1 (own_st q1 q1)))))))])) ?_ (fun _ k_ => XT.lmul X0.here hx rfl (hb hby d_method_2_code_40) rfl k_)
  show Go p e below _ s₁ (mkF m 41 #[.val (.long q1), .second, .val (.long (own_st q1 (own_st q1 (own_st q1 q1)))), .second] [(.long (own_st q1 (own_st q1 (own_st q1 (own_st q1 q1)))))])
  refine Go.st (T' := s₁) (g' := (mkF m 42 #[.val (.long q1), .second, .val (.long (own_st q1 (own_st q1 (own_st q1 (own_st q1 q1))))), .second] [])) ?_ (fun _ k_ => XT.lstoreN X0.here hx rfl (hb hby d_method_2_code_41) rfl (l' := #[.val (.long q1), .second, .val (.long (own_st q1 (own_st q1 (own_st q1 (own_st q1 q1))))), .second]) rfl k_)
  refine Go.st (T' := s₁) (g' := (mkF m 43 #[.val (.long q1), .second, .val (.long (own_st q1 (own_st q1 (own_st q1 (own_st q1 q1))))), .second] [(.long (own_st q1 (own_st q1 (own_st q1 (own_st q1 q1)))))])) ?_ (fun _ k_ => XT.lloadN X0.here hx rfl (hb hby d_method_2_code_42) rfl k_)
  refine Go.st (T' := s₁) (g' := (mkF m 46 #[.val (.long q1), .second, .val (.long (own_st q1 (own_st q1 (own_st q1 (own_st q1 q1))))), .second] [(.long (2 : Int64)), (.long (own_st q1 (own_st q1 (own_st q1 (own_st q1 q1)))))])) ?_ (fun _ k_ => X0.ldc2J hx hown (mvT hZ (hw _ (List.mem_of_getElem? (i := 28) rfl))) rfl (hb hby d_method_2_code_43) k_)
  refine Go.st (T' := s₁) (g' := (mkF m 47 #[.val (.long q1), .second, .val (.long (own_st q1 (own_st q1 (own_st q1 (own_st q1 q1))))), .second] [(.long q1), (.long (2 : Int64)), (.long (own_st q1 (own_st q1 (own_st q1 (own_st q1 q1)))))])) ?_ (fun _ k_ => XT.lloadN X0.here hx rfl (hb hby d_method_2_code_46) rfl k_)
  refine Go.st (T' := s₁) (g' := (mkF m 48 #[.val (.long q1), .second, .val (.long (own_st q1 (own_st q1 (own_st q1 (own_st q1 q1))))), .second] [(.long (own_st q1 (own_st q1 (own_st q1 (own_st q1 q1))))), (.long q1), (.long (2 : Int64)), (.long (own_st q1 (own_st q1 (own_st q1 (own_st q1 q1)))))])) ?_ (fun _ k_ => XT.lloadN X0.here hx rfl (hb hby d_method_2_code_47) rfl k_)
  refine Go.st (T' := s₁) (g' := (mkF m 49 #[.val (.long q1), .second, .val (.long (own_st q1 (own_st q1 (own_st q1 (own_st q1 q1))))), .second] [(.long (q1 * (own_st q1 (own_st q1 (own_st q1 (own_st q1 q1)))))), (.long (2 : Int64)), (.long (own_st q1 (own_st q1 (own_st q1 (own_st q1 q1)))))])) ?_ (fun _ k_ => XT.lmul X0.here hx rfl (hb hby d_method_2_code_48) rfl k_)
  refine Go.st (T' := s₁) (g' := (mkF m 50 #[.val (.long q1), .second, .val (.long (own_st q1 (own_st q1 (own_st q1 (own_st q1 q1))))), .second] [(.long ((2 : Int64) - (q1 * (own_st q1 (own_st q1 (own_st q1 (own_st q1 q1))))))), (.long (own_st q1 (own_st q1 (own_st q1 (own_st q1 q1)))))])) ?_ (fun _ k_ => XT.lsub X0.here hx rfl (hb hby d_method_2_code_49) rfl k_)
  refine Go.st (T' := s₁) (g' := (mkF m 51 #[.val (.long q1), .second, .val (.long (own_st q1 (own_st q1 (own_st q1 (own_st q1 q1))))), .second] [(.long ((own_st q1 (own_st q1 (own_st q1 (own_st q1 q1)))) * ((2 : Int64) - (q1 * (own_st q1 (own_st q1 (own_st q1 (own_st q1 q1))))))))])) ?_ (fun _ k_ => XT.lmul X0.here hx rfl (hb hby d_method_2_code_50) rfl k_)
  show Go p e below _ s₁ (mkF m 51 #[.val (.long q1), .second, .val (.long (own_st q1 (own_st q1 (own_st q1 (own_st q1 q1))))), .second] [(.long (own_st q1 (own_st q1 (own_st q1 (own_st q1 (own_st q1 q1))))))])
  refine Go.st (T' := s₁) (g' := (mkF m 52 #[.val (.long q1), .second, .val (.long (own_st q1 (own_st q1 (own_st q1 (own_st q1 (own_st q1 q1)))))), .second] [])) ?_ (fun _ k_ => XT.lstoreN X0.here hx rfl (hb hby d_method_2_code_51) rfl (l' := #[.val (.long q1), .second, .val (.long (own_st q1 (own_st q1 (own_st q1 (own_st q1 (own_st q1 q1)))))), .second]) rfl k_)
  refine Go.st (T' := s₁) (g' := (mkF m 53 #[.val (.long q1), .second, .val (.long (own_st q1 (own_st q1 (own_st q1 (own_st q1 (own_st q1 q1)))))), .second] [(.long (own_st q1 (own_st q1 (own_st q1 (own_st q1 (own_st q1 q1))))))])) ?_ (fun _ k_ => XT.lloadN X0.here hx rfl (hb hby d_method_2_code_52) rfl k_)
  show Go p e below _ s₁ (mkF m 53 #[.val (.long q1), .second, .val (.long (own_st q1 (own_st q1 (own_st q1 (own_st q1 (own_st q1 q1)))))), .second] [(.long (own_inv q1))])
  exact Go.retV (t := .long) X0 hx hret hlk (by decide) (by decide) rfl (Or.inr (Or.inl ⟨rfl, rfl, _, rfl⟩)) (hb hby d_method_2_code_53) ⟨rfl, N0, e0⟩
theorem d_method_3_code_0 : decode method_3_code 0 = .ok (.lload_n 0, 1) := by decide +kernel
theorem d_method_3_code_1 : decode method_3_code 1 = .ok (.lload_n 0, 1) := by decide +kernel
theorem d_method_3_code_2 : decode method_3_code 2 = .ok (.bipush 31, 2) := by decide +kernel
theorem d_method_3_code_4 : decode method_3_code 4 = .ok (.lushr, 1) := by decide +kernel
theorem d_method_3_code_5 : decode method_3_code 5 = .ok (.lxor, 1) := by decide +kernel
theorem d_method_3_code_6 : decode method_3_code 6 = .ok (.lload_n 0, 1) := by decide +kernel
theorem d_method_3_code_7 : decode method_3_code 7 = .ok (.bipush 62, 2) := by decide +kernel
theorem d_method_3_code_9 : decode method_3_code 9 = .ok (.lushr, 1) := by decide +kernel
theorem d_method_3_code_10 : decode method_3_code 10 = .ok (.lxor, 1) := by decide +kernel
theorem d_method_3_code_11 : decode method_3_code 11 = .ok (.lstore_n 0, 1) := by decide +kernel
theorem d_method_3_code_12 : decode method_3_code 12 = .ok (.lload_n 0, 1) := by decide +kernel
theorem d_method_3_code_13 : decode method_3_code 13 = .ok (.ldc2_w 9, 3) := by decide +kernel
theorem d_method_3_code_16 : decode method_3_code 16 = .ok (.invokestatic 11, 3) := by decide +kernel
theorem pd__J_J : parseMethodDescriptor "(J)J" = some ⟨[.long], some .long⟩ := by decide +kernel
theorem d_method_3_code_19 : decode method_3_code 19 = .ok (.lmul, 1) := by decide +kernel
theorem d_method_3_code_20 : decode method_3_code 20 = .ok (.lstore_n 0, 1) := by decide +kernel
theorem d_method_3_code_21 : decode method_3_code 21 = .ok (.lload_n 0, 1) := by decide +kernel
theorem d_method_3_code_22 : decode method_3_code 22 = .ok (.lload_n 0, 1) := by decide +kernel
theorem d_method_3_code_23 : decode method_3_code 23 = .ok (.bipush 27, 2) := by decide +kernel
theorem d_method_3_code_25 : decode method_3_code 25 = .ok (.lushr, 1) := by decide +kernel
theorem d_method_3_code_26 : decode method_3_code 26 = .ok (.lxor, 1) := by decide +kernel
theorem d_method_3_code_27 : decode method_3_code 27 = .ok (.lload_n 0, 1) := by decide +kernel
theorem d_method_3_code_28 : decode method_3_code 28 = .ok (.bipush 54, 2) := by decide +kernel
theorem d_method_3_code_30 : decode method_3_code 30 = .ok (.lushr, 1) := by decide +kernel
theorem d_method_3_code_31 : decode method_3_code 31 = .ok (.lxor, 1) := by decide +kernel
theorem d_method_3_code_32 : decode method_3_code 32 = .ok (.lstore_n 0, 1) := by decide +kernel
theorem d_method_3_code_33 : decode method_3_code 33 = .ok (.lload_n 0, 1) := by decide +kernel
theorem d_method_3_code_34 : decode method_3_code 34 = .ok (.ldc2_w 17, 3) := by decide +kernel
theorem d_method_3_code_37 : decode method_3_code 37 = .ok (.invokestatic 11, 3) := by decide +kernel
theorem d_method_3_code_40 : decode method_3_code 40 = .ok (.lmul, 1) := by decide +kernel
theorem d_method_3_code_41 : decode method_3_code 41 = .ok (.lstore_n 0, 1) := by decide +kernel
theorem d_method_3_code_42 : decode method_3_code 42 = .ok (.lload_n 0, 1) := by decide +kernel
theorem d_method_3_code_43 : decode method_3_code 43 = .ok (.lload_n 0, 1) := by decide +kernel
theorem d_method_3_code_44 : decode method_3_code 44 = .ok (.bipush 30, 2) := by decide +kernel
theorem d_method_3_code_46 : decode method_3_code 46 = .ok (.lushr, 1) := by decide +kernel
theorem d_method_3_code_47 : decode method_3_code 47 = .ok (.lxor, 1) := by decide +kernel
theorem d_method_3_code_48 : decode method_3_code 48 = .ok (.lload_n 0, 1) := by decide +kernel
theorem d_method_3_code_49 : decode method_3_code 49 = .ok (.bipush 60, 2) := by decide +kernel
theorem d_method_3_code_51 : decode method_3_code 51 = .ok (.lushr, 1) := by decide +kernel
theorem d_method_3_code_52 : decode method_3_code 52 = .ok (.lxor, 1) := by decide +kernel
theorem d_method_3_code_53 : decode method_3_code 53 = .ok (.lstore_n 0, 1) := by decide +kernel
theorem d_method_3_code_54 : decode method_3_code 54 = .ok (.lload_n 0, 1) := by decide +kernel
theorem d_method_3_code_55 : decode method_3_code 55 = .ok (.lreturn, 1) := by decide +kernel
set_option maxRecDepth 65536 in
set_option maxHeartbeats 40000000 in
theorem rm4 (l : Launch) (Z : State) (a0 : Array Value) (hw : ∀ d ∈ tables_1, d.before a0 Z = true) (ws : List Jvm.Cond) (q1 : Int64) (h0 : Heap) (n0 : Nat) (Z0 : n0 ≤ h0.size)  :
    Does l (⟨"com/example/amblesim/amblesim/model/RandomSourceNextLongPinLaw", "unmix", "(J)J"⟩ : MethodName) method_3_code 2 (some .long) ws ({ frames := 1, cells := 0, slots := 0, locals := 17 } : Room) #[(.long q1)] Z h0 (fun v h L => v = some (.long (own_unmix q1)) ∧ Fr n0 L ∧ h = h0) := by
  refine Does.of (plainFor_of_name pn_com_example_amblesim_amblesim_model_RandomSourceNextLongPinLaw) ?_
  intro p e s m below meth c s₁ hx hby hml hret hlk hown0 hnm hZ X0 e0
  have hown : s.vm.findClass "com/example/amblesim/amblesim/model/RandomSourceNextLongPinLaw" = some m.cls := hown0
  have N0 := Fr.nil n0
  refine Go.cast (g' := (mkF m 0 #[.val (.long q1), .second] [])) (by first | rfl | (simp [entryFrame, mkF, argsToLocals, Value.category, maxLocals]; done)) ?_
  refine Go.st (T' := s₁) (g' := (mkF m 1 #[.val (.long q1), .second] [(.long q1)])) ?_ (fun _ k_ => XT.lloadN X0.here hx rfl (hb hby d_method_3_code_0) rfl k_)
  refine Go.st (T' := s₁) (g' := (mkF m 2 #[.val (.long q1), .second] [(.long q1), (.long q1)])) ?_ (fun _ k_ => XT.lloadN X0.here hx rfl (hb hby d_method_3_code_1) rfl k_)
  refine Go.st (T' := s₁) (g' := (mkF m 4 #[.val (.long q1), .second] [(.int (31 : Int32)), (.long q1), (.long q1)])) ?_ (fun _ k_ => XT.bipushV X0.here hx rfl (31 : Int32) (hb hby d_method_3_code_2) (by decide) k_)
  refine Go.st (T' := s₁) (g' := (mkF m 5 #[.val (.long q1), .second] [(.long (XT.ushrL q1 (31 : Int32))), (.long q1)])) ?_ (fun _ k_ => XT.lushr X0.here hx rfl (hb hby d_method_3_code_4) rfl k_)
  refine Go.st (T' := s₁) (g' := (mkF m 6 #[.val (.long q1), .second] [(.long (q1 ^^^ (XT.ushrL q1 (31 : Int32))))])) ?_ (fun _ k_ => XT.lxor X0.here hx rfl (hb hby d_method_3_code_5) rfl k_)
  refine Go.st (T' := s₁) (g' := (mkF m 7 #[.val (.long q1), .second] [(.long q1), (.long (q1 ^^^ (XT.ushrL q1 (31 : Int32))))])) ?_ (fun _ k_ => XT.lloadN X0.here hx rfl (hb hby d_method_3_code_6) rfl k_)
  refine Go.st (T' := s₁) (g' := (mkF m 9 #[.val (.long q1), .second] [(.int (62 : Int32)), (.long q1), (.long (q1 ^^^ (XT.ushrL q1 (31 : Int32))))])) ?_ (fun _ k_ => XT.bipushV X0.here hx rfl (62 : Int32) (hb hby d_method_3_code_7) (by decide) k_)
  refine Go.st (T' := s₁) (g' := (mkF m 10 #[.val (.long q1), .second] [(.long (XT.ushrL q1 (62 : Int32))), (.long (q1 ^^^ (XT.ushrL q1 (31 : Int32))))])) ?_ (fun _ k_ => XT.lushr X0.here hx rfl (hb hby d_method_3_code_9) rfl k_)
  refine Go.st (T' := s₁) (g' := (mkF m 11 #[.val (.long q1), .second] [(.long ((q1 ^^^ (XT.ushrL q1 (31 : Int32))) ^^^ (XT.ushrL q1 (62 : Int32))))])) ?_ (fun _ k_ => XT.lxor X0.here hx rfl (hb hby d_method_3_code_10) rfl k_)
  show Go p e below _ s₁ (mkF m 11 #[.val (.long q1), .second] [(.long (own_u1 q1))])
  refine Go.st (T' := s₁) (g' := (mkF m 12 #[.val (.long (own_u1 q1)), .second] [])) ?_ (fun _ k_ => XT.lstoreN X0.here hx rfl (hb hby d_method_3_code_11) rfl (l' := #[.val (.long (own_u1 q1)), .second]) rfl k_)
  refine Go.st (T' := s₁) (g' := (mkF m 13 #[.val (.long (own_u1 q1)), .second] [(.long (own_u1 q1))])) ?_ (fun _ k_ => XT.lloadN X0.here hx rfl (hb hby d_method_3_code_12) rfl k_)
  refine Go.st (T' := s₁) (g' := (mkF m 16 #[.val (.long (own_u1 q1)), .second] [(.long (-7723592293110705685 : Int64)), (.long (own_u1 q1))])) ?_ (fun _ k_ => X0.ldc2J hx hown (mvT hZ (hw _ (List.mem_of_getElem? (i := 24) rfl))) rfl (hb hby d_method_3_code_13) k_)
  refine Go.callS X0 hx hZ hown (hw _ (List.mem_of_getElem? (i := 25) rfl)) (hw _ (List.mem_of_getElem? (i := 26) rfl)) (hw _ (List.mem_of_getElem? (i := 22) rfl)) (hw _ (List.mem_of_getElem? (i := 27) rfl)) (by decide) (rm3 l Z a0 hw [] (-7723592293110705685 : Int64) h0 n0 Z0) e0 (by decide) (W := 2) (by decide) (by decide) (by decide) (g := (mkF m 16 #[.val (.long (own_u1 q1)), .second] [(.long (-7723592293110705685 : Int64)), (.long (own_u1 q1))])) (rest := [(.long (own_u1 q1))]) rfl (by rw [hml]; rfl) (lenOf pd__J_J rfl) rfl (by show 2 * 0 + _ ≤ _; exact Nat.le_of_eq rfl) (hb hby d_method_3_code_16) ?_
  rintro v1 T1 L1 X1 ⟨rfl, N1, e1⟩
  have M1 := Fr.app N0 N1
  show Go p e below _ T1 (mkF m 19 #[.val (.long (own_u1 q1)), .second] [(.long (own_inv (-7723592293110705685 : Int64))), (.long (own_u1 q1))])
  refine Go.st (T' := T1) (g' := (mkF m 20 #[.val (.long (own_u1 q1)), .second] [(.long ((own_u1 q1) * (own_inv (-7723592293110705685 : Int64))))])) ?_ (fun _ k_ => XT.lmul X1.here hx rfl (hb hby d_method_3_code_19) rfl k_)
  refine Go.st (T' := T1) (g' := (mkF m 21 #[.val (.long ((own_u1 q1) * (own_inv (-7723592293110705685 : Int64)))), .second] [])) ?_ (fun _ k_ => XT.lstoreN X1.here hx rfl (hb hby d_method_3_code_20) rfl (l' := #[.val (.long ((own_u1 q1) * (own_inv (-7723592293110705685 : Int64)))), .second]) rfl k_)
  refine Go.st (T' := T1) (g' := (mkF m 22 #[.val (.long ((own_u1 q1) * (own_inv (-7723592293110705685 : Int64)))), .second] [(.long ((own_u1 q1) * (own_inv (-7723592293110705685 : Int64))))])) ?_ (fun _ k_ => XT.lloadN X1.here hx rfl (hb hby d_method_3_code_21) rfl k_)
  refine Go.st (T' := T1) (g' := (mkF m 23 #[.val (.long ((own_u1 q1) * (own_inv (-7723592293110705685 : Int64)))), .second] [(.long ((own_u1 q1) * (own_inv (-7723592293110705685 : Int64)))), (.long ((own_u1 q1) * (own_inv (-7723592293110705685 : Int64))))])) ?_ (fun _ k_ => XT.lloadN X1.here hx rfl (hb hby d_method_3_code_22) rfl k_)
  refine Go.st (T' := T1) (g' := (mkF m 25 #[.val (.long ((own_u1 q1) * (own_inv (-7723592293110705685 : Int64)))), .second] [(.int (27 : Int32)), (.long ((own_u1 q1) * (own_inv (-7723592293110705685 : Int64)))), (.long ((own_u1 q1) * (own_inv (-7723592293110705685 : Int64))))])) ?_ (fun _ k_ => XT.bipushV X1.here hx rfl (27 : Int32) (hb hby d_method_3_code_23) (by decide) k_)
  refine Go.st (T' := T1) (g' := (mkF m 26 #[.val (.long ((own_u1 q1) * (own_inv (-7723592293110705685 : Int64)))), .second] [(.long (XT.ushrL ((own_u1 q1) * (own_inv (-7723592293110705685 : Int64))) (27 : Int32))), (.long ((own_u1 q1) * (own_inv (-7723592293110705685 : Int64))))])) ?_ (fun _ k_ => XT.lushr X1.here hx rfl (hb hby d_method_3_code_25) rfl k_)
  refine Go.st (T' := T1) (g' := (mkF m 27 #[.val (.long ((own_u1 q1) * (own_inv (-7723592293110705685 : Int64)))), .second] [(.long (((own_u1 q1) * (own_inv (-7723592293110705685 : Int64))) ^^^ (XT.ushrL ((own_u1 q1) * (own_inv (-7723592293110705685 : Int64))) (27 : Int32))))])) ?_ (fun _ k_ => XT.lxor X1.here hx rfl (hb hby d_method_3_code_26) rfl k_)
  refine Go.st (T' := T1) (g' := (mkF m 28 #[.val (.long ((own_u1 q1) * (own_inv (-7723592293110705685 : Int64)))), .second] [(.long ((own_u1 q1) * (own_inv (-7723592293110705685 : Int64)))), (.long (((own_u1 q1) * (own_inv (-7723592293110705685 : Int64))) ^^^ (XT.ushrL ((own_u1 q1) * (own_inv (-7723592293110705685 : Int64))) (27 : Int32))))])) ?_ (fun _ k_ => XT.lloadN X1.here hx rfl (hb hby d_method_3_code_27) rfl k_)
  refine Go.st (T' := T1) (g' := (mkF m 30 #[.val (.long ((own_u1 q1) * (own_inv (-7723592293110705685 : Int64)))), .second] [(.int (54 : Int32)), (.long ((own_u1 q1) * (own_inv (-7723592293110705685 : Int64)))), (.long (((own_u1 q1) * (own_inv (-7723592293110705685 : Int64))) ^^^ (XT.ushrL ((own_u1 q1) * (own_inv (-7723592293110705685 : Int64))) (27 : Int32))))])) ?_ (fun _ k_ => XT.bipushV X1.here hx rfl (54 : Int32) (hb hby d_method_3_code_28) (by decide) k_)
  refine Go.st (T' := T1) (g' := (mkF m 31 #[.val (.long ((own_u1 q1) * (own_inv (-7723592293110705685 : Int64)))), .second] [(.long (XT.ushrL ((own_u1 q1) * (own_inv (-7723592293110705685 : Int64))) (54 : Int32))), (.long (((own_u1 q1) * (own_inv (-7723592293110705685 : Int64))) ^^^ (XT.ushrL ((own_u1 q1) * (own_inv (-7723592293110705685 : Int64))) (27 : Int32))))])) ?_ (fun _ k_ => XT.lushr X1.here hx rfl (hb hby d_method_3_code_30) rfl k_)
  refine Go.st (T' := T1) (g' := (mkF m 32 #[.val (.long ((own_u1 q1) * (own_inv (-7723592293110705685 : Int64)))), .second] [(.long ((((own_u1 q1) * (own_inv (-7723592293110705685 : Int64))) ^^^ (XT.ushrL ((own_u1 q1) * (own_inv (-7723592293110705685 : Int64))) (27 : Int32))) ^^^ (XT.ushrL ((own_u1 q1) * (own_inv (-7723592293110705685 : Int64))) (54 : Int32))))])) ?_ (fun _ k_ => XT.lxor X1.here hx rfl (hb hby d_method_3_code_31) rfl k_)
  show Go p e below _ T1 (mkF m 32 #[.val (.long ((own_u1 q1) * (own_inv (-7723592293110705685 : Int64)))), .second] [(.long (own_u2 (own_u1 q1 * own_inv (-7723592293110705685 : Int64))))])
  refine Go.st (T' := T1) (g' := (mkF m 33 #[.val (.long (own_u2 (own_u1 q1 * own_inv (-7723592293110705685 : Int64)))), .second] [])) ?_ (fun _ k_ => XT.lstoreN X1.here hx rfl (hb hby d_method_3_code_32) rfl (l' := #[.val (.long (own_u2 (own_u1 q1 * own_inv (-7723592293110705685 : Int64)))), .second]) rfl k_)
  refine Go.st (T' := T1) (g' := (mkF m 34 #[.val (.long (own_u2 (own_u1 q1 * own_inv (-7723592293110705685 : Int64)))), .second] [(.long (own_u2 (own_u1 q1 * own_inv (-7723592293110705685 : Int64))))])) ?_ (fun _ k_ => XT.lloadN X1.here hx rfl (hb hby d_method_3_code_33) rfl k_)
  refine Go.st (T' := T1) (g' := (mkF m 37 #[.val (.long (own_u2 (own_u1 q1 * own_inv (-7723592293110705685 : Int64)))), .second] [(.long (-4658895280553007687 : Int64)), (.long (own_u2 (own_u1 q1 * own_inv (-7723592293110705685 : Int64))))])) ?_ (fun _ k_ => X1.ldc2J hx hown (mvT hZ (hw _ (List.mem_of_getElem? (i := 29) rfl))) rfl (hb hby d_method_3_code_34) k_)
  refine Go.callS X1 hx hZ hown (hw _ (List.mem_of_getElem? (i := 25) rfl)) (hw _ (List.mem_of_getElem? (i := 26) rfl)) (hw _ (List.mem_of_getElem? (i := 22) rfl)) (hw _ (List.mem_of_getElem? (i := 27) rfl)) (by decide) (rm3 l Z a0 hw [] (-4658895280553007687 : Int64) h0 n0 Z0) e1 (by decide) (W := 2) (by decide) (by decide) (by decide) (g := (mkF m 37 #[.val (.long (own_u2 (own_u1 q1 * own_inv (-7723592293110705685 : Int64)))), .second] [(.long (-4658895280553007687 : Int64)), (.long (own_u2 (own_u1 q1 * own_inv (-7723592293110705685 : Int64))))])) (rest := [(.long (own_u2 (own_u1 q1 * own_inv (-7723592293110705685 : Int64))))]) rfl (by rw [hml]; rfl) (lenOf pd__J_J rfl) rfl (by show 2 * 0 + _ ≤ _; exact Nat.le_of_eq rfl) (hb hby d_method_3_code_37) ?_
  rintro v2 T2 L2 X2 ⟨rfl, N2, e2⟩
  have M2 := Fr.app M1 N2
  show Go p e below _ T2 (mkF m 40 #[.val (.long (own_u2 (own_u1 q1 * own_inv (-7723592293110705685 : Int64)))), .second] [(.long (own_inv (-4658895280553007687 : Int64))), (.long (own_u2 (own_u1 q1 * own_inv (-7723592293110705685 : Int64))))])
  refine Go.st (T' := T2) (g' := (mkF m 41 #[.val (.long (own_u2 (own_u1 q1 * own_inv (-7723592293110705685 : Int64)))), .second] [(.long ((own_u2 (own_u1 q1 * own_inv (-7723592293110705685 : Int64))) * (own_inv (-4658895280553007687 : Int64))))])) ?_ (fun _ k_ => XT.lmul X2.here hx rfl (hb hby d_method_3_code_40) rfl k_)
  refine Go.st (T' := T2) (g' := (mkF m 42 #[.val (.long ((own_u2 (own_u1 q1 * own_inv (-7723592293110705685 : Int64))) * (own_inv (-4658895280553007687 : Int64)))), .second] [])) ?_ (fun _ k_ => XT.lstoreN X2.here hx rfl (hb hby d_method_3_code_41) rfl (l' := #[.val (.long ((own_u2 (own_u1 q1 * own_inv (-7723592293110705685 : Int64))) * (own_inv (-4658895280553007687 : Int64)))), .second]) rfl k_)
  refine Go.st (T' := T2) (g' := (mkF m 43 #[.val (.long ((own_u2 (own_u1 q1 * own_inv (-7723592293110705685 : Int64))) * (own_inv (-4658895280553007687 : Int64)))), .second] [(.long ((own_u2 (own_u1 q1 * own_inv (-7723592293110705685 : Int64))) * (own_inv (-4658895280553007687 : Int64))))])) ?_ (fun _ k_ => XT.lloadN X2.here hx rfl (hb hby d_method_3_code_42) rfl k_)
  refine Go.st (T' := T2) (g' := (mkF m 44 #[.val (.long ((own_u2 (own_u1 q1 * own_inv (-7723592293110705685 : Int64))) * (own_inv (-4658895280553007687 : Int64)))), .second] [(.long ((own_u2 (own_u1 q1 * own_inv (-7723592293110705685 : Int64))) * (own_inv (-4658895280553007687 : Int64)))), (.long ((own_u2 (own_u1 q1 * own_inv (-7723592293110705685 : Int64))) * (own_inv (-4658895280553007687 : Int64))))])) ?_ (fun _ k_ => XT.lloadN X2.here hx rfl (hb hby d_method_3_code_43) rfl k_)
  refine Go.st (T' := T2) (g' := (mkF m 46 #[.val (.long ((own_u2 (own_u1 q1 * own_inv (-7723592293110705685 : Int64))) * (own_inv (-4658895280553007687 : Int64)))), .second] [(.int (30 : Int32)), (.long ((own_u2 (own_u1 q1 * own_inv (-7723592293110705685 : Int64))) * (own_inv (-4658895280553007687 : Int64)))), (.long ((own_u2 (own_u1 q1 * own_inv (-7723592293110705685 : Int64))) * (own_inv (-4658895280553007687 : Int64))))])) ?_ (fun _ k_ => XT.bipushV X2.here hx rfl (30 : Int32) (hb hby d_method_3_code_44) (by decide) k_)
  refine Go.st (T' := T2) (g' := (mkF m 47 #[.val (.long ((own_u2 (own_u1 q1 * own_inv (-7723592293110705685 : Int64))) * (own_inv (-4658895280553007687 : Int64)))), .second] [(.long (XT.ushrL ((own_u2 (own_u1 q1 * own_inv (-7723592293110705685 : Int64))) * (own_inv (-4658895280553007687 : Int64))) (30 : Int32))), (.long ((own_u2 (own_u1 q1 * own_inv (-7723592293110705685 : Int64))) * (own_inv (-4658895280553007687 : Int64))))])) ?_ (fun _ k_ => XT.lushr X2.here hx rfl (hb hby d_method_3_code_46) rfl k_)
  refine Go.st (T' := T2) (g' := (mkF m 48 #[.val (.long ((own_u2 (own_u1 q1 * own_inv (-7723592293110705685 : Int64))) * (own_inv (-4658895280553007687 : Int64)))), .second] [(.long (((own_u2 (own_u1 q1 * own_inv (-7723592293110705685 : Int64))) * (own_inv (-4658895280553007687 : Int64))) ^^^ (XT.ushrL ((own_u2 (own_u1 q1 * own_inv (-7723592293110705685 : Int64))) * (own_inv (-4658895280553007687 : Int64))) (30 : Int32))))])) ?_ (fun _ k_ => XT.lxor X2.here hx rfl (hb hby d_method_3_code_47) rfl k_)
  refine Go.st (T' := T2) (g' := (mkF m 49 #[.val (.long ((own_u2 (own_u1 q1 * own_inv (-7723592293110705685 : Int64))) * (own_inv (-4658895280553007687 : Int64)))), .second] [(.long ((own_u2 (own_u1 q1 * own_inv (-7723592293110705685 : Int64))) * (own_inv (-4658895280553007687 : Int64)))), (.long (((own_u2 (own_u1 q1 * own_inv (-7723592293110705685 : Int64))) * (own_inv (-4658895280553007687 : Int64))) ^^^ (XT.ushrL ((own_u2 (own_u1 q1 * own_inv (-7723592293110705685 : Int64))) * (own_inv (-4658895280553007687 : Int64))) (30 : Int32))))])) ?_ (fun _ k_ => XT.lloadN X2.here hx rfl (hb hby d_method_3_code_48) rfl k_)
  refine Go.st (T' := T2) (g' := (mkF m 51 #[.val (.long ((own_u2 (own_u1 q1 * own_inv (-7723592293110705685 : Int64))) * (own_inv (-4658895280553007687 : Int64)))), .second] [(.int (60 : Int32)), (.long ((own_u2 (own_u1 q1 * own_inv (-7723592293110705685 : Int64))) * (own_inv (-4658895280553007687 : Int64)))), (.long (((own_u2 (own_u1 q1 * own_inv (-7723592293110705685 : Int64))) * (own_inv (-4658895280553007687 : Int64))) ^^^ (XT.ushrL ((own_u2 (own_u1 q1 * own_inv (-7723592293110705685 : Int64))) * (own_inv (-4658895280553007687 : Int64))) (30 : Int32))))])) ?_ (fun _ k_ => XT.bipushV X2.here hx rfl (60 : Int32) (hb hby d_method_3_code_49) (by decide) k_)
  refine Go.st (T' := T2) (g' := (mkF m 52 #[.val (.long ((own_u2 (own_u1 q1 * own_inv (-7723592293110705685 : Int64))) * (own_inv (-4658895280553007687 : Int64)))), .second] [(.long (XT.ushrL ((own_u2 (own_u1 q1 * own_inv (-7723592293110705685 : Int64))) * (own_inv (-4658895280553007687 : Int64))) (60 : Int32))), (.long (((own_u2 (own_u1 q1 * own_inv (-7723592293110705685 : Int64))) * (own_inv (-4658895280553007687 : Int64))) ^^^ (XT.ushrL ((own_u2 (own_u1 q1 * own_inv (-7723592293110705685 : Int64))) * (own_inv (-4658895280553007687 : Int64))) (30 : Int32))))])) ?_ (fun _ k_ => XT.lushr X2.here hx rfl (hb hby d_method_3_code_51) rfl k_)
  refine Go.st (T' := T2) (g' := (mkF m 53 #[.val (.long ((own_u2 (own_u1 q1 * own_inv (-7723592293110705685 : Int64))) * (own_inv (-4658895280553007687 : Int64)))), .second] [(.long ((((own_u2 (own_u1 q1 * own_inv (-7723592293110705685 : Int64))) * (own_inv (-4658895280553007687 : Int64))) ^^^ (XT.ushrL ((own_u2 (own_u1 q1 * own_inv (-7723592293110705685 : Int64))) * (own_inv (-4658895280553007687 : Int64))) (30 : Int32))) ^^^ (XT.ushrL ((own_u2 (own_u1 q1 * own_inv (-7723592293110705685 : Int64))) * (own_inv (-4658895280553007687 : Int64))) (60 : Int32))))])) ?_ (fun _ k_ => XT.lxor X2.here hx rfl (hb hby d_method_3_code_52) rfl k_)
  show Go p e below _ T2 (mkF m 53 #[.val (.long ((own_u2 (own_u1 q1 * own_inv (-7723592293110705685 : Int64))) * (own_inv (-4658895280553007687 : Int64)))), .second] [(.long (own_unmix q1))])
  refine Go.st (T' := T2) (g' := (mkF m 54 #[.val (.long (own_unmix q1)), .second] [])) ?_ (fun _ k_ => XT.lstoreN X2.here hx rfl (hb hby d_method_3_code_53) rfl (l' := #[.val (.long (own_unmix q1)), .second]) rfl k_)
  refine Go.st (T' := T2) (g' := (mkF m 55 #[.val (.long (own_unmix q1)), .second] [(.long (own_unmix q1))])) ?_ (fun _ k_ => XT.lloadN X2.here hx rfl (hb hby d_method_3_code_54) rfl k_)
  exact Go.retV (t := .long) X2 hx hret hlk (by decide) (by decide) rfl (Or.inr (Or.inl ⟨rfl, rfl, _, rfl⟩)) (hb hby d_method_3_code_55) ⟨rfl, M2, e2⟩
theorem pd__J_V : parseMethodDescriptor "(J)V" = some ⟨[.long], none⟩ := by decide +kernel
theorem pd___J : parseMethodDescriptor "()J" = some ⟨[], some .long⟩ := by decide +kernel
set_option maxRecDepth 65536 in
set_option maxHeartbeats 40000000 in
theorem rm0 (l : Launch) (Z : State) (a0 : Array Value) (hw : ∀ d ∈ tables_1, d.before a0 Z = true) (ws : List Jvm.Cond) (q1 : Int64) (h0 : Heap) (n0 : Nat) (Z0 : n0 ≤ h0.size)  :
    Does l x code maxLocals ret ws room_1 #[(.long q1)] Z h0 (fun v h L => v = some (.int 1) ∧ Fr n0 L) := by
  refine Does.of (plainFor_of_name pn_com_example_amblesim_amblesim_model_RandomSourceNextLongPinLaw) ?_
  intro p e s m below meth c s₁ hx hby hml hret hlk hown0 hnm hZ X0 e0
  have hown : s.vm.findClass "com/example/amblesim/amblesim/model/RandomSourceNextLongPinLaw" = some m.cls := hown0
  have N0 := Fr.nil n0
  refine Go.cast (g' := (mkF m 0 #[.val (.long q1), .second, .unset, .unset, .unset, .unset, .unset, .unset, .unset] [])) (by first | rfl | (simp [entryFrame, mkF, argsToLocals, Value.category, maxLocals]; done)) ?_
  obtain ⟨T1, h1, X1, e1, E1, A1, D1, -, st1⟩ := newO X0 hx hZ hown (hw _ (List.mem_of_getElem? (i := 0) rfl)) (hw _ (List.mem_of_getElem? (i := 1) rfl)) (hw _ (List.mem_of_getElem? (i := 2) rfl)) e0 (g := (mkF m 0 #[.val (.long q1), .second, .unset, .unset, .unset, .unset, .unset, .unset, .unset] [])) rfl (hb hby at_0) (by decide) (by decide)
  obtain ⟨a1, g1⟩ : ∃ z, z = h0.size := ⟨_, rfl⟩
  rw [← g1] at A1 D1 st1
  have G1 : n0 ≤ a1 := Nat.le_trans Z0 (Nat.le_of_eq g1.symm)
  have H1 : h0.size ≤ a1 := Nat.le_trans (Nat.le_refl _) (Nat.le_of_eq g1.symm)
  refine Go.st (T' := T1) (g' := (mkF m 3 #[.val (.long q1), .second, .unset, .unset, .unset, .unset, .unset, .unset, .unset] [(.ref a1)])) ?_ st1
  refine Go.st (T' := T1) (g' := (mkF m 4 #[.val (.long q1), .second, .unset, .unset, .unset, .unset, .unset, .unset, .unset] [(.ref a1), (.ref a1)])) ?_ (fun _ k_ => XS.dup X1.here hx rfl (hb hby at_3) rfl rfl k_)
  refine Go.st (T' := T1) (g' := (mkF m 5 #[.val (.long q1), .second, .unset, .unset, .unset, .unset, .unset, .unset, .unset] [(.long q1), (.ref a1), (.ref a1)])) ?_ (fun _ k_ => XT.lloadN X1.here hx rfl (hb hby at_4) rfl k_)
  refine Go.callI X1 hx hZ hown rfl (hw _ (List.mem_of_getElem? (i := 3) rfl)) (hw _ (List.mem_of_getElem? (i := 4) rfl)) (hw _ (List.mem_of_getElem? (i := 2) rfl)) (hw _ (List.mem_of_getElem? (i := 5) rfl)) (by decide) (rm1 l Z a0 hw [] a1 q1 h1 n0 (Nat.le_trans Z0 E1.1) (D1 (Or.inl (hw _ (List.mem_of_getElem? (i := 10) rfl))) (ty := .long) (by decide)) A1 G1) e1 (by decide) (W := 1) (by decide) (by decide) (by decide) (g := (mkF m 5 #[.val (.long q1), .second, .unset, .unset, .unset, .unset, .unset, .unset, .unset] [(.long q1), (.ref a1), (.ref a1)])) (rest := [(.ref a1)]) rfl (by rw [hml]; rfl) (lenOf pd__J_V rfl) rfl (by show 2 * 0 + _ ≤ _; exact Nat.le_of_eq rfl) (hb hby at_5) ?_
  rintro v2 T2 L2 X2 ⟨rfl, N2, K2, A2, F2⟩
  have M2 := Fr.app N0 N2
  show Go p e below _ T2 (mkF m 8 #[.val (.long q1), .second, .unset, .unset, .unset, .unset, .unset, .unset, .unset] [(.ref a1)])
  refine Go.st (T' := T2) (g' := (mkF m 9 #[.val (.long q1), .second, .val (.ref a1), .unset, .unset, .unset, .unset, .unset, .unset] [])) ?_ (fun _ k_ => XS.astoreN X2.here hx rfl (hb hby at_8) rfl rfl (l' := #[.val (.long q1), .second, .val (.ref a1), .unset, .unset, .unset, .unset, .unset, .unset]) rfl k_)
  refine Go.st (T' := T2) (g' := (mkF m 10 #[.val (.long q1), .second, .val (.ref a1), .unset, .unset, .unset, .unset, .unset, .unset] [(.ref a1)])) ?_ (fun _ k_ => XS.aloadN X2.here hx rfl (hb hby at_9) rfl rfl k_)
  refine Go.callV X2 hx hZ hown (hw _ (List.mem_of_getElem? (i := 11) rfl)) (hw _ (List.mem_of_getElem? (i := 12) rfl)) (hw _ (List.mem_of_getElem? (i := 14) rfl)) (hw _ (List.mem_of_getElem? (i := 13) rfl)) (hw _ (List.mem_of_getElem? (i := 2) rfl)) (hw _ (List.mem_of_getElem? (i := 15) rfl)) (by decide) A2 (rm2 l Z a0 hw [] a1 q1 T2.heap n0 (Nat.le_trans (Nat.le_trans Z0 E1.1) K2.1) F2 A2 G1) rfl (by decide) (W := 0) (by decide) (by decide) (by decide) (g := (mkF m 10 #[.val (.long q1), .second, .val (.ref a1), .unset, .unset, .unset, .unset, .unset, .unset] [(.ref a1)])) (rest := []) rfl (by rw [hml]; rfl) (lenOf pd___J rfl) rfl (by show 2 * 0 + _ ≤ _; exact Nat.le_of_eq rfl) (hb hby at_10) ?_
  rintro v3 T3 L3 X3 ⟨rfl, N3, K3, A3, F3⟩
  have M3 := Fr.app M2 N3
  show Go p e below _ T3 (mkF m 13 #[.val (.long q1), .second, .val (.ref a1), .unset, .unset, .unset, .unset, .unset, .unset] [(.long (own_mix (q1 + (-7046029254386353131 : Int64))))])
  refine Go.st (T' := T3) (g' := (mkF m 14 #[.val (.long q1), .second, .val (.ref a1), .val (.long (own_mix (q1 + (-7046029254386353131 : Int64)))), .second, .unset, .unset, .unset, .unset] [])) ?_ (fun _ k_ => XT.lstoreN X3.here hx rfl (hb hby at_13) rfl (l' := #[.val (.long q1), .second, .val (.ref a1), .val (.long (own_mix (q1 + (-7046029254386353131 : Int64)))), .second, .unset, .unset, .unset, .unset]) rfl k_)
  refine Go.st (T' := T3) (g' := (mkF m 15 #[.val (.long q1), .second, .val (.ref a1), .val (.long (own_mix (q1 + (-7046029254386353131 : Int64)))), .second, .unset, .unset, .unset, .unset] [(.ref a1)])) ?_ (fun _ k_ => XS.aloadN X3.here hx rfl (hb hby at_14) rfl rfl k_)
  refine Go.callV X3 hx hZ hown (hw _ (List.mem_of_getElem? (i := 11) rfl)) (hw _ (List.mem_of_getElem? (i := 12) rfl)) (hw _ (List.mem_of_getElem? (i := 14) rfl)) (hw _ (List.mem_of_getElem? (i := 13) rfl)) (hw _ (List.mem_of_getElem? (i := 2) rfl)) (hw _ (List.mem_of_getElem? (i := 15) rfl)) (by decide) A3 (rm2 l Z a0 hw [] a1 (q1 + (-7046029254386353131 : Int64)) T3.heap n0 (Nat.le_trans (Nat.le_trans (Nat.le_trans Z0 E1.1) K2.1) K3.1) F3 A3 G1) rfl (by decide) (W := 0) (by decide) (by decide) (by decide) (g := (mkF m 15 #[.val (.long q1), .second, .val (.ref a1), .val (.long (own_mix (q1 + (-7046029254386353131 : Int64)))), .second, .unset, .unset, .unset, .unset] [(.ref a1)])) (rest := []) rfl (by rw [hml]; rfl) (lenOf pd___J rfl) rfl (by show 2 * 0 + _ ≤ _; exact Nat.le_of_eq rfl) (hb hby at_15) ?_
  rintro v4 T4 L4 X4 ⟨rfl, N4, K4, A4, F4⟩
  have M4 := Fr.app M3 N4
  show Go p e below _ T4 (mkF m 18 #[.val (.long q1), .second, .val (.ref a1), .val (.long (own_mix (q1 + (-7046029254386353131 : Int64)))), .second, .unset, .unset, .unset, .unset] [(.long (own_mix ((q1 + (-7046029254386353131 : Int64)) + (-7046029254386353131 : Int64))))])
  refine Go.st (T' := T4) (g' := (mkF m 20 #[.val (.long q1), .second, .val (.ref a1), .val (.long (own_mix (q1 + (-7046029254386353131 : Int64)))), .second, .val (.long (own_mix ((q1 + (-7046029254386353131 : Int64)) + (-7046029254386353131 : Int64)))), .second, .unset, .unset] [])) ?_ (fun _ k_ => XT.lstore X4.here hx rfl (hb hby at_18) rfl (l' := #[.val (.long q1), .second, .val (.ref a1), .val (.long (own_mix (q1 + (-7046029254386353131 : Int64)))), .second, .val (.long (own_mix ((q1 + (-7046029254386353131 : Int64)) + (-7046029254386353131 : Int64)))), .second, .unset, .unset]) rfl k_)
  refine Go.st (T' := T4) (g' := (mkF m 23 #[.val (.long q1), .second, .val (.ref a1), .val (.long (own_mix (q1 + (-7046029254386353131 : Int64)))), .second, .val (.long (own_mix ((q1 + (-7046029254386353131 : Int64)) + (-7046029254386353131 : Int64)))), .second, .unset, .unset] [(.long (-7046029254386353131 : Int64))])) ?_ (fun _ k_ => X4.ldc2J hx hown (mvT hZ (hw _ (List.mem_of_getElem? (i := 19) rfl))) rfl (hb hby at_20) k_)
  refine Go.st (T' := T4) (g' := (mkF m 25 #[.val (.long q1), .second, .val (.ref a1), .val (.long (own_mix (q1 + (-7046029254386353131 : Int64)))), .second, .val (.long (own_mix ((q1 + (-7046029254386353131 : Int64)) + (-7046029254386353131 : Int64)))), .second, .val (.long (-7046029254386353131 : Int64)), .second] [])) ?_ (fun _ k_ => XT.lstore X4.here hx rfl (hb hby at_23) rfl (l' := #[.val (.long q1), .second, .val (.ref a1), .val (.long (own_mix (q1 + (-7046029254386353131 : Int64)))), .second, .val (.long (own_mix ((q1 + (-7046029254386353131 : Int64)) + (-7046029254386353131 : Int64)))), .second, .val (.long (-7046029254386353131 : Int64)), .second]) rfl k_)
  refine Go.st (T' := T4) (g' := (mkF m 26 #[.val (.long q1), .second, .val (.ref a1), .val (.long (own_mix (q1 + (-7046029254386353131 : Int64)))), .second, .val (.long (own_mix ((q1 + (-7046029254386353131 : Int64)) + (-7046029254386353131 : Int64)))), .second, .val (.long (-7046029254386353131 : Int64)), .second] [(.long (own_mix (q1 + (-7046029254386353131 : Int64))))])) ?_ (fun _ k_ => XT.lloadN X4.here hx rfl (hb hby at_25) rfl k_)
  refine Go.callS X4 hx hZ hown (hw _ (List.mem_of_getElem? (i := 20) rfl)) (hw _ (List.mem_of_getElem? (i := 21) rfl)) (hw _ (List.mem_of_getElem? (i := 22) rfl)) (hw _ (List.mem_of_getElem? (i := 23) rfl)) (by decide) (rm4 l Z a0 hw [] (own_mix (q1 + (-7046029254386353131 : Int64))) T4.heap n0 (Nat.le_trans (Nat.le_trans (Nat.le_trans (Nat.le_trans Z0 E1.1) K2.1) K3.1) K4.1)) rfl (by decide) (W := 0) (by decide) (by decide) (by decide) (g := (mkF m 26 #[.val (.long q1), .second, .val (.ref a1), .val (.long (own_mix (q1 + (-7046029254386353131 : Int64)))), .second, .val (.long (own_mix ((q1 + (-7046029254386353131 : Int64)) + (-7046029254386353131 : Int64)))), .second, .val (.long (-7046029254386353131 : Int64)), .second] [(.long (own_mix (q1 + (-7046029254386353131 : Int64))))])) (rest := []) rfl (by rw [hml]; rfl) (lenOf pd__J_J rfl) rfl (by show 2 * 0 + _ ≤ _; exact Nat.le_of_eq rfl) (hb hby at_26) ?_
  rintro v5 T5 L5 X5 ⟨rfl, N5, e5⟩
  have M5 := Fr.app M4 N5
  show Go p e below _ T5 (mkF m 29 #[.val (.long q1), .second, .val (.ref a1), .val (.long (own_mix (q1 + (-7046029254386353131 : Int64)))), .second, .val (.long (own_mix ((q1 + (-7046029254386353131 : Int64)) + (-7046029254386353131 : Int64)))), .second, .val (.long (-7046029254386353131 : Int64)), .second] [(.long (own_unmix (own_mix (q1 + (-7046029254386353131 : Int64)))))])
  refine Go.st (T' := T5) (g' := (mkF m 30 #[.val (.long q1), .second, .val (.ref a1), .val (.long (own_mix (q1 + (-7046029254386353131 : Int64)))), .second, .val (.long (own_mix ((q1 + (-7046029254386353131 : Int64)) + (-7046029254386353131 : Int64)))), .second, .val (.long (-7046029254386353131 : Int64)), .second] [(.long q1), (.long (own_unmix (own_mix (q1 + (-7046029254386353131 : Int64)))))])) ?_ (fun _ k_ => XT.lloadN X5.here hx rfl (hb hby at_29) rfl k_)
  refine Go.st (T' := T5) (g' := (mkF m 32 #[.val (.long q1), .second, .val (.ref a1), .val (.long (own_mix (q1 + (-7046029254386353131 : Int64)))), .second, .val (.long (own_mix ((q1 + (-7046029254386353131 : Int64)) + (-7046029254386353131 : Int64)))), .second, .val (.long (-7046029254386353131 : Int64)), .second] [(.long (-7046029254386353131 : Int64)), (.long q1), (.long (own_unmix (own_mix (q1 + (-7046029254386353131 : Int64)))))])) ?_ (fun _ k_ => XT.lload X5.here hx rfl (hb hby at_30) rfl k_)
  refine Go.st (T' := T5) (g' := (mkF m 33 #[.val (.long q1), .second, .val (.ref a1), .val (.long (own_mix (q1 + (-7046029254386353131 : Int64)))), .second, .val (.long (own_mix ((q1 + (-7046029254386353131 : Int64)) + (-7046029254386353131 : Int64)))), .second, .val (.long (-7046029254386353131 : Int64)), .second] [(.long (q1 + (-7046029254386353131 : Int64))), (.long (own_unmix (own_mix (q1 + (-7046029254386353131 : Int64)))))])) ?_ (fun _ k_ => XT.ladd X5.here hx rfl (hb hby at_32) rfl k_)
  refine Go.st (T' := T5) (g' := (mkF m 34 #[.val (.long q1), .second, .val (.ref a1), .val (.long (own_mix (q1 + (-7046029254386353131 : Int64)))), .second, .val (.long (own_mix ((q1 + (-7046029254386353131 : Int64)) + (-7046029254386353131 : Int64)))), .second, .val (.long (-7046029254386353131 : Int64)), .second] [(.int (lcmpW (own_unmix (own_mix (q1 + (-7046029254386353131 : Int64)))) (q1 + (-7046029254386353131 : Int64))))])) ?_ (fun _ k_ => XT.lcmp X5.here hx rfl (hb hby at_33) rfl k_)
  refine Go.st (T' := T5) (g' := (mkF m 37 #[.val (.long q1), .second, .val (.ref a1), .val (.long (own_mix (q1 + (-7046029254386353131 : Int64)))), .second, .val (.long (own_mix ((q1 + (-7046029254386353131 : Int64)) + (-7046029254386353131 : Int64)))), .second, .val (.long (-7046029254386353131 : Int64)), .second] [])) ?_ (fun _ k_ => XS.ifNo X5.here hx rfl (hb hby at_34) rfl ((if0 _ _).trans (teq ((lw_eq _ _).mpr (own_id _ : (own_unmix (own_mix (q1 + (-7046029254386353131 : Int64)))) = (q1 + (-7046029254386353131 : Int64))))).2) k_)
  refine Go.st (T' := T5) (g' := (mkF m 39 #[.val (.long q1), .second, .val (.ref a1), .val (.long (own_mix (q1 + (-7046029254386353131 : Int64)))), .second, .val (.long (own_mix ((q1 + (-7046029254386353131 : Int64)) + (-7046029254386353131 : Int64)))), .second, .val (.long (-7046029254386353131 : Int64)), .second] [(.long (own_mix ((q1 + (-7046029254386353131 : Int64)) + (-7046029254386353131 : Int64))))])) ?_ (fun _ k_ => XT.lload X5.here hx rfl (hb hby at_37) rfl k_)
  refine Go.callS X5 hx hZ hown (hw _ (List.mem_of_getElem? (i := 20) rfl)) (hw _ (List.mem_of_getElem? (i := 21) rfl)) (hw _ (List.mem_of_getElem? (i := 22) rfl)) (hw _ (List.mem_of_getElem? (i := 23) rfl)) (by decide) (rm4 l Z a0 hw [] (own_mix ((q1 + (-7046029254386353131 : Int64)) + (-7046029254386353131 : Int64))) T4.heap n0 (Nat.le_trans (Nat.le_trans (Nat.le_trans (Nat.le_trans Z0 E1.1) K2.1) K3.1) K4.1)) e5 (by decide) (W := 0) (by decide) (by decide) (by decide) (g := (mkF m 39 #[.val (.long q1), .second, .val (.ref a1), .val (.long (own_mix (q1 + (-7046029254386353131 : Int64)))), .second, .val (.long (own_mix ((q1 + (-7046029254386353131 : Int64)) + (-7046029254386353131 : Int64)))), .second, .val (.long (-7046029254386353131 : Int64)), .second] [(.long (own_mix ((q1 + (-7046029254386353131 : Int64)) + (-7046029254386353131 : Int64))))])) (rest := []) rfl (by rw [hml]; rfl) (lenOf pd__J_J rfl) rfl (by show 2 * 0 + _ ≤ _; exact Nat.le_of_eq rfl) (hb hby at_39) ?_
  rintro v6 T6 L6 X6 ⟨rfl, N6, e6⟩
  have M6 := Fr.app M5 N6
  show Go p e below _ T6 (mkF m 42 #[.val (.long q1), .second, .val (.ref a1), .val (.long (own_mix (q1 + (-7046029254386353131 : Int64)))), .second, .val (.long (own_mix ((q1 + (-7046029254386353131 : Int64)) + (-7046029254386353131 : Int64)))), .second, .val (.long (-7046029254386353131 : Int64)), .second] [(.long (own_unmix (own_mix ((q1 + (-7046029254386353131 : Int64)) + (-7046029254386353131 : Int64)))))])
  refine Go.st (T' := T6) (g' := (mkF m 43 #[.val (.long q1), .second, .val (.ref a1), .val (.long (own_mix (q1 + (-7046029254386353131 : Int64)))), .second, .val (.long (own_mix ((q1 + (-7046029254386353131 : Int64)) + (-7046029254386353131 : Int64)))), .second, .val (.long (-7046029254386353131 : Int64)), .second] [(.long q1), (.long (own_unmix (own_mix ((q1 + (-7046029254386353131 : Int64)) + (-7046029254386353131 : Int64)))))])) ?_ (fun _ k_ => XT.lloadN X6.here hx rfl (hb hby at_42) rfl k_)
  refine Go.st (T' := T6) (g' := (mkF m 45 #[.val (.long q1), .second, .val (.ref a1), .val (.long (own_mix (q1 + (-7046029254386353131 : Int64)))), .second, .val (.long (own_mix ((q1 + (-7046029254386353131 : Int64)) + (-7046029254386353131 : Int64)))), .second, .val (.long (-7046029254386353131 : Int64)), .second] [(.long (-7046029254386353131 : Int64)), (.long q1), (.long (own_unmix (own_mix ((q1 + (-7046029254386353131 : Int64)) + (-7046029254386353131 : Int64)))))])) ?_ (fun _ k_ => XT.lload X6.here hx rfl (hb hby at_43) rfl k_)
  refine Go.st (T' := T6) (g' := (mkF m 46 #[.val (.long q1), .second, .val (.ref a1), .val (.long (own_mix (q1 + (-7046029254386353131 : Int64)))), .second, .val (.long (own_mix ((q1 + (-7046029254386353131 : Int64)) + (-7046029254386353131 : Int64)))), .second, .val (.long (-7046029254386353131 : Int64)), .second] [(.long (q1 + (-7046029254386353131 : Int64))), (.long (own_unmix (own_mix ((q1 + (-7046029254386353131 : Int64)) + (-7046029254386353131 : Int64)))))])) ?_ (fun _ k_ => XT.ladd X6.here hx rfl (hb hby at_45) rfl k_)
  refine Go.st (T' := T6) (g' := (mkF m 48 #[.val (.long q1), .second, .val (.ref a1), .val (.long (own_mix (q1 + (-7046029254386353131 : Int64)))), .second, .val (.long (own_mix ((q1 + (-7046029254386353131 : Int64)) + (-7046029254386353131 : Int64)))), .second, .val (.long (-7046029254386353131 : Int64)), .second] [(.long (-7046029254386353131 : Int64)), (.long (q1 + (-7046029254386353131 : Int64))), (.long (own_unmix (own_mix ((q1 + (-7046029254386353131 : Int64)) + (-7046029254386353131 : Int64)))))])) ?_ (fun _ k_ => XT.lload X6.here hx rfl (hb hby at_46) rfl k_)
  refine Go.st (T' := T6) (g' := (mkF m 49 #[.val (.long q1), .second, .val (.ref a1), .val (.long (own_mix (q1 + (-7046029254386353131 : Int64)))), .second, .val (.long (own_mix ((q1 + (-7046029254386353131 : Int64)) + (-7046029254386353131 : Int64)))), .second, .val (.long (-7046029254386353131 : Int64)), .second] [(.long ((q1 + (-7046029254386353131 : Int64)) + (-7046029254386353131 : Int64))), (.long (own_unmix (own_mix ((q1 + (-7046029254386353131 : Int64)) + (-7046029254386353131 : Int64)))))])) ?_ (fun _ k_ => XT.ladd X6.here hx rfl (hb hby at_48) rfl k_)
  refine Go.st (T' := T6) (g' := (mkF m 50 #[.val (.long q1), .second, .val (.ref a1), .val (.long (own_mix (q1 + (-7046029254386353131 : Int64)))), .second, .val (.long (own_mix ((q1 + (-7046029254386353131 : Int64)) + (-7046029254386353131 : Int64)))), .second, .val (.long (-7046029254386353131 : Int64)), .second] [(.int (lcmpW (own_unmix (own_mix ((q1 + (-7046029254386353131 : Int64)) + (-7046029254386353131 : Int64)))) ((q1 + (-7046029254386353131 : Int64)) + (-7046029254386353131 : Int64))))])) ?_ (fun _ k_ => XT.lcmp X6.here hx rfl (hb hby at_49) rfl k_)
  refine Go.st (T' := T6) (g' := (mkF m 53 #[.val (.long q1), .second, .val (.ref a1), .val (.long (own_mix (q1 + (-7046029254386353131 : Int64)))), .second, .val (.long (own_mix ((q1 + (-7046029254386353131 : Int64)) + (-7046029254386353131 : Int64)))), .second, .val (.long (-7046029254386353131 : Int64)), .second] [])) ?_ (fun _ k_ => XS.ifNo X6.here hx rfl (hb hby at_50) rfl ((if0 _ _).trans (teq ((lw_eq _ _).mpr (own_id _ : (own_unmix (own_mix ((q1 + (-7046029254386353131 : Int64)) + (-7046029254386353131 : Int64)))) = ((q1 + (-7046029254386353131 : Int64)) + (-7046029254386353131 : Int64))))).2) k_)
  refine Go.st (T' := T6) (g' := (mkF m 54 #[.val (.long q1), .second, .val (.ref a1), .val (.long (own_mix (q1 + (-7046029254386353131 : Int64)))), .second, .val (.long (own_mix ((q1 + (-7046029254386353131 : Int64)) + (-7046029254386353131 : Int64)))), .second, .val (.long (-7046029254386353131 : Int64)), .second] [(.int (1 : Int32))])) ?_ (fun _ k_ => XT.iconstV X6.here hx rfl (1 : Int32) (hb hby at_53) (by decide) k_)
  refine Go.st (T' := T6) (g' := (mkF m 58 #[.val (.long q1), .second, .val (.ref a1), .val (.long (own_mix (q1 + (-7046029254386353131 : Int64)))), .second, .val (.long (own_mix ((q1 + (-7046029254386353131 : Int64)) + (-7046029254386353131 : Int64)))), .second, .val (.long (-7046029254386353131 : Int64)), .second] [(.int (1 : Int32))])) ?_ (fun _ k_ => XS.goto X6.here hx rfl (pc0 := 54) (pc' := 58) rfl (hb hby at_54) (by decide) (by decide) k_)
  exact Go.retV (t := .boolean) X6 hx hret hlk (by decide) (by decide) rfl (Or.inl ⟨rfl, Or.inr (Or.inl rfl), _, rfl⟩) (hb hby at_58) ⟨rfl, M6⟩
set_option maxRecDepth 65536 in
set_option maxHeartbeats 40000000 in
theorem comes_1 {Post : Tables → Env → Array Value → State → Outcome → State → Prop} (hpost : ∀ tb e args s v u, (limb_1_1.after args s (.returned v) u = true ∧ limb_1_2.after args s (.returned v) u = true ∧ True) → FrameEnd s (.returned v) u (Jvm.fieldLocs frame_1_writes args s ++ Jvm.arrayLocs frame_1_arrays args s ++ Jvm.staticLocs frame_1_statics s) 16 128 → Post tb e args s (.returned v) u) :
    ArmFor flags0 classFile x code maxLocals ret World_1 tables_1 room_1 Calls_1 rest_1 Pre_1 Post := by
  intro l hfl _ _ p e ha hc hk s m args below hf hA hF happ hP
  obtain ⟨hcalls, hrest, hpre⟩ := hP
  obtain ⟨-, -, -, hnamed, -, -, -, hat⟩ := (Spec.applies_iff hf).mp happ
  obtain ⟨hg, hn⟩ := and_e (Cond.before_iff.mp (show (Jvm.Cond.and given_1 narrow_1).before args s = true from hpre))
  obtain ⟨g0, hg⟩ := and_e hg
  obtain ⟨w0, rfl⟩ : ∃ w0 : Value, args = #[w0] := by
    have hs : args.size = 1 := by simpa [Cond.value, given_1] using g0
    obtain ⟨L⟩ := args
    match L, hs with
    | [w0], _ => exact ⟨w0, rfl⟩
  have hw := fun d (hd : d ∈ tables_1) => atoms_spec (ws := Jvm.Cond.code x code maxLocals ret :: tables_1) hat d (List.mem_cons_of_mem _ hd)
  obtain ⟨i0, ei0⟩ := isL_v hg
  obtain rfl : w0 = (.long i0) := Option.some.inj ei0
  obtain ⟨n, o, h1, h2, h3, _, L, rfl, ⟨rfl, N⟩, hq⟩ := rm0 l s _ hw tables_1 i0 s.heap s.heap.size (Nat.le_refl _)  p e ha hc hk s m _ below hf ((Spec.applies_iff_loose hf).mp happ).1 ⟨rfl, State.Warmed39.refl s, rfl⟩ trivial
  refine ⟨n, _, h1, h2, h3, hpost _ _ _ _ _ _ ⟨Cond.after_iff.mpr rfl, Cond.after_iff.mpr (eq_i res_at (Term.int_eval (1)) rfl), trivial⟩ ⟨hq.1, hq.2.1, (hq.2.2.sift fun y hy => Or.inr (N y hy)).mono (by decide) (by decide)⟩⟩
theorem main_1_1 : Claimed_1_1 := comes_1 fun _ _ _ _ _ _ h hF => ⟨h.1, hF⟩
theorem main_1_2 : Claimed_1_2 := comes_1 fun _ _ _ _ _ _ h hF => ⟨h.2.1, hF⟩
end Jvm.Pilot.@@N@@
namespace Jvm.Pilot.@@N@@
open Jvm Jvm.ClassFile Sem Op Lib Jvm.Free Jvm.Stand Jvm.Pilot.@@N@@.Jvm.D
/-! MADE BY PROGRAM (witnessworld.py) out of the Statement's table words and the real class files: 9 classes; the members and pool entries that the words name. The judged class is class 1, her method 3. -/
namespace start1
open Jvm.ClassFile
def u (s : String) : CpInfo := .utf8 (stringToUtf16 s)
/-- a pool by its gaps: so many unusable entries, then the entry; so many at the end -/
def gap : Nat → List CpInfo → List CpInfo
  | 0, r => r
  | n + 1, r => .unusable :: gap n r
def poolList (es : List (Nat × CpInfo)) (last : Nat) : List CpInfo := es.foldr (fun e r => gap e.1 (e.2 :: r)) (gap last [])
def pool (es : List (Nat × CpInfo)) (last : Nat) : Array CpInfo := ⟨poolList es last⟩
def fileOf (pool : Array CpInfo) (this : Nat) (attrs : Array Attribute := #[]) (ms : Array MethodInfo := #[]) (fl : Nat := 33) (sup : Nat := 0) (ifs : Array Nat := #[]) (fds : Array FieldInfo := #[]) : ClassFile where
  minorVersion := 0
  majorVersion := 65
  constantPool := pool
  accessFlags := fl
  thisClass := this
  superClass := sup
  interfaces := ifs
  fields := fds
  methods := ms
  attributes := attrs
def plain (name : String) (sup : Option ClassId) : Class where
  name := name
  kind := .ordinary
  loader := none
  accessFlags := 33
  super := sup
  interfaces := #[]
  cf := none
  fields := #[]
  methods := #[]
  instanceTypes := #[]
  staticTypes := #[]
  resolved := #[]
  callSites := []
  init := .initialized
  statics := none
  mirror := none

def pool0 : Array CpInfo := pool [(5, u "<init>"), (0, u "()V"), (1, .class_ 10), (1, u "java/lang/Object")] 113

def k0c0 : Code := { maxStack := 0, maxLocals := 1, code := object_method_1_code, exceptionTable := #[], attributes := #[] }
def k0m0 : Method := { name := "<init>", desc := "()V", sig := { parameters := [], returnType := none }, accessFlags := 1, code := some k0c0 }
/-- java/lang/Object -/
def k0 : Class := { plain "java/lang/Object" none with
  accessFlags := 33
  interfaces := #[]
  cf := some (fileOf pool0 8 #[] #[{ accessFlags := 1, nameIndex := 5, descriptorIndex := 6, attributes := #[] }] 33 0 #[] #[])
  fields := #[]
  methods := #[k0m0]
  instanceTypes := #[]
  staticTypes := #[]
  resolved := Array.replicate 124 none
  statics := none }

def pool1 : Array CpInfo := pool [(2, .class_ 4), (1, u "java/lang/Object"), (0, u "<init>"), (0, u "()V"), (0, .long 2), (1, .long 10723151780598845931), (1, .methodref 12 13), (0, .class_ 14), (0, .nameAndType 15 16), (0, u "com/example/amblesim/amblesim/model/RandomSourceNextLongPinLaw"), (0, u "inv"), (0, u "(J)J"), (0, .long 13787848793156543929), (1, .class_ 20), (0, u "com/example/amblesim/amblesim/model/RandomSource"), (0, .methodref 19 22), (0, .nameAndType 5 23), (0, u "(J)V"), (0, .methodref 19 25), (0, .nameAndType 26 27), (0, u "nextLong"), (0, u "()J"), (0, .long 11400714819323198485), (1, .methodref 12 31), (0, .nameAndType 32 16), (0, u "unmix"), (2, u "law"), (0, u "(J)Z")] 3

def k1m0 : Method := { name := "<init>", desc := "()V", sig := { parameters := [], returnType := none }, accessFlags := 1, code := none }
def k1c1 : Code := { maxStack := 8, maxLocals := 4, code := method_2_code, exceptionTable := #[], attributes := #[] }
def k1m1 : Method := { name := "inv", desc := "(J)J", sig := { parameters := [.long], returnType := some .long }, accessFlags := 10, code := some k1c1 }
def k1c2 : Code := { maxStack := 5, maxLocals := 2, code := method_3_code, exceptionTable := #[], attributes := #[] }
def k1m2 : Method := { name := "unmix", desc := "(J)J", sig := { parameters := [.long], returnType := some .long }, accessFlags := 10, code := some k1c2 }
def k1c3 : Code := { maxStack := 6, maxLocals := 9, code := code, exceptionTable := #[], attributes := #[] }
def k1m3 : Method := { name := "law", desc := "(J)Z", sig := { parameters := [.long], returnType := some .boolean }, accessFlags := 9, code := some k1c3 }
/-- com/example/amblesim/amblesim/model/RandomSourceNextLongPinLaw -/
def k1 : Class := { plain "com/example/amblesim/amblesim/model/RandomSourceNextLongPinLaw" (some 0) with
  accessFlags := 49
  interfaces := #[]
  cf := some (fileOf pool1 12 #[] #[{ accessFlags := 1, nameIndex := 5, descriptorIndex := 6, attributes := #[] }, { accessFlags := 10, nameIndex := 15, descriptorIndex := 16, attributes := #[] }, { accessFlags := 10, nameIndex := 32, descriptorIndex := 16, attributes := #[] }, { accessFlags := 9, nameIndex := 35, descriptorIndex := 36, attributes := #[] }] 49 2 #[] #[])
  fields := #[]
  methods := #[k1m0, k1m1, k1m2, k1m3]
  instanceTypes := #[]
  staticTypes := #[]
  resolved := Array.replicate 40 none
  statics := none }

def pool2 : Array CpInfo := pool [(1, .methodref 2 3), (0, .class_ 4), (0, .nameAndType 5 6), (0, u "java/lang/Object"), (0, u "<init>"), (0, u "()V"), (0, .fieldref 8 9), (0, .class_ 10), (0, .nameAndType 11 12), (0, u "com/example/amblesim/amblesim/model/RandomSource"), (0, u "state"), (0, u "J"), (0, .long 11400714819323198485), (1, .long 13787848793156543929), (1, .long 10723151780598845931), (3, u "nextLong"), (0, u "()J"), (2, u "GAMMA"), (1, u "DOUBLE_UNIT"), (0, u "D"), (0, u "(J)V")] 8

def k2c0 : Code := { maxStack := 3, maxLocals := 3, code := prog_4_method_1_code, exceptionTable := #[], attributes := #[] }
def k2m0 : Method := { name := "<init>", desc := "(J)V", sig := { parameters := [.long], returnType := none }, accessFlags := 0, code := some k2c0 }
def k2c1 : Code := { maxStack := 5, maxLocals := 3, code := prog_4_method_2_code, exceptionTable := #[], attributes := #[] }
def k2m1 : Method := { name := "nextLong", desc := "()J", sig := { parameters := [], returnType := some .long }, accessFlags := 0, code := some k2c1 }
/-- com/example/amblesim/amblesim/model/RandomSource -/
def k2 : Class := { plain "com/example/amblesim/amblesim/model/RandomSource" (some 0) with
  accessFlags := 32
  interfaces := #[]
  cf := some (fileOf pool2 8 #[] #[{ accessFlags := 0, nameIndex := 5, descriptorIndex := 29, attributes := #[] }, { accessFlags := 0, nameIndex := 21, descriptorIndex := 22, attributes := #[] }] 32 2 #[] #[{ accessFlags := 26, nameIndex := 25, descriptorIndex := 12, attributes := #[] }, { accessFlags := 26, nameIndex := 27, descriptorIndex := 28, attributes := #[] }, { accessFlags := 2, nameIndex := 11, descriptorIndex := 12, attributes := #[] }])
  fields := #[{ name := "GAMMA", type := .long, accessFlags := 26, slot := 0, constantValue := 0 }, { name := "DOUBLE_UNIT", type := .double, accessFlags := 26, slot := 1, constantValue := 0 }, { name := "state", type := .long, accessFlags := 2, slot := 0, constantValue := 0 }]
  methods := #[k2m0, k2m1]
  instanceTypes := #[.long]
  staticTypes := #[.long, .double]
  resolved := Array.replicate 38 none
  statics := none }

def pool3 : Array CpInfo := pool [(1, u "java/lang/Cloneable"), (0, .class_ 1), (0, u "java/lang/Object"), (0, .class_ 3)] 3

/-- java/lang/Cloneable -/
def k3 : Class := { plain "java/lang/Cloneable" (some 0) with
  accessFlags := 1537
  interfaces := #[]
  cf := some (fileOf pool3 2 #[] #[] 1537 4 #[] #[])
  fields := #[]
  methods := #[]
  instanceTypes := #[]
  staticTypes := #[]
  resolved := Array.replicate 8 none
  statics := none }

def pool4 : Array CpInfo := pool [(1, u "java/io/Serializable"), (0, .class_ 1), (0, u "java/lang/Object"), (0, .class_ 3)] 3

/-- java/io/Serializable -/
def k4 : Class := { plain "java/io/Serializable" (some 0) with
  accessFlags := 1537
  interfaces := #[]
  cf := some (fileOf pool4 2 #[] #[] 1537 4 #[] #[])
  fields := #[]
  methods := #[]
  instanceTypes := #[]
  staticTypes := #[]
  resolved := Array.replicate 8 none
  statics := none }

/-- the primitive byte -/
def k5 : Class := { plain "byte" none with kind := .primitive 'B', accessFlags := 0x411 }
/-- [B -/
def k6 : Class := { plain "[B" (some 0) with kind := .array 5 .byte, interfaces := #[3, 4], accessFlags := 1041 }

/-- the primitive int -/
def k7 : Class := { plain "int" none with kind := .primitive 'I', accessFlags := 0x411 }
/-- [I -/
def k8 : Class := { plain "[I" (some 0) with kind := .array 7 .int, interfaces := #[3, 4], accessFlags := 1041 }

def heap : Heap := #[]
def classes : Array Class := #[k0, k1, k2, k3, k4, k5, k6, k7, k8]
def interned : List (Array UInt16 × Addr) := []
def slotsUsed : Nat := 0
def theMethod : MethodId := ⟨1, 3⟩
def args0 : Array Value := #[.long 5]
def aboutOver (below : List Frame) : State where
  vm := { classes := classes, interned := interned.toArray }
  heap := heap
  slotsUsed := slotsUsed
  threads := #[{ frames := .invoking theMethod args0 :: below }]
def below0 : List Frame := [.native { method := ⟨0, 0⟩, args := #[] }]
def about1 : State := aboutOver below0
def p0 : Program := .bare "" "" ""
def e0 : Env := launch0.env 0 0 0
theorem w_frames : about1.frames = Frame.invoking theMethod args0 :: below0 := rfl
set_option maxRecDepth 65536 in
theorem w_args : argsFit about1.vm theMethod args0 = true := by decide +kernel
set_option maxRecDepth 65536 in
theorem w_heap : heapFits about1 = true := by decide +kernel
set_option maxRecDepth 65536 in
theorem w_runnable : about1.curStatus? = some .runnable := by decide +kernel
set_option maxRecDepth 65536 in
theorem w_alone : about1.alone = true := by decide +kernel
set_option maxRecDepth 65536 in
theorem w_named : about1.methodNamed? x = some theMethod := by decide +kernel
set_option maxRecDepth 65536 in
theorem w_hears : about1.hears theMethod below0 = true := by decide +kernel
set_option maxRecDepth 65536 in
theorem w_ripe : about1.ripe theMethod args0 below0 = true := by decide +kernel
theorem w_running : about1.status = .running := rfl
set_option maxRecDepth 65536 in
theorem w_room : about1.hasRoom e0.platform room_1 = true :=
  launch0.hasRoom_least _ room_1 (by decide +kernel) (by decide +kernel) (by decide +kernel) (by decide +kernel) (by decide +kernel) (by decide +kernel)
theorem allAtoms_all (ts : List Jvm.Cond) (a : Array Jvm.Value) (st : Jvm.State) : (allAtoms ts).before a st = ts.all (fun c => c.before a st) := by
  induction ts with
  | nil => rfl
  | cons c t ih =>
    show (Jvm.Cond.and c (allAtoms t)).before a st = _
    rw [Jvm.Cond.before_and, ih, List.all_cons]
def words1 : List Jvm.Cond := Jvm.Cond.code x code maxLocals ret :: tables_1
/-- a 'code' word, met by the world's own term for the bytes: nothing is compared byte by byte -/
theorem code_word {y : MethodName} {bytes : ByteArray} {mx : Nat} {rt : Option FieldType} {a : Array Value} {s : State} {m : MethodId} {meth : Method} {c : Code} (h1 : s.methodNamed? y = some m) (h2 : s.vm.method? m = some meth) (h3 : meth.code = some c) (h4 : c.code = bytes)
    (h5 : (c.maxLocals == mx && c.exceptionTable.isEmpty && decide (c.maxStack ≤ mostOperands) && decide (meth.sig.returnType = rt) && !meth.locks && decide (parseMethodDescriptor y.desc = some meth.sig)) = true) : (Jvm.Cond.code y bytes mx rt).before a s = true := by
  simp only [Bool.and_eq_true, beq_iff_eq, Bool.not_eq_true', decide_eq_true_eq] at h5
  obtain ⟨⟨⟨⟨⟨g1, g2⟩, g3⟩, g4⟩, g5⟩, g6⟩ := h5
  simp [Cond.before, Cond.holds, Cond.value, h1, h2, h3, h4, g1, g2, g3, g4, g5, g6]
def isCode : Jvm.Cond → Bool
  | .code _ _ _ _ => true
  | _ => false
theorem all_split {L : List Jvm.Cond} {P : Jvm.Cond → Bool} (h1 : L.all (fun c => isCode c || P c) = true) (h2 : ∀ c ∈ L.filter isCode, P c = true) : L.all P = true := by
  refine List.all_eq_true.mpr fun c hc => ?_
  have h := List.all_eq_true.mp h1 c hc
  rcases Bool.eq_false_or_eq_true (isCode c) with hi | hi
  · exact h2 c (List.mem_filter.mpr ⟨hc, hi⟩)
  · simpa [hi] using h
set_option maxRecDepth 65536 in
theorem w_c0 : (Jvm.Cond.code x code maxLocals ret).before args0 about1 = true := code_word (m := ⟨1, 3⟩) (meth := k1m3) (c := k1c3) (by decide +kernel) rfl rfl rfl (by decide +kernel)
set_option maxRecDepth 65536 in
theorem w_c1 : (Jvm.Cond.code ({ cls := "com/example/amblesim/amblesim/model/RandomSource", name := "<init>", desc := "(J)V" } : Jvm.MethodName) prog_4_method_1_code (3 : Nat) (Option.none : Option Jvm.ClassFile.FieldType)).before args0 about1 = true := code_word (m := ⟨2, 0⟩) (meth := k2m0) (c := k2c0) (by decide +kernel) rfl rfl rfl (by decide +kernel)
set_option maxRecDepth 65536 in
theorem w_c2 : (Jvm.Cond.code ({ cls := "java/lang/Object", name := "<init>", desc := "()V" } : Jvm.MethodName) object_method_1_code (1 : Nat) (Option.none : Option Jvm.ClassFile.FieldType)).before args0 about1 = true := code_word (m := ⟨0, 0⟩) (meth := k0m0) (c := k0c0) (by decide +kernel) rfl rfl rfl (by decide +kernel)
set_option maxRecDepth 65536 in
theorem w_c3 : (Jvm.Cond.code ({ cls := "com/example/amblesim/amblesim/model/RandomSource", name := "nextLong", desc := "()J" } : Jvm.MethodName) prog_4_method_2_code (3 : Nat) (Option.some Jvm.ClassFile.FieldType.long)).before args0 about1 = true := code_word (m := ⟨2, 1⟩) (meth := k2m1) (c := k2c1) (by decide +kernel) rfl rfl rfl (by decide +kernel)
set_option maxRecDepth 65536 in
theorem w_c4 : (Jvm.Cond.code ({ cls := "com/example/amblesim/amblesim/model/RandomSourceNextLongPinLaw", name := "unmix", desc := "(J)J" } : Jvm.MethodName) method_3_code (2 : Nat) (Option.some Jvm.ClassFile.FieldType.long)).before args0 about1 = true := code_word (m := ⟨1, 2⟩) (meth := k1m2) (c := k1c2) (by decide +kernel) rfl rfl rfl (by decide +kernel)
set_option maxRecDepth 65536 in
theorem w_c5 : (Jvm.Cond.code ({ cls := "com/example/amblesim/amblesim/model/RandomSourceNextLongPinLaw", name := "inv", desc := "(J)J" } : Jvm.MethodName) method_2_code (4 : Nat) (Option.some Jvm.ClassFile.FieldType.long)).before args0 about1 = true := code_word (m := ⟨1, 1⟩) (meth := k1m1) (c := k1c1) (by decide +kernel) rfl rfl rfl (by decide +kernel)
def codes1 : List Jvm.Cond := [Jvm.Cond.code x code maxLocals ret, Jvm.Cond.code ({ cls := "com/example/amblesim/amblesim/model/RandomSource", name := "<init>", desc := "(J)V" } : Jvm.MethodName) prog_4_method_1_code (3 : Nat) (Option.none : Option Jvm.ClassFile.FieldType), Jvm.Cond.code ({ cls := "java/lang/Object", name := "<init>", desc := "()V" } : Jvm.MethodName) object_method_1_code (1 : Nat) (Option.none : Option Jvm.ClassFile.FieldType), Jvm.Cond.code ({ cls := "com/example/amblesim/amblesim/model/RandomSource", name := "nextLong", desc := "()J" } : Jvm.MethodName) prog_4_method_2_code (3 : Nat) (Option.some Jvm.ClassFile.FieldType.long), Jvm.Cond.code ({ cls := "com/example/amblesim/amblesim/model/RandomSourceNextLongPinLaw", name := "unmix", desc := "(J)J" } : Jvm.MethodName) method_3_code (2 : Nat) (Option.some Jvm.ClassFile.FieldType.long), Jvm.Cond.code ({ cls := "com/example/amblesim/amblesim/model/RandomSourceNextLongPinLaw", name := "inv", desc := "(J)J" } : Jvm.MethodName) method_2_code (4 : Nat) (Option.some Jvm.ClassFile.FieldType.long)]
set_option maxRecDepth 65536 in
theorem codes_eq : words1.filter isCode = codes1 := rfl
theorem w_codes : ∀ c ∈ words1.filter isCode, c.before args0 about1 = true := by
  rw [codes_eq]
  intro c hc
  simp only [codes1, List.mem_cons, List.not_mem_nil, or_false] at hc
  rcases hc with rfl | rfl | rfl | rfl | rfl | rfl
  · exact w_c0
  · exact w_c1
  · exact w_c2
  · exact w_c3
  · exact w_c4
  · exact w_c5
set_option maxRecDepth 65536 in
theorem w_t1 : (words1.take 24).all (fun c => isCode c || c.before args0 about1) = true := by decide +kernel
set_option maxRecDepth 65536 in
theorem w_t2 : (words1.drop 24).all (fun c => isCode c || c.before args0 about1) = true := by decide +kernel
theorem w_tables : (allAtoms (Jvm.Cond.code x code maxLocals ret :: tables_1)).before args0 about1 = true := by
  rw [allAtoms_all]
  show words1.all (fun c => c.before args0 about1) = true
  refine all_split ?_ w_codes
  rw [← List.take_append_drop 24 words1, List.all_append, w_t1, w_t2]
  rfl
set_option maxRecDepth 65536 in
theorem w_case : (Jvm.Cond.and given_1 narrow_1).before args0 about1 = true := by decide +kernel
theorem w_applies : (headSpec (Jvm.Cond.code x code maxLocals ret :: tables_1) room_1).applies x e0.platform about1 = true :=
  (Spec.applies_iff w_frames).mpr ⟨w_running, w_runnable, w_alone, w_named, w_hears, w_ripe, w_room, w_tables⟩
theorem atStart : AtStart classFile x code maxLocals ret World_1 tables_1 room_1 Calls_1 rest_1 Pre_1 launch0 p0 e0 about1 theMethod args0 below0 :=
  ⟨lists_1, trivial, launch0.admits_env _ _ _, launch0.least_env, fairChoices_fair.cas, fairChoices_fair.clock, w_frames, w_args, w_heap, w_applies, trivial, trivial, w_case⟩
end start1
theorem witness_1 : WitnessClaimed_1 := ⟨start1.p0, start1.e0, start1.about1, start1.theMethod, start1.args0, start1.below0, start1.atStart⟩
end Jvm.Pilot.@@N@@
