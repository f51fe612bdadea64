import JvmDerived
import JvmDerived.Pilot.@@N@@Statement
import JvmDerived.Pilot.@@N@@Code
set_option linter.unusedVariables false
set_option linter.unusedSimpArgs false
namespace Jvm.Pilot.@@N@@
open Jvm Jvm.ClassFile Sem Op Lib Jvm.Free Jvm.Stand Jvm.LawKit Jvm.RoadKit Bundle Jvm.Pilot.@@N@@.Jvm.D
/-! OWN: the walk as a tree. Go: from here the run comes to a return that Q allows. -/
def Go (p : Program) (e : Env) (below : List Frame) (s : State) (C S : Nat) (Q : Option Value → Heap → List Loc → Prop) (T : State) (g : JFrame) : Prop :=
  ∃ s₂ o, Steps p.tables e below (T.setTop g) s₂ ∧ s₂.status = .running ∧ Ended s₂ below o ∧ ∃ v L, o = .returned v ∧ Q v s₂.heap L ∧ FrameEnd s o s₂ L C S
section OwnGo
variable {p : Program} {l : Launch} {e : Env} {R : Room} {s : State} {m : MethodId} {args : Array Value} {below : List Frame} {meth : Method} {c : Code} {T T' : State} {locs : List Loc} {cells slots : Nat} {Z : State} {a0 : Array Value} {h : Heap} {C S : Nat} {Q : Option Value → Heap → List Loc → Prop} {g g' : JFrame}
theorem Go.step (st : ∀ target, Steps p.tables e below (T'.setTop g') target → Steps p.tables e below (T.setTop g) target) (h : Go p e below s C S Q T' g') : Go p e below s C S Q T g := by
  obtain ⟨s₂, o, h1, r⟩ := h; exact ⟨s₂, o, st _ h1, r⟩
theorem Go.cast (q : g = g') (h : Go p e below s C S Q T g') : Go p e below s C S Q T g := q ▸ h
theorem Go.ret (X : Stand p l e R s m args below meth c T locs cells slots) (hlk : meth.locks = false) {v : Option Value} (hv : meth.sig.returnType = none → v = none)
    (st : ∀ fs, (∀ (f : JFrame) (acts : List Action), f.method = m → f.locked = none → f.entered = [] → (doReturn e (T.setTop f) acts v).1 = T.setFrames fs) → Steps p.tables e below (T.setTop g) (T.setFrames fs))
    (hq : Q v T.heap locs) (hc : cells ≤ C) (hs : slots ≤ S) : Go p e below s C S Q T g := by
  obtain ⟨fs, hr, hrun, hended, hW, hsame⟩ := X.leave (v := v) hv hlk
  exact ⟨_, _, st fs hr, hrun, hended, v, locs, rfl, hq, ⟨_, rfl⟩, hW, hsame.mono hc hs⟩
theorem Go.retV (X : Stand p l e R s m args below meth c T locs cells slots) (hx : p.tables.exec = Jvm.exec) (hlk : meth.locks = false) (hret : meth.sig.returnType = none) {pc : Nat} {Ls : Array Slot} (hd : decode c.code pc = .ok (.return_, 1))
    (hc : cells ≤ C) (hs : slots ≤ S) (hq : Q none T.heap locs) : Go p e below s C S Q T (mkF m pc Ls []) :=
  Go.ret X hlk (fun _ => rfl) (fun fs hr => X.returnOut hx hret hd hr) hq hc hs
theorem Go.retW (X : Stand p l e R s m args below meth c T locs cells slots) (hx : p.tables.exec = Jvm.exec) (hlk : meth.locks = false) {t : FieldType} (hret : meth.sig.returnType = some t) {pc : Nat} {Ls : Array Slot} {w : Value} {i : Instr} {rest : List Value} (hn : narrow t w = w)
    (hi : (i = .ireturn ∧ (t = .int ∨ t = .boolean ∨ t = .byte ∨ t = .char ∨ t = .short) ∧ ∃ z, w = .int z) ∨ (i = .lreturn ∧ t = .long ∧ ∃ z, w = .long z) ∨ (i = .dreturn ∧ t = .double ∧ ∃ z, w = .double z) ∨ (i = .freturn ∧ t = .float ∧ ∃ z, w = .float z) ∨ (i = .areturn ∧ t.isReference = true ∧ w.isRef = true))
    (hd : decode c.code pc = .ok (i, 1)) (hc : cells ≤ C) (hs : slots ≤ S) (hq : Q (some w) T.heap locs) : Go p e below s C S Q T (mkF m pc Ls (w :: rest)) :=
  Go.ret X hlk (fun h => by rw [hret] at h; cases h) (fun fs hr => retOut X hx hret hn hi hd hr) hq hc hs
theorem Go.retI (X : Stand p l e R s m args below meth c T locs cells slots) (hx : p.tables.exec = Jvm.exec) (hlk : meth.locks = false) (hret : meth.sig.returnType = some .int) {pc : Nat} {Ls : Array Slot} {z : Int32} {rest : List Value}
    (hd : decode c.code pc = .ok (.ireturn, 1)) (hc : cells ≤ C) (hs : slots ≤ S) (hq : Q (some (.int z)) T.heap locs) : Go p e below s C S Q T (mkF m pc Ls (.int z :: rest)) :=
  Go.retW X hx hlk hret rfl (Or.inl ⟨rfl, Or.inl rfl, z, rfl⟩) hd hc hs hq
theorem Go.retZ (X : Stand p l e R s m args below meth c T locs cells slots) (hx : p.tables.exec = Jvm.exec) (hlk : meth.locks = false) (hret : meth.sig.returnType = some .boolean) {pc : Nat} {Ls : Array Slot} {z : Int32} {rest : List Value} (hz : z = 0 ∨ z = 1)
    (hd : decode c.code pc = .ok (.ireturn, 1)) (hc : cells ≤ C) (hs : slots ≤ S) (hq : Q (some (.int z)) T.heap locs) : Go p e below s C S Q T (mkF m pc Ls (.int z :: rest)) :=
  Go.retW X hx hlk hret (by rcases hz with rfl | rfl <;> rfl) (Or.inl ⟨rfl, Or.inr (Or.inl rfl), z, rfl⟩) hd hc hs hq
theorem Go.retJ (X : Stand p l e R s m args below meth c T locs cells slots) (hx : p.tables.exec = Jvm.exec) (hlk : meth.locks = false) (hret : meth.sig.returnType = some .long) {pc : Nat} {Ls : Array Slot} {z : Int64} {rest : List Value}
    (hd : decode c.code pc = .ok (.lreturn, 1)) (hc : cells ≤ C) (hs : slots ≤ S) (hq : Q (some (.long z)) T.heap locs) : Go p e below s C S Q T (mkF m pc Ls (.long z :: rest)) :=
  Go.retW X hx hlk hret rfl (Or.inr (Or.inl ⟨rfl, rfl, z, rfl⟩)) hd hc hs hq
theorem Go.retD (X : Stand p l e R s m args below meth c T locs cells slots) (hx : p.tables.exec = Jvm.exec) (hlk : meth.locks = false) (hret : meth.sig.returnType = some .double) {pc : Nat} {Ls : Array Slot} {z : UInt64} {rest : List Value}
    (hd : decode c.code pc = .ok (.dreturn, 1)) (hc : cells ≤ C) (hs : slots ≤ S) (hq : Q (some (.double z)) T.heap locs) : Go p e below s C S Q T (mkF m pc Ls (.double z :: rest)) :=
  Go.retW X hx hlk hret rfl (Or.inr (Or.inr (Or.inl ⟨rfl, rfl, z, rfl⟩))) hd hc hs hq
theorem Go.retR (X : Stand p l e R s m args below meth c T locs cells slots) (hx : p.tables.exec = Jvm.exec) (hlk : meth.locks = false) {t : FieldType} (hret : meth.sig.returnType = some t) (ht : t.isReference = true) {pc : Nat} {Ls : Array Slot} {w : Value} {rest : List Value} (hn : narrow t w = w) (hw : w.isRef = true)
    (hd : decode c.code pc = .ok (.areturn, 1)) (hc : cells ≤ C) (hs : slots ≤ S) (hq : Q (some w) T.heap locs) : Go p e below s C S Q T (mkF m pc Ls (w :: rest)) :=
  Go.retW X hx hlk hret hn (Or.inr (Or.inr (Or.inr (Or.inr ⟨rfl, ht, hw⟩)))) hd hc hs hq
/-- a method's contract out of its walk -/
theorem con_of {y : MethodName} {bytes : ByteArray} {ml : Nat} {rt : Option FieldType} {ws : List Jvm.Cond} {rm : Room} {as' : Array Value} {h0 : Heap} (hpl : plainFor y = true)
    (body : ∀ (p : Program) (e : Env) (s : State) (m : MethodId) (below : List Frame) (meth : Method) (c : Code) (T : State), Stand p l e rm s m as' below meth c T [] 0 0 → p.tables.exec = Jvm.exec → Z.Warmed39 s.vm → c.code = bytes → c.maxLocals = ml → s.vm.findClass y.cls = some m.cls → meth.name = y.name →
      meth.sig.returnType = rt → meth.locks = false → T.heap = h0 → Go p e below s rm.cells rm.slots Q T (entryFrame m as' ml)) :
    MetFree l y (head1 (Jvm.Cond.code y bytes ml rt :: ws) rm) (fun a U => a = as' ∧ Z.Warmed39 U.vm ∧ U.heap = h0) (fun _ _ _ _ _ => True) (fun _ U o U' => ∃ v L, o = .returned v ∧ Q v U'.heap L ∧ FrameEnd U o U' L rm.cells rm.slots) := by
  refine MetFree.of_bodySF hpl hisR ?_
  intro p e s m args below meth c s₁ Bd hml0 hP hK
  obtain ⟨rfl, hZ, hh⟩ := hP
  exact body p e s m below meth c s₁ (Stand.of_body Bd) Bd.exec hZ Bd.bytes hml0 (findClass_of_methodNamed Bd.named) (name_of_methodNamed Bd.named Bd.method).1 Bd.returns (BodyLoose.notSynchronized Bd) (by rw [← hh, Bd.state]; rfl)
abbrev Con (l : Launch) (Z : State) (y : MethodName) (bytes : ByteArray) (ml : Nat) (rt : Option FieldType) (rm : Room) (as' : Array Value) (h0 : Heap) (Q : Option Value → Heap → List Loc → Prop) : Prop :=
  MetFree l y (head1 [Jvm.Cond.code y bytes ml rt] rm) (fun a U => a = as' ∧ Z.Warmed39 U.vm ∧ U.heap = h0) (fun _ _ _ _ _ => True) (fun _ U o U' => ∃ v L, o = .returned v ∧ Q v U'.heap L ∧ FrameEnd U o U' L rm.cells rm.slots)
theorem Go.callS (X : Stand p l e R s m args below meth c T locs cells slots) (hx : p.tables.exec = Jvm.exec) (hZ : Z.Warmed39 s.vm) {own : String} {index : Nat} {y : MethodName} {bytes : ByteArray} {maxL : Nat} {ret : Option FieldType} {rm : Room} {as' : Array Value} {Qc : Option Value → Heap → List Loc → Prop} {W pc : Nat} {Ls : Array Slot} {st : List Value} {argsL rest : List Value} (hml : Ls.size = c.maxLocals)
    (hown : s.vm.findClass own = some m.cls) (w1 : (Jvm.Cond.methodLink own index y).before a0 Z = true) (w2 : (Jvm.Cond.static y).before a0 Z = true) (w3 : (Jvm.Cond.initialized y.cls).before a0 Z = true) (w4 : (Jvm.Cond.code y bytes maxL ret).before a0 Z = true) (hy : y.cls ≠ "java/lang/invoke/MethodHandle" ∧ y.cls ≠ "java/lang/invoke/VarHandle")
    (hM : Con l Z y bytes maxL ret rm as' h Qc) (eT : T.heap = h) (hd : decode c.code pc = .ok (.invokestatic index, 3)) (hlen : ∀ sig, parseMethodDescriptor y.desc = some sig → argsL.length = sig.parameters.length) (hst : st = argsL.reverse ++ rest) (has : argsL.toArray = as')
    (hW : (rest.map fun v => v.category).sum ≤ W) (hf : rm.frames + 1 ≤ R.frames) (hl : W + (maxL + 11) + rm.locals ≤ R.locals) (hc : cells + rm.cells ≤ R.cells) (hs : slots + rm.slots ≤ R.slots)
    (k : ∀ (v : Option Value) (T' : State) (L : List Loc), Stand p l e R s m args below meth c T' (locs ++ L) (cells + rm.cells) (slots + rm.slots) → Qc v T'.heap L → Go p e below s C S Q T' (mkF m (pc + 3) Ls (v.toList ++ rest))) :
    Go p e below s C S Q T (mkF m pc Ls st) := by
  obtain ⟨v, _, ⟨T', L', k', n'⟩, -, X', ⟨Lc, hQ, l1, y1, z1⟩, stp⟩ := Jvm.LawKit.callS X hx (y := y) hown (mvT hZ w1) (mvT hZ w2) (mvT hZ w3) (mvT hZ w4) hy (backOf (W := W) hM hZ w4 w3 hf hl) (g := mkF m pc Ls st) rfl hml (argsL := argsL) (rest := rest) hlen hst (by show 2 * 0 + _ ≤ _; omega) hd (fun _ _ => ⟨has, eT, hc, hs⟩)
  dsimp only [Pt.U, Pt.locs, Pt.cells, Pt.slots] at X' l1 y1 z1 stp hQ
  subst l1 y1 z1
  exact Go.step stp (k v T' Lc X' hQ)
theorem Go.callI (X : Stand p l e R s m args below meth c T locs cells slots) (hx : p.tables.exec = Jvm.exec) (hZ : Z.Warmed39 s.vm) {own : String} {index : Nat} {y : MethodName} {bytes : ByteArray} {maxL : Nat} {rm : Room} {as' : Array Value} {Qc : Option Value → Heap → List Loc → Prop} {W pc : Nat} {Ls : Array Slot} {st : List Value} {a : Addr} {argsL rest : List Value} (hml : Ls.size = c.maxLocals)
    (hy1 : y.name = "<init>") (hown : s.vm.findClass own = some m.cls) (w1 : (Jvm.Cond.methodLink own index y).before a0 Z = true) (w2 : (Jvm.Cond.instanceMethod y).before a0 Z = true) (w3 : (Jvm.Cond.initialized y.cls).before a0 Z = true) (w4 : (Jvm.Cond.code y bytes maxL none).before a0 Z = true) (hy : y.cls ≠ "java/lang/invoke/MethodHandle" ∧ y.cls ≠ "java/lang/invoke/VarHandle")
    (hM : Con l Z y bytes maxL none rm as' h Qc) (eT : T.heap = h) (hd : decode c.code pc = .ok (.invokespecial index, 3)) (hlen : ∀ sig, parseMethodDescriptor y.desc = some sig → argsL.length = sig.parameters.length) (hst : st = argsL.reverse ++ .ref a :: rest) (has : (Value.ref a :: argsL).toArray = as')
    (hW : (rest.map fun v => v.category).sum ≤ W) (hf : rm.frames + 1 ≤ R.frames) (hl : W + (maxL + 11) + rm.locals ≤ R.locals) (hc : cells + rm.cells ≤ R.cells) (hs : slots + rm.slots ≤ R.slots)
    (k : ∀ (v : Option Value) (T' : State) (L : List Loc), Stand p l e R s m args below meth c T' (locs ++ L) (cells + rm.cells) (slots + rm.slots) → Qc v T'.heap L → Go p e below s C S Q T' (mkF m (pc + 3) Ls (v.toList ++ rest))) :
    Go p e below s C S Q T (mkF m pc Ls st) := by
  obtain ⟨v, _, ⟨T', L', k', n'⟩, -, X', ⟨Lc, hQ, l1, y1, z1⟩, stp⟩ := X.specialBack hx (y := y) hy1 hown (mvT hZ w1) (mvT hZ w2) (mvT hZ w4) hy (backOf (W := W) hM hZ w4 w3 hf hl) (g := mkF m pc Ls st) rfl hml (Steps.refl _) (a := a) (argsL := argsL) (rest := rest) hlen hst (by show 2 * 0 + _ ≤ _; omega) hd (fun _ _ => ⟨has, eT, hc, hs⟩)
  dsimp only [Pt.U, Pt.locs, Pt.cells, Pt.slots] at X' l1 y1 z1 stp hQ
  subst l1 y1 z1
  exact Go.step (fun _ q => stp.trans q) (k v T' Lc X' hQ)
theorem Go.callV (X : Stand p l e R s m args below meth c T locs cells slots) (hx : p.tables.exec = Jvm.exec) (hZ : Z.Warmed39 s.vm) {own K : String} {index : Nat} {y z : MethodName} {bytes : ByteArray} {maxL : Nat} {ret : Option FieldType} {rm : Room} {as' : Array Value} {Qc : Option Value → Heap → List Loc → Prop} {W pc : Nat} {Ls : Array Slot} {st : List Value} {a : Addr} {argsL rest : List Value} (hml : Ls.size = c.maxLocals)
    (hown : s.vm.findClass own = some m.cls) (w1 : (Jvm.Cond.methodLink own index y).before a0 Z = true) (w2 : (Jvm.Cond.declares y).before a0 Z = true) (hnf : NotFace s y) (w5 : (Jvm.Cond.selects K y z).before a0 Z = true) (w6 : (Jvm.Cond.instanceMethod z).before a0 Z = true) (w3 : (Jvm.Cond.initialized z.cls).before a0 Z = true) (w4 : (Jvm.Cond.code z bytes maxL ret).before a0 Z = true) (hy : y.cls ≠ "java/lang/invoke/MethodHandle" ∧ y.cls ≠ "java/lang/invoke/VarHandle")
    (hM : Con l Z z bytes maxL ret rm as' h Qc) (eT : T.heap = h) (E : Exa Z h a K) (hd : decode c.code pc = .ok (.invokevirtual index, 3)) (hlen : ∀ sig, parseMethodDescriptor y.desc = some sig → argsL.length = sig.parameters.length) (hst : st = argsL.reverse ++ .ref a :: rest) (has : (Value.ref a :: argsL).toArray = as')
    (hW : (rest.map fun v => v.category).sum ≤ W) (hf : rm.frames + 1 ≤ R.frames) (hl : W + (maxL + 11) + rm.locals ≤ R.locals) (hc : cells + rm.cells ≤ R.cells) (hs : slots + rm.slots ≤ R.slots)
    (k : ∀ (v : Option Value) (T' : State) (L : List Loc), Stand p l e R s m args below meth c T' (locs ++ L) (cells + rm.cells) (slots + rm.slots) → Qc v T'.heap L → Go p e below s C S Q T' (mkF m (pc + 3) Ls (v.toList ++ rest))) :
    Go p e below s C S Q T (mkF m pc Ls st) := by
  obtain ⟨cq, kq, qa, qb, qc⟩ := isOf hZ eT E
  obtain ⟨v, _, ⟨T', L', k', n'⟩, -, X', ⟨Lc, hQ, l1, y1, z1⟩, stp⟩ := X.virtualBack hx (y := y) (z := z) hown (mvT hZ w1) (mvT hZ w2) hnf (mvT hZ w5) (mvT hZ w6) hy (backOf (W := W) hM hZ w4 w3 hf hl) qa qc (g := mkF m pc Ls st) rfl hml (Steps.refl _) (argsL := argsL) (rest := rest) hlen hst (by show 2 * 0 + _ ≤ _; omega) hd (fun _ _ => ⟨has, eT, hc, hs⟩)
  dsimp only [Pt.U, Pt.locs, Pt.cells, Pt.slots] at X' l1 y1 z1 stp hQ
  subst l1 y1 z1
  exact Go.step (fun _ q => stp.trans q) (k v T' Lc X' hQ)
theorem Go.callP (X : Stand p l e R s m args below meth c T locs cells slots) (hx : p.tables.exec = Jvm.exec) (hZ : Z.Warmed39 s.vm) {own : String} {index : Nat} {y : MethodName} {bytes : ByteArray} {maxL : Nat} {ret : Option FieldType} {rm : Room} {as' : Array Value} {Qc : Option Value → Heap → List Loc → Prop} {W pc : Nat} {Ls : Array Slot} {st : List Value} {a : Addr} {argsL rest : List Value} (hml : Ls.size = c.maxLocals)
    (hown : s.vm.findClass own = some m.cls) (w1 : (Jvm.Cond.methodLink own index y).before a0 Z = true) (w6 : (Jvm.Cond.instanceMethod y).before a0 Z = true) {kk : Nat} (w5 : (Jvm.Cond.instantiable y.cls kk).before a0 Z = true) (w7 : (Jvm.Cond.privateMethod y).before a0 Z = true) (w3 : (Jvm.Cond.initialized y.cls).before a0 Z = true) (w4 : (Jvm.Cond.code y bytes maxL ret).before a0 Z = true) (hy : y.cls ≠ "java/lang/invoke/MethodHandle" ∧ y.cls ≠ "java/lang/invoke/VarHandle")
    (hM : Con l Z y bytes maxL ret rm as' h Qc) (eT : T.heap = h) {K : String} (E : Exa Z h a K) (hd : decode c.code pc = .ok (.invokevirtual index, 3)) (hlen : ∀ sig, parseMethodDescriptor y.desc = some sig → argsL.length = sig.parameters.length) (hst : st = argsL.reverse ++ .ref a :: rest) (has : (Value.ref a :: argsL).toArray = as')
    (hW : (rest.map fun v => v.category).sum ≤ W) (hf : rm.frames + 1 ≤ R.frames) (hl : W + (maxL + 11) + rm.locals ≤ R.locals) (hc : cells + rm.cells ≤ R.cells) (hs : slots + rm.slots ≤ R.slots)
    (k : ∀ (v : Option Value) (T' : State) (L : List Loc), Stand p l e R s m args below meth c T' (locs ++ L) (cells + rm.cells) (slots + rm.slots) → Qc v T'.heap L → Go p e below s C S Q T' (mkF m (pc + 3) Ls (v.toList ++ rest))) :
    Go p e below s C S Q T (mkF m pc Ls st) := by
  obtain ⟨cq, q1, q2⟩ := E.cell
  have hpriv : s.PrivateAt y := Cond.privateMethod_at (mvP hZ w7 (args := #[]))
  have w5' : (Jvm.Cond.instantiable y.cls kk).before args s = true := mvT hZ w5
  obtain ⟨c1, k1, i1, i2, -, i4, -⟩ := Cond.instantiable_spec w5'
  have hsel : (Jvm.Cond.selects y.cls y y).before args s = true := selects_self_of_private i1 i2 (by simp only [Bool.or_eq_false_iff] at i4; exact i4.1) hpriv (mvT hZ w6) hy
  obtain ⟨v, _, ⟨T', L', k', n'⟩, -, X', ⟨Lc, hQ, l1, y1, z1⟩, stp⟩ := X.privateBack hx (y := y) hown (mvT hZ w1) (mvT hZ w6) hsel hpriv (mvT hZ w4) hy (backOf (W := W) hM hZ w4 w3 hf hl) (g := mkF m pc Ls st) rfl hml (Steps.refl _) (a := a) (by rw [eT]; exact q1) q2 (argsL := argsL) (rest := rest) hlen hst (by show 2 * 0 + _ ≤ _; omega) hd (fun _ _ => ⟨has, eT, hc, hs⟩)
  dsimp only [Pt.U, Pt.locs, Pt.cells, Pt.slots] at X' l1 y1 z1 stp hQ
  subst l1 y1 z1
  exact Go.step (fun _ q => stp.trans q) (k v T' Lc X' hQ)
end OwnGo
/-! OWN: branches on a comparison of doubles, as javac writes them -/
section OwnCmp
variable {x y : UInt64}
theorem cv_none (o : CmpOp) (h : FP.dcmp x y = none) : cmpValue (FP.dcmp x y) o = (match o with | .l => -1 | .g => 1) := by rw [h]; cases o <;> rfl
theorem gt_y (h : FP.dcmp x y = some .gt) : ifCond.holds .le (cmpValue (FP.dcmp x y) .l) = false := by rw [h]; rfl
theorem gt_n (h : ¬ FP.dcmp x y = some .gt) : ifCond.holds .le (cmpValue (FP.dcmp x y) .l) = true := by
  rcases q : FP.dcmp x y with _ | (_ | _ | _) <;> first | rfl | exact absurd q h
theorem ge_y (h : FP.dcmp x y = some .gt ∨ FP.dcmp x y = some .eq) : ifCond.holds .lt (cmpValue (FP.dcmp x y) .l) = false := by rcases h with h | h <;> rw [h] <;> rfl
theorem ge_n (h : ¬ (FP.dcmp x y = some .gt ∨ FP.dcmp x y = some .eq)) : ifCond.holds .lt (cmpValue (FP.dcmp x y) .l) = true := by
  rcases q : FP.dcmp x y with _ | (_ | _ | _) <;> first | rfl | exact absurd (Or.inl q) h | exact absurd (Or.inr q) h
theorem lt_y (h : FP.dcmp x y = some .lt) : ifCond.holds .ge (cmpValue (FP.dcmp x y) .g) = false := by rw [h]; rfl
theorem lt_n (h : ¬ FP.dcmp x y = some .lt) : ifCond.holds .ge (cmpValue (FP.dcmp x y) .g) = true := by
  rcases q : FP.dcmp x y with _ | (_ | _ | _) <;> first | rfl | exact absurd q h
theorem le_y (h : FP.dcmp x y = some .lt ∨ FP.dcmp x y = some .eq) : ifCond.holds .gt (cmpValue (FP.dcmp x y) .g) = false := by rcases h with h | h <;> rw [h] <;> rfl
theorem le_n (h : ¬ (FP.dcmp x y = some .lt ∨ FP.dcmp x y = some .eq)) : ifCond.holds .gt (cmpValue (FP.dcmp x y) .g) = true := by
  rcases q : FP.dcmp x y with _ | (_ | _ | _) <;> first | rfl | exact absurd (Or.inl q) h | exact absurd (Or.inr q) h
theorem eq_y (o : CmpOp) (h : FP.dcmp x y = some .eq) : ifCond.holds .ne (cmpValue (FP.dcmp x y) o) = false ∧ ifCond.holds .eq (cmpValue (FP.dcmp x y) o) = true := by rw [h]; cases o <;> exact ⟨rfl, rfl⟩
theorem eq_n (o : CmpOp) (h : ¬ FP.dcmp x y = some .eq) : ifCond.holds .ne (cmpValue (FP.dcmp x y) o) = true ∧ ifCond.holds .eq (cmpValue (FP.dcmp x y) o) = false := by
  rcases q : FP.dcmp x y with _ | (_ | _ | _) <;> cases o <;> first | exact ⟨rfl, rfl⟩ | exact absurd q h
/-- x > y, by a taken 'ifgt' over dcmpl -/
theorem gtT_y (h : FP.dcmp x y = some .gt) : ifCond.holds .gt (cmpValue (FP.dcmp x y) .l) = true := by rw [h]; rfl
theorem gtT_n (h : ¬ FP.dcmp x y = some .gt) : ifCond.holds .gt (cmpValue (FP.dcmp x y) .l) = false := by
  rcases q : FP.dcmp x y with _ | (_ | _ | _) <;> first | rfl | exact absurd q h
theorem geT_y (h : FP.dcmp x y = some .gt ∨ FP.dcmp x y = some .eq) : ifCond.holds .ge (cmpValue (FP.dcmp x y) .l) = true := by rcases h with h | h <;> rw [h] <;> rfl
theorem geT_n (h : ¬ (FP.dcmp x y = some .gt ∨ FP.dcmp x y = some .eq)) : ifCond.holds .ge (cmpValue (FP.dcmp x y) .l) = false := by
  rcases q : FP.dcmp x y with _ | (_ | _ | _) <;> first | rfl | exact absurd (Or.inl q) h | exact absurd (Or.inr q) h
theorem ltT_y (h : FP.dcmp x y = some .lt) : ifCond.holds .lt (cmpValue (FP.dcmp x y) .g) = true := by rw [h]; rfl
theorem ltT_n (h : ¬ FP.dcmp x y = some .lt) : ifCond.holds .lt (cmpValue (FP.dcmp x y) .g) = false := by
  rcases q : FP.dcmp x y with _ | (_ | _ | _) <;> first | rfl | exact absurd q h
theorem leT_y (h : FP.dcmp x y = some .lt ∨ FP.dcmp x y = some .eq) : ifCond.holds .le (cmpValue (FP.dcmp x y) .g) = true := by rcases h with h | h <;> rw [h] <;> rfl
theorem leT_n (h : ¬ (FP.dcmp x y = some .lt ∨ FP.dcmp x y = some .eq)) : ifCond.holds .le (cmpValue (FP.dcmp x y) .g) = false := by
  rcases q : FP.dcmp x y with _ | (_ | _ | _) <;> first | rfl | exact absurd (Or.inl q) h | exact absurd (Or.inr q) h
end OwnCmp

section OwnFP
open Jvm.FP.Core
theorem own_val0 : val64 (0 : UInt64) = .fin false 0 (-1074) := by decide +kernel
theorem own_cmp0 {a : UInt64} {s : Bool} {c : Nat} {q : Int} (h : val64 a = .fin s c q) : FP.dcmp a 0 = some (if c = 0 then .eq else if s then .lt else .gt) := by
  show order (val64 a) (val64 0) = _
  rw [h, own_val0]
  have e0 : inUnits 0 (-1074) (min q (-1074)) = 0 := by unfold inUnits; simp
  have p : 0 < 2 ^ (q - min q (-1074)).toNat := Nat.two_pow_pos _
  show some (compare (signed s (inUnits c q (min q (-1074)))) (signed false (inUnits 0 (-1074) (min q (-1074))))) = _
  rw [e0]
  unfold inUnits
  congr 1
  by_cases hc : c = 0
  · subst hc; simp [signed_zero]
  · have pc : 0 < c * 2 ^ (q - min q (-1074)).toNat := Nat.mul_pos (by omega) p
    generalize c * 2 ^ (q - min q (-1074)).toNat = k at pc
    simp only [hc, if_false]
    cases s
    · have h1 : ¬ (k : Int) < 0 := by omega
      have h2 : ¬ (k : Int) = 0 := by omega
      simp only [signed, compare_ite, Bool.false_eq_true, if_false, Int.natCast_zero, if_neg h1, if_neg h2]
    · have h1 : -(k : Int) < 0 := by omega
      simp only [signed, compare_ite, Bool.false_eq_true, if_false, Int.natCast_zero, if_true, if_pos h1]
theorem own_cmpInf {a : UInt64} {s : Bool} {c : Nat} {q : Int} (h : val64 a = .fin s c q) : FP.dcmp a 9218868437227405312 = some .lt := (fin_lt_inf ⟨s, c, q, h⟩).1
theorem own_l2d (x : Int64) : ∃ c q, val64 (FP.l2d x) = .fin (decide (x.toInt < 0)) c q ∧ (c = 0 ↔ x = 0) := by
  obtain ⟨c, q, h⟩ := l2d_shape x
  refine ⟨c, q, h, ?_⟩
  have hz : DZero (l2d x) ↔ c = 0 := by
    constructor
    · rintro ⟨s, q', h'⟩; rw [h] at h'; cases h'; rfl
    · rintro rfl; exact ⟨_, _, h⟩
  rw [← hz, zero_bits2]
  constructor
  · intro h0; by_cases hx : x = 0
    · exact hx
    · exact absurd h0 (l2d_ne_zero hx)
  · rintro rfl; decide +kernel
def posW (a : UInt64) : Int32 := if FP.dcmp a 0 = some .gt ∧ FP.dcmp a 9218868437227405312 = some .lt then 1 else 0
theorem own_posW {a : UInt64} {s : Bool} {c : Nat} {q : Int} (h : val64 a = .fin s c q) : posW a = if c = 0 ∨ s = true then 0 else 1 := by
  unfold posW; rw [own_cmp0 h, own_cmpInf h]
  by_cases hc : c = 0
  · simp [hc]
  · cases s <;> simp [hc]
theorem own_pos_l2d (x : Int64) : posW (FP.l2d x) = if 0 < x then 1 else 0 := by
  obtain ⟨c, q, h, hc⟩ := own_l2d x
  rw [own_posW h]
  simp only [hc, decide_eq_true_eq, Int64.lt_iff_toInt_lt, ← Int64.toInt_inj]
  rw [show (0 : Int64).toInt = 0 from rfl]
  by_cases h1 : x.toInt = 0
  · simp [h1]
  · by_cases h2 : x.toInt < 0
    · simp [h2, show ¬ 0 < x.toInt by omega]
    · simp [h1, h2, show 0 < x.toInt by omega]
theorem own_val1 : val64 (1 : UInt64) = .fin false 1 (-1074) := by decide +kernel
theorem own_sub_mul (m : Int64) (h0 : 0 ≤ m.toInt) (h1 : m.toInt < 65536) : val64 (FP.dmul (FP.l2d m) 1) = .fin false m.toInt.toNat (-1074) := by
  have hw := l2d_whole (a := m) ⟨by omega, by omega⟩
  obtain ⟨c, q, h⟩ := l2d_shape m
  rw [show FP.dmul (FP.l2d m) 1 = Jvm.FP.Core.dmul (Jvm.FP.Core.l2d m) 1 from rfl, val64_dmul, h, own_val1]
  rw [h] at hw
  have hn := whole_natAbs hw
  have hs : decide (m.toInt < 0) = false := by simp; omega
  rw [hs]
  show roundRatio b64 (false != false) (c * 1) 1 (q + -1074) = _
  have e : m.toInt.natAbs = m.toInt.toNat := by omega
  rw [e] at hn
  refine roundRatio_exact good_b64 (by decide) ⟨?_, by decide, by decide, Or.inl (by decide)⟩ ?_
  · show m.toInt.toNat < 2 ^ 53
    have : (2:Nat)^53 = 9007199254740992 := by decide
    omega
  · rw [show (q + -1074 - -1074).toNat = q.toNat by omega, show (-1074 - (q + -1074)).toNat = (-q).toNat by omega]
    simpa using hn
theorem own_pos_sub (m : Int64) (h0 : 0 ≤ m.toInt) (h1 : m.toInt < 65536) : posW (FP.dmul (FP.l2d m) 1) = if m = 0 then 0 else 1 := by
  rw [own_posW (own_sub_mul m h0 h1)]
  have e0 : (0 : Int64).toInt = 0 := rfl
  by_cases h : m = 0
  · subst h; simp
  · have : m.toInt ≠ 0 := fun q => h (Int64.toInt_inj.mp q)
    have h2 : ¬ m.toInt.toNat = 0 := by omega
    rw [if_neg h, if_neg (by simp only [h2, Bool.false_eq_true, or_self, not_false_eq_true])]
theorem own_pos_nsub (m : Int64) (h0 : 0 ≤ m.toInt) (h1 : m.toInt < 65536) : posW (FP.dneg (FP.dmul (FP.l2d m) 1)) = 0 := by
  have h : val64 (FP.dneg (FP.dmul (FP.l2d m) 1)) = .fin true m.toInt.toNat (-1074) := by
    rw [FP.val64_dneg, own_sub_mul m h0 h1]; rfl
  rw [own_posW h]; simp
theorem own_pos_max : posW 9218868437227405311 = 1 := by decide +kernel
theorem own_pos_inf : posW 9218868437227405312 = 0 := by decide +kernel
theorem own_pos_ninf : posW 18442240474082181120 = 0 := by decide +kernel
theorem own_pos_i2d (x : Int32) : posW (FP.i2d x) = if 0 < x then 1 else 0 := by
  rw [show FP.i2d x = FP.l2d x.toInt64 from i2d_l2d x, own_pos_l2d]
  have e : (0 < x.toInt64) = (0 < x) := by
    rw [Int64.lt_iff_toInt_lt, Int32.lt_iff_toInt_lt, Int32.toInt_toInt64]; rfl
  simp only [e]
theorem own_m0 (x : Int64) : 0 ≤ (x &&& (65535 : Int64)).toInt := by have := c_maskL x 65535 16 (by decide) (by decide); omega
theorem own_m1 (x : Int64) : (x &&& (65535 : Int64)).toInt < 65536 := by have := c_maskL x 65535 16 (by decide) (by decide); omega
end OwnFP

theorem d1_0 : decode prog_17_method_17_code 0 = .ok (.dload_n 0, 1) := by decide +kernel
theorem d1_1 : decode prog_17_method_17_code 1 = .ok (.dconst 0, 1) := by decide +kernel
theorem d1_2 : decode prog_17_method_17_code 2 = .ok (.dcmp .l, 1) := by decide +kernel
theorem d1_3 : decode prog_17_method_17_code 3 = .ok (.ifCond .le 15, 3) := by decide +kernel
theorem d1_6 : decode prog_17_method_17_code 6 = .ok (.dload_n 0, 1) := by decide +kernel
theorem d1_7 : decode prog_17_method_17_code 7 = .ok (.ldc2_w 144, 3) := by decide +kernel
theorem d1_10 : decode prog_17_method_17_code 10 = .ok (.dcmp .g, 1) := by decide +kernel
theorem d1_11 : decode prog_17_method_17_code 11 = .ok (.ifCond .ge 7, 3) := by decide +kernel
theorem d1_14 : decode prog_17_method_17_code 14 = .ok (.iconst 1, 1) := by decide +kernel
theorem d1_15 : decode prog_17_method_17_code 15 = .ok (.goto 4, 3) := by decide +kernel
theorem d1_19 : decode prog_17_method_17_code 19 = .ok (.ireturn, 1) := by decide +kernel
theorem d1_18 : decode prog_17_method_17_code 18 = .ok (.iconst 0, 1) := by decide +kernel
set_option maxRecDepth 65536 in
set_option maxHeartbeats 40000000 in
theorem w1 {p : Program} {l : Launch} {e : Env} {s : State} {m : MethodId} {args : Array Value} {below : List Frame} {meth : Method} {c_ : Code} {T0 : State} {locs : List Loc} {Z : State} {a0 : Array Value} {h0 : Heap} {n0 : Nat} (v : UInt64)
    (X0 : Stand p l e ({ frames := 0, cells := 0, slots := 0, locals := 0 } : Room) s m args below meth c_ T0 locs 0 0) (hx : p.tables.exec = Jvm.exec) (hZ : Z.Warmed39 s.vm) (hw : ∀ d ∈ tables_1, d.before a0 Z = true) (hby : c_.code = prog_17_method_17_code) (hml : c_.maxLocals = 2) (hown : s.vm.findClass "com/example/telegrapher/telegrapher/line/Line" = some m.cls) (hnm : meth.name = "isPositive") (hret : meth.sig.returnType = some .boolean) (hlk : meth.locks = false) (e0 : T0.heap = h0) (Z0 : n0 ≤ h0.size) (N0 : Fr n0 locs)  :
    Go p e below s ({ frames := 0, cells := 0, slots := 0, locals := 0 } : Room).cells ({ frames := 0, cells := 0, slots := 0, locals := 0 } : Room).slots (fun r h L => r = some (.int (posW v)) ∧ Fr n0 L ∧ h = h0) T0 (mkF m 0 #[.val (.double v), .second] []) := by
  show Go _ _ _ _ _ _ _ T0 (mkF m 0 #[.val (.double v), .second] [])
  refine Go.step (fun _ k => XS.dloadN X0.here hx rfl (hb hby d1_0) rfl k) ?_
  show Go _ _ _ _ _ _ _ T0 (mkF m 1 #[.val (.double v), .second] [(.double v)])
  refine Go.step (fun _ k => XS.dconst0 X0.here hx rfl (hb hby d1_1) rfl k) ?_
  show Go _ _ _ _ _ _ _ T0 (mkF m 2 #[.val (.double v), .second] [(.double (0 : UInt64)), (.double v)])
  refine Go.step (fun _ k => XS.dcmpS X0.here hx rfl (hb hby d1_2) rfl rfl k) ?_
  show Go _ _ _ _ _ _ _ T0 (mkF m 3 #[.val (.double v), .second] [(.int (cmpValue (FP.dcmp v (0 : UInt64)) .l))])
  by_cases hd3_1 : FP.dcmp v (0 : UInt64) = some .gt
  · refine Go.step (fun _ k => XS.ifNo X0.here hx rfl (hb hby d1_3) rfl (gt_y hd3_1) k) ?_
    show Go _ _ _ _ _ _ _ T0 (mkF m 6 #[.val (.double v), .second] [])
    refine Go.step (fun _ k => XS.dloadN X0.here hx rfl (hb hby d1_6) rfl k) ?_
    show Go _ _ _ _ _ _ _ T0 (mkF m 7 #[.val (.double v), .second] [(.double v)])
    refine Go.step (X0.ldc2DoubleC hx hown (mvT hZ (hw _ (List.mem_of_getElem? (i := 7) rfl))) (g := (mkF m 7 #[.val (.double v), .second] [(.double v)])) rfl (hb hby d1_7)) ?_
    show Go _ _ _ _ _ _ _ T0 (mkF m 10 #[.val (.double v), .second] [(.double (9218868437227405312 : UInt64)), (.double v)])
    refine Go.step (fun _ k => XS.dcmpS X0.here hx rfl (hb hby d1_10) rfl rfl k) ?_
    show Go _ _ _ _ _ _ _ T0 (mkF m 11 #[.val (.double v), .second] [(.int (cmpValue (FP.dcmp v (9218868437227405312 : UInt64)) .g))])
    by_cases hd11_2 : FP.dcmp v (9218868437227405312 : UInt64) = some .lt
    · refine Go.step (fun _ k => XS.ifNo X0.here hx rfl (hb hby d1_11) rfl (lt_y hd11_2) k) ?_
      show Go _ _ _ _ _ _ _ T0 (mkF m 14 #[.val (.double v), .second] [])
      refine Go.step (fun _ k => XS.iconst X0.here hx rfl (hb hby d1_14) k) ?_
      show Go _ _ _ _ _ _ _ T0 (mkF m 15 #[.val (.double v), .second] [(.int (1 : Int32))])
      refine Go.step (fun _ k => XS.goto X0.here hx rfl (pc0 := 15) (pc' := 19) rfl (hb hby d1_15) (by decide) (by decide) k) ?_
      show Go _ _ _ _ _ _ _ T0 (mkF m 19 #[.val (.double v), .second] [(.int (1 : Int32))])
      refine Go.retZ X0 hx hlk hret (by decide) (hb hby d1_19) (by decide) (by decide) ?_
      try rw [e0]
      exact ⟨by simp [posW, hd3_1, hd11_2], N0, rfl⟩
    · refine Go.step (fun _ k => XS.ifYes X0.here hx rfl (pc0 := 11) (pc' := 18) rfl (hb hby d1_11) rfl (lt_n hd11_2) (by decide) (by decide) k) ?_
      show Go _ _ _ _ _ _ _ T0 (mkF m 18 #[.val (.double v), .second] [])
      refine Go.step (fun _ k => XS.iconst X0.here hx rfl (hb hby d1_18) k) ?_
      show Go _ _ _ _ _ _ _ T0 (mkF m 19 #[.val (.double v), .second] [(.int (0 : Int32))])
      refine Go.retZ X0 hx hlk hret (by decide) (hb hby d1_19) (by decide) (by decide) ?_
      try rw [e0]
      exact ⟨by simp [posW, hd3_1, hd11_2], N0, rfl⟩
  · refine Go.step (fun _ k => XS.ifYes X0.here hx rfl (pc0 := 3) (pc' := 18) rfl (hb hby d1_3) rfl (gt_n hd3_1) (by decide) (by decide) k) ?_
    show Go _ _ _ _ _ _ _ T0 (mkF m 18 #[.val (.double v), .second] [])
    refine Go.step (fun _ k => XS.iconst X0.here hx rfl (hb hby d1_18) k) ?_
    show Go _ _ _ _ _ _ _ T0 (mkF m 19 #[.val (.double v), .second] [(.int (0 : Int32))])
    refine Go.retZ X0 hx hlk hret (by decide) (hb hby d1_19) (by decide) (by decide) ?_
    try rw [e0]
    exact ⟨by simp [posW, hd3_1], N0, rfl⟩
theorem pn_1 : plainName "com/example/telegrapher/telegrapher/line/Line" = true := by first | (simp [plainName, overriddenIn]; done) | decide +kernel
theorem ef_rm1 (m : MethodId) (v : UInt64) : entryFrame m #[(.double v)] 2 = mkF m 0 #[.val (.double v), .second] [] := by first | (simp [entryFrame, mkF, argsToLocals, Value.category]; done) | rfl
theorem rm1 (l : Launch) (Z : State) (a0 : Array Value) (hw : ∀ d ∈ tables_1, d.before a0 Z = true) (v : UInt64) (h0 : Heap) (n0 : Nat) (Z0 : n0 ≤ h0.size)  :
    Con l Z (⟨"com/example/telegrapher/telegrapher/line/Line", "isPositive", "(D)Z"⟩ : MethodName) prog_17_method_17_code 2 (some .boolean) ({ frames := 0, cells := 0, slots := 0, locals := 0 } : Room) #[(.double v)] h0 (fun r h L => r = some (.int (posW v)) ∧ Fr n0 L ∧ h = h0) :=
  con_of (plainFor_of_name pn_1) (fun p_ e_ s_ m_ b_ meth_ c_ T_ X_ hx hZ hby hml hown hnm hret hlk e0 => Go.cast (ef_rm1 m_ v) (w1 v X_ hx hZ hw hby hml hown hnm hret hlk e0 Z0 (Fr.nil n0) ))
theorem pd_0 : parseMethodDescriptor "(D)Z" = some ⟨[.double], some .boolean⟩ := by decide +kernel
set_option maxRecDepth 65536 in
set_option maxHeartbeats 40000000 in
theorem w0 {p : Program} {l : Launch} {e : Env} {s : State} {m : MethodId} {args : Array Value} {below : List Frame} {meth : Method} {c_ : Code} {T0 : State} {locs : List Loc} {Z : State} {a0 : Array Value} {h0 : Heap} {n0 : Nat} (p0 : Int64) (p1 : Int32)
    (X0 : Stand p l e room_1 s m args below meth c_ T0 locs 0 0) (hx : p.tables.exec = Jvm.exec) (hZ : Z.Warmed39 s.vm) (hw : ∀ d ∈ tables_1, d.before a0 Z = true) (hby : c_.code = code) (hml : c_.maxLocals = maxLocals) (hown : s.vm.findClass "com/example/telegrapher/telegrapher/line/LineIsPositivePinLaw" = some m.cls) (hnm : meth.name = "law") (hret : meth.sig.returnType = ret) (hlk : meth.locks = false) (e0 : T0.heap = h0) (Z0 : n0 ≤ h0.size) (N0 : Fr n0 locs)  :
    Go p e below s room_1.cells room_1.slots (fun r h L => r = some (.int 1) ∧ Fr n0 L) T0 (mkF m 0 #[.val (.long p0), .second, .val (.int p1), .unset, .unset, .unset, .unset, .unset, .unset] []) := by
  have hret : meth.sig.returnType = some .boolean := hret
  show Go _ _ _ _ _ _ _ T0 (mkF m 0 #[.val (.long p0), .second, .val (.int p1), .unset, .unset, .unset, .unset, .unset, .unset] [])
  refine Go.step (fun _ k => XS.iloadN X0.here hx rfl (hb hby at_0) rfl k) ?_
  show Go _ _ _ _ _ _ _ T0 (mkF m 1 #[.val (.long p0), .second, .val (.int p1), .unset, .unset, .unset, .unset, .unset, .unset] [(.int p1)])
  refine Go.step (fun _ k => XS.bipush X0.here hx rfl (hb hby at_1) k) ?_
  show Go _ _ _ _ _ _ _ T0 (mkF m 3 #[.val (.long p0), .second, .val (.int p1), .unset, .unset, .unset, .unset, .unset, .unset] [(.int (7 : Int32)), (.int p1)])
  refine Go.step (fun _ k => XS.iand X0.here hx rfl (hb hby at_3) rfl k) ?_
  show Go _ _ _ _ _ _ _ T0 (mkF m 4 #[.val (.long p0), .second, .val (.int p1), .unset, .unset, .unset, .unset, .unset, .unset] [(.int (p1 &&& (7 : Int32)))])
  refine Go.step (fun _ k => XS.istoreN X0.here hx rfl (hb hby at_4) rfl (l' := #[.val (.long p0), .second, .val (.int p1), .val (.int (p1 &&& (7 : Int32))), .unset, .unset, .unset, .unset, .unset]) rfl k) ?_
  show Go _ _ _ _ _ _ _ T0 (mkF m 5 #[.val (.long p0), .second, .val (.int p1), .val (.int (p1 &&& (7 : Int32))), .unset, .unset, .unset, .unset, .unset] [])
  refine Go.step (fun _ k => XS.iloadN X0.here hx rfl (hb hby at_5) rfl k) ?_
  show Go _ _ _ _ _ _ _ T0 (mkF m 6 #[.val (.long p0), .second, .val (.int p1), .val (.int (p1 &&& (7 : Int32))), .unset, .unset, .unset, .unset, .unset] [(.int (p1 &&& (7 : Int32)))])
  refine Go.step (fun _ k => XS.iconst X0.here hx rfl (hb hby at_6) k) ?_
  show Go _ _ _ _ _ _ _ T0 (mkF m 7 #[.val (.long p0), .second, .val (.int p1), .val (.int (p1 &&& (7 : Int32))), .unset, .unset, .unset, .unset, .unset] [(.int (1 : Int32)), (.int (p1 &&& (7 : Int32)))])
  by_cases hc7_1 : (p1 &&& (7 : Int32)) = (1 : Int32)
  · refine Go.step (fun _ k => XS.icmpNo X0.here hx rfl (hb hby at_7) rfl (teq hc7_1).2 k) ?_
    show Go _ _ _ _ _ _ _ T0 (mkF m 10 #[.val (.long p0), .second, .val (.int p1), .val (.int (p1 &&& (7 : Int32))), .unset, .unset, .unset, .unset, .unset] [])
    refine Go.step (fun _ k => XS.lloadN X0.here hx rfl (hb hby at_10) rfl k) ?_
    show Go _ _ _ _ _ _ _ T0 (mkF m 11 #[.val (.long p0), .second, .val (.int p1), .val (.int (p1 &&& (7 : Int32))), .unset, .unset, .unset, .unset, .unset] [(.long p0)])
    refine Go.step (X0.ldc2Long hx hown (mvT hZ (hw _ (List.mem_of_getElem? (i := 0) rfl))) (g := (mkF m 11 #[.val (.long p0), .second, .val (.int p1), .val (.int (p1 &&& (7 : Int32))), .unset, .unset, .unset, .unset, .unset] [(.long p0)])) rfl (hb hby at_11)) ?_
    show Go _ _ _ _ _ _ _ T0 (mkF m 14 #[.val (.long p0), .second, .val (.int p1), .val (.int (p1 &&& (7 : Int32))), .unset, .unset, .unset, .unset, .unset] [(.long (65535 : Int64)), (.long p0)])
    refine Go.step (fun _ k => XS.land X0.here hx rfl (hb hby at_14) rfl k) ?_
    show Go _ _ _ _ _ _ _ T0 (mkF m 15 #[.val (.long p0), .second, .val (.int p1), .val (.int (p1 &&& (7 : Int32))), .unset, .unset, .unset, .unset, .unset] [(.long (p0 &&& (65535 : Int64)))])
    refine Go.step (fun _ k => XS.lstore X0.here hx rfl (hb hby at_15) rfl (l' := #[.val (.long p0), .second, .val (.int p1), .val (.int (p1 &&& (7 : Int32))), .unset, .unset, .unset, .val (.long (p0 &&& (65535 : Int64))), .second]) rfl k) ?_
    show Go _ _ _ _ _ _ _ T0 (mkF m 17 #[.val (.long p0), .second, .val (.int p1), .val (.int (p1 &&& (7 : Int32))), .unset, .unset, .unset, .val (.long (p0 &&& (65535 : Int64))), .second] [])
    refine Go.step (fun _ k => XS.lload X0.here hx rfl (hb hby at_17) rfl k) ?_
    show Go _ _ _ _ _ _ _ T0 (mkF m 19 #[.val (.long p0), .second, .val (.int p1), .val (.int (p1 &&& (7 : Int32))), .unset, .unset, .unset, .val (.long (p0 &&& (65535 : Int64))), .second] [(.long (p0 &&& (65535 : Int64)))])
    refine Go.step (fun _ k => XS.l2dS X0.here hx rfl (hb hby at_19) rfl rfl k) ?_
    show Go _ _ _ _ _ _ _ T0 (mkF m 20 #[.val (.long p0), .second, .val (.int p1), .val (.int (p1 &&& (7 : Int32))), .unset, .unset, .unset, .val (.long (p0 &&& (65535 : Int64))), .second] [(.double (FP.l2d (p0 &&& (65535 : Int64))))])
    refine Go.step (X0.ldc2DoubleC hx hown (mvT hZ (hw _ (List.mem_of_getElem? (i := 1) rfl))) (g := (mkF m 20 #[.val (.long p0), .second, .val (.int p1), .val (.int (p1 &&& (7 : Int32))), .unset, .unset, .unset, .val (.long (p0 &&& (65535 : Int64))), .second] [(.double (FP.l2d (p0 &&& (65535 : Int64))))])) rfl (hb hby at_20)) ?_
    show Go _ _ _ _ _ _ _ T0 (mkF m 23 #[.val (.long p0), .second, .val (.int p1), .val (.int (p1 &&& (7 : Int32))), .unset, .unset, .unset, .val (.long (p0 &&& (65535 : Int64))), .second] [(.double (1 : UInt64)), (.double (FP.l2d (p0 &&& (65535 : Int64))))])
    refine Go.step (fun _ k => XS.dmulS X0.here hx rfl (hb hby at_23) rfl (Jvm.Free.Fl.dmul_out (Jvm.Free.Fl.l2d_fin _) (by first | decide +kernel | (unfold Jvm.Free.Fl.Fin64; decide +kernel) | (unfold Jvm.Free.Fl.Nz64; decide +kernel) | (unfold Jvm.Free.Fl.NoNaN64; decide +kernel) : Jvm.Free.Fl.Fin64 1)) rfl k) ?_
    show Go _ _ _ _ _ _ _ T0 (mkF m 24 #[.val (.long p0), .second, .val (.int p1), .val (.int (p1 &&& (7 : Int32))), .unset, .unset, .unset, .val (.long (p0 &&& (65535 : Int64))), .second] [(.double (FP.dmul (FP.l2d (p0 &&& (65535 : Int64))) (1 : UInt64)))])
    refine Go.step (fun _ k => XS.dstore X0.here hx rfl (hb hby at_24) rfl (l' := #[.val (.long p0), .second, .val (.int p1), .val (.int (p1 &&& (7 : Int32))), .val (.double (FP.dmul (FP.l2d (p0 &&& (65535 : Int64))) (1 : UInt64))), .second, .unset, .val (.long (p0 &&& (65535 : Int64))), .second]) rfl k) ?_
    show Go _ _ _ _ _ _ _ T0 (mkF m 26 #[.val (.long p0), .second, .val (.int p1), .val (.int (p1 &&& (7 : Int32))), .val (.double (FP.dmul (FP.l2d (p0 &&& (65535 : Int64))) (1 : UInt64))), .second, .unset, .val (.long (p0 &&& (65535 : Int64))), .second] [])
    refine Go.step (fun _ k => XS.lload X0.here hx rfl (hb hby at_26) rfl k) ?_
    show Go _ _ _ _ _ _ _ T0 (mkF m 28 #[.val (.long p0), .second, .val (.int p1), .val (.int (p1 &&& (7 : Int32))), .val (.double (FP.dmul (FP.l2d (p0 &&& (65535 : Int64))) (1 : UInt64))), .second, .unset, .val (.long (p0 &&& (65535 : Int64))), .second] [(.long (p0 &&& (65535 : Int64)))])
    refine Go.step (fun _ k => XS.lconst X0.here hx rfl (hb hby at_28) k) ?_
    show Go _ _ _ _ _ _ _ T0 (mkF m 29 #[.val (.long p0), .second, .val (.int p1), .val (.int (p1 &&& (7 : Int32))), .val (.double (FP.dmul (FP.l2d (p0 &&& (65535 : Int64))) (1 : UInt64))), .second, .unset, .val (.long (p0 &&& (65535 : Int64))), .second] [(.long (0 : Int64)), (.long (p0 &&& (65535 : Int64)))])
    refine Go.step (fun _ k => XS.lcmp X0.here hx rfl (hb hby at_29) rfl k) ?_
    show Go _ _ _ _ _ _ _ T0 (mkF m 30 #[.val (.long p0), .second, .val (.int p1), .val (.int (p1 &&& (7 : Int32))), .val (.double (FP.dmul (FP.l2d (p0 &&& (65535 : Int64))) (1 : UInt64))), .second, .unset, .val (.long (p0 &&& (65535 : Int64))), .second] [(.int (lcmpW (p0 &&& (65535 : Int64)) (0 : Int64)))])
    by_cases hc30_2 : (p0 &&& (65535 : Int64)) = (0 : Int64)
    · refine Go.step (fun _ k => XS.ifYes X0.here hx rfl (pc0 := 30) (pc' := 37) rfl (hb hby at_30) rfl ((if0 _ _).trans (teq ((lw_eq (p0 &&& (65535 : Int64)) (0 : Int64)).mpr hc30_2)).1) (by decide) (by decide) k) ?_
      show Go _ _ _ _ _ _ _ T0 (mkF m 37 #[.val (.long p0), .second, .val (.int p1), .val (.int (p1 &&& (7 : Int32))), .val (.double (FP.dmul (FP.l2d (p0 &&& (65535 : Int64))) (1 : UInt64))), .second, .unset, .val (.long (p0 &&& (65535 : Int64))), .second] [])
      refine Go.step (fun _ k => XS.iconst X0.here hx rfl (hb hby at_37) k) ?_
      show Go _ _ _ _ _ _ _ T0 (mkF m 38 #[.val (.long p0), .second, .val (.int p1), .val (.int (p1 &&& (7 : Int32))), .val (.double (FP.dmul (FP.l2d (p0 &&& (65535 : Int64))) (1 : UInt64))), .second, .unset, .val (.long (p0 &&& (65535 : Int64))), .second] [(.int (0 : Int32))])
      refine Go.step (fun _ k => XS.istore X0.here hx rfl (hb hby at_38) rfl (l' := #[.val (.long p0), .second, .val (.int p1), .val (.int (p1 &&& (7 : Int32))), .val (.double (FP.dmul (FP.l2d (p0 &&& (65535 : Int64))) (1 : UInt64))), .second, .val (.int (0 : Int32)), .val (.long (p0 &&& (65535 : Int64))), .second]) rfl k) ?_
      show Go _ _ _ _ _ _ _ T0 (mkF m 40 #[.val (.long p0), .second, .val (.int p1), .val (.int (p1 &&& (7 : Int32))), .val (.double (FP.dmul (FP.l2d (p0 &&& (65535 : Int64))) (1 : UInt64))), .second, .val (.int (0 : Int32)), .val (.long (p0 &&& (65535 : Int64))), .second] [])
      refine Go.step (fun _ k => XS.goto X0.here hx rfl (pc0 := 40) (pc' := 166) rfl (hb hby at_40) (by decide) (by decide) k) ?_
      show Go _ _ _ _ _ _ _ T0 (mkF m 166 #[.val (.long p0), .second, .val (.int p1), .val (.int (p1 &&& (7 : Int32))), .val (.double (FP.dmul (FP.l2d (p0 &&& (65535 : Int64))) (1 : UInt64))), .second, .val (.int (0 : Int32)), .val (.long (p0 &&& (65535 : Int64))), .second] [])
      refine Go.step (fun _ k => XS.dload X0.here hx rfl (hb hby at_166) rfl k) ?_
      show Go _ _ _ _ _ _ _ T0 (mkF m 168 #[.val (.long p0), .second, .val (.int p1), .val (.int (p1 &&& (7 : Int32))), .val (.double (FP.dmul (FP.l2d (p0 &&& (65535 : Int64))) (1 : UInt64))), .second, .val (.int (0 : Int32)), .val (.long (p0 &&& (65535 : Int64))), .second] [(.double (FP.dmul (FP.l2d (p0 &&& (65535 : Int64))) (1 : UInt64)))])
      refine Go.callS X0 hx hZ (by rw [hml]; rfl) (y := (⟨"com/example/telegrapher/telegrapher/line/Line", "isPositive", "(D)Z"⟩ : MethodName)) (argsL := [(.double (FP.dmul (FP.l2d (p0 &&& (65535 : Int64))) (1 : UInt64)))]) (rest := []) hown (hw _ (List.mem_of_getElem? (i := 2) rfl)) (hw _ (List.mem_of_getElem? (i := 3) rfl)) (hw _ (List.mem_of_getElem? (i := 4) rfl)) (hw _ (List.mem_of_getElem? (i := 5) rfl)) (by decide) (rm1 l Z a0 hw (FP.dmul (FP.l2d (p0 &&& (65535 : Int64))) (1 : UInt64)) h0 n0 Z0) e0 (hb hby at_168) (lenOf pd_0 rfl) rfl rfl (W := 0) (Nat.le_of_eq rfl) (by decide) (by decide) (by decide) (by decide) ?_
      intro v3 T3 L3 X3 Q3
      obtain ⟨rfl, N3q, hh3⟩ := Q3
      have N3 := Fr.app N0 N3q
      show Go _ _ _ _ _ _ _ T3 (mkF m 171 #[.val (.long p0), .second, .val (.int p1), .val (.int (p1 &&& (7 : Int32))), .val (.double (FP.dmul (FP.l2d (p0 &&& (65535 : Int64))) (1 : UInt64))), .second, .val (.int (0 : Int32)), .val (.long (p0 &&& (65535 : Int64))), .second] [(.int (posW (FP.dmul (FP.l2d (p0 &&& (65535 : Int64))) (1 : UInt64))))])
      refine Go.step (fun _ k => XS.iload X3.here hx rfl (hb hby at_171) rfl k) ?_
      show Go _ _ _ _ _ _ _ T3 (mkF m 173 #[.val (.long p0), .second, .val (.int p1), .val (.int (p1 &&& (7 : Int32))), .val (.double (FP.dmul (FP.l2d (p0 &&& (65535 : Int64))) (1 : UInt64))), .second, .val (.int (0 : Int32)), .val (.long (p0 &&& (65535 : Int64))), .second] [(.int (0 : Int32)), (.int (posW (FP.dmul (FP.l2d (p0 &&& (65535 : Int64))) (1 : UInt64))))])
      refine Go.step (fun _ k => XS.icmpNo X3.here hx rfl (hb hby at_173) rfl (teq ((own_pos_sub _ (own_m0 _) (own_m1 _)).trans (if_pos hc30_2))).2 k) ?_
      show Go _ _ _ _ _ _ _ T3 (mkF m 176 #[.val (.long p0), .second, .val (.int p1), .val (.int (p1 &&& (7 : Int32))), .val (.double (FP.dmul (FP.l2d (p0 &&& (65535 : Int64))) (1 : UInt64))), .second, .val (.int (0 : Int32)), .val (.long (p0 &&& (65535 : Int64))), .second] [])
      refine Go.step (fun _ k => XS.iconst X3.here hx rfl (hb hby at_176) k) ?_
      show Go _ _ _ _ _ _ _ T3 (mkF m 177 #[.val (.long p0), .second, .val (.int p1), .val (.int (p1 &&& (7 : Int32))), .val (.double (FP.dmul (FP.l2d (p0 &&& (65535 : Int64))) (1 : UInt64))), .second, .val (.int (0 : Int32)), .val (.long (p0 &&& (65535 : Int64))), .second] [(.int (1 : Int32))])
      refine Go.step (fun _ k => XS.goto X3.here hx rfl (pc0 := 177) (pc' := 181) rfl (hb hby at_177) (by decide) (by decide) k) ?_
      show Go _ _ _ _ _ _ _ T3 (mkF m 181 #[.val (.long p0), .second, .val (.int p1), .val (.int (p1 &&& (7 : Int32))), .val (.double (FP.dmul (FP.l2d (p0 &&& (65535 : Int64))) (1 : UInt64))), .second, .val (.int (0 : Int32)), .val (.long (p0 &&& (65535 : Int64))), .second] [(.int (1 : Int32))])
      refine Go.retZ X3 hx hlk hret (by decide) (hb hby at_181) (by decide) (by decide) ?_
      try rw [hh3]
      exact ⟨rfl, N3⟩
    · refine Go.step (fun _ k => XS.ifNo X0.here hx rfl (hb hby at_30) rfl ((if0 _ _).trans (feq (fun q => hc30_2 ((lw_eq (p0 &&& (65535 : Int64)) (0 : Int64)).mp q))).1) k) ?_
      show Go _ _ _ _ _ _ _ T0 (mkF m 33 #[.val (.long p0), .second, .val (.int p1), .val (.int (p1 &&& (7 : Int32))), .val (.double (FP.dmul (FP.l2d (p0 &&& (65535 : Int64))) (1 : UInt64))), .second, .unset, .val (.long (p0 &&& (65535 : Int64))), .second] [])
      refine Go.step (fun _ k => XS.iconst X0.here hx rfl (hb hby at_33) k) ?_
      show Go _ _ _ _ _ _ _ T0 (mkF m 34 #[.val (.long p0), .second, .val (.int p1), .val (.int (p1 &&& (7 : Int32))), .val (.double (FP.dmul (FP.l2d (p0 &&& (65535 : Int64))) (1 : UInt64))), .second, .unset, .val (.long (p0 &&& (65535 : Int64))), .second] [(.int (1 : Int32))])
      refine Go.step (fun _ k => XS.goto X0.here hx rfl (pc0 := 34) (pc' := 38) rfl (hb hby at_34) (by decide) (by decide) k) ?_
      show Go _ _ _ _ _ _ _ T0 (mkF m 38 #[.val (.long p0), .second, .val (.int p1), .val (.int (p1 &&& (7 : Int32))), .val (.double (FP.dmul (FP.l2d (p0 &&& (65535 : Int64))) (1 : UInt64))), .second, .unset, .val (.long (p0 &&& (65535 : Int64))), .second] [(.int (1 : Int32))])
      refine Go.step (fun _ k => XS.istore X0.here hx rfl (hb hby at_38) rfl (l' := #[.val (.long p0), .second, .val (.int p1), .val (.int (p1 &&& (7 : Int32))), .val (.double (FP.dmul (FP.l2d (p0 &&& (65535 : Int64))) (1 : UInt64))), .second, .val (.int (1 : Int32)), .val (.long (p0 &&& (65535 : Int64))), .second]) rfl k) ?_
      show Go _ _ _ _ _ _ _ T0 (mkF m 40 #[.val (.long p0), .second, .val (.int p1), .val (.int (p1 &&& (7 : Int32))), .val (.double (FP.dmul (FP.l2d (p0 &&& (65535 : Int64))) (1 : UInt64))), .second, .val (.int (1 : Int32)), .val (.long (p0 &&& (65535 : Int64))), .second] [])
      refine Go.step (fun _ k => XS.goto X0.here hx rfl (pc0 := 40) (pc' := 166) rfl (hb hby at_40) (by decide) (by decide) k) ?_
      show Go _ _ _ _ _ _ _ T0 (mkF m 166 #[.val (.long p0), .second, .val (.int p1), .val (.int (p1 &&& (7 : Int32))), .val (.double (FP.dmul (FP.l2d (p0 &&& (65535 : Int64))) (1 : UInt64))), .second, .val (.int (1 : Int32)), .val (.long (p0 &&& (65535 : Int64))), .second] [])
      refine Go.step (fun _ k => XS.dload X0.here hx rfl (hb hby at_166) rfl k) ?_
      show Go _ _ _ _ _ _ _ T0 (mkF m 168 #[.val (.long p0), .second, .val (.int p1), .val (.int (p1 &&& (7 : Int32))), .val (.double (FP.dmul (FP.l2d (p0 &&& (65535 : Int64))) (1 : UInt64))), .second, .val (.int (1 : Int32)), .val (.long (p0 &&& (65535 : Int64))), .second] [(.double (FP.dmul (FP.l2d (p0 &&& (65535 : Int64))) (1 : UInt64)))])
      refine Go.callS X0 hx hZ (by rw [hml]; rfl) (y := (⟨"com/example/telegrapher/telegrapher/line/Line", "isPositive", "(D)Z"⟩ : MethodName)) (argsL := [(.double (FP.dmul (FP.l2d (p0 &&& (65535 : Int64))) (1 : UInt64)))]) (rest := []) hown (hw _ (List.mem_of_getElem? (i := 2) rfl)) (hw _ (List.mem_of_getElem? (i := 3) rfl)) (hw _ (List.mem_of_getElem? (i := 4) rfl)) (hw _ (List.mem_of_getElem? (i := 5) rfl)) (by decide) (rm1 l Z a0 hw (FP.dmul (FP.l2d (p0 &&& (65535 : Int64))) (1 : UInt64)) h0 n0 Z0) e0 (hb hby at_168) (lenOf pd_0 rfl) rfl rfl (W := 0) (Nat.le_of_eq rfl) (by decide) (by decide) (by decide) (by decide) ?_
      intro v4 T4 L4 X4 Q4
      obtain ⟨rfl, N4q, hh4⟩ := Q4
      have N4 := Fr.app N0 N4q
      show Go _ _ _ _ _ _ _ T4 (mkF m 171 #[.val (.long p0), .second, .val (.int p1), .val (.int (p1 &&& (7 : Int32))), .val (.double (FP.dmul (FP.l2d (p0 &&& (65535 : Int64))) (1 : UInt64))), .second, .val (.int (1 : Int32)), .val (.long (p0 &&& (65535 : Int64))), .second] [(.int (posW (FP.dmul (FP.l2d (p0 &&& (65535 : Int64))) (1 : UInt64))))])
      refine Go.step (fun _ k => XS.iload X4.here hx rfl (hb hby at_171) rfl k) ?_
      show Go _ _ _ _ _ _ _ T4 (mkF m 173 #[.val (.long p0), .second, .val (.int p1), .val (.int (p1 &&& (7 : Int32))), .val (.double (FP.dmul (FP.l2d (p0 &&& (65535 : Int64))) (1 : UInt64))), .second, .val (.int (1 : Int32)), .val (.long (p0 &&& (65535 : Int64))), .second] [(.int (1 : Int32)), (.int (posW (FP.dmul (FP.l2d (p0 &&& (65535 : Int64))) (1 : UInt64))))])
      refine Go.step (fun _ k => XS.icmpNo X4.here hx rfl (hb hby at_173) rfl (teq ((own_pos_sub _ (own_m0 _) (own_m1 _)).trans (if_neg hc30_2))).2 k) ?_
      show Go _ _ _ _ _ _ _ T4 (mkF m 176 #[.val (.long p0), .second, .val (.int p1), .val (.int (p1 &&& (7 : Int32))), .val (.double (FP.dmul (FP.l2d (p0 &&& (65535 : Int64))) (1 : UInt64))), .second, .val (.int (1 : Int32)), .val (.long (p0 &&& (65535 : Int64))), .second] [])
      refine Go.step (fun _ k => XS.iconst X4.here hx rfl (hb hby at_176) k) ?_
      show Go _ _ _ _ _ _ _ T4 (mkF m 177 #[.val (.long p0), .second, .val (.int p1), .val (.int (p1 &&& (7 : Int32))), .val (.double (FP.dmul (FP.l2d (p0 &&& (65535 : Int64))) (1 : UInt64))), .second, .val (.int (1 : Int32)), .val (.long (p0 &&& (65535 : Int64))), .second] [(.int (1 : Int32))])
      refine Go.step (fun _ k => XS.goto X4.here hx rfl (pc0 := 177) (pc' := 181) rfl (hb hby at_177) (by decide) (by decide) k) ?_
      show Go _ _ _ _ _ _ _ T4 (mkF m 181 #[.val (.long p0), .second, .val (.int p1), .val (.int (p1 &&& (7 : Int32))), .val (.double (FP.dmul (FP.l2d (p0 &&& (65535 : Int64))) (1 : UInt64))), .second, .val (.int (1 : Int32)), .val (.long (p0 &&& (65535 : Int64))), .second] [(.int (1 : Int32))])
      refine Go.retZ X4 hx hlk hret (by decide) (hb hby at_181) (by decide) (by decide) ?_
      try rw [hh4]
      exact ⟨rfl, N4⟩
  · refine Go.step (fun _ k => XS.icmpYes X0.here hx rfl (pc0 := 7) (pc' := 43) rfl (hb hby at_7) rfl (feq hc7_1).2 (by decide) (by decide) k) ?_
    show Go _ _ _ _ _ _ _ T0 (mkF m 43 #[.val (.long p0), .second, .val (.int p1), .val (.int (p1 &&& (7 : Int32))), .unset, .unset, .unset, .unset, .unset] [])
    refine Go.step (fun _ k => XS.iloadN X0.here hx rfl (hb hby at_43) rfl k) ?_
    show Go _ _ _ _ _ _ _ T0 (mkF m 44 #[.val (.long p0), .second, .val (.int p1), .val (.int (p1 &&& (7 : Int32))), .unset, .unset, .unset, .unset, .unset] [(.int (p1 &&& (7 : Int32)))])
    refine Go.step (fun _ k => XS.iconst X0.here hx rfl (hb hby at_44) k) ?_
    show Go _ _ _ _ _ _ _ T0 (mkF m 45 #[.val (.long p0), .second, .val (.int p1), .val (.int (p1 &&& (7 : Int32))), .unset, .unset, .unset, .unset, .unset] [(.int (2 : Int32)), (.int (p1 &&& (7 : Int32)))])
    by_cases hc45_5 : (p1 &&& (7 : Int32)) = (2 : Int32)
    · refine Go.step (fun _ k => XS.icmpNo X0.here hx rfl (hb hby at_45) rfl (teq hc45_5).2 k) ?_
      show Go _ _ _ _ _ _ _ T0 (mkF m 48 #[.val (.long p0), .second, .val (.int p1), .val (.int (p1 &&& (7 : Int32))), .unset, .unset, .unset, .unset, .unset] [])
      refine Go.step (fun _ k => XS.lloadN X0.here hx rfl (hb hby at_48) rfl k) ?_
      show Go _ _ _ _ _ _ _ T0 (mkF m 49 #[.val (.long p0), .second, .val (.int p1), .val (.int (p1 &&& (7 : Int32))), .unset, .unset, .unset, .unset, .unset] [(.long p0)])
      refine Go.step (X0.ldc2Long hx hown (mvT hZ (hw _ (List.mem_of_getElem? (i := 0) rfl))) (g := (mkF m 49 #[.val (.long p0), .second, .val (.int p1), .val (.int (p1 &&& (7 : Int32))), .unset, .unset, .unset, .unset, .unset] [(.long p0)])) rfl (hb hby at_49)) ?_
      show Go _ _ _ _ _ _ _ T0 (mkF m 52 #[.val (.long p0), .second, .val (.int p1), .val (.int (p1 &&& (7 : Int32))), .unset, .unset, .unset, .unset, .unset] [(.long (65535 : Int64)), (.long p0)])
      refine Go.step (fun _ k => XS.land X0.here hx rfl (hb hby at_52) rfl k) ?_
      show Go _ _ _ _ _ _ _ T0 (mkF m 53 #[.val (.long p0), .second, .val (.int p1), .val (.int (p1 &&& (7 : Int32))), .unset, .unset, .unset, .unset, .unset] [(.long (p0 &&& (65535 : Int64)))])
      refine Go.step (fun _ k => XS.lstore X0.here hx rfl (hb hby at_53) rfl (l' := #[.val (.long p0), .second, .val (.int p1), .val (.int (p1 &&& (7 : Int32))), .unset, .unset, .unset, .val (.long (p0 &&& (65535 : Int64))), .second]) rfl k) ?_
      show Go _ _ _ _ _ _ _ T0 (mkF m 55 #[.val (.long p0), .second, .val (.int p1), .val (.int (p1 &&& (7 : Int32))), .unset, .unset, .unset, .val (.long (p0 &&& (65535 : Int64))), .second] [])
      refine Go.step (fun _ k => XS.lload X0.here hx rfl (hb hby at_55) rfl k) ?_
      show Go _ _ _ _ _ _ _ T0 (mkF m 57 #[.val (.long p0), .second, .val (.int p1), .val (.int (p1 &&& (7 : Int32))), .unset, .unset, .unset, .val (.long (p0 &&& (65535 : Int64))), .second] [(.long (p0 &&& (65535 : Int64)))])
      refine Go.step (fun _ k => XS.l2dS X0.here hx rfl (hb hby at_57) rfl rfl k) ?_
      show Go _ _ _ _ _ _ _ T0 (mkF m 58 #[.val (.long p0), .second, .val (.int p1), .val (.int (p1 &&& (7 : Int32))), .unset, .unset, .unset, .val (.long (p0 &&& (65535 : Int64))), .second] [(.double (FP.l2d (p0 &&& (65535 : Int64))))])
      refine Go.step (X0.ldc2DoubleC hx hown (mvT hZ (hw _ (List.mem_of_getElem? (i := 1) rfl))) (g := (mkF m 58 #[.val (.long p0), .second, .val (.int p1), .val (.int (p1 &&& (7 : Int32))), .unset, .unset, .unset, .val (.long (p0 &&& (65535 : Int64))), .second] [(.double (FP.l2d (p0 &&& (65535 : Int64))))])) rfl (hb hby at_58)) ?_
      show Go _ _ _ _ _ _ _ T0 (mkF m 61 #[.val (.long p0), .second, .val (.int p1), .val (.int (p1 &&& (7 : Int32))), .unset, .unset, .unset, .val (.long (p0 &&& (65535 : Int64))), .second] [(.double (1 : UInt64)), (.double (FP.l2d (p0 &&& (65535 : Int64))))])
      refine Go.step (fun _ k => XS.dmulS X0.here hx rfl (hb hby at_61) rfl (Jvm.Free.Fl.dmul_out (Jvm.Free.Fl.l2d_fin _) (by first | decide +kernel | (unfold Jvm.Free.Fl.Fin64; decide +kernel) | (unfold Jvm.Free.Fl.Nz64; decide +kernel) | (unfold Jvm.Free.Fl.NoNaN64; decide +kernel) : Jvm.Free.Fl.Fin64 1)) rfl k) ?_
      show Go _ _ _ _ _ _ _ T0 (mkF m 62 #[.val (.long p0), .second, .val (.int p1), .val (.int (p1 &&& (7 : Int32))), .unset, .unset, .unset, .val (.long (p0 &&& (65535 : Int64))), .second] [(.double (FP.dmul (FP.l2d (p0 &&& (65535 : Int64))) (1 : UInt64)))])
      refine Go.step (fun _ k => XS.dnegS X0.here hx rfl (hb hby at_62) rfl rfl k) ?_
      show Go _ _ _ _ _ _ _ T0 (mkF m 63 #[.val (.long p0), .second, .val (.int p1), .val (.int (p1 &&& (7 : Int32))), .unset, .unset, .unset, .val (.long (p0 &&& (65535 : Int64))), .second] [(.double (FP.dneg (FP.dmul (FP.l2d (p0 &&& (65535 : Int64))) (1 : UInt64))))])
      refine Go.step (fun _ k => XS.dstore X0.here hx rfl (hb hby at_63) rfl (l' := #[.val (.long p0), .second, .val (.int p1), .val (.int (p1 &&& (7 : Int32))), .val (.double (FP.dneg (FP.dmul (FP.l2d (p0 &&& (65535 : Int64))) (1 : UInt64)))), .second, .unset, .val (.long (p0 &&& (65535 : Int64))), .second]) rfl k) ?_
      show Go _ _ _ _ _ _ _ T0 (mkF m 65 #[.val (.long p0), .second, .val (.int p1), .val (.int (p1 &&& (7 : Int32))), .val (.double (FP.dneg (FP.dmul (FP.l2d (p0 &&& (65535 : Int64))) (1 : UInt64)))), .second, .unset, .val (.long (p0 &&& (65535 : Int64))), .second] [])
      refine Go.step (fun _ k => XS.iconst X0.here hx rfl (hb hby at_65) k) ?_
      show Go _ _ _ _ _ _ _ T0 (mkF m 66 #[.val (.long p0), .second, .val (.int p1), .val (.int (p1 &&& (7 : Int32))), .val (.double (FP.dneg (FP.dmul (FP.l2d (p0 &&& (65535 : Int64))) (1 : UInt64)))), .second, .unset, .val (.long (p0 &&& (65535 : Int64))), .second] [(.int (0 : Int32))])
      refine Go.step (fun _ k => XS.istore X0.here hx rfl (hb hby at_66) rfl (l' := #[.val (.long p0), .second, .val (.int p1), .val (.int (p1 &&& (7 : Int32))), .val (.double (FP.dneg (FP.dmul (FP.l2d (p0 &&& (65535 : Int64))) (1 : UInt64)))), .second, .val (.int (0 : Int32)), .val (.long (p0 &&& (65535 : Int64))), .second]) rfl k) ?_
      show Go _ _ _ _ _ _ _ T0 (mkF m 68 #[.val (.long p0), .second, .val (.int p1), .val (.int (p1 &&& (7 : Int32))), .val (.double (FP.dneg (FP.dmul (FP.l2d (p0 &&& (65535 : Int64))) (1 : UInt64)))), .second, .val (.int (0 : Int32)), .val (.long (p0 &&& (65535 : Int64))), .second] [])
      refine Go.step (fun _ k => XS.goto X0.here hx rfl (pc0 := 68) (pc' := 166) rfl (hb hby at_68) (by decide) (by decide) k) ?_
      show Go _ _ _ _ _ _ _ T0 (mkF m 166 #[.val (.long p0), .second, .val (.int p1), .val (.int (p1 &&& (7 : Int32))), .val (.double (FP.dneg (FP.dmul (FP.l2d (p0 &&& (65535 : Int64))) (1 : UInt64)))), .second, .val (.int (0 : Int32)), .val (.long (p0 &&& (65535 : Int64))), .second] [])
      refine Go.step (fun _ k => XS.dload X0.here hx rfl (hb hby at_166) rfl k) ?_
      show Go _ _ _ _ _ _ _ T0 (mkF m 168 #[.val (.long p0), .second, .val (.int p1), .val (.int (p1 &&& (7 : Int32))), .val (.double (FP.dneg (FP.dmul (FP.l2d (p0 &&& (65535 : Int64))) (1 : UInt64)))), .second, .val (.int (0 : Int32)), .val (.long (p0 &&& (65535 : Int64))), .second] [(.double (FP.dneg (FP.dmul (FP.l2d (p0 &&& (65535 : Int64))) (1 : UInt64))))])
      refine Go.callS X0 hx hZ (by rw [hml]; rfl) (y := (⟨"com/example/telegrapher/telegrapher/line/Line", "isPositive", "(D)Z"⟩ : MethodName)) (argsL := [(.double (FP.dneg (FP.dmul (FP.l2d (p0 &&& (65535 : Int64))) (1 : UInt64))))]) (rest := []) hown (hw _ (List.mem_of_getElem? (i := 2) rfl)) (hw _ (List.mem_of_getElem? (i := 3) rfl)) (hw _ (List.mem_of_getElem? (i := 4) rfl)) (hw _ (List.mem_of_getElem? (i := 5) rfl)) (by decide) (rm1 l Z a0 hw (FP.dneg (FP.dmul (FP.l2d (p0 &&& (65535 : Int64))) (1 : UInt64))) h0 n0 Z0) e0 (hb hby at_168) (lenOf pd_0 rfl) rfl rfl (W := 0) (Nat.le_of_eq rfl) (by decide) (by decide) (by decide) (by decide) ?_
      intro v6 T6 L6 X6 Q6
      obtain ⟨rfl, N6q, hh6⟩ := Q6
      have N6 := Fr.app N0 N6q
      show Go _ _ _ _ _ _ _ T6 (mkF m 171 #[.val (.long p0), .second, .val (.int p1), .val (.int (p1 &&& (7 : Int32))), .val (.double (FP.dneg (FP.dmul (FP.l2d (p0 &&& (65535 : Int64))) (1 : UInt64)))), .second, .val (.int (0 : Int32)), .val (.long (p0 &&& (65535 : Int64))), .second] [(.int (posW (FP.dneg (FP.dmul (FP.l2d (p0 &&& (65535 : Int64))) (1 : UInt64)))))])
      refine Go.step (fun _ k => XS.iload X6.here hx rfl (hb hby at_171) rfl k) ?_
      show Go _ _ _ _ _ _ _ T6 (mkF m 173 #[.val (.long p0), .second, .val (.int p1), .val (.int (p1 &&& (7 : Int32))), .val (.double (FP.dneg (FP.dmul (FP.l2d (p0 &&& (65535 : Int64))) (1 : UInt64)))), .second, .val (.int (0 : Int32)), .val (.long (p0 &&& (65535 : Int64))), .second] [(.int (0 : Int32)), (.int (posW (FP.dneg (FP.dmul (FP.l2d (p0 &&& (65535 : Int64))) (1 : UInt64)))))])
      refine Go.step (fun _ k => XS.icmpNo X6.here hx rfl (hb hby at_173) rfl (teq (own_pos_nsub _ (own_m0 _) (own_m1 _))).2 k) ?_
      show Go _ _ _ _ _ _ _ T6 (mkF m 176 #[.val (.long p0), .second, .val (.int p1), .val (.int (p1 &&& (7 : Int32))), .val (.double (FP.dneg (FP.dmul (FP.l2d (p0 &&& (65535 : Int64))) (1 : UInt64)))), .second, .val (.int (0 : Int32)), .val (.long (p0 &&& (65535 : Int64))), .second] [])
      refine Go.step (fun _ k => XS.iconst X6.here hx rfl (hb hby at_176) k) ?_
      show Go _ _ _ _ _ _ _ T6 (mkF m 177 #[.val (.long p0), .second, .val (.int p1), .val (.int (p1 &&& (7 : Int32))), .val (.double (FP.dneg (FP.dmul (FP.l2d (p0 &&& (65535 : Int64))) (1 : UInt64)))), .second, .val (.int (0 : Int32)), .val (.long (p0 &&& (65535 : Int64))), .second] [(.int (1 : Int32))])
      refine Go.step (fun _ k => XS.goto X6.here hx rfl (pc0 := 177) (pc' := 181) rfl (hb hby at_177) (by decide) (by decide) k) ?_
      show Go _ _ _ _ _ _ _ T6 (mkF m 181 #[.val (.long p0), .second, .val (.int p1), .val (.int (p1 &&& (7 : Int32))), .val (.double (FP.dneg (FP.dmul (FP.l2d (p0 &&& (65535 : Int64))) (1 : UInt64)))), .second, .val (.int (0 : Int32)), .val (.long (p0 &&& (65535 : Int64))), .second] [(.int (1 : Int32))])
      refine Go.retZ X6 hx hlk hret (by decide) (hb hby at_181) (by decide) (by decide) ?_
      try rw [hh6]
      exact ⟨rfl, N6⟩
    · refine Go.step (fun _ k => XS.icmpYes X0.here hx rfl (pc0 := 45) (pc' := 71) rfl (hb hby at_45) rfl (feq hc45_5).2 (by decide) (by decide) k) ?_
      show Go _ _ _ _ _ _ _ T0 (mkF m 71 #[.val (.long p0), .second, .val (.int p1), .val (.int (p1 &&& (7 : Int32))), .unset, .unset, .unset, .unset, .unset] [])
      refine Go.step (fun _ k => XS.iloadN X0.here hx rfl (hb hby at_71) rfl k) ?_
      show Go _ _ _ _ _ _ _ T0 (mkF m 72 #[.val (.long p0), .second, .val (.int p1), .val (.int (p1 &&& (7 : Int32))), .unset, .unset, .unset, .unset, .unset] [(.int (p1 &&& (7 : Int32)))])
      refine Go.step (fun _ k => XS.iconst X0.here hx rfl (hb hby at_72) k) ?_
      show Go _ _ _ _ _ _ _ T0 (mkF m 73 #[.val (.long p0), .second, .val (.int p1), .val (.int (p1 &&& (7 : Int32))), .unset, .unset, .unset, .unset, .unset] [(.int (3 : Int32)), (.int (p1 &&& (7 : Int32)))])
      by_cases hc73_7 : (p1 &&& (7 : Int32)) = (3 : Int32)
      · refine Go.step (fun _ k => XS.icmpNo X0.here hx rfl (hb hby at_73) rfl (teq hc73_7).2 k) ?_
        show Go _ _ _ _ _ _ _ T0 (mkF m 76 #[.val (.long p0), .second, .val (.int p1), .val (.int (p1 &&& (7 : Int32))), .unset, .unset, .unset, .unset, .unset] [])
        refine Go.step (X0.ldc2DoubleC hx hown (mvT hZ (hw _ (List.mem_of_getElem? (i := 8) rfl))) (g := (mkF m 76 #[.val (.long p0), .second, .val (.int p1), .val (.int (p1 &&& (7 : Int32))), .unset, .unset, .unset, .unset, .unset] [])) rfl (hb hby at_76)) ?_
        show Go _ _ _ _ _ _ _ T0 (mkF m 79 #[.val (.long p0), .second, .val (.int p1), .val (.int (p1 &&& (7 : Int32))), .unset, .unset, .unset, .unset, .unset] [(.double (9218868437227405311 : UInt64))])
        refine Go.step (fun _ k => XS.dstore X0.here hx rfl (hb hby at_79) rfl (l' := #[.val (.long p0), .second, .val (.int p1), .val (.int (p1 &&& (7 : Int32))), .val (.double (9218868437227405311 : UInt64)), .second, .unset, .unset, .unset]) rfl k) ?_
        show Go _ _ _ _ _ _ _ T0 (mkF m 81 #[.val (.long p0), .second, .val (.int p1), .val (.int (p1 &&& (7 : Int32))), .val (.double (9218868437227405311 : UInt64)), .second, .unset, .unset, .unset] [])
        refine Go.step (fun _ k => XS.iconst X0.here hx rfl (hb hby at_81) k) ?_
        show Go _ _ _ _ _ _ _ T0 (mkF m 82 #[.val (.long p0), .second, .val (.int p1), .val (.int (p1 &&& (7 : Int32))), .val (.double (9218868437227405311 : UInt64)), .second, .unset, .unset, .unset] [(.int (1 : Int32))])
        refine Go.step (fun _ k => XS.istore X0.here hx rfl (hb hby at_82) rfl (l' := #[.val (.long p0), .second, .val (.int p1), .val (.int (p1 &&& (7 : Int32))), .val (.double (9218868437227405311 : UInt64)), .second, .val (.int (1 : Int32)), .unset, .unset]) rfl k) ?_
        show Go _ _ _ _ _ _ _ T0 (mkF m 84 #[.val (.long p0), .second, .val (.int p1), .val (.int (p1 &&& (7 : Int32))), .val (.double (9218868437227405311 : UInt64)), .second, .val (.int (1 : Int32)), .unset, .unset] [])
        refine Go.step (fun _ k => XS.goto X0.here hx rfl (pc0 := 84) (pc' := 166) rfl (hb hby at_84) (by decide) (by decide) k) ?_
        show Go _ _ _ _ _ _ _ T0 (mkF m 166 #[.val (.long p0), .second, .val (.int p1), .val (.int (p1 &&& (7 : Int32))), .val (.double (9218868437227405311 : UInt64)), .second, .val (.int (1 : Int32)), .unset, .unset] [])
        refine Go.step (fun _ k => XS.dload X0.here hx rfl (hb hby at_166) rfl k) ?_
        show Go _ _ _ _ _ _ _ T0 (mkF m 168 #[.val (.long p0), .second, .val (.int p1), .val (.int (p1 &&& (7 : Int32))), .val (.double (9218868437227405311 : UInt64)), .second, .val (.int (1 : Int32)), .unset, .unset] [(.double (9218868437227405311 : UInt64))])
        refine Go.callS X0 hx hZ (by rw [hml]; rfl) (y := (⟨"com/example/telegrapher/telegrapher/line/Line", "isPositive", "(D)Z"⟩ : MethodName)) (argsL := [(.double (9218868437227405311 : UInt64))]) (rest := []) hown (hw _ (List.mem_of_getElem? (i := 2) rfl)) (hw _ (List.mem_of_getElem? (i := 3) rfl)) (hw _ (List.mem_of_getElem? (i := 4) rfl)) (hw _ (List.mem_of_getElem? (i := 5) rfl)) (by decide) (rm1 l Z a0 hw (9218868437227405311 : UInt64) h0 n0 Z0) e0 (hb hby at_168) (lenOf pd_0 rfl) rfl rfl (W := 0) (Nat.le_of_eq rfl) (by decide) (by decide) (by decide) (by decide) ?_
        intro v8 T8 L8 X8 Q8
        obtain ⟨rfl, N8q, hh8⟩ := Q8
        have N8 := Fr.app N0 N8q
        show Go _ _ _ _ _ _ _ T8 (mkF m 171 #[.val (.long p0), .second, .val (.int p1), .val (.int (p1 &&& (7 : Int32))), .val (.double (9218868437227405311 : UInt64)), .second, .val (.int (1 : Int32)), .unset, .unset] [(.int (posW (9218868437227405311 : UInt64)))])
        refine Go.step (fun _ k => XS.iload X8.here hx rfl (hb hby at_171) rfl k) ?_
        show Go _ _ _ _ _ _ _ T8 (mkF m 173 #[.val (.long p0), .second, .val (.int p1), .val (.int (p1 &&& (7 : Int32))), .val (.double (9218868437227405311 : UInt64)), .second, .val (.int (1 : Int32)), .unset, .unset] [(.int (1 : Int32)), (.int (posW (9218868437227405311 : UInt64)))])
        refine Go.step (fun _ k => XS.icmpNo X8.here hx rfl (hb hby at_173) rfl (teq own_pos_max).2 k) ?_
        show Go _ _ _ _ _ _ _ T8 (mkF m 176 #[.val (.long p0), .second, .val (.int p1), .val (.int (p1 &&& (7 : Int32))), .val (.double (9218868437227405311 : UInt64)), .second, .val (.int (1 : Int32)), .unset, .unset] [])
        refine Go.step (fun _ k => XS.iconst X8.here hx rfl (hb hby at_176) k) ?_
        show Go _ _ _ _ _ _ _ T8 (mkF m 177 #[.val (.long p0), .second, .val (.int p1), .val (.int (p1 &&& (7 : Int32))), .val (.double (9218868437227405311 : UInt64)), .second, .val (.int (1 : Int32)), .unset, .unset] [(.int (1 : Int32))])
        refine Go.step (fun _ k => XS.goto X8.here hx rfl (pc0 := 177) (pc' := 181) rfl (hb hby at_177) (by decide) (by decide) k) ?_
        show Go _ _ _ _ _ _ _ T8 (mkF m 181 #[.val (.long p0), .second, .val (.int p1), .val (.int (p1 &&& (7 : Int32))), .val (.double (9218868437227405311 : UInt64)), .second, .val (.int (1 : Int32)), .unset, .unset] [(.int (1 : Int32))])
        refine Go.retZ X8 hx hlk hret (by decide) (hb hby at_181) (by decide) (by decide) ?_
        try rw [hh8]
        exact ⟨rfl, N8⟩
      · refine Go.step (fun _ k => XS.icmpYes X0.here hx rfl (pc0 := 73) (pc' := 87) rfl (hb hby at_73) rfl (feq hc73_7).2 (by decide) (by decide) k) ?_
        show Go _ _ _ _ _ _ _ T0 (mkF m 87 #[.val (.long p0), .second, .val (.int p1), .val (.int (p1 &&& (7 : Int32))), .unset, .unset, .unset, .unset, .unset] [])
        refine Go.step (fun _ k => XS.iloadN X0.here hx rfl (hb hby at_87) rfl k) ?_
        show Go _ _ _ _ _ _ _ T0 (mkF m 88 #[.val (.long p0), .second, .val (.int p1), .val (.int (p1 &&& (7 : Int32))), .unset, .unset, .unset, .unset, .unset] [(.int (p1 &&& (7 : Int32)))])
        refine Go.step (fun _ k => XS.iconst X0.here hx rfl (hb hby at_88) k) ?_
        show Go _ _ _ _ _ _ _ T0 (mkF m 89 #[.val (.long p0), .second, .val (.int p1), .val (.int (p1 &&& (7 : Int32))), .unset, .unset, .unset, .unset, .unset] [(.int (4 : Int32)), (.int (p1 &&& (7 : Int32)))])
        by_cases hc89_9 : (p1 &&& (7 : Int32)) = (4 : Int32)
        · refine Go.step (fun _ k => XS.icmpNo X0.here hx rfl (hb hby at_89) rfl (teq hc89_9).2 k) ?_
          show Go _ _ _ _ _ _ _ T0 (mkF m 92 #[.val (.long p0), .second, .val (.int p1), .val (.int (p1 &&& (7 : Int32))), .unset, .unset, .unset, .unset, .unset] [])
          refine Go.step (X0.ldc2DoubleC hx hown (mvT hZ (hw _ (List.mem_of_getElem? (i := 6) rfl))) (g := (mkF m 92 #[.val (.long p0), .second, .val (.int p1), .val (.int (p1 &&& (7 : Int32))), .unset, .unset, .unset, .unset, .unset] [])) rfl (hb hby at_92)) ?_
          show Go _ _ _ _ _ _ _ T0 (mkF m 95 #[.val (.long p0), .second, .val (.int p1), .val (.int (p1 &&& (7 : Int32))), .unset, .unset, .unset, .unset, .unset] [(.double (9218868437227405312 : UInt64))])
          refine Go.step (fun _ k => XS.dstore X0.here hx rfl (hb hby at_95) rfl (l' := #[.val (.long p0), .second, .val (.int p1), .val (.int (p1 &&& (7 : Int32))), .val (.double (9218868437227405312 : UInt64)), .second, .unset, .unset, .unset]) rfl k) ?_
          show Go _ _ _ _ _ _ _ T0 (mkF m 97 #[.val (.long p0), .second, .val (.int p1), .val (.int (p1 &&& (7 : Int32))), .val (.double (9218868437227405312 : UInt64)), .second, .unset, .unset, .unset] [])
          refine Go.step (fun _ k => XS.iconst X0.here hx rfl (hb hby at_97) k) ?_
          show Go _ _ _ _ _ _ _ T0 (mkF m 98 #[.val (.long p0), .second, .val (.int p1), .val (.int (p1 &&& (7 : Int32))), .val (.double (9218868437227405312 : UInt64)), .second, .unset, .unset, .unset] [(.int (0 : Int32))])
          refine Go.step (fun _ k => XS.istore X0.here hx rfl (hb hby at_98) rfl (l' := #[.val (.long p0), .second, .val (.int p1), .val (.int (p1 &&& (7 : Int32))), .val (.double (9218868437227405312 : UInt64)), .second, .val (.int (0 : Int32)), .unset, .unset]) rfl k) ?_
          show Go _ _ _ _ _ _ _ T0 (mkF m 100 #[.val (.long p0), .second, .val (.int p1), .val (.int (p1 &&& (7 : Int32))), .val (.double (9218868437227405312 : UInt64)), .second, .val (.int (0 : Int32)), .unset, .unset] [])
          refine Go.step (fun _ k => XS.goto X0.here hx rfl (pc0 := 100) (pc' := 166) rfl (hb hby at_100) (by decide) (by decide) k) ?_
          show Go _ _ _ _ _ _ _ T0 (mkF m 166 #[.val (.long p0), .second, .val (.int p1), .val (.int (p1 &&& (7 : Int32))), .val (.double (9218868437227405312 : UInt64)), .second, .val (.int (0 : Int32)), .unset, .unset] [])
          refine Go.step (fun _ k => XS.dload X0.here hx rfl (hb hby at_166) rfl k) ?_
          show Go _ _ _ _ _ _ _ T0 (mkF m 168 #[.val (.long p0), .second, .val (.int p1), .val (.int (p1 &&& (7 : Int32))), .val (.double (9218868437227405312 : UInt64)), .second, .val (.int (0 : Int32)), .unset, .unset] [(.double (9218868437227405312 : UInt64))])
          refine Go.callS X0 hx hZ (by rw [hml]; rfl) (y := (⟨"com/example/telegrapher/telegrapher/line/Line", "isPositive", "(D)Z"⟩ : MethodName)) (argsL := [(.double (9218868437227405312 : UInt64))]) (rest := []) hown (hw _ (List.mem_of_getElem? (i := 2) rfl)) (hw _ (List.mem_of_getElem? (i := 3) rfl)) (hw _ (List.mem_of_getElem? (i := 4) rfl)) (hw _ (List.mem_of_getElem? (i := 5) rfl)) (by decide) (rm1 l Z a0 hw (9218868437227405312 : UInt64) h0 n0 Z0) e0 (hb hby at_168) (lenOf pd_0 rfl) rfl rfl (W := 0) (Nat.le_of_eq rfl) (by decide) (by decide) (by decide) (by decide) ?_
          intro v10 T10 L10 X10 Q10
          obtain ⟨rfl, N10q, hh10⟩ := Q10
          have N10 := Fr.app N0 N10q
          show Go _ _ _ _ _ _ _ T10 (mkF m 171 #[.val (.long p0), .second, .val (.int p1), .val (.int (p1 &&& (7 : Int32))), .val (.double (9218868437227405312 : UInt64)), .second, .val (.int (0 : Int32)), .unset, .unset] [(.int (posW (9218868437227405312 : UInt64)))])
          refine Go.step (fun _ k => XS.iload X10.here hx rfl (hb hby at_171) rfl k) ?_
          show Go _ _ _ _ _ _ _ T10 (mkF m 173 #[.val (.long p0), .second, .val (.int p1), .val (.int (p1 &&& (7 : Int32))), .val (.double (9218868437227405312 : UInt64)), .second, .val (.int (0 : Int32)), .unset, .unset] [(.int (0 : Int32)), (.int (posW (9218868437227405312 : UInt64)))])
          refine Go.step (fun _ k => XS.icmpNo X10.here hx rfl (hb hby at_173) rfl (teq own_pos_inf).2 k) ?_
          show Go _ _ _ _ _ _ _ T10 (mkF m 176 #[.val (.long p0), .second, .val (.int p1), .val (.int (p1 &&& (7 : Int32))), .val (.double (9218868437227405312 : UInt64)), .second, .val (.int (0 : Int32)), .unset, .unset] [])
          refine Go.step (fun _ k => XS.iconst X10.here hx rfl (hb hby at_176) k) ?_
          show Go _ _ _ _ _ _ _ T10 (mkF m 177 #[.val (.long p0), .second, .val (.int p1), .val (.int (p1 &&& (7 : Int32))), .val (.double (9218868437227405312 : UInt64)), .second, .val (.int (0 : Int32)), .unset, .unset] [(.int (1 : Int32))])
          refine Go.step (fun _ k => XS.goto X10.here hx rfl (pc0 := 177) (pc' := 181) rfl (hb hby at_177) (by decide) (by decide) k) ?_
          show Go _ _ _ _ _ _ _ T10 (mkF m 181 #[.val (.long p0), .second, .val (.int p1), .val (.int (p1 &&& (7 : Int32))), .val (.double (9218868437227405312 : UInt64)), .second, .val (.int (0 : Int32)), .unset, .unset] [(.int (1 : Int32))])
          refine Go.retZ X10 hx hlk hret (by decide) (hb hby at_181) (by decide) (by decide) ?_
          try rw [hh10]
          exact ⟨rfl, N10⟩
        · refine Go.step (fun _ k => XS.icmpYes X0.here hx rfl (pc0 := 89) (pc' := 103) rfl (hb hby at_89) rfl (feq hc89_9).2 (by decide) (by decide) k) ?_
          show Go _ _ _ _ _ _ _ T0 (mkF m 103 #[.val (.long p0), .second, .val (.int p1), .val (.int (p1 &&& (7 : Int32))), .unset, .unset, .unset, .unset, .unset] [])
          refine Go.step (fun _ k => XS.iloadN X0.here hx rfl (hb hby at_103) rfl k) ?_
          show Go _ _ _ _ _ _ _ T0 (mkF m 104 #[.val (.long p0), .second, .val (.int p1), .val (.int (p1 &&& (7 : Int32))), .unset, .unset, .unset, .unset, .unset] [(.int (p1 &&& (7 : Int32)))])
          refine Go.step (fun _ k => XS.iconst X0.here hx rfl (hb hby at_104) k) ?_
          show Go _ _ _ _ _ _ _ T0 (mkF m 105 #[.val (.long p0), .second, .val (.int p1), .val (.int (p1 &&& (7 : Int32))), .unset, .unset, .unset, .unset, .unset] [(.int (5 : Int32)), (.int (p1 &&& (7 : Int32)))])
          by_cases hc105_11 : (p1 &&& (7 : Int32)) = (5 : Int32)
          · refine Go.step (fun _ k => XS.icmpNo X0.here hx rfl (hb hby at_105) rfl (teq hc105_11).2 k) ?_
            show Go _ _ _ _ _ _ _ T0 (mkF m 108 #[.val (.long p0), .second, .val (.int p1), .val (.int (p1 &&& (7 : Int32))), .unset, .unset, .unset, .unset, .unset] [])
            refine Go.step (X0.ldc2DoubleC hx hown (mvT hZ (hw _ (List.mem_of_getElem? (i := 9) rfl))) (g := (mkF m 108 #[.val (.long p0), .second, .val (.int p1), .val (.int (p1 &&& (7 : Int32))), .unset, .unset, .unset, .unset, .unset] [])) rfl (hb hby at_108)) ?_
            show Go _ _ _ _ _ _ _ T0 (mkF m 111 #[.val (.long p0), .second, .val (.int p1), .val (.int (p1 &&& (7 : Int32))), .unset, .unset, .unset, .unset, .unset] [(.double (18442240474082181120 : UInt64))])
            refine Go.step (fun _ k => XS.dstore X0.here hx rfl (hb hby at_111) rfl (l' := #[.val (.long p0), .second, .val (.int p1), .val (.int (p1 &&& (7 : Int32))), .val (.double (18442240474082181120 : UInt64)), .second, .unset, .unset, .unset]) rfl k) ?_
            show Go _ _ _ _ _ _ _ T0 (mkF m 113 #[.val (.long p0), .second, .val (.int p1), .val (.int (p1 &&& (7 : Int32))), .val (.double (18442240474082181120 : UInt64)), .second, .unset, .unset, .unset] [])
            refine Go.step (fun _ k => XS.iconst X0.here hx rfl (hb hby at_113) k) ?_
            show Go _ _ _ _ _ _ _ T0 (mkF m 114 #[.val (.long p0), .second, .val (.int p1), .val (.int (p1 &&& (7 : Int32))), .val (.double (18442240474082181120 : UInt64)), .second, .unset, .unset, .unset] [(.int (0 : Int32))])
            refine Go.step (fun _ k => XS.istore X0.here hx rfl (hb hby at_114) rfl (l' := #[.val (.long p0), .second, .val (.int p1), .val (.int (p1 &&& (7 : Int32))), .val (.double (18442240474082181120 : UInt64)), .second, .val (.int (0 : Int32)), .unset, .unset]) rfl k) ?_
            show Go _ _ _ _ _ _ _ T0 (mkF m 116 #[.val (.long p0), .second, .val (.int p1), .val (.int (p1 &&& (7 : Int32))), .val (.double (18442240474082181120 : UInt64)), .second, .val (.int (0 : Int32)), .unset, .unset] [])
            refine Go.step (fun _ k => XS.goto X0.here hx rfl (pc0 := 116) (pc' := 166) rfl (hb hby at_116) (by decide) (by decide) k) ?_
            show Go _ _ _ _ _ _ _ T0 (mkF m 166 #[.val (.long p0), .second, .val (.int p1), .val (.int (p1 &&& (7 : Int32))), .val (.double (18442240474082181120 : UInt64)), .second, .val (.int (0 : Int32)), .unset, .unset] [])
            refine Go.step (fun _ k => XS.dload X0.here hx rfl (hb hby at_166) rfl k) ?_
            show Go _ _ _ _ _ _ _ T0 (mkF m 168 #[.val (.long p0), .second, .val (.int p1), .val (.int (p1 &&& (7 : Int32))), .val (.double (18442240474082181120 : UInt64)), .second, .val (.int (0 : Int32)), .unset, .unset] [(.double (18442240474082181120 : UInt64))])
            refine Go.callS X0 hx hZ (by rw [hml]; rfl) (y := (⟨"com/example/telegrapher/telegrapher/line/Line", "isPositive", "(D)Z"⟩ : MethodName)) (argsL := [(.double (18442240474082181120 : UInt64))]) (rest := []) hown (hw _ (List.mem_of_getElem? (i := 2) rfl)) (hw _ (List.mem_of_getElem? (i := 3) rfl)) (hw _ (List.mem_of_getElem? (i := 4) rfl)) (hw _ (List.mem_of_getElem? (i := 5) rfl)) (by decide) (rm1 l Z a0 hw (18442240474082181120 : UInt64) h0 n0 Z0) e0 (hb hby at_168) (lenOf pd_0 rfl) rfl rfl (W := 0) (Nat.le_of_eq rfl) (by decide) (by decide) (by decide) (by decide) ?_
            intro v12 T12 L12 X12 Q12
            obtain ⟨rfl, N12q, hh12⟩ := Q12
            have N12 := Fr.app N0 N12q
            show Go _ _ _ _ _ _ _ T12 (mkF m 171 #[.val (.long p0), .second, .val (.int p1), .val (.int (p1 &&& (7 : Int32))), .val (.double (18442240474082181120 : UInt64)), .second, .val (.int (0 : Int32)), .unset, .unset] [(.int (posW (18442240474082181120 : UInt64)))])
            refine Go.step (fun _ k => XS.iload X12.here hx rfl (hb hby at_171) rfl k) ?_
            show Go _ _ _ _ _ _ _ T12 (mkF m 173 #[.val (.long p0), .second, .val (.int p1), .val (.int (p1 &&& (7 : Int32))), .val (.double (18442240474082181120 : UInt64)), .second, .val (.int (0 : Int32)), .unset, .unset] [(.int (0 : Int32)), (.int (posW (18442240474082181120 : UInt64)))])
            refine Go.step (fun _ k => XS.icmpNo X12.here hx rfl (hb hby at_173) rfl (teq own_pos_ninf).2 k) ?_
            show Go _ _ _ _ _ _ _ T12 (mkF m 176 #[.val (.long p0), .second, .val (.int p1), .val (.int (p1 &&& (7 : Int32))), .val (.double (18442240474082181120 : UInt64)), .second, .val (.int (0 : Int32)), .unset, .unset] [])
            refine Go.step (fun _ k => XS.iconst X12.here hx rfl (hb hby at_176) k) ?_
            show Go _ _ _ _ _ _ _ T12 (mkF m 177 #[.val (.long p0), .second, .val (.int p1), .val (.int (p1 &&& (7 : Int32))), .val (.double (18442240474082181120 : UInt64)), .second, .val (.int (0 : Int32)), .unset, .unset] [(.int (1 : Int32))])
            refine Go.step (fun _ k => XS.goto X12.here hx rfl (pc0 := 177) (pc' := 181) rfl (hb hby at_177) (by decide) (by decide) k) ?_
            show Go _ _ _ _ _ _ _ T12 (mkF m 181 #[.val (.long p0), .second, .val (.int p1), .val (.int (p1 &&& (7 : Int32))), .val (.double (18442240474082181120 : UInt64)), .second, .val (.int (0 : Int32)), .unset, .unset] [(.int (1 : Int32))])
            refine Go.retZ X12 hx hlk hret (by decide) (hb hby at_181) (by decide) (by decide) ?_
            try rw [hh12]
            exact ⟨rfl, N12⟩
          · refine Go.step (fun _ k => XS.icmpYes X0.here hx rfl (pc0 := 105) (pc' := 119) rfl (hb hby at_105) rfl (feq hc105_11).2 (by decide) (by decide) k) ?_
            show Go _ _ _ _ _ _ _ T0 (mkF m 119 #[.val (.long p0), .second, .val (.int p1), .val (.int (p1 &&& (7 : Int32))), .unset, .unset, .unset, .unset, .unset] [])
            refine Go.step (fun _ k => XS.iloadN X0.here hx rfl (hb hby at_119) rfl k) ?_
            show Go _ _ _ _ _ _ _ T0 (mkF m 120 #[.val (.long p0), .second, .val (.int p1), .val (.int (p1 &&& (7 : Int32))), .unset, .unset, .unset, .unset, .unset] [(.int (p1 &&& (7 : Int32)))])
            refine Go.step (fun _ k => XS.bipush X0.here hx rfl (hb hby at_120) k) ?_
            show Go _ _ _ _ _ _ _ T0 (mkF m 122 #[.val (.long p0), .second, .val (.int p1), .val (.int (p1 &&& (7 : Int32))), .unset, .unset, .unset, .unset, .unset] [(.int (6 : Int32)), (.int (p1 &&& (7 : Int32)))])
            by_cases hc122_13 : (p1 &&& (7 : Int32)) = (6 : Int32)
            · refine Go.step (fun _ k => XS.icmpNo X0.here hx rfl (hb hby at_122) rfl (teq hc122_13).2 k) ?_
              show Go _ _ _ _ _ _ _ T0 (mkF m 125 #[.val (.long p0), .second, .val (.int p1), .val (.int (p1 &&& (7 : Int32))), .unset, .unset, .unset, .unset, .unset] [])
              refine Go.step (fun _ k => XS.lloadN X0.here hx rfl (hb hby at_125) rfl k) ?_
              show Go _ _ _ _ _ _ _ T0 (mkF m 126 #[.val (.long p0), .second, .val (.int p1), .val (.int (p1 &&& (7 : Int32))), .unset, .unset, .unset, .unset, .unset] [(.long p0)])
              refine Go.step (fun _ k => XS.l2i X0.here hx rfl (hb hby at_126) rfl k) ?_
              show Go _ _ _ _ _ _ _ T0 (mkF m 127 #[.val (.long p0), .second, .val (.int p1), .val (.int (p1 &&& (7 : Int32))), .unset, .unset, .unset, .unset, .unset] [(.int (p0.toInt32))])
              refine Go.step (fun _ k => XS.istore X0.here hx rfl (hb hby at_127) rfl (l' := #[.val (.long p0), .second, .val (.int p1), .val (.int (p1 &&& (7 : Int32))), .unset, .unset, .unset, .val (.int (p0.toInt32)), .unset]) rfl k) ?_
              show Go _ _ _ _ _ _ _ T0 (mkF m 129 #[.val (.long p0), .second, .val (.int p1), .val (.int (p1 &&& (7 : Int32))), .unset, .unset, .unset, .val (.int (p0.toInt32)), .unset] [])
              refine Go.step (fun _ k => XS.iload X0.here hx rfl (hb hby at_129) rfl k) ?_
              show Go _ _ _ _ _ _ _ T0 (mkF m 131 #[.val (.long p0), .second, .val (.int p1), .val (.int (p1 &&& (7 : Int32))), .unset, .unset, .unset, .val (.int (p0.toInt32)), .unset] [(.int (p0.toInt32))])
              refine Go.step (fun _ k => XS.i2dS X0.here hx rfl (hb hby at_131) rfl rfl k) ?_
              show Go _ _ _ _ _ _ _ T0 (mkF m 132 #[.val (.long p0), .second, .val (.int p1), .val (.int (p1 &&& (7 : Int32))), .unset, .unset, .unset, .val (.int (p0.toInt32)), .unset] [(.double (FP.i2d (p0.toInt32)))])
              refine Go.step (fun _ k => XS.dstore X0.here hx rfl (hb hby at_132) rfl (l' := #[.val (.long p0), .second, .val (.int p1), .val (.int (p1 &&& (7 : Int32))), .val (.double (FP.i2d (p0.toInt32))), .second, .unset, .val (.int (p0.toInt32)), .unset]) rfl k) ?_
              show Go _ _ _ _ _ _ _ T0 (mkF m 134 #[.val (.long p0), .second, .val (.int p1), .val (.int (p1 &&& (7 : Int32))), .val (.double (FP.i2d (p0.toInt32))), .second, .unset, .val (.int (p0.toInt32)), .unset] [])
              refine Go.step (fun _ k => XS.iload X0.here hx rfl (hb hby at_134) rfl k) ?_
              show Go _ _ _ _ _ _ _ T0 (mkF m 136 #[.val (.long p0), .second, .val (.int p1), .val (.int (p1 &&& (7 : Int32))), .val (.double (FP.i2d (p0.toInt32))), .second, .unset, .val (.int (p0.toInt32)), .unset] [(.int (p0.toInt32))])
              by_cases hc136_14 : (0 : Int32) < (p0.toInt32)
              · refine Go.step (fun _ k => XS.ifNo X0.here hx rfl (hb hby at_136) rfl ((if0 _ _).trans (tlt hc136_14).2.2.2) k) ?_
                show Go _ _ _ _ _ _ _ T0 (mkF m 139 #[.val (.long p0), .second, .val (.int p1), .val (.int (p1 &&& (7 : Int32))), .val (.double (FP.i2d (p0.toInt32))), .second, .unset, .val (.int (p0.toInt32)), .unset] [])
                refine Go.step (fun _ k => XS.iconst X0.here hx rfl (hb hby at_139) k) ?_
                show Go _ _ _ _ _ _ _ T0 (mkF m 140 #[.val (.long p0), .second, .val (.int p1), .val (.int (p1 &&& (7 : Int32))), .val (.double (FP.i2d (p0.toInt32))), .second, .unset, .val (.int (p0.toInt32)), .unset] [(.int (1 : Int32))])
                refine Go.step (fun _ k => XS.goto X0.here hx rfl (pc0 := 140) (pc' := 144) rfl (hb hby at_140) (by decide) (by decide) k) ?_
                show Go _ _ _ _ _ _ _ T0 (mkF m 144 #[.val (.long p0), .second, .val (.int p1), .val (.int (p1 &&& (7 : Int32))), .val (.double (FP.i2d (p0.toInt32))), .second, .unset, .val (.int (p0.toInt32)), .unset] [(.int (1 : Int32))])
                refine Go.step (fun _ k => XS.istore X0.here hx rfl (hb hby at_144) rfl (l' := #[.val (.long p0), .second, .val (.int p1), .val (.int (p1 &&& (7 : Int32))), .val (.double (FP.i2d (p0.toInt32))), .second, .val (.int (1 : Int32)), .val (.int (p0.toInt32)), .unset]) rfl k) ?_
                show Go _ _ _ _ _ _ _ T0 (mkF m 146 #[.val (.long p0), .second, .val (.int p1), .val (.int (p1 &&& (7 : Int32))), .val (.double (FP.i2d (p0.toInt32))), .second, .val (.int (1 : Int32)), .val (.int (p0.toInt32)), .unset] [])
                refine Go.step (fun _ k => XS.goto X0.here hx rfl (pc0 := 146) (pc' := 166) rfl (hb hby at_146) (by decide) (by decide) k) ?_
                show Go _ _ _ _ _ _ _ T0 (mkF m 166 #[.val (.long p0), .second, .val (.int p1), .val (.int (p1 &&& (7 : Int32))), .val (.double (FP.i2d (p0.toInt32))), .second, .val (.int (1 : Int32)), .val (.int (p0.toInt32)), .unset] [])
                refine Go.step (fun _ k => XS.dload X0.here hx rfl (hb hby at_166) rfl k) ?_
                show Go _ _ _ _ _ _ _ T0 (mkF m 168 #[.val (.long p0), .second, .val (.int p1), .val (.int (p1 &&& (7 : Int32))), .val (.double (FP.i2d (p0.toInt32))), .second, .val (.int (1 : Int32)), .val (.int (p0.toInt32)), .unset] [(.double (FP.i2d (p0.toInt32)))])
                refine Go.callS X0 hx hZ (by rw [hml]; rfl) (y := (⟨"com/example/telegrapher/telegrapher/line/Line", "isPositive", "(D)Z"⟩ : MethodName)) (argsL := [(.double (FP.i2d (p0.toInt32)))]) (rest := []) hown (hw _ (List.mem_of_getElem? (i := 2) rfl)) (hw _ (List.mem_of_getElem? (i := 3) rfl)) (hw _ (List.mem_of_getElem? (i := 4) rfl)) (hw _ (List.mem_of_getElem? (i := 5) rfl)) (by decide) (rm1 l Z a0 hw (FP.i2d (p0.toInt32)) h0 n0 Z0) e0 (hb hby at_168) (lenOf pd_0 rfl) rfl rfl (W := 0) (Nat.le_of_eq rfl) (by decide) (by decide) (by decide) (by decide) ?_
                intro v15 T15 L15 X15 Q15
                obtain ⟨rfl, N15q, hh15⟩ := Q15
                have N15 := Fr.app N0 N15q
                show Go _ _ _ _ _ _ _ T15 (mkF m 171 #[.val (.long p0), .second, .val (.int p1), .val (.int (p1 &&& (7 : Int32))), .val (.double (FP.i2d (p0.toInt32))), .second, .val (.int (1 : Int32)), .val (.int (p0.toInt32)), .unset] [(.int (posW (FP.i2d (p0.toInt32))))])
                refine Go.step (fun _ k => XS.iload X15.here hx rfl (hb hby at_171) rfl k) ?_
                show Go _ _ _ _ _ _ _ T15 (mkF m 173 #[.val (.long p0), .second, .val (.int p1), .val (.int (p1 &&& (7 : Int32))), .val (.double (FP.i2d (p0.toInt32))), .second, .val (.int (1 : Int32)), .val (.int (p0.toInt32)), .unset] [(.int (1 : Int32)), (.int (posW (FP.i2d (p0.toInt32))))])
                refine Go.step (fun _ k => XS.icmpNo X15.here hx rfl (hb hby at_173) rfl (teq ((own_pos_i2d _).trans (if_pos hc136_14))).2 k) ?_
                show Go _ _ _ _ _ _ _ T15 (mkF m 176 #[.val (.long p0), .second, .val (.int p1), .val (.int (p1 &&& (7 : Int32))), .val (.double (FP.i2d (p0.toInt32))), .second, .val (.int (1 : Int32)), .val (.int (p0.toInt32)), .unset] [])
                refine Go.step (fun _ k => XS.iconst X15.here hx rfl (hb hby at_176) k) ?_
                show Go _ _ _ _ _ _ _ T15 (mkF m 177 #[.val (.long p0), .second, .val (.int p1), .val (.int (p1 &&& (7 : Int32))), .val (.double (FP.i2d (p0.toInt32))), .second, .val (.int (1 : Int32)), .val (.int (p0.toInt32)), .unset] [(.int (1 : Int32))])
                refine Go.step (fun _ k => XS.goto X15.here hx rfl (pc0 := 177) (pc' := 181) rfl (hb hby at_177) (by decide) (by decide) k) ?_
                show Go _ _ _ _ _ _ _ T15 (mkF m 181 #[.val (.long p0), .second, .val (.int p1), .val (.int (p1 &&& (7 : Int32))), .val (.double (FP.i2d (p0.toInt32))), .second, .val (.int (1 : Int32)), .val (.int (p0.toInt32)), .unset] [(.int (1 : Int32))])
                refine Go.retZ X15 hx hlk hret (by decide) (hb hby at_181) (by decide) (by decide) ?_
                try rw [hh15]
                exact ⟨rfl, N15⟩
              · refine Go.step (fun _ k => XS.ifYes X0.here hx rfl (pc0 := 136) (pc' := 143) rfl (hb hby at_136) rfl ((if0 _ _).trans (flt hc136_14).2.2.2) (by decide) (by decide) k) ?_
                show Go _ _ _ _ _ _ _ T0 (mkF m 143 #[.val (.long p0), .second, .val (.int p1), .val (.int (p1 &&& (7 : Int32))), .val (.double (FP.i2d (p0.toInt32))), .second, .unset, .val (.int (p0.toInt32)), .unset] [])
                refine Go.step (fun _ k => XS.iconst X0.here hx rfl (hb hby at_143) k) ?_
                show Go _ _ _ _ _ _ _ T0 (mkF m 144 #[.val (.long p0), .second, .val (.int p1), .val (.int (p1 &&& (7 : Int32))), .val (.double (FP.i2d (p0.toInt32))), .second, .unset, .val (.int (p0.toInt32)), .unset] [(.int (0 : Int32))])
                refine Go.step (fun _ k => XS.istore X0.here hx rfl (hb hby at_144) rfl (l' := #[.val (.long p0), .second, .val (.int p1), .val (.int (p1 &&& (7 : Int32))), .val (.double (FP.i2d (p0.toInt32))), .second, .val (.int (0 : Int32)), .val (.int (p0.toInt32)), .unset]) rfl k) ?_
                show Go _ _ _ _ _ _ _ T0 (mkF m 146 #[.val (.long p0), .second, .val (.int p1), .val (.int (p1 &&& (7 : Int32))), .val (.double (FP.i2d (p0.toInt32))), .second, .val (.int (0 : Int32)), .val (.int (p0.toInt32)), .unset] [])
                refine Go.step (fun _ k => XS.goto X0.here hx rfl (pc0 := 146) (pc' := 166) rfl (hb hby at_146) (by decide) (by decide) k) ?_
                show Go _ _ _ _ _ _ _ T0 (mkF m 166 #[.val (.long p0), .second, .val (.int p1), .val (.int (p1 &&& (7 : Int32))), .val (.double (FP.i2d (p0.toInt32))), .second, .val (.int (0 : Int32)), .val (.int (p0.toInt32)), .unset] [])
                refine Go.step (fun _ k => XS.dload X0.here hx rfl (hb hby at_166) rfl k) ?_
                show Go _ _ _ _ _ _ _ T0 (mkF m 168 #[.val (.long p0), .second, .val (.int p1), .val (.int (p1 &&& (7 : Int32))), .val (.double (FP.i2d (p0.toInt32))), .second, .val (.int (0 : Int32)), .val (.int (p0.toInt32)), .unset] [(.double (FP.i2d (p0.toInt32)))])
                refine Go.callS X0 hx hZ (by rw [hml]; rfl) (y := (⟨"com/example/telegrapher/telegrapher/line/Line", "isPositive", "(D)Z"⟩ : MethodName)) (argsL := [(.double (FP.i2d (p0.toInt32)))]) (rest := []) hown (hw _ (List.mem_of_getElem? (i := 2) rfl)) (hw _ (List.mem_of_getElem? (i := 3) rfl)) (hw _ (List.mem_of_getElem? (i := 4) rfl)) (hw _ (List.mem_of_getElem? (i := 5) rfl)) (by decide) (rm1 l Z a0 hw (FP.i2d (p0.toInt32)) h0 n0 Z0) e0 (hb hby at_168) (lenOf pd_0 rfl) rfl rfl (W := 0) (Nat.le_of_eq rfl) (by decide) (by decide) (by decide) (by decide) ?_
                intro v16 T16 L16 X16 Q16
                obtain ⟨rfl, N16q, hh16⟩ := Q16
                have N16 := Fr.app N0 N16q
                show Go _ _ _ _ _ _ _ T16 (mkF m 171 #[.val (.long p0), .second, .val (.int p1), .val (.int (p1 &&& (7 : Int32))), .val (.double (FP.i2d (p0.toInt32))), .second, .val (.int (0 : Int32)), .val (.int (p0.toInt32)), .unset] [(.int (posW (FP.i2d (p0.toInt32))))])
                refine Go.step (fun _ k => XS.iload X16.here hx rfl (hb hby at_171) rfl k) ?_
                show Go _ _ _ _ _ _ _ T16 (mkF m 173 #[.val (.long p0), .second, .val (.int p1), .val (.int (p1 &&& (7 : Int32))), .val (.double (FP.i2d (p0.toInt32))), .second, .val (.int (0 : Int32)), .val (.int (p0.toInt32)), .unset] [(.int (0 : Int32)), (.int (posW (FP.i2d (p0.toInt32))))])
                refine Go.step (fun _ k => XS.icmpNo X16.here hx rfl (hb hby at_173) rfl (teq ((own_pos_i2d _).trans (if_neg hc136_14))).2 k) ?_
                show Go _ _ _ _ _ _ _ T16 (mkF m 176 #[.val (.long p0), .second, .val (.int p1), .val (.int (p1 &&& (7 : Int32))), .val (.double (FP.i2d (p0.toInt32))), .second, .val (.int (0 : Int32)), .val (.int (p0.toInt32)), .unset] [])
                refine Go.step (fun _ k => XS.iconst X16.here hx rfl (hb hby at_176) k) ?_
                show Go _ _ _ _ _ _ _ T16 (mkF m 177 #[.val (.long p0), .second, .val (.int p1), .val (.int (p1 &&& (7 : Int32))), .val (.double (FP.i2d (p0.toInt32))), .second, .val (.int (0 : Int32)), .val (.int (p0.toInt32)), .unset] [(.int (1 : Int32))])
                refine Go.step (fun _ k => XS.goto X16.here hx rfl (pc0 := 177) (pc' := 181) rfl (hb hby at_177) (by decide) (by decide) k) ?_
                show Go _ _ _ _ _ _ _ T16 (mkF m 181 #[.val (.long p0), .second, .val (.int p1), .val (.int (p1 &&& (7 : Int32))), .val (.double (FP.i2d (p0.toInt32))), .second, .val (.int (0 : Int32)), .val (.int (p0.toInt32)), .unset] [(.int (1 : Int32))])
                refine Go.retZ X16 hx hlk hret (by decide) (hb hby at_181) (by decide) (by decide) ?_
                try rw [hh16]
                exact ⟨rfl, N16⟩
            · refine Go.step (fun _ k => XS.icmpYes X0.here hx rfl (pc0 := 122) (pc' := 149) rfl (hb hby at_122) rfl (feq hc122_13).2 (by decide) (by decide) k) ?_
              show Go _ _ _ _ _ _ _ T0 (mkF m 149 #[.val (.long p0), .second, .val (.int p1), .val (.int (p1 &&& (7 : Int32))), .unset, .unset, .unset, .unset, .unset] [])
              refine Go.step (fun _ k => XS.lloadN X0.here hx rfl (hb hby at_149) rfl k) ?_
              show Go _ _ _ _ _ _ _ T0 (mkF m 150 #[.val (.long p0), .second, .val (.int p1), .val (.int (p1 &&& (7 : Int32))), .unset, .unset, .unset, .unset, .unset] [(.long p0)])
              refine Go.step (fun _ k => XS.l2dS X0.here hx rfl (hb hby at_150) rfl rfl k) ?_
              show Go _ _ _ _ _ _ _ T0 (mkF m 151 #[.val (.long p0), .second, .val (.int p1), .val (.int (p1 &&& (7 : Int32))), .unset, .unset, .unset, .unset, .unset] [(.double (FP.l2d p0))])
              refine Go.step (fun _ k => XS.dstore X0.here hx rfl (hb hby at_151) rfl (l' := #[.val (.long p0), .second, .val (.int p1), .val (.int (p1 &&& (7 : Int32))), .val (.double (FP.l2d p0)), .second, .unset, .unset, .unset]) rfl k) ?_
              show Go _ _ _ _ _ _ _ T0 (mkF m 153 #[.val (.long p0), .second, .val (.int p1), .val (.int (p1 &&& (7 : Int32))), .val (.double (FP.l2d p0)), .second, .unset, .unset, .unset] [])
              refine Go.step (fun _ k => XS.lloadN X0.here hx rfl (hb hby at_153) rfl k) ?_
              show Go _ _ _ _ _ _ _ T0 (mkF m 154 #[.val (.long p0), .second, .val (.int p1), .val (.int (p1 &&& (7 : Int32))), .val (.double (FP.l2d p0)), .second, .unset, .unset, .unset] [(.long p0)])
              refine Go.step (fun _ k => XS.lconst X0.here hx rfl (hb hby at_154) k) ?_
              show Go _ _ _ _ _ _ _ T0 (mkF m 155 #[.val (.long p0), .second, .val (.int p1), .val (.int (p1 &&& (7 : Int32))), .val (.double (FP.l2d p0)), .second, .unset, .unset, .unset] [(.long (0 : Int64)), (.long p0)])
              refine Go.step (fun _ k => XS.lcmp X0.here hx rfl (hb hby at_155) rfl k) ?_
              show Go _ _ _ _ _ _ _ T0 (mkF m 156 #[.val (.long p0), .second, .val (.int p1), .val (.int (p1 &&& (7 : Int32))), .val (.double (FP.l2d p0)), .second, .unset, .unset, .unset] [(.int (lcmpW p0 (0 : Int64)))])
              by_cases hc156_17 : (0 : Int64) < p0
              · refine Go.step (fun _ k => XS.ifNo X0.here hx rfl (hb hby at_156) rfl ((if0 _ _).trans (tlt ((lw_gt p0 (0 : Int64)).mpr hc156_17)).2.2.2) k) ?_
                show Go _ _ _ _ _ _ _ T0 (mkF m 159 #[.val (.long p0), .second, .val (.int p1), .val (.int (p1 &&& (7 : Int32))), .val (.double (FP.l2d p0)), .second, .unset, .unset, .unset] [])
                refine Go.step (fun _ k => XS.iconst X0.here hx rfl (hb hby at_159) k) ?_
                show Go _ _ _ _ _ _ _ T0 (mkF m 160 #[.val (.long p0), .second, .val (.int p1), .val (.int (p1 &&& (7 : Int32))), .val (.double (FP.l2d p0)), .second, .unset, .unset, .unset] [(.int (1 : Int32))])
                refine Go.step (fun _ k => XS.goto X0.here hx rfl (pc0 := 160) (pc' := 164) rfl (hb hby at_160) (by decide) (by decide) k) ?_
                show Go _ _ _ _ _ _ _ T0 (mkF m 164 #[.val (.long p0), .second, .val (.int p1), .val (.int (p1 &&& (7 : Int32))), .val (.double (FP.l2d p0)), .second, .unset, .unset, .unset] [(.int (1 : Int32))])
                refine Go.step (fun _ k => XS.istore X0.here hx rfl (hb hby at_164) rfl (l' := #[.val (.long p0), .second, .val (.int p1), .val (.int (p1 &&& (7 : Int32))), .val (.double (FP.l2d p0)), .second, .val (.int (1 : Int32)), .unset, .unset]) rfl k) ?_
                show Go _ _ _ _ _ _ _ T0 (mkF m 166 #[.val (.long p0), .second, .val (.int p1), .val (.int (p1 &&& (7 : Int32))), .val (.double (FP.l2d p0)), .second, .val (.int (1 : Int32)), .unset, .unset] [])
                refine Go.step (fun _ k => XS.dload X0.here hx rfl (hb hby at_166) rfl k) ?_
                show Go _ _ _ _ _ _ _ T0 (mkF m 168 #[.val (.long p0), .second, .val (.int p1), .val (.int (p1 &&& (7 : Int32))), .val (.double (FP.l2d p0)), .second, .val (.int (1 : Int32)), .unset, .unset] [(.double (FP.l2d p0))])
                refine Go.callS X0 hx hZ (by rw [hml]; rfl) (y := (⟨"com/example/telegrapher/telegrapher/line/Line", "isPositive", "(D)Z"⟩ : MethodName)) (argsL := [(.double (FP.l2d p0))]) (rest := []) hown (hw _ (List.mem_of_getElem? (i := 2) rfl)) (hw _ (List.mem_of_getElem? (i := 3) rfl)) (hw _ (List.mem_of_getElem? (i := 4) rfl)) (hw _ (List.mem_of_getElem? (i := 5) rfl)) (by decide) (rm1 l Z a0 hw (FP.l2d p0) h0 n0 Z0) e0 (hb hby at_168) (lenOf pd_0 rfl) rfl rfl (W := 0) (Nat.le_of_eq rfl) (by decide) (by decide) (by decide) (by decide) ?_
                intro v18 T18 L18 X18 Q18
                obtain ⟨rfl, N18q, hh18⟩ := Q18
                have N18 := Fr.app N0 N18q
                show Go _ _ _ _ _ _ _ T18 (mkF m 171 #[.val (.long p0), .second, .val (.int p1), .val (.int (p1 &&& (7 : Int32))), .val (.double (FP.l2d p0)), .second, .val (.int (1 : Int32)), .unset, .unset] [(.int (posW (FP.l2d p0)))])
                refine Go.step (fun _ k => XS.iload X18.here hx rfl (hb hby at_171) rfl k) ?_
                show Go _ _ _ _ _ _ _ T18 (mkF m 173 #[.val (.long p0), .second, .val (.int p1), .val (.int (p1 &&& (7 : Int32))), .val (.double (FP.l2d p0)), .second, .val (.int (1 : Int32)), .unset, .unset] [(.int (1 : Int32)), (.int (posW (FP.l2d p0)))])
                refine Go.step (fun _ k => XS.icmpNo X18.here hx rfl (hb hby at_173) rfl (teq ((own_pos_l2d _).trans (if_pos hc156_17))).2 k) ?_
                show Go _ _ _ _ _ _ _ T18 (mkF m 176 #[.val (.long p0), .second, .val (.int p1), .val (.int (p1 &&& (7 : Int32))), .val (.double (FP.l2d p0)), .second, .val (.int (1 : Int32)), .unset, .unset] [])
                refine Go.step (fun _ k => XS.iconst X18.here hx rfl (hb hby at_176) k) ?_
                show Go _ _ _ _ _ _ _ T18 (mkF m 177 #[.val (.long p0), .second, .val (.int p1), .val (.int (p1 &&& (7 : Int32))), .val (.double (FP.l2d p0)), .second, .val (.int (1 : Int32)), .unset, .unset] [(.int (1 : Int32))])
                refine Go.step (fun _ k => XS.goto X18.here hx rfl (pc0 := 177) (pc' := 181) rfl (hb hby at_177) (by decide) (by decide) k) ?_
                show Go _ _ _ _ _ _ _ T18 (mkF m 181 #[.val (.long p0), .second, .val (.int p1), .val (.int (p1 &&& (7 : Int32))), .val (.double (FP.l2d p0)), .second, .val (.int (1 : Int32)), .unset, .unset] [(.int (1 : Int32))])
                refine Go.retZ X18 hx hlk hret (by decide) (hb hby at_181) (by decide) (by decide) ?_
                try rw [hh18]
                exact ⟨rfl, N18⟩
              · refine Go.step (fun _ k => XS.ifYes X0.here hx rfl (pc0 := 156) (pc' := 163) rfl (hb hby at_156) rfl ((if0 _ _).trans (flt (fun q => hc156_17 ((lw_gt p0 (0 : Int64)).mp q))).2.2.2) (by decide) (by decide) k) ?_
                show Go _ _ _ _ _ _ _ T0 (mkF m 163 #[.val (.long p0), .second, .val (.int p1), .val (.int (p1 &&& (7 : Int32))), .val (.double (FP.l2d p0)), .second, .unset, .unset, .unset] [])
                refine Go.step (fun _ k => XS.iconst X0.here hx rfl (hb hby at_163) k) ?_
                show Go _ _ _ _ _ _ _ T0 (mkF m 164 #[.val (.long p0), .second, .val (.int p1), .val (.int (p1 &&& (7 : Int32))), .val (.double (FP.l2d p0)), .second, .unset, .unset, .unset] [(.int (0 : Int32))])
                refine Go.step (fun _ k => XS.istore X0.here hx rfl (hb hby at_164) rfl (l' := #[.val (.long p0), .second, .val (.int p1), .val (.int (p1 &&& (7 : Int32))), .val (.double (FP.l2d p0)), .second, .val (.int (0 : Int32)), .unset, .unset]) rfl k) ?_
                show Go _ _ _ _ _ _ _ T0 (mkF m 166 #[.val (.long p0), .second, .val (.int p1), .val (.int (p1 &&& (7 : Int32))), .val (.double (FP.l2d p0)), .second, .val (.int (0 : Int32)), .unset, .unset] [])
                refine Go.step (fun _ k => XS.dload X0.here hx rfl (hb hby at_166) rfl k) ?_
                show Go _ _ _ _ _ _ _ T0 (mkF m 168 #[.val (.long p0), .second, .val (.int p1), .val (.int (p1 &&& (7 : Int32))), .val (.double (FP.l2d p0)), .second, .val (.int (0 : Int32)), .unset, .unset] [(.double (FP.l2d p0))])
                refine Go.callS X0 hx hZ (by rw [hml]; rfl) (y := (⟨"com/example/telegrapher/telegrapher/line/Line", "isPositive", "(D)Z"⟩ : MethodName)) (argsL := [(.double (FP.l2d p0))]) (rest := []) hown (hw _ (List.mem_of_getElem? (i := 2) rfl)) (hw _ (List.mem_of_getElem? (i := 3) rfl)) (hw _ (List.mem_of_getElem? (i := 4) rfl)) (hw _ (List.mem_of_getElem? (i := 5) rfl)) (by decide) (rm1 l Z a0 hw (FP.l2d p0) h0 n0 Z0) e0 (hb hby at_168) (lenOf pd_0 rfl) rfl rfl (W := 0) (Nat.le_of_eq rfl) (by decide) (by decide) (by decide) (by decide) ?_
                intro v19 T19 L19 X19 Q19
                obtain ⟨rfl, N19q, hh19⟩ := Q19
                have N19 := Fr.app N0 N19q
                show Go _ _ _ _ _ _ _ T19 (mkF m 171 #[.val (.long p0), .second, .val (.int p1), .val (.int (p1 &&& (7 : Int32))), .val (.double (FP.l2d p0)), .second, .val (.int (0 : Int32)), .unset, .unset] [(.int (posW (FP.l2d p0)))])
                refine Go.step (fun _ k => XS.iload X19.here hx rfl (hb hby at_171) rfl k) ?_
                show Go _ _ _ _ _ _ _ T19 (mkF m 173 #[.val (.long p0), .second, .val (.int p1), .val (.int (p1 &&& (7 : Int32))), .val (.double (FP.l2d p0)), .second, .val (.int (0 : Int32)), .unset, .unset] [(.int (0 : Int32)), (.int (posW (FP.l2d p0)))])
                refine Go.step (fun _ k => XS.icmpNo X19.here hx rfl (hb hby at_173) rfl (teq ((own_pos_l2d _).trans (if_neg hc156_17))).2 k) ?_
                show Go _ _ _ _ _ _ _ T19 (mkF m 176 #[.val (.long p0), .second, .val (.int p1), .val (.int (p1 &&& (7 : Int32))), .val (.double (FP.l2d p0)), .second, .val (.int (0 : Int32)), .unset, .unset] [])
                refine Go.step (fun _ k => XS.iconst X19.here hx rfl (hb hby at_176) k) ?_
                show Go _ _ _ _ _ _ _ T19 (mkF m 177 #[.val (.long p0), .second, .val (.int p1), .val (.int (p1 &&& (7 : Int32))), .val (.double (FP.l2d p0)), .second, .val (.int (0 : Int32)), .unset, .unset] [(.int (1 : Int32))])
                refine Go.step (fun _ k => XS.goto X19.here hx rfl (pc0 := 177) (pc' := 181) rfl (hb hby at_177) (by decide) (by decide) k) ?_
                show Go _ _ _ _ _ _ _ T19 (mkF m 181 #[.val (.long p0), .second, .val (.int p1), .val (.int (p1 &&& (7 : Int32))), .val (.double (FP.l2d p0)), .second, .val (.int (0 : Int32)), .unset, .unset] [(.int (1 : Int32))])
                refine Go.retZ X19 hx hlk hret (by decide) (hb hby at_181) (by decide) (by decide) ?_
                try rw [hh19]
                exact ⟨rfl, N19⟩
theorem pn_0 : plainName "com/example/telegrapher/telegrapher/line/LineIsPositivePinLaw" = true := by first | (simp [plainName, overriddenIn]; done) | decide +kernel
theorem ef_rm0 (m : MethodId) (p0 : Int64) (p1 : Int32) : entryFrame m #[(.long p0), (.int p1)] maxLocals = mkF m 0 #[.val (.long p0), .second, .val (.int p1), .unset, .unset, .unset, .unset, .unset, .unset] [] := by first | (simp [entryFrame, mkF, argsToLocals, Value.category, maxLocals]; done) | rfl
theorem rm0 (l : Launch) (Z : State) (a0 : Array Value) (hw : ∀ d ∈ tables_1, d.before a0 Z = true) (ws : List Jvm.Cond) (p0 : Int64) (p1 : Int32) (h0 : Heap) (n0 : Nat) (Z0 : n0 ≤ h0.size)  :
    MetFree l x (head1 (Jvm.Cond.code x code maxLocals ret :: ws) room_1) (fun a U => a = #[(.long p0), (.int p1)] ∧ Z.Warmed39 U.vm ∧ U.heap = h0) (fun _ _ _ _ _ => True) (fun _ U o U' => ∃ v L, o = .returned v ∧ (fun r h L => r = some (.int 1) ∧ Fr n0 L) v U'.heap L ∧ FrameEnd U o U' L room_1.cells room_1.slots) :=
  con_of (plainFor_of_name pn_0) (fun p_ e_ s_ m_ b_ meth_ c_ T_ X_ hx hZ hby hml hown hnm hret hlk e0 => Go.cast (ef_rm0 m_ p0 p1) (w0 p0 p1 X_ hx hZ hw hby hml hown hnm hret hlk e0 Z0 (Fr.nil n0) ))
set_option maxRecDepth 65536 in
set_option maxHeartbeats 40000000 in
theorem comes_1 {Post : Tables → Env → Array Value → State → Outcome → State → Prop} (hpost : ∀ tb e args s v u, (limb_1_1.after args s (.returned v) u = true ∧ limb_1_2.after args s (.returned v) u = true ∧ True) → FrameEnd s (.returned v) u (Jvm.fieldLocs frame_1_writes args s ++ Jvm.arrayLocs frame_1_arrays args s ++ Jvm.staticLocs frame_1_statics s) 0 0 → Post tb e args s (.returned v) u) :
    ArmFor flags0 classFile x code maxLocals ret World_1 tables_1 room_1 Calls_1 rest_1 Pre_1 Post := by
  intro l hfl _ _ p e ha hc hk s m args below hf hA hF happ hP
  obtain ⟨hcalls, hrest, hpre⟩ := hP
  obtain ⟨-, -, -, hnamed, -, -, -, hat⟩ := (Spec.applies_iff hf).mp happ
  obtain ⟨hg, hn⟩ := and_e (Cond.before_iff.mp (show (Jvm.Cond.and given_1 narrow_1).before args s = true from hpre))
  obtain ⟨g1, g2⟩ := and_e hg
  obtain ⟨g3, g4⟩ := and_e g2
  obtain ⟨w0, w1, rfl⟩ : ∃ w0 w1 : Value, args = #[w0, w1] := by
    have hs : args.size = 2 := by simpa [Cond.value, given_1] using g1
    obtain ⟨L⟩ := args
    match L, hs with
    | [w0, w1], _ => exact ⟨w0, w1, rfl⟩
  have hw := fun d (hd : d ∈ tables_1) => atoms_spec (ws := Jvm.Cond.code x code maxLocals ret :: tables_1) hat d (List.mem_cons_of_mem _ hd)
  have hfit : Fit s := fun {y c} hc i hi => by
    obtain ⟨ha, rfl⟩ := Array.getElem?_eq_some_iff.mp hc
    have q := List.all_eq_true.mp ((Array.all_eq_true_iff_forall_mem.mp hF) _ (Array.getElem_mem ha)) i (List.mem_range.mpr hi)
    simpa [Array.getElem?_eq_getElem hi] using q
  obtain ⟨i0, ei0⟩ := isL_v g3
  obtain rfl : w0 = (.long i0) := Option.some.inj ei0
  obtain ⟨i1, ei1⟩ := is_v g4
  obtain rfl : w1 = (.int i1) := Option.some.inj ei1
  obtain ⟨n, o, h1, h2, h3, _, L, rfl, ⟨rfl, N⟩, hq⟩ := rm0 l s _ hw tables_1 i0 i1 s.heap s.heap.size (Nat.le_refl _)  p e ha hc hk s m _ below hf ((Spec.applies_iff_loose hf).mp happ).1 ⟨rfl, State.Warmed39.refl s, rfl⟩ trivial
  refine ⟨n, _, h1, h2, h3, hpost _ _ _ _ _ _ ⟨Cond.after_iff.mpr rfl, Cond.after_iff.mpr (eq_i res_at (Term.int_eval (1)) rfl), trivial⟩ ⟨hq.1, hq.2.1, (hq.2.2.sift fun y hy => Or.inr (N y hy)).mono (by decide) (by decide)⟩⟩
theorem main_1_1 : Claimed_1_1 := comes_1 fun _ _ _ _ _ _ h hF => ⟨h.1, hF⟩
theorem main_1_2 : Claimed_1_2 := comes_1 fun _ _ _ _ _ _ h hF => ⟨h.2.1, hF⟩
end Jvm.Pilot.@@N@@
namespace Jvm.Pilot.@@N@@
open Jvm Jvm.ClassFile Sem Op Lib Jvm.Free Jvm.Stand Jvm.Pilot.@@N@@.Jvm.D
/-! MADE BY PROGRAM (witnessworld.py) out of the Statement's table words and the real class files: 9 classes; the members and pool entries that the words name. The judged class is class 1, her method 1. -/
namespace start1
open Jvm.ClassFile
def u (s : String) : CpInfo := .utf8 (stringToUtf16 s)
/-- a pool by its gaps: so many unusable entries, then the entry; so many at the end -/
def gap : Nat → List CpInfo → List CpInfo
  | 0, r => r
  | n + 1, r => .unusable :: gap n r
def poolList (es : List (Nat × CpInfo)) (last : Nat) : List CpInfo := es.foldr (fun e r => gap e.1 (e.2 :: r)) (gap last [])
def pool (es : List (Nat × CpInfo)) (last : Nat) : Array CpInfo := ⟨poolList es last⟩
def fileOf (pool : Array CpInfo) (this : Nat) (attrs : Array Attribute := #[]) (ms : Array MethodInfo := #[]) (fl : Nat := 33) (sup : Nat := 0) (ifs : Array Nat := #[]) (fds : Array FieldInfo := #[]) : ClassFile where
  minorVersion := 0
  majorVersion := 65
  constantPool := pool
  accessFlags := fl
  thisClass := this
  superClass := sup
  interfaces := ifs
  fields := fds
  methods := ms
  attributes := attrs
def plain (name : String) (sup : Option ClassId) : Class where
  name := name
  kind := .ordinary
  loader := none
  accessFlags := 33
  super := sup
  interfaces := #[]
  cf := none
  fields := #[]
  methods := #[]
  instanceTypes := #[]
  staticTypes := #[]
  resolved := #[]
  callSites := []
  init := .initialized
  statics := none
  mirror := none

def pool0 : Array CpInfo := pool [(5, u "<init>"), (0, u "()V"), (1, .class_ 10), (1, u "java/lang/Object")] 113

def k0m0 : Method := { name := "<init>", desc := "()V", sig := { parameters := [], returnType := none }, accessFlags := 1, code := none }
/-- java/lang/Object -/
def k0 : Class := { plain "java/lang/Object" none with
  accessFlags := 33
  interfaces := #[]
  cf := some (fileOf pool0 8 #[] #[{ accessFlags := 1, nameIndex := 5, descriptorIndex := 6, attributes := #[] }] 33 0 #[] #[])
  fields := #[]
  methods := #[k0m0]
  instanceTypes := #[]
  staticTypes := #[]
  resolved := Array.replicate 124 none
  statics := none }

def pool1 : Array CpInfo := pool [(2, .class_ 4), (1, u "java/lang/Object"), (0, u "<init>"), (0, u "()V"), (0, .long 65535), (1, .double 1), (1, .double 9218868437227405311), (1, .double 9218868437227405312), (1, .double 18442240474082181120), (1, .methodref 18 19), (0, .class_ 20), (0, .nameAndType 21 22), (0, u "com/example/telegrapher/telegrapher/line/Line"), (0, u "isPositive"), (0, u "(D)Z"), (0, .class_ 24), (0, u "com/example/telegrapher/telegrapher/line/LineIsPositivePinLaw"), (2, u "law"), (0, u "(JI)Z")] 3

def k1m0 : Method := { name := "<init>", desc := "()V", sig := { parameters := [], returnType := none }, accessFlags := 1, code := none }
def k1c1 : Code := { maxStack := 4, maxLocals := 9, code := code, exceptionTable := #[], attributes := #[] }
def k1m1 : Method := { name := "law", desc := "(JI)Z", sig := { parameters := [.long, .int], returnType := some .boolean }, accessFlags := 9, code := some k1c1 }
/-- com/example/telegrapher/telegrapher/line/LineIsPositivePinLaw -/
def k1 : Class := { plain "com/example/telegrapher/telegrapher/line/LineIsPositivePinLaw" (some 0) with
  accessFlags := 49
  interfaces := #[]
  cf := some (fileOf pool1 23 #[] #[{ accessFlags := 1, nameIndex := 5, descriptorIndex := 6, attributes := #[] }, { accessFlags := 9, nameIndex := 27, descriptorIndex := 28, attributes := #[] }] 49 2 #[] #[])
  fields := #[]
  methods := #[k1m0, k1m1]
  instanceTypes := #[]
  staticTypes := #[]
  resolved := Array.replicate 32 none
  statics := none }

def pool2 : Array CpInfo := pool [(2, .class_ 4), (1, u "java/lang/Object"), (0, u "<init>"), (0, u "()V"), (0, .class_ 8), (0, u "java/lang/Record")] 13

def k2m0 : Method := { name := "<init>", desc := "()V", sig := { parameters := [], returnType := none }, accessFlags := 4, code := none }
/-- java/lang/Record -/
def k2 : Class := { plain "java/lang/Record" (some 0) with
  accessFlags := 1057
  interfaces := #[]
  cf := some (fileOf pool2 7 #[] #[{ accessFlags := 4, nameIndex := 5, descriptorIndex := 6, attributes := #[] }] 1057 2 #[] #[])
  fields := #[]
  methods := #[k2m0]
  instanceTypes := #[]
  staticTypes := #[]
  resolved := Array.replicate 22 none
  statics := none }

def pool3 : Array CpInfo := pool [(2, .class_ 4), (1, u "com/example/telegrapher/telegrapher/line/UniformLine"), (22, .class_ 28), (0, u "com/example/telegrapher/telegrapher/line/UniformLine$PerMetre"), (16, .class_ 46), (0, u "java/lang/Object")] 16

/-- com/example/telegrapher/telegrapher/line/UniformLine -/
def k3 : Class := { plain "com/example/telegrapher/telegrapher/line/UniformLine" (some 0) with
  accessFlags := 1537
  interfaces := #[]
  cf := some (fileOf pool3 2 #[.nestMembers #[27]] #[] 1537 45 #[] #[])
  fields := #[]
  methods := #[]
  instanceTypes := #[]
  staticTypes := #[]
  resolved := Array.replicate 63 none
  statics := none }

def pool4 : Array CpInfo := pool [(2, .class_ 4), (1, u "java/lang/Record"), (3, .class_ 10), (1, u "com/example/telegrapher/telegrapher/line/Line"), (0, u "z0"), (0, u "D"), (2, u "td"), (2, u "len"), (2, u "internalImpedance"), (0, u "Lcom/example/telegrapher/telegrapher/line/InternalImpedance;"), (2, u "g"), (118, .double 9218868437227405312), (3, u "isPositive"), (0, u "(D)Z"), (0, .class_ 151), (0, u "com/example/telegrapher/telegrapher/line/Line$OutOfRangeException"), (38, u "DECIBELS_PER_NEPER"), (0, .class_ 192), (0, u "com/example/telegrapher/telegrapher/line/UniformLine"), (0, u "SPEED_OF_LIGHT"), (1, u "DISTORTIONLESS")] 53

def k4c0 : Code := { maxStack := 4, maxLocals := 2, code := prog_17_method_17_code, exceptionTable := #[], attributes := #[] }
def k4m0 : Method := { name := "isPositive", desc := "(D)Z", sig := { parameters := [.double], returnType := some .boolean }, accessFlags := 8, code := some k4c0 }
/-- com/example/telegrapher/telegrapher/line/Line -/
def k4 : Class := { plain "com/example/telegrapher/telegrapher/line/Line" (some 2) with
  accessFlags := 49
  interfaces := #[3]
  cf := some (fileOf pool4 8 #[.nestMembers #[150]] #[{ accessFlags := 8, nameIndex := 148, descriptorIndex := 149, attributes := #[] }] 49 2 #[191] #[{ accessFlags := 18, nameIndex := 11, descriptorIndex := 12, attributes := #[] }, { accessFlags := 18, nameIndex := 15, descriptorIndex := 12, attributes := #[] }, { accessFlags := 18, nameIndex := 18, descriptorIndex := 12, attributes := #[] }, { accessFlags := 18, nameIndex := 21, descriptorIndex := 22, attributes := #[] }, { accessFlags := 18, nameIndex := 25, descriptorIndex := 12, attributes := #[] }, { accessFlags := 25, nameIndex := 193, descriptorIndex := 12, attributes := #[] }, { accessFlags := 25, nameIndex := 190, descriptorIndex := 12, attributes := #[] }, { accessFlags := 26, nameIndex := 195, descriptorIndex := 12, attributes := #[] }])
  fields := #[{ name := "z0", type := .double, accessFlags := 18, slot := 0, constantValue := 0 }, { name := "td", type := .double, accessFlags := 18, slot := 1, constantValue := 0 }, { name := "len", type := .double, accessFlags := 18, slot := 2, constantValue := 0 }, { name := "internalImpedance", type := (.object "com/example/telegrapher/telegrapher/line/InternalImpedance"), accessFlags := 18, slot := 3, constantValue := 0 }, { name := "g", type := .double, accessFlags := 18, slot := 4, constantValue := 0 }, { name := "SPEED_OF_LIGHT", type := .double, accessFlags := 25, slot := 0, constantValue := 0 }, { name := "DECIBELS_PER_NEPER", type := .double, accessFlags := 25, slot := 1, constantValue := 0 }, { name := "DISTORTIONLESS", type := .double, accessFlags := 26, slot := 2, constantValue := 0 }]
  methods := #[k4m0]
  instanceTypes := #[.double, .double, .double, (.object "com/example/telegrapher/telegrapher/line/InternalImpedance"), .double]
  staticTypes := #[.double, .double, .double]
  resolved := Array.replicate 249 none
  statics := none }

def pool5 : Array CpInfo := pool [(1, u "java/lang/Cloneable"), (0, .class_ 1), (0, u "java/lang/Object"), (0, .class_ 3)] 3

/-- java/lang/Cloneable -/
def k5 : Class := { plain "java/lang/Cloneable" (some 0) with
  accessFlags := 1537
  interfaces := #[]
  cf := some (fileOf pool5 2 #[] #[] 1537 4 #[] #[])
  fields := #[]
  methods := #[]
  instanceTypes := #[]
  staticTypes := #[]
  resolved := Array.replicate 8 none
  statics := none }

def pool6 : Array CpInfo := pool [(1, u "java/io/Serializable"), (0, .class_ 1), (0, u "java/lang/Object"), (0, .class_ 3)] 3

/-- java/io/Serializable -/
def k6 : Class := { plain "java/io/Serializable" (some 0) with
  accessFlags := 1537
  interfaces := #[]
  cf := some (fileOf pool6 2 #[] #[] 1537 4 #[] #[])
  fields := #[]
  methods := #[]
  instanceTypes := #[]
  staticTypes := #[]
  resolved := Array.replicate 8 none
  statics := none }

/-- the primitive byte -/
def k7 : Class := { plain "byte" none with kind := .primitive 'B', accessFlags := 0x411 }
/-- [B -/
def k8 : Class := { plain "[B" (some 0) with kind := .array 7 .byte, interfaces := #[5, 6], accessFlags := 1041 }

def heap : Heap := #[]
def classes : Array Class := #[k0, k1, k2, k3, k4, k5, k6, k7, k8]
def interned : List (Array UInt16 × Addr) := []
def slotsUsed : Nat := 0
def theMethod : MethodId := ⟨1, 1⟩
def args0 : Array Value := #[.long 5, .int 1]
def aboutOver (below : List Frame) : State where
  vm := { classes := classes, interned := interned.toArray }
  heap := heap
  slotsUsed := slotsUsed
  threads := #[{ frames := .invoking theMethod args0 :: below }]
def below0 : List Frame := [.native { method := ⟨0, 0⟩, args := #[] }]
def about1 : State := aboutOver below0
def p0 : Program := .bare "" "" ""
def e0 : Env := launch0.env 0 0 0
theorem w_frames : about1.frames = Frame.invoking theMethod args0 :: below0 := rfl
set_option maxRecDepth 65536 in
theorem w_args : argsFit about1.vm theMethod args0 = true := by decide +kernel
set_option maxRecDepth 65536 in
theorem w_heap : heapFits about1 = true := by decide +kernel
set_option maxRecDepth 65536 in
theorem w_runnable : about1.curStatus? = some .runnable := by decide +kernel
set_option maxRecDepth 65536 in
theorem w_alone : about1.alone = true := by decide +kernel
set_option maxRecDepth 65536 in
theorem w_named : about1.methodNamed? x = some theMethod := by decide +kernel
set_option maxRecDepth 65536 in
theorem w_hears : about1.hears theMethod below0 = true := by decide +kernel
set_option maxRecDepth 65536 in
theorem w_ripe : about1.ripe theMethod args0 below0 = true := by decide +kernel
theorem w_running : about1.status = .running := rfl
set_option maxRecDepth 65536 in
theorem w_room : about1.hasRoom e0.platform room_1 = true :=
  launch0.hasRoom_least _ room_1 (by decide +kernel) (by decide +kernel) (by decide +kernel) (by decide +kernel) (by decide +kernel) (by decide +kernel)
theorem allAtoms_all (ts : List Jvm.Cond) (a : Array Jvm.Value) (st : Jvm.State) : (allAtoms ts).before a st = ts.all (fun c => c.before a st) := by
  induction ts with
  | nil => rfl
  | cons c t ih =>
    show (Jvm.Cond.and c (allAtoms t)).before a st = _
    rw [Jvm.Cond.before_and, ih, List.all_cons]
def words1 : List Jvm.Cond := Jvm.Cond.code x code maxLocals ret :: tables_1
/-- a 'code' word, met by the world's own term for the bytes: nothing is compared byte by byte -/
theorem code_word {y : MethodName} {bytes : ByteArray} {mx : Nat} {rt : Option FieldType} {a : Array Value} {s : State} {m : MethodId} {meth : Method} {c : Code} (h1 : s.methodNamed? y = some m) (h2 : s.vm.method? m = some meth) (h3 : meth.code = some c) (h4 : c.code = bytes)
    (h5 : (c.maxLocals == mx && c.exceptionTable.isEmpty && decide (c.maxStack ≤ mostOperands) && decide (meth.sig.returnType = rt) && !meth.locks && decide (parseMethodDescriptor y.desc = some meth.sig)) = true) : (Jvm.Cond.code y bytes mx rt).before a s = true := by
  simp only [Bool.and_eq_true, beq_iff_eq, Bool.not_eq_true', decide_eq_true_eq] at h5
  obtain ⟨⟨⟨⟨⟨g1, g2⟩, g3⟩, g4⟩, g5⟩, g6⟩ := h5
  simp [Cond.before, Cond.holds, Cond.value, h1, h2, h3, h4, g1, g2, g3, g4, g5, g6]
def isCode : Jvm.Cond → Bool
  | .code _ _ _ _ => true
  | _ => false
theorem all_split {L : List Jvm.Cond} {P : Jvm.Cond → Bool} (h1 : L.all (fun c => isCode c || P c) = true) (h2 : ∀ c ∈ L.filter isCode, P c = true) : L.all P = true := by
  refine List.all_eq_true.mpr fun c hc => ?_
  have h := List.all_eq_true.mp h1 c hc
  rcases Bool.eq_false_or_eq_true (isCode c) with hi | hi
  · exact h2 c (List.mem_filter.mpr ⟨hc, hi⟩)
  · simpa [hi] using h
set_option maxRecDepth 65536 in
theorem w_c0 : (Jvm.Cond.code x code maxLocals ret).before args0 about1 = true := code_word (m := ⟨1, 1⟩) (meth := k1m1) (c := k1c1) (by decide +kernel) rfl rfl rfl (by decide +kernel)
set_option maxRecDepth 65536 in
theorem w_c1 : (Jvm.Cond.code ({ cls := "com/example/telegrapher/telegrapher/line/Line", name := "isPositive", desc := "(D)Z" } : Jvm.MethodName) prog_17_method_17_code (2 : Nat) (Option.some Jvm.ClassFile.FieldType.boolean)).before args0 about1 = true := code_word (m := ⟨4, 0⟩) (meth := k4m0) (c := k4c0) (by decide +kernel) rfl rfl rfl (by decide +kernel)
def codes1 : List Jvm.Cond := [Jvm.Cond.code x code maxLocals ret, Jvm.Cond.code ({ cls := "com/example/telegrapher/telegrapher/line/Line", name := "isPositive", desc := "(D)Z" } : Jvm.MethodName) prog_17_method_17_code (2 : Nat) (Option.some Jvm.ClassFile.FieldType.boolean)]
set_option maxRecDepth 65536 in
theorem codes_eq : words1.filter isCode = codes1 := rfl
theorem w_codes : ∀ c ∈ words1.filter isCode, c.before args0 about1 = true := by
  rw [codes_eq]
  intro c hc
  simp only [codes1, List.mem_cons, List.not_mem_nil, or_false] at hc
  rcases hc with rfl | rfl
  · exact w_c0
  · exact w_c1
set_option maxRecDepth 65536 in
theorem w_t1 : words1.all (fun c => isCode c || c.before args0 about1) = true := by decide +kernel
theorem w_tables : (allAtoms (Jvm.Cond.code x code maxLocals ret :: tables_1)).before args0 about1 = true := by
  rw [allAtoms_all]
  show words1.all (fun c => c.before args0 about1) = true
  refine all_split ?_ w_codes
  rw [w_t1]
set_option maxRecDepth 65536 in
theorem w_case : (Jvm.Cond.and given_1 narrow_1).before args0 about1 = true := by decide +kernel
theorem w_applies : (headSpec (Jvm.Cond.code x code maxLocals ret :: tables_1) room_1).applies x e0.platform about1 = true :=
  (Spec.applies_iff w_frames).mpr ⟨w_running, w_runnable, w_alone, w_named, w_hears, w_ripe, w_room, w_tables⟩
theorem atStart : AtStart classFile x code maxLocals ret World_1 tables_1 room_1 Calls_1 rest_1 Pre_1 launch0 p0 e0 about1 theMethod args0 below0 :=
  ⟨lists_1, trivial, launch0.admits_env _ _ _, launch0.least_env, fairChoices_fair.cas, fairChoices_fair.clock, w_frames, w_args, w_heap, w_applies, trivial, trivial, w_case⟩
end start1
theorem witness_1 : WitnessClaimed_1 := ⟨start1.p0, start1.e0, start1.about1, start1.theMethod, start1.args0, start1.below0, start1.atStart⟩
end Jvm.Pilot.@@N@@
