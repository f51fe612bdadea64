import JvmDerived
import JvmDerived.Pilot.@@N@@Statement
import JvmDerived.Pilot.@@N@@Code
set_option linter.unusedVariables false
set_option linter.unusedSimpArgs false
namespace Jvm.Pilot.@@N@@
open Jvm Jvm.ClassFile Sem Op Lib Jvm.Free Jvm.Stand Jvm.LawKit Jvm.RoadKit Bundle Jvm.Pilot.@@N@@.Jvm.D
/-! OWN: the walk as a tree. Go: from here the run comes to a return that Q allows. -/
def Go (p : Program) (e : Env) (below : List Frame) (s : State) (C S : Nat) (Q : Option Value → Heap → List Loc → Prop) (T : State) (g : JFrame) : Prop :=
  ∃ s₂ o, Steps p.tables e below (T.setTop g) s₂ ∧ s₂.status = .running ∧ Ended s₂ below o ∧ ∃ v L, o = .returned v ∧ Q v s₂.heap L ∧ FrameEnd s o s₂ L C S
section OwnGo
variable {p : Program} {l : Launch} {e : Env} {R : Room} {s : State} {m : MethodId} {args : Array Value} {below : List Frame} {meth : Method} {c : Code} {T T' : State} {locs : List Loc} {cells slots : Nat} {Z : State} {a0 : Array Value} {h : Heap} {C S : Nat} {Q : Option Value → Heap → List Loc → Prop} {g g' : JFrame}
theorem Go.step (st : ∀ target, Steps p.tables e below (T'.setTop g') target → Steps p.tables e below (T.setTop g) target) (h : Go p e below s C S Q T' g') : Go p e below s C S Q T g := by
  obtain ⟨s₂, o, h1, r⟩ := h; exact ⟨s₂, o, st _ h1, r⟩
theorem Go.cast (q : g = g') (h : Go p e below s C S Q T g') : Go p e below s C S Q T g := q ▸ h
theorem Go.ret (X : Stand p l e R s m args below meth c T locs cells slots) (hlk : meth.locks = false) {v : Option Value} (hv : meth.sig.returnType = none → v = none)
    (st : ∀ fs, (∀ (f : JFrame) (acts : List Action), f.method = m → f.locked = none → f.entered = [] → (doReturn e (T.setTop f) acts v).1 = T.setFrames fs) → Steps p.tables e below (T.setTop g) (T.setFrames fs))
    (hq : Q v T.heap locs) (hc : cells ≤ C) (hs : slots ≤ S) : Go p e below s C S Q T g := by
  obtain ⟨fs, hr, hrun, hended, hW, hsame⟩ := X.leave (v := v) hv hlk
  exact ⟨_, _, st fs hr, hrun, hended, v, locs, rfl, hq, ⟨_, rfl⟩, hW, hsame.mono hc hs⟩
theorem Go.retV (X : Stand p l e R s m args below meth c T locs cells slots) (hx : p.tables.exec = Jvm.exec) (hlk : meth.locks = false) (hret : meth.sig.returnType = none) {pc : Nat} {Ls : Array Slot} (hd : decode c.code pc = .ok (.return_, 1))
    (hc : cells ≤ C) (hs : slots ≤ S) (hq : Q none T.heap locs) : Go p e below s C S Q T (mkF m pc Ls []) :=
  Go.ret X hlk (fun _ => rfl) (fun fs hr => X.returnOut hx hret hd hr) hq hc hs
theorem Go.retW (X : Stand p l e R s m args below meth c T locs cells slots) (hx : p.tables.exec = Jvm.exec) (hlk : meth.locks = false) {t : FieldType} (hret : meth.sig.returnType = some t) {pc : Nat} {Ls : Array Slot} {w : Value} {i : Instr} {rest : List Value} (hn : narrow t w = w)
    (hi : (i = .ireturn ∧ (t = .int ∨ t = .boolean ∨ t = .byte ∨ t = .char ∨ t = .short) ∧ ∃ z, w = .int z) ∨ (i = .lreturn ∧ t = .long ∧ ∃ z, w = .long z) ∨ (i = .dreturn ∧ t = .double ∧ ∃ z, w = .double z) ∨ (i = .freturn ∧ t = .float ∧ ∃ z, w = .float z) ∨ (i = .areturn ∧ t.isReference = true ∧ w.isRef = true))
    (hd : decode c.code pc = .ok (i, 1)) (hc : cells ≤ C) (hs : slots ≤ S) (hq : Q (some w) T.heap locs) : Go p e below s C S Q T (mkF m pc Ls (w :: rest)) :=
  Go.ret X hlk (fun h => by rw [hret] at h; cases h) (fun fs hr => retOut X hx hret hn hi hd hr) hq hc hs
theorem Go.retI (X : Stand p l e R s m args below meth c T locs cells slots) (hx : p.tables.exec = Jvm.exec) (hlk : meth.locks = false) (hret : meth.sig.returnType = some .int) {pc : Nat} {Ls : Array Slot} {z : Int32} {rest : List Value}
    (hd : decode c.code pc = .ok (.ireturn, 1)) (hc : cells ≤ C) (hs : slots ≤ S) (hq : Q (some (.int z)) T.heap locs) : Go p e below s C S Q T (mkF m pc Ls (.int z :: rest)) :=
  Go.retW X hx hlk hret rfl (Or.inl ⟨rfl, Or.inl rfl, z, rfl⟩) hd hc hs hq
theorem Go.retZ (X : Stand p l e R s m args below meth c T locs cells slots) (hx : p.tables.exec = Jvm.exec) (hlk : meth.locks = false) (hret : meth.sig.returnType = some .boolean) {pc : Nat} {Ls : Array Slot} {z : Int32} {rest : List Value} (hz : z = 0 ∨ z = 1)
    (hd : decode c.code pc = .ok (.ireturn, 1)) (hc : cells ≤ C) (hs : slots ≤ S) (hq : Q (some (.int z)) T.heap locs) : Go p e below s C S Q T (mkF m pc Ls (.int z :: rest)) :=
  Go.retW X hx hlk hret (by rcases hz with rfl | rfl <;> rfl) (Or.inl ⟨rfl, Or.inr (Or.inl rfl), z, rfl⟩) hd hc hs hq
theorem Go.retJ (X : Stand p l e R s m args below meth c T locs cells slots) (hx : p.tables.exec = Jvm.exec) (hlk : meth.locks = false) (hret : meth.sig.returnType = some .long) {pc : Nat} {Ls : Array Slot} {z : Int64} {rest : List Value}
    (hd : decode c.code pc = .ok (.lreturn, 1)) (hc : cells ≤ C) (hs : slots ≤ S) (hq : Q (some (.long z)) T.heap locs) : Go p e below s C S Q T (mkF m pc Ls (.long z :: rest)) :=
  Go.retW X hx hlk hret rfl (Or.inr (Or.inl ⟨rfl, rfl, z, rfl⟩)) hd hc hs hq
theorem Go.retD (X : Stand p l e R s m args below meth c T locs cells slots) (hx : p.tables.exec = Jvm.exec) (hlk : meth.locks = false) (hret : meth.sig.returnType = some .double) {pc : Nat} {Ls : Array Slot} {z : UInt64} {rest : List Value}
    (hd : decode c.code pc = .ok (.dreturn, 1)) (hc : cells ≤ C) (hs : slots ≤ S) (hq : Q (some (.double z)) T.heap locs) : Go p e below s C S Q T (mkF m pc Ls (.double z :: rest)) :=
  Go.retW X hx hlk hret rfl (Or.inr (Or.inr (Or.inl ⟨rfl, rfl, z, rfl⟩))) hd hc hs hq
theorem Go.retR (X : Stand p l e R s m args below meth c T locs cells slots) (hx : p.tables.exec = Jvm.exec) (hlk : meth.locks = false) {t : FieldType} (hret : meth.sig.returnType = some t) (ht : t.isReference = true) {pc : Nat} {Ls : Array Slot} {w : Value} {rest : List Value} (hn : narrow t w = w) (hw : w.isRef = true)
    (hd : decode c.code pc = .ok (.areturn, 1)) (hc : cells ≤ C) (hs : slots ≤ S) (hq : Q (some w) T.heap locs) : Go p e below s C S Q T (mkF m pc Ls (w :: rest)) :=
  Go.retW X hx hlk hret hn (Or.inr (Or.inr (Or.inr (Or.inr ⟨rfl, ht, hw⟩)))) hd hc hs hq
/-- a method's contract out of its walk -/
theorem con_of {y : MethodName} {bytes : ByteArray} {ml : Nat} {rt : Option FieldType} {ws : List Jvm.Cond} {rm : Room} {as' : Array Value} {h0 : Heap} (hpl : plainFor y = true)
    (body : ∀ (p : Program) (e : Env) (s : State) (m : MethodId) (below : List Frame) (meth : Method) (c : Code) (T : State), Stand p l e rm s m as' below meth c T [] 0 0 → p.tables.exec = Jvm.exec → Z.Warmed39 s.vm → c.code = bytes → c.maxLocals = ml → s.vm.findClass y.cls = some m.cls → meth.name = y.name →
      meth.sig.returnType = rt → meth.locks = false → T.heap = h0 → Go p e below s rm.cells rm.slots Q T (entryFrame m as' ml)) :
    MetFree l y (head1 (Jvm.Cond.code y bytes ml rt :: ws) rm) (fun a U => a = as' ∧ Z.Warmed39 U.vm ∧ U.heap = h0) (fun _ _ _ _ _ => True) (fun _ U o U' => ∃ v L, o = .returned v ∧ Q v U'.heap L ∧ FrameEnd U o U' L rm.cells rm.slots) := by
  refine MetFree.of_bodySF hpl hisR ?_
  intro p e s m args below meth c s₁ Bd hml0 hP hK
  obtain ⟨rfl, hZ, hh⟩ := hP
  exact body p e s m below meth c s₁ (Stand.of_body Bd) Bd.exec hZ Bd.bytes hml0 (findClass_of_methodNamed Bd.named) (name_of_methodNamed Bd.named Bd.method).1 Bd.returns (BodyLoose.notSynchronized Bd) (by rw [← hh, Bd.state]; rfl)
abbrev Con (l : Launch) (Z : State) (y : MethodName) (bytes : ByteArray) (ml : Nat) (rt : Option FieldType) (rm : Room) (as' : Array Value) (h0 : Heap) (Q : Option Value → Heap → List Loc → Prop) : Prop :=
  MetFree l y (head1 [Jvm.Cond.code y bytes ml rt] rm) (fun a U => a = as' ∧ Z.Warmed39 U.vm ∧ U.heap = h0) (fun _ _ _ _ _ => True) (fun _ U o U' => ∃ v L, o = .returned v ∧ Q v U'.heap L ∧ FrameEnd U o U' L rm.cells rm.slots)
theorem Go.callS (X : Stand p l e R s m args below meth c T locs cells slots) (hx : p.tables.exec = Jvm.exec) (hZ : Z.Warmed39 s.vm) {own : String} {index : Nat} {y : MethodName} {bytes : ByteArray} {maxL : Nat} {ret : Option FieldType} {rm : Room} {as' : Array Value} {Qc : Option Value → Heap → List Loc → Prop} {W pc : Nat} {Ls : Array Slot} {st : List Value} {argsL rest : List Value} (hml : Ls.size = c.maxLocals)
    (hown : s.vm.findClass own = some m.cls) (w1 : (Jvm.Cond.methodLink own index y).before a0 Z = true) (w2 : (Jvm.Cond.static y).before a0 Z = true) (w3 : (Jvm.Cond.initialized y.cls).before a0 Z = true) (w4 : (Jvm.Cond.code y bytes maxL ret).before a0 Z = true) (hy : y.cls ≠ "java/lang/invoke/MethodHandle" ∧ y.cls ≠ "java/lang/invoke/VarHandle")
    (hM : Con l Z y bytes maxL ret rm as' h Qc) (eT : T.heap = h) (hd : decode c.code pc = .ok (.invokestatic index, 3)) (hlen : ∀ sig, parseMethodDescriptor y.desc = some sig → argsL.length = sig.parameters.length) (hst : st = argsL.reverse ++ rest) (has : argsL.toArray = as')
    (hW : (rest.map fun v => v.category).sum ≤ W) (hf : rm.frames + 1 ≤ R.frames) (hl : W + (maxL + 11) + rm.locals ≤ R.locals) (hc : cells + rm.cells ≤ R.cells) (hs : slots + rm.slots ≤ R.slots)
    (k : ∀ (v : Option Value) (T' : State) (L : List Loc), Stand p l e R s m args below meth c T' (locs ++ L) (cells + rm.cells) (slots + rm.slots) → Qc v T'.heap L → Go p e below s C S Q T' (mkF m (pc + 3) Ls (v.toList ++ rest))) :
    Go p e below s C S Q T (mkF m pc Ls st) := by
  obtain ⟨v, _, ⟨T', L', k', n'⟩, -, X', ⟨Lc, hQ, l1, y1, z1⟩, stp⟩ := Jvm.LawKit.callS X hx (y := y) hown (mvT hZ w1) (mvT hZ w2) (mvT hZ w3) (mvT hZ w4) hy (backOf (W := W) hM hZ w4 w3 hf hl) (g := mkF m pc Ls st) rfl hml (argsL := argsL) (rest := rest) hlen hst (by show 2 * 0 + _ ≤ _; omega) hd (fun _ _ => ⟨has, eT, hc, hs⟩)
  dsimp only [Pt.U, Pt.locs, Pt.cells, Pt.slots] at X' l1 y1 z1 stp hQ
  subst l1 y1 z1
  exact Go.step stp (k v T' Lc X' hQ)
theorem Go.callI (X : Stand p l e R s m args below meth c T locs cells slots) (hx : p.tables.exec = Jvm.exec) (hZ : Z.Warmed39 s.vm) {own : String} {index : Nat} {y : MethodName} {bytes : ByteArray} {maxL : Nat} {rm : Room} {as' : Array Value} {Qc : Option Value → Heap → List Loc → Prop} {W pc : Nat} {Ls : Array Slot} {st : List Value} {a : Addr} {argsL rest : List Value} (hml : Ls.size = c.maxLocals)
    (hy1 : y.name = "<init>") (hown : s.vm.findClass own = some m.cls) (w1 : (Jvm.Cond.methodLink own index y).before a0 Z = true) (w2 : (Jvm.Cond.instanceMethod y).before a0 Z = true) (w3 : (Jvm.Cond.initialized y.cls).before a0 Z = true) (w4 : (Jvm.Cond.code y bytes maxL none).before a0 Z = true) (hy : y.cls ≠ "java/lang/invoke/MethodHandle" ∧ y.cls ≠ "java/lang/invoke/VarHandle")
    (hM : Con l Z y bytes maxL none rm as' h Qc) (eT : T.heap = h) (hd : decode c.code pc = .ok (.invokespecial index, 3)) (hlen : ∀ sig, parseMethodDescriptor y.desc = some sig → argsL.length = sig.parameters.length) (hst : st = argsL.reverse ++ .ref a :: rest) (has : (Value.ref a :: argsL).toArray = as')
    (hW : (rest.map fun v => v.category).sum ≤ W) (hf : rm.frames + 1 ≤ R.frames) (hl : W + (maxL + 11) + rm.locals ≤ R.locals) (hc : cells + rm.cells ≤ R.cells) (hs : slots + rm.slots ≤ R.slots)
    (k : ∀ (v : Option Value) (T' : State) (L : List Loc), Stand p l e R s m args below meth c T' (locs ++ L) (cells + rm.cells) (slots + rm.slots) → Qc v T'.heap L → Go p e below s C S Q T' (mkF m (pc + 3) Ls (v.toList ++ rest))) :
    Go p e below s C S Q T (mkF m pc Ls st) := by
  obtain ⟨v, _, ⟨T', L', k', n'⟩, -, X', ⟨Lc, hQ, l1, y1, z1⟩, stp⟩ := X.specialBack hx (y := y) hy1 hown (mvT hZ w1) (mvT hZ w2) (mvT hZ w4) hy (backOf (W := W) hM hZ w4 w3 hf hl) (g := mkF m pc Ls st) rfl hml (Steps.refl _) (a := a) (argsL := argsL) (rest := rest) hlen hst (by show 2 * 0 + _ ≤ _; omega) hd (fun _ _ => ⟨has, eT, hc, hs⟩)
  dsimp only [Pt.U, Pt.locs, Pt.cells, Pt.slots] at X' l1 y1 z1 stp hQ
  subst l1 y1 z1
  exact Go.step (fun _ q => stp.trans q) (k v T' Lc X' hQ)
theorem Go.callV (X : Stand p l e R s m args below meth c T locs cells slots) (hx : p.tables.exec = Jvm.exec) (hZ : Z.Warmed39 s.vm) {own K : String} {index : Nat} {y z : MethodName} {bytes : ByteArray} {maxL : Nat} {ret : Option FieldType} {rm : Room} {as' : Array Value} {Qc : Option Value → Heap → List Loc → Prop} {W pc : Nat} {Ls : Array Slot} {st : List Value} {a : Addr} {argsL rest : List Value} (hml : Ls.size = c.maxLocals)
    (hown : s.vm.findClass own = some m.cls) (w1 : (Jvm.Cond.methodLink own index y).before a0 Z = true) (w2 : (Jvm.Cond.declares y).before a0 Z = true) (hnf : NotFace s y) (w5 : (Jvm.Cond.selects K y z).before a0 Z = true) (w6 : (Jvm.Cond.instanceMethod z).before a0 Z = true) (w3 : (Jvm.Cond.initialized z.cls).before a0 Z = true) (w4 : (Jvm.Cond.code z bytes maxL ret).before a0 Z = true) (hy : y.cls ≠ "java/lang/invoke/MethodHandle" ∧ y.cls ≠ "java/lang/invoke/VarHandle")
    (hM : Con l Z z bytes maxL ret rm as' h Qc) (eT : T.heap = h) (E : Exa Z h a K) (hd : decode c.code pc = .ok (.invokevirtual index, 3)) (hlen : ∀ sig, parseMethodDescriptor y.desc = some sig → argsL.length = sig.parameters.length) (hst : st = argsL.reverse ++ .ref a :: rest) (has : (Value.ref a :: argsL).toArray = as')
    (hW : (rest.map fun v => v.category).sum ≤ W) (hf : rm.frames + 1 ≤ R.frames) (hl : W + (maxL + 11) + rm.locals ≤ R.locals) (hc : cells + rm.cells ≤ R.cells) (hs : slots + rm.slots ≤ R.slots)
    (k : ∀ (v : Option Value) (T' : State) (L : List Loc), Stand p l e R s m args below meth c T' (locs ++ L) (cells + rm.cells) (slots + rm.slots) → Qc v T'.heap L → Go p e below s C S Q T' (mkF m (pc + 3) Ls (v.toList ++ rest))) :
    Go p e below s C S Q T (mkF m pc Ls st) := by
  obtain ⟨cq, kq, qa, qb, qc⟩ := isOf hZ eT E
  obtain ⟨v, _, ⟨T', L', k', n'⟩, -, X', ⟨Lc, hQ, l1, y1, z1⟩, stp⟩ := X.virtualBack hx (y := y) (z := z) hown (mvT hZ w1) (mvT hZ w2) hnf (mvT hZ w5) (mvT hZ w6) hy (backOf (W := W) hM hZ w4 w3 hf hl) qa qc (g := mkF m pc Ls st) rfl hml (Steps.refl _) (argsL := argsL) (rest := rest) hlen hst (by show 2 * 0 + _ ≤ _; omega) hd (fun _ _ => ⟨has, eT, hc, hs⟩)
  dsimp only [Pt.U, Pt.locs, Pt.cells, Pt.slots] at X' l1 y1 z1 stp hQ
  subst l1 y1 z1
  exact Go.step (fun _ q => stp.trans q) (k v T' Lc X' hQ)
theorem Go.callP (X : Stand p l e R s m args below meth c T locs cells slots) (hx : p.tables.exec = Jvm.exec) (hZ : Z.Warmed39 s.vm) {own : String} {index : Nat} {y : MethodName} {bytes : ByteArray} {maxL : Nat} {ret : Option FieldType} {rm : Room} {as' : Array Value} {Qc : Option Value → Heap → List Loc → Prop} {W pc : Nat} {Ls : Array Slot} {st : List Value} {a : Addr} {argsL rest : List Value} (hml : Ls.size = c.maxLocals)
    (hown : s.vm.findClass own = some m.cls) (w1 : (Jvm.Cond.methodLink own index y).before a0 Z = true) (w6 : (Jvm.Cond.instanceMethod y).before a0 Z = true) {kk : Nat} (w5 : (Jvm.Cond.instantiable y.cls kk).before a0 Z = true) (w7 : (Jvm.Cond.privateMethod y).before a0 Z = true) (w3 : (Jvm.Cond.initialized y.cls).before a0 Z = true) (w4 : (Jvm.Cond.code y bytes maxL ret).before a0 Z = true) (hy : y.cls ≠ "java/lang/invoke/MethodHandle" ∧ y.cls ≠ "java/lang/invoke/VarHandle")
    (hM : Con l Z y bytes maxL ret rm as' h Qc) (eT : T.heap = h) {K : String} (E : Exa Z h a K) (hd : decode c.code pc = .ok (.invokevirtual index, 3)) (hlen : ∀ sig, parseMethodDescriptor y.desc = some sig → argsL.length = sig.parameters.length) (hst : st = argsL.reverse ++ .ref a :: rest) (has : (Value.ref a :: argsL).toArray = as')
    (hW : (rest.map fun v => v.category).sum ≤ W) (hf : rm.frames + 1 ≤ R.frames) (hl : W + (maxL + 11) + rm.locals ≤ R.locals) (hc : cells + rm.cells ≤ R.cells) (hs : slots + rm.slots ≤ R.slots)
    (k : ∀ (v : Option Value) (T' : State) (L : List Loc), Stand p l e R s m args below meth c T' (locs ++ L) (cells + rm.cells) (slots + rm.slots) → Qc v T'.heap L → Go p e below s C S Q T' (mkF m (pc + 3) Ls (v.toList ++ rest))) :
    Go p e below s C S Q T (mkF m pc Ls st) := by
  obtain ⟨cq, q1, q2⟩ := E.cell
  have hpriv : s.PrivateAt y := Cond.privateMethod_at (mvP hZ w7 (args := #[]))
  have w5' : (Jvm.Cond.instantiable y.cls kk).before args s = true := mvT hZ w5
  obtain ⟨c1, k1, i1, i2, -, i4, -⟩ := Cond.instantiable_spec w5'
  have hsel : (Jvm.Cond.selects y.cls y y).before args s = true := selects_self_of_private i1 i2 (by simp only [Bool.or_eq_false_iff] at i4; exact i4.1) hpriv (mvT hZ w6) hy
  obtain ⟨v, _, ⟨T', L', k', n'⟩, -, X', ⟨Lc, hQ, l1, y1, z1⟩, stp⟩ := X.privateBack hx (y := y) hown (mvT hZ w1) (mvT hZ w6) hsel hpriv (mvT hZ w4) hy (backOf (W := W) hM hZ w4 w3 hf hl) (g := mkF m pc Ls st) rfl hml (Steps.refl _) (a := a) (by rw [eT]; exact q1) q2 (argsL := argsL) (rest := rest) hlen hst (by show 2 * 0 + _ ≤ _; omega) hd (fun _ _ => ⟨has, eT, hc, hs⟩)
  dsimp only [Pt.U, Pt.locs, Pt.cells, Pt.slots] at X' l1 y1 z1 stp hQ
  subst l1 y1 z1
  exact Go.step (fun _ q => stp.trans q) (k v T' Lc X' hQ)
end OwnGo
/-! OWN: branches on a comparison of doubles, as javac writes them -/
section OwnCmp
variable {x y : UInt64}
theorem cv_none (o : CmpOp) (h : FP.dcmp x y = none) : cmpValue (FP.dcmp x y) o = (match o with | .l => -1 | .g => 1) := by rw [h]; cases o <;> rfl
theorem gt_y (h : FP.dcmp x y = some .gt) : ifCond.holds .le (cmpValue (FP.dcmp x y) .l) = false := by rw [h]; rfl
theorem gt_n (h : ¬ FP.dcmp x y = some .gt) : ifCond.holds .le (cmpValue (FP.dcmp x y) .l) = true := by
  rcases q : FP.dcmp x y with _ | (_ | _ | _) <;> first | rfl | exact absurd q h
theorem ge_y (h : FP.dcmp x y = some .gt ∨ FP.dcmp x y = some .eq) : ifCond.holds .lt (cmpValue (FP.dcmp x y) .l) = false := by rcases h with h | h <;> rw [h] <;> rfl
theorem ge_n (h : ¬ (FP.dcmp x y = some .gt ∨ FP.dcmp x y = some .eq)) : ifCond.holds .lt (cmpValue (FP.dcmp x y) .l) = true := by
  rcases q : FP.dcmp x y with _ | (_ | _ | _) <;> first | rfl | exact absurd (Or.inl q) h | exact absurd (Or.inr q) h
theorem lt_y (h : FP.dcmp x y = some .lt) : ifCond.holds .ge (cmpValue (FP.dcmp x y) .g) = false := by rw [h]; rfl
theorem lt_n (h : ¬ FP.dcmp x y = some .lt) : ifCond.holds .ge (cmpValue (FP.dcmp x y) .g) = true := by
  rcases q : FP.dcmp x y with _ | (_ | _ | _) <;> first | rfl | exact absurd q h
theorem le_y (h : FP.dcmp x y = some .lt ∨ FP.dcmp x y = some .eq) : ifCond.holds .gt (cmpValue (FP.dcmp x y) .g) = false := by rcases h with h | h <;> rw [h] <;> rfl
theorem le_n (h : ¬ (FP.dcmp x y = some .lt ∨ FP.dcmp x y = some .eq)) : ifCond.holds .gt (cmpValue (FP.dcmp x y) .g) = true := by
  rcases q : FP.dcmp x y with _ | (_ | _ | _) <;> first | rfl | exact absurd (Or.inl q) h | exact absurd (Or.inr q) h
theorem eq_y (o : CmpOp) (h : FP.dcmp x y = some .eq) : ifCond.holds .ne (cmpValue (FP.dcmp x y) o) = false ∧ ifCond.holds .eq (cmpValue (FP.dcmp x y) o) = true := by rw [h]; cases o <;> exact ⟨rfl, rfl⟩
theorem eq_n (o : CmpOp) (h : ¬ FP.dcmp x y = some .eq) : ifCond.holds .ne (cmpValue (FP.dcmp x y) o) = true ∧ ifCond.holds .eq (cmpValue (FP.dcmp x y) o) = false := by
  rcases q : FP.dcmp x y with _ | (_ | _ | _) <;> cases o <;> first | exact ⟨rfl, rfl⟩ | exact absurd q h
/-- x > y, by a taken 'ifgt' over dcmpl -/
theorem gtT_y (h : FP.dcmp x y = some .gt) : ifCond.holds .gt (cmpValue (FP.dcmp x y) .l) = true := by rw [h]; rfl
theorem gtT_n (h : ¬ FP.dcmp x y = some .gt) : ifCond.holds .gt (cmpValue (FP.dcmp x y) .l) = false := by
  rcases q : FP.dcmp x y with _ | (_ | _ | _) <;> first | rfl | exact absurd q h
theorem geT_y (h : FP.dcmp x y = some .gt ∨ FP.dcmp x y = some .eq) : ifCond.holds .ge (cmpValue (FP.dcmp x y) .l) = true := by rcases h with h | h <;> rw [h] <;> rfl
theorem geT_n (h : ¬ (FP.dcmp x y = some .gt ∨ FP.dcmp x y = some .eq)) : ifCond.holds .ge (cmpValue (FP.dcmp x y) .l) = false := by
  rcases q : FP.dcmp x y with _ | (_ | _ | _) <;> first | rfl | exact absurd (Or.inl q) h | exact absurd (Or.inr q) h
theorem ltT_y (h : FP.dcmp x y = some .lt) : ifCond.holds .lt (cmpValue (FP.dcmp x y) .g) = true := by rw [h]; rfl
theorem ltT_n (h : ¬ FP.dcmp x y = some .lt) : ifCond.holds .lt (cmpValue (FP.dcmp x y) .g) = false := by
  rcases q : FP.dcmp x y with _ | (_ | _ | _) <;> first | rfl | exact absurd q h
theorem leT_y (h : FP.dcmp x y = some .lt ∨ FP.dcmp x y = some .eq) : ifCond.holds .le (cmpValue (FP.dcmp x y) .g) = true := by rcases h with h | h <;> rw [h] <;> rfl
theorem leT_n (h : ¬ (FP.dcmp x y = some .lt ∨ FP.dcmp x y = some .eq)) : ifCond.holds .le (cmpValue (FP.dcmp x y) .g) = false := by
  rcases q : FP.dcmp x y with _ | (_ | _ | _) <;> first | rfl | exact absurd (Or.inl q) h | exact absurd (Or.inr q) h
end OwnCmp
theorem mI {α : Type} {l : List α} {a : α} (i : Nat) (h : l[i]? = some a) : a ∈ l := List.mem_of_getElem? h

/-! OWN: arrays by a function of the place -/
def updN {α : Type} (g : Nat → α) (j : Nat) (x : α) : Nat → α := fun i => if i = j then x else g i
theorem updN_same {α : Type} (g : Nat → α) (j : Nat) (x : α) : updN g j x j = x := by simp [updN]
theorem updN_ne {α : Type} {g : Nat → α} {i j : Nat} {x : α} (h : i ≠ j) : updN g j x i = g i := by simp [updN, h]
def Fv (Z : State) (h : Heap) (a : Addr) (ty : FieldType) (n : Int32) (f : Nat → Value) : Prop :=
  ∃ c : Cell, Arr Z h a c ty ∧ c.slots.size = n.toNatClampNeg ∧ ¬ n < 0 ∧ (∀ i, fits ty (f i) = true) ∧ ∀ i, i < c.slots.size → c.slots[i]? = some (f i)
abbrev Dv (Z : State) (h : Heap) (a : Addr) (n : Int32) (g : Nat → UInt64) : Prop := Fv Z h a .double n (fun i => .double (g i))
abbrev Iv (Z : State) (h : Heap) (a : Addr) (n : Int32) (g : Nat → Int32) : Prop := Fv Z h a .int n (fun i => .int (g i))
section OwnFv
variable {Z : State} {h h' : Heap} {a b : Addr} {ty : FieldType} {n j : Int32} {f : Nat → Value} {v : Value} {sl : Nat} {ws : List Addr}
theorem Fv.lt (F : Fv Z h a ty n f) : a < h.size := by obtain ⟨c, A, -⟩ := F; exact A.lt
theorem Fv.ext (F : Fv Z h a ty n f) (E : Ext h h') : Fv Z h' a ty n f := by obtain ⟨c, A, r⟩ := F; exact ⟨c, A.ext E, r⟩
theorem Fv.other (F : Fv Z h b ty n f) (W : Wr h h' a sl v) (q : b ≠ a) : Fv Z h' b ty n f := by obtain ⟨c, A, r⟩ := F; exact ⟨c, A.other W q, r⟩
theorem Fv.keep (F : Fv Z h a ty n f) (K : Keep h h' ws) (q : a ∉ ws) : Fv Z h' a ty n f := by obtain ⟨c, A, r⟩ := F; exact ⟨c, ⟨K.2.1 a c A.1 q, A.2⟩, r⟩
theorem Fv.new {k : ClassId} (A : Arr Z h a (newA k ty n) ty) (q : ¬ n < 0) : Fv Z h a ty n (fun _ => defaultValue ty) := ⟨_, A, sz_new _ _ _, q, fun i => by cases ty <;> rfl, fun i hi => by
  rw [sz_new] at hi; simp [newA, hi]⟩
theorem own_nat_of {j : Int32} (h : ¬ j < 0) : (j.toNatClampNeg : Int) = j.toInt := by
  rw [Int32.lt_iff_toInt_lt] at h; have e0 : (0 : Int32).toInt = 0 := rfl
  rw [Int32.toNatClampNeg]; omega
theorem Fv.set (F : Fv Z h a ty n f) (W : Wr h h' a j.toNatClampNeg v) (hv : fits ty v = true) : Fv Z h' a ty n (updN f j.toNatClampNeg v) := by
  obtain ⟨c, A, S, P, G, H⟩ := F
  refine ⟨_, A.same W, by rw [sz_set]; exact S, P, fun i => ?_, fun i hi => ?_⟩
  · unfold updN; split
    · exact hv
    · exact G i
  · rw [sz_set] at hi
    unfold updN
    by_cases u : i = j.toNatClampNeg
    · rw [if_pos u, u]; rw [u] at hi; simp [Cell.setSlot, hi]
    · rw [if_neg u]; simp only [Cell.setSlot]; rw [Array.getElem?_setIfInBounds_ne (Ne.symm u)]; exact H i hi
theorem Dv.set {g : Nat → UInt64} {x : UInt64} (F : Dv Z h a n g) (W : Wr h h' a j.toNatClampNeg (.double x)) : Dv Z h' a n (updN g j.toNatClampNeg x) := by
  have := Fv.set F W rfl
  have e : (updN (fun i => Value.double (g i)) j.toNatClampNeg (.double x)) = fun i => Value.double (updN g j.toNatClampNeg x i) := by
    funext i; unfold updN; split <;> rfl
  rw [e] at this; exact this
theorem Iv.set {g : Nat → Int32} {x : Int32} (F : Iv Z h a n g) (W : Wr h h' a j.toNatClampNeg (.int x)) : Iv Z h' a n (updN g j.toNatClampNeg x) := by
  have := Fv.set F W rfl
  have e : (updN (fun i => Value.int (g i)) j.toNatClampNeg (.int x)) = fun i => Value.int (updN g j.toNatClampNeg x i) := by
    funext i; unfold updN; split <;> rfl
  rw [e] at this; exact this
theorem Fv.congr {f' : Nat → Value} (F : Fv Z h a ty n f) (q : ∀ i, f i = f' i) : Fv Z h a ty n f' := by rw [← (funext q : f = f')]; exact F
theorem Fv.inb {c : Cell} (S : c.slots.size = n.toNatClampNeg) (q : ¬ j < 0 ∧ j < n) : ¬ (j < 0 ∨ c.slots.size ≤ j.toNatClampNeg) := inb_of S q
variable {p : Program} {l : Launch} {e : Env} {R : Room} {s : State} {m : MethodId} {args : Array Value} {below : List Frame} {meth : Method} {c : Code} {T : State} {locs : List Loc} {cells slots : Nat} {C S : Nat} {Q : Option Value → Heap → List Loc → Prop} {pc : Nat} {Ls : Array Slot} {rest : List Value}
theorem Go.alen (X : Stand p l e R s m args below meth c T locs cells slots) (hx : p.tables.exec = Jvm.exec) (hZ : Z.Warmed39 s.vm) (eT : T.heap = h) (F : Fv Z h a ty n f) (hd : decode c.code pc = .ok (.arraylength, 1))
    (k : Go p e below s C S Q T (mkF m (pc + 1) Ls (.int n :: rest))) : Go p e below s C S Q T (mkF m pc Ls (.ref a :: rest)) := by
  obtain ⟨cl, A, S', P, -, -⟩ := F
  refine Go.step (X.arraylength hx (cell := cl) (by rw [eT]; exact A.1) (State.isArrayOf_alike hZ.alike A.2.1) (g := mkF m pc Ls (.ref a :: rest)) rfl rfl hd) ?_
  rw [len_of S' P]; exact k
theorem Go.iaload {g : Nat → Int32} {v : Int32} (X : Stand p l e R s m args below meth c T locs cells slots) (hx : p.tables.exec = Jvm.exec) (hZ : Z.Warmed39 s.vm) (eT : T.heap = h) (F : Iv Z h a n g) (hj : ¬ j < 0 ∧ j < n) (hv : g j.toNatClampNeg = v) (hd : decode c.code pc = .ok (.iaload, 1))
    (k : Go p e below s C S Q T (mkF m (pc + 1) Ls (.int v :: rest))) : Go p e below s C S Q T (mkF m pc Ls (.int j :: .ref a :: rest)) := by
  obtain ⟨cl, A, S', P, G, H⟩ := F
  have q := inb_of S' hj
  exact Go.step (fun t r => X.iaload hx (j := j) (v := .int v) (by rw [eT]; exact A.1) (State.isArrayOf_alike hZ.alike A.2.1) A.2.2 q (by rw [← hv]; exact H _ (Nat.lt_of_not_le fun z => q (Or.inr z))) (g := mkF m pc Ls (.int j :: .ref a :: rest)) rfl rfl hd t r) k
theorem Go.daload {g : Nat → UInt64} {v : UInt64} (X : Stand p l e R s m args below meth c T locs cells slots) (hx : p.tables.exec = Jvm.exec) (hZ : Z.Warmed39 s.vm) (eT : T.heap = h) (F : Dv Z h a n g) (hj : ¬ j < 0 ∧ j < n) (hv : g j.toNatClampNeg = v) (hd : decode c.code pc = .ok (.daload, 1))
    (k : Go p e below s C S Q T (mkF m (pc + 1) Ls (.double v :: rest))) : Go p e below s C S Q T (mkF m pc Ls (.int j :: .ref a :: rest)) := by
  obtain ⟨cl, A, S', P, G, H⟩ := F
  have q := inb_of S' hj
  exact Go.step (fun t r => X.daload hx (j := j) (v := .double v) (by rw [eT]; exact A.1) (State.isArrayOf_alike hZ.alike A.2.1) A.2.2 q (by rw [← hv]; exact H _ (Nat.lt_of_not_le fun z => q (Or.inr z))) (g := mkF m pc Ls (.int j :: .ref a :: rest)) rfl rfl hd t r) k
theorem Go.iastore {g : Nat → Int32} {x : Int32} (X : Stand p l e R s m args below meth c T locs cells slots) (hx : p.tables.exec = Jvm.exec) (hZ : Z.Warmed39 s.vm) (eT : T.heap = h) (F : Iv Z h a n g) (hj : ¬ j < 0 ∧ j < n) (hd : decode c.code pc = .ok (.iastore, 1))
    (k : ∀ T' h', Stand p l e R s m args below meth c T' (locs ++ [⟨a, j.toNatClampNeg⟩]) cells slots → T'.heap = h' → Wr h h' a j.toNatClampNeg (.int x) → Iv Z h' a n (updN g j.toNatClampNeg x) → Go p e below s C S Q T' (mkF m (pc + 1) Ls rest)) : Go p e below s C S Q T (mkF m pc Ls (.int x :: .int j :: .ref a :: rest)) := by
  have F0 := F
  obtain ⟨cl, A, S', P, G, H⟩ := F
  obtain ⟨T', h', X', e', W, st⟩ := stI X hx hZ eT A (j := j) (x := x) (inb_of S' hj) (g := mkF m pc Ls (.int x :: .int j :: .ref a :: rest)) rfl rfl hd
  exact Go.step st (k T' h' X' e' W (Iv.set F0 W))
theorem Go.dastore {g : Nat → UInt64} {x : UInt64} (X : Stand p l e R s m args below meth c T locs cells slots) (hx : p.tables.exec = Jvm.exec) (hZ : Z.Warmed39 s.vm) (eT : T.heap = h) (F : Dv Z h a n g) (hj : ¬ j < 0 ∧ j < n) (hd : decode c.code pc = .ok (.dastore, 1))
    (k : ∀ T' h', Stand p l e R s m args below meth c T' (locs ++ [⟨a, j.toNatClampNeg⟩]) cells slots → T'.heap = h' → Wr h h' a j.toNatClampNeg (.double x) → Dv Z h' a n (updN g j.toNatClampNeg x) → Go p e below s C S Q T' (mkF m (pc + 1) Ls rest)) : Go p e below s C S Q T (mkF m pc Ls (.double x :: .int j :: .ref a :: rest)) := by
  have F0 := F
  obtain ⟨cl, A, S', P, G, H⟩ := F
  obtain ⟨T', h', X', e', W, st⟩ := stD X hx hZ eT A (j := j) (x := x) (inb_of S' hj) (g := mkF m pc Ls (.double x :: .int j :: .ref a :: rest)) rfl rfl hd
  exact Go.step st (k T' h' X' e' W (Dv.set F0 W))
abbrev Zv (Z : State) (h : Heap) (a : Addr) (n : Int32) (g : Nat → Int32) : Prop := Fv Z h a .boolean n (fun i => .int (g i))
theorem Zv.set {g : Nat → Int32} {x : Int32} (F : Zv Z h a n g) (W : Wr h h' a j.toNatClampNeg (.int x)) (hb : fits .boolean (.int x) = true) : Zv Z h' a n (updN g j.toNatClampNeg x) := by
  have := Fv.set F W hb
  have e : (updN (fun i => Value.int (g i)) j.toNatClampNeg (.int x)) = fun i => Value.int (updN g j.toNatClampNeg x i) := by
    funext i; unfold updN; split <;> rfl
  rw [e] at this; exact this
theorem Go.zaload {g : Nat → Int32} {v : Int32} (X : Stand p l e R s m args below meth c T locs cells slots) (hx : p.tables.exec = Jvm.exec) (hZ : Z.Warmed39 s.vm) (eT : T.heap = h) (F : Zv Z h a n g) (hj : ¬ j < 0 ∧ j < n) (hv : g j.toNatClampNeg = v) (hd : decode c.code pc = .ok (.baload, 1))
    (k : Go p e below s C S Q T (mkF m (pc + 1) Ls (.int v :: rest))) : Go p e below s C S Q T (mkF m pc Ls (.int j :: .ref a :: rest)) := by
  obtain ⟨cl, A, S', P, G, H⟩ := F
  have q := inb_of S' hj
  exact Go.step (fun t r => X.baloadBooleans hx (j := j) (v := .int v) (by rw [eT]; exact A.1) (State.isArrayOf_alike hZ.alike A.2.1) A.2.2 q (by rw [← hv]; exact H _ (Nat.lt_of_not_le fun z => q (Or.inr z))) (g := mkF m pc Ls (.int j :: .ref a :: rest)) rfl rfl hd t r) k
theorem Go.zastore {g : Nat → Int32} {x : Int32} (X : Stand p l e R s m args below meth c T locs cells slots) (hx : p.tables.exec = Jvm.exec) (hZ : Z.Warmed39 s.vm) (eT : T.heap = h) (F : Zv Z h a n g) (hj : ¬ j < 0 ∧ j < n) (hn : nar .boolean x = x) (hd : decode c.code pc = .ok (.bastore, 1))
    (k : ∀ T' h', Stand p l e R s m args below meth c T' (locs ++ [⟨a, j.toNatClampNeg⟩]) cells slots → T'.heap = h' → Wr h h' a j.toNatClampNeg (.int x) → Zv Z h' a n (updN g j.toNatClampNeg x) → Go p e below s C S Q T' (mkF m (pc + 1) Ls rest)) : Go p e below s C S Q T (mkF m pc Ls (.int x :: .int j :: .ref a :: rest)) := by
  have F0 := F
  obtain ⟨cl, A, S', P, G, H⟩ := F
  have hj' := inb_of S' hj
  obtain ⟨X', st⟩ := bastoreZ X hx (by rw [eT]; exact A.1) (State.isArrayOf_alike hZ.alike A.2.1) A.2.2 hj' (g := mkF m pc Ls (.int x :: .int j :: .ref a :: rest)) rfl rfl hd
  rw [hn] at X' st
  have W : Wr h (T.setCell a (cl.setSlot j.toNatClampNeg (.int x))).heap a j.toNatClampNeg (.int x) := ⟨cl, A.1, A.plain, Nat.lt_of_not_le fun q => hj' (Or.inr q), by rw [← eT]; rfl⟩
  exact Go.step st (k _ _ X' rfl W (Zv.set F0 W (by rw [← hn]; exact fits_nar_bool x)))
/-- clone() of an array -/
theorem Go.clone {a0 : Array Value} {own ad : String} {index W cap : Nat} (X : Stand p l e R s m args below meth c T locs cells slots) (hx : p.tables.exec = Jvm.exec) (hZ : Z.Warmed39 s.vm) (hml : Ls.size = c.maxLocals) (hown : s.vm.findClass own = some m.cls)
    (w1 : (Jvm.Cond.methodLink own index ⟨ad, "clone", "()Ljava/lang/Object;"⟩).before a0 Z = true) (w2 : (Jvm.Cond.sameMethod ad "java/lang/Object" "clone" "()Ljava/lang/Object;").before a0 Z = true) (w3 : (Jvm.Cond.native ⟨"java/lang/Object", "clone", "()Ljava/lang/Object;"⟩).before a0 Z = true)
    (w4 : (Jvm.Cond.instanceMethod ⟨"java/lang/Object", "clone", "()Ljava/lang/Object;"⟩).before a0 Z = true) (w5 : (Jvm.Cond.selects ad ⟨ad, "clone", "()Ljava/lang/Object;"⟩ ⟨"java/lang/Object", "clone", "()Ljava/lang/Object;"⟩).before a0 Z = true) (w6 : (Jvm.Cond.castable ad "java/lang/Cloneable").before a0 Z = true)
    (eT : T.heap = h) (F : Fv Z h a ty n f) (E : Exa Z h a ad) (hd : decode c.code pc = .ok (.invokevirtual index, 3)) (hf : 1 ≤ R.frames) (hW : (rest.map fun v => v.category).sum ≤ W) (hl : W + 14 ≤ R.locals) (hcap : n.toNatClampNeg ≤ cap) (hc : cells + 1 ≤ R.cells) (hsl : slots + cap ≤ R.slots)
    (k : ∀ T' h' b, b = h.size → Stand p l e R s m args below meth c T' locs (cells + 1) (slots + cap) → T'.heap = h' → Ext h h' → Fv Z h' b ty n f → Exa Z h' b ad → Go p e below s C S Q T' (mkF m (pc + 3) Ls (.ref b :: rest))) : Go p e below s C S Q T (mkF m pc Ls (.ref a :: rest)) := by
  obtain ⟨cl, A, S', P, G, H⟩ := F
  have FC : FitC Z cl := fitC_of A fun i hi v hv => by rw [H i hi] at hv; cases hv; exact G i
  obtain ⟨T', h', X', e', ex, A', E', st⟩ := cloneA X hx hZ hown w1 w2 w3 w4 w5 w6 eT A E FC (g := mkF m pc Ls (.ref a :: rest)) rfl hml rfl hd hf (by show 2 * 0 + _ ≤ _; omega) hl (by rw [S']; exact hcap) hc hsl
  exact Go.step st (k T' h' _ rfl X' e' ex ⟨cloneOf cl, A', S', P, G, H⟩ E')
end OwnFv

section OwnNQ
/-- the queue's order: n nodes lie in fG, fP says where; fS: the nodes that are in -/
def QI (n : Nat) (g : Nat → Int32) (L : Int32) (P : Nat → Int32) (S : Int32 → Prop) : Prop :=
  (∀ i, i < n → (¬ g i < (0 : Int32) ∧ g i < L) ∧ P (g i).toNatClampNeg = Int32.ofNat i ∧ S (g i)) ∧
  (∀ x : Int32, ¬ x < (0 : Int32) → x < L → P x.toNatClampNeg ≠ (-1 : Int32) → S x) ∧ (∀ x, S x → ∃ i, i < n ∧ g i = x)
def fillW (P : Nat → Int32) (a b : Nat) : Nat → Int32 := fun j => if a ≤ j ∧ j < b then (-1 : Int32) else P j
def cpW {α : Type} (a : Nat) (f f' : Nat → α) : Nat → α := fun i => if i < a then f i else f' i
section
variable {n i j : Nat} {g P : Nat → Int32} {L L' x : Int32} {S S' : Int32 → Prop}
theorem own_tn {x : Int32} (h : ¬ x < (0 : Int32)) : (x.toNatClampNeg : Int) = x.toInt := by
  rw [Int32.lt_iff_toInt_lt] at h; have e0 : (0 : Int32).toInt = 0 := rfl
  rw [Int32.toNatClampNeg]; omega
theorem own_tnj {x y : Int32} (hx : ¬ x < (0 : Int32)) (hy : ¬ y < (0 : Int32)) (h : x.toNatClampNeg = y.toNatClampNeg) : x = y := by
  have a := own_tn hx; have b := own_tn hy; exact Int32.toInt_inj.mp (by omega)
theorem own_ofI {i : Nat} (h : i < 100) : (Int32.ofNat i).toInt = i := Int32.toInt_ofNat_of_lt (by omega)
theorem own_ofj (hi : i < 100) (hj : j < 100) (h : Int32.ofNat i = Int32.ofNat j) : i = j := by
  have := congrArg Int32.toInt h; rw [own_ofI hi, own_ofI hj] at this; omega
theorem own_ofm (hi : i < 100) : Int32.ofNat i ≠ (-1 : Int32) := fun h => by
  have := congrArg Int32.toInt h; rw [own_ofI hi, show (-1 : Int32).toInt = -1 from rfl] at this; omega
theorem QI.idx (Q : QI n g L P S) (h : i < n) : ¬ g i < (0 : Int32) ∧ g i < L := (Q.1 i h).1
theorem QI.inj (Q : QI n g L P S) (hn : n ≤ 16) (hi : i < n) (hj : j < n) (h : g i = g j) : i = j := by
  have a := (Q.1 i hi).2.1; have b := (Q.1 j hj).2.1
  rw [h, b] at a; exact (own_ofj (by omega) (by omega) a).symm
theorem QI.mem (Q : QI n g L P S) (h : S x) : ¬ x < (0 : Int32) ∧ x < L := by
  obtain ⟨i, hi, rfl⟩ := Q.2.2 x h; exact Q.idx hi
theorem QI.pos (Q : QI n g L P S) (hx : ¬ x < (0 : Int32) ∧ x < L) (h : ¬ P x.toNatClampNeg = (-1 : Int32)) : ∃ j, j < n ∧ P x.toNatClampNeg = Int32.ofNat j ∧ S x := by
  have s := Q.2.1 x hx.1 hx.2 h
  obtain ⟨i, hi, rfl⟩ := Q.2.2 x s
  exact ⟨i, hi, (Q.1 i hi).2⟩
theorem QI.abs (Q : QI n g L P S) (hn : n ≤ 16) (h : P x.toNatClampNeg = (-1 : Int32)) : ¬ S x := fun s => by
  obtain ⟨i, hi, rfl⟩ := Q.2.2 x s
  rw [(Q.1 i hi).2.1] at h; exact own_ofm (by omega) h
theorem QI.congr (Q : QI n g L P S) (h : ∀ x, S x ↔ S' x) : QI n g L P S' := by
  rw [← (funext fun x => propext (h x) : S = S')]; exact Q
theorem QI.add (Q : QI n g L P S) (h : S x) : QI n g L P (fun y => S y ∨ y = x) := Q.congr fun y => ⟨Or.inl, fun q => q.elim id fun e => e ▸ h⟩
theorem QI.same (Q : QI n g L P S) (hi : i < n) : QI n (updN g i (g i)) L (updN P (g i).toNatClampNeg (Int32.ofNat i)) S := by
  have e1 : updN g i (g i) = g := by funext k; unfold updN; split <;> simp_all
  have e2 : updN P (g i).toNatClampNeg (Int32.ofNat i) = P := by
    funext k; unfold updN; split
    · rename_i q; rw [q, (Q.1 i hi).2.1]
    · rfl
  rw [e1, e2]; exact Q
theorem QI.swap (Q : QI n g L P S) (hn : n ≤ 16) (hi : i < n) (hj : j < n) (hij : i ≠ j) : QI n (updN (updN g j (g i)) i (g j)) L (updN (updN P (g i).toNatClampNeg (Int32.ofNat j)) (g j).toNatClampNeg (Int32.ofNat i)) S := by
  have ne : ∀ a b, a < n → b < n → a ≠ b → (g a).toNatClampNeg ≠ (g b).toNatClampNeg := fun a b ha hb hab q => hab (Q.inj hn ha hb (own_tnj (Q.idx ha).1 (Q.idx hb).1 q))
  refine ⟨fun k hk => ?_, fun x h1 h2 h3 => ?_, fun x hx => ?_⟩
  · by_cases c1 : k = i
    · subst c1; rw [updN_same]
      exact ⟨Q.idx hj, updN_same _ _ _, (Q.1 j hj).2.2⟩
    · rw [updN_ne c1]
      by_cases c2 : k = j
      · subst c2; rw [updN_same]
        exact ⟨Q.idx hi, by rw [updN_ne (ne i k hi hk hij), updN_same], (Q.1 i hi).2.2⟩
      · rw [updN_ne c2]
        exact ⟨Q.idx hk, by rw [updN_ne (ne k j hk hj c2), updN_ne (ne k i hk hi c1)]; exact (Q.1 k hk).2.1, (Q.1 k hk).2.2⟩
  · by_cases c1 : x.toNatClampNeg = (g j).toNatClampNeg
    · rw [own_tnj h1 (Q.idx hj).1 c1]; exact (Q.1 j hj).2.2
    · by_cases c2 : x.toNatClampNeg = (g i).toNatClampNeg
      · rw [own_tnj h1 (Q.idx hi).1 c2]; exact (Q.1 i hi).2.2
      · rw [updN_ne c1, updN_ne c2] at h3; exact Q.2.1 x h1 h2 h3
  · obtain ⟨k, hk, rfl⟩ := Q.2.2 x hx
    by_cases c1 : k = i
    · subst c1; exact ⟨j, hj, by rw [updN_ne (Ne.symm hij), updN_same]⟩
    · by_cases c2 : k = j
      · subst c2; exact ⟨i, hi, updN_same _ _ _⟩
      · exact ⟨k, hk, by rw [updN_ne c1, updN_ne c2]⟩
theorem QI.put (Q : QI n g L P S) (hx : ¬ x < (0 : Int32) ∧ x < L) (hs : ¬ S x) : QI (n + 1) (updN g n x) L (updN P x.toNatClampNeg (Int32.ofNat n)) (fun y => S y ∨ y = x) := by
  refine ⟨fun k hk => ?_, fun y h1 h2 h3 => ?_, fun y hy => ?_⟩
  · by_cases c1 : k = n
    · subst c1; rw [updN_same]; exact ⟨hx, updN_same _ _ _, Or.inr rfl⟩
    · have hk' : k < n := by omega
      rw [updN_ne c1]
      refine ⟨Q.idx hk', ?_, Or.inl (Q.1 k hk').2.2⟩
      rw [updN_ne fun q => hs (own_tnj (Q.idx hk').1 hx.1 q ▸ (Q.1 k hk').2.2)]; exact (Q.1 k hk').2.1
  · by_cases c : y.toNatClampNeg = x.toNatClampNeg
    · exact Or.inr (own_tnj h1 hx.1 c)
    · rw [updN_ne c] at h3; exact Or.inl (Q.2.1 y h1 h2 h3)
  · rcases hy with hy | rfl
    · obtain ⟨k, hk, rfl⟩ := Q.2.2 y hy
      exact ⟨k, by omega, updN_ne (by omega)⟩
    · exact ⟨n, by omega, updN_same _ _ _⟩
theorem QI.take (Q : QI (n + 1) g L P S) (hn : n < 16) (h0 : 0 < n) : QI n (updN g 0 (g n)) L (updN (updN P (g 0).toNatClampNeg (-1 : Int32)) (g n).toNatClampNeg (Int32.ofNat 0)) (fun y => S y ∧ y ≠ g 0) := by
  have ne : ∀ a b, a < n + 1 → b < n + 1 → a ≠ b → g a ≠ g b := fun a b ha hb hab q => hab (Q.inj (by omega) ha hb q)
  have nt : ∀ a b, a < n + 1 → b < n + 1 → a ≠ b → (g a).toNatClampNeg ≠ (g b).toNatClampNeg := fun a b ha hb hab q => hab (Q.inj (by omega) ha hb (own_tnj (Q.idx ha).1 (Q.idx hb).1 q))
  refine ⟨fun k hk => ?_, fun y h1 h2 h3 => ?_, fun y hy => ?_⟩
  · by_cases c : k = 0
    · subst c; rw [updN_same]
      exact ⟨Q.idx (by omega), updN_same _ _ _, (Q.1 n (by omega)).2.2, ne n 0 (by omega) (by omega) (by omega)⟩
    · rw [updN_ne c]
      refine ⟨Q.idx (by omega), ?_, (Q.1 k (by omega)).2.2, ne k 0 (by omega) (by omega) c⟩
      rw [updN_ne (nt k n (by omega) (by omega) (by omega)), updN_ne (nt k 0 (by omega) (by omega) c)]; exact (Q.1 k (by omega)).2.1
  · by_cases c1 : y.toNatClampNeg = (g n).toNatClampNeg
    · rw [own_tnj h1 (Q.idx (by omega)).1 c1]; exact ⟨(Q.1 n (by omega)).2.2, ne n 0 (by omega) (by omega) (by omega)⟩
    · rw [updN_ne c1] at h3
      by_cases c2 : y.toNatClampNeg = (g 0).toNatClampNeg
      · rw [c2, updN_same] at h3; exact absurd rfl h3
      · rw [updN_ne c2] at h3
        exact ⟨Q.2.1 y h1 h2 h3, fun e => c2 (e ▸ rfl)⟩
  · obtain ⟨k, hk, rfl⟩ := Q.2.2 y hy.1
    have k0 : k ≠ 0 := fun e => hy.2 (e ▸ rfl)
    by_cases c : k = n
    · subst c; exact ⟨0, h0, updN_same _ _ _⟩
    · exact ⟨k, by omega, updN_ne k0⟩
theorem QI.take1 (Q : QI 1 g L P S) : QI 0 g L (updN P (g 0).toNatClampNeg (-1 : Int32)) (fun y => S y ∧ y ≠ g 0) := by
  refine ⟨fun k hk => absurd hk (by omega), fun y h1 h2 h3 => ?_, fun y hy => ?_⟩
  · by_cases c : y.toNatClampNeg = (g 0).toNatClampNeg
    · rw [c, updN_same] at h3; exact absurd rfl h3
    · rw [updN_ne c] at h3; exact ⟨Q.2.1 y h1 h2 h3, fun e => c (e ▸ rfl)⟩
  · obtain ⟨k, hk, rfl⟩ := Q.2.2 y hy.1
    exact absurd (show g k = g 0 by rw [show k = 0 by omega]) hy.2
theorem QI.grow (Q : QI n g L P S) (h0 : ¬ L < (0 : Int32)) (hL : L < L') : QI n g L' (fillW (cpW L.toNatClampNeg P (fun _ => (0 : Int32))) L.toNatClampNeg L'.toNatClampNeg) S := by
  rw [Int32.lt_iff_toInt_lt] at hL
  have tL := own_tn h0
  have e0 : (0 : Int32).toInt = 0 := rfl
  have hL' : ¬ L' < (0 : Int32) := by rw [Int32.lt_iff_toInt_lt] at h0 ⊢; omega
  have tL' := own_tn hL'
  have old : ∀ x : Int32, ¬ x < (0 : Int32) → x < L → fillW (cpW L.toNatClampNeg P (fun _ => (0 : Int32))) L.toNatClampNeg L'.toNatClampNeg x.toNatClampNeg = P x.toNatClampNeg := fun x h1 h2 => by
    have := own_tn h1; rw [Int32.lt_iff_toInt_lt] at h2
    unfold fillW cpW; rw [if_neg (by omega), if_pos (by omega)]
  refine ⟨fun k hk => ⟨⟨(Q.idx hk).1, ?_⟩, ?_, (Q.1 k hk).2.2⟩, fun y h1 h2 h3 => ?_, Q.2.2⟩
  · have := (Q.idx hk).2; rw [Int32.lt_iff_toInt_lt] at this ⊢; omega
  · rw [old _ (Q.idx hk).1 (Q.idx hk).2]; exact (Q.1 k hk).2.1
  · by_cases c : y < L
    · rw [old y h1 c] at h3; exact Q.2.1 y h1 c h3
    · exfalso; apply h3
      have := own_tn h1; rw [Int32.lt_iff_toInt_lt] at h2 c
      unfold fillW; rw [if_pos (by omega)]
theorem QI.nil (g : Nat → Int32) (P : Nat → Int32) : QI 0 g (0 : Int32) P (fun _ => False) :=
  ⟨fun k hk => absurd hk (by omega), fun y h1 h2 _ => absurd h2 h1, fun y hy => hy.elim⟩
theorem QI.ans (Q : QI n g L P S) (hn : n ≤ 16) (hx : ¬ x < (0 : Int32)) : ∀ b : Int32, (b = if x < L then (if P x.toNatClampNeg = (-1 : Int32) then (0 : Int32) else 1) else 0) → (b = 1 ∧ S x) ∨ (b = 0 ∧ ¬ S x) := by
  intro b hb
  by_cases c : x < L
  · rw [if_pos c] at hb
    by_cases d : P x.toNatClampNeg = (-1 : Int32)
    · rw [if_pos d] at hb; exact Or.inr ⟨hb, Q.abs hn d⟩
    · rw [if_neg d] at hb; exact Or.inl ⟨hb, Q.2.1 x hx c d⟩
  · rw [if_neg c] at hb; exact Or.inr ⟨hb, fun s => c (Q.mem s).2⟩
end
/-! the new length -/
def maxW (a b : Int32) : Int32 := if a < b then b else a
def minW (a b : Int32) : Int32 := if b < a then b else a
theorem own_max (a b : Int32) : (maxW a b).toInt = max a.toInt b.toInt := by
  unfold maxW; split <;> rename_i h <;> rw [Int32.lt_iff_toInt_lt] at h <;> omega
theorem own_min {a b : Int32} (h : a < b) : minW a b = a := by
  unfold minW; rw [if_neg]; rw [Int32.lt_iff_toInt_lt] at *; omega
theorem own_len {x L nL : Int32} {B : Int} (hx : ¬ x < (0 : Int32)) (hx2 : x.toInt < 64) (hL : ¬ L < (0 : Int32)) (hB : L.toInt ≤ B) (hB2 : B ≤ 32) (h : ¬ x < L) (e : nL = maxW (x + (1 : Int32)) ((2 : Int32) * L)) :
    nL.toInt ≤ 64 ∧ L < nL ∧ ¬ nL < (0 : Int32) ∧ x < nL ∧ (nL.toInt ≤ x.toInt + 1 ∨ nL.toInt ≤ 2 * B) := by
  simp only [Int32.lt_iff_toInt_lt, show (0 : Int32).toInt = 0 from rfl] at *
  have h1 : (x + (1 : Int32)).toInt = x.toInt + 1 := by
    rw [Int32.toInt_add, show (1 : Int32).toInt = 1 from rfl]; exact Int.bmod_eq_of_le (by omega) (by omega)
  have h2 : ((2 : Int32) * L).toInt = 2 * L.toInt := by
    rw [Int32.toInt_mul, show (2 : Int32).toInt = 2 from rfl]; exact Int.bmod_eq_of_le (by omega) (by omega)
  have := own_max (x + (1 : Int32)) ((2 : Int32) * L)
  rw [← e, h1, h2] at this
  omega
theorem own_cap {nL : Int32} (h : nL.toInt ≤ 64) (h0 : ¬ nL < (0 : Int32)) : nL.toNatClampNeg ≤ 64 := by have := own_tn h0; omega
theorem own_inc {i to : Int32} (h : i < to) : (i + (1 : Int32)).toInt = i.toInt + 1 := by
  rw [Int32.lt_iff_toInt_lt] at h; have := to.toInt_lt; have := i.le_toInt
  rw [Int32.toInt_add, show (1 : Int32).toInt = 1 from rfl]; exact Int.bmod_eq_of_le (by omega) (by omega)
theorem own_fillS {P G : Nat → Int32} {i to : Int32} (h0 : ¬ i < (0 : Int32)) (h : i < to) (hG : G = fillW P i.toNatClampNeg to.toNatClampNeg) : G = fillW (updN P i.toNatClampNeg (-1 : Int32)) (i + (1 : Int32)).toNatClampNeg to.toNatClampNeg := by
  have e := own_inc h
  have h' := h
  rw [Int32.lt_iff_toInt_lt] at h0 h; have e0 : (0 : Int32).toInt = 0 := rfl
  have t1 := own_tn (x := i) (by rw [Int32.lt_iff_toInt_lt]; omega); have t2 := own_tn (x := i + 1) (by rw [Int32.lt_iff_toInt_lt]; omega); have t3 := own_tn (x := to) (by rw [Int32.lt_iff_toInt_lt]; omega)
  rw [hG]; funext j; unfold fillW updN
  by_cases c : j = i.toNatClampNeg
  · rw [if_pos (by omega), if_neg (by omega), if_pos c]
  · by_cases d : i.toNatClampNeg ≤ j ∧ j < to.toNatClampNeg
    · rw [if_pos d, if_pos (by omega)]
    · rw [if_neg d, if_neg (by omega), if_neg c]
theorem own_fill0 {P G : Nat → Int32} {i to : Int32} (h0 : ¬ i < (0 : Int32)) (h : ¬ i < to) (hG : G = fillW P i.toNatClampNeg to.toNatClampNeg) : P = G := by
  rw [Int32.lt_iff_toInt_lt] at h
  rw [hG]; funext j; unfold fillW; rw [if_neg]
  have t1 := own_tn h0
  have t2 : to.toNatClampNeg = to.toInt.toNat := rfl
  omega
theorem own_m15 (a : Int32) : ¬ (a &&& (15 : Int32)) < (0 : Int32) ∧ (a &&& (15 : Int32)).toInt < 16 := by
  have := c_mask a 15 4 (by decide) (by decide); rw [Int32.lt_iff_toInt_lt, show (0 : Int32).toInt = 0 from rfl]; omega
theorem own_m63 (a : Int32) : ¬ (a &&& (63 : Int32)) < (0 : Int32) ∧ (a &&& (63 : Int32)).toInt < 64 := by
  have := c_mask a 63 6 (by decide) (by decide); rw [Int32.lt_iff_toInt_lt, show (0 : Int32).toInt = 0 from rfl]; omega
theorem own_m127 (a : Int32) : ¬ (a &&& (127 : Int32)) < (0 : Int32) := by
  have := c_mask a 127 7 (by decide) (by decide); rw [Int32.lt_iff_toInt_lt, show (0 : Int32).toInt = 0 from rfl]; omega
theorem own_mM (a : Int32) : ¬ (a &&& (2147483647 : Int32)) < (0 : Int32) := by
  have := c_mask a 2147483647 31 (by decide) (by decide); rw [Int32.lt_iff_toInt_lt, show (0 : Int32).toInt = 0 from rfl]; omega
theorem own_lts {a b c : Int32} (h : a < b) (h' : b.toInt ≤ c.toInt) : a < c := by rw [Int32.lt_iff_toInt_lt] at *; omega
end OwnNQ

section OwnCp
variable {Z : State} {h : Heap} {a b : Addr} {ty : FieldType} {n n' nn : Int32} {f f' : Nat → Value}
variable {p : Program} {l : Launch} {e : Env} {R : Room} {s : State} {m : MethodId} {args : Array Value} {below : List Frame} {meth : Method} {c : Code} {T : State} {locs : List Loc} {cells slots : Nat} {C S : Nat} {Q : Option Value → Heap → List Loc → Prop} {pc : Nat} {Ls : Array Slot} {rest : List Value}
theorem own_up {c' s' : Nat} (X : Stand p l e R s m args below meth c T locs cells slots) (h1 : cells ≤ c') (h2 : slots ≤ s') : Stand p l e R s m args below meth c T locs c' s' := { X with same := X.same.mono h1 h2 }
theorem own_rng {N i : Nat} (f : Nat → Value) (d : Value) (hi : i < N) : ((List.range N).map f).getD i d = f i := by
  rw [List.getD_eq_getElem?_getD, List.getElem?_map, List.getElem?_range hi]; rfl
theorem own_cpl {N N' k i : Nat} (f f' : Nat → Value) (d d' : Value) (h1 : k ≤ N) (h2 : k ≤ N') (hi : i < N') :
    (((List.range N').map f').take 0 ++ (List.range k).map (fun i => ((List.range N).map f).getD (0 + i) d) ++ ((List.range N').map f').drop (0 + k)).getD i d' = cpW k f f' i := by
  rw [List.take_zero, List.nil_append, Nat.zero_add, List.getD_eq_getElem?_getD]
  unfold cpW
  by_cases c : i < k
  · rw [if_pos c, List.getElem?_append_left (by simpa using c), List.getElem?_map, List.getElem?_range c, Option.map_some, Option.getD_some, Nat.zero_add, own_rng f d (by omega)]
  · rw [if_neg c, List.getElem?_append_right (by simpa using Nat.le_of_not_lt c), List.getElem?_drop, List.length_map, List.length_range, show k + (i - k) = i by omega, List.getElem?_map, List.getElem?_range hi]; rfl
/-- System.arraycopy of the first nn places into a new array -/
theorem Go.cpP {a0 : Array Value} {own : String} {index W n0 : Nat} (X : Stand p l e R s m args below meth c T locs cells slots) (hx : p.tables.exec = Jvm.exec) (hZ : Z.Warmed39 s.vm) (hml : Ls.size = c.maxLocals) (hown : s.vm.findClass own = some m.cls)
    (w1 : (Jvm.Cond.methodLink own index Jvm.Stand.acN).before a0 Z = true) (w2 : (Jvm.Cond.native Jvm.Stand.acN).before a0 Z = true) (w3 : (Jvm.Cond.static Jvm.Stand.acN).before a0 Z = true) (w4 : (Jvm.Cond.initialized "java/lang/System").before a0 Z = true)
    (eT : T.heap = h) (F : Fv Z h a ty n f) (F' : Fv Z h b ty n' f') (hr : refKind ty = false) (h3 : ¬ nn < (0 : Int32)) (h4 : nn.toNatClampNeg ≤ n.toNatClampNeg) (h5 : nn.toNatClampNeg ≤ n'.toNatClampNeg) (N : Fr n0 locs) (ge : n0 ≤ b)
    (hd : decode c.code pc = .ok (.invokestatic index, 3)) (hf : 1 ≤ R.frames) (hW : (rest.map fun v => v.category).sum ≤ W) (hlo : W + 18 ≤ R.locals)
    (k : ∀ T' h' L, Stand p l e R s m args below meth c T' L cells slots → T'.heap = h' → Fr n0 L → Keep h h' [b] → Fv Z h' b ty n' (cpW nn.toNatClampNeg f f') → Go p e below s C S Q T' (mkF m (pc + 3) Ls rest)) : Go p e below s C S Q T (mkF m pc Ls (.int nn :: .int 0 :: .ref b :: .int 0 :: .ref a :: rest)) := by
  obtain ⟨cl, A, S', P, G, H⟩ := F
  obtain ⟨cd, A', Sd, Pd, Gd, Hd⟩ := F'
  have AA : Arv Z h a cl.cls ty n ((List.range n.toNatClampNeg).map f) (defaultValue ty) := ⟨cl, A, rfl, S', P, fun i hi => by rw [own_rng _ _ (by rw [← S']; exact hi)]; exact H i hi, fun i hi => by rw [own_rng _ _ (by rw [← S']; exact hi)]; exact G i⟩
  have BB : Arv Z h b cd.cls ty n' ((List.range n'.toNatClampNeg).map f') (defaultValue ty) := ⟨cd, A', rfl, Sd, Pd, fun i hi => by rw [own_rng _ _ (by rw [← Sd]; exact hi)]; exact Hd i hi, fun i hi => by rw [own_rng _ _ (by rw [← Sd]; exact hi)]; exact Gd i⟩
  have z0 : (0 : Int32).toNatClampNeg = 0 := rfl
  obtain ⟨T', h', L, X', e', N', K', V', st⟩ := cpA X hx hZ hown w1 w2 w3 w4 eT AA BB (Or.inl ⟨rfl, hr⟩) (sp := 0) (dp := 0) (nn := nn) (by decide) (by decide) h3 (by rw [z0, Nat.zero_add]; exact h4) (by rw [z0, Nat.zero_add]; exact h5) rfl (by rw [z0, Nat.zero_add, List.length_map, List.length_range]; exact h5) N ge (g := mkF m pc Ls (.int nn :: .int 0 :: .ref b :: .int 0 :: .ref a :: rest)) rfl hml rfl hd hf (by show 2 * 0 + _ ≤ _; omega) hlo
  refine Go.step st (k T' h' L X' e' N' K' ?_)
  obtain ⟨c2, A2, -, S2, P2, H2, G2⟩ := V'
  refine ⟨c2, A2, S2, P2, fun i => ?_, fun i hi => ?_⟩
  · unfold cpW; split
    · exact G i
    · exact Gd i
  · rw [H2 i hi]; congr 1
    rw [z0]; exact own_cpl f f' _ _ h4 h5 (by rw [← S2]; exact hi)
end OwnCp
section OwnNQ2
theorem own_ltle {a b d : Int32} (h : a < b) (h' : ¬ d < b) : a < d := by rw [Int32.lt_iff_toInt_lt] at *; omega
theorem own_incn {i to : Int32} (h0 : ¬ i < (0 : Int32)) (h : i < to) : ¬ i + (1 : Int32) < (0 : Int32) := by
  have := own_inc h; rw [Int32.lt_iff_toInt_lt, show (0 : Int32).toInt = 0 from rfl] at *; omega
theorem own_ofs {s : Nat} (h : s < 60) : (Int32.ofNat s).toInt = s := by rw [Int32.toInt_ofNat_of_lt (by omega)]
theorem own_nat {s : Nat} (h : s < 60) : (Int32.ofNat s).toNatClampNeg = s := by have := own_ofs h; rw [Int32.toNatClampNeg]; omega
theorem own_suc (s : Nat) : Int32.ofNat s + (1 : Int32) = Int32.ofNat (s + 1) := by rw [Int32.ofNat_add]; rfl
theorem own_pre (s : Nat) : Int32.ofNat s + (1 : Int32) - (1 : Int32) = Int32.ofNat s := Int32.add_sub_cancel _ _
theorem own_n16 {s : Nat} (h : s ≤ 2) : ¬ (Int32.ofNat s) = (16 : Int32) := fun q => by
  have := own_ofs (s := s) (by omega); rw [q] at this; have h2 : (16 : Int32).toInt = 16 := rfl; omega
theorem own_b16 {s : Nat} (h : s ≤ 2) : ¬ (Int32.ofNat s) < (0 : Int32) ∧ (Int32.ofNat s) < (16 : Int32) := by
  have := own_ofs (s := s) (by omega); rw [Int32.lt_iff_toInt_lt, Int32.lt_iff_toInt_lt, this, show (0 : Int32).toInt = 0 from rfl, show (16 : Int32).toInt = 16 from rfl]; omega
theorem own_le {a b : Int32} (h0 : ¬ a < (0 : Int32)) (h : a < b) : a.toNatClampNeg ≤ b.toNatClampNeg := by
  have := own_tn h0; have h2 : b.toNatClampNeg = b.toInt.toNat := rfl; rw [Int32.lt_iff_toInt_lt] at h; omega
end OwnNQ2

abbrev QC (Z : State) (h : Heap) (n0 : Nat) (q xu xv xw : Addr) (fG fP : Nat → Int32) (fK : Nat → UInt64) (lL : Int32) (n : Nat) (B : Int) (fS : Int32 → Prop) : Prop :=
  (Exa Z h q "com/example/tributary/tributary/NodeQueue" ∧ Fld Z h q "com/example/tributary/tributary/NodeQueue" "size" "I" (.int (Int32.ofNat n)) ∧ Fld Z h q "com/example/tributary/tributary/NodeQueue" "heap" "[I" (.ref xu) ∧ Fld Z h q "com/example/tributary/tributary/NodeQueue" "positions" "[I" (.ref xv) ∧ Fld Z h q "com/example/tributary/tributary/NodeQueue" "keys" "[D" (.ref xw) ∧ Iv Z h xu (16 : Int32) fG ∧ Iv Z h xv lL fP ∧ Dv Z h xw lL fK) ∧ (q ≠ xu ∧ q ≠ xv ∧ q ≠ xw ∧ xu ≠ xv ∧ xu ≠ xw ∧ xv ≠ xw ∧ n0 ≤ q ∧ n0 ≤ xu ∧ n0 ≤ xv ∧ n0 ≤ xw) ∧ ¬ lL < (0 : Int32) ∧ lL.toInt ≤ B ∧ QI n fG lL fP fS
abbrev QS (Z : State) (h : Heap) (n0 : Nat) (q : Addr) (n : Nat) (B : Int) (fS : Int32 → Prop) : Prop := ∃ (xu xv xw : Addr) (fG fP : Nat → Int32) (fK : Nat → UInt64) (lL : Int32), QC Z h n0 q xu xv xw fG fP fK lL n B fS
theorem d5_0 : decode jdk_29_method_65_code 0 = .ok (.iload_n 0, 1) := by decide +kernel
theorem d5_1 : decode jdk_29_method_65_code 1 = .ok (.iload_n 1, 1) := by decide +kernel
theorem d5_2 : decode jdk_29_method_65_code 2 = .ok (.if_icmp .lt 7, 3) := by decide +kernel
theorem d5_9 : decode jdk_29_method_65_code 9 = .ok (.iload_n 1, 1) := by decide +kernel
theorem d5_10 : decode jdk_29_method_65_code 10 = .ok (.ireturn, 1) := by decide +kernel
theorem d5_5 : decode jdk_29_method_65_code 5 = .ok (.iload_n 0, 1) := by decide +kernel
theorem d5_6 : decode jdk_29_method_65_code 6 = .ok (.goto 4, 3) := by decide +kernel
set_option maxRecDepth 65536 in
set_option maxHeartbeats 40000000 in
theorem w5 {p : Program} {l : Launch} {e : Env} {s : State} {m : MethodId} {args : Array Value} {below : List Frame} {meth : Method} {c_ : Code} {T0 : State} {locs : List Loc} {Z : State} {a0 : Array Value} {h0 : Heap} {n0 : Nat} (a b : Int32)
    (X0 : Stand p l e ({ frames := 0, cells := 0, slots := 0, locals := 0 } : Room) s m args below meth c_ T0 locs 0 0) (hx : p.tables.exec = Jvm.exec) (hZ : Z.Warmed39 s.vm) (hw : ∀ d ∈ tables_1, d.before a0 Z = true) (hby : c_.code = jdk_29_method_65_code) (hml : c_.maxLocals = 2) (hown : s.vm.findClass "java/lang/Math" = some m.cls) (hnm : meth.name = "max") (hret : meth.sig.returnType = some .int) (hlk : meth.locks = false) (e0 : T0.heap = h0) (Z0 : n0 ≤ h0.size) (N0 : Fr n0 locs)  :
    Go p e below s ({ frames := 0, cells := 0, slots := 0, locals := 0 } : Room).cells ({ frames := 0, cells := 0, slots := 0, locals := 0 } : Room).slots (fun r h L => r = some (.int (maxW a b)) ∧ Fr n0 L ∧ h = h0) T0 (mkF m 0 #[.val (.int a), .val (.int b)] []) := by
  show Go _ _ _ _ _ _ _ T0 (mkF m 0 #[.val (.int a), .val (.int b)] [])
  refine Go.step (fun _ k => XS.iloadN X0.here hx rfl (hb hby d5_0) rfl k) ?_
  refine Go.step (fun _ k => XS.iloadN X0.here hx rfl (hb hby d5_1) rfl k) ?_
  by_cases hc2_1 : a < b
  · refine Go.step (fun _ k => XS.icmpYes X0.here hx rfl (pc0 := 2) (pc' := 9) rfl (hb hby d5_2) rfl (tlt hc2_1).1 (by decide) (by decide) k) ?_
    show Go _ _ _ _ _ _ _ T0 (mkF m 9 #[.val (.int a), .val (.int b)] [])
    refine Go.step (fun _ k => XS.iloadN X0.here hx rfl (hb hby d5_9) rfl k) ?_
    refine Go.retI X0 hx hlk hret (hb hby d5_10) (by decide) (by decide) ?_
    try rw [e0]
    exact ⟨congrArg (fun z => some (Value.int z)) (show b = maxW a b from (if_pos hc2_1).symm), N0, rfl⟩
  · refine Go.step (fun _ k => XS.icmpNo X0.here hx rfl (hb hby d5_2) rfl (flt hc2_1).1 k) ?_
    show Go _ _ _ _ _ _ _ T0 (mkF m 5 #[.val (.int a), .val (.int b)] [])
    refine Go.step (fun _ k => XS.iloadN X0.here hx rfl (hb hby d5_5) rfl k) ?_
    refine Go.step (fun _ k => XS.goto X0.here hx rfl (pc0 := 6) (pc' := 10) rfl (hb hby d5_6) (by decide) (by decide) k) ?_
    show Go _ _ _ _ _ _ _ T0 (mkF m 10 #[.val (.int a), .val (.int b)] [(.int a)])
    refine Go.retI X0 hx hlk hret (hb hby d5_10) (by decide) (by decide) ?_
    try rw [e0]
    exact ⟨congrArg (fun z => some (Value.int z)) (show a = maxW a b from (if_neg hc2_1).symm), N0, rfl⟩
theorem ef_rm5 (m : MethodId) (a : Int32) (b : Int32) : entryFrame m #[(.int a), (.int b)] 2 = mkF m 0 #[.val (.int a), .val (.int b)] [] := by first | (simp [entryFrame, mkF, argsToLocals, Value.category]; done) | rfl
theorem rm5 (l : Launch) (Z : State) (a0 : Array Value) (hw : ∀ d ∈ tables_1, d.before a0 Z = true) (a b : Int32) (h0 : Heap) (n0 : Nat) (Z0 : n0 ≤ h0.size)  :
    Con l Z (⟨"java/lang/Math", "max", "(II)I"⟩ : MethodName) jdk_29_method_65_code 2 (some .int) ({ frames := 0, cells := 0, slots := 0, locals := 0 } : Room) #[(.int a), (.int b)] h0 (fun r h L => r = some (.int (maxW a b)) ∧ Fr n0 L ∧ h = h0) :=
  con_of (Jvm.Free.JP.mathPlain rfl (by decide +kernel)) (fun p_ e_ s_ m_ b_ meth_ c_ T_ X_ hx hZ hby hml hown hnm hret hlk e0 => Go.cast (ef_rm5 m_ a b) (w5 a b X_ hx hZ hw hby hml hown hnm hret hlk e0 Z0 (Fr.nil n0) ))
theorem d7_0 : decode jdk_29_method_69_code 0 = .ok (.iload_n 0, 1) := by decide +kernel
theorem d7_1 : decode jdk_29_method_69_code 1 = .ok (.iload_n 1, 1) := by decide +kernel
theorem d7_2 : decode jdk_29_method_69_code 2 = .ok (.if_icmp .gt 7, 3) := by decide +kernel
theorem d7_9 : decode jdk_29_method_69_code 9 = .ok (.iload_n 1, 1) := by decide +kernel
theorem d7_10 : decode jdk_29_method_69_code 10 = .ok (.ireturn, 1) := by decide +kernel
theorem d7_5 : decode jdk_29_method_69_code 5 = .ok (.iload_n 0, 1) := by decide +kernel
theorem d7_6 : decode jdk_29_method_69_code 6 = .ok (.goto 4, 3) := by decide +kernel
set_option maxRecDepth 65536 in
set_option maxHeartbeats 40000000 in
theorem w7 {p : Program} {l : Launch} {e : Env} {s : State} {m : MethodId} {args : Array Value} {below : List Frame} {meth : Method} {c_ : Code} {T0 : State} {locs : List Loc} {Z : State} {a0 : Array Value} {h0 : Heap} {n0 : Nat} (a b : Int32)
    (X0 : Stand p l e ({ frames := 0, cells := 0, slots := 0, locals := 0 } : Room) s m args below meth c_ T0 locs 0 0) (hx : p.tables.exec = Jvm.exec) (hZ : Z.Warmed39 s.vm) (hw : ∀ d ∈ tables_1, d.before a0 Z = true) (hby : c_.code = jdk_29_method_69_code) (hml : c_.maxLocals = 2) (hown : s.vm.findClass "java/lang/Math" = some m.cls) (hnm : meth.name = "min") (hret : meth.sig.returnType = some .int) (hlk : meth.locks = false) (e0 : T0.heap = h0) (Z0 : n0 ≤ h0.size) (N0 : Fr n0 locs)  :
    Go p e below s ({ frames := 0, cells := 0, slots := 0, locals := 0 } : Room).cells ({ frames := 0, cells := 0, slots := 0, locals := 0 } : Room).slots (fun r h L => r = some (.int (minW a b)) ∧ Fr n0 L ∧ h = h0) T0 (mkF m 0 #[.val (.int a), .val (.int b)] []) := by
  show Go _ _ _ _ _ _ _ T0 (mkF m 0 #[.val (.int a), .val (.int b)] [])
  refine Go.step (fun _ k => XS.iloadN X0.here hx rfl (hb hby d7_0) rfl k) ?_
  refine Go.step (fun _ k => XS.iloadN X0.here hx rfl (hb hby d7_1) rfl k) ?_
  by_cases hc2_1 : b < a
  · refine Go.step (fun _ k => XS.icmpYes X0.here hx rfl (pc0 := 2) (pc' := 9) rfl (hb hby d7_2) rfl (tlt hc2_1).2.2.1 (by decide) (by decide) k) ?_
    show Go _ _ _ _ _ _ _ T0 (mkF m 9 #[.val (.int a), .val (.int b)] [])
    refine Go.step (fun _ k => XS.iloadN X0.here hx rfl (hb hby d7_9) rfl k) ?_
    refine Go.retI X0 hx hlk hret (hb hby d7_10) (by decide) (by decide) ?_
    try rw [e0]
    exact ⟨congrArg (fun z => some (Value.int z)) (show b = minW a b from (if_pos hc2_1).symm), N0, rfl⟩
  · refine Go.step (fun _ k => XS.icmpNo X0.here hx rfl (hb hby d7_2) rfl (flt hc2_1).2.2.1 k) ?_
    show Go _ _ _ _ _ _ _ T0 (mkF m 5 #[.val (.int a), .val (.int b)] [])
    refine Go.step (fun _ k => XS.iloadN X0.here hx rfl (hb hby d7_5) rfl k) ?_
    refine Go.step (fun _ k => XS.goto X0.here hx rfl (pc0 := 6) (pc' := 10) rfl (hb hby d7_6) (by decide) (by decide) k) ?_
    show Go _ _ _ _ _ _ _ T0 (mkF m 10 #[.val (.int a), .val (.int b)] [(.int a)])
    refine Go.retI X0 hx hlk hret (hb hby d7_10) (by decide) (by decide) ?_
    try rw [e0]
    exact ⟨congrArg (fun z => some (Value.int z)) (show a = minW a b from (if_neg hc2_1).symm), N0, rfl⟩
theorem ef_rm7 (m : MethodId) (a : Int32) (b : Int32) : entryFrame m #[(.int a), (.int b)] 2 = mkF m 0 #[.val (.int a), .val (.int b)] [] := by first | (simp [entryFrame, mkF, argsToLocals, Value.category]; done) | rfl
theorem rm7 (l : Launch) (Z : State) (a0 : Array Value) (hw : ∀ d ∈ tables_1, d.before a0 Z = true) (a b : Int32) (h0 : Heap) (n0 : Nat) (Z0 : n0 ≤ h0.size)  :
    Con l Z (⟨"java/lang/Math", "min", "(II)I"⟩ : MethodName) jdk_29_method_69_code 2 (some .int) ({ frames := 0, cells := 0, slots := 0, locals := 0 } : Room) #[(.int a), (.int b)] h0 (fun r h L => r = some (.int (minW a b)) ∧ Fr n0 L ∧ h = h0) :=
  con_of (Jvm.Free.JP.mathPlain rfl (by decide +kernel)) (fun p_ e_ s_ m_ b_ meth_ c_ T_ X_ hx hZ hby hml hown hnm hret hlk e0 => Go.cast (ef_rm7 m_ a b) (w7 a b X_ hx hZ hw hby hml hown hnm hret hlk e0 Z0 (Fr.nil n0) ))
theorem d9_0 : decode jdk_65_method_30_code 0 = .ok (.iload_n 1, 1) := by decide +kernel
theorem d9_1 : decode jdk_65_method_30_code 1 = .ok (.iload_n 2, 1) := by decide +kernel
theorem d9_2 : decode jdk_65_method_30_code 2 = .ok (.if_icmp .le 44, 3) := by decide +kernel
theorem d9_46 : decode jdk_65_method_30_code 46 = .ok (.iload_n 1, 1) := by decide +kernel
theorem d9_47 : decode jdk_65_method_30_code 47 = .ok (.ifCond .ge 12, 3) := by decide +kernel
theorem d9_59 : decode jdk_65_method_30_code 59 = .ok (.iload_n 2, 1) := by decide +kernel
theorem d9_60 : decode jdk_65_method_30_code 60 = .ok (.iload_n 0, 1) := by decide +kernel
theorem d9_61 : decode jdk_65_method_30_code 61 = .ok (.if_icmp .le 12, 3) := by decide +kernel
theorem d9_73 : decode jdk_65_method_30_code 73 = .ok (.return_, 1) := by decide +kernel
set_option maxRecDepth 65536 in
set_option maxHeartbeats 40000000 in
theorem w9 {p : Program} {l : Launch} {e : Env} {s : State} {m : MethodId} {args : Array Value} {below : List Frame} {meth : Method} {c_ : Code} {T0 : State} {locs : List Loc} {Z : State} {a0 : Array Value} {h0 : Heap} {n0 : Nat} (ln fr tt : Int32)
    (X0 : Stand p l e ({ frames := 0, cells := 0, slots := 0, locals := 0 } : Room) s m args below meth c_ T0 locs 0 0) (hx : p.tables.exec = Jvm.exec) (hZ : Z.Warmed39 s.vm) (hw : ∀ d ∈ tables_1, d.before a0 Z = true) (hby : c_.code = jdk_65_method_30_code) (hml : c_.maxLocals = 3) (hown : s.vm.findClass "java/util/Arrays" = some m.cls) (hnm : meth.name = "rangeCheck") (hret : meth.sig.returnType = none) (hlk : meth.locks = false) (e0 : T0.heap = h0) (Z0 : n0 ≤ h0.size) (N0 : Fr n0 locs) (h1 : ¬ tt < fr) (h2 : ¬ fr < (0 : Int32)) (h3 : ¬ ln < tt) :
    Go p e below s ({ frames := 0, cells := 0, slots := 0, locals := 0 } : Room).cells ({ frames := 0, cells := 0, slots := 0, locals := 0 } : Room).slots (fun r h L => r = none ∧ Fr n0 L ∧ h = h0) T0 (mkF m 0 #[.val (.int ln), .val (.int fr), .val (.int tt)] []) := by
  show Go _ _ _ _ _ _ _ T0 (mkF m 0 #[.val (.int ln), .val (.int fr), .val (.int tt)] [])
  refine Go.step (fun _ k => XS.iloadN X0.here hx rfl (hb hby d9_0) rfl k) ?_
  refine Go.step (fun _ k => XS.iloadN X0.here hx rfl (hb hby d9_1) rfl k) ?_
  refine Go.step (fun _ k => XS.icmpYes X0.here hx rfl (pc0 := 2) (pc' := 46) rfl (hb hby d9_2) rfl (flt h1).2.2.2 (by decide) (by decide) k) ?_
  show Go _ _ _ _ _ _ _ T0 (mkF m 46 #[.val (.int ln), .val (.int fr), .val (.int tt)] [])
  refine Go.step (fun _ k => XS.iloadN X0.here hx rfl (hb hby d9_46) rfl k) ?_
  refine Go.step (fun _ k => XS.ifYes X0.here hx rfl (pc0 := 47) (pc' := 59) rfl (hb hby d9_47) rfl ((if0 _ _).trans (flt h2).2.1) (by decide) (by decide) k) ?_
  show Go _ _ _ _ _ _ _ T0 (mkF m 59 #[.val (.int ln), .val (.int fr), .val (.int tt)] [])
  refine Go.step (fun _ k => XS.iloadN X0.here hx rfl (hb hby d9_59) rfl k) ?_
  refine Go.step (fun _ k => XS.iloadN X0.here hx rfl (hb hby d9_60) rfl k) ?_
  refine Go.step (fun _ k => XS.icmpYes X0.here hx rfl (pc0 := 61) (pc' := 73) rfl (hb hby d9_61) rfl (flt h3).2.2.2 (by decide) (by decide) k) ?_
  show Go _ _ _ _ _ _ _ T0 (mkF m 73 #[.val (.int ln), .val (.int fr), .val (.int tt)] [])
  refine Go.retV X0 hx hlk hret (hb hby d9_73) (by decide) (by decide) ?_
  try rw [e0]
  exact ⟨rfl, N0, rfl⟩
theorem pn_9 : plainName "java/util/Arrays" = true := by first | (simp [plainName, overriddenIn]; done) | decide +kernel
theorem ef_rm9 (m : MethodId) (ln : Int32) (fr : Int32) (tt : Int32) : entryFrame m #[(.int ln), (.int fr), (.int tt)] 3 = mkF m 0 #[.val (.int ln), .val (.int fr), .val (.int tt)] [] := by first | (simp [entryFrame, mkF, argsToLocals, Value.category]; done) | rfl
theorem rm9 (l : Launch) (Z : State) (a0 : Array Value) (hw : ∀ d ∈ tables_1, d.before a0 Z = true) (ln fr tt : Int32) (h0 : Heap) (n0 : Nat) (Z0 : n0 ≤ h0.size) (h1 : ¬ tt < fr) (h2 : ¬ fr < (0 : Int32)) (h3 : ¬ ln < tt) :
    Con l Z (⟨"java/util/Arrays", "rangeCheck", "(III)V"⟩ : MethodName) jdk_65_method_30_code 3 none ({ frames := 0, cells := 0, slots := 0, locals := 0 } : Room) #[(.int ln), (.int fr), (.int tt)] h0 (fun r h L => r = none ∧ Fr n0 L ∧ h = h0) :=
  con_of (plainFor_of_name pn_9) (fun p_ e_ s_ m_ b_ meth_ c_ T_ X_ hx hZ hby hml hown hnm hret hlk e0 => Go.cast (ef_rm9 m_ ln fr tt) (w9 ln fr tt X_ hx hZ hw hby hml hown hnm hret hlk e0 Z0 (Fr.nil n0) h1 h2 h3))
theorem d8_10 : decode jdk_65_method_104_code 10 = .ok (.iload 4, 2) := by decide +kernel
theorem d8_12 : decode jdk_65_method_104_code 12 = .ok (.iload_n 2, 1) := by decide +kernel
theorem d8_13 : decode jdk_65_method_104_code 13 = .ok (.if_icmp .ge 14, 3) := by decide +kernel
theorem d8_16 : decode jdk_65_method_104_code 16 = .ok (.aload_n 0, 1) := by decide +kernel
theorem d8_17 : decode jdk_65_method_104_code 17 = .ok (.iload 4, 2) := by decide +kernel
theorem d8_19 : decode jdk_65_method_104_code 19 = .ok (.iload_n 3, 1) := by decide +kernel
theorem d8_20 : decode jdk_65_method_104_code 20 = .ok (.iastore, 1) := by decide +kernel
theorem d8_21 : decode jdk_65_method_104_code 21 = .ok (.iinc 4 1, 3) := by decide +kernel
theorem d8_24 : decode jdk_65_method_104_code 24 = .ok (.goto (-14), 3) := by decide +kernel
theorem d8_27 : decode jdk_65_method_104_code 27 = .ok (.return_, 1) := by decide +kernel
set_option maxRecDepth 65536 in
set_option maxHeartbeats 40000000 in
theorem wfl {p : Program} {l : Launch} {e : Env} {s : State} {m : MethodId} {args : Array Value} {below : List Frame} {meth : Method} {c_ : Code} {T0 : State} {locs : List Loc} {Z : State} {a0 : Array Value} {h0 : Heap} {n0 : Nat} (hh : Heap) (xv : Addr) (fP fH : Nat → Int32) (lL fr tt i : Int32)
    (X0 : Stand p l e ({ frames := 1, cells := 0, slots := 0, locals := 14 } : Room) s m args below meth c_ T0 locs 0 0) (hx : p.tables.exec = Jvm.exec) (hZ : Z.Warmed39 s.vm) (hw : ∀ d ∈ tables_1, d.before a0 Z = true) (hby : c_.code = jdk_65_method_104_code) (hml : c_.maxLocals = 5) (hown : s.vm.findClass "java/util/Arrays" = some m.cls) (hnm : meth.name = "fill") (hret : meth.sig.returnType = none) (hlk : meth.locks = false) (e0 : T0.heap = h0) (Z0 : n0 ≤ h0.size) (N0 : Fr n0 locs) (V_xv : Iv Z h0 xv lL fP) (ge_xv : n0 ≤ xv) (Kh : Keep hh h0 [xv]) (hi : ¬ i < (0 : Int32)) (ht : ¬ lL < tt) (hG : fH = fillW fP (i).toNatClampNeg (tt).toNatClampNeg) (IH : i < tt → ∀ (T1 : State) (locs1 : List Loc) (h1 : Heap), Stand p l e ({ frames := 1, cells := 0, slots := 0, locals := 14 } : Room) s m args below meth c_ T1 locs1 0 0 → T1.heap = h1 → n0 ≤ h1.size → Fr n0 locs1 → Iv Z h1 xv lL (updN fP (i).toNatClampNeg (-1 : Int32)) → Keep hh h1 [xv] → Go p e below s ({ frames := 1, cells := 0, slots := 0, locals := 14 } : Room).cells ({ frames := 1, cells := 0, slots := 0, locals := 14 } : Room).slots (fun r h L => r = none ∧ Fr n0 L ∧ Keep hh h [xv] ∧ Iv Z h xv lL fH) T1 (mkF m 10 #[.val (.ref xv), .val (.int fr), .val (.int tt), .val (.int (-1 : Int32)), .val (.int (i + (1 : Int32)))] [])) :
    Go p e below s ({ frames := 1, cells := 0, slots := 0, locals := 14 } : Room).cells ({ frames := 1, cells := 0, slots := 0, locals := 14 } : Room).slots (fun r h L => r = none ∧ Fr n0 L ∧ Keep hh h [xv] ∧ Iv Z h xv lL fH) T0 (mkF m 10 #[.val (.ref xv), .val (.int fr), .val (.int tt), .val (.int (-1 : Int32)), .val (.int i)] []) := by
  show Go _ _ _ _ _ _ _ T0 (mkF m 10 #[.val (.ref xv), .val (.int fr), .val (.int tt), .val (.int (-1 : Int32)), .val (.int i)] [])
  refine Go.step (fun _ k => XS.iload X0.here hx rfl (hb hby d8_10) rfl k) ?_
  refine Go.step (fun _ k => XS.iloadN X0.here hx rfl (hb hby d8_12) rfl k) ?_
  by_cases hc13_1 : i < tt
  · refine Go.step (fun _ k => XS.icmpNo X0.here hx rfl (hb hby d8_13) rfl (tlt hc13_1).2.1 k) ?_
    show Go _ _ _ _ _ _ _ T0 (mkF m 16 #[.val (.ref xv), .val (.int fr), .val (.int tt), .val (.int (-1 : Int32)), .val (.int i)] [])
    refine Go.step (fun _ k => XS.aloadN X0.here hx rfl (hb hby d8_16) rfl rfl k) ?_
    refine Go.step (fun _ k => XS.iload X0.here hx rfl (hb hby d8_17) rfl k) ?_
    refine Go.step (fun _ k => XS.iloadN X0.here hx rfl (hb hby d8_19) rfl k) ?_
    show Go _ _ _ _ _ _ _ T0 (mkF m 20 #[.val (.ref xv), .val (.int fr), .val (.int tt), .val (.int (-1 : Int32)), .val (.int i)] [(.int (-1 : Int32)), (.int i), (.ref xv)])
    refine Go.iastore X0 hx hZ e0 V_xv (j := i) (x := (-1 : Int32)) ⟨hi, own_ltle hc13_1 ht⟩ (hb hby d8_20) ?_
    intro T2 h2 X2 e2 W2 Vn2
    have V_xv_2 : Iv Z h2 xv lL (updN fP (i).toNatClampNeg (-1 : Int32)) := Vn2
    have N2 := Fr.snoc X2 N0 ge_xv
    have K2 : Keep h0 h2 [xv] := (Keep.refl h0 [xv]).wr W2 (Or.inl (List.mem_of_getElem? (i := 0) rfl))
    show Go _ _ _ _ _ _ _ T2 (mkF m 21 #[.val (.ref xv), .val (.int fr), .val (.int tt), .val (.int (-1 : Int32)), .val (.int i)] [])
    refine Go.step (fun _ k => XS.iinc X2.here hx rfl (hb hby d8_21) rfl (l' := #[.val (.ref xv), .val (.int fr), .val (.int tt), .val (.int (-1 : Int32)), .val (.int (i + (1 : Int32)))]) rfl k) ?_
    show Go _ _ _ _ _ _ _ T2 (mkF m 24 #[.val (.ref xv), .val (.int fr), .val (.int tt), .val (.int (-1 : Int32)), .val (.int (i + (1 : Int32)))] [])
    refine Go.step (fun _ k => XS.goto X2.here hx rfl (pc0 := 24) (pc' := 10) rfl (hb hby d8_24) (by decide) (by decide) k) ?_
    show Go _ _ _ _ _ _ _ T2 (mkF m 10 #[.val (.ref xv), .val (.int fr), .val (.int tt), .val (.int (-1 : Int32)), .val (.int (i + (1 : Int32)))] [])
    exact IH hc13_1 _ _ _ X2 e2 (Nat.le_trans Z0 (K2 : Keep h0 h2 [xv]).1) N2 V_xv_2 (Kh.trans (K2 : Keep h0 h2 [xv]) (fun y hy => Or.inl hy))
  · refine Go.step (fun _ k => XS.icmpYes X0.here hx rfl (pc0 := 13) (pc' := 27) rfl (hb hby d8_13) rfl (flt hc13_1).2.1 (by decide) (by decide) k) ?_
    show Go _ _ _ _ _ _ _ T0 (mkF m 27 #[.val (.ref xv), .val (.int fr), .val (.int tt), .val (.int (-1 : Int32)), .val (.int i)] [])
    refine Go.retV X0 hx hlk hret (hb hby d8_27) (by decide) (by decide) ?_
    try rw [e0]
    exact ⟨rfl, N0, Kh, by rw [← own_fill0 hi hc13_1 hG]; exact V_xv⟩
theorem wfL {p : Program} {l : Launch} {e : Env} {s : State} {m : MethodId} {args : Array Value} {below : List Frame} {meth : Method} {c_ : Code} {Z : State} {a0 : Array Value} {n0 : Nat} (hh : Heap) (xv : Addr) (fH : Nat → Int32) (lL fr tt : Int32) (hx : p.tables.exec = Jvm.exec) (hZ : Z.Warmed39 s.vm) (hw : ∀ d ∈ tables_1, d.before a0 Z = true) (hby : c_.code = jdk_65_method_104_code) (hml : c_.maxLocals = 5) (hown : s.vm.findClass "java/util/Arrays" = some m.cls) (hnm : meth.name = "fill") (hret : meth.sig.returnType = none) (hlk : meth.locks = false) (ge_xv : n0 ≤ xv) (ht : ¬ lL < tt) :
    ∀ (k : Nat) (i : Int32) (fP : Nat → Int32) (T0 : State) (locs : List Loc) (h0 : Heap), tt.toInt - i.toInt ≤ k → Stand p l e ({ frames := 1, cells := 0, slots := 0, locals := 14 } : Room) s m args below meth c_ T0 locs 0 0 → T0.heap = h0 → n0 ≤ h0.size → Fr n0 locs → Iv Z h0 xv lL fP → Keep hh h0 [xv] → ¬ i < (0 : Int32) → fH = fillW fP (i).toNatClampNeg (tt).toNatClampNeg → Go p e below s ({ frames := 1, cells := 0, slots := 0, locals := 14 } : Room).cells ({ frames := 1, cells := 0, slots := 0, locals := 14 } : Room).slots (fun r h L => r = none ∧ Fr n0 L ∧ Keep hh h [xv] ∧ Iv Z h xv lL fH) T0 (mkF m 10 #[.val (.ref xv), .val (.int fr), .val (.int tt), .val (.int (-1 : Int32)), .val (.int i)] []) := by
  intro k
  induction k with
  | zero => intro i fP T0 locs h0 hk X0 e0 Z0 N0 V K hi hG; exact wfl hh xv fP fH lL fr tt i X0 hx hZ hw hby hml hown hnm hret hlk e0 Z0 N0 V ge_xv K hi ht hG (fun q => absurd q (by rw [Int32.lt_iff_toInt_lt]; omega))
  | succ k ih => intro i fP T0 locs h0 hk X0 e0 Z0 N0 V K hi hG; exact wfl hh xv fP fH lL fr tt i X0 hx hZ hw hby hml hown hnm hret hlk e0 Z0 N0 V ge_xv K hi ht hG (fun q T1 locs1 h1 X1 e1 Z1 N1 V1 K1 => ih (i + (1 : Int32)) _ T1 locs1 h1 (by have := own_inc q; omega) X1 e1 Z1 N1 V1 K1 (own_incn hi q) (own_fillS hi q hG))
theorem d8_0 : decode jdk_65_method_104_code 0 = .ok (.aload_n 0, 1) := by decide +kernel
theorem d8_1 : decode jdk_65_method_104_code 1 = .ok (.arraylength, 1) := by decide +kernel
theorem d8_2 : decode jdk_65_method_104_code 2 = .ok (.iload_n 1, 1) := by decide +kernel
theorem d8_3 : decode jdk_65_method_104_code 3 = .ok (.iload_n 2, 1) := by decide +kernel
theorem d8_4 : decode jdk_65_method_104_code 4 = .ok (.invokestatic 13, 3) := by decide +kernel
theorem pd_0 : parseMethodDescriptor "(III)V" = some ⟨[.int, .int, .int], none⟩ := by decide +kernel
theorem d8_7 : decode jdk_65_method_104_code 7 = .ok (.iload_n 1, 1) := by decide +kernel
theorem d8_8 : decode jdk_65_method_104_code 8 = .ok (.istore 4, 2) := by decide +kernel
set_option maxRecDepth 65536 in
set_option maxHeartbeats 40000000 in
theorem w8 {p : Program} {l : Launch} {e : Env} {s : State} {m : MethodId} {args : Array Value} {below : List Frame} {meth : Method} {c_ : Code} {T0 : State} {locs : List Loc} {Z : State} {a0 : Array Value} {h0 : Heap} {n0 : Nat} (xv : Addr) (fP : Nat → Int32) (lL fr tt : Int32)
    (X0 : Stand p l e ({ frames := 1, cells := 0, slots := 0, locals := 14 } : Room) s m args below meth c_ T0 locs 0 0) (hx : p.tables.exec = Jvm.exec) (hZ : Z.Warmed39 s.vm) (hw : ∀ d ∈ tables_1, d.before a0 Z = true) (hby : c_.code = jdk_65_method_104_code) (hml : c_.maxLocals = 5) (hown : s.vm.findClass "java/util/Arrays" = some m.cls) (hnm : meth.name = "fill") (hret : meth.sig.returnType = none) (hlk : meth.locks = false) (e0 : T0.heap = h0) (Z0 : n0 ≤ h0.size) (N0 : Fr n0 locs) (V_xv : Iv Z h0 xv lL fP) (ge_xv : n0 ≤ xv) (h1 : ¬ tt < fr) (h2 : ¬ fr < (0 : Int32)) (h3 : ¬ lL < tt) :
    Go p e below s ({ frames := 1, cells := 0, slots := 0, locals := 14 } : Room).cells ({ frames := 1, cells := 0, slots := 0, locals := 14 } : Room).slots (fun r h L => r = none ∧ Fr n0 L ∧ Keep h0 h [xv] ∧ Iv Z h xv lL (fillW fP (fr).toNatClampNeg (tt).toNatClampNeg)) T0 (mkF m 0 #[.val (.ref xv), .val (.int fr), .val (.int tt), .val (.int (-1 : Int32)), .unset] []) := by
  show Go _ _ _ _ _ _ _ T0 (mkF m 0 #[.val (.ref xv), .val (.int fr), .val (.int tt), .val (.int (-1 : Int32)), .unset] [])
  refine Go.step (fun _ k => XS.aloadN X0.here hx rfl (hb hby d8_0) rfl rfl k) ?_
  refine Go.alen X0 hx hZ e0 V_xv (hb hby d8_1) ?_
  show Go _ _ _ _ _ _ _ T0 (mkF m 2 #[.val (.ref xv), .val (.int fr), .val (.int tt), .val (.int (-1 : Int32)), .unset] [(.int lL)])
  refine Go.step (fun _ k => XS.iloadN X0.here hx rfl (hb hby d8_2) rfl k) ?_
  refine Go.step (fun _ k => XS.iloadN X0.here hx rfl (hb hby d8_3) rfl k) ?_
  refine Go.callS X0 hx hZ (by rw [hml]; rfl) (y := (⟨"java/util/Arrays", "rangeCheck", "(III)V"⟩ : MethodName)) (argsL := [(.int lL), (.int fr), (.int tt)]) (rest := []) hown (hw _ (mI 45 rfl)) (hw _ (mI 46 rfl)) (hw _ (mI 33 rfl)) (hw _ (mI 47 rfl)) (by decide) (rm9 l Z a0 hw lL fr tt h0 n0 Z0 h1 h2 h3) e0 (hb hby d8_4) (lenOf pd_0 rfl) rfl rfl (W := 0) (Nat.le_of_eq rfl) (by decide) (by decide) (by decide) (by decide) ?_
  intro v1 T1 L1 X1 Q1
  obtain ⟨rfl, N1q, hh1⟩ := Q1
  have N1 := Fr.app N0 N1q
  show Go _ _ _ _ _ _ _ T1 (mkF m 7 #[.val (.ref xv), .val (.int fr), .val (.int tt), .val (.int (-1 : Int32)), .unset] [])
  refine Go.step (fun _ k => XS.iloadN X1.here hx rfl (hb hby d8_7) rfl k) ?_
  refine Go.step (fun _ k => XS.istore X1.here hx rfl (hb hby d8_8) rfl (l' := #[.val (.ref xv), .val (.int fr), .val (.int tt), .val (.int (-1 : Int32)), .val (.int fr)]) rfl k) ?_
  show Go _ _ _ _ _ _ _ T1 (mkF m 10 #[.val (.ref xv), .val (.int fr), .val (.int tt), .val (.int (-1 : Int32)), .val (.int fr)] [])
  exact wfL h0 xv _ lL fr tt hx hZ hw hby hml hown hnm hret hlk ge_xv h3 (tt.toInt - fr.toInt).toNat fr fP _ _ _ (by omega) X1 hh1 Z0 N1 V_xv (Keep.refl h0 [xv]) h2 rfl
theorem ef_rm8 (m : MethodId) (xv : Addr) (fr : Int32) (tt : Int32) : entryFrame m #[(.ref xv), (.int fr), (.int tt), (.int (-1 : Int32))] 5 = mkF m 0 #[.val (.ref xv), .val (.int fr), .val (.int tt), .val (.int (-1 : Int32)), .unset] [] := by first | (simp [entryFrame, mkF, argsToLocals, Value.category]; done) | rfl
theorem rm8 (l : Launch) (Z : State) (a0 : Array Value) (hw : ∀ d ∈ tables_1, d.before a0 Z = true) (xv : Addr) (fP : Nat → Int32) (lL fr tt : Int32) (h0 : Heap) (n0 : Nat) (Z0 : n0 ≤ h0.size) (V_xv : Iv Z h0 xv lL fP) (ge_xv : n0 ≤ xv) (h1 : ¬ tt < fr) (h2 : ¬ fr < (0 : Int32)) (h3 : ¬ lL < tt) :
    Con l Z (⟨"java/util/Arrays", "fill", "([IIII)V"⟩ : MethodName) jdk_65_method_104_code 5 none ({ frames := 1, cells := 0, slots := 0, locals := 14 } : Room) #[(.ref xv), (.int fr), (.int tt), (.int (-1 : Int32))] h0 (fun r h L => r = none ∧ Fr n0 L ∧ Keep h0 h [xv] ∧ Iv Z h xv lL (fillW fP (fr).toNatClampNeg (tt).toNatClampNeg)) :=
  con_of (plainFor_of_name pn_9) (fun p_ e_ s_ m_ b_ meth_ c_ T_ X_ hx hZ hby hml hown hnm hret hlk e0 => Go.cast (ef_rm8 m_ xv fr tt) (w8 xv fP lL fr tt X_ hx hZ hw hby hml hown hnm hret hlk e0 Z0 (Fr.nil n0) V_xv ge_xv h1 h2 h3))
theorem d6_0 : decode jdk_65_method_123_code 0 = .ok (.iload_n 1, 1) := by decide +kernel
theorem d6_1 : decode jdk_65_method_123_code 1 = .ok (.aload_n 0, 1) := by decide +kernel
theorem d6_2 : decode jdk_65_method_123_code 2 = .ok (.arraylength, 1) := by decide +kernel
theorem d6_3 : decode jdk_65_method_123_code 3 = .ok (.if_icmp .ne 11, 3) := by decide +kernel
theorem d6_14 : decode jdk_65_method_123_code 14 = .ok (.iload_n 1, 1) := by decide +kernel
theorem d6_15 : decode jdk_65_method_123_code 15 = .ok (.newarray .int, 2) := by decide +kernel
theorem d6_17 : decode jdk_65_method_123_code 17 = .ok (.astore_n 2, 1) := by decide +kernel
theorem d6_18 : decode jdk_65_method_123_code 18 = .ok (.aload_n 0, 1) := by decide +kernel
theorem d6_19 : decode jdk_65_method_123_code 19 = .ok (.iconst 0, 1) := by decide +kernel
theorem d6_20 : decode jdk_65_method_123_code 20 = .ok (.aload_n 2, 1) := by decide +kernel
theorem d6_21 : decode jdk_65_method_123_code 21 = .ok (.iconst 0, 1) := by decide +kernel
theorem d6_22 : decode jdk_65_method_123_code 22 = .ok (.aload_n 0, 1) := by decide +kernel
theorem d6_23 : decode jdk_65_method_123_code 23 = .ok (.arraylength, 1) := by decide +kernel
theorem d6_24 : decode jdk_65_method_123_code 24 = .ok (.iload_n 1, 1) := by decide +kernel
theorem d6_25 : decode jdk_65_method_123_code 25 = .ok (.invokestatic 304, 3) := by decide +kernel
theorem pd_1 : parseMethodDescriptor "(II)I" = some ⟨[.int, .int], some .int⟩ := by decide +kernel
theorem d6_28 : decode jdk_65_method_123_code 28 = .ok (.invokestatic 150, 3) := by decide +kernel
theorem d6_31 : decode jdk_65_method_123_code 31 = .ok (.aload_n 2, 1) := by decide +kernel
theorem d6_32 : decode jdk_65_method_123_code 32 = .ok (.areturn, 1) := by decide +kernel
set_option maxRecDepth 65536 in
set_option maxHeartbeats 40000000 in
theorem w6 {p : Program} {l : Launch} {e : Env} {s : State} {m : MethodId} {args : Array Value} {below : List Frame} {meth : Method} {c_ : Code} {T0 : State} {locs : List Loc} {Z : State} {a0 : Array Value} {h0 : Heap} {n0 : Nat} (xv : Addr) (fP : Nat → Int32) (lL nL : Int32)
    (X0 : Stand p l e ({ frames := 1, cells := 1, slots := 64, locals := 18 } : Room) s m args below meth c_ T0 locs 0 0) (hx : p.tables.exec = Jvm.exec) (hZ : Z.Warmed39 s.vm) (hw : ∀ d ∈ tables_1, d.before a0 Z = true) (hby : c_.code = jdk_65_method_123_code) (hml : c_.maxLocals = 3) (hown : s.vm.findClass "java/util/Arrays" = some m.cls) (hnm : meth.name = "copyOf") (hret : meth.sig.returnType = some (.array .int)) (hlk : meth.locks = false) (e0 : T0.heap = h0) (Z0 : n0 ≤ h0.size) (N0 : Fr n0 locs) (V_xv : Iv Z h0 xv lL fP) (hl0 : ¬ lL < (0 : Int32)) (hlt : lL < nL) (hc0 : ¬ nL < (0 : Int32)) (hc1 : nL.toInt ≤ 64) (hne : ¬ nL = lL) :
    Go p e below s ({ frames := 1, cells := 1, slots := 64, locals := 18 } : Room).cells ({ frames := 1, cells := 1, slots := 64, locals := 18 } : Room).slots (fun r h L => ∃ b : Addr, r = some (.ref b) ∧ Fr n0 L ∧ Keep h0 h [] ∧ h0.size ≤ b ∧ Iv Z h b nL (cpW (lL).toNatClampNeg fP (fun _ => (0 : Int32)))) T0 (mkF m 0 #[.val (.ref xv), .val (.int nL), .unset] []) := by
  show Go _ _ _ _ _ _ _ T0 (mkF m 0 #[.val (.ref xv), .val (.int nL), .unset] [])
  refine Go.step (fun _ k => XS.iloadN X0.here hx rfl (hb hby d6_0) rfl k) ?_
  refine Go.step (fun _ k => XS.aloadN X0.here hx rfl (hb hby d6_1) rfl rfl k) ?_
  refine Go.alen X0 hx hZ e0 V_xv (hb hby d6_2) ?_
  show Go _ _ _ _ _ _ _ T0 (mkF m 3 #[.val (.ref xv), .val (.int nL), .unset] [(.int lL), (.int nL)])
  refine Go.step (fun _ k => XS.icmpYes X0.here hx rfl (pc0 := 3) (pc' := 14) rfl (hb hby d6_3) rfl (feq hne).2 (by decide) (by decide) k) ?_
  show Go _ _ _ _ _ _ _ T0 (mkF m 14 #[.val (.ref xv), .val (.int nL), .unset] [])
  refine Go.step (fun _ k => XS.iloadN X0.here hx rfl (hb hby d6_14) rfl k) ?_
  obtain ⟨T1, h1, k1, X1, e1, E1, A1, st1⟩ := newP X0 hx hZ (hw _ (mI 9 rfl)) e0 (g := (mkF m 15 #[.val (.ref xv), .val (.int nL), .unset] [(.int nL)])) rfl (hb hby d6_15) rfl hc0 (cap := 64) (own_cap hc1 hc0) (by decide) (by decide) (by decide)
  obtain ⟨b1, g1⟩ : ∃ z, z = h0.size := ⟨_, rfl⟩
  rw [← g1] at A1 st1
  refine Go.step st1 ?_
  have K1 : Keep h0 h1 [] := (Keep.refl h0 []).ext E1
  have sz_b1 : h0.size ≤ b1 := Nat.le_trans ((Keep.refl h0 []) : Keep h0 h0 []).1 (Nat.le_of_eq g1.symm)
  have ge_b1 : n0 ≤ b1 := Nat.le_trans Z0 sz_b1
  have ne_xv_b1 : xv ≠ b1 := Nat.ne_of_lt (Nat.lt_of_lt_of_le V_xv.lt (Nat.le_of_eq g1.symm))
  have V_xv_1 := V_xv.ext E1
  have V_b1 : Iv Z h1 b1 nL (fun _ => (0 : Int32)) := Fv.new A1 hc0
  show Go _ _ _ _ _ _ _ T1 (mkF m 17 #[.val (.ref xv), .val (.int nL), .unset] [(.ref b1)])
  refine Go.step (fun _ k => XS.astoreN X1.here hx rfl (hb hby d6_17) rfl rfl (l' := #[.val (.ref xv), .val (.int nL), .val (.ref b1)]) rfl k) ?_
  show Go _ _ _ _ _ _ _ T1 (mkF m 18 #[.val (.ref xv), .val (.int nL), .val (.ref b1)] [])
  refine Go.step (fun _ k => XS.aloadN X1.here hx rfl (hb hby d6_18) rfl rfl k) ?_
  refine Go.step (fun _ k => XS.iconst X1.here hx rfl (hb hby d6_19) k) ?_
  refine Go.step (fun _ k => XS.aloadN X1.here hx rfl (hb hby d6_20) rfl rfl k) ?_
  show Go _ _ _ _ _ _ _ T1 (mkF m 21 #[.val (.ref xv), .val (.int nL), .val (.ref b1)] [(.ref b1), (.int (0 : Int32)), (.ref xv)])
  refine Go.step (fun _ k => XS.iconst X1.here hx rfl (hb hby d6_21) k) ?_
  refine Go.step (fun _ k => XS.aloadN X1.here hx rfl (hb hby d6_22) rfl rfl k) ?_
  refine Go.alen X1 hx hZ e1 V_xv_1 (hb hby d6_23) ?_
  show Go _ _ _ _ _ _ _ T1 (mkF m 24 #[.val (.ref xv), .val (.int nL), .val (.ref b1)] [(.int lL), (.int (0 : Int32)), (.ref b1), (.int (0 : Int32)), (.ref xv)])
  refine Go.step (fun _ k => XS.iloadN X1.here hx rfl (hb hby d6_24) rfl k) ?_
  refine Go.callS X1 hx hZ (by rw [hml]; rfl) (y := (⟨"java/lang/Math", "min", "(II)I"⟩ : MethodName)) (argsL := [(.int lL), (.int nL)]) (rest := [(.int (0 : Int32)), (.ref b1), (.int (0 : Int32)), (.ref xv)]) hown (hw _ (mI 35 rfl)) (hw _ (mI 36 rfl)) (hw _ (mI 29 rfl)) (hw _ (mI 37 rfl)) (by decide) (rm7 l Z a0 hw lL nL h1 n0 (Nat.le_trans Z0 (K1 : Keep h0 h1 []).1)) e1 (hb hby d6_25) (lenOf pd_1 rfl) rfl rfl (W := 4) (Nat.le_of_eq rfl) (by decide) (by decide) (by decide) (by decide) ?_
  intro v2 T2 L2 X2 Q2
  obtain ⟨rfl, N2q, hh2⟩ := Q2
  have N2 := Fr.app N0 N2q
  show Go _ _ _ _ _ _ _ T2 (mkF m 28 #[.val (.ref xv), .val (.int nL), .val (.ref b1)] [(.int (minW lL nL)), (.int (0 : Int32)), (.ref b1), (.int (0 : Int32)), (.ref xv)])
  rw [own_min hlt]
  refine Go.cpP X2 hx hZ (by rw [hml]; rfl) hown (hw _ (mI 38 rfl)) (hw _ (mI 41 rfl)) (hw _ (mI 39 rfl)) (hw _ (mI 40 rfl)) hh2 V_xv_1 V_b1 rfl hl0 (Nat.le_refl _) (own_le hl0 hlt) N2 ge_b1 (hb hby d6_28) (by decide) (W := 0) (Nat.le_of_eq rfl) (by decide) ?_
  intro T3 h3 L3 X3 e3 N3 Kc3 Vn3
  have V_b1_3 : Iv Z h3 b1 nL (cpW (lL).toNatClampNeg fP (fun _ => (0 : Int32))) := Fv.congr Vn3 (fun i => by unfold cpW; split <;> rfl)
  have Kc3 : Keep h1 T3.heap [b1] := by rw [e3]; exact Kc3
  have KK3 : Keep h0 T3.heap [] := (K1 : Keep h0 h1 []).trans Kc3 (allS (Or.inr sz_b1) all0)
  rw [e3] at KK3
  show Go _ _ _ _ _ _ _ T3 (mkF m 31 #[.val (.ref xv), .val (.int nL), .val (.ref b1)] [])
  refine Go.step (fun _ k => XS.aloadN X3.here hx rfl (hb hby d6_31) rfl rfl k) ?_
  refine Go.retR X3 hx hlk hret rfl rfl rfl (hb hby d6_32) (by decide) (by decide) ?_
  try rw [e3]
  exact ⟨b1, rfl, N3, KK3, sz_b1, V_b1_3⟩
theorem ef_rm6 (m : MethodId) (xv : Addr) (nL : Int32) : entryFrame m #[(.ref xv), (.int nL)] 3 = mkF m 0 #[.val (.ref xv), .val (.int nL), .unset] [] := by first | (simp [entryFrame, mkF, argsToLocals, Value.category]; done) | rfl
theorem rm6 (l : Launch) (Z : State) (a0 : Array Value) (hw : ∀ d ∈ tables_1, d.before a0 Z = true) (xv : Addr) (fP : Nat → Int32) (lL nL : Int32) (h0 : Heap) (n0 : Nat) (Z0 : n0 ≤ h0.size) (V_xv : Iv Z h0 xv lL fP) (hl0 : ¬ lL < (0 : Int32)) (hlt : lL < nL) (hc0 : ¬ nL < (0 : Int32)) (hc1 : nL.toInt ≤ 64) (hne : ¬ nL = lL) :
    Con l Z (⟨"java/util/Arrays", "copyOf", "([II)[I"⟩ : MethodName) jdk_65_method_123_code 3 (some (.array .int)) ({ frames := 1, cells := 1, slots := 64, locals := 18 } : Room) #[(.ref xv), (.int nL)] h0 (fun r h L => ∃ b : Addr, r = some (.ref b) ∧ Fr n0 L ∧ Keep h0 h [] ∧ h0.size ≤ b ∧ Iv Z h b nL (cpW (lL).toNatClampNeg fP (fun _ => (0 : Int32)))) :=
  con_of (plainFor_of_name pn_9) (fun p_ e_ s_ m_ b_ meth_ c_ T_ X_ hx hZ hby hml hown hnm hret hlk e0 => Go.cast (ef_rm6 m_ xv nL) (w6 xv fP lL nL X_ hx hZ hw hby hml hown hnm hret hlk e0 Z0 (Fr.nil n0) V_xv hl0 hlt hc0 hc1 hne))
theorem d10_0 : decode jdk_65_method_127_code 0 = .ok (.iload_n 1, 1) := by decide +kernel
theorem d10_1 : decode jdk_65_method_127_code 1 = .ok (.aload_n 0, 1) := by decide +kernel
theorem d10_2 : decode jdk_65_method_127_code 2 = .ok (.arraylength, 1) := by decide +kernel
theorem d10_3 : decode jdk_65_method_127_code 3 = .ok (.if_icmp .ne 11, 3) := by decide +kernel
theorem d10_14 : decode jdk_65_method_127_code 14 = .ok (.iload_n 1, 1) := by decide +kernel
theorem d10_15 : decode jdk_65_method_127_code 15 = .ok (.newarray .double, 2) := by decide +kernel
theorem d10_17 : decode jdk_65_method_127_code 17 = .ok (.astore_n 2, 1) := by decide +kernel
theorem d10_18 : decode jdk_65_method_127_code 18 = .ok (.aload_n 0, 1) := by decide +kernel
theorem d10_19 : decode jdk_65_method_127_code 19 = .ok (.iconst 0, 1) := by decide +kernel
theorem d10_20 : decode jdk_65_method_127_code 20 = .ok (.aload_n 2, 1) := by decide +kernel
theorem d10_21 : decode jdk_65_method_127_code 21 = .ok (.iconst 0, 1) := by decide +kernel
theorem d10_22 : decode jdk_65_method_127_code 22 = .ok (.aload_n 0, 1) := by decide +kernel
theorem d10_23 : decode jdk_65_method_127_code 23 = .ok (.arraylength, 1) := by decide +kernel
theorem d10_24 : decode jdk_65_method_127_code 24 = .ok (.iload_n 1, 1) := by decide +kernel
theorem d10_25 : decode jdk_65_method_127_code 25 = .ok (.invokestatic 304, 3) := by decide +kernel
theorem d10_28 : decode jdk_65_method_127_code 28 = .ok (.invokestatic 150, 3) := by decide +kernel
theorem d10_31 : decode jdk_65_method_127_code 31 = .ok (.aload_n 2, 1) := by decide +kernel
theorem d10_32 : decode jdk_65_method_127_code 32 = .ok (.areturn, 1) := by decide +kernel
set_option maxRecDepth 65536 in
set_option maxHeartbeats 40000000 in
theorem w10 {p : Program} {l : Launch} {e : Env} {s : State} {m : MethodId} {args : Array Value} {below : List Frame} {meth : Method} {c_ : Code} {T0 : State} {locs : List Loc} {Z : State} {a0 : Array Value} {h0 : Heap} {n0 : Nat} (xv : Addr) (fK : Nat → UInt64) (lL nL : Int32)
    (X0 : Stand p l e ({ frames := 1, cells := 1, slots := 64, locals := 18 } : Room) s m args below meth c_ T0 locs 0 0) (hx : p.tables.exec = Jvm.exec) (hZ : Z.Warmed39 s.vm) (hw : ∀ d ∈ tables_1, d.before a0 Z = true) (hby : c_.code = jdk_65_method_127_code) (hml : c_.maxLocals = 3) (hown : s.vm.findClass "java/util/Arrays" = some m.cls) (hnm : meth.name = "copyOf") (hret : meth.sig.returnType = some (.array .double)) (hlk : meth.locks = false) (e0 : T0.heap = h0) (Z0 : n0 ≤ h0.size) (N0 : Fr n0 locs) (V_xv : Dv Z h0 xv lL fK) (hl0 : ¬ lL < (0 : Int32)) (hlt : lL < nL) (hc0 : ¬ nL < (0 : Int32)) (hc1 : nL.toInt ≤ 64) (hne : ¬ nL = lL) :
    Go p e below s ({ frames := 1, cells := 1, slots := 64, locals := 18 } : Room).cells ({ frames := 1, cells := 1, slots := 64, locals := 18 } : Room).slots (fun r h L => ∃ b : Addr, r = some (.ref b) ∧ Fr n0 L ∧ Keep h0 h [] ∧ h0.size ≤ b ∧ Dv Z h b nL (cpW (lL).toNatClampNeg fK (fun _ => (0 : UInt64)))) T0 (mkF m 0 #[.val (.ref xv), .val (.int nL), .unset] []) := by
  show Go _ _ _ _ _ _ _ T0 (mkF m 0 #[.val (.ref xv), .val (.int nL), .unset] [])
  refine Go.step (fun _ k => XS.iloadN X0.here hx rfl (hb hby d10_0) rfl k) ?_
  refine Go.step (fun _ k => XS.aloadN X0.here hx rfl (hb hby d10_1) rfl rfl k) ?_
  refine Go.alen X0 hx hZ e0 V_xv (hb hby d10_2) ?_
  show Go _ _ _ _ _ _ _ T0 (mkF m 3 #[.val (.ref xv), .val (.int nL), .unset] [(.int lL), (.int nL)])
  refine Go.step (fun _ k => XS.icmpYes X0.here hx rfl (pc0 := 3) (pc' := 14) rfl (hb hby d10_3) rfl (feq hne).2 (by decide) (by decide) k) ?_
  show Go _ _ _ _ _ _ _ T0 (mkF m 14 #[.val (.ref xv), .val (.int nL), .unset] [])
  refine Go.step (fun _ k => XS.iloadN X0.here hx rfl (hb hby d10_14) rfl k) ?_
  obtain ⟨T1, h1, k1, X1, e1, E1, A1, st1⟩ := newP X0 hx hZ (hw _ (mI 14 rfl)) e0 (g := (mkF m 15 #[.val (.ref xv), .val (.int nL), .unset] [(.int nL)])) rfl (hb hby d10_15) rfl hc0 (cap := 64) (own_cap hc1 hc0) (by decide) (by decide) (by decide)
  obtain ⟨b1, g1⟩ : ∃ z, z = h0.size := ⟨_, rfl⟩
  rw [← g1] at A1 st1
  refine Go.step st1 ?_
  have K1 : Keep h0 h1 [] := (Keep.refl h0 []).ext E1
  have sz_b1 : h0.size ≤ b1 := Nat.le_trans ((Keep.refl h0 []) : Keep h0 h0 []).1 (Nat.le_of_eq g1.symm)
  have ge_b1 : n0 ≤ b1 := Nat.le_trans Z0 sz_b1
  have ne_xv_b1 : xv ≠ b1 := Nat.ne_of_lt (Nat.lt_of_lt_of_le V_xv.lt (Nat.le_of_eq g1.symm))
  have V_xv_1 := V_xv.ext E1
  have V_b1 : Dv Z h1 b1 nL (fun _ => (0 : UInt64)) := Fv.new A1 hc0
  show Go _ _ _ _ _ _ _ T1 (mkF m 17 #[.val (.ref xv), .val (.int nL), .unset] [(.ref b1)])
  refine Go.step (fun _ k => XS.astoreN X1.here hx rfl (hb hby d10_17) rfl rfl (l' := #[.val (.ref xv), .val (.int nL), .val (.ref b1)]) rfl k) ?_
  show Go _ _ _ _ _ _ _ T1 (mkF m 18 #[.val (.ref xv), .val (.int nL), .val (.ref b1)] [])
  refine Go.step (fun _ k => XS.aloadN X1.here hx rfl (hb hby d10_18) rfl rfl k) ?_
  refine Go.step (fun _ k => XS.iconst X1.here hx rfl (hb hby d10_19) k) ?_
  refine Go.step (fun _ k => XS.aloadN X1.here hx rfl (hb hby d10_20) rfl rfl k) ?_
  show Go _ _ _ _ _ _ _ T1 (mkF m 21 #[.val (.ref xv), .val (.int nL), .val (.ref b1)] [(.ref b1), (.int (0 : Int32)), (.ref xv)])
  refine Go.step (fun _ k => XS.iconst X1.here hx rfl (hb hby d10_21) k) ?_
  refine Go.step (fun _ k => XS.aloadN X1.here hx rfl (hb hby d10_22) rfl rfl k) ?_
  refine Go.alen X1 hx hZ e1 V_xv_1 (hb hby d10_23) ?_
  show Go _ _ _ _ _ _ _ T1 (mkF m 24 #[.val (.ref xv), .val (.int nL), .val (.ref b1)] [(.int lL), (.int (0 : Int32)), (.ref b1), (.int (0 : Int32)), (.ref xv)])
  refine Go.step (fun _ k => XS.iloadN X1.here hx rfl (hb hby d10_24) rfl k) ?_
  refine Go.callS X1 hx hZ (by rw [hml]; rfl) (y := (⟨"java/lang/Math", "min", "(II)I"⟩ : MethodName)) (argsL := [(.int lL), (.int nL)]) (rest := [(.int (0 : Int32)), (.ref b1), (.int (0 : Int32)), (.ref xv)]) hown (hw _ (mI 35 rfl)) (hw _ (mI 36 rfl)) (hw _ (mI 29 rfl)) (hw _ (mI 37 rfl)) (by decide) (rm7 l Z a0 hw lL nL h1 n0 (Nat.le_trans Z0 (K1 : Keep h0 h1 []).1)) e1 (hb hby d10_25) (lenOf pd_1 rfl) rfl rfl (W := 4) (Nat.le_of_eq rfl) (by decide) (by decide) (by decide) (by decide) ?_
  intro v2 T2 L2 X2 Q2
  obtain ⟨rfl, N2q, hh2⟩ := Q2
  have N2 := Fr.app N0 N2q
  show Go _ _ _ _ _ _ _ T2 (mkF m 28 #[.val (.ref xv), .val (.int nL), .val (.ref b1)] [(.int (minW lL nL)), (.int (0 : Int32)), (.ref b1), (.int (0 : Int32)), (.ref xv)])
  rw [own_min hlt]
  refine Go.cpP X2 hx hZ (by rw [hml]; rfl) hown (hw _ (mI 38 rfl)) (hw _ (mI 41 rfl)) (hw _ (mI 39 rfl)) (hw _ (mI 40 rfl)) hh2 V_xv_1 V_b1 rfl hl0 (Nat.le_refl _) (own_le hl0 hlt) N2 ge_b1 (hb hby d10_28) (by decide) (W := 0) (Nat.le_of_eq rfl) (by decide) ?_
  intro T3 h3 L3 X3 e3 N3 Kc3 Vn3
  have V_b1_3 : Dv Z h3 b1 nL (cpW (lL).toNatClampNeg fK (fun _ => (0 : UInt64))) := Fv.congr Vn3 (fun i => by unfold cpW; split <;> rfl)
  have Kc3 : Keep h1 T3.heap [b1] := by rw [e3]; exact Kc3
  have KK3 : Keep h0 T3.heap [] := (K1 : Keep h0 h1 []).trans Kc3 (allS (Or.inr sz_b1) all0)
  rw [e3] at KK3
  show Go _ _ _ _ _ _ _ T3 (mkF m 31 #[.val (.ref xv), .val (.int nL), .val (.ref b1)] [])
  refine Go.step (fun _ k => XS.aloadN X3.here hx rfl (hb hby d10_31) rfl rfl k) ?_
  refine Go.retR X3 hx hlk hret rfl rfl rfl (hb hby d10_32) (by decide) (by decide) ?_
  try rw [e3]
  exact ⟨b1, rfl, N3, KK3, sz_b1, V_b1_3⟩
theorem ef_rm10 (m : MethodId) (xv : Addr) (nL : Int32) : entryFrame m #[(.ref xv), (.int nL)] 3 = mkF m 0 #[.val (.ref xv), .val (.int nL), .unset] [] := by first | (simp [entryFrame, mkF, argsToLocals, Value.category]; done) | rfl
theorem rm10 (l : Launch) (Z : State) (a0 : Array Value) (hw : ∀ d ∈ tables_1, d.before a0 Z = true) (xv : Addr) (fK : Nat → UInt64) (lL nL : Int32) (h0 : Heap) (n0 : Nat) (Z0 : n0 ≤ h0.size) (V_xv : Dv Z h0 xv lL fK) (hl0 : ¬ lL < (0 : Int32)) (hlt : lL < nL) (hc0 : ¬ nL < (0 : Int32)) (hc1 : nL.toInt ≤ 64) (hne : ¬ nL = lL) :
    Con l Z (⟨"java/util/Arrays", "copyOf", "([DI)[D"⟩ : MethodName) jdk_65_method_127_code 3 (some (.array .double)) ({ frames := 1, cells := 1, slots := 64, locals := 18 } : Room) #[(.ref xv), (.int nL)] h0 (fun r h L => ∃ b : Addr, r = some (.ref b) ∧ Fr n0 L ∧ Keep h0 h [] ∧ h0.size ≤ b ∧ Dv Z h b nL (cpW (lL).toNatClampNeg fK (fun _ => (0 : UInt64)))) :=
  con_of (plainFor_of_name pn_9) (fun p_ e_ s_ m_ b_ meth_ c_ T_ X_ hx hZ hby hml hown hnm hret hlk e0 => Go.cast (ef_rm10 m_ xv nL) (w10 xv fK lL nL X_ hx hZ hw hby hml hown hnm hret hlk e0 Z0 (Fr.nil n0) V_xv hl0 hlt hc0 hc1 hne))
theorem d12_0 : decode prog_40_method_11_code 0 = .ok (.aload_n 0, 1) := by decide +kernel
theorem d12_1 : decode prog_40_method_11_code 1 = .ok (.getfield 7, 3) := by decide +kernel
theorem d12_4 : decode prog_40_method_11_code 4 = .ok (.iload_n 2, 1) := by decide +kernel
theorem d12_5 : decode prog_40_method_11_code 5 = .ok (.iload_n 1, 1) := by decide +kernel
theorem d12_6 : decode prog_40_method_11_code 6 = .ok (.iastore, 1) := by decide +kernel
theorem d12_7 : decode prog_40_method_11_code 7 = .ok (.aload_n 0, 1) := by decide +kernel
theorem d12_8 : decode prog_40_method_11_code 8 = .ok (.getfield 13, 3) := by decide +kernel
theorem d12_11 : decode prog_40_method_11_code 11 = .ok (.iload_n 1, 1) := by decide +kernel
theorem d12_12 : decode prog_40_method_11_code 12 = .ok (.iload_n 2, 1) := by decide +kernel
theorem d12_13 : decode prog_40_method_11_code 13 = .ok (.iastore, 1) := by decide +kernel
theorem d12_14 : decode prog_40_method_11_code 14 = .ok (.return_, 1) := by decide +kernel
set_option maxRecDepth 65536 in
set_option maxHeartbeats 40000000 in
theorem w12 {p : Program} {l : Launch} {e : Env} {s : State} {m : MethodId} {args : Array Value} {below : List Frame} {meth : Method} {c_ : Code} {T0 : State} {locs : List Loc} {Z : State} {a0 : Array Value} {h0 : Heap} {n0 : Nat} (q xu xv : Addr) (fG fP : Nat → Int32) (lL x k : Int32)
    (X0 : Stand p l e ({ frames := 0, cells := 0, slots := 0, locals := 0 } : Room) s m args below meth c_ T0 locs 0 0) (hx : p.tables.exec = Jvm.exec) (hZ : Z.Warmed39 s.vm) (hw : ∀ d ∈ tables_1, d.before a0 Z = true) (hby : c_.code = prog_40_method_11_code) (hml : c_.maxLocals = 3) (hown : s.vm.findClass "com/example/tributary/tributary/NodeQueue" = some m.cls) (hnm : meth.name = "place") (hret : meth.sig.returnType = none) (hlk : meth.locks = false) (e0 : T0.heap = h0) (Z0 : n0 ≤ h0.size) (N0 : Fr n0 locs) (F_heap_q : Fld Z h0 q "com/example/tributary/tributary/NodeQueue" "heap" "[I" (.ref xu)) (F_positions_q : Fld Z h0 q "com/example/tributary/tributary/NodeQueue" "positions" "[I" (.ref xv)) (V_xu : Iv Z h0 xu (16 : Int32) fG) (V_xv : Iv Z h0 xv lL fP) (ne_q_xu : q ≠ xu) (ne_q_xv : q ≠ xv) (ne_xu_xv : xu ≠ xv) (ge_xu : n0 ≤ xu) (ge_xv : n0 ≤ xv) (hk : ¬ k < (0 : Int32) ∧ k < (16 : Int32)) (hx' : ¬ x < (0 : Int32) ∧ x < lL) :
    Go p e below s ({ frames := 0, cells := 0, slots := 0, locals := 0 } : Room).cells ({ frames := 0, cells := 0, slots := 0, locals := 0 } : Room).slots (fun r h L => r = none ∧ Fr n0 L ∧ Keep h0 h [xu, xv] ∧ Iv Z h xu (16 : Int32) (updN fG (k).toNatClampNeg x) ∧ Iv Z h xv lL (updN fP (x).toNatClampNeg k)) T0 (mkF m 0 #[.val (.ref q), .val (.int x), .val (.int k)] []) := by
  show Go _ _ _ _ _ _ _ T0 (mkF m 0 #[.val (.ref q), .val (.int x), .val (.int k)] [])
  refine Go.step (fun _ k => XS.aloadN X0.here hx rfl (hb hby d12_0) rfl rfl k) ?_
  obtain ⟨T1, X1, e1, st1⟩ := getF X0 hx hZ hown (host := "") (Or.inl (hw _ (mI 10 rfl))) Via.refl e0 F_heap_q (g := (mkF m 1 #[.val (.ref q), .val (.int x), .val (.int k)] [(.ref q)])) rfl rfl (hb hby d12_1)
  refine Go.step st1 ?_
  show Go _ _ _ _ _ _ _ T1 (mkF m 4 #[.val (.ref q), .val (.int x), .val (.int k)] [(.ref xu)])
  refine Go.step (fun _ k => XS.iloadN X1.here hx rfl (hb hby d12_4) rfl k) ?_
  refine Go.step (fun _ k => XS.iloadN X1.here hx rfl (hb hby d12_5) rfl k) ?_
  refine Go.iastore X1 hx hZ e1 V_xu (j := k) (x := x) hk (hb hby d12_6) ?_
  intro T2 h2 X2 e2 W2 Vn2
  have V_xu_2 : Iv Z h2 xu (16 : Int32) (updN fG (k).toNatClampNeg x) := Vn2
  have N2 := Fr.snoc X2 N0 ge_xu
  have F_heap_q_2 := F_heap_q.other W2 (Or.inl ne_q_xu)
  have F_positions_q_2 := F_positions_q.other W2 (Or.inl ne_q_xu)
  have V_xv_2 := V_xv.other W2 (Ne.symm ne_xu_xv)
  have K2 : Keep h0 h2 [xu, xv] := (Keep.refl h0 [xu, xv]).wr W2 (Or.inl (List.mem_of_getElem? (i := 0) rfl))
  show Go _ _ _ _ _ _ _ T2 (mkF m 7 #[.val (.ref q), .val (.int x), .val (.int k)] [])
  refine Go.step (fun _ k => XS.aloadN X2.here hx rfl (hb hby d12_7) rfl rfl k) ?_
  obtain ⟨T3, X3, e3, st3⟩ := getF X2 hx hZ hown (host := "") (Or.inl (hw _ (mI 12 rfl))) Via.refl e2 F_positions_q_2 (g := (mkF m 8 #[.val (.ref q), .val (.int x), .val (.int k)] [(.ref q)])) rfl rfl (hb hby d12_8)
  refine Go.step st3 ?_
  show Go _ _ _ _ _ _ _ T3 (mkF m 11 #[.val (.ref q), .val (.int x), .val (.int k)] [(.ref xv)])
  refine Go.step (fun _ k => XS.iloadN X3.here hx rfl (hb hby d12_11) rfl k) ?_
  refine Go.step (fun _ k => XS.iloadN X3.here hx rfl (hb hby d12_12) rfl k) ?_
  refine Go.iastore X3 hx hZ e3 V_xv_2 (j := x) (x := k) hx' (hb hby d12_13) ?_
  intro T4 h4 X4 e4 W4 Vn4
  have V_xv_4 : Iv Z h4 xv lL (updN fP (x).toNatClampNeg k) := Vn4
  have N4 := Fr.snoc X4 N2 ge_xv
  have F_heap_q_4 := F_heap_q_2.other W4 (Or.inl ne_q_xv)
  have F_positions_q_4 := F_positions_q_2.other W4 (Or.inl ne_q_xv)
  have V_xu_4 := V_xu_2.other W4 ne_xu_xv
  have K4 : Keep h0 h4 [xu, xv] := K2.wr W4 (Or.inl (List.mem_of_getElem? (i := 1) rfl))
  show Go _ _ _ _ _ _ _ T4 (mkF m 14 #[.val (.ref q), .val (.int x), .val (.int k)] [])
  refine Go.retV X4 hx hlk hret (hb hby d12_14) (by decide) (by decide) ?_
  try rw [e4]
  exact ⟨rfl, N4, K4, V_xu_4, V_xv_4⟩
theorem pn_12 : plainName "com/example/tributary/tributary/NodeQueue" = true := by first | (simp [plainName, overriddenIn]; done) | decide +kernel
theorem ef_rm12 (m : MethodId) (q : Addr) (x : Int32) (k : Int32) : entryFrame m #[(.ref q), (.int x), (.int k)] 3 = mkF m 0 #[.val (.ref q), .val (.int x), .val (.int k)] [] := by first | (simp [entryFrame, mkF, argsToLocals, Value.category]; done) | rfl
theorem rm12 (l : Launch) (Z : State) (a0 : Array Value) (hw : ∀ d ∈ tables_1, d.before a0 Z = true) (q xu xv : Addr) (fG fP : Nat → Int32) (lL x k : Int32) (h0 : Heap) (n0 : Nat) (Z0 : n0 ≤ h0.size) (F_heap_q : Fld Z h0 q "com/example/tributary/tributary/NodeQueue" "heap" "[I" (.ref xu)) (F_positions_q : Fld Z h0 q "com/example/tributary/tributary/NodeQueue" "positions" "[I" (.ref xv)) (V_xu : Iv Z h0 xu (16 : Int32) fG) (V_xv : Iv Z h0 xv lL fP) (ne_q_xu : q ≠ xu) (ne_q_xv : q ≠ xv) (ne_xu_xv : xu ≠ xv) (ge_xu : n0 ≤ xu) (ge_xv : n0 ≤ xv) (hk : ¬ k < (0 : Int32) ∧ k < (16 : Int32)) (hx' : ¬ x < (0 : Int32) ∧ x < lL) :
    Con l Z (⟨"com/example/tributary/tributary/NodeQueue", "place", "(II)V"⟩ : MethodName) prog_40_method_11_code 3 none ({ frames := 0, cells := 0, slots := 0, locals := 0 } : Room) #[(.ref q), (.int x), (.int k)] h0 (fun r h L => r = none ∧ Fr n0 L ∧ Keep h0 h [xu, xv] ∧ Iv Z h xu (16 : Int32) (updN fG (k).toNatClampNeg x) ∧ Iv Z h xv lL (updN fP (x).toNatClampNeg k)) :=
  con_of (plainFor_of_name pn_12) (fun p_ e_ s_ m_ b_ meth_ c_ T_ X_ hx hZ hby hml hown hnm hret hlk e0 => Go.cast (ef_rm12 m_ q x k) (w12 q xu xv fG fP lL x k X_ hx hZ hw hby hml hown hnm hret hlk e0 Z0 (Fr.nil n0) F_heap_q F_positions_q V_xu V_xv ne_q_xu ne_q_xv ne_xu_xv ge_xu ge_xv hk hx'))
theorem d11_0 : decode prog_40_method_9_code 0 = .ok (.aload_n 0, 1) := by decide +kernel
theorem d11_1 : decode prog_40_method_9_code 1 = .ok (.getfield 7, 3) := by decide +kernel
theorem d11_4 : decode prog_40_method_9_code 4 = .ok (.iload_n 1, 1) := by decide +kernel
theorem d11_5 : decode prog_40_method_9_code 5 = .ok (.iaload, 1) := by decide +kernel
theorem d11_6 : decode prog_40_method_9_code 6 = .ok (.istore_n 2, 1) := by decide +kernel
theorem d11_7 : decode prog_40_method_9_code 7 = .ok (.iload_n 1, 1) := by decide +kernel
theorem d11_8 : decode prog_40_method_9_code 8 = .ok (.ifCond .le 49, 3) := by decide +kernel
theorem d11_57 : decode prog_40_method_9_code 57 = .ok (.aload_n 0, 1) := by decide +kernel
theorem d11_58 : decode prog_40_method_9_code 58 = .ok (.iload_n 2, 1) := by decide +kernel
theorem d11_59 : decode prog_40_method_9_code 59 = .ok (.iload_n 1, 1) := by decide +kernel
theorem d11_60 : decode prog_40_method_9_code 60 = .ok (.invokevirtual 50, 3) := by decide +kernel
theorem pd_2 : parseMethodDescriptor "(II)V" = some ⟨[.int, .int], none⟩ := by decide +kernel
theorem d11_63 : decode prog_40_method_9_code 63 = .ok (.return_, 1) := by decide +kernel
set_option maxRecDepth 65536 in
set_option maxHeartbeats 40000000 in
theorem wU0 {p : Program} {l : Launch} {e : Env} {s : State} {m : MethodId} {args : Array Value} {below : List Frame} {meth : Method} {c_ : Code} {T0 : State} {locs : List Loc} {Z : State} {a0 : Array Value} {h0 : Heap} {n0 : Nat} (q xu xv xw : Addr) (fG fP : Nat → Int32) (fK : Nat → UInt64) (lL : Int32) (n : Nat) (fS : Int32 → Prop) (sz : Int32)
    (X0 : Stand p l e ({ frames := 1, cells := 0, slots := 0, locals := 14 } : Room) s m args below meth c_ T0 locs 0 0) (hx : p.tables.exec = Jvm.exec) (hZ : Z.Warmed39 s.vm) (hw : ∀ d ∈ tables_1, d.before a0 Z = true) (hby : c_.code = prog_40_method_9_code) (hml : c_.maxLocals = 4) (hown : s.vm.findClass "com/example/tributary/tributary/NodeQueue" = some m.cls) (hnm : meth.name = "siftUp") (hret : meth.sig.returnType = none) (hlk : meth.locks = false) (e0 : T0.heap = h0) (Z0 : n0 ≤ h0.size) (N0 : Fr n0 locs) (E_q : Exa Z h0 q "com/example/tributary/tributary/NodeQueue") (F_size_q : Fld Z h0 q "com/example/tributary/tributary/NodeQueue" "size" "I" (.int sz)) (F_heap_q : Fld Z h0 q "com/example/tributary/tributary/NodeQueue" "heap" "[I" (.ref xu)) (F_positions_q : Fld Z h0 q "com/example/tributary/tributary/NodeQueue" "positions" "[I" (.ref xv)) (F_keys_q : Fld Z h0 q "com/example/tributary/tributary/NodeQueue" "keys" "[D" (.ref xw)) (V_xu : Iv Z h0 xu (16 : Int32) fG) (V_xv : Iv Z h0 xv lL fP) (V_xw : Dv Z h0 xw lL fK) (ne_q_xu : q ≠ xu) (ne_q_xv : q ≠ xv) (ne_q_xw : q ≠ xw) (ne_xu_xv : xu ≠ xv) (ne_xu_xw : xu ≠ xw) (ne_xv_xw : xv ≠ xw) (ge_q : n0 ≤ q) (ge_xu : n0 ≤ xu) (ge_xv : n0 ≤ xv) (ge_xw : n0 ≤ xw) (hQ : QI n fG lL fP fS) (hj : 0 < n) (hn : n ≤ 16) :
    Go p e below s ({ frames := 1, cells := 0, slots := 0, locals := 14 } : Room).cells ({ frames := 1, cells := 0, slots := 0, locals := 14 } : Room).slots (fun r h L => r = none ∧ Fr n0 L ∧ Keep h0 h [xu, xv] ∧ ∃ (g' P' : Nat → Int32), Iv Z h xu (16 : Int32) g' ∧ Iv Z h xv lL P' ∧ QI n g' lL P' fS) T0 (mkF m 0 #[.val (.ref q), .val (.int (0 : Int32)), .unset, .unset] []) := by
  show Go _ _ _ _ _ _ _ T0 (mkF m 0 #[.val (.ref q), .val (.int (0 : Int32)), .unset, .unset] [])
  refine Go.step (fun _ k => XS.aloadN X0.here hx rfl (hb hby d11_0) rfl rfl k) ?_
  obtain ⟨T1, X1, e1, st1⟩ := getF X0 hx hZ hown (host := "") (Or.inl (hw _ (mI 10 rfl))) Via.refl e0 F_heap_q (g := (mkF m 1 #[.val (.ref q), .val (.int (0 : Int32)), .unset, .unset] [(.ref q)])) rfl rfl (hb hby d11_1)
  refine Go.step st1 ?_
  show Go _ _ _ _ _ _ _ T1 (mkF m 4 #[.val (.ref q), .val (.int (0 : Int32)), .unset, .unset] [(.ref xu)])
  refine Go.step (fun _ k => XS.iloadN X1.here hx rfl (hb hby d11_4) rfl k) ?_
  refine Go.iaload X1 hx hZ e1 V_xu (j := (0 : Int32)) (v := (fG 0)) (by decide) rfl (hb hby d11_5) ?_
  show Go _ _ _ _ _ _ _ T1 (mkF m 6 #[.val (.ref q), .val (.int (0 : Int32)), .unset, .unset] [(.int (fG 0))])
  refine Go.step (fun _ k => XS.istoreN X1.here hx rfl (hb hby d11_6) rfl (l' := #[.val (.ref q), .val (.int (0 : Int32)), .val (.int (fG 0)), .unset]) rfl k) ?_
  show Go _ _ _ _ _ _ _ T1 (mkF m 7 #[.val (.ref q), .val (.int (0 : Int32)), .val (.int (fG 0)), .unset] [])
  refine Go.step (fun _ k => XS.iloadN X1.here hx rfl (hb hby d11_7) rfl k) ?_
  refine Go.step (fun _ k => XS.ifYes X1.here hx rfl (pc0 := 8) (pc' := 57) rfl (hb hby d11_8) rfl ((if0 _ _).trans (flt (by decide : ¬ ((0 : Int32) < (0 : Int32)))).2.2.2) (by decide) (by decide) k) ?_
  show Go _ _ _ _ _ _ _ T1 (mkF m 57 #[.val (.ref q), .val (.int (0 : Int32)), .val (.int (fG 0)), .unset] [])
  refine Go.step (fun _ k => XS.aloadN X1.here hx rfl (hb hby d11_57) rfl rfl k) ?_
  refine Go.step (fun _ k => XS.iloadN X1.here hx rfl (hb hby d11_58) rfl k) ?_
  refine Go.step (fun _ k => XS.iloadN X1.here hx rfl (hb hby d11_59) rfl k) ?_
  show Go _ _ _ _ _ _ _ T1 (mkF m 60 #[.val (.ref q), .val (.int (0 : Int32)), .val (.int (fG 0)), .unset] [(.int (0 : Int32)), (.int (fG 0)), (.ref q)])
  refine Go.callP X1 hx hZ (by rw [hml]; rfl) (y := (⟨"com/example/tributary/tributary/NodeQueue", "place", "(II)V"⟩ : MethodName)) (a := q) (argsL := [(.int (fG 0)), (.int (0 : Int32))]) (rest := []) hown (hw _ (mI 57 rfl)) (hw _ (mI 58 rfl)) (hw _ (mI 1 rfl)) (hw _ (mI 59 rfl)) (hw _ (mI 2 rfl)) (hw _ (mI 60 rfl)) (by decide) (rm12 l Z a0 hw q xu xv fG fP lL (fG 0) (0 : Int32) h0 n0 Z0 F_heap_q F_positions_q V_xu V_xv ne_q_xu ne_q_xv ne_xu_xv ge_xu ge_xv (by decide) (hQ.idx (i := 0) (by omega))) e1 E_q (hb hby d11_60) (lenOf pd_2 rfl) rfl rfl (W := 0) (Nat.le_of_eq rfl) (by decide) (by decide) (by decide) (by decide) ?_
  intro v2 T2 L2 X2 Q2
  obtain ⟨rfl, N2q, Kc2, Vu2, Vv2⟩ := Q2
  have N2 := Fr.app N0 N2q
  have E_q_2 := E_q.keep Kc2
  have F_size_q_2 := F_size_q.keep Kc2 (ninS ne_q_xu (ninS ne_q_xv nin0))
  have F_heap_q_2 := F_heap_q.keep Kc2 (ninS ne_q_xu (ninS ne_q_xv nin0))
  have F_positions_q_2 := F_positions_q.keep Kc2 (ninS ne_q_xu (ninS ne_q_xv nin0))
  have F_keys_q_2 := F_keys_q.keep Kc2 (ninS ne_q_xu (ninS ne_q_xv nin0))
  have V_xw_2 := V_xw.keep Kc2 (ninS (Ne.symm ne_xu_xw) (ninS (Ne.symm ne_xv_xw) nin0))
  have KK2 : Keep h0 T2.heap [xu, xv] := ((Keep.refl h0 [xu, xv]) : Keep h0 h0 [xu, xv]).trans Kc2 (allS (Or.inl (List.mem_of_getElem? (i := 0) rfl)) (allS (Or.inl (List.mem_of_getElem? (i := 1) rfl)) all0))
  have Vu2 : Iv Z T2.heap xu (16 : Int32) (updN fG 0 (fG 0)) := Vu2
  show Go _ _ _ _ _ _ _ T2 (mkF m 63 #[.val (.ref q), .val (.int (0 : Int32)), .val (.int (fG 0)), .unset] [])
  refine Go.retV X2 hx hlk hret (hb hby d11_63) (by decide) (by decide) ?_
  exact ⟨rfl, N2, KK2, _, _, Vu2, Vv2, hQ.same (i := 0) (by omega)⟩
theorem ef_rmU0 (m : MethodId) (q : Addr) : entryFrame m #[(.ref q), (.int (0 : Int32))] 4 = mkF m 0 #[.val (.ref q), .val (.int (0 : Int32)), .unset, .unset] [] := by first | (simp [entryFrame, mkF, argsToLocals, Value.category]; done) | rfl
theorem rmU0 (l : Launch) (Z : State) (a0 : Array Value) (hw : ∀ d ∈ tables_1, d.before a0 Z = true) (q xu xv xw : Addr) (fG fP : Nat → Int32) (fK : Nat → UInt64) (lL : Int32) (n : Nat) (fS : Int32 → Prop) (sz : Int32) (h0 : Heap) (n0 : Nat) (Z0 : n0 ≤ h0.size) (E_q : Exa Z h0 q "com/example/tributary/tributary/NodeQueue") (F_size_q : Fld Z h0 q "com/example/tributary/tributary/NodeQueue" "size" "I" (.int sz)) (F_heap_q : Fld Z h0 q "com/example/tributary/tributary/NodeQueue" "heap" "[I" (.ref xu)) (F_positions_q : Fld Z h0 q "com/example/tributary/tributary/NodeQueue" "positions" "[I" (.ref xv)) (F_keys_q : Fld Z h0 q "com/example/tributary/tributary/NodeQueue" "keys" "[D" (.ref xw)) (V_xu : Iv Z h0 xu (16 : Int32) fG) (V_xv : Iv Z h0 xv lL fP) (V_xw : Dv Z h0 xw lL fK) (ne_q_xu : q ≠ xu) (ne_q_xv : q ≠ xv) (ne_q_xw : q ≠ xw) (ne_xu_xv : xu ≠ xv) (ne_xu_xw : xu ≠ xw) (ne_xv_xw : xv ≠ xw) (ge_q : n0 ≤ q) (ge_xu : n0 ≤ xu) (ge_xv : n0 ≤ xv) (ge_xw : n0 ≤ xw) (hQ : QI n fG lL fP fS) (hj : 0 < n) (hn : n ≤ 16) :
    Con l Z (⟨"com/example/tributary/tributary/NodeQueue", "siftUp", "(I)V"⟩ : MethodName) prog_40_method_9_code 4 none ({ frames := 1, cells := 0, slots := 0, locals := 14 } : Room) #[(.ref q), (.int (0 : Int32))] h0 (fun r h L => r = none ∧ Fr n0 L ∧ Keep h0 h [xu, xv] ∧ ∃ (g' P' : Nat → Int32), Iv Z h xu (16 : Int32) g' ∧ Iv Z h xv lL P' ∧ QI n g' lL P' fS) :=
  con_of (plainFor_of_name pn_12) (fun p_ e_ s_ m_ b_ meth_ c_ T_ X_ hx hZ hby hml hown hnm hret hlk e0 => Go.cast (ef_rmU0 m_ q) (wU0 q xu xv xw fG fP fK lL n fS sz X_ hx hZ hw hby hml hown hnm hret hlk e0 Z0 (Fr.nil n0) E_q F_size_q F_heap_q F_positions_q F_keys_q V_xu V_xv V_xw ne_q_xu ne_q_xv ne_q_xw ne_xu_xv ne_xu_xw ne_xv_xw ge_q ge_xu ge_xv ge_xw hQ hj hn))
theorem d11_11 : decode prog_40_method_9_code 11 = .ok (.iload_n 1, 1) := by decide +kernel
theorem d11_12 : decode prog_40_method_9_code 12 = .ok (.iconst 1, 1) := by decide +kernel
theorem d11_13 : decode prog_40_method_9_code 13 = .ok (.isub, 1) := by decide +kernel
theorem d11_14 : decode prog_40_method_9_code 14 = .ok (.iconst 2, 1) := by decide +kernel
theorem d11_15 : decode prog_40_method_9_code 15 = .ok (.idiv, 1) := by decide +kernel
theorem d11_16 : decode prog_40_method_9_code 16 = .ok (.istore_n 3, 1) := by decide +kernel
theorem d11_17 : decode prog_40_method_9_code 17 = .ok (.aload_n 0, 1) := by decide +kernel
theorem d11_18 : decode prog_40_method_9_code 18 = .ok (.getfield 16, 3) := by decide +kernel
theorem d11_21 : decode prog_40_method_9_code 21 = .ok (.aload_n 0, 1) := by decide +kernel
theorem d11_22 : decode prog_40_method_9_code 22 = .ok (.getfield 7, 3) := by decide +kernel
theorem d11_25 : decode prog_40_method_9_code 25 = .ok (.iload_n 3, 1) := by decide +kernel
theorem d11_26 : decode prog_40_method_9_code 26 = .ok (.iaload, 1) := by decide +kernel
theorem d11_27 : decode prog_40_method_9_code 27 = .ok (.daload, 1) := by decide +kernel
theorem d11_28 : decode prog_40_method_9_code 28 = .ok (.aload_n 0, 1) := by decide +kernel
theorem d11_29 : decode prog_40_method_9_code 29 = .ok (.getfield 16, 3) := by decide +kernel
theorem d11_32 : decode prog_40_method_9_code 32 = .ok (.iload_n 2, 1) := by decide +kernel
theorem d11_33 : decode prog_40_method_9_code 33 = .ok (.daload, 1) := by decide +kernel
theorem d11_34 : decode prog_40_method_9_code 34 = .ok (.dcmp .g, 1) := by decide +kernel
theorem d11_35 : decode prog_40_method_9_code 35 = .ok (.ifCond .gt 6, 3) := by decide +kernel
theorem d11_38 : decode prog_40_method_9_code 38 = .ok (.goto 19, 3) := by decide +kernel
theorem d11_41 : decode prog_40_method_9_code 41 = .ok (.aload_n 0, 1) := by decide +kernel
theorem d11_42 : decode prog_40_method_9_code 42 = .ok (.aload_n 0, 1) := by decide +kernel
theorem d11_43 : decode prog_40_method_9_code 43 = .ok (.getfield 7, 3) := by decide +kernel
theorem d11_46 : decode prog_40_method_9_code 46 = .ok (.iload_n 3, 1) := by decide +kernel
theorem d11_47 : decode prog_40_method_9_code 47 = .ok (.iaload, 1) := by decide +kernel
theorem d11_48 : decode prog_40_method_9_code 48 = .ok (.iload_n 1, 1) := by decide +kernel
theorem d11_49 : decode prog_40_method_9_code 49 = .ok (.invokevirtual 50, 3) := by decide +kernel
theorem d11_52 : decode prog_40_method_9_code 52 = .ok (.iload_n 3, 1) := by decide +kernel
theorem d11_53 : decode prog_40_method_9_code 53 = .ok (.istore_n 1, 1) := by decide +kernel
theorem d11_54 : decode prog_40_method_9_code 54 = .ok (.goto (-47), 3) := by decide +kernel
set_option maxRecDepth 65536 in
set_option maxHeartbeats 40000000 in
theorem wU1 {p : Program} {l : Launch} {e : Env} {s : State} {m : MethodId} {args : Array Value} {below : List Frame} {meth : Method} {c_ : Code} {T0 : State} {locs : List Loc} {Z : State} {a0 : Array Value} {h0 : Heap} {n0 : Nat} (q xu xv xw : Addr) (fG fP : Nat → Int32) (fK : Nat → UInt64) (lL : Int32) (n : Nat) (fS : Int32 → Prop) (sz : Int32)
    (X0 : Stand p l e ({ frames := 1, cells := 0, slots := 0, locals := 14 } : Room) s m args below meth c_ T0 locs 0 0) (hx : p.tables.exec = Jvm.exec) (hZ : Z.Warmed39 s.vm) (hw : ∀ d ∈ tables_1, d.before a0 Z = true) (hby : c_.code = prog_40_method_9_code) (hml : c_.maxLocals = 4) (hown : s.vm.findClass "com/example/tributary/tributary/NodeQueue" = some m.cls) (hnm : meth.name = "siftUp") (hret : meth.sig.returnType = none) (hlk : meth.locks = false) (e0 : T0.heap = h0) (Z0 : n0 ≤ h0.size) (N0 : Fr n0 locs) (E_q : Exa Z h0 q "com/example/tributary/tributary/NodeQueue") (F_size_q : Fld Z h0 q "com/example/tributary/tributary/NodeQueue" "size" "I" (.int sz)) (F_heap_q : Fld Z h0 q "com/example/tributary/tributary/NodeQueue" "heap" "[I" (.ref xu)) (F_positions_q : Fld Z h0 q "com/example/tributary/tributary/NodeQueue" "positions" "[I" (.ref xv)) (F_keys_q : Fld Z h0 q "com/example/tributary/tributary/NodeQueue" "keys" "[D" (.ref xw)) (V_xu : Iv Z h0 xu (16 : Int32) fG) (V_xv : Iv Z h0 xv lL fP) (V_xw : Dv Z h0 xw lL fK) (ne_q_xu : q ≠ xu) (ne_q_xv : q ≠ xv) (ne_q_xw : q ≠ xw) (ne_xu_xv : xu ≠ xv) (ne_xu_xw : xu ≠ xw) (ne_xv_xw : xv ≠ xw) (ge_q : n0 ≤ q) (ge_xu : n0 ≤ xu) (ge_xv : n0 ≤ xv) (ge_xw : n0 ≤ xw) (hQ : QI n fG lL fP fS) (hj : 1 < n) (hn : n ≤ 16) :
    Go p e below s ({ frames := 1, cells := 0, slots := 0, locals := 14 } : Room).cells ({ frames := 1, cells := 0, slots := 0, locals := 14 } : Room).slots (fun r h L => r = none ∧ Fr n0 L ∧ Keep h0 h [xu, xv] ∧ ∃ (g' P' : Nat → Int32), Iv Z h xu (16 : Int32) g' ∧ Iv Z h xv lL P' ∧ QI n g' lL P' fS) T0 (mkF m 0 #[.val (.ref q), .val (.int (1 : Int32)), .unset, .unset] []) := by
  show Go _ _ _ _ _ _ _ T0 (mkF m 0 #[.val (.ref q), .val (.int (1 : Int32)), .unset, .unset] [])
  refine Go.step (fun _ k => XS.aloadN X0.here hx rfl (hb hby d11_0) rfl rfl k) ?_
  obtain ⟨T1, X1, e1, st1⟩ := getF X0 hx hZ hown (host := "") (Or.inl (hw _ (mI 10 rfl))) Via.refl e0 F_heap_q (g := (mkF m 1 #[.val (.ref q), .val (.int (1 : Int32)), .unset, .unset] [(.ref q)])) rfl rfl (hb hby d11_1)
  refine Go.step st1 ?_
  show Go _ _ _ _ _ _ _ T1 (mkF m 4 #[.val (.ref q), .val (.int (1 : Int32)), .unset, .unset] [(.ref xu)])
  refine Go.step (fun _ k => XS.iloadN X1.here hx rfl (hb hby d11_4) rfl k) ?_
  refine Go.iaload X1 hx hZ e1 V_xu (j := (1 : Int32)) (v := (fG 1)) (by decide) rfl (hb hby d11_5) ?_
  show Go _ _ _ _ _ _ _ T1 (mkF m 6 #[.val (.ref q), .val (.int (1 : Int32)), .unset, .unset] [(.int (fG 1))])
  refine Go.step (fun _ k => XS.istoreN X1.here hx rfl (hb hby d11_6) rfl (l' := #[.val (.ref q), .val (.int (1 : Int32)), .val (.int (fG 1)), .unset]) rfl k) ?_
  show Go _ _ _ _ _ _ _ T1 (mkF m 7 #[.val (.ref q), .val (.int (1 : Int32)), .val (.int (fG 1)), .unset] [])
  refine Go.step (fun _ k => XS.iloadN X1.here hx rfl (hb hby d11_7) rfl k) ?_
  refine Go.step (fun _ k => XS.ifNo X1.here hx rfl (hb hby d11_8) rfl ((if0 _ _).trans (tlt (by decide : (0 : Int32) < (1 : Int32))).2.2.2) k) ?_
  show Go _ _ _ _ _ _ _ T1 (mkF m 11 #[.val (.ref q), .val (.int (1 : Int32)), .val (.int (fG 1)), .unset] [])
  refine Go.step (fun _ k => XS.iloadN X1.here hx rfl (hb hby d11_11) rfl k) ?_
  refine Go.step (fun _ k => XS.iconst X1.here hx rfl (hb hby d11_12) k) ?_
  refine Go.step (fun _ k => XS.isub X1.here hx rfl (hb hby d11_13) rfl k) ?_
  show Go _ _ _ _ _ _ _ T1 (mkF m 14 #[.val (.ref q), .val (.int (1 : Int32)), .val (.int (fG 1)), .unset] [(.int (0 : Int32))])
  refine Go.step (fun _ k => XS.iconst X1.here hx rfl (hb hby d11_14) k) ?_
  refine Go.step (fun _ k => XS.idiv X1.here hx rfl (hb hby d11_15) rfl (by decide) k) ?_
  show Go _ _ _ _ _ _ _ T1 (mkF m 16 #[.val (.ref q), .val (.int (1 : Int32)), .val (.int (fG 1)), .unset] [(.int (0 : Int32))])
  refine Go.step (fun _ k => XS.istoreN X1.here hx rfl (hb hby d11_16) rfl (l' := #[.val (.ref q), .val (.int (1 : Int32)), .val (.int (fG 1)), .val (.int (0 : Int32))]) rfl k) ?_
  show Go _ _ _ _ _ _ _ T1 (mkF m 17 #[.val (.ref q), .val (.int (1 : Int32)), .val (.int (fG 1)), .val (.int (0 : Int32))] [])
  refine Go.step (fun _ k => XS.aloadN X1.here hx rfl (hb hby d11_17) rfl rfl k) ?_
  obtain ⟨T2, X2, e2, st2⟩ := getF X1 hx hZ hown (host := "") (Or.inl (hw _ (mI 15 rfl))) Via.refl e1 F_keys_q (g := (mkF m 18 #[.val (.ref q), .val (.int (1 : Int32)), .val (.int (fG 1)), .val (.int (0 : Int32))] [(.ref q)])) rfl rfl (hb hby d11_18)
  refine Go.step st2 ?_
  show Go _ _ _ _ _ _ _ T2 (mkF m 21 #[.val (.ref q), .val (.int (1 : Int32)), .val (.int (fG 1)), .val (.int (0 : Int32))] [(.ref xw)])
  refine Go.step (fun _ k => XS.aloadN X2.here hx rfl (hb hby d11_21) rfl rfl k) ?_
  obtain ⟨T3, X3, e3, st3⟩ := getF X2 hx hZ hown (host := "") (Or.inl (hw _ (mI 10 rfl))) Via.refl e2 F_heap_q (g := (mkF m 22 #[.val (.ref q), .val (.int (1 : Int32)), .val (.int (fG 1)), .val (.int (0 : Int32))] [(.ref q), (.ref xw)])) rfl rfl (hb hby d11_22)
  refine Go.step st3 ?_
  show Go _ _ _ _ _ _ _ T3 (mkF m 25 #[.val (.ref q), .val (.int (1 : Int32)), .val (.int (fG 1)), .val (.int (0 : Int32))] [(.ref xu), (.ref xw)])
  refine Go.step (fun _ k => XS.iloadN X3.here hx rfl (hb hby d11_25) rfl k) ?_
  refine Go.iaload X3 hx hZ e3 V_xu (j := (0 : Int32)) (v := (fG 0)) (by decide) rfl (hb hby d11_26) ?_
  show Go _ _ _ _ _ _ _ T3 (mkF m 27 #[.val (.ref q), .val (.int (1 : Int32)), .val (.int (fG 1)), .val (.int (0 : Int32))] [(.int (fG 0)), (.ref xw)])
  refine Go.daload X3 hx hZ e3 V_xw (j := (fG 0)) (v := (fK ((fG 0)).toNatClampNeg)) (hQ.idx (i := 0) (by omega)) rfl (hb hby d11_27) ?_
  show Go _ _ _ _ _ _ _ T3 (mkF m 28 #[.val (.ref q), .val (.int (1 : Int32)), .val (.int (fG 1)), .val (.int (0 : Int32))] [(.double (fK ((fG 0)).toNatClampNeg))])
  refine Go.step (fun _ k => XS.aloadN X3.here hx rfl (hb hby d11_28) rfl rfl k) ?_
  obtain ⟨T4, X4, e4, st4⟩ := getF X3 hx hZ hown (host := "") (Or.inl (hw _ (mI 15 rfl))) Via.refl e3 F_keys_q (g := (mkF m 29 #[.val (.ref q), .val (.int (1 : Int32)), .val (.int (fG 1)), .val (.int (0 : Int32))] [(.ref q), (.double (fK ((fG 0)).toNatClampNeg))])) rfl rfl (hb hby d11_29)
  refine Go.step st4 ?_
  show Go _ _ _ _ _ _ _ T4 (mkF m 32 #[.val (.ref q), .val (.int (1 : Int32)), .val (.int (fG 1)), .val (.int (0 : Int32))] [(.ref xw), (.double (fK ((fG 0)).toNatClampNeg))])
  refine Go.step (fun _ k => XS.iloadN X4.here hx rfl (hb hby d11_32) rfl k) ?_
  refine Go.daload X4 hx hZ e4 V_xw (j := (fG 1)) (v := (fK ((fG 1)).toNatClampNeg)) (hQ.idx (i := 1) (by omega)) rfl (hb hby d11_33) ?_
  show Go _ _ _ _ _ _ _ T4 (mkF m 34 #[.val (.ref q), .val (.int (1 : Int32)), .val (.int (fG 1)), .val (.int (0 : Int32))] [(.double (fK ((fG 1)).toNatClampNeg)), (.double (fK ((fG 0)).toNatClampNeg))])
  refine Go.step (fun _ k => XS.dcmpS X4.here hx rfl (hb hby d11_34) rfl rfl k) ?_
  show Go _ _ _ _ _ _ _ T4 (mkF m 35 #[.val (.ref q), .val (.int (1 : Int32)), .val (.int (fG 1)), .val (.int (0 : Int32))] [(.int (cmpValue (FP.dcmp (fK ((fG 0)).toNatClampNeg) (fK ((fG 1)).toNatClampNeg)) .g))])
  by_cases hd35_5 : (FP.dcmp (fK ((fG 0)).toNatClampNeg) (fK ((fG 1)).toNatClampNeg) = some .lt ∨ FP.dcmp (fK ((fG 0)).toNatClampNeg) (fK ((fG 1)).toNatClampNeg) = some .eq)
  · refine Go.step (fun _ k => XS.ifNo X4.here hx rfl (hb hby d11_35) rfl (le_y hd35_5) k) ?_
    show Go _ _ _ _ _ _ _ T4 (mkF m 38 #[.val (.ref q), .val (.int (1 : Int32)), .val (.int (fG 1)), .val (.int (0 : Int32))] [])
    refine Go.step (fun _ k => XS.goto X4.here hx rfl (pc0 := 38) (pc' := 57) rfl (hb hby d11_38) (by decide) (by decide) k) ?_
    show Go _ _ _ _ _ _ _ T4 (mkF m 57 #[.val (.ref q), .val (.int (1 : Int32)), .val (.int (fG 1)), .val (.int (0 : Int32))] [])
    refine Go.step (fun _ k => XS.aloadN X4.here hx rfl (hb hby d11_57) rfl rfl k) ?_
    refine Go.step (fun _ k => XS.iloadN X4.here hx rfl (hb hby d11_58) rfl k) ?_
    refine Go.step (fun _ k => XS.iloadN X4.here hx rfl (hb hby d11_59) rfl k) ?_
    show Go _ _ _ _ _ _ _ T4 (mkF m 60 #[.val (.ref q), .val (.int (1 : Int32)), .val (.int (fG 1)), .val (.int (0 : Int32))] [(.int (1 : Int32)), (.int (fG 1)), (.ref q)])
    refine Go.callP X4 hx hZ (by rw [hml]; rfl) (y := (⟨"com/example/tributary/tributary/NodeQueue", "place", "(II)V"⟩ : MethodName)) (a := q) (argsL := [(.int (fG 1)), (.int (1 : Int32))]) (rest := []) hown (hw _ (mI 57 rfl)) (hw _ (mI 58 rfl)) (hw _ (mI 1 rfl)) (hw _ (mI 59 rfl)) (hw _ (mI 2 rfl)) (hw _ (mI 60 rfl)) (by decide) (rm12 l Z a0 hw q xu xv fG fP lL (fG 1) (1 : Int32) h0 n0 Z0 F_heap_q F_positions_q V_xu V_xv ne_q_xu ne_q_xv ne_xu_xv ge_xu ge_xv (by decide) (hQ.idx (i := 1) (by omega))) e4 E_q (hb hby d11_60) (lenOf pd_2 rfl) rfl rfl (W := 0) (Nat.le_of_eq rfl) (by decide) (by decide) (by decide) (by decide) ?_
    intro v6 T6 L6 X6 Q6
    obtain ⟨rfl, N6q, Kc6, Vu6, Vv6⟩ := Q6
    have N6 := Fr.app N0 N6q
    have E_q_6 := E_q.keep Kc6
    have F_size_q_6 := F_size_q.keep Kc6 (ninS ne_q_xu (ninS ne_q_xv nin0))
    have F_heap_q_6 := F_heap_q.keep Kc6 (ninS ne_q_xu (ninS ne_q_xv nin0))
    have F_positions_q_6 := F_positions_q.keep Kc6 (ninS ne_q_xu (ninS ne_q_xv nin0))
    have F_keys_q_6 := F_keys_q.keep Kc6 (ninS ne_q_xu (ninS ne_q_xv nin0))
    have V_xw_6 := V_xw.keep Kc6 (ninS (Ne.symm ne_xu_xw) (ninS (Ne.symm ne_xv_xw) nin0))
    have KK6 : Keep h0 T6.heap [xu, xv] := ((Keep.refl h0 [xu, xv]) : Keep h0 h0 [xu, xv]).trans Kc6 (allS (Or.inl (List.mem_of_getElem? (i := 0) rfl)) (allS (Or.inl (List.mem_of_getElem? (i := 1) rfl)) all0))
    have Vu6 : Iv Z T6.heap xu (16 : Int32) (updN fG 1 (fG 1)) := Vu6
    show Go _ _ _ _ _ _ _ T6 (mkF m 63 #[.val (.ref q), .val (.int (1 : Int32)), .val (.int (fG 1)), .val (.int (0 : Int32))] [])
    refine Go.retV X6 hx hlk hret (hb hby d11_63) (by decide) (by decide) ?_
    exact ⟨rfl, N6, KK6, _, _, Vu6, Vv6, hQ.same (i := 1) (by omega)⟩
  · refine Go.step (fun _ k => XS.ifYes X4.here hx rfl (pc0 := 35) (pc' := 41) rfl (hb hby d11_35) rfl (le_n hd35_5) (by decide) (by decide) k) ?_
    show Go _ _ _ _ _ _ _ T4 (mkF m 41 #[.val (.ref q), .val (.int (1 : Int32)), .val (.int (fG 1)), .val (.int (0 : Int32))] [])
    refine Go.step (fun _ k => XS.aloadN X4.here hx rfl (hb hby d11_41) rfl rfl k) ?_
    refine Go.step (fun _ k => XS.aloadN X4.here hx rfl (hb hby d11_42) rfl rfl k) ?_
    obtain ⟨T7, X7, e7, st7⟩ := getF X4 hx hZ hown (host := "") (Or.inl (hw _ (mI 10 rfl))) Via.refl e4 F_heap_q (g := (mkF m 43 #[.val (.ref q), .val (.int (1 : Int32)), .val (.int (fG 1)), .val (.int (0 : Int32))] [(.ref q), (.ref q)])) rfl rfl (hb hby d11_43)
    refine Go.step st7 ?_
    show Go _ _ _ _ _ _ _ T7 (mkF m 46 #[.val (.ref q), .val (.int (1 : Int32)), .val (.int (fG 1)), .val (.int (0 : Int32))] [(.ref xu), (.ref q)])
    refine Go.step (fun _ k => XS.iloadN X7.here hx rfl (hb hby d11_46) rfl k) ?_
    refine Go.iaload X7 hx hZ e7 V_xu (j := (0 : Int32)) (v := (fG 0)) (by decide) rfl (hb hby d11_47) ?_
    show Go _ _ _ _ _ _ _ T7 (mkF m 48 #[.val (.ref q), .val (.int (1 : Int32)), .val (.int (fG 1)), .val (.int (0 : Int32))] [(.int (fG 0)), (.ref q)])
    refine Go.step (fun _ k => XS.iloadN X7.here hx rfl (hb hby d11_48) rfl k) ?_
    refine Go.callP X7 hx hZ (by rw [hml]; rfl) (y := (⟨"com/example/tributary/tributary/NodeQueue", "place", "(II)V"⟩ : MethodName)) (a := q) (argsL := [(.int (fG 0)), (.int (1 : Int32))]) (rest := []) hown (hw _ (mI 57 rfl)) (hw _ (mI 58 rfl)) (hw _ (mI 1 rfl)) (hw _ (mI 59 rfl)) (hw _ (mI 2 rfl)) (hw _ (mI 60 rfl)) (by decide) (rm12 l Z a0 hw q xu xv fG fP lL (fG 0) (1 : Int32) h0 n0 Z0 F_heap_q F_positions_q V_xu V_xv ne_q_xu ne_q_xv ne_xu_xv ge_xu ge_xv (by decide) (hQ.idx (i := 0) (by omega))) e7 E_q (hb hby d11_49) (lenOf pd_2 rfl) rfl rfl (W := 0) (Nat.le_of_eq rfl) (by decide) (by decide) (by decide) (by decide) ?_
    intro v8 T8 L8 X8 Q8
    obtain ⟨rfl, N8q, Kc8, Vu8, Vv8⟩ := Q8
    have N8 := Fr.app N0 N8q
    have E_q_8 := E_q.keep Kc8
    have F_size_q_8 := F_size_q.keep Kc8 (ninS ne_q_xu (ninS ne_q_xv nin0))
    have F_heap_q_8 := F_heap_q.keep Kc8 (ninS ne_q_xu (ninS ne_q_xv nin0))
    have F_positions_q_8 := F_positions_q.keep Kc8 (ninS ne_q_xu (ninS ne_q_xv nin0))
    have F_keys_q_8 := F_keys_q.keep Kc8 (ninS ne_q_xu (ninS ne_q_xv nin0))
    have V_xw_8 := V_xw.keep Kc8 (ninS (Ne.symm ne_xu_xw) (ninS (Ne.symm ne_xv_xw) nin0))
    have KK8 : Keep h0 T8.heap [xu, xv] := ((Keep.refl h0 [xu, xv]) : Keep h0 h0 [xu, xv]).trans Kc8 (allS (Or.inl (List.mem_of_getElem? (i := 0) rfl)) (allS (Or.inl (List.mem_of_getElem? (i := 1) rfl)) all0))
    have Vu8 : Iv Z T8.heap xu (16 : Int32) (updN fG 1 (fG 0)) := Vu8
    show Go _ _ _ _ _ _ _ T8 (mkF m 52 #[.val (.ref q), .val (.int (1 : Int32)), .val (.int (fG 1)), .val (.int (0 : Int32))] [])
    refine Go.step (fun _ k => XS.iloadN X8.here hx rfl (hb hby d11_52) rfl k) ?_
    refine Go.step (fun _ k => XS.istoreN X8.here hx rfl (hb hby d11_53) rfl (l' := #[.val (.ref q), .val (.int (0 : Int32)), .val (.int (fG 1)), .val (.int (0 : Int32))]) rfl k) ?_
    show Go _ _ _ _ _ _ _ T8 (mkF m 54 #[.val (.ref q), .val (.int (0 : Int32)), .val (.int (fG 1)), .val (.int (0 : Int32))] [])
    refine Go.step (fun _ k => XS.goto X8.here hx rfl (pc0 := 54) (pc' := 7) rfl (hb hby d11_54) (by decide) (by decide) k) ?_
    show Go _ _ _ _ _ _ _ T8 (mkF m 7 #[.val (.ref q), .val (.int (0 : Int32)), .val (.int (fG 1)), .val (.int (0 : Int32))] [])
    refine Go.step (fun _ k => XS.iloadN X8.here hx rfl (hb hby d11_7) rfl k) ?_
    refine Go.step (fun _ k => XS.ifYes X8.here hx rfl (pc0 := 8) (pc' := 57) rfl (hb hby d11_8) rfl ((if0 _ _).trans (flt (by decide : ¬ ((0 : Int32) < (0 : Int32)))).2.2.2) (by decide) (by decide) k) ?_
    show Go _ _ _ _ _ _ _ T8 (mkF m 57 #[.val (.ref q), .val (.int (0 : Int32)), .val (.int (fG 1)), .val (.int (0 : Int32))] [])
    refine Go.step (fun _ k => XS.aloadN X8.here hx rfl (hb hby d11_57) rfl rfl k) ?_
    refine Go.step (fun _ k => XS.iloadN X8.here hx rfl (hb hby d11_58) rfl k) ?_
    refine Go.step (fun _ k => XS.iloadN X8.here hx rfl (hb hby d11_59) rfl k) ?_
    show Go _ _ _ _ _ _ _ T8 (mkF m 60 #[.val (.ref q), .val (.int (0 : Int32)), .val (.int (fG 1)), .val (.int (0 : Int32))] [(.int (0 : Int32)), (.int (fG 1)), (.ref q)])
    refine Go.callP X8 hx hZ (by rw [hml]; rfl) (y := (⟨"com/example/tributary/tributary/NodeQueue", "place", "(II)V"⟩ : MethodName)) (a := q) (argsL := [(.int (fG 1)), (.int (0 : Int32))]) (rest := []) hown (hw _ (mI 57 rfl)) (hw _ (mI 58 rfl)) (hw _ (mI 1 rfl)) (hw _ (mI 59 rfl)) (hw _ (mI 2 rfl)) (hw _ (mI 60 rfl)) (by decide) (rm12 l Z a0 hw q xu xv (updN fG 1 (fG 0)) (updN fP ((fG 0)).toNatClampNeg (1 : Int32)) lL (fG 1) (0 : Int32) T8.heap n0 (Nat.le_trans Z0 (KK8 : Keep h0 T8.heap [xu, xv]).1) F_heap_q_8 F_positions_q_8 Vu8 Vv8 ne_q_xu ne_q_xv ne_xu_xv ge_xu ge_xv (by decide) (hQ.idx (i := 1) (by omega))) rfl E_q_8 (hb hby d11_60) (lenOf pd_2 rfl) rfl rfl (W := 0) (Nat.le_of_eq rfl) (by decide) (by decide) (by decide) (by decide) ?_
    intro v9 T9 L9 X9 Q9
    obtain ⟨rfl, N9q, Kc9, Vu9, Vv9⟩ := Q9
    have N9 := Fr.app N8 N9q
    have E_q_9 := E_q_8.keep Kc9
    have F_size_q_9 := F_size_q_8.keep Kc9 (ninS ne_q_xu (ninS ne_q_xv nin0))
    have F_heap_q_9 := F_heap_q_8.keep Kc9 (ninS ne_q_xu (ninS ne_q_xv nin0))
    have F_positions_q_9 := F_positions_q_8.keep Kc9 (ninS ne_q_xu (ninS ne_q_xv nin0))
    have F_keys_q_9 := F_keys_q_8.keep Kc9 (ninS ne_q_xu (ninS ne_q_xv nin0))
    have V_xw_9 := V_xw_8.keep Kc9 (ninS (Ne.symm ne_xu_xw) (ninS (Ne.symm ne_xv_xw) nin0))
    have KK9 : Keep h0 T9.heap [xu, xv] := (KK8 : Keep h0 T8.heap [xu, xv]).trans Kc9 (allS (Or.inl (List.mem_of_getElem? (i := 0) rfl)) (allS (Or.inl (List.mem_of_getElem? (i := 1) rfl)) all0))
    have Vu9 : Iv Z T9.heap xu (16 : Int32) (updN (updN fG 1 (fG 0)) 0 (fG 1)) := Vu9
    show Go _ _ _ _ _ _ _ T9 (mkF m 63 #[.val (.ref q), .val (.int (0 : Int32)), .val (.int (fG 1)), .val (.int (0 : Int32))] [])
    refine Go.retV X9 hx hlk hret (hb hby d11_63) (by decide) (by decide) ?_
    exact ⟨rfl, N9, KK9, _, _, Vu9, Vv9, hQ.swap (i := 0) (j := 1) (by omega) (by omega) (by omega) (by decide)⟩
theorem ef_rmU1 (m : MethodId) (q : Addr) : entryFrame m #[(.ref q), (.int (1 : Int32))] 4 = mkF m 0 #[.val (.ref q), .val (.int (1 : Int32)), .unset, .unset] [] := by first | (simp [entryFrame, mkF, argsToLocals, Value.category]; done) | rfl
theorem rmU1 (l : Launch) (Z : State) (a0 : Array Value) (hw : ∀ d ∈ tables_1, d.before a0 Z = true) (q xu xv xw : Addr) (fG fP : Nat → Int32) (fK : Nat → UInt64) (lL : Int32) (n : Nat) (fS : Int32 → Prop) (sz : Int32) (h0 : Heap) (n0 : Nat) (Z0 : n0 ≤ h0.size) (E_q : Exa Z h0 q "com/example/tributary/tributary/NodeQueue") (F_size_q : Fld Z h0 q "com/example/tributary/tributary/NodeQueue" "size" "I" (.int sz)) (F_heap_q : Fld Z h0 q "com/example/tributary/tributary/NodeQueue" "heap" "[I" (.ref xu)) (F_positions_q : Fld Z h0 q "com/example/tributary/tributary/NodeQueue" "positions" "[I" (.ref xv)) (F_keys_q : Fld Z h0 q "com/example/tributary/tributary/NodeQueue" "keys" "[D" (.ref xw)) (V_xu : Iv Z h0 xu (16 : Int32) fG) (V_xv : Iv Z h0 xv lL fP) (V_xw : Dv Z h0 xw lL fK) (ne_q_xu : q ≠ xu) (ne_q_xv : q ≠ xv) (ne_q_xw : q ≠ xw) (ne_xu_xv : xu ≠ xv) (ne_xu_xw : xu ≠ xw) (ne_xv_xw : xv ≠ xw) (ge_q : n0 ≤ q) (ge_xu : n0 ≤ xu) (ge_xv : n0 ≤ xv) (ge_xw : n0 ≤ xw) (hQ : QI n fG lL fP fS) (hj : 1 < n) (hn : n ≤ 16) :
    Con l Z (⟨"com/example/tributary/tributary/NodeQueue", "siftUp", "(I)V"⟩ : MethodName) prog_40_method_9_code 4 none ({ frames := 1, cells := 0, slots := 0, locals := 14 } : Room) #[(.ref q), (.int (1 : Int32))] h0 (fun r h L => r = none ∧ Fr n0 L ∧ Keep h0 h [xu, xv] ∧ ∃ (g' P' : Nat → Int32), Iv Z h xu (16 : Int32) g' ∧ Iv Z h xv lL P' ∧ QI n g' lL P' fS) :=
  con_of (plainFor_of_name pn_12) (fun p_ e_ s_ m_ b_ meth_ c_ T_ X_ hx hZ hby hml hown hnm hret hlk e0 => Go.cast (ef_rmU1 m_ q) (wU1 q xu xv xw fG fP fK lL n fS sz X_ hx hZ hw hby hml hown hnm hret hlk e0 Z0 (Fr.nil n0) E_q F_size_q F_heap_q F_positions_q F_keys_q V_xu V_xv V_xw ne_q_xu ne_q_xv ne_q_xw ne_xu_xv ne_xu_xw ne_xv_xw ge_q ge_xu ge_xv ge_xw hQ hj hn))
set_option maxRecDepth 65536 in
set_option maxHeartbeats 40000000 in
theorem wU2 {p : Program} {l : Launch} {e : Env} {s : State} {m : MethodId} {args : Array Value} {below : List Frame} {meth : Method} {c_ : Code} {T0 : State} {locs : List Loc} {Z : State} {a0 : Array Value} {h0 : Heap} {n0 : Nat} (q xu xv xw : Addr) (fG fP : Nat → Int32) (fK : Nat → UInt64) (lL : Int32) (n : Nat) (fS : Int32 → Prop) (sz : Int32)
    (X0 : Stand p l e ({ frames := 1, cells := 0, slots := 0, locals := 14 } : Room) s m args below meth c_ T0 locs 0 0) (hx : p.tables.exec = Jvm.exec) (hZ : Z.Warmed39 s.vm) (hw : ∀ d ∈ tables_1, d.before a0 Z = true) (hby : c_.code = prog_40_method_9_code) (hml : c_.maxLocals = 4) (hown : s.vm.findClass "com/example/tributary/tributary/NodeQueue" = some m.cls) (hnm : meth.name = "siftUp") (hret : meth.sig.returnType = none) (hlk : meth.locks = false) (e0 : T0.heap = h0) (Z0 : n0 ≤ h0.size) (N0 : Fr n0 locs) (E_q : Exa Z h0 q "com/example/tributary/tributary/NodeQueue") (F_size_q : Fld Z h0 q "com/example/tributary/tributary/NodeQueue" "size" "I" (.int sz)) (F_heap_q : Fld Z h0 q "com/example/tributary/tributary/NodeQueue" "heap" "[I" (.ref xu)) (F_positions_q : Fld Z h0 q "com/example/tributary/tributary/NodeQueue" "positions" "[I" (.ref xv)) (F_keys_q : Fld Z h0 q "com/example/tributary/tributary/NodeQueue" "keys" "[D" (.ref xw)) (V_xu : Iv Z h0 xu (16 : Int32) fG) (V_xv : Iv Z h0 xv lL fP) (V_xw : Dv Z h0 xw lL fK) (ne_q_xu : q ≠ xu) (ne_q_xv : q ≠ xv) (ne_q_xw : q ≠ xw) (ne_xu_xv : xu ≠ xv) (ne_xu_xw : xu ≠ xw) (ne_xv_xw : xv ≠ xw) (ge_q : n0 ≤ q) (ge_xu : n0 ≤ xu) (ge_xv : n0 ≤ xv) (ge_xw : n0 ≤ xw) (hQ : QI n fG lL fP fS) (hj : 2 < n) (hn : n ≤ 16) :
    Go p e below s ({ frames := 1, cells := 0, slots := 0, locals := 14 } : Room).cells ({ frames := 1, cells := 0, slots := 0, locals := 14 } : Room).slots (fun r h L => r = none ∧ Fr n0 L ∧ Keep h0 h [xu, xv] ∧ ∃ (g' P' : Nat → Int32), Iv Z h xu (16 : Int32) g' ∧ Iv Z h xv lL P' ∧ QI n g' lL P' fS) T0 (mkF m 0 #[.val (.ref q), .val (.int (2 : Int32)), .unset, .unset] []) := by
  show Go _ _ _ _ _ _ _ T0 (mkF m 0 #[.val (.ref q), .val (.int (2 : Int32)), .unset, .unset] [])
  refine Go.step (fun _ k => XS.aloadN X0.here hx rfl (hb hby d11_0) rfl rfl k) ?_
  obtain ⟨T1, X1, e1, st1⟩ := getF X0 hx hZ hown (host := "") (Or.inl (hw _ (mI 10 rfl))) Via.refl e0 F_heap_q (g := (mkF m 1 #[.val (.ref q), .val (.int (2 : Int32)), .unset, .unset] [(.ref q)])) rfl rfl (hb hby d11_1)
  refine Go.step st1 ?_
  show Go _ _ _ _ _ _ _ T1 (mkF m 4 #[.val (.ref q), .val (.int (2 : Int32)), .unset, .unset] [(.ref xu)])
  refine Go.step (fun _ k => XS.iloadN X1.here hx rfl (hb hby d11_4) rfl k) ?_
  refine Go.iaload X1 hx hZ e1 V_xu (j := (2 : Int32)) (v := (fG 2)) (by decide) rfl (hb hby d11_5) ?_
  show Go _ _ _ _ _ _ _ T1 (mkF m 6 #[.val (.ref q), .val (.int (2 : Int32)), .unset, .unset] [(.int (fG 2))])
  refine Go.step (fun _ k => XS.istoreN X1.here hx rfl (hb hby d11_6) rfl (l' := #[.val (.ref q), .val (.int (2 : Int32)), .val (.int (fG 2)), .unset]) rfl k) ?_
  show Go _ _ _ _ _ _ _ T1 (mkF m 7 #[.val (.ref q), .val (.int (2 : Int32)), .val (.int (fG 2)), .unset] [])
  refine Go.step (fun _ k => XS.iloadN X1.here hx rfl (hb hby d11_7) rfl k) ?_
  refine Go.step (fun _ k => XS.ifNo X1.here hx rfl (hb hby d11_8) rfl ((if0 _ _).trans (tlt (by decide : (0 : Int32) < (2 : Int32))).2.2.2) k) ?_
  show Go _ _ _ _ _ _ _ T1 (mkF m 11 #[.val (.ref q), .val (.int (2 : Int32)), .val (.int (fG 2)), .unset] [])
  refine Go.step (fun _ k => XS.iloadN X1.here hx rfl (hb hby d11_11) rfl k) ?_
  refine Go.step (fun _ k => XS.iconst X1.here hx rfl (hb hby d11_12) k) ?_
  refine Go.step (fun _ k => XS.isub X1.here hx rfl (hb hby d11_13) rfl k) ?_
  show Go _ _ _ _ _ _ _ T1 (mkF m 14 #[.val (.ref q), .val (.int (2 : Int32)), .val (.int (fG 2)), .unset] [(.int (1 : Int32))])
  refine Go.step (fun _ k => XS.iconst X1.here hx rfl (hb hby d11_14) k) ?_
  refine Go.step (fun _ k => XS.idiv X1.here hx rfl (hb hby d11_15) rfl (by decide) k) ?_
  show Go _ _ _ _ _ _ _ T1 (mkF m 16 #[.val (.ref q), .val (.int (2 : Int32)), .val (.int (fG 2)), .unset] [(.int (0 : Int32))])
  refine Go.step (fun _ k => XS.istoreN X1.here hx rfl (hb hby d11_16) rfl (l' := #[.val (.ref q), .val (.int (2 : Int32)), .val (.int (fG 2)), .val (.int (0 : Int32))]) rfl k) ?_
  show Go _ _ _ _ _ _ _ T1 (mkF m 17 #[.val (.ref q), .val (.int (2 : Int32)), .val (.int (fG 2)), .val (.int (0 : Int32))] [])
  refine Go.step (fun _ k => XS.aloadN X1.here hx rfl (hb hby d11_17) rfl rfl k) ?_
  obtain ⟨T2, X2, e2, st2⟩ := getF X1 hx hZ hown (host := "") (Or.inl (hw _ (mI 15 rfl))) Via.refl e1 F_keys_q (g := (mkF m 18 #[.val (.ref q), .val (.int (2 : Int32)), .val (.int (fG 2)), .val (.int (0 : Int32))] [(.ref q)])) rfl rfl (hb hby d11_18)
  refine Go.step st2 ?_
  show Go _ _ _ _ _ _ _ T2 (mkF m 21 #[.val (.ref q), .val (.int (2 : Int32)), .val (.int (fG 2)), .val (.int (0 : Int32))] [(.ref xw)])
  refine Go.step (fun _ k => XS.aloadN X2.here hx rfl (hb hby d11_21) rfl rfl k) ?_
  obtain ⟨T3, X3, e3, st3⟩ := getF X2 hx hZ hown (host := "") (Or.inl (hw _ (mI 10 rfl))) Via.refl e2 F_heap_q (g := (mkF m 22 #[.val (.ref q), .val (.int (2 : Int32)), .val (.int (fG 2)), .val (.int (0 : Int32))] [(.ref q), (.ref xw)])) rfl rfl (hb hby d11_22)
  refine Go.step st3 ?_
  show Go _ _ _ _ _ _ _ T3 (mkF m 25 #[.val (.ref q), .val (.int (2 : Int32)), .val (.int (fG 2)), .val (.int (0 : Int32))] [(.ref xu), (.ref xw)])
  refine Go.step (fun _ k => XS.iloadN X3.here hx rfl (hb hby d11_25) rfl k) ?_
  refine Go.iaload X3 hx hZ e3 V_xu (j := (0 : Int32)) (v := (fG 0)) (by decide) rfl (hb hby d11_26) ?_
  show Go _ _ _ _ _ _ _ T3 (mkF m 27 #[.val (.ref q), .val (.int (2 : Int32)), .val (.int (fG 2)), .val (.int (0 : Int32))] [(.int (fG 0)), (.ref xw)])
  refine Go.daload X3 hx hZ e3 V_xw (j := (fG 0)) (v := (fK ((fG 0)).toNatClampNeg)) (hQ.idx (i := 0) (by omega)) rfl (hb hby d11_27) ?_
  show Go _ _ _ _ _ _ _ T3 (mkF m 28 #[.val (.ref q), .val (.int (2 : Int32)), .val (.int (fG 2)), .val (.int (0 : Int32))] [(.double (fK ((fG 0)).toNatClampNeg))])
  refine Go.step (fun _ k => XS.aloadN X3.here hx rfl (hb hby d11_28) rfl rfl k) ?_
  obtain ⟨T4, X4, e4, st4⟩ := getF X3 hx hZ hown (host := "") (Or.inl (hw _ (mI 15 rfl))) Via.refl e3 F_keys_q (g := (mkF m 29 #[.val (.ref q), .val (.int (2 : Int32)), .val (.int (fG 2)), .val (.int (0 : Int32))] [(.ref q), (.double (fK ((fG 0)).toNatClampNeg))])) rfl rfl (hb hby d11_29)
  refine Go.step st4 ?_
  show Go _ _ _ _ _ _ _ T4 (mkF m 32 #[.val (.ref q), .val (.int (2 : Int32)), .val (.int (fG 2)), .val (.int (0 : Int32))] [(.ref xw), (.double (fK ((fG 0)).toNatClampNeg))])
  refine Go.step (fun _ k => XS.iloadN X4.here hx rfl (hb hby d11_32) rfl k) ?_
  refine Go.daload X4 hx hZ e4 V_xw (j := (fG 2)) (v := (fK ((fG 2)).toNatClampNeg)) (hQ.idx (i := 2) (by omega)) rfl (hb hby d11_33) ?_
  show Go _ _ _ _ _ _ _ T4 (mkF m 34 #[.val (.ref q), .val (.int (2 : Int32)), .val (.int (fG 2)), .val (.int (0 : Int32))] [(.double (fK ((fG 2)).toNatClampNeg)), (.double (fK ((fG 0)).toNatClampNeg))])
  refine Go.step (fun _ k => XS.dcmpS X4.here hx rfl (hb hby d11_34) rfl rfl k) ?_
  show Go _ _ _ _ _ _ _ T4 (mkF m 35 #[.val (.ref q), .val (.int (2 : Int32)), .val (.int (fG 2)), .val (.int (0 : Int32))] [(.int (cmpValue (FP.dcmp (fK ((fG 0)).toNatClampNeg) (fK ((fG 2)).toNatClampNeg)) .g))])
  by_cases hd35_5 : (FP.dcmp (fK ((fG 0)).toNatClampNeg) (fK ((fG 2)).toNatClampNeg) = some .lt ∨ FP.dcmp (fK ((fG 0)).toNatClampNeg) (fK ((fG 2)).toNatClampNeg) = some .eq)
  · refine Go.step (fun _ k => XS.ifNo X4.here hx rfl (hb hby d11_35) rfl (le_y hd35_5) k) ?_
    show Go _ _ _ _ _ _ _ T4 (mkF m 38 #[.val (.ref q), .val (.int (2 : Int32)), .val (.int (fG 2)), .val (.int (0 : Int32))] [])
    refine Go.step (fun _ k => XS.goto X4.here hx rfl (pc0 := 38) (pc' := 57) rfl (hb hby d11_38) (by decide) (by decide) k) ?_
    show Go _ _ _ _ _ _ _ T4 (mkF m 57 #[.val (.ref q), .val (.int (2 : Int32)), .val (.int (fG 2)), .val (.int (0 : Int32))] [])
    refine Go.step (fun _ k => XS.aloadN X4.here hx rfl (hb hby d11_57) rfl rfl k) ?_
    refine Go.step (fun _ k => XS.iloadN X4.here hx rfl (hb hby d11_58) rfl k) ?_
    refine Go.step (fun _ k => XS.iloadN X4.here hx rfl (hb hby d11_59) rfl k) ?_
    show Go _ _ _ _ _ _ _ T4 (mkF m 60 #[.val (.ref q), .val (.int (2 : Int32)), .val (.int (fG 2)), .val (.int (0 : Int32))] [(.int (2 : Int32)), (.int (fG 2)), (.ref q)])
    refine Go.callP X4 hx hZ (by rw [hml]; rfl) (y := (⟨"com/example/tributary/tributary/NodeQueue", "place", "(II)V"⟩ : MethodName)) (a := q) (argsL := [(.int (fG 2)), (.int (2 : Int32))]) (rest := []) hown (hw _ (mI 57 rfl)) (hw _ (mI 58 rfl)) (hw _ (mI 1 rfl)) (hw _ (mI 59 rfl)) (hw _ (mI 2 rfl)) (hw _ (mI 60 rfl)) (by decide) (rm12 l Z a0 hw q xu xv fG fP lL (fG 2) (2 : Int32) h0 n0 Z0 F_heap_q F_positions_q V_xu V_xv ne_q_xu ne_q_xv ne_xu_xv ge_xu ge_xv (by decide) (hQ.idx (i := 2) (by omega))) e4 E_q (hb hby d11_60) (lenOf pd_2 rfl) rfl rfl (W := 0) (Nat.le_of_eq rfl) (by decide) (by decide) (by decide) (by decide) ?_
    intro v6 T6 L6 X6 Q6
    obtain ⟨rfl, N6q, Kc6, Vu6, Vv6⟩ := Q6
    have N6 := Fr.app N0 N6q
    have E_q_6 := E_q.keep Kc6
    have F_size_q_6 := F_size_q.keep Kc6 (ninS ne_q_xu (ninS ne_q_xv nin0))
    have F_heap_q_6 := F_heap_q.keep Kc6 (ninS ne_q_xu (ninS ne_q_xv nin0))
    have F_positions_q_6 := F_positions_q.keep Kc6 (ninS ne_q_xu (ninS ne_q_xv nin0))
    have F_keys_q_6 := F_keys_q.keep Kc6 (ninS ne_q_xu (ninS ne_q_xv nin0))
    have V_xw_6 := V_xw.keep Kc6 (ninS (Ne.symm ne_xu_xw) (ninS (Ne.symm ne_xv_xw) nin0))
    have KK6 : Keep h0 T6.heap [xu, xv] := ((Keep.refl h0 [xu, xv]) : Keep h0 h0 [xu, xv]).trans Kc6 (allS (Or.inl (List.mem_of_getElem? (i := 0) rfl)) (allS (Or.inl (List.mem_of_getElem? (i := 1) rfl)) all0))
    have Vu6 : Iv Z T6.heap xu (16 : Int32) (updN fG 2 (fG 2)) := Vu6
    show Go _ _ _ _ _ _ _ T6 (mkF m 63 #[.val (.ref q), .val (.int (2 : Int32)), .val (.int (fG 2)), .val (.int (0 : Int32))] [])
    refine Go.retV X6 hx hlk hret (hb hby d11_63) (by decide) (by decide) ?_
    exact ⟨rfl, N6, KK6, _, _, Vu6, Vv6, hQ.same (i := 2) (by omega)⟩
  · refine Go.step (fun _ k => XS.ifYes X4.here hx rfl (pc0 := 35) (pc' := 41) rfl (hb hby d11_35) rfl (le_n hd35_5) (by decide) (by decide) k) ?_
    show Go _ _ _ _ _ _ _ T4 (mkF m 41 #[.val (.ref q), .val (.int (2 : Int32)), .val (.int (fG 2)), .val (.int (0 : Int32))] [])
    refine Go.step (fun _ k => XS.aloadN X4.here hx rfl (hb hby d11_41) rfl rfl k) ?_
    refine Go.step (fun _ k => XS.aloadN X4.here hx rfl (hb hby d11_42) rfl rfl k) ?_
    obtain ⟨T7, X7, e7, st7⟩ := getF X4 hx hZ hown (host := "") (Or.inl (hw _ (mI 10 rfl))) Via.refl e4 F_heap_q (g := (mkF m 43 #[.val (.ref q), .val (.int (2 : Int32)), .val (.int (fG 2)), .val (.int (0 : Int32))] [(.ref q), (.ref q)])) rfl rfl (hb hby d11_43)
    refine Go.step st7 ?_
    show Go _ _ _ _ _ _ _ T7 (mkF m 46 #[.val (.ref q), .val (.int (2 : Int32)), .val (.int (fG 2)), .val (.int (0 : Int32))] [(.ref xu), (.ref q)])
    refine Go.step (fun _ k => XS.iloadN X7.here hx rfl (hb hby d11_46) rfl k) ?_
    refine Go.iaload X7 hx hZ e7 V_xu (j := (0 : Int32)) (v := (fG 0)) (by decide) rfl (hb hby d11_47) ?_
    show Go _ _ _ _ _ _ _ T7 (mkF m 48 #[.val (.ref q), .val (.int (2 : Int32)), .val (.int (fG 2)), .val (.int (0 : Int32))] [(.int (fG 0)), (.ref q)])
    refine Go.step (fun _ k => XS.iloadN X7.here hx rfl (hb hby d11_48) rfl k) ?_
    refine Go.callP X7 hx hZ (by rw [hml]; rfl) (y := (⟨"com/example/tributary/tributary/NodeQueue", "place", "(II)V"⟩ : MethodName)) (a := q) (argsL := [(.int (fG 0)), (.int (2 : Int32))]) (rest := []) hown (hw _ (mI 57 rfl)) (hw _ (mI 58 rfl)) (hw _ (mI 1 rfl)) (hw _ (mI 59 rfl)) (hw _ (mI 2 rfl)) (hw _ (mI 60 rfl)) (by decide) (rm12 l Z a0 hw q xu xv fG fP lL (fG 0) (2 : Int32) h0 n0 Z0 F_heap_q F_positions_q V_xu V_xv ne_q_xu ne_q_xv ne_xu_xv ge_xu ge_xv (by decide) (hQ.idx (i := 0) (by omega))) e7 E_q (hb hby d11_49) (lenOf pd_2 rfl) rfl rfl (W := 0) (Nat.le_of_eq rfl) (by decide) (by decide) (by decide) (by decide) ?_
    intro v8 T8 L8 X8 Q8
    obtain ⟨rfl, N8q, Kc8, Vu8, Vv8⟩ := Q8
    have N8 := Fr.app N0 N8q
    have E_q_8 := E_q.keep Kc8
    have F_size_q_8 := F_size_q.keep Kc8 (ninS ne_q_xu (ninS ne_q_xv nin0))
    have F_heap_q_8 := F_heap_q.keep Kc8 (ninS ne_q_xu (ninS ne_q_xv nin0))
    have F_positions_q_8 := F_positions_q.keep Kc8 (ninS ne_q_xu (ninS ne_q_xv nin0))
    have F_keys_q_8 := F_keys_q.keep Kc8 (ninS ne_q_xu (ninS ne_q_xv nin0))
    have V_xw_8 := V_xw.keep Kc8 (ninS (Ne.symm ne_xu_xw) (ninS (Ne.symm ne_xv_xw) nin0))
    have KK8 : Keep h0 T8.heap [xu, xv] := ((Keep.refl h0 [xu, xv]) : Keep h0 h0 [xu, xv]).trans Kc8 (allS (Or.inl (List.mem_of_getElem? (i := 0) rfl)) (allS (Or.inl (List.mem_of_getElem? (i := 1) rfl)) all0))
    have Vu8 : Iv Z T8.heap xu (16 : Int32) (updN fG 2 (fG 0)) := Vu8
    show Go _ _ _ _ _ _ _ T8 (mkF m 52 #[.val (.ref q), .val (.int (2 : Int32)), .val (.int (fG 2)), .val (.int (0 : Int32))] [])
    refine Go.step (fun _ k => XS.iloadN X8.here hx rfl (hb hby d11_52) rfl k) ?_
    refine Go.step (fun _ k => XS.istoreN X8.here hx rfl (hb hby d11_53) rfl (l' := #[.val (.ref q), .val (.int (0 : Int32)), .val (.int (fG 2)), .val (.int (0 : Int32))]) rfl k) ?_
    show Go _ _ _ _ _ _ _ T8 (mkF m 54 #[.val (.ref q), .val (.int (0 : Int32)), .val (.int (fG 2)), .val (.int (0 : Int32))] [])
    refine Go.step (fun _ k => XS.goto X8.here hx rfl (pc0 := 54) (pc' := 7) rfl (hb hby d11_54) (by decide) (by decide) k) ?_
    show Go _ _ _ _ _ _ _ T8 (mkF m 7 #[.val (.ref q), .val (.int (0 : Int32)), .val (.int (fG 2)), .val (.int (0 : Int32))] [])
    refine Go.step (fun _ k => XS.iloadN X8.here hx rfl (hb hby d11_7) rfl k) ?_
    refine Go.step (fun _ k => XS.ifYes X8.here hx rfl (pc0 := 8) (pc' := 57) rfl (hb hby d11_8) rfl ((if0 _ _).trans (flt (by decide : ¬ ((0 : Int32) < (0 : Int32)))).2.2.2) (by decide) (by decide) k) ?_
    show Go _ _ _ _ _ _ _ T8 (mkF m 57 #[.val (.ref q), .val (.int (0 : Int32)), .val (.int (fG 2)), .val (.int (0 : Int32))] [])
    refine Go.step (fun _ k => XS.aloadN X8.here hx rfl (hb hby d11_57) rfl rfl k) ?_
    refine Go.step (fun _ k => XS.iloadN X8.here hx rfl (hb hby d11_58) rfl k) ?_
    refine Go.step (fun _ k => XS.iloadN X8.here hx rfl (hb hby d11_59) rfl k) ?_
    show Go _ _ _ _ _ _ _ T8 (mkF m 60 #[.val (.ref q), .val (.int (0 : Int32)), .val (.int (fG 2)), .val (.int (0 : Int32))] [(.int (0 : Int32)), (.int (fG 2)), (.ref q)])
    refine Go.callP X8 hx hZ (by rw [hml]; rfl) (y := (⟨"com/example/tributary/tributary/NodeQueue", "place", "(II)V"⟩ : MethodName)) (a := q) (argsL := [(.int (fG 2)), (.int (0 : Int32))]) (rest := []) hown (hw _ (mI 57 rfl)) (hw _ (mI 58 rfl)) (hw _ (mI 1 rfl)) (hw _ (mI 59 rfl)) (hw _ (mI 2 rfl)) (hw _ (mI 60 rfl)) (by decide) (rm12 l Z a0 hw q xu xv (updN fG 2 (fG 0)) (updN fP ((fG 0)).toNatClampNeg (2 : Int32)) lL (fG 2) (0 : Int32) T8.heap n0 (Nat.le_trans Z0 (KK8 : Keep h0 T8.heap [xu, xv]).1) F_heap_q_8 F_positions_q_8 Vu8 Vv8 ne_q_xu ne_q_xv ne_xu_xv ge_xu ge_xv (by decide) (hQ.idx (i := 2) (by omega))) rfl E_q_8 (hb hby d11_60) (lenOf pd_2 rfl) rfl rfl (W := 0) (Nat.le_of_eq rfl) (by decide) (by decide) (by decide) (by decide) ?_
    intro v9 T9 L9 X9 Q9
    obtain ⟨rfl, N9q, Kc9, Vu9, Vv9⟩ := Q9
    have N9 := Fr.app N8 N9q
    have E_q_9 := E_q_8.keep Kc9
    have F_size_q_9 := F_size_q_8.keep Kc9 (ninS ne_q_xu (ninS ne_q_xv nin0))
    have F_heap_q_9 := F_heap_q_8.keep Kc9 (ninS ne_q_xu (ninS ne_q_xv nin0))
    have F_positions_q_9 := F_positions_q_8.keep Kc9 (ninS ne_q_xu (ninS ne_q_xv nin0))
    have F_keys_q_9 := F_keys_q_8.keep Kc9 (ninS ne_q_xu (ninS ne_q_xv nin0))
    have V_xw_9 := V_xw_8.keep Kc9 (ninS (Ne.symm ne_xu_xw) (ninS (Ne.symm ne_xv_xw) nin0))
    have KK9 : Keep h0 T9.heap [xu, xv] := (KK8 : Keep h0 T8.heap [xu, xv]).trans Kc9 (allS (Or.inl (List.mem_of_getElem? (i := 0) rfl)) (allS (Or.inl (List.mem_of_getElem? (i := 1) rfl)) all0))
    have Vu9 : Iv Z T9.heap xu (16 : Int32) (updN (updN fG 2 (fG 0)) 0 (fG 2)) := Vu9
    show Go _ _ _ _ _ _ _ T9 (mkF m 63 #[.val (.ref q), .val (.int (0 : Int32)), .val (.int (fG 2)), .val (.int (0 : Int32))] [])
    refine Go.retV X9 hx hlk hret (hb hby d11_63) (by decide) (by decide) ?_
    exact ⟨rfl, N9, KK9, _, _, Vu9, Vv9, hQ.swap (i := 0) (j := 2) (by omega) (by omega) (by omega) (by decide)⟩
theorem ef_rmU2 (m : MethodId) (q : Addr) : entryFrame m #[(.ref q), (.int (2 : Int32))] 4 = mkF m 0 #[.val (.ref q), .val (.int (2 : Int32)), .unset, .unset] [] := by first | (simp [entryFrame, mkF, argsToLocals, Value.category]; done) | rfl
theorem rmU2 (l : Launch) (Z : State) (a0 : Array Value) (hw : ∀ d ∈ tables_1, d.before a0 Z = true) (q xu xv xw : Addr) (fG fP : Nat → Int32) (fK : Nat → UInt64) (lL : Int32) (n : Nat) (fS : Int32 → Prop) (sz : Int32) (h0 : Heap) (n0 : Nat) (Z0 : n0 ≤ h0.size) (E_q : Exa Z h0 q "com/example/tributary/tributary/NodeQueue") (F_size_q : Fld Z h0 q "com/example/tributary/tributary/NodeQueue" "size" "I" (.int sz)) (F_heap_q : Fld Z h0 q "com/example/tributary/tributary/NodeQueue" "heap" "[I" (.ref xu)) (F_positions_q : Fld Z h0 q "com/example/tributary/tributary/NodeQueue" "positions" "[I" (.ref xv)) (F_keys_q : Fld Z h0 q "com/example/tributary/tributary/NodeQueue" "keys" "[D" (.ref xw)) (V_xu : Iv Z h0 xu (16 : Int32) fG) (V_xv : Iv Z h0 xv lL fP) (V_xw : Dv Z h0 xw lL fK) (ne_q_xu : q ≠ xu) (ne_q_xv : q ≠ xv) (ne_q_xw : q ≠ xw) (ne_xu_xv : xu ≠ xv) (ne_xu_xw : xu ≠ xw) (ne_xv_xw : xv ≠ xw) (ge_q : n0 ≤ q) (ge_xu : n0 ≤ xu) (ge_xv : n0 ≤ xv) (ge_xw : n0 ≤ xw) (hQ : QI n fG lL fP fS) (hj : 2 < n) (hn : n ≤ 16) :
    Con l Z (⟨"com/example/tributary/tributary/NodeQueue", "siftUp", "(I)V"⟩ : MethodName) prog_40_method_9_code 4 none ({ frames := 1, cells := 0, slots := 0, locals := 14 } : Room) #[(.ref q), (.int (2 : Int32))] h0 (fun r h L => r = none ∧ Fr n0 L ∧ Keep h0 h [xu, xv] ∧ ∃ (g' P' : Nat → Int32), Iv Z h xu (16 : Int32) g' ∧ Iv Z h xv lL P' ∧ QI n g' lL P' fS) :=
  con_of (plainFor_of_name pn_12) (fun p_ e_ s_ m_ b_ meth_ c_ T_ X_ hx hZ hby hml hown hnm hret hlk e0 => Go.cast (ef_rmU2 m_ q) (wU2 q xu xv xw fG fP fK lL n fS sz X_ hx hZ hw hby hml hown hnm hret hlk e0 Z0 (Fr.nil n0) E_q F_size_q F_heap_q F_positions_q F_keys_q V_xu V_xv V_xw ne_q_xu ne_q_xv ne_q_xw ne_xu_xv ne_xu_xw ne_xv_xw ge_q ge_xu ge_xv ge_xw hQ hj hn))
theorem rmUp (l : Launch) (Z : State) (a0 : Array Value) (hw : ∀ d ∈ tables_1, d.before a0 Z = true) (q xu xv xw : Addr) (fG fP : Nat → Int32) (fK : Nat → UInt64) (lL : Int32) (n : Nat) (fS : Int32 → Prop) (sz k : Int32) (j : Nat) (h0 : Heap) (n0 : Nat) (Z0 : n0 ≤ h0.size) (E_q : Exa Z h0 q "com/example/tributary/tributary/NodeQueue") (F_size_q : Fld Z h0 q "com/example/tributary/tributary/NodeQueue" "size" "I" (.int sz)) (F_heap_q : Fld Z h0 q "com/example/tributary/tributary/NodeQueue" "heap" "[I" (.ref xu)) (F_positions_q : Fld Z h0 q "com/example/tributary/tributary/NodeQueue" "positions" "[I" (.ref xv)) (F_keys_q : Fld Z h0 q "com/example/tributary/tributary/NodeQueue" "keys" "[D" (.ref xw)) (V_xu : Iv Z h0 xu (16 : Int32) fG) (V_xv : Iv Z h0 xv lL fP) (V_xw : Dv Z h0 xw lL fK) (ne_q_xu : q ≠ xu) (ne_q_xv : q ≠ xv) (ne_q_xw : q ≠ xw) (ne_xu_xv : xu ≠ xv) (ne_xu_xw : xu ≠ xw) (ne_xv_xw : xv ≠ xw) (ge_q : n0 ≤ q) (ge_xu : n0 ≤ xu) (ge_xv : n0 ≤ xv) (ge_xw : n0 ≤ xw) (hQ : QI n fG lL fP fS) (hj : j < n) (hn : n ≤ 3) (hk : k = Int32.ofNat j) :
    Con l Z (⟨"com/example/tributary/tributary/NodeQueue", "siftUp", "(I)V"⟩ : MethodName) prog_40_method_9_code 4 none ({ frames := 1, cells := 0, slots := 0, locals := 14 } : Room) #[(.ref q), (.int k)] h0 (fun r h L => r = none ∧ Fr n0 L ∧ Keep h0 h [xu, xv] ∧ ∃ (g' P' : Nat → Int32), Iv Z h xu (16 : Int32) g' ∧ Iv Z h xv lL P' ∧ QI n g' lL P' fS) := by
  subst hk
  match j, hj with
  | 0, hj => exact rmU0 l Z a0 hw q xu xv xw fG fP fK lL n fS sz h0 n0 Z0 E_q F_size_q F_heap_q F_positions_q F_keys_q V_xu V_xv V_xw ne_q_xu ne_q_xv ne_q_xw ne_xu_xv ne_xu_xw ne_xv_xw ge_q ge_xu ge_xv ge_xw hQ hj (by omega)
  | 1, hj => exact rmU1 l Z a0 hw q xu xv xw fG fP fK lL n fS sz h0 n0 Z0 E_q F_size_q F_heap_q F_positions_q F_keys_q V_xu V_xv V_xw ne_q_xu ne_q_xv ne_q_xw ne_xu_xv ne_xu_xw ne_xv_xw ge_q ge_xu ge_xv ge_xw hQ hj (by omega)
  | 2, hj => exact rmU2 l Z a0 hw q xu xv xw fG fP fK lL n fS sz h0 n0 Z0 E_q F_size_q F_heap_q F_positions_q F_keys_q V_xu V_xv V_xw ne_q_xu ne_q_xv ne_q_xw ne_xu_xv ne_xu_xw ne_xv_xw ge_q ge_xu ge_xv ge_xw hQ hj (by omega)
  | j + 3, hj => omega
theorem d15_0 : decode prog_40_method_10_code 0 = .ok (.aload_n 0, 1) := by decide +kernel
theorem d15_1 : decode prog_40_method_10_code 1 = .ok (.getfield 7, 3) := by decide +kernel
theorem d15_4 : decode prog_40_method_10_code 4 = .ok (.iload_n 1, 1) := by decide +kernel
theorem d15_5 : decode prog_40_method_10_code 5 = .ok (.iaload, 1) := by decide +kernel
theorem d15_6 : decode prog_40_method_10_code 6 = .ok (.istore_n 2, 1) := by decide +kernel
theorem d15_7 : decode prog_40_method_10_code 7 = .ok (.iconst 2, 1) := by decide +kernel
theorem d15_8 : decode prog_40_method_10_code 8 = .ok (.iload_n 1, 1) := by decide +kernel
theorem d15_9 : decode prog_40_method_10_code 9 = .ok (.imul, 1) := by decide +kernel
theorem d15_10 : decode prog_40_method_10_code 10 = .ok (.iconst 1, 1) := by decide +kernel
theorem d15_11 : decode prog_40_method_10_code 11 = .ok (.iadd, 1) := by decide +kernel
theorem d15_12 : decode prog_40_method_10_code 12 = .ok (.istore_n 3, 1) := by decide +kernel
theorem d15_13 : decode prog_40_method_10_code 13 = .ok (.iload_n 3, 1) := by decide +kernel
theorem d15_14 : decode prog_40_method_10_code 14 = .ok (.aload_n 0, 1) := by decide +kernel
theorem d15_15 : decode prog_40_method_10_code 15 = .ok (.getfield 20, 3) := by decide +kernel
theorem d15_18 : decode prog_40_method_10_code 18 = .ok (.if_icmp .lt 6, 3) := by decide +kernel
theorem d15_21 : decode prog_40_method_10_code 21 = .ok (.goto 84, 3) := by decide +kernel
theorem d15_105 : decode prog_40_method_10_code 105 = .ok (.aload_n 0, 1) := by decide +kernel
theorem d15_106 : decode prog_40_method_10_code 106 = .ok (.iload_n 2, 1) := by decide +kernel
theorem d15_107 : decode prog_40_method_10_code 107 = .ok (.iload_n 1, 1) := by decide +kernel
theorem d15_108 : decode prog_40_method_10_code 108 = .ok (.invokevirtual 50, 3) := by decide +kernel
theorem d15_111 : decode prog_40_method_10_code 111 = .ok (.return_, 1) := by decide +kernel
set_option maxRecDepth 65536 in
set_option maxHeartbeats 40000000 in
theorem wD1 {p : Program} {l : Launch} {e : Env} {s : State} {m : MethodId} {args : Array Value} {below : List Frame} {meth : Method} {c_ : Code} {T0 : State} {locs : List Loc} {Z : State} {a0 : Array Value} {h0 : Heap} {n0 : Nat} (q xu xv xw : Addr) (fG fP : Nat → Int32) (fK : Nat → UInt64) (lL : Int32) (fS : Int32 → Prop)
    (X0 : Stand p l e ({ frames := 1, cells := 0, slots := 0, locals := 14 } : Room) s m args below meth c_ T0 locs 0 0) (hx : p.tables.exec = Jvm.exec) (hZ : Z.Warmed39 s.vm) (hw : ∀ d ∈ tables_1, d.before a0 Z = true) (hby : c_.code = prog_40_method_10_code) (hml : c_.maxLocals = 4) (hown : s.vm.findClass "com/example/tributary/tributary/NodeQueue" = some m.cls) (hnm : meth.name = "siftDown") (hret : meth.sig.returnType = none) (hlk : meth.locks = false) (e0 : T0.heap = h0) (Z0 : n0 ≤ h0.size) (N0 : Fr n0 locs) (E_q : Exa Z h0 q "com/example/tributary/tributary/NodeQueue") (F_size_q : Fld Z h0 q "com/example/tributary/tributary/NodeQueue" "size" "I" (.int (1 : Int32))) (F_heap_q : Fld Z h0 q "com/example/tributary/tributary/NodeQueue" "heap" "[I" (.ref xu)) (F_positions_q : Fld Z h0 q "com/example/tributary/tributary/NodeQueue" "positions" "[I" (.ref xv)) (F_keys_q : Fld Z h0 q "com/example/tributary/tributary/NodeQueue" "keys" "[D" (.ref xw)) (V_xu : Iv Z h0 xu (16 : Int32) fG) (V_xv : Iv Z h0 xv lL fP) (V_xw : Dv Z h0 xw lL fK) (ne_q_xu : q ≠ xu) (ne_q_xv : q ≠ xv) (ne_q_xw : q ≠ xw) (ne_xu_xv : xu ≠ xv) (ne_xu_xw : xu ≠ xw) (ne_xv_xw : xv ≠ xw) (ge_q : n0 ≤ q) (ge_xu : n0 ≤ xu) (ge_xv : n0 ≤ xv) (ge_xw : n0 ≤ xw) (hQ : QI 1 fG lL fP fS) :
    Go p e below s ({ frames := 1, cells := 0, slots := 0, locals := 14 } : Room).cells ({ frames := 1, cells := 0, slots := 0, locals := 14 } : Room).slots (fun r h L => r = none ∧ Fr n0 L ∧ Keep h0 h [xu, xv] ∧ ∃ (g' P' : Nat → Int32), Iv Z h xu (16 : Int32) g' ∧ Iv Z h xv lL P' ∧ QI 1 g' lL P' fS) T0 (mkF m 0 #[.val (.ref q), .val (.int (0 : Int32)), .unset, .unset] []) := by
  show Go _ _ _ _ _ _ _ T0 (mkF m 0 #[.val (.ref q), .val (.int (0 : Int32)), .unset, .unset] [])
  refine Go.step (fun _ k => XS.aloadN X0.here hx rfl (hb hby d15_0) rfl rfl k) ?_
  obtain ⟨T1, X1, e1, st1⟩ := getF X0 hx hZ hown (host := "") (Or.inl (hw _ (mI 10 rfl))) Via.refl e0 F_heap_q (g := (mkF m 1 #[.val (.ref q), .val (.int (0 : Int32)), .unset, .unset] [(.ref q)])) rfl rfl (hb hby d15_1)
  refine Go.step st1 ?_
  show Go _ _ _ _ _ _ _ T1 (mkF m 4 #[.val (.ref q), .val (.int (0 : Int32)), .unset, .unset] [(.ref xu)])
  refine Go.step (fun _ k => XS.iloadN X1.here hx rfl (hb hby d15_4) rfl k) ?_
  refine Go.iaload X1 hx hZ e1 V_xu (j := (0 : Int32)) (v := (fG 0)) (by decide) rfl (hb hby d15_5) ?_
  show Go _ _ _ _ _ _ _ T1 (mkF m 6 #[.val (.ref q), .val (.int (0 : Int32)), .unset, .unset] [(.int (fG 0))])
  refine Go.step (fun _ k => XS.istoreN X1.here hx rfl (hb hby d15_6) rfl (l' := #[.val (.ref q), .val (.int (0 : Int32)), .val (.int (fG 0)), .unset]) rfl k) ?_
  show Go _ _ _ _ _ _ _ T1 (mkF m 7 #[.val (.ref q), .val (.int (0 : Int32)), .val (.int (fG 0)), .unset] [])
  refine Go.step (fun _ k => XS.iconst X1.here hx rfl (hb hby d15_7) k) ?_
  refine Go.step (fun _ k => XS.iloadN X1.here hx rfl (hb hby d15_8) rfl k) ?_
  refine Go.step (fun _ k => XS.imul X1.here hx rfl (hb hby d15_9) rfl k) ?_
  show Go _ _ _ _ _ _ _ T1 (mkF m 10 #[.val (.ref q), .val (.int (0 : Int32)), .val (.int (fG 0)), .unset] [(.int (0 : Int32))])
  refine Go.step (fun _ k => XS.iconst X1.here hx rfl (hb hby d15_10) k) ?_
  refine Go.step (fun _ k => XS.iadd X1.here hx rfl (hb hby d15_11) rfl k) ?_
  show Go _ _ _ _ _ _ _ T1 (mkF m 12 #[.val (.ref q), .val (.int (0 : Int32)), .val (.int (fG 0)), .unset] [(.int (1 : Int32))])
  refine Go.step (fun _ k => XS.istoreN X1.here hx rfl (hb hby d15_12) rfl (l' := #[.val (.ref q), .val (.int (0 : Int32)), .val (.int (fG 0)), .val (.int (1 : Int32))]) rfl k) ?_
  show Go _ _ _ _ _ _ _ T1 (mkF m 13 #[.val (.ref q), .val (.int (0 : Int32)), .val (.int (fG 0)), .val (.int (1 : Int32))] [])
  refine Go.step (fun _ k => XS.iloadN X1.here hx rfl (hb hby d15_13) rfl k) ?_
  refine Go.step (fun _ k => XS.aloadN X1.here hx rfl (hb hby d15_14) rfl rfl k) ?_
  obtain ⟨T2, X2, e2, st2⟩ := getF X1 hx hZ hown (host := "") (Or.inl (hw _ (mI 51 rfl))) Via.refl e1 F_size_q (g := (mkF m 15 #[.val (.ref q), .val (.int (0 : Int32)), .val (.int (fG 0)), .val (.int (1 : Int32))] [(.ref q), (.int (1 : Int32))])) rfl rfl (hb hby d15_15)
  refine Go.step st2 ?_
  show Go _ _ _ _ _ _ _ T2 (mkF m 18 #[.val (.ref q), .val (.int (0 : Int32)), .val (.int (fG 0)), .val (.int (1 : Int32))] [(.int (1 : Int32)), (.int (1 : Int32))])
  refine Go.step (fun _ k => XS.icmpNo X2.here hx rfl (hb hby d15_18) rfl (flt (by decide : ¬ ((1 : Int32) < (1 : Int32)))).1 k) ?_
  show Go _ _ _ _ _ _ _ T2 (mkF m 21 #[.val (.ref q), .val (.int (0 : Int32)), .val (.int (fG 0)), .val (.int (1 : Int32))] [])
  refine Go.step (fun _ k => XS.goto X2.here hx rfl (pc0 := 21) (pc' := 105) rfl (hb hby d15_21) (by decide) (by decide) k) ?_
  show Go _ _ _ _ _ _ _ T2 (mkF m 105 #[.val (.ref q), .val (.int (0 : Int32)), .val (.int (fG 0)), .val (.int (1 : Int32))] [])
  refine Go.step (fun _ k => XS.aloadN X2.here hx rfl (hb hby d15_105) rfl rfl k) ?_
  refine Go.step (fun _ k => XS.iloadN X2.here hx rfl (hb hby d15_106) rfl k) ?_
  refine Go.step (fun _ k => XS.iloadN X2.here hx rfl (hb hby d15_107) rfl k) ?_
  show Go _ _ _ _ _ _ _ T2 (mkF m 108 #[.val (.ref q), .val (.int (0 : Int32)), .val (.int (fG 0)), .val (.int (1 : Int32))] [(.int (0 : Int32)), (.int (fG 0)), (.ref q)])
  refine Go.callP X2 hx hZ (by rw [hml]; rfl) (y := (⟨"com/example/tributary/tributary/NodeQueue", "place", "(II)V"⟩ : MethodName)) (a := q) (argsL := [(.int (fG 0)), (.int (0 : Int32))]) (rest := []) hown (hw _ (mI 57 rfl)) (hw _ (mI 58 rfl)) (hw _ (mI 1 rfl)) (hw _ (mI 59 rfl)) (hw _ (mI 2 rfl)) (hw _ (mI 60 rfl)) (by decide) (rm12 l Z a0 hw q xu xv fG fP lL (fG 0) (0 : Int32) h0 n0 Z0 F_heap_q F_positions_q V_xu V_xv ne_q_xu ne_q_xv ne_xu_xv ge_xu ge_xv (by decide) (hQ.idx (i := 0) (by omega))) e2 E_q (hb hby d15_108) (lenOf pd_2 rfl) rfl rfl (W := 0) (Nat.le_of_eq rfl) (by decide) (by decide) (by decide) (by decide) ?_
  intro v3 T3 L3 X3 Q3
  obtain ⟨rfl, N3q, Kc3, Vu3, Vv3⟩ := Q3
  have N3 := Fr.app N0 N3q
  have E_q_3 := E_q.keep Kc3
  have F_size_q_3 := F_size_q.keep Kc3 (ninS ne_q_xu (ninS ne_q_xv nin0))
  have F_heap_q_3 := F_heap_q.keep Kc3 (ninS ne_q_xu (ninS ne_q_xv nin0))
  have F_positions_q_3 := F_positions_q.keep Kc3 (ninS ne_q_xu (ninS ne_q_xv nin0))
  have F_keys_q_3 := F_keys_q.keep Kc3 (ninS ne_q_xu (ninS ne_q_xv nin0))
  have V_xw_3 := V_xw.keep Kc3 (ninS (Ne.symm ne_xu_xw) (ninS (Ne.symm ne_xv_xw) nin0))
  have KK3 : Keep h0 T3.heap [xu, xv] := ((Keep.refl h0 [xu, xv]) : Keep h0 h0 [xu, xv]).trans Kc3 (allS (Or.inl (List.mem_of_getElem? (i := 0) rfl)) (allS (Or.inl (List.mem_of_getElem? (i := 1) rfl)) all0))
  have Vu3 : Iv Z T3.heap xu (16 : Int32) (updN fG 0 (fG 0)) := Vu3
  show Go _ _ _ _ _ _ _ T3 (mkF m 111 #[.val (.ref q), .val (.int (0 : Int32)), .val (.int (fG 0)), .val (.int (1 : Int32))] [])
  refine Go.retV X3 hx hlk hret (hb hby d15_111) (by decide) (by decide) ?_
  exact ⟨rfl, N3, KK3, _, _, Vu3, Vv3, hQ.same (i := 0) (by omega)⟩
theorem ef_rmD1 (m : MethodId) (q : Addr) : entryFrame m #[(.ref q), (.int (0 : Int32))] 4 = mkF m 0 #[.val (.ref q), .val (.int (0 : Int32)), .unset, .unset] [] := by first | (simp [entryFrame, mkF, argsToLocals, Value.category]; done) | rfl
theorem rmD1 (l : Launch) (Z : State) (a0 : Array Value) (hw : ∀ d ∈ tables_1, d.before a0 Z = true) (q xu xv xw : Addr) (fG fP : Nat → Int32) (fK : Nat → UInt64) (lL : Int32) (fS : Int32 → Prop) (h0 : Heap) (n0 : Nat) (Z0 : n0 ≤ h0.size) (E_q : Exa Z h0 q "com/example/tributary/tributary/NodeQueue") (F_size_q : Fld Z h0 q "com/example/tributary/tributary/NodeQueue" "size" "I" (.int (1 : Int32))) (F_heap_q : Fld Z h0 q "com/example/tributary/tributary/NodeQueue" "heap" "[I" (.ref xu)) (F_positions_q : Fld Z h0 q "com/example/tributary/tributary/NodeQueue" "positions" "[I" (.ref xv)) (F_keys_q : Fld Z h0 q "com/example/tributary/tributary/NodeQueue" "keys" "[D" (.ref xw)) (V_xu : Iv Z h0 xu (16 : Int32) fG) (V_xv : Iv Z h0 xv lL fP) (V_xw : Dv Z h0 xw lL fK) (ne_q_xu : q ≠ xu) (ne_q_xv : q ≠ xv) (ne_q_xw : q ≠ xw) (ne_xu_xv : xu ≠ xv) (ne_xu_xw : xu ≠ xw) (ne_xv_xw : xv ≠ xw) (ge_q : n0 ≤ q) (ge_xu : n0 ≤ xu) (ge_xv : n0 ≤ xv) (ge_xw : n0 ≤ xw) (hQ : QI 1 fG lL fP fS) :
    Con l Z (⟨"com/example/tributary/tributary/NodeQueue", "siftDown", "(I)V"⟩ : MethodName) prog_40_method_10_code 4 none ({ frames := 1, cells := 0, slots := 0, locals := 14 } : Room) #[(.ref q), (.int (0 : Int32))] h0 (fun r h L => r = none ∧ Fr n0 L ∧ Keep h0 h [xu, xv] ∧ ∃ (g' P' : Nat → Int32), Iv Z h xu (16 : Int32) g' ∧ Iv Z h xv lL P' ∧ QI 1 g' lL P' fS) :=
  con_of (plainFor_of_name pn_12) (fun p_ e_ s_ m_ b_ meth_ c_ T_ X_ hx hZ hby hml hown hnm hret hlk e0 => Go.cast (ef_rmD1 m_ q) (wD1 q xu xv xw fG fP fK lL fS X_ hx hZ hw hby hml hown hnm hret hlk e0 Z0 (Fr.nil n0) E_q F_size_q F_heap_q F_positions_q F_keys_q V_xu V_xv V_xw ne_q_xu ne_q_xv ne_q_xw ne_xu_xv ne_xu_xw ne_xv_xw ge_q ge_xu ge_xv ge_xw hQ))
theorem d15_24 : decode prog_40_method_10_code 24 = .ok (.iload_n 3, 1) := by decide +kernel
theorem d15_25 : decode prog_40_method_10_code 25 = .ok (.iconst 1, 1) := by decide +kernel
theorem d15_26 : decode prog_40_method_10_code 26 = .ok (.iadd, 1) := by decide +kernel
theorem d15_27 : decode prog_40_method_10_code 27 = .ok (.aload_n 0, 1) := by decide +kernel
theorem d15_28 : decode prog_40_method_10_code 28 = .ok (.getfield 20, 3) := by decide +kernel
theorem d15_31 : decode prog_40_method_10_code 31 = .ok (.if_icmp .ge 34, 3) := by decide +kernel
theorem d15_65 : decode prog_40_method_10_code 65 = .ok (.aload_n 0, 1) := by decide +kernel
theorem d15_66 : decode prog_40_method_10_code 66 = .ok (.getfield 16, 3) := by decide +kernel
theorem d15_69 : decode prog_40_method_10_code 69 = .ok (.iload_n 2, 1) := by decide +kernel
theorem d15_70 : decode prog_40_method_10_code 70 = .ok (.daload, 1) := by decide +kernel
theorem d15_71 : decode prog_40_method_10_code 71 = .ok (.aload_n 0, 1) := by decide +kernel
theorem d15_72 : decode prog_40_method_10_code 72 = .ok (.getfield 16, 3) := by decide +kernel
theorem d15_75 : decode prog_40_method_10_code 75 = .ok (.aload_n 0, 1) := by decide +kernel
theorem d15_76 : decode prog_40_method_10_code 76 = .ok (.getfield 7, 3) := by decide +kernel
theorem d15_79 : decode prog_40_method_10_code 79 = .ok (.iload_n 3, 1) := by decide +kernel
theorem d15_80 : decode prog_40_method_10_code 80 = .ok (.iaload, 1) := by decide +kernel
theorem d15_81 : decode prog_40_method_10_code 81 = .ok (.daload, 1) := by decide +kernel
theorem d15_82 : decode prog_40_method_10_code 82 = .ok (.dcmp .g, 1) := by decide +kernel
theorem d15_83 : decode prog_40_method_10_code 83 = .ok (.ifCond .gt 6, 3) := by decide +kernel
theorem d15_86 : decode prog_40_method_10_code 86 = .ok (.goto 19, 3) := by decide +kernel
theorem d15_89 : decode prog_40_method_10_code 89 = .ok (.aload_n 0, 1) := by decide +kernel
theorem d15_90 : decode prog_40_method_10_code 90 = .ok (.aload_n 0, 1) := by decide +kernel
theorem d15_91 : decode prog_40_method_10_code 91 = .ok (.getfield 7, 3) := by decide +kernel
theorem d15_94 : decode prog_40_method_10_code 94 = .ok (.iload_n 3, 1) := by decide +kernel
theorem d15_95 : decode prog_40_method_10_code 95 = .ok (.iaload, 1) := by decide +kernel
theorem d15_96 : decode prog_40_method_10_code 96 = .ok (.iload_n 1, 1) := by decide +kernel
theorem d15_97 : decode prog_40_method_10_code 97 = .ok (.invokevirtual 50, 3) := by decide +kernel
theorem d15_100 : decode prog_40_method_10_code 100 = .ok (.iload_n 3, 1) := by decide +kernel
theorem d15_101 : decode prog_40_method_10_code 101 = .ok (.istore_n 1, 1) := by decide +kernel
theorem d15_102 : decode prog_40_method_10_code 102 = .ok (.goto (-95), 3) := by decide +kernel
set_option maxRecDepth 65536 in
set_option maxHeartbeats 40000000 in
theorem wD2 {p : Program} {l : Launch} {e : Env} {s : State} {m : MethodId} {args : Array Value} {below : List Frame} {meth : Method} {c_ : Code} {T0 : State} {locs : List Loc} {Z : State} {a0 : Array Value} {h0 : Heap} {n0 : Nat} (q xu xv xw : Addr) (fG fP : Nat → Int32) (fK : Nat → UInt64) (lL : Int32) (fS : Int32 → Prop)
    (X0 : Stand p l e ({ frames := 1, cells := 0, slots := 0, locals := 14 } : Room) s m args below meth c_ T0 locs 0 0) (hx : p.tables.exec = Jvm.exec) (hZ : Z.Warmed39 s.vm) (hw : ∀ d ∈ tables_1, d.before a0 Z = true) (hby : c_.code = prog_40_method_10_code) (hml : c_.maxLocals = 4) (hown : s.vm.findClass "com/example/tributary/tributary/NodeQueue" = some m.cls) (hnm : meth.name = "siftDown") (hret : meth.sig.returnType = none) (hlk : meth.locks = false) (e0 : T0.heap = h0) (Z0 : n0 ≤ h0.size) (N0 : Fr n0 locs) (E_q : Exa Z h0 q "com/example/tributary/tributary/NodeQueue") (F_size_q : Fld Z h0 q "com/example/tributary/tributary/NodeQueue" "size" "I" (.int (2 : Int32))) (F_heap_q : Fld Z h0 q "com/example/tributary/tributary/NodeQueue" "heap" "[I" (.ref xu)) (F_positions_q : Fld Z h0 q "com/example/tributary/tributary/NodeQueue" "positions" "[I" (.ref xv)) (F_keys_q : Fld Z h0 q "com/example/tributary/tributary/NodeQueue" "keys" "[D" (.ref xw)) (V_xu : Iv Z h0 xu (16 : Int32) fG) (V_xv : Iv Z h0 xv lL fP) (V_xw : Dv Z h0 xw lL fK) (ne_q_xu : q ≠ xu) (ne_q_xv : q ≠ xv) (ne_q_xw : q ≠ xw) (ne_xu_xv : xu ≠ xv) (ne_xu_xw : xu ≠ xw) (ne_xv_xw : xv ≠ xw) (ge_q : n0 ≤ q) (ge_xu : n0 ≤ xu) (ge_xv : n0 ≤ xv) (ge_xw : n0 ≤ xw) (hQ : QI 2 fG lL fP fS) :
    Go p e below s ({ frames := 1, cells := 0, slots := 0, locals := 14 } : Room).cells ({ frames := 1, cells := 0, slots := 0, locals := 14 } : Room).slots (fun r h L => r = none ∧ Fr n0 L ∧ Keep h0 h [xu, xv] ∧ ∃ (g' P' : Nat → Int32), Iv Z h xu (16 : Int32) g' ∧ Iv Z h xv lL P' ∧ QI 2 g' lL P' fS) T0 (mkF m 0 #[.val (.ref q), .val (.int (0 : Int32)), .unset, .unset] []) := by
  show Go _ _ _ _ _ _ _ T0 (mkF m 0 #[.val (.ref q), .val (.int (0 : Int32)), .unset, .unset] [])
  refine Go.step (fun _ k => XS.aloadN X0.here hx rfl (hb hby d15_0) rfl rfl k) ?_
  obtain ⟨T1, X1, e1, st1⟩ := getF X0 hx hZ hown (host := "") (Or.inl (hw _ (mI 10 rfl))) Via.refl e0 F_heap_q (g := (mkF m 1 #[.val (.ref q), .val (.int (0 : Int32)), .unset, .unset] [(.ref q)])) rfl rfl (hb hby d15_1)
  refine Go.step st1 ?_
  show Go _ _ _ _ _ _ _ T1 (mkF m 4 #[.val (.ref q), .val (.int (0 : Int32)), .unset, .unset] [(.ref xu)])
  refine Go.step (fun _ k => XS.iloadN X1.here hx rfl (hb hby d15_4) rfl k) ?_
  refine Go.iaload X1 hx hZ e1 V_xu (j := (0 : Int32)) (v := (fG 0)) (by decide) rfl (hb hby d15_5) ?_
  show Go _ _ _ _ _ _ _ T1 (mkF m 6 #[.val (.ref q), .val (.int (0 : Int32)), .unset, .unset] [(.int (fG 0))])
  refine Go.step (fun _ k => XS.istoreN X1.here hx rfl (hb hby d15_6) rfl (l' := #[.val (.ref q), .val (.int (0 : Int32)), .val (.int (fG 0)), .unset]) rfl k) ?_
  show Go _ _ _ _ _ _ _ T1 (mkF m 7 #[.val (.ref q), .val (.int (0 : Int32)), .val (.int (fG 0)), .unset] [])
  refine Go.step (fun _ k => XS.iconst X1.here hx rfl (hb hby d15_7) k) ?_
  refine Go.step (fun _ k => XS.iloadN X1.here hx rfl (hb hby d15_8) rfl k) ?_
  refine Go.step (fun _ k => XS.imul X1.here hx rfl (hb hby d15_9) rfl k) ?_
  show Go _ _ _ _ _ _ _ T1 (mkF m 10 #[.val (.ref q), .val (.int (0 : Int32)), .val (.int (fG 0)), .unset] [(.int (0 : Int32))])
  refine Go.step (fun _ k => XS.iconst X1.here hx rfl (hb hby d15_10) k) ?_
  refine Go.step (fun _ k => XS.iadd X1.here hx rfl (hb hby d15_11) rfl k) ?_
  show Go _ _ _ _ _ _ _ T1 (mkF m 12 #[.val (.ref q), .val (.int (0 : Int32)), .val (.int (fG 0)), .unset] [(.int (1 : Int32))])
  refine Go.step (fun _ k => XS.istoreN X1.here hx rfl (hb hby d15_12) rfl (l' := #[.val (.ref q), .val (.int (0 : Int32)), .val (.int (fG 0)), .val (.int (1 : Int32))]) rfl k) ?_
  show Go _ _ _ _ _ _ _ T1 (mkF m 13 #[.val (.ref q), .val (.int (0 : Int32)), .val (.int (fG 0)), .val (.int (1 : Int32))] [])
  refine Go.step (fun _ k => XS.iloadN X1.here hx rfl (hb hby d15_13) rfl k) ?_
  refine Go.step (fun _ k => XS.aloadN X1.here hx rfl (hb hby d15_14) rfl rfl k) ?_
  obtain ⟨T2, X2, e2, st2⟩ := getF X1 hx hZ hown (host := "") (Or.inl (hw _ (mI 51 rfl))) Via.refl e1 F_size_q (g := (mkF m 15 #[.val (.ref q), .val (.int (0 : Int32)), .val (.int (fG 0)), .val (.int (1 : Int32))] [(.ref q), (.int (1 : Int32))])) rfl rfl (hb hby d15_15)
  refine Go.step st2 ?_
  show Go _ _ _ _ _ _ _ T2 (mkF m 18 #[.val (.ref q), .val (.int (0 : Int32)), .val (.int (fG 0)), .val (.int (1 : Int32))] [(.int (2 : Int32)), (.int (1 : Int32))])
  refine Go.step (fun _ k => XS.icmpYes X2.here hx rfl (pc0 := 18) (pc' := 24) rfl (hb hby d15_18) rfl (tlt (by decide : (1 : Int32) < (2 : Int32))).1 (by decide) (by decide) k) ?_
  show Go _ _ _ _ _ _ _ T2 (mkF m 24 #[.val (.ref q), .val (.int (0 : Int32)), .val (.int (fG 0)), .val (.int (1 : Int32))] [])
  refine Go.step (fun _ k => XS.iloadN X2.here hx rfl (hb hby d15_24) rfl k) ?_
  refine Go.step (fun _ k => XS.iconst X2.here hx rfl (hb hby d15_25) k) ?_
  refine Go.step (fun _ k => XS.iadd X2.here hx rfl (hb hby d15_26) rfl k) ?_
  show Go _ _ _ _ _ _ _ T2 (mkF m 27 #[.val (.ref q), .val (.int (0 : Int32)), .val (.int (fG 0)), .val (.int (1 : Int32))] [(.int (2 : Int32))])
  refine Go.step (fun _ k => XS.aloadN X2.here hx rfl (hb hby d15_27) rfl rfl k) ?_
  obtain ⟨T3, X3, e3, st3⟩ := getF X2 hx hZ hown (host := "") (Or.inl (hw _ (mI 51 rfl))) Via.refl e2 F_size_q (g := (mkF m 28 #[.val (.ref q), .val (.int (0 : Int32)), .val (.int (fG 0)), .val (.int (1 : Int32))] [(.ref q), (.int (2 : Int32))])) rfl rfl (hb hby d15_28)
  refine Go.step st3 ?_
  show Go _ _ _ _ _ _ _ T3 (mkF m 31 #[.val (.ref q), .val (.int (0 : Int32)), .val (.int (fG 0)), .val (.int (1 : Int32))] [(.int (2 : Int32)), (.int (2 : Int32))])
  refine Go.step (fun _ k => XS.icmpYes X3.here hx rfl (pc0 := 31) (pc' := 65) rfl (hb hby d15_31) rfl (flt (by decide : ¬ ((2 : Int32) < (2 : Int32)))).2.1 (by decide) (by decide) k) ?_
  show Go _ _ _ _ _ _ _ T3 (mkF m 65 #[.val (.ref q), .val (.int (0 : Int32)), .val (.int (fG 0)), .val (.int (1 : Int32))] [])
  refine Go.step (fun _ k => XS.aloadN X3.here hx rfl (hb hby d15_65) rfl rfl k) ?_
  obtain ⟨T4, X4, e4, st4⟩ := getF X3 hx hZ hown (host := "") (Or.inl (hw _ (mI 15 rfl))) Via.refl e3 F_keys_q (g := (mkF m 66 #[.val (.ref q), .val (.int (0 : Int32)), .val (.int (fG 0)), .val (.int (1 : Int32))] [(.ref q)])) rfl rfl (hb hby d15_66)
  refine Go.step st4 ?_
  show Go _ _ _ _ _ _ _ T4 (mkF m 69 #[.val (.ref q), .val (.int (0 : Int32)), .val (.int (fG 0)), .val (.int (1 : Int32))] [(.ref xw)])
  refine Go.step (fun _ k => XS.iloadN X4.here hx rfl (hb hby d15_69) rfl k) ?_
  refine Go.daload X4 hx hZ e4 V_xw (j := (fG 0)) (v := (fK ((fG 0)).toNatClampNeg)) (hQ.idx (i := 0) (by omega)) rfl (hb hby d15_70) ?_
  show Go _ _ _ _ _ _ _ T4 (mkF m 71 #[.val (.ref q), .val (.int (0 : Int32)), .val (.int (fG 0)), .val (.int (1 : Int32))] [(.double (fK ((fG 0)).toNatClampNeg))])
  refine Go.step (fun _ k => XS.aloadN X4.here hx rfl (hb hby d15_71) rfl rfl k) ?_
  obtain ⟨T5, X5, e5, st5⟩ := getF X4 hx hZ hown (host := "") (Or.inl (hw _ (mI 15 rfl))) Via.refl e4 F_keys_q (g := (mkF m 72 #[.val (.ref q), .val (.int (0 : Int32)), .val (.int (fG 0)), .val (.int (1 : Int32))] [(.ref q), (.double (fK ((fG 0)).toNatClampNeg))])) rfl rfl (hb hby d15_72)
  refine Go.step st5 ?_
  show Go _ _ _ _ _ _ _ T5 (mkF m 75 #[.val (.ref q), .val (.int (0 : Int32)), .val (.int (fG 0)), .val (.int (1 : Int32))] [(.ref xw), (.double (fK ((fG 0)).toNatClampNeg))])
  refine Go.step (fun _ k => XS.aloadN X5.here hx rfl (hb hby d15_75) rfl rfl k) ?_
  obtain ⟨T6, X6, e6, st6⟩ := getF X5 hx hZ hown (host := "") (Or.inl (hw _ (mI 10 rfl))) Via.refl e5 F_heap_q (g := (mkF m 76 #[.val (.ref q), .val (.int (0 : Int32)), .val (.int (fG 0)), .val (.int (1 : Int32))] [(.ref q), (.ref xw), (.double (fK ((fG 0)).toNatClampNeg))])) rfl rfl (hb hby d15_76)
  refine Go.step st6 ?_
  show Go _ _ _ _ _ _ _ T6 (mkF m 79 #[.val (.ref q), .val (.int (0 : Int32)), .val (.int (fG 0)), .val (.int (1 : Int32))] [(.ref xu), (.ref xw), (.double (fK ((fG 0)).toNatClampNeg))])
  refine Go.step (fun _ k => XS.iloadN X6.here hx rfl (hb hby d15_79) rfl k) ?_
  refine Go.iaload X6 hx hZ e6 V_xu (j := (1 : Int32)) (v := (fG 1)) (by decide) rfl (hb hby d15_80) ?_
  show Go _ _ _ _ _ _ _ T6 (mkF m 81 #[.val (.ref q), .val (.int (0 : Int32)), .val (.int (fG 0)), .val (.int (1 : Int32))] [(.int (fG 1)), (.ref xw), (.double (fK ((fG 0)).toNatClampNeg))])
  refine Go.daload X6 hx hZ e6 V_xw (j := (fG 1)) (v := (fK ((fG 1)).toNatClampNeg)) (hQ.idx (i := 1) (by omega)) rfl (hb hby d15_81) ?_
  show Go _ _ _ _ _ _ _ T6 (mkF m 82 #[.val (.ref q), .val (.int (0 : Int32)), .val (.int (fG 0)), .val (.int (1 : Int32))] [(.double (fK ((fG 1)).toNatClampNeg)), (.double (fK ((fG 0)).toNatClampNeg))])
  refine Go.step (fun _ k => XS.dcmpS X6.here hx rfl (hb hby d15_82) rfl rfl k) ?_
  show Go _ _ _ _ _ _ _ T6 (mkF m 83 #[.val (.ref q), .val (.int (0 : Int32)), .val (.int (fG 0)), .val (.int (1 : Int32))] [(.int (cmpValue (FP.dcmp (fK ((fG 0)).toNatClampNeg) (fK ((fG 1)).toNatClampNeg)) .g))])
  by_cases hd83_7 : (FP.dcmp (fK ((fG 0)).toNatClampNeg) (fK ((fG 1)).toNatClampNeg) = some .lt ∨ FP.dcmp (fK ((fG 0)).toNatClampNeg) (fK ((fG 1)).toNatClampNeg) = some .eq)
  · refine Go.step (fun _ k => XS.ifNo X6.here hx rfl (hb hby d15_83) rfl (le_y hd83_7) k) ?_
    show Go _ _ _ _ _ _ _ T6 (mkF m 86 #[.val (.ref q), .val (.int (0 : Int32)), .val (.int (fG 0)), .val (.int (1 : Int32))] [])
    refine Go.step (fun _ k => XS.goto X6.here hx rfl (pc0 := 86) (pc' := 105) rfl (hb hby d15_86) (by decide) (by decide) k) ?_
    show Go _ _ _ _ _ _ _ T6 (mkF m 105 #[.val (.ref q), .val (.int (0 : Int32)), .val (.int (fG 0)), .val (.int (1 : Int32))] [])
    refine Go.step (fun _ k => XS.aloadN X6.here hx rfl (hb hby d15_105) rfl rfl k) ?_
    refine Go.step (fun _ k => XS.iloadN X6.here hx rfl (hb hby d15_106) rfl k) ?_
    refine Go.step (fun _ k => XS.iloadN X6.here hx rfl (hb hby d15_107) rfl k) ?_
    show Go _ _ _ _ _ _ _ T6 (mkF m 108 #[.val (.ref q), .val (.int (0 : Int32)), .val (.int (fG 0)), .val (.int (1 : Int32))] [(.int (0 : Int32)), (.int (fG 0)), (.ref q)])
    refine Go.callP X6 hx hZ (by rw [hml]; rfl) (y := (⟨"com/example/tributary/tributary/NodeQueue", "place", "(II)V"⟩ : MethodName)) (a := q) (argsL := [(.int (fG 0)), (.int (0 : Int32))]) (rest := []) hown (hw _ (mI 57 rfl)) (hw _ (mI 58 rfl)) (hw _ (mI 1 rfl)) (hw _ (mI 59 rfl)) (hw _ (mI 2 rfl)) (hw _ (mI 60 rfl)) (by decide) (rm12 l Z a0 hw q xu xv fG fP lL (fG 0) (0 : Int32) h0 n0 Z0 F_heap_q F_positions_q V_xu V_xv ne_q_xu ne_q_xv ne_xu_xv ge_xu ge_xv (by decide) (hQ.idx (i := 0) (by omega))) e6 E_q (hb hby d15_108) (lenOf pd_2 rfl) rfl rfl (W := 0) (Nat.le_of_eq rfl) (by decide) (by decide) (by decide) (by decide) ?_
    intro v8 T8 L8 X8 Q8
    obtain ⟨rfl, N8q, Kc8, Vu8, Vv8⟩ := Q8
    have N8 := Fr.app N0 N8q
    have E_q_8 := E_q.keep Kc8
    have F_size_q_8 := F_size_q.keep Kc8 (ninS ne_q_xu (ninS ne_q_xv nin0))
    have F_heap_q_8 := F_heap_q.keep Kc8 (ninS ne_q_xu (ninS ne_q_xv nin0))
    have F_positions_q_8 := F_positions_q.keep Kc8 (ninS ne_q_xu (ninS ne_q_xv nin0))
    have F_keys_q_8 := F_keys_q.keep Kc8 (ninS ne_q_xu (ninS ne_q_xv nin0))
    have V_xw_8 := V_xw.keep Kc8 (ninS (Ne.symm ne_xu_xw) (ninS (Ne.symm ne_xv_xw) nin0))
    have KK8 : Keep h0 T8.heap [xu, xv] := ((Keep.refl h0 [xu, xv]) : Keep h0 h0 [xu, xv]).trans Kc8 (allS (Or.inl (List.mem_of_getElem? (i := 0) rfl)) (allS (Or.inl (List.mem_of_getElem? (i := 1) rfl)) all0))
    have Vu8 : Iv Z T8.heap xu (16 : Int32) (updN fG 0 (fG 0)) := Vu8
    show Go _ _ _ _ _ _ _ T8 (mkF m 111 #[.val (.ref q), .val (.int (0 : Int32)), .val (.int (fG 0)), .val (.int (1 : Int32))] [])
    refine Go.retV X8 hx hlk hret (hb hby d15_111) (by decide) (by decide) ?_
    exact ⟨rfl, N8, KK8, _, _, Vu8, Vv8, hQ.same (i := 0) (by omega)⟩
  · refine Go.step (fun _ k => XS.ifYes X6.here hx rfl (pc0 := 83) (pc' := 89) rfl (hb hby d15_83) rfl (le_n hd83_7) (by decide) (by decide) k) ?_
    show Go _ _ _ _ _ _ _ T6 (mkF m 89 #[.val (.ref q), .val (.int (0 : Int32)), .val (.int (fG 0)), .val (.int (1 : Int32))] [])
    refine Go.step (fun _ k => XS.aloadN X6.here hx rfl (hb hby d15_89) rfl rfl k) ?_
    refine Go.step (fun _ k => XS.aloadN X6.here hx rfl (hb hby d15_90) rfl rfl k) ?_
    obtain ⟨T9, X9, e9, st9⟩ := getF X6 hx hZ hown (host := "") (Or.inl (hw _ (mI 10 rfl))) Via.refl e6 F_heap_q (g := (mkF m 91 #[.val (.ref q), .val (.int (0 : Int32)), .val (.int (fG 0)), .val (.int (1 : Int32))] [(.ref q), (.ref q)])) rfl rfl (hb hby d15_91)
    refine Go.step st9 ?_
    show Go _ _ _ _ _ _ _ T9 (mkF m 94 #[.val (.ref q), .val (.int (0 : Int32)), .val (.int (fG 0)), .val (.int (1 : Int32))] [(.ref xu), (.ref q)])
    refine Go.step (fun _ k => XS.iloadN X9.here hx rfl (hb hby d15_94) rfl k) ?_
    refine Go.iaload X9 hx hZ e9 V_xu (j := (1 : Int32)) (v := (fG 1)) (by decide) rfl (hb hby d15_95) ?_
    show Go _ _ _ _ _ _ _ T9 (mkF m 96 #[.val (.ref q), .val (.int (0 : Int32)), .val (.int (fG 0)), .val (.int (1 : Int32))] [(.int (fG 1)), (.ref q)])
    refine Go.step (fun _ k => XS.iloadN X9.here hx rfl (hb hby d15_96) rfl k) ?_
    refine Go.callP X9 hx hZ (by rw [hml]; rfl) (y := (⟨"com/example/tributary/tributary/NodeQueue", "place", "(II)V"⟩ : MethodName)) (a := q) (argsL := [(.int (fG 1)), (.int (0 : Int32))]) (rest := []) hown (hw _ (mI 57 rfl)) (hw _ (mI 58 rfl)) (hw _ (mI 1 rfl)) (hw _ (mI 59 rfl)) (hw _ (mI 2 rfl)) (hw _ (mI 60 rfl)) (by decide) (rm12 l Z a0 hw q xu xv fG fP lL (fG 1) (0 : Int32) h0 n0 Z0 F_heap_q F_positions_q V_xu V_xv ne_q_xu ne_q_xv ne_xu_xv ge_xu ge_xv (by decide) (hQ.idx (i := 1) (by omega))) e9 E_q (hb hby d15_97) (lenOf pd_2 rfl) rfl rfl (W := 0) (Nat.le_of_eq rfl) (by decide) (by decide) (by decide) (by decide) ?_
    intro v10 T10 L10 X10 Q10
    obtain ⟨rfl, N10q, Kc10, Vu10, Vv10⟩ := Q10
    have N10 := Fr.app N0 N10q
    have E_q_10 := E_q.keep Kc10
    have F_size_q_10 := F_size_q.keep Kc10 (ninS ne_q_xu (ninS ne_q_xv nin0))
    have F_heap_q_10 := F_heap_q.keep Kc10 (ninS ne_q_xu (ninS ne_q_xv nin0))
    have F_positions_q_10 := F_positions_q.keep Kc10 (ninS ne_q_xu (ninS ne_q_xv nin0))
    have F_keys_q_10 := F_keys_q.keep Kc10 (ninS ne_q_xu (ninS ne_q_xv nin0))
    have V_xw_10 := V_xw.keep Kc10 (ninS (Ne.symm ne_xu_xw) (ninS (Ne.symm ne_xv_xw) nin0))
    have KK10 : Keep h0 T10.heap [xu, xv] := ((Keep.refl h0 [xu, xv]) : Keep h0 h0 [xu, xv]).trans Kc10 (allS (Or.inl (List.mem_of_getElem? (i := 0) rfl)) (allS (Or.inl (List.mem_of_getElem? (i := 1) rfl)) all0))
    have Vu10 : Iv Z T10.heap xu (16 : Int32) (updN fG 0 (fG 1)) := Vu10
    show Go _ _ _ _ _ _ _ T10 (mkF m 100 #[.val (.ref q), .val (.int (0 : Int32)), .val (.int (fG 0)), .val (.int (1 : Int32))] [])
    refine Go.step (fun _ k => XS.iloadN X10.here hx rfl (hb hby d15_100) rfl k) ?_
    refine Go.step (fun _ k => XS.istoreN X10.here hx rfl (hb hby d15_101) rfl (l' := #[.val (.ref q), .val (.int (1 : Int32)), .val (.int (fG 0)), .val (.int (1 : Int32))]) rfl k) ?_
    show Go _ _ _ _ _ _ _ T10 (mkF m 102 #[.val (.ref q), .val (.int (1 : Int32)), .val (.int (fG 0)), .val (.int (1 : Int32))] [])
    refine Go.step (fun _ k => XS.goto X10.here hx rfl (pc0 := 102) (pc' := 7) rfl (hb hby d15_102) (by decide) (by decide) k) ?_
    show Go _ _ _ _ _ _ _ T10 (mkF m 7 #[.val (.ref q), .val (.int (1 : Int32)), .val (.int (fG 0)), .val (.int (1 : Int32))] [])
    refine Go.step (fun _ k => XS.iconst X10.here hx rfl (hb hby d15_7) k) ?_
    refine Go.step (fun _ k => XS.iloadN X10.here hx rfl (hb hby d15_8) rfl k) ?_
    refine Go.step (fun _ k => XS.imul X10.here hx rfl (hb hby d15_9) rfl k) ?_
    show Go _ _ _ _ _ _ _ T10 (mkF m 10 #[.val (.ref q), .val (.int (1 : Int32)), .val (.int (fG 0)), .val (.int (1 : Int32))] [(.int (2 : Int32))])
    refine Go.step (fun _ k => XS.iconst X10.here hx rfl (hb hby d15_10) k) ?_
    refine Go.step (fun _ k => XS.iadd X10.here hx rfl (hb hby d15_11) rfl k) ?_
    show Go _ _ _ _ _ _ _ T10 (mkF m 12 #[.val (.ref q), .val (.int (1 : Int32)), .val (.int (fG 0)), .val (.int (1 : Int32))] [(.int (3 : Int32))])
    refine Go.step (fun _ k => XS.istoreN X10.here hx rfl (hb hby d15_12) rfl (l' := #[.val (.ref q), .val (.int (1 : Int32)), .val (.int (fG 0)), .val (.int (3 : Int32))]) rfl k) ?_
    show Go _ _ _ _ _ _ _ T10 (mkF m 13 #[.val (.ref q), .val (.int (1 : Int32)), .val (.int (fG 0)), .val (.int (3 : Int32))] [])
    refine Go.step (fun _ k => XS.iloadN X10.here hx rfl (hb hby d15_13) rfl k) ?_
    refine Go.step (fun _ k => XS.aloadN X10.here hx rfl (hb hby d15_14) rfl rfl k) ?_
    obtain ⟨T11, X11, e11, st11⟩ := getF X10 hx hZ hown (host := "") (Or.inl (hw _ (mI 51 rfl))) Via.refl rfl F_size_q_10 (g := (mkF m 15 #[.val (.ref q), .val (.int (1 : Int32)), .val (.int (fG 0)), .val (.int (3 : Int32))] [(.ref q), (.int (3 : Int32))])) rfl rfl (hb hby d15_15)
    refine Go.step st11 ?_
    show Go _ _ _ _ _ _ _ T11 (mkF m 18 #[.val (.ref q), .val (.int (1 : Int32)), .val (.int (fG 0)), .val (.int (3 : Int32))] [(.int (2 : Int32)), (.int (3 : Int32))])
    refine Go.step (fun _ k => XS.icmpNo X11.here hx rfl (hb hby d15_18) rfl (flt (by decide : ¬ ((3 : Int32) < (2 : Int32)))).1 k) ?_
    show Go _ _ _ _ _ _ _ T11 (mkF m 21 #[.val (.ref q), .val (.int (1 : Int32)), .val (.int (fG 0)), .val (.int (3 : Int32))] [])
    refine Go.step (fun _ k => XS.goto X11.here hx rfl (pc0 := 21) (pc' := 105) rfl (hb hby d15_21) (by decide) (by decide) k) ?_
    show Go _ _ _ _ _ _ _ T11 (mkF m 105 #[.val (.ref q), .val (.int (1 : Int32)), .val (.int (fG 0)), .val (.int (3 : Int32))] [])
    refine Go.step (fun _ k => XS.aloadN X11.here hx rfl (hb hby d15_105) rfl rfl k) ?_
    refine Go.step (fun _ k => XS.iloadN X11.here hx rfl (hb hby d15_106) rfl k) ?_
    refine Go.step (fun _ k => XS.iloadN X11.here hx rfl (hb hby d15_107) rfl k) ?_
    show Go _ _ _ _ _ _ _ T11 (mkF m 108 #[.val (.ref q), .val (.int (1 : Int32)), .val (.int (fG 0)), .val (.int (3 : Int32))] [(.int (1 : Int32)), (.int (fG 0)), (.ref q)])
    refine Go.callP X11 hx hZ (by rw [hml]; rfl) (y := (⟨"com/example/tributary/tributary/NodeQueue", "place", "(II)V"⟩ : MethodName)) (a := q) (argsL := [(.int (fG 0)), (.int (1 : Int32))]) (rest := []) hown (hw _ (mI 57 rfl)) (hw _ (mI 58 rfl)) (hw _ (mI 1 rfl)) (hw _ (mI 59 rfl)) (hw _ (mI 2 rfl)) (hw _ (mI 60 rfl)) (by decide) (rm12 l Z a0 hw q xu xv (updN fG 0 (fG 1)) (updN fP ((fG 1)).toNatClampNeg (0 : Int32)) lL (fG 0) (1 : Int32) T10.heap n0 (Nat.le_trans Z0 (KK10 : Keep h0 T10.heap [xu, xv]).1) F_heap_q_10 F_positions_q_10 Vu10 Vv10 ne_q_xu ne_q_xv ne_xu_xv ge_xu ge_xv (by decide) (hQ.idx (i := 0) (by omega))) e11 E_q_10 (hb hby d15_108) (lenOf pd_2 rfl) rfl rfl (W := 0) (Nat.le_of_eq rfl) (by decide) (by decide) (by decide) (by decide) ?_
    intro v12 T12 L12 X12 Q12
    obtain ⟨rfl, N12q, Kc12, Vu12, Vv12⟩ := Q12
    have N12 := Fr.app N10 N12q
    have E_q_12 := E_q_10.keep Kc12
    have F_size_q_12 := F_size_q_10.keep Kc12 (ninS ne_q_xu (ninS ne_q_xv nin0))
    have F_heap_q_12 := F_heap_q_10.keep Kc12 (ninS ne_q_xu (ninS ne_q_xv nin0))
    have F_positions_q_12 := F_positions_q_10.keep Kc12 (ninS ne_q_xu (ninS ne_q_xv nin0))
    have F_keys_q_12 := F_keys_q_10.keep Kc12 (ninS ne_q_xu (ninS ne_q_xv nin0))
    have V_xw_12 := V_xw_10.keep Kc12 (ninS (Ne.symm ne_xu_xw) (ninS (Ne.symm ne_xv_xw) nin0))
    have KK12 : Keep h0 T12.heap [xu, xv] := (KK10 : Keep h0 T10.heap [xu, xv]).trans Kc12 (allS (Or.inl (List.mem_of_getElem? (i := 0) rfl)) (allS (Or.inl (List.mem_of_getElem? (i := 1) rfl)) all0))
    have Vu12 : Iv Z T12.heap xu (16 : Int32) (updN (updN fG 0 (fG 1)) 1 (fG 0)) := Vu12
    show Go _ _ _ _ _ _ _ T12 (mkF m 111 #[.val (.ref q), .val (.int (1 : Int32)), .val (.int (fG 0)), .val (.int (3 : Int32))] [])
    refine Go.retV X12 hx hlk hret (hb hby d15_111) (by decide) (by decide) ?_
    exact ⟨rfl, N12, KK12, _, _, Vu12, Vv12, hQ.swap (i := 1) (j := 0) (by omega) (by omega) (by omega) (by decide)⟩
theorem ef_rmD2 (m : MethodId) (q : Addr) : entryFrame m #[(.ref q), (.int (0 : Int32))] 4 = mkF m 0 #[.val (.ref q), .val (.int (0 : Int32)), .unset, .unset] [] := by first | (simp [entryFrame, mkF, argsToLocals, Value.category]; done) | rfl
theorem rmD2 (l : Launch) (Z : State) (a0 : Array Value) (hw : ∀ d ∈ tables_1, d.before a0 Z = true) (q xu xv xw : Addr) (fG fP : Nat → Int32) (fK : Nat → UInt64) (lL : Int32) (fS : Int32 → Prop) (h0 : Heap) (n0 : Nat) (Z0 : n0 ≤ h0.size) (E_q : Exa Z h0 q "com/example/tributary/tributary/NodeQueue") (F_size_q : Fld Z h0 q "com/example/tributary/tributary/NodeQueue" "size" "I" (.int (2 : Int32))) (F_heap_q : Fld Z h0 q "com/example/tributary/tributary/NodeQueue" "heap" "[I" (.ref xu)) (F_positions_q : Fld Z h0 q "com/example/tributary/tributary/NodeQueue" "positions" "[I" (.ref xv)) (F_keys_q : Fld Z h0 q "com/example/tributary/tributary/NodeQueue" "keys" "[D" (.ref xw)) (V_xu : Iv Z h0 xu (16 : Int32) fG) (V_xv : Iv Z h0 xv lL fP) (V_xw : Dv Z h0 xw lL fK) (ne_q_xu : q ≠ xu) (ne_q_xv : q ≠ xv) (ne_q_xw : q ≠ xw) (ne_xu_xv : xu ≠ xv) (ne_xu_xw : xu ≠ xw) (ne_xv_xw : xv ≠ xw) (ge_q : n0 ≤ q) (ge_xu : n0 ≤ xu) (ge_xv : n0 ≤ xv) (ge_xw : n0 ≤ xw) (hQ : QI 2 fG lL fP fS) :
    Con l Z (⟨"com/example/tributary/tributary/NodeQueue", "siftDown", "(I)V"⟩ : MethodName) prog_40_method_10_code 4 none ({ frames := 1, cells := 0, slots := 0, locals := 14 } : Room) #[(.ref q), (.int (0 : Int32))] h0 (fun r h L => r = none ∧ Fr n0 L ∧ Keep h0 h [xu, xv] ∧ ∃ (g' P' : Nat → Int32), Iv Z h xu (16 : Int32) g' ∧ Iv Z h xv lL P' ∧ QI 2 g' lL P' fS) :=
  con_of (plainFor_of_name pn_12) (fun p_ e_ s_ m_ b_ meth_ c_ T_ X_ hx hZ hby hml hown hnm hret hlk e0 => Go.cast (ef_rmD2 m_ q) (wD2 q xu xv xw fG fP fK lL fS X_ hx hZ hw hby hml hown hnm hret hlk e0 Z0 (Fr.nil n0) E_q F_size_q F_heap_q F_positions_q F_keys_q V_xu V_xv V_xw ne_q_xu ne_q_xv ne_q_xw ne_xu_xv ne_xu_xw ne_xv_xw ge_q ge_xu ge_xv ge_xw hQ))
theorem d1_0 : decode prog_40_method_1_code 0 = .ok (.aload_n 0, 1) := by decide +kernel
theorem d1_1 : decode prog_40_method_1_code 1 = .ok (.invokespecial 1, 3) := by decide +kernel
theorem d1_4 : decode prog_40_method_1_code 4 = .ok (.aload_n 0, 1) := by decide +kernel
theorem d1_5 : decode prog_40_method_1_code 5 = .ok (.bipush 16, 2) := by decide +kernel
theorem d1_7 : decode prog_40_method_1_code 7 = .ok (.newarray .int, 2) := by decide +kernel
theorem d1_9 : decode prog_40_method_1_code 9 = .ok (.putfield 7, 3) := by decide +kernel
theorem d1_12 : decode prog_40_method_1_code 12 = .ok (.aload_n 0, 1) := by decide +kernel
theorem d1_13 : decode prog_40_method_1_code 13 = .ok (.iconst 0, 1) := by decide +kernel
theorem d1_14 : decode prog_40_method_1_code 14 = .ok (.newarray .int, 2) := by decide +kernel
theorem d1_16 : decode prog_40_method_1_code 16 = .ok (.putfield 13, 3) := by decide +kernel
theorem d1_19 : decode prog_40_method_1_code 19 = .ok (.aload_n 0, 1) := by decide +kernel
theorem d1_20 : decode prog_40_method_1_code 20 = .ok (.iconst 0, 1) := by decide +kernel
theorem d1_21 : decode prog_40_method_1_code 21 = .ok (.newarray .double, 2) := by decide +kernel
theorem d1_23 : decode prog_40_method_1_code 23 = .ok (.putfield 16, 3) := by decide +kernel
theorem d1_26 : decode prog_40_method_1_code 26 = .ok (.return_, 1) := by decide +kernel
set_option maxRecDepth 65536 in
set_option maxHeartbeats 40000000 in
theorem w1 {p : Program} {l : Launch} {e : Env} {s : State} {m : MethodId} {args : Array Value} {below : List Frame} {meth : Method} {c_ : Code} {T0 : State} {locs : List Loc} {Z : State} {a0 : Array Value} {h0 : Heap} {n0 : Nat} (q : Addr)
    (X0 : Stand p l e ({ frames := 1, cells := 3, slots := 16, locals := 12 } : Room) s m args below meth c_ T0 locs 0 0) (hx : p.tables.exec = Jvm.exec) (hZ : Z.Warmed39 s.vm) (hw : ∀ d ∈ tables_1, d.before a0 Z = true) (hby : c_.code = prog_40_method_1_code) (hml : c_.maxLocals = 1) (hown : s.vm.findClass "com/example/tributary/tributary/NodeQueue" = some m.cls) (hnm : meth.name = "<init>") (hret : meth.sig.returnType = none) (hlk : meth.locks = false) (e0 : T0.heap = h0) (Z0 : n0 ≤ h0.size) (N0 : Fr n0 locs) (E_q : Exa Z h0 q "com/example/tributary/tributary/NodeQueue") (F_size_q : Fld Z h0 q "com/example/tributary/tributary/NodeQueue" "size" "I" (.int (0 : Int32))) (F_heap_q : Fld Z h0 q "com/example/tributary/tributary/NodeQueue" "heap" "[I" .null) (F_positions_q : Fld Z h0 q "com/example/tributary/tributary/NodeQueue" "positions" "[I" .null) (F_keys_q : Fld Z h0 q "com/example/tributary/tributary/NodeQueue" "keys" "[D" .null) (ge_q : n0 ≤ q) :
    Go p e below s ({ frames := 1, cells := 3, slots := 16, locals := 12 } : Room).cells ({ frames := 1, cells := 3, slots := 16, locals := 12 } : Room).slots (fun r h L => r = none ∧ Fr n0 L ∧ Exa Z h q "com/example/tributary/tributary/NodeQueue" ∧ QS Z h n0 q 0 0 (fun _ => False)) T0 (mkF m 0 #[.val (.ref q)] []) := by
  show Go _ _ _ _ _ _ _ T0 (mkF m 0 #[.val (.ref q)] [])
  refine Go.step (fun _ k => XS.aloadN X0.here hx rfl (hb hby d1_0) rfl rfl k) ?_
  obtain ⟨T1, X1, e1, st1⟩ := initO X0 hx hZ hown (hw _ (mI 6 rfl)) (hw _ (mI 7 rfl)) (hw _ (mI 8 rfl)) e0 (g := (mkF m 1 #[.val (.ref q)] [(.ref q)])) rfl (by rw [hml]; rfl) rfl (hb hby d1_1) (by decide) (W := 0) (by show 2 * 0 + _ ≤ _; exact Nat.le_of_eq rfl) (by decide)
  refine Go.step st1 ?_
  show Go _ _ _ _ _ _ _ T1 (mkF m 4 #[.val (.ref q)] [])
  refine Go.step (fun _ k => XS.aloadN X1.here hx rfl (hb hby d1_4) rfl rfl k) ?_
  refine Go.step (fun _ k => XS.bipush X1.here hx rfl (hb hby d1_5) k) ?_
  obtain ⟨T2, h2, k2, X2, e2, E2, A2, st2⟩ := newP X1 hx hZ (hw _ (mI 9 rfl)) e1 (g := (mkF m 7 #[.val (.ref q)] [(.int (16 : Int32)), (.ref q)])) rfl (hb hby d1_7) rfl (by decide) (cap := 16) (by decide) (by decide) (by decide) (by decide)
  obtain ⟨b2, g2⟩ : ∃ z, z = h0.size := ⟨_, rfl⟩
  rw [← g2] at A2 st2
  refine Go.step st2 ?_
  have K2 : Keep h0 h2 [q] := (Keep.refl h0 [q]).ext E2
  have sz_b2 : h0.size ≤ b2 := Nat.le_trans ((Keep.refl h0 [q]) : Keep h0 h0 [q]).1 (Nat.le_of_eq g2.symm)
  have ge_b2 : n0 ≤ b2 := Nat.le_trans Z0 sz_b2
  have ne_q_b2 : q ≠ b2 := Nat.ne_of_lt (Nat.lt_of_lt_of_le E_q.lt (Nat.le_of_eq g2.symm))
  have E_q_2 := E_q.ext E2
  have F_size_q_2 := F_size_q.ext E2
  have F_heap_q_2 := F_heap_q.ext E2
  have F_positions_q_2 := F_positions_q.ext E2
  have F_keys_q_2 := F_keys_q.ext E2
  have V_b2 : Iv Z h2 b2 (16 : Int32) (fun _ => (0 : Int32)) := Fv.new A2 (by decide)
  show Go _ _ _ _ _ _ _ T2 (mkF m 9 #[.val (.ref q)] [(.ref b2), (.ref q)])
  obtain ⟨T3, h3, X3, e3, W3, st3⟩ := putF X2 hx hZ hown (host := "") (Or.inl (hw _ (mI 10 rfl))) Via.refl e2 F_heap_q_2 E_q_2 (Or.inl (hw _ (mI 11 rfl))) (hw _ (mI 1 rfl)) (ty := (.array .int)) (by decide) rfl rfl (g := (mkF m 9 #[.val (.ref q)] [(.ref b2), (.ref q)])) rfl rfl (hb hby d1_9)
  refine Go.step st3 ?_
  have N3 := Fr.snoc X3 N0 ge_q
  have F_heap_q_3 := F_heap_q_2.same W3
  have E_q_3 := E_q_2.wr W3
  have F_size_q_3 := F_size_q_2.other W3 (Or.inr (slot_ne (Or.inl (hw _ (mI 52 rfl))) (Or.inl (hw _ (mI 11 rfl))) (by decide) (t := .int) (t' := (.array .int)) (by decide) (by decide)))
  have F_positions_q_3 := F_positions_q_2.other W3 (Or.inr (slot_ne (Or.inl (hw _ (mI 13 rfl))) (Or.inl (hw _ (mI 11 rfl))) (by decide) (t := (.array .int)) (t' := (.array .int)) (by decide) (by decide)))
  have F_keys_q_3 := F_keys_q_2.other W3 (Or.inr (slot_ne (Or.inl (hw _ (mI 16 rfl))) (Or.inl (hw _ (mI 11 rfl))) (by decide) (t := (.array .double)) (t' := (.array .int)) (by decide) (by decide)))
  have V_b2_3 := V_b2.other W3 (Ne.symm ne_q_b2)
  have K3 : Keep h0 h3 [q] := K2.wr W3 (Or.inl (List.mem_of_getElem? (i := 0) rfl))
  show Go _ _ _ _ _ _ _ T3 (mkF m 12 #[.val (.ref q)] [])
  refine Go.step (fun _ k => XS.aloadN X3.here hx rfl (hb hby d1_12) rfl rfl k) ?_
  refine Go.step (fun _ k => XS.iconst X3.here hx rfl (hb hby d1_13) k) ?_
  obtain ⟨T4, h4, k4, X4, e4, E4, A4, st4⟩ := newP X3 hx hZ (hw _ (mI 9 rfl)) e3 (g := (mkF m 14 #[.val (.ref q)] [(.int (0 : Int32)), (.ref q)])) rfl (hb hby d1_14) rfl (by decide) (cap := 0) (by decide) (by decide) (by decide) (by decide)
  obtain ⟨b4, g4⟩ : ∃ z, z = h3.size := ⟨_, rfl⟩
  rw [← g4] at A4 st4
  refine Go.step st4 ?_
  have K4 : Keep h0 h4 [q] := K3.ext E4
  have sz_b4 : h0.size ≤ b4 := Nat.le_trans (K3 : Keep h0 h3 [q]).1 (Nat.le_of_eq g4.symm)
  have ge_b4 : n0 ≤ b4 := Nat.le_trans Z0 sz_b4
  have ne_q_b4 : q ≠ b4 := Nat.ne_of_lt (Nat.lt_of_lt_of_le E_q_3.lt (Nat.le_of_eq g4.symm))
  have ne_b2_b4 : b2 ≠ b4 := Nat.ne_of_lt (Nat.lt_of_lt_of_le V_b2_3.lt (Nat.le_of_eq g4.symm))
  have E_q_4 := E_q_3.ext E4
  have F_size_q_4 := F_size_q_3.ext E4
  have F_heap_q_4 := F_heap_q_3.ext E4
  have F_positions_q_4 := F_positions_q_3.ext E4
  have F_keys_q_4 := F_keys_q_3.ext E4
  have V_b2_4 := V_b2_3.ext E4
  have V_b4 : Iv Z h4 b4 (0 : Int32) (fun _ => (0 : Int32)) := Fv.new A4 (by decide)
  show Go _ _ _ _ _ _ _ T4 (mkF m 16 #[.val (.ref q)] [(.ref b4), (.ref q)])
  obtain ⟨T5, h5, X5, e5, W5, st5⟩ := putF X4 hx hZ hown (host := "") (Or.inl (hw _ (mI 12 rfl))) Via.refl e4 F_positions_q_4 E_q_4 (Or.inl (hw _ (mI 13 rfl))) (hw _ (mI 1 rfl)) (ty := (.array .int)) (by decide) rfl rfl (g := (mkF m 16 #[.val (.ref q)] [(.ref b4), (.ref q)])) rfl rfl (hb hby d1_16)
  refine Go.step st5 ?_
  have N5 := Fr.snoc X5 N3 ge_q
  have F_positions_q_5 := F_positions_q_4.same W5
  have E_q_5 := E_q_4.wr W5
  have F_size_q_5 := F_size_q_4.other W5 (Or.inr (slot_ne (Or.inl (hw _ (mI 52 rfl))) (Or.inl (hw _ (mI 13 rfl))) (by decide) (t := .int) (t' := (.array .int)) (by decide) (by decide)))
  have F_heap_q_5 := F_heap_q_4.other W5 (Or.inr (slot_ne (Or.inl (hw _ (mI 11 rfl))) (Or.inl (hw _ (mI 13 rfl))) (by decide) (t := (.array .int)) (t' := (.array .int)) (by decide) (by decide)))
  have F_keys_q_5 := F_keys_q_4.other W5 (Or.inr (slot_ne (Or.inl (hw _ (mI 16 rfl))) (Or.inl (hw _ (mI 13 rfl))) (by decide) (t := (.array .double)) (t' := (.array .int)) (by decide) (by decide)))
  have V_b2_5 := V_b2_4.other W5 (Ne.symm ne_q_b2)
  have V_b4_5 := V_b4.other W5 (Ne.symm ne_q_b4)
  have K5 : Keep h0 h5 [q] := K4.wr W5 (Or.inl (List.mem_of_getElem? (i := 0) rfl))
  show Go _ _ _ _ _ _ _ T5 (mkF m 19 #[.val (.ref q)] [])
  refine Go.step (fun _ k => XS.aloadN X5.here hx rfl (hb hby d1_19) rfl rfl k) ?_
  refine Go.step (fun _ k => XS.iconst X5.here hx rfl (hb hby d1_20) k) ?_
  obtain ⟨T6, h6, k6, X6, e6, E6, A6, st6⟩ := newP X5 hx hZ (hw _ (mI 14 rfl)) e5 (g := (mkF m 21 #[.val (.ref q)] [(.int (0 : Int32)), (.ref q)])) rfl (hb hby d1_21) rfl (by decide) (cap := 0) (by decide) (by decide) (by decide) (by decide)
  obtain ⟨b6, g6⟩ : ∃ z, z = h5.size := ⟨_, rfl⟩
  rw [← g6] at A6 st6
  refine Go.step st6 ?_
  have K6 : Keep h0 h6 [q] := K5.ext E6
  have sz_b6 : h0.size ≤ b6 := Nat.le_trans (K5 : Keep h0 h5 [q]).1 (Nat.le_of_eq g6.symm)
  have ge_b6 : n0 ≤ b6 := Nat.le_trans Z0 sz_b6
  have ne_q_b6 : q ≠ b6 := Nat.ne_of_lt (Nat.lt_of_lt_of_le E_q_5.lt (Nat.le_of_eq g6.symm))
  have ne_b2_b6 : b2 ≠ b6 := Nat.ne_of_lt (Nat.lt_of_lt_of_le V_b2_5.lt (Nat.le_of_eq g6.symm))
  have ne_b4_b6 : b4 ≠ b6 := Nat.ne_of_lt (Nat.lt_of_lt_of_le V_b4_5.lt (Nat.le_of_eq g6.symm))
  have E_q_6 := E_q_5.ext E6
  have F_size_q_6 := F_size_q_5.ext E6
  have F_heap_q_6 := F_heap_q_5.ext E6
  have F_positions_q_6 := F_positions_q_5.ext E6
  have F_keys_q_6 := F_keys_q_5.ext E6
  have V_b2_6 := V_b2_5.ext E6
  have V_b4_6 := V_b4_5.ext E6
  have V_b6 : Dv Z h6 b6 (0 : Int32) (fun _ => (0 : UInt64)) := Fv.new A6 (by decide)
  show Go _ _ _ _ _ _ _ T6 (mkF m 23 #[.val (.ref q)] [(.ref b6), (.ref q)])
  obtain ⟨T7, h7, X7, e7, W7, st7⟩ := putF X6 hx hZ hown (host := "") (Or.inl (hw _ (mI 15 rfl))) Via.refl e6 F_keys_q_6 E_q_6 (Or.inl (hw _ (mI 16 rfl))) (hw _ (mI 1 rfl)) (ty := (.array .double)) (by decide) rfl rfl (g := (mkF m 23 #[.val (.ref q)] [(.ref b6), (.ref q)])) rfl rfl (hb hby d1_23)
  refine Go.step st7 ?_
  have N7 := Fr.snoc X7 N5 ge_q
  have F_keys_q_7 := F_keys_q_6.same W7
  have E_q_7 := E_q_6.wr W7
  have F_size_q_7 := F_size_q_6.other W7 (Or.inr (slot_ne (Or.inl (hw _ (mI 52 rfl))) (Or.inl (hw _ (mI 16 rfl))) (by decide) (t := .int) (t' := (.array .double)) (by decide) (by decide)))
  have F_heap_q_7 := F_heap_q_6.other W7 (Or.inr (slot_ne (Or.inl (hw _ (mI 11 rfl))) (Or.inl (hw _ (mI 16 rfl))) (by decide) (t := (.array .int)) (t' := (.array .double)) (by decide) (by decide)))
  have F_positions_q_7 := F_positions_q_6.other W7 (Or.inr (slot_ne (Or.inl (hw _ (mI 13 rfl))) (Or.inl (hw _ (mI 16 rfl))) (by decide) (t := (.array .int)) (t' := (.array .double)) (by decide) (by decide)))
  have V_b2_7 := V_b2_6.other W7 (Ne.symm ne_q_b2)
  have V_b4_7 := V_b4_6.other W7 (Ne.symm ne_q_b4)
  have V_b6_7 := V_b6.other W7 (Ne.symm ne_q_b6)
  have K7 : Keep h0 h7 [q] := K6.wr W7 (Or.inl (List.mem_of_getElem? (i := 0) rfl))
  show Go _ _ _ _ _ _ _ T7 (mkF m 26 #[.val (.ref q)] [])
  refine Go.retV X7 hx hlk hret (hb hby d1_26) (by decide) (by decide) ?_
  try rw [e7]
  exact ⟨rfl, N7, E_q_7, b2, b4, b6, _, _, _, (0 : Int32), ⟨E_q_7, F_size_q_7, F_heap_q_7, F_positions_q_7, F_keys_q_7, V_b2_7, V_b4_7, V_b6_7⟩, ⟨ne_q_b2, ne_q_b4, ne_q_b6, ne_b2_b4, ne_b2_b6, ne_b4_b6, ge_q, ge_b2, ge_b4, ge_b6⟩, by decide, by decide, QI.nil _ _⟩
theorem ef_rm1 (m : MethodId) (q : Addr) : entryFrame m #[(.ref q)] 1 = mkF m 0 #[.val (.ref q)] [] := by first | (simp [entryFrame, mkF, argsToLocals, Value.category]; done) | rfl
theorem rm1 (l : Launch) (Z : State) (a0 : Array Value) (hw : ∀ d ∈ tables_1, d.before a0 Z = true) (q : Addr) (h0 : Heap) (n0 : Nat) (Z0 : n0 ≤ h0.size) (E_q : Exa Z h0 q "com/example/tributary/tributary/NodeQueue") (F_size_q : Fld Z h0 q "com/example/tributary/tributary/NodeQueue" "size" "I" (.int (0 : Int32))) (F_heap_q : Fld Z h0 q "com/example/tributary/tributary/NodeQueue" "heap" "[I" .null) (F_positions_q : Fld Z h0 q "com/example/tributary/tributary/NodeQueue" "positions" "[I" .null) (F_keys_q : Fld Z h0 q "com/example/tributary/tributary/NodeQueue" "keys" "[D" .null) (ge_q : n0 ≤ q) :
    Con l Z (⟨"com/example/tributary/tributary/NodeQueue", "<init>", "()V"⟩ : MethodName) prog_40_method_1_code 1 none ({ frames := 1, cells := 3, slots := 16, locals := 12 } : Room) #[(.ref q)] h0 (fun r h L => r = none ∧ Fr n0 L ∧ Exa Z h q "com/example/tributary/tributary/NodeQueue" ∧ QS Z h n0 q 0 0 (fun _ => False)) :=
  con_of (plainFor_of_name pn_12) (fun p_ e_ s_ m_ b_ meth_ c_ T_ X_ hx hZ hby hml hown hnm hret hlk e0 => Go.cast (ef_rm1 m_ q) (w1 q X_ hx hZ hw hby hml hown hnm hret hlk e0 Z0 (Fr.nil n0) E_q F_size_q F_heap_q F_positions_q F_keys_q ge_q))
theorem d4_69 : decode prog_40_method_5_code 69 = .ok (.aload_n 0, 1) := by decide +kernel
theorem d4_70 : decode prog_40_method_5_code 70 = .ok (.getfield 13, 3) := by decide +kernel
theorem d4_73 : decode prog_40_method_5_code 73 = .ok (.iload_n 1, 1) := by decide +kernel
theorem d4_74 : decode prog_40_method_5_code 74 = .ok (.iaload, 1) := by decide +kernel
theorem d4_75 : decode prog_40_method_5_code 75 = .ok (.iconst (-1), 1) := by decide +kernel
theorem d4_76 : decode prog_40_method_5_code 76 = .ok (.if_icmp .eq 33, 3) := by decide +kernel
theorem d4_109 : decode prog_40_method_5_code 109 = .ok (.aload_n 0, 1) := by decide +kernel
theorem d4_110 : decode prog_40_method_5_code 110 = .ok (.getfield 20, 3) := by decide +kernel
theorem d4_113 : decode prog_40_method_5_code 113 = .ok (.aload_n 0, 1) := by decide +kernel
theorem d4_114 : decode prog_40_method_5_code 114 = .ok (.getfield 7, 3) := by decide +kernel
theorem d4_117 : decode prog_40_method_5_code 117 = .ok (.arraylength, 1) := by decide +kernel
theorem d4_118 : decode prog_40_method_5_code 118 = .ok (.if_icmp .ne 21, 3) := by decide +kernel
theorem d4_139 : decode prog_40_method_5_code 139 = .ok (.aload_n 0, 1) := by decide +kernel
theorem d4_140 : decode prog_40_method_5_code 140 = .ok (.getfield 16, 3) := by decide +kernel
theorem d4_143 : decode prog_40_method_5_code 143 = .ok (.iload_n 1, 1) := by decide +kernel
theorem d4_144 : decode prog_40_method_5_code 144 = .ok (.dload_n 2, 1) := by decide +kernel
theorem d4_145 : decode prog_40_method_5_code 145 = .ok (.dastore, 1) := by decide +kernel
theorem d4_146 : decode prog_40_method_5_code 146 = .ok (.aload_n 0, 1) := by decide +kernel
theorem d4_147 : decode prog_40_method_5_code 147 = .ok (.getfield 7, 3) := by decide +kernel
theorem d4_150 : decode prog_40_method_5_code 150 = .ok (.aload_n 0, 1) := by decide +kernel
theorem d4_151 : decode prog_40_method_5_code 151 = .ok (.getfield 20, 3) := by decide +kernel
theorem d4_154 : decode prog_40_method_5_code 154 = .ok (.iload_n 1, 1) := by decide +kernel
theorem d4_155 : decode prog_40_method_5_code 155 = .ok (.iastore, 1) := by decide +kernel
theorem d4_156 : decode prog_40_method_5_code 156 = .ok (.aload_n 0, 1) := by decide +kernel
theorem d4_157 : decode prog_40_method_5_code 157 = .ok (.getfield 13, 3) := by decide +kernel
theorem d4_160 : decode prog_40_method_5_code 160 = .ok (.iload_n 1, 1) := by decide +kernel
theorem d4_161 : decode prog_40_method_5_code 161 = .ok (.aload_n 0, 1) := by decide +kernel
theorem d4_162 : decode prog_40_method_5_code 162 = .ok (.getfield 20, 3) := by decide +kernel
theorem d4_165 : decode prog_40_method_5_code 165 = .ok (.iastore, 1) := by decide +kernel
theorem d4_166 : decode prog_40_method_5_code 166 = .ok (.aload_n 0, 1) := by decide +kernel
theorem d4_167 : decode prog_40_method_5_code 167 = .ok (.dup, 1) := by decide +kernel
theorem d4_168 : decode prog_40_method_5_code 168 = .ok (.getfield 20, 3) := by decide +kernel
theorem d4_171 : decode prog_40_method_5_code 171 = .ok (.iconst 1, 1) := by decide +kernel
theorem d4_172 : decode prog_40_method_5_code 172 = .ok (.iadd, 1) := by decide +kernel
theorem d4_173 : decode prog_40_method_5_code 173 = .ok (.putfield 20, 3) := by decide +kernel
theorem d4_176 : decode prog_40_method_5_code 176 = .ok (.aload_n 0, 1) := by decide +kernel
theorem d4_177 : decode prog_40_method_5_code 177 = .ok (.aload_n 0, 1) := by decide +kernel
theorem d4_178 : decode prog_40_method_5_code 178 = .ok (.getfield 20, 3) := by decide +kernel
theorem d4_181 : decode prog_40_method_5_code 181 = .ok (.iconst 1, 1) := by decide +kernel
theorem d4_182 : decode prog_40_method_5_code 182 = .ok (.isub, 1) := by decide +kernel
theorem d4_183 : decode prog_40_method_5_code 183 = .ok (.invokevirtual 43, 3) := by decide +kernel
theorem pd_3 : parseMethodDescriptor "(I)V" = some ⟨[.int], none⟩ := by decide +kernel
theorem d4_186 : decode prog_40_method_5_code 186 = .ok (.iconst 1, 1) := by decide +kernel
theorem d4_187 : decode prog_40_method_5_code 187 = .ok (.ireturn, 1) := by decide +kernel
theorem d4_79 : decode prog_40_method_5_code 79 = .ok (.dload_n 2, 1) := by decide +kernel
theorem d4_80 : decode prog_40_method_5_code 80 = .ok (.aload_n 0, 1) := by decide +kernel
theorem d4_81 : decode prog_40_method_5_code 81 = .ok (.getfield 16, 3) := by decide +kernel
theorem d4_84 : decode prog_40_method_5_code 84 = .ok (.iload_n 1, 1) := by decide +kernel
theorem d4_85 : decode prog_40_method_5_code 85 = .ok (.daload, 1) := by decide +kernel
theorem d4_86 : decode prog_40_method_5_code 86 = .ok (.dcmp .g, 1) := by decide +kernel
theorem d4_87 : decode prog_40_method_5_code 87 = .ok (.ifCond .ge 20, 3) := by decide +kernel
theorem d4_90 : decode prog_40_method_5_code 90 = .ok (.aload_n 0, 1) := by decide +kernel
theorem d4_91 : decode prog_40_method_5_code 91 = .ok (.getfield 16, 3) := by decide +kernel
theorem d4_94 : decode prog_40_method_5_code 94 = .ok (.iload_n 1, 1) := by decide +kernel
theorem d4_95 : decode prog_40_method_5_code 95 = .ok (.dload_n 2, 1) := by decide +kernel
theorem d4_96 : decode prog_40_method_5_code 96 = .ok (.dastore, 1) := by decide +kernel
theorem d4_97 : decode prog_40_method_5_code 97 = .ok (.aload_n 0, 1) := by decide +kernel
theorem d4_98 : decode prog_40_method_5_code 98 = .ok (.aload_n 0, 1) := by decide +kernel
theorem d4_99 : decode prog_40_method_5_code 99 = .ok (.getfield 13, 3) := by decide +kernel
theorem d4_102 : decode prog_40_method_5_code 102 = .ok (.iload_n 1, 1) := by decide +kernel
theorem d4_103 : decode prog_40_method_5_code 103 = .ok (.iaload, 1) := by decide +kernel
theorem d4_104 : decode prog_40_method_5_code 104 = .ok (.invokevirtual 43, 3) := by decide +kernel
theorem d4_107 : decode prog_40_method_5_code 107 = .ok (.iconst 0, 1) := by decide +kernel
theorem d4_108 : decode prog_40_method_5_code 108 = .ok (.ireturn, 1) := by decide +kernel
set_option maxRecDepth 65536 in
set_option maxHeartbeats 40000000 in
theorem w4b {p : Program} {l : Launch} {e : Env} {s : State} {m : MethodId} {args : Array Value} {below : List Frame} {meth : Method} {c_ : Code} {T0 : State} {locs : List Loc} {Z : State} {a0 : Array Value} {h0 : Heap} {n0 : Nat} (q xu xv xw : Addr) (fG fP : Nat → Int32) (fK : Nat → UInt64) (lL : Int32) (n : Nat) (B' : Int) (fS : Int32 → Prop) (x : Int32) (ky : UInt64) (s4 s5 : Slot)
    (X0 : Stand p l e ({ frames := 2, cells := 2, slots := 128, locals := 33 } : Room) s m args below meth c_ T0 locs 2 128) (hx : p.tables.exec = Jvm.exec) (hZ : Z.Warmed39 s.vm) (hw : ∀ d ∈ tables_1, d.before a0 Z = true) (hby : c_.code = prog_40_method_5_code) (hml : c_.maxLocals = 6) (hown : s.vm.findClass "com/example/tributary/tributary/NodeQueue" = some m.cls) (hnm : meth.name = "offer") (hret : meth.sig.returnType = some .boolean) (hlk : meth.locks = false) (e0 : T0.heap = h0) (Z0 : n0 ≤ h0.size) (N0 : Fr n0 locs) (E_q : Exa Z h0 q "com/example/tributary/tributary/NodeQueue") (F_size_q : Fld Z h0 q "com/example/tributary/tributary/NodeQueue" "size" "I" (.int (Int32.ofNat n))) (F_heap_q : Fld Z h0 q "com/example/tributary/tributary/NodeQueue" "heap" "[I" (.ref xu)) (F_positions_q : Fld Z h0 q "com/example/tributary/tributary/NodeQueue" "positions" "[I" (.ref xv)) (F_keys_q : Fld Z h0 q "com/example/tributary/tributary/NodeQueue" "keys" "[D" (.ref xw)) (V_xu : Iv Z h0 xu (16 : Int32) fG) (V_xv : Iv Z h0 xv lL fP) (V_xw : Dv Z h0 xw lL fK) (ne_q_xu : q ≠ xu) (ne_q_xv : q ≠ xv) (ne_q_xw : q ≠ xw) (ne_xu_xv : xu ≠ xv) (ne_xu_xw : xu ≠ xw) (ne_xv_xw : xv ≠ xw) (ge_q : n0 ≤ q) (ge_xu : n0 ≤ xu) (ge_xv : n0 ≤ xv) (ge_xw : n0 ≤ xw) (hl0 : ¬ lL < (0 : Int32)) (hlB : lL.toInt ≤ B') (hQ : QI n fG lL fP fS) (hn : n ≤ 2) (hx' : ¬ x < (0 : Int32) ∧ x < lL) :
    Go p e below s ({ frames := 2, cells := 2, slots := 128, locals := 33 } : Room).cells ({ frames := 2, cells := 2, slots := 128, locals := 33 } : Room).slots (fun r h L => (∃ b : Int32, r = some (.int b)) ∧ Fr n0 L ∧ Exa Z h q "com/example/tributary/tributary/NodeQueue" ∧ ∃ n', (1 ≤ n' ∧ n' ≤ n + 1) ∧ QS Z h n0 q n' B' (fun y => fS y ∨ y = x)) T0 (mkF m 69 #[.val (.ref q), .val (.int x), .val (.double ky), .second, s4, s5] []) := by
  show Go _ _ _ _ _ _ _ T0 (mkF m 69 #[.val (.ref q), .val (.int x), .val (.double ky), .second, s4, s5] [])
  refine Go.step (fun _ k => XS.aloadN X0.here hx rfl (hb hby d4_69) rfl rfl k) ?_
  obtain ⟨T1, X1, e1, st1⟩ := getF X0 hx hZ hown (host := "") (Or.inl (hw _ (mI 12 rfl))) Via.refl e0 F_positions_q (g := (mkF m 70 #[.val (.ref q), .val (.int x), .val (.double ky), .second, s4, s5] [(.ref q)])) rfl rfl (hb hby d4_70)
  refine Go.step st1 ?_
  show Go _ _ _ _ _ _ _ T1 (mkF m 73 #[.val (.ref q), .val (.int x), .val (.double ky), .second, s4, s5] [(.ref xv)])
  refine Go.step (fun _ k => XS.iloadN X1.here hx rfl (hb hby d4_73) rfl k) ?_
  refine Go.iaload X1 hx hZ e1 V_xv (j := x) (v := (fP (x).toNatClampNeg)) hx' rfl (hb hby d4_74) ?_
  show Go _ _ _ _ _ _ _ T1 (mkF m 75 #[.val (.ref q), .val (.int x), .val (.double ky), .second, s4, s5] [(.int (fP (x).toNatClampNeg))])
  refine Go.step (fun _ k => XS.iconst X1.here hx rfl (hb hby d4_75) k) ?_
  by_cases hc76_2 : (fP (x).toNatClampNeg) = (-1 : Int32)
  · refine Go.step (fun _ k => XS.icmpYes X1.here hx rfl (pc0 := 76) (pc' := 109) rfl (hb hby d4_76) rfl (teq hc76_2).1 (by decide) (by decide) k) ?_
    show Go _ _ _ _ _ _ _ T1 (mkF m 109 #[.val (.ref q), .val (.int x), .val (.double ky), .second, s4, s5] [])
    refine Go.step (fun _ k => XS.aloadN X1.here hx rfl (hb hby d4_109) rfl rfl k) ?_
    obtain ⟨T3, X3, e3, st3⟩ := getF X1 hx hZ hown (host := "") (Or.inl (hw _ (mI 51 rfl))) Via.refl e1 F_size_q (g := (mkF m 110 #[.val (.ref q), .val (.int x), .val (.double ky), .second, s4, s5] [(.ref q)])) rfl rfl (hb hby d4_110)
    refine Go.step st3 ?_
    show Go _ _ _ _ _ _ _ T3 (mkF m 113 #[.val (.ref q), .val (.int x), .val (.double ky), .second, s4, s5] [(.int (Int32.ofNat n))])
    refine Go.step (fun _ k => XS.aloadN X3.here hx rfl (hb hby d4_113) rfl rfl k) ?_
    obtain ⟨T4, X4, e4, st4⟩ := getF X3 hx hZ hown (host := "") (Or.inl (hw _ (mI 10 rfl))) Via.refl e3 F_heap_q (g := (mkF m 114 #[.val (.ref q), .val (.int x), .val (.double ky), .second, s4, s5] [(.ref q), (.int (Int32.ofNat n))])) rfl rfl (hb hby d4_114)
    refine Go.step st4 ?_
    show Go _ _ _ _ _ _ _ T4 (mkF m 117 #[.val (.ref q), .val (.int x), .val (.double ky), .second, s4, s5] [(.ref xu), (.int (Int32.ofNat n))])
    refine Go.alen X4 hx hZ e4 V_xu (hb hby d4_117) ?_
    show Go _ _ _ _ _ _ _ T4 (mkF m 118 #[.val (.ref q), .val (.int x), .val (.double ky), .second, s4, s5] [(.int (16 : Int32)), (.int (Int32.ofNat n))])
    refine Go.step (fun _ k => XS.icmpYes X4.here hx rfl (pc0 := 118) (pc' := 139) rfl (hb hby d4_118) rfl (feq (own_n16 hn)).2 (by decide) (by decide) k) ?_
    show Go _ _ _ _ _ _ _ T4 (mkF m 139 #[.val (.ref q), .val (.int x), .val (.double ky), .second, s4, s5] [])
    refine Go.step (fun _ k => XS.aloadN X4.here hx rfl (hb hby d4_139) rfl rfl k) ?_
    obtain ⟨T5, X5, e5, st5⟩ := getF X4 hx hZ hown (host := "") (Or.inl (hw _ (mI 15 rfl))) Via.refl e4 F_keys_q (g := (mkF m 140 #[.val (.ref q), .val (.int x), .val (.double ky), .second, s4, s5] [(.ref q)])) rfl rfl (hb hby d4_140)
    refine Go.step st5 ?_
    show Go _ _ _ _ _ _ _ T5 (mkF m 143 #[.val (.ref q), .val (.int x), .val (.double ky), .second, s4, s5] [(.ref xw)])
    refine Go.step (fun _ k => XS.iloadN X5.here hx rfl (hb hby d4_143) rfl k) ?_
    refine Go.step (fun _ k => XS.dloadN X5.here hx rfl (hb hby d4_144) rfl k) ?_
    refine Go.dastore X5 hx hZ e5 V_xw (j := x) (x := ky) hx' (hb hby d4_145) ?_
    intro T6 h6 X6 e6 W6 Vn6
    have V_xw_6 : Dv Z h6 xw lL (updN fK (x).toNatClampNeg ky) := Vn6
    have N6 := Fr.snoc X6 N0 ge_xw
    have E_q_6 := E_q.wr W6
    have F_size_q_6 := F_size_q.other W6 (Or.inl ne_q_xw)
    have F_heap_q_6 := F_heap_q.other W6 (Or.inl ne_q_xw)
    have F_positions_q_6 := F_positions_q.other W6 (Or.inl ne_q_xw)
    have F_keys_q_6 := F_keys_q.other W6 (Or.inl ne_q_xw)
    have V_xu_6 := V_xu.other W6 ne_xu_xw
    have V_xv_6 := V_xv.other W6 ne_xv_xw
    have K6 : Keep h0 h6 [q, xu, xv, xw] := (Keep.refl h0 [q, xu, xv, xw]).wr W6 (Or.inl (List.mem_of_getElem? (i := 3) rfl))
    show Go _ _ _ _ _ _ _ T6 (mkF m 146 #[.val (.ref q), .val (.int x), .val (.double ky), .second, s4, s5] [])
    refine Go.step (fun _ k => XS.aloadN X6.here hx rfl (hb hby d4_146) rfl rfl k) ?_
    obtain ⟨T7, X7, e7, st7⟩ := getF X6 hx hZ hown (host := "") (Or.inl (hw _ (mI 10 rfl))) Via.refl e6 F_heap_q_6 (g := (mkF m 147 #[.val (.ref q), .val (.int x), .val (.double ky), .second, s4, s5] [(.ref q)])) rfl rfl (hb hby d4_147)
    refine Go.step st7 ?_
    show Go _ _ _ _ _ _ _ T7 (mkF m 150 #[.val (.ref q), .val (.int x), .val (.double ky), .second, s4, s5] [(.ref xu)])
    refine Go.step (fun _ k => XS.aloadN X7.here hx rfl (hb hby d4_150) rfl rfl k) ?_
    obtain ⟨T8, X8, e8, st8⟩ := getF X7 hx hZ hown (host := "") (Or.inl (hw _ (mI 51 rfl))) Via.refl e7 F_size_q_6 (g := (mkF m 151 #[.val (.ref q), .val (.int x), .val (.double ky), .second, s4, s5] [(.ref q), (.ref xu)])) rfl rfl (hb hby d4_151)
    refine Go.step st8 ?_
    show Go _ _ _ _ _ _ _ T8 (mkF m 154 #[.val (.ref q), .val (.int x), .val (.double ky), .second, s4, s5] [(.int (Int32.ofNat n)), (.ref xu)])
    refine Go.step (fun _ k => XS.iloadN X8.here hx rfl (hb hby d4_154) rfl k) ?_
    refine Go.iastore X8 hx hZ e8 V_xu_6 (j := (Int32.ofNat n)) (x := x) (own_b16 hn) (hb hby d4_155) ?_
    intro T9 h9 X9 e9 W9 Vn9
    have V_xu_9 : Iv Z h9 xu (16 : Int32) (updN fG ((Int32.ofNat n)).toNatClampNeg x) := Vn9
    have N9 := Fr.snoc X9 N6 ge_xu
    have E_q_9 := E_q_6.wr W9
    have F_size_q_9 := F_size_q_6.other W9 (Or.inl ne_q_xu)
    have F_heap_q_9 := F_heap_q_6.other W9 (Or.inl ne_q_xu)
    have F_positions_q_9 := F_positions_q_6.other W9 (Or.inl ne_q_xu)
    have F_keys_q_9 := F_keys_q_6.other W9 (Or.inl ne_q_xu)
    have V_xv_9 := V_xv_6.other W9 (Ne.symm ne_xu_xv)
    have V_xw_9 := V_xw_6.other W9 (Ne.symm ne_xu_xw)
    have K9 : Keep h0 h9 [q, xu, xv, xw] := K6.wr W9 (Or.inl (List.mem_of_getElem? (i := 1) rfl))
    show Go _ _ _ _ _ _ _ T9 (mkF m 156 #[.val (.ref q), .val (.int x), .val (.double ky), .second, s4, s5] [])
    refine Go.step (fun _ k => XS.aloadN X9.here hx rfl (hb hby d4_156) rfl rfl k) ?_
    obtain ⟨T10, X10, e10, st10⟩ := getF X9 hx hZ hown (host := "") (Or.inl (hw _ (mI 12 rfl))) Via.refl e9 F_positions_q_9 (g := (mkF m 157 #[.val (.ref q), .val (.int x), .val (.double ky), .second, s4, s5] [(.ref q)])) rfl rfl (hb hby d4_157)
    refine Go.step st10 ?_
    show Go _ _ _ _ _ _ _ T10 (mkF m 160 #[.val (.ref q), .val (.int x), .val (.double ky), .second, s4, s5] [(.ref xv)])
    refine Go.step (fun _ k => XS.iloadN X10.here hx rfl (hb hby d4_160) rfl k) ?_
    refine Go.step (fun _ k => XS.aloadN X10.here hx rfl (hb hby d4_161) rfl rfl k) ?_
    obtain ⟨T11, X11, e11, st11⟩ := getF X10 hx hZ hown (host := "") (Or.inl (hw _ (mI 51 rfl))) Via.refl e10 F_size_q_9 (g := (mkF m 162 #[.val (.ref q), .val (.int x), .val (.double ky), .second, s4, s5] [(.ref q), (.int x), (.ref xv)])) rfl rfl (hb hby d4_162)
    refine Go.step st11 ?_
    show Go _ _ _ _ _ _ _ T11 (mkF m 165 #[.val (.ref q), .val (.int x), .val (.double ky), .second, s4, s5] [(.int (Int32.ofNat n)), (.int x), (.ref xv)])
    refine Go.iastore X11 hx hZ e11 V_xv_9 (j := x) (x := (Int32.ofNat n)) hx' (hb hby d4_165) ?_
    intro T12 h12 X12 e12 W12 Vn12
    have V_xv_12 : Iv Z h12 xv lL (updN fP (x).toNatClampNeg (Int32.ofNat n)) := Vn12
    have N12 := Fr.snoc X12 N9 ge_xv
    have E_q_12 := E_q_9.wr W12
    have F_size_q_12 := F_size_q_9.other W12 (Or.inl ne_q_xv)
    have F_heap_q_12 := F_heap_q_9.other W12 (Or.inl ne_q_xv)
    have F_positions_q_12 := F_positions_q_9.other W12 (Or.inl ne_q_xv)
    have F_keys_q_12 := F_keys_q_9.other W12 (Or.inl ne_q_xv)
    have V_xu_12 := V_xu_9.other W12 ne_xu_xv
    have V_xw_12 := V_xw_9.other W12 (Ne.symm ne_xv_xw)
    have K12 : Keep h0 h12 [q, xu, xv, xw] := K9.wr W12 (Or.inl (List.mem_of_getElem? (i := 2) rfl))
    show Go _ _ _ _ _ _ _ T12 (mkF m 166 #[.val (.ref q), .val (.int x), .val (.double ky), .second, s4, s5] [])
    refine Go.step (fun _ k => XS.aloadN X12.here hx rfl (hb hby d4_166) rfl rfl k) ?_
    refine Go.step (fun _ k => XS.dup X12.here hx rfl (hb hby d4_167) rfl rfl k) ?_
    obtain ⟨T13, X13, e13, st13⟩ := getF X12 hx hZ hown (host := "") (Or.inl (hw _ (mI 51 rfl))) Via.refl e12 F_size_q_12 (g := (mkF m 168 #[.val (.ref q), .val (.int x), .val (.double ky), .second, s4, s5] [(.ref q), (.ref q)])) rfl rfl (hb hby d4_168)
    refine Go.step st13 ?_
    show Go _ _ _ _ _ _ _ T13 (mkF m 171 #[.val (.ref q), .val (.int x), .val (.double ky), .second, s4, s5] [(.int (Int32.ofNat n)), (.ref q)])
    refine Go.step (fun _ k => XS.iconst X13.here hx rfl (hb hby d4_171) k) ?_
    refine Go.step (fun _ k => XS.iadd X13.here hx rfl (hb hby d4_172) rfl k) ?_
    show Go _ _ _ _ _ _ _ T13 (mkF m 173 #[.val (.ref q), .val (.int x), .val (.double ky), .second, s4, s5] [(.int ((Int32.ofNat n) + (1 : Int32))), (.ref q)])
    obtain ⟨T14, h14, X14, e14, W14, st14⟩ := putF X13 hx hZ hown (host := "") (Or.inl (hw _ (mI 51 rfl))) Via.refl e13 F_size_q_12 E_q_12 (Or.inl (hw _ (mI 52 rfl))) (hw _ (mI 1 rfl)) (ty := .int) (by decide) rfl rfl (g := (mkF m 173 #[.val (.ref q), .val (.int x), .val (.double ky), .second, s4, s5] [(.int ((Int32.ofNat n) + (1 : Int32))), (.ref q)])) rfl rfl (hb hby d4_173)
    refine Go.step st14 ?_
    have N14 := Fr.snoc X14 N12 ge_q
    have F_size_q_14 := F_size_q_12.same W14
    have E_q_14 := E_q_12.wr W14
    have F_heap_q_14 := F_heap_q_12.other W14 (Or.inr (slot_ne (Or.inl (hw _ (mI 11 rfl))) (Or.inl (hw _ (mI 52 rfl))) (by decide) (t := (.array .int)) (t' := .int) (by decide) (by decide)))
    have F_positions_q_14 := F_positions_q_12.other W14 (Or.inr (slot_ne (Or.inl (hw _ (mI 13 rfl))) (Or.inl (hw _ (mI 52 rfl))) (by decide) (t := (.array .int)) (t' := .int) (by decide) (by decide)))
    have F_keys_q_14 := F_keys_q_12.other W14 (Or.inr (slot_ne (Or.inl (hw _ (mI 16 rfl))) (Or.inl (hw _ (mI 52 rfl))) (by decide) (t := (.array .double)) (t' := .int) (by decide) (by decide)))
    have V_xu_14 := V_xu_12.other W14 (Ne.symm ne_q_xu)
    have V_xv_14 := V_xv_12.other W14 (Ne.symm ne_q_xv)
    have V_xw_14 := V_xw_12.other W14 (Ne.symm ne_q_xw)
    have K14 : Keep h0 h14 [q, xu, xv, xw] := K12.wr W14 (Or.inl (List.mem_of_getElem? (i := 0) rfl))
    have V_xu_c : Iv Z h14 xu (16 : Int32) (updN fG n x) := by have q := V_xu_14; rw [own_nat (by omega)] at q; exact q
    have hQ2 := hQ.put (x := x) hx' (hQ.abs (by omega) hc76_2)
    show Go _ _ _ _ _ _ _ T14 (mkF m 176 #[.val (.ref q), .val (.int x), .val (.double ky), .second, s4, s5] [])
    refine Go.step (fun _ k => XS.aloadN X14.here hx rfl (hb hby d4_176) rfl rfl k) ?_
    refine Go.step (fun _ k => XS.aloadN X14.here hx rfl (hb hby d4_177) rfl rfl k) ?_
    obtain ⟨T15, X15, e15, st15⟩ := getF X14 hx hZ hown (host := "") (Or.inl (hw _ (mI 51 rfl))) Via.refl e14 F_size_q_14 (g := (mkF m 178 #[.val (.ref q), .val (.int x), .val (.double ky), .second, s4, s5] [(.ref q), (.ref q)])) rfl rfl (hb hby d4_178)
    refine Go.step st15 ?_
    show Go _ _ _ _ _ _ _ T15 (mkF m 181 #[.val (.ref q), .val (.int x), .val (.double ky), .second, s4, s5] [(.int ((Int32.ofNat n) + (1 : Int32))), (.ref q)])
    refine Go.step (fun _ k => XS.iconst X15.here hx rfl (hb hby d4_181) k) ?_
    refine Go.step (fun _ k => XS.isub X15.here hx rfl (hb hby d4_182) rfl k) ?_
    show Go _ _ _ _ _ _ _ T15 (mkF m 183 #[.val (.ref q), .val (.int x), .val (.double ky), .second, s4, s5] [(.int (((Int32.ofNat n) + (1 : Int32)) - (1 : Int32))), (.ref q)])
    refine Go.callP X15 hx hZ (by rw [hml]; rfl) (y := (⟨"com/example/tributary/tributary/NodeQueue", "siftUp", "(I)V"⟩ : MethodName)) (a := q) (argsL := [(.int (((Int32.ofNat n) + (1 : Int32)) - (1 : Int32)))]) (rest := []) hown (hw _ (mI 53 rfl)) (hw _ (mI 54 rfl)) (hw _ (mI 1 rfl)) (hw _ (mI 55 rfl)) (hw _ (mI 2 rfl)) (hw _ (mI 56 rfl)) (by decide) (rmUp l Z a0 hw q xu xv xw (updN fG n x) (updN fP (x).toNatClampNeg (Int32.ofNat n)) (updN fK (x).toNatClampNeg ky) lL (n + 1) (fun y => fS y ∨ y = x) ((Int32.ofNat n) + (1 : Int32)) (((Int32.ofNat n) + (1 : Int32)) - (1 : Int32)) n h14 n0 (Nat.le_trans Z0 (K14 : Keep h0 h14 [q, xu, xv, xw]).1) E_q_14 F_size_q_14 F_heap_q_14 F_positions_q_14 F_keys_q_14 V_xu_c V_xv_14 V_xw_14 ne_q_xu ne_q_xv ne_q_xw ne_xu_xv ne_xu_xw ne_xv_xw ge_q ge_xu ge_xv ge_xw hQ2 (Nat.lt_succ_self n) (by omega) (own_pre n)) e15 E_q_14 (hb hby d4_183) (lenOf pd_3 rfl) rfl rfl (W := 0) (Nat.le_of_eq rfl) (by decide) (by decide) (by decide) (by decide) ?_
    intro v16 T16 L16 X16 Q16
    obtain ⟨rfl, N16q, Kc16, g16x, P16x, Vu16, Vv16, hQ16⟩ := Q16
    have N16 := Fr.app N14 N16q
    have E_q_16 := E_q_14.keep Kc16
    have F_size_q_16 := F_size_q_14.keep Kc16 (ninS ne_q_xu (ninS ne_q_xv nin0))
    have F_heap_q_16 := F_heap_q_14.keep Kc16 (ninS ne_q_xu (ninS ne_q_xv nin0))
    have F_positions_q_16 := F_positions_q_14.keep Kc16 (ninS ne_q_xu (ninS ne_q_xv nin0))
    have F_keys_q_16 := F_keys_q_14.keep Kc16 (ninS ne_q_xu (ninS ne_q_xv nin0))
    have V_xw_16 := V_xw_14.keep Kc16 (ninS (Ne.symm ne_xu_xw) (ninS (Ne.symm ne_xv_xw) nin0))
    have KK16 : Keep h0 T16.heap [q, xu, xv, xw] := (K14 : Keep h0 h14 [q, xu, xv, xw]).trans Kc16 (allS (Or.inl (List.mem_of_getElem? (i := 1) rfl)) (allS (Or.inl (List.mem_of_getElem? (i := 2) rfl)) all0))
    show Go _ _ _ _ _ _ _ T16 (mkF m 186 #[.val (.ref q), .val (.int x), .val (.double ky), .second, s4, s5] [])
    refine Go.step (fun _ k => XS.iconst X16.here hx rfl (hb hby d4_186) k) ?_
    refine Go.retZ X16 hx hlk hret (by decide) (hb hby d4_187) (by decide) (by decide) ?_
    have hsz := F_size_q_16
    rw [own_suc] at hsz
    exact ⟨⟨_, rfl⟩, N16, E_q_16, n + 1, ⟨by omega, by omega⟩, xu, xv, xw, _, _, _, lL, ⟨E_q_16, hsz, F_heap_q_16, F_positions_q_16, F_keys_q_16, Vu16, Vv16, V_xw_16⟩, ⟨ne_q_xu, ne_q_xv, ne_q_xw, ne_xu_xv, ne_xu_xw, ne_xv_xw, ge_q, ge_xu, ge_xv, ge_xw⟩, hl0, hlB, hQ16⟩
  · refine Go.step (fun _ k => XS.icmpNo X1.here hx rfl (hb hby d4_76) rfl (feq hc76_2).1 k) ?_
    obtain ⟨jj, hjj, hpos, hsx⟩ := hQ.pos hx' hc76_2
    show Go _ _ _ _ _ _ _ T1 (mkF m 79 #[.val (.ref q), .val (.int x), .val (.double ky), .second, s4, s5] [])
    refine Go.step (fun _ k => XS.dloadN X1.here hx rfl (hb hby d4_79) rfl k) ?_
    refine Go.step (fun _ k => XS.aloadN X1.here hx rfl (hb hby d4_80) rfl rfl k) ?_
    obtain ⟨T17, X17, e17, st17⟩ := getF X1 hx hZ hown (host := "") (Or.inl (hw _ (mI 15 rfl))) Via.refl e1 F_keys_q (g := (mkF m 81 #[.val (.ref q), .val (.int x), .val (.double ky), .second, s4, s5] [(.ref q), (.double ky)])) rfl rfl (hb hby d4_81)
    refine Go.step st17 ?_
    show Go _ _ _ _ _ _ _ T17 (mkF m 84 #[.val (.ref q), .val (.int x), .val (.double ky), .second, s4, s5] [(.ref xw), (.double ky)])
    refine Go.step (fun _ k => XS.iloadN X17.here hx rfl (hb hby d4_84) rfl k) ?_
    refine Go.daload X17 hx hZ e17 V_xw (j := x) (v := (fK (x).toNatClampNeg)) hx' rfl (hb hby d4_85) ?_
    show Go _ _ _ _ _ _ _ T17 (mkF m 86 #[.val (.ref q), .val (.int x), .val (.double ky), .second, s4, s5] [(.double (fK (x).toNatClampNeg)), (.double ky)])
    refine Go.step (fun _ k => XS.dcmpS X17.here hx rfl (hb hby d4_86) rfl rfl k) ?_
    show Go _ _ _ _ _ _ _ T17 (mkF m 87 #[.val (.ref q), .val (.int x), .val (.double ky), .second, s4, s5] [(.int (cmpValue (FP.dcmp ky (fK (x).toNatClampNeg)) .g))])
    by_cases hd87_18 : FP.dcmp ky (fK (x).toNatClampNeg) = some .lt
    · refine Go.step (fun _ k => XS.ifNo X17.here hx rfl (hb hby d4_87) rfl (lt_y hd87_18) k) ?_
      show Go _ _ _ _ _ _ _ T17 (mkF m 90 #[.val (.ref q), .val (.int x), .val (.double ky), .second, s4, s5] [])
      refine Go.step (fun _ k => XS.aloadN X17.here hx rfl (hb hby d4_90) rfl rfl k) ?_
      obtain ⟨T19, X19, e19, st19⟩ := getF X17 hx hZ hown (host := "") (Or.inl (hw _ (mI 15 rfl))) Via.refl e17 F_keys_q (g := (mkF m 91 #[.val (.ref q), .val (.int x), .val (.double ky), .second, s4, s5] [(.ref q)])) rfl rfl (hb hby d4_91)
      refine Go.step st19 ?_
      show Go _ _ _ _ _ _ _ T19 (mkF m 94 #[.val (.ref q), .val (.int x), .val (.double ky), .second, s4, s5] [(.ref xw)])
      refine Go.step (fun _ k => XS.iloadN X19.here hx rfl (hb hby d4_94) rfl k) ?_
      refine Go.step (fun _ k => XS.dloadN X19.here hx rfl (hb hby d4_95) rfl k) ?_
      refine Go.dastore X19 hx hZ e19 V_xw (j := x) (x := ky) hx' (hb hby d4_96) ?_
      intro T20 h20 X20 e20 W20 Vn20
      have V_xw_20 : Dv Z h20 xw lL (updN fK (x).toNatClampNeg ky) := Vn20
      have N20 := Fr.snoc X20 N0 ge_xw
      have E_q_20 := E_q.wr W20
      have F_size_q_20 := F_size_q.other W20 (Or.inl ne_q_xw)
      have F_heap_q_20 := F_heap_q.other W20 (Or.inl ne_q_xw)
      have F_positions_q_20 := F_positions_q.other W20 (Or.inl ne_q_xw)
      have F_keys_q_20 := F_keys_q.other W20 (Or.inl ne_q_xw)
      have V_xu_20 := V_xu.other W20 ne_xu_xw
      have V_xv_20 := V_xv.other W20 ne_xv_xw
      have K20 : Keep h0 h20 [q, xu, xv, xw] := (Keep.refl h0 [q, xu, xv, xw]).wr W20 (Or.inl (List.mem_of_getElem? (i := 3) rfl))
      show Go _ _ _ _ _ _ _ T20 (mkF m 97 #[.val (.ref q), .val (.int x), .val (.double ky), .second, s4, s5] [])
      refine Go.step (fun _ k => XS.aloadN X20.here hx rfl (hb hby d4_97) rfl rfl k) ?_
      refine Go.step (fun _ k => XS.aloadN X20.here hx rfl (hb hby d4_98) rfl rfl k) ?_
      obtain ⟨T21, X21, e21, st21⟩ := getF X20 hx hZ hown (host := "") (Or.inl (hw _ (mI 12 rfl))) Via.refl e20 F_positions_q_20 (g := (mkF m 99 #[.val (.ref q), .val (.int x), .val (.double ky), .second, s4, s5] [(.ref q), (.ref q)])) rfl rfl (hb hby d4_99)
      refine Go.step st21 ?_
      show Go _ _ _ _ _ _ _ T21 (mkF m 102 #[.val (.ref q), .val (.int x), .val (.double ky), .second, s4, s5] [(.ref xv), (.ref q)])
      refine Go.step (fun _ k => XS.iloadN X21.here hx rfl (hb hby d4_102) rfl k) ?_
      refine Go.iaload X21 hx hZ e21 V_xv_20 (j := x) (v := (fP (x).toNatClampNeg)) hx' rfl (hb hby d4_103) ?_
      show Go _ _ _ _ _ _ _ T21 (mkF m 104 #[.val (.ref q), .val (.int x), .val (.double ky), .second, s4, s5] [(.int (fP (x).toNatClampNeg)), (.ref q)])
      refine Go.callP X21 hx hZ (by rw [hml]; rfl) (y := (⟨"com/example/tributary/tributary/NodeQueue", "siftUp", "(I)V"⟩ : MethodName)) (a := q) (argsL := [(.int (fP (x).toNatClampNeg))]) (rest := []) hown (hw _ (mI 53 rfl)) (hw _ (mI 54 rfl)) (hw _ (mI 1 rfl)) (hw _ (mI 55 rfl)) (hw _ (mI 2 rfl)) (hw _ (mI 56 rfl)) (by decide) (rmUp l Z a0 hw q xu xv xw fG fP (updN fK (x).toNatClampNeg ky) lL n fS (Int32.ofNat n) (fP (x).toNatClampNeg) jj h20 n0 (Nat.le_trans Z0 (K20 : Keep h0 h20 [q, xu, xv, xw]).1) E_q_20 F_size_q_20 F_heap_q_20 F_positions_q_20 F_keys_q_20 V_xu_20 V_xv_20 V_xw_20 ne_q_xu ne_q_xv ne_q_xw ne_xu_xv ne_xu_xw ne_xv_xw ge_q ge_xu ge_xv ge_xw hQ hjj (by omega) hpos) e21 E_q_20 (hb hby d4_104) (lenOf pd_3 rfl) rfl rfl (W := 0) (Nat.le_of_eq rfl) (by decide) (by decide) (by decide) (by decide) ?_
      intro v22 T22 L22 X22 Q22
      obtain ⟨rfl, N22q, Kc22, g22x, P22x, Vu22, Vv22, hQ22⟩ := Q22
      have N22 := Fr.app N20 N22q
      have E_q_22 := E_q_20.keep Kc22
      have F_size_q_22 := F_size_q_20.keep Kc22 (ninS ne_q_xu (ninS ne_q_xv nin0))
      have F_heap_q_22 := F_heap_q_20.keep Kc22 (ninS ne_q_xu (ninS ne_q_xv nin0))
      have F_positions_q_22 := F_positions_q_20.keep Kc22 (ninS ne_q_xu (ninS ne_q_xv nin0))
      have F_keys_q_22 := F_keys_q_20.keep Kc22 (ninS ne_q_xu (ninS ne_q_xv nin0))
      have V_xw_22 := V_xw_20.keep Kc22 (ninS (Ne.symm ne_xu_xw) (ninS (Ne.symm ne_xv_xw) nin0))
      have KK22 : Keep h0 T22.heap [q, xu, xv, xw] := (K20 : Keep h0 h20 [q, xu, xv, xw]).trans Kc22 (allS (Or.inl (List.mem_of_getElem? (i := 1) rfl)) (allS (Or.inl (List.mem_of_getElem? (i := 2) rfl)) all0))
      show Go _ _ _ _ _ _ _ T22 (mkF m 107 #[.val (.ref q), .val (.int x), .val (.double ky), .second, s4, s5] [])
      refine Go.step (fun _ k => XS.iconst X22.here hx rfl (hb hby d4_107) k) ?_
      refine Go.retZ X22 hx hlk hret (by decide) (hb hby d4_108) (by decide) (by decide) ?_
      exact ⟨⟨_, rfl⟩, N22, E_q_22, n, ⟨by omega, by omega⟩, xu, xv, xw, _, _, _, lL, ⟨E_q_22, F_size_q_22, F_heap_q_22, F_positions_q_22, F_keys_q_22, Vu22, Vv22, V_xw_22⟩, ⟨ne_q_xu, ne_q_xv, ne_q_xw, ne_xu_xv, ne_xu_xw, ne_xv_xw, ge_q, ge_xu, ge_xv, ge_xw⟩, hl0, hlB, hQ22.add hsx⟩
    · refine Go.step (fun _ k => XS.ifYes X17.here hx rfl (pc0 := 87) (pc' := 107) rfl (hb hby d4_87) rfl (lt_n hd87_18) (by decide) (by decide) k) ?_
      show Go _ _ _ _ _ _ _ T17 (mkF m 107 #[.val (.ref q), .val (.int x), .val (.double ky), .second, s4, s5] [])
      refine Go.step (fun _ k => XS.iconst X17.here hx rfl (hb hby d4_107) k) ?_
      refine Go.retZ X17 hx hlk hret (by decide) (hb hby d4_108) (by decide) (by decide) ?_
      try rw [e17]
      exact ⟨⟨_, rfl⟩, N0, E_q, n, ⟨by omega, by omega⟩, xu, xv, xw, _, _, _, lL, ⟨E_q, F_size_q, F_heap_q, F_positions_q, F_keys_q, V_xu, V_xv, V_xw⟩, ⟨ne_q_xu, ne_q_xv, ne_q_xw, ne_xu_xv, ne_xu_xw, ne_xv_xw, ge_q, ge_xu, ge_xv, ge_xw⟩, hl0, hlB, hQ.add hsx⟩
theorem d4_0 : decode prog_40_method_5_code 0 = .ok (.iload_n 1, 1) := by decide +kernel
theorem d4_1 : decode prog_40_method_5_code 1 = .ok (.aload_n 0, 1) := by decide +kernel
theorem d4_2 : decode prog_40_method_5_code 2 = .ok (.getfield 13, 3) := by decide +kernel
theorem d4_5 : decode prog_40_method_5_code 5 = .ok (.arraylength, 1) := by decide +kernel
theorem d4_6 : decode prog_40_method_5_code 6 = .ok (.if_icmp .lt 63, 3) := by decide +kernel
theorem d4_9 : decode prog_40_method_5_code 9 = .ok (.iload_n 1, 1) := by decide +kernel
theorem d4_10 : decode prog_40_method_5_code 10 = .ok (.iconst 1, 1) := by decide +kernel
theorem d4_11 : decode prog_40_method_5_code 11 = .ok (.iadd, 1) := by decide +kernel
theorem d4_12 : decode prog_40_method_5_code 12 = .ok (.iconst 2, 1) := by decide +kernel
theorem d4_13 : decode prog_40_method_5_code 13 = .ok (.aload_n 0, 1) := by decide +kernel
theorem d4_14 : decode prog_40_method_5_code 14 = .ok (.getfield 13, 3) := by decide +kernel
theorem d4_17 : decode prog_40_method_5_code 17 = .ok (.arraylength, 1) := by decide +kernel
theorem d4_18 : decode prog_40_method_5_code 18 = .ok (.imul, 1) := by decide +kernel
theorem d4_19 : decode prog_40_method_5_code 19 = .ok (.invokestatic 24, 3) := by decide +kernel
theorem d4_22 : decode prog_40_method_5_code 22 = .ok (.istore 4, 2) := by decide +kernel
theorem d4_24 : decode prog_40_method_5_code 24 = .ok (.aload_n 0, 1) := by decide +kernel
theorem d4_25 : decode prog_40_method_5_code 25 = .ok (.getfield 13, 3) := by decide +kernel
theorem d4_28 : decode prog_40_method_5_code 28 = .ok (.arraylength, 1) := by decide +kernel
theorem d4_29 : decode prog_40_method_5_code 29 = .ok (.istore 5, 2) := by decide +kernel
theorem d4_31 : decode prog_40_method_5_code 31 = .ok (.aload_n 0, 1) := by decide +kernel
theorem d4_32 : decode prog_40_method_5_code 32 = .ok (.aload_n 0, 1) := by decide +kernel
theorem d4_33 : decode prog_40_method_5_code 33 = .ok (.getfield 13, 3) := by decide +kernel
theorem d4_36 : decode prog_40_method_5_code 36 = .ok (.iload 4, 2) := by decide +kernel
theorem d4_38 : decode prog_40_method_5_code 38 = .ok (.invokestatic 30, 3) := by decide +kernel
theorem pd_4 : parseMethodDescriptor "([II)[I" = some ⟨[(.array .int), .int], some (.array .int)⟩ := by decide +kernel
theorem d4_41 : decode prog_40_method_5_code 41 = .ok (.putfield 13, 3) := by decide +kernel
theorem d4_44 : decode prog_40_method_5_code 44 = .ok (.aload_n 0, 1) := by decide +kernel
theorem d4_45 : decode prog_40_method_5_code 45 = .ok (.getfield 13, 3) := by decide +kernel
theorem d4_48 : decode prog_40_method_5_code 48 = .ok (.iload 5, 2) := by decide +kernel
theorem d4_50 : decode prog_40_method_5_code 50 = .ok (.iload 4, 2) := by decide +kernel
theorem d4_52 : decode prog_40_method_5_code 52 = .ok (.iconst (-1), 1) := by decide +kernel
theorem d4_53 : decode prog_40_method_5_code 53 = .ok (.invokestatic 36, 3) := by decide +kernel
theorem pd_5 : parseMethodDescriptor "([IIII)V" = some ⟨[(.array .int), .int, .int, .int], none⟩ := by decide +kernel
theorem d4_56 : decode prog_40_method_5_code 56 = .ok (.aload_n 0, 1) := by decide +kernel
theorem d4_57 : decode prog_40_method_5_code 57 = .ok (.aload_n 0, 1) := by decide +kernel
theorem d4_58 : decode prog_40_method_5_code 58 = .ok (.getfield 16, 3) := by decide +kernel
theorem d4_61 : decode prog_40_method_5_code 61 = .ok (.iload 4, 2) := by decide +kernel
theorem d4_63 : decode prog_40_method_5_code 63 = .ok (.invokestatic 40, 3) := by decide +kernel
theorem pd_6 : parseMethodDescriptor "([DI)[D" = some ⟨[(.array .double), .int], some (.array .double)⟩ := by decide +kernel
theorem d4_66 : decode prog_40_method_5_code 66 = .ok (.putfield 16, 3) := by decide +kernel
set_option maxRecDepth 65536 in
set_option maxHeartbeats 40000000 in
theorem w4 {p : Program} {l : Launch} {e : Env} {s : State} {m : MethodId} {args : Array Value} {below : List Frame} {meth : Method} {c_ : Code} {T0 : State} {locs : List Loc} {Z : State} {a0 : Array Value} {h0 : Heap} {n0 : Nat} (q xu xv xw : Addr) (fG fP : Nat → Int32) (fK : Nat → UInt64) (lL : Int32) (n : Nat) (B B' : Int) (fS : Int32 → Prop) (x : Int32) (ky : UInt64)
    (X0 : Stand p l e ({ frames := 2, cells := 2, slots := 128, locals := 33 } : Room) s m args below meth c_ T0 locs 0 0) (hx : p.tables.exec = Jvm.exec) (hZ : Z.Warmed39 s.vm) (hw : ∀ d ∈ tables_1, d.before a0 Z = true) (hby : c_.code = prog_40_method_5_code) (hml : c_.maxLocals = 6) (hown : s.vm.findClass "com/example/tributary/tributary/NodeQueue" = some m.cls) (hnm : meth.name = "offer") (hret : meth.sig.returnType = some .boolean) (hlk : meth.locks = false) (e0 : T0.heap = h0) (Z0 : n0 ≤ h0.size) (N0 : Fr n0 locs) (E_q : Exa Z h0 q "com/example/tributary/tributary/NodeQueue") (F_size_q : Fld Z h0 q "com/example/tributary/tributary/NodeQueue" "size" "I" (.int (Int32.ofNat n))) (F_heap_q : Fld Z h0 q "com/example/tributary/tributary/NodeQueue" "heap" "[I" (.ref xu)) (F_positions_q : Fld Z h0 q "com/example/tributary/tributary/NodeQueue" "positions" "[I" (.ref xv)) (F_keys_q : Fld Z h0 q "com/example/tributary/tributary/NodeQueue" "keys" "[D" (.ref xw)) (V_xu : Iv Z h0 xu (16 : Int32) fG) (V_xv : Iv Z h0 xv lL fP) (V_xw : Dv Z h0 xw lL fK) (ne_q_xu : q ≠ xu) (ne_q_xv : q ≠ xv) (ne_q_xw : q ≠ xw) (ne_xu_xv : xu ≠ xv) (ne_xu_xw : xu ≠ xw) (ne_xv_xw : xv ≠ xw) (ge_q : n0 ≤ q) (ge_xu : n0 ≤ xu) (ge_xv : n0 ≤ xv) (ge_xw : n0 ≤ xw) (hl0 : ¬ lL < (0 : Int32)) (hlB : lL.toInt ≤ B) (hQ : QI n fG lL fP fS) (hn : n ≤ 2) (hx0 : ¬ x < (0 : Int32)) (hx2 : x.toInt < 64) (hB : B ≤ 32) (hB1 : B ≤ B') (hB2 : 2 * B ≤ B') (hB3 : x.toInt + 1 ≤ B') :
    Go p e below s ({ frames := 2, cells := 2, slots := 128, locals := 33 } : Room).cells ({ frames := 2, cells := 2, slots := 128, locals := 33 } : Room).slots (fun r h L => (∃ b : Int32, r = some (.int b)) ∧ Fr n0 L ∧ Exa Z h q "com/example/tributary/tributary/NodeQueue" ∧ ∃ n', (1 ≤ n' ∧ n' ≤ n + 1) ∧ QS Z h n0 q n' B' (fun y => fS y ∨ y = x)) T0 (mkF m 0 #[.val (.ref q), .val (.int x), .val (.double ky), .second, .unset, .unset] []) := by
  show Go _ _ _ _ _ _ _ T0 (mkF m 0 #[.val (.ref q), .val (.int x), .val (.double ky), .second, .unset, .unset] [])
  refine Go.step (fun _ k => XS.iloadN X0.here hx rfl (hb hby d4_0) rfl k) ?_
  refine Go.step (fun _ k => XS.aloadN X0.here hx rfl (hb hby d4_1) rfl rfl k) ?_
  obtain ⟨T1, X1, e1, st1⟩ := getF X0 hx hZ hown (host := "") (Or.inl (hw _ (mI 12 rfl))) Via.refl e0 F_positions_q (g := (mkF m 2 #[.val (.ref q), .val (.int x), .val (.double ky), .second, .unset, .unset] [(.ref q), (.int x)])) rfl rfl (hb hby d4_2)
  refine Go.step st1 ?_
  show Go _ _ _ _ _ _ _ T1 (mkF m 5 #[.val (.ref q), .val (.int x), .val (.double ky), .second, .unset, .unset] [(.ref xv), (.int x)])
  refine Go.alen X1 hx hZ e1 V_xv (hb hby d4_5) ?_
  show Go _ _ _ _ _ _ _ T1 (mkF m 6 #[.val (.ref q), .val (.int x), .val (.double ky), .second, .unset, .unset] [(.int lL), (.int x)])
  by_cases hc6_2 : x < lL
  · refine Go.step (fun _ k => XS.icmpYes X1.here hx rfl (pc0 := 6) (pc' := 69) rfl (hb hby d4_6) rfl (tlt hc6_2).1 (by decide) (by decide) k) ?_
    show Go _ _ _ _ _ _ _ T1 (mkF m 69 #[.val (.ref q), .val (.int x), .val (.double ky), .second, .unset, .unset] [])
    exact w4b q xu xv xw fG fP fK lL n B' fS x ky (.unset) (.unset) (own_up X1 (by decide) (by decide)) hx hZ hw hby hml hown hnm hret hlk e1 Z0 N0 E_q F_size_q F_heap_q F_positions_q F_keys_q V_xu V_xv V_xw ne_q_xu ne_q_xv ne_q_xw ne_xu_xv ne_xu_xw ne_xv_xw ge_q ge_xu ge_xv ge_xw hl0 (by omega) hQ hn ⟨hx0, hc6_2⟩
  · refine Go.step (fun _ k => XS.icmpNo X1.here hx rfl (hb hby d4_6) rfl (flt hc6_2).1 k) ?_
    show Go _ _ _ _ _ _ _ T1 (mkF m 9 #[.val (.ref q), .val (.int x), .val (.double ky), .second, .unset, .unset] [])
    refine Go.step (fun _ k => XS.iloadN X1.here hx rfl (hb hby d4_9) rfl k) ?_
    refine Go.step (fun _ k => XS.iconst X1.here hx rfl (hb hby d4_10) k) ?_
    refine Go.step (fun _ k => XS.iadd X1.here hx rfl (hb hby d4_11) rfl k) ?_
    show Go _ _ _ _ _ _ _ T1 (mkF m 12 #[.val (.ref q), .val (.int x), .val (.double ky), .second, .unset, .unset] [(.int (x + (1 : Int32)))])
    refine Go.step (fun _ k => XS.iconst X1.here hx rfl (hb hby d4_12) k) ?_
    refine Go.step (fun _ k => XS.aloadN X1.here hx rfl (hb hby d4_13) rfl rfl k) ?_
    obtain ⟨T3, X3, e3, st3⟩ := getF X1 hx hZ hown (host := "") (Or.inl (hw _ (mI 12 rfl))) Via.refl e1 F_positions_q (g := (mkF m 14 #[.val (.ref q), .val (.int x), .val (.double ky), .second, .unset, .unset] [(.ref q), (.int (2 : Int32)), (.int (x + (1 : Int32)))])) rfl rfl (hb hby d4_14)
    refine Go.step st3 ?_
    show Go _ _ _ _ _ _ _ T3 (mkF m 17 #[.val (.ref q), .val (.int x), .val (.double ky), .second, .unset, .unset] [(.ref xv), (.int (2 : Int32)), (.int (x + (1 : Int32)))])
    refine Go.alen X3 hx hZ e3 V_xv (hb hby d4_17) ?_
    show Go _ _ _ _ _ _ _ T3 (mkF m 18 #[.val (.ref q), .val (.int x), .val (.double ky), .second, .unset, .unset] [(.int lL), (.int (2 : Int32)), (.int (x + (1 : Int32)))])
    refine Go.step (fun _ k => XS.imul X3.here hx rfl (hb hby d4_18) rfl k) ?_
    show Go _ _ _ _ _ _ _ T3 (mkF m 19 #[.val (.ref q), .val (.int x), .val (.double ky), .second, .unset, .unset] [(.int ((2 : Int32) * lL)), (.int (x + (1 : Int32)))])
    refine Go.callS X3 hx hZ (by rw [hml]; rfl) (y := (⟨"java/lang/Math", "max", "(II)I"⟩ : MethodName)) (argsL := [(.int (x + (1 : Int32))), (.int ((2 : Int32) * lL))]) (rest := []) hown (hw _ (mI 27 rfl)) (hw _ (mI 28 rfl)) (hw _ (mI 29 rfl)) (hw _ (mI 30 rfl)) (by decide) (rm5 l Z a0 hw (x + (1 : Int32)) ((2 : Int32) * lL) h0 n0 Z0) e3 (hb hby d4_19) (lenOf pd_1 rfl) rfl rfl (W := 0) (Nat.le_of_eq rfl) (by decide) (by decide) (by decide) (by decide) ?_
    intro v4 T4 L4 X4 Q4
    obtain ⟨rfl, N4q, hh4⟩ := Q4
    have N4 := Fr.app N0 N4q
    show Go _ _ _ _ _ _ _ T4 (mkF m 22 #[.val (.ref q), .val (.int x), .val (.double ky), .second, .unset, .unset] [(.int (maxW (x + (1 : Int32)) ((2 : Int32) * lL)))])
    refine Go.step (fun _ k => XS.istore X4.here hx rfl (hb hby d4_22) rfl (l' := #[.val (.ref q), .val (.int x), .val (.double ky), .second, .val (.int (maxW (x + (1 : Int32)) ((2 : Int32) * lL))), .unset]) rfl k) ?_
    obtain ⟨nL, h_nL⟩ : ∃ z, z = (maxW (x + (1 : Int32)) ((2 : Int32) * lL)) := ⟨_, rfl⟩
    rw [← h_nL]
    obtain ⟨hc1, hlt, hc0, hxn, hnB⟩ := own_len hx0 hx2 hl0 hlB hB hc6_2 h_nL
    have hne : ¬ nL = lL := fun q => by rw [q, Int32.lt_iff_toInt_lt] at hlt; omega
    show Go _ _ _ _ _ _ _ T4 (mkF m 24 #[.val (.ref q), .val (.int x), .val (.double ky), .second, .val (.int nL), .unset] [])
    refine Go.step (fun _ k => XS.aloadN X4.here hx rfl (hb hby d4_24) rfl rfl k) ?_
    obtain ⟨T5, X5, e5, st5⟩ := getF X4 hx hZ hown (host := "") (Or.inl (hw _ (mI 12 rfl))) Via.refl hh4 F_positions_q (g := (mkF m 25 #[.val (.ref q), .val (.int x), .val (.double ky), .second, .val (.int nL), .unset] [(.ref q)])) rfl rfl (hb hby d4_25)
    refine Go.step st5 ?_
    show Go _ _ _ _ _ _ _ T5 (mkF m 28 #[.val (.ref q), .val (.int x), .val (.double ky), .second, .val (.int nL), .unset] [(.ref xv)])
    refine Go.alen X5 hx hZ e5 V_xv (hb hby d4_28) ?_
    show Go _ _ _ _ _ _ _ T5 (mkF m 29 #[.val (.ref q), .val (.int x), .val (.double ky), .second, .val (.int nL), .unset] [(.int lL)])
    refine Go.step (fun _ k => XS.istore X5.here hx rfl (hb hby d4_29) rfl (l' := #[.val (.ref q), .val (.int x), .val (.double ky), .second, .val (.int nL), .val (.int lL)]) rfl k) ?_
    show Go _ _ _ _ _ _ _ T5 (mkF m 31 #[.val (.ref q), .val (.int x), .val (.double ky), .second, .val (.int nL), .val (.int lL)] [])
    refine Go.step (fun _ k => XS.aloadN X5.here hx rfl (hb hby d4_31) rfl rfl k) ?_
    refine Go.step (fun _ k => XS.aloadN X5.here hx rfl (hb hby d4_32) rfl rfl k) ?_
    obtain ⟨T6, X6, e6, st6⟩ := getF X5 hx hZ hown (host := "") (Or.inl (hw _ (mI 12 rfl))) Via.refl e5 F_positions_q (g := (mkF m 33 #[.val (.ref q), .val (.int x), .val (.double ky), .second, .val (.int nL), .val (.int lL)] [(.ref q), (.ref q)])) rfl rfl (hb hby d4_33)
    refine Go.step st6 ?_
    show Go _ _ _ _ _ _ _ T6 (mkF m 36 #[.val (.ref q), .val (.int x), .val (.double ky), .second, .val (.int nL), .val (.int lL)] [(.ref xv), (.ref q)])
    refine Go.step (fun _ k => XS.iload X6.here hx rfl (hb hby d4_36) rfl k) ?_
    refine Go.callS X6 hx hZ (by rw [hml]; rfl) (y := (⟨"java/util/Arrays", "copyOf", "([II)[I"⟩ : MethodName)) (argsL := [(.ref xv), (.int nL)]) (rest := [(.ref q)]) hown (hw _ (mI 31 rfl)) (hw _ (mI 32 rfl)) (hw _ (mI 33 rfl)) (hw _ (mI 34 rfl)) (by decide) (rm6 l Z a0 hw xv fP lL nL h0 n0 Z0 V_xv hl0 hlt hc0 hc1 hne) e6 (hb hby d4_38) (lenOf pd_4 rfl) rfl rfl (W := 1) (Nat.le_of_eq rfl) (by decide) (by decide) (by decide) (by decide) ?_
    intro v7 T7 L7 X7 Q7
    obtain ⟨b7, rfl, N7q, Kc7, sb7, Vb7⟩ := Q7
    have N7 := Fr.app N4 N7q
    have ne_q_b7 : q ≠ b7 := Nat.ne_of_lt (Nat.lt_of_lt_of_le E_q.lt sb7)
    have ne_xu_b7 : xu ≠ b7 := Nat.ne_of_lt (Nat.lt_of_lt_of_le V_xu.lt sb7)
    have ne_xv_b7 : xv ≠ b7 := Nat.ne_of_lt (Nat.lt_of_lt_of_le V_xv.lt sb7)
    have ne_xw_b7 : xw ≠ b7 := Nat.ne_of_lt (Nat.lt_of_lt_of_le V_xw.lt sb7)
    have E_q_7 := E_q.keep Kc7
    have F_size_q_7 := F_size_q.keep Kc7 nin0
    have F_heap_q_7 := F_heap_q.keep Kc7 nin0
    have F_positions_q_7 := F_positions_q.keep Kc7 nin0
    have F_keys_q_7 := F_keys_q.keep Kc7 nin0
    have V_xu_7 := V_xu.keep Kc7 nin0
    have V_xv_7 := V_xv.keep Kc7 nin0
    have V_xw_7 := V_xw.keep Kc7 nin0
    have KK7 : Keep h0 T7.heap [q, xu, xv, xw] := ((Keep.refl h0 [q, xu, xv, xw]) : Keep h0 h0 [q, xu, xv, xw]).trans Kc7 all0
    have sz_b7 : h0.size ≤ b7 := Nat.le_trans ((Keep.refl h0 [q, xu, xv, xw]) : Keep h0 h0 [q, xu, xv, xw]).1 sb7
    have ge_b7 : n0 ≤ b7 := Nat.le_trans Z0 sz_b7
    show Go _ _ _ _ _ _ _ T7 (mkF m 41 #[.val (.ref q), .val (.int x), .val (.double ky), .second, .val (.int nL), .val (.int lL)] [(.ref b7), (.ref q)])
    obtain ⟨T8, h8, X8, e8, W8, st8⟩ := putF X7 hx hZ hown (host := "") (Or.inl (hw _ (mI 12 rfl))) Via.refl rfl F_positions_q_7 E_q_7 (Or.inl (hw _ (mI 13 rfl))) (hw _ (mI 1 rfl)) (ty := (.array .int)) (by decide) rfl rfl (g := (mkF m 41 #[.val (.ref q), .val (.int x), .val (.double ky), .second, .val (.int nL), .val (.int lL)] [(.ref b7), (.ref q)])) rfl rfl (hb hby d4_41)
    refine Go.step st8 ?_
    have N8 := Fr.snoc X8 N7 ge_q
    have F_positions_q_8 := F_positions_q_7.same W8
    have E_q_8 := E_q_7.wr W8
    have F_size_q_8 := F_size_q_7.other W8 (Or.inr (slot_ne (Or.inl (hw _ (mI 52 rfl))) (Or.inl (hw _ (mI 13 rfl))) (by decide) (t := .int) (t' := (.array .int)) (by decide) (by decide)))
    have F_heap_q_8 := F_heap_q_7.other W8 (Or.inr (slot_ne (Or.inl (hw _ (mI 11 rfl))) (Or.inl (hw _ (mI 13 rfl))) (by decide) (t := (.array .int)) (t' := (.array .int)) (by decide) (by decide)))
    have F_keys_q_8 := F_keys_q_7.other W8 (Or.inr (slot_ne (Or.inl (hw _ (mI 16 rfl))) (Or.inl (hw _ (mI 13 rfl))) (by decide) (t := (.array .double)) (t' := (.array .int)) (by decide) (by decide)))
    have V_xu_8 := V_xu_7.other W8 (Ne.symm ne_q_xu)
    have V_xv_8 := V_xv_7.other W8 (Ne.symm ne_q_xv)
    have V_xw_8 := V_xw_7.other W8 (Ne.symm ne_q_xw)
    have Vb7_8 := Vb7.other W8 (Ne.symm ne_q_b7)
    have K8 : Keep h0 h8 [q, xu, xv, xw] := KK7.wr W8 (Or.inl (List.mem_of_getElem? (i := 0) rfl))
    show Go _ _ _ _ _ _ _ T8 (mkF m 44 #[.val (.ref q), .val (.int x), .val (.double ky), .second, .val (.int nL), .val (.int lL)] [])
    refine Go.step (fun _ k => XS.aloadN X8.here hx rfl (hb hby d4_44) rfl rfl k) ?_
    obtain ⟨T9, X9, e9, st9⟩ := getF X8 hx hZ hown (host := "") (Or.inl (hw _ (mI 12 rfl))) Via.refl e8 F_positions_q_8 (g := (mkF m 45 #[.val (.ref q), .val (.int x), .val (.double ky), .second, .val (.int nL), .val (.int lL)] [(.ref q)])) rfl rfl (hb hby d4_45)
    refine Go.step st9 ?_
    show Go _ _ _ _ _ _ _ T9 (mkF m 48 #[.val (.ref q), .val (.int x), .val (.double ky), .second, .val (.int nL), .val (.int lL)] [(.ref b7)])
    refine Go.step (fun _ k => XS.iload X9.here hx rfl (hb hby d4_48) rfl k) ?_
    refine Go.step (fun _ k => XS.iload X9.here hx rfl (hb hby d4_50) rfl k) ?_
    refine Go.step (fun _ k => XS.iconst X9.here hx rfl (hb hby d4_52) k) ?_
    show Go _ _ _ _ _ _ _ T9 (mkF m 53 #[.val (.ref q), .val (.int x), .val (.double ky), .second, .val (.int nL), .val (.int lL)] [(.int (-1 : Int32)), (.int nL), (.int lL), (.ref b7)])
    refine Go.callS X9 hx hZ (by rw [hml]; rfl) (y := (⟨"java/util/Arrays", "fill", "([IIII)V"⟩ : MethodName)) (argsL := [(.ref b7), (.int lL), (.int nL), (.int (-1 : Int32))]) (rest := []) hown (hw _ (mI 42 rfl)) (hw _ (mI 43 rfl)) (hw _ (mI 33 rfl)) (hw _ (mI 44 rfl)) (by decide) (rm8 l Z a0 hw b7 (cpW (lL).toNatClampNeg fP (fun _ => (0 : Int32))) nL lL nL h8 n0 (Nat.le_trans Z0 (K8 : Keep h0 h8 [q, xu, xv, xw]).1) Vb7_8 ge_b7 (fun q => by rw [Int32.lt_iff_toInt_lt] at q hlt; omega) hl0 (fun q => by rw [Int32.lt_iff_toInt_lt] at q; omega)) e9 (hb hby d4_53) (lenOf pd_5 rfl) rfl rfl (W := 0) (Nat.le_of_eq rfl) (by decide) (by decide) (by decide) (by decide) ?_
    intro v10 T10 L10 X10 Q10
    obtain ⟨rfl, N10q, Kc10, Vn10⟩ := Q10
    have N10 := Fr.app N8 N10q
    have E_q_10 := E_q_8.keep Kc10
    have F_size_q_10 := F_size_q_8.keep Kc10 (ninS ne_q_b7 nin0)
    have F_heap_q_10 := F_heap_q_8.keep Kc10 (ninS ne_q_b7 nin0)
    have F_positions_q_10 := F_positions_q_8.keep Kc10 (ninS ne_q_b7 nin0)
    have F_keys_q_10 := F_keys_q_8.keep Kc10 (ninS ne_q_b7 nin0)
    have V_xu_10 := V_xu_8.keep Kc10 (ninS ne_xu_b7 nin0)
    have V_xv_10 := V_xv_8.keep Kc10 (ninS ne_xv_b7 nin0)
    have V_xw_10 := V_xw_8.keep Kc10 (ninS ne_xw_b7 nin0)
    have KK10 : Keep h0 T10.heap [q, xu, xv, xw] := (K8 : Keep h0 h8 [q, xu, xv, xw]).trans Kc10 (allS (Or.inr sz_b7) all0)
    show Go _ _ _ _ _ _ _ T10 (mkF m 56 #[.val (.ref q), .val (.int x), .val (.double ky), .second, .val (.int nL), .val (.int lL)] [])
    refine Go.step (fun _ k => XS.aloadN X10.here hx rfl (hb hby d4_56) rfl rfl k) ?_
    refine Go.step (fun _ k => XS.aloadN X10.here hx rfl (hb hby d4_57) rfl rfl k) ?_
    obtain ⟨T11, X11, e11, st11⟩ := getF X10 hx hZ hown (host := "") (Or.inl (hw _ (mI 15 rfl))) Via.refl rfl F_keys_q_10 (g := (mkF m 58 #[.val (.ref q), .val (.int x), .val (.double ky), .second, .val (.int nL), .val (.int lL)] [(.ref q), (.ref q)])) rfl rfl (hb hby d4_58)
    refine Go.step st11 ?_
    show Go _ _ _ _ _ _ _ T11 (mkF m 61 #[.val (.ref q), .val (.int x), .val (.double ky), .second, .val (.int nL), .val (.int lL)] [(.ref xw), (.ref q)])
    refine Go.step (fun _ k => XS.iload X11.here hx rfl (hb hby d4_61) rfl k) ?_
    refine Go.callS X11 hx hZ (by rw [hml]; rfl) (y := (⟨"java/util/Arrays", "copyOf", "([DI)[D"⟩ : MethodName)) (argsL := [(.ref xw), (.int nL)]) (rest := [(.ref q)]) hown (hw _ (mI 48 rfl)) (hw _ (mI 49 rfl)) (hw _ (mI 33 rfl)) (hw _ (mI 50 rfl)) (by decide) (rm10 l Z a0 hw xw fK lL nL T10.heap n0 (Nat.le_trans Z0 (KK10 : Keep h0 T10.heap [q, xu, xv, xw]).1) V_xw_10 hl0 hlt hc0 hc1 hne) e11 (hb hby d4_63) (lenOf pd_6 rfl) rfl rfl (W := 1) (Nat.le_of_eq rfl) (by decide) (by decide) (by decide) (by decide) ?_
    intro v12 T12 L12 X12 Q12
    obtain ⟨b12, rfl, N12q, Kc12, sb12, Vb12⟩ := Q12
    have N12 := Fr.app N10 N12q
    have ne_b7_b12 : b7 ≠ b12 := Nat.ne_of_lt (Nat.lt_of_lt_of_le Vn10.lt sb12)
    have ne_q_b12 : q ≠ b12 := Nat.ne_of_lt (Nat.lt_of_lt_of_le E_q_10.lt sb12)
    have ne_xu_b12 : xu ≠ b12 := Nat.ne_of_lt (Nat.lt_of_lt_of_le V_xu_10.lt sb12)
    have ne_xv_b12 : xv ≠ b12 := Nat.ne_of_lt (Nat.lt_of_lt_of_le V_xv_10.lt sb12)
    have ne_xw_b12 : xw ≠ b12 := Nat.ne_of_lt (Nat.lt_of_lt_of_le V_xw_10.lt sb12)
    have E_q_12 := E_q_10.keep Kc12
    have F_size_q_12 := F_size_q_10.keep Kc12 nin0
    have F_heap_q_12 := F_heap_q_10.keep Kc12 nin0
    have F_positions_q_12 := F_positions_q_10.keep Kc12 nin0
    have F_keys_q_12 := F_keys_q_10.keep Kc12 nin0
    have V_xu_12 := V_xu_10.keep Kc12 nin0
    have V_xv_12 := V_xv_10.keep Kc12 nin0
    have V_xw_12 := V_xw_10.keep Kc12 nin0
    have Vn10_12 := Vn10.keep Kc12 nin0
    have KK12 : Keep h0 T12.heap [q, xu, xv, xw] := (KK10 : Keep h0 T10.heap [q, xu, xv, xw]).trans Kc12 all0
    have sz_b12 : h0.size ≤ b12 := Nat.le_trans (KK10 : Keep h0 T10.heap [q, xu, xv, xw]).1 sb12
    have ge_b12 : n0 ≤ b12 := Nat.le_trans Z0 sz_b12
    show Go _ _ _ _ _ _ _ T12 (mkF m 66 #[.val (.ref q), .val (.int x), .val (.double ky), .second, .val (.int nL), .val (.int lL)] [(.ref b12), (.ref q)])
    obtain ⟨T13, h13, X13, e13, W13, st13⟩ := putF X12 hx hZ hown (host := "") (Or.inl (hw _ (mI 15 rfl))) Via.refl rfl F_keys_q_12 E_q_12 (Or.inl (hw _ (mI 16 rfl))) (hw _ (mI 1 rfl)) (ty := (.array .double)) (by decide) rfl rfl (g := (mkF m 66 #[.val (.ref q), .val (.int x), .val (.double ky), .second, .val (.int nL), .val (.int lL)] [(.ref b12), (.ref q)])) rfl rfl (hb hby d4_66)
    refine Go.step st13 ?_
    have N13 := Fr.snoc X13 N12 ge_q
    have F_keys_q_13 := F_keys_q_12.same W13
    have E_q_13 := E_q_12.wr W13
    have F_size_q_13 := F_size_q_12.other W13 (Or.inr (slot_ne (Or.inl (hw _ (mI 52 rfl))) (Or.inl (hw _ (mI 16 rfl))) (by decide) (t := .int) (t' := (.array .double)) (by decide) (by decide)))
    have F_heap_q_13 := F_heap_q_12.other W13 (Or.inr (slot_ne (Or.inl (hw _ (mI 11 rfl))) (Or.inl (hw _ (mI 16 rfl))) (by decide) (t := (.array .int)) (t' := (.array .double)) (by decide) (by decide)))
    have F_positions_q_13 := F_positions_q_12.other W13 (Or.inr (slot_ne (Or.inl (hw _ (mI 13 rfl))) (Or.inl (hw _ (mI 16 rfl))) (by decide) (t := (.array .int)) (t' := (.array .double)) (by decide) (by decide)))
    have V_xu_13 := V_xu_12.other W13 (Ne.symm ne_q_xu)
    have V_xv_13 := V_xv_12.other W13 (Ne.symm ne_q_xv)
    have V_xw_13 := V_xw_12.other W13 (Ne.symm ne_q_xw)
    have Vn10_13 := Vn10_12.other W13 (Ne.symm ne_q_b7)
    have Vb12_13 := Vb12.other W13 (Ne.symm ne_q_b12)
    have K13 : Keep h0 h13 [q, xu, xv, xw] := KK12.wr W13 (Or.inl (List.mem_of_getElem? (i := 0) rfl))
    show Go _ _ _ _ _ _ _ T13 (mkF m 69 #[.val (.ref q), .val (.int x), .val (.double ky), .second, .val (.int nL), .val (.int lL)] [])
    have hQ1 := hQ.grow hl0 hlt
    exact w4b q xu b7 b12 fG (fillW (cpW (lL).toNatClampNeg fP (fun _ => (0 : Int32))) (lL).toNatClampNeg (nL).toNatClampNeg) (cpW (lL).toNatClampNeg fK (fun _ => (0 : UInt64))) nL n B' fS x ky (.val (.int nL)) (.val (.int lL)) (own_up X13 (by decide) (by decide)) hx hZ hw hby hml hown hnm hret hlk e13 (Nat.le_trans Z0 (K13 : Keep h0 h13 [q, xu, xv, xw]).1) N13 E_q_13 F_size_q_13 F_heap_q_13 F_positions_q_13 F_keys_q_13 V_xu_13 Vn10_13 Vb12_13 ne_q_xu ne_q_b7 ne_q_b12 ne_xu_b7 ne_xu_b12 ne_b7_b12 ge_q ge_xu ge_b7 ge_b12 hc0 (by omega) hQ1 hn ⟨hx0, hxn⟩
theorem ef_rm4 (m : MethodId) (q : Addr) (x : Int32) (ky : UInt64) : entryFrame m #[(.ref q), (.int x), (.double ky)] 6 = mkF m 0 #[.val (.ref q), .val (.int x), .val (.double ky), .second, .unset, .unset] [] := by first | (simp [entryFrame, mkF, argsToLocals, Value.category]; done) | rfl
theorem rm4 (l : Launch) (Z : State) (a0 : Array Value) (hw : ∀ d ∈ tables_1, d.before a0 Z = true) (q xu xv xw : Addr) (fG fP : Nat → Int32) (fK : Nat → UInt64) (lL : Int32) (n : Nat) (B B' : Int) (fS : Int32 → Prop) (x : Int32) (ky : UInt64) (h0 : Heap) (n0 : Nat) (Z0 : n0 ≤ h0.size) (E_q : Exa Z h0 q "com/example/tributary/tributary/NodeQueue") (F_size_q : Fld Z h0 q "com/example/tributary/tributary/NodeQueue" "size" "I" (.int (Int32.ofNat n))) (F_heap_q : Fld Z h0 q "com/example/tributary/tributary/NodeQueue" "heap" "[I" (.ref xu)) (F_positions_q : Fld Z h0 q "com/example/tributary/tributary/NodeQueue" "positions" "[I" (.ref xv)) (F_keys_q : Fld Z h0 q "com/example/tributary/tributary/NodeQueue" "keys" "[D" (.ref xw)) (V_xu : Iv Z h0 xu (16 : Int32) fG) (V_xv : Iv Z h0 xv lL fP) (V_xw : Dv Z h0 xw lL fK) (ne_q_xu : q ≠ xu) (ne_q_xv : q ≠ xv) (ne_q_xw : q ≠ xw) (ne_xu_xv : xu ≠ xv) (ne_xu_xw : xu ≠ xw) (ne_xv_xw : xv ≠ xw) (ge_q : n0 ≤ q) (ge_xu : n0 ≤ xu) (ge_xv : n0 ≤ xv) (ge_xw : n0 ≤ xw) (hl0 : ¬ lL < (0 : Int32)) (hlB : lL.toInt ≤ B) (hQ : QI n fG lL fP fS) (hn : n ≤ 2) (hx0 : ¬ x < (0 : Int32)) (hx2 : x.toInt < 64) (hB : B ≤ 32) (hB1 : B ≤ B') (hB2 : 2 * B ≤ B') (hB3 : x.toInt + 1 ≤ B') :
    Con l Z (⟨"com/example/tributary/tributary/NodeQueue", "offer", "(ID)Z"⟩ : MethodName) prog_40_method_5_code 6 (some .boolean) ({ frames := 2, cells := 2, slots := 128, locals := 33 } : Room) #[(.ref q), (.int x), (.double ky)] h0 (fun r h L => (∃ b : Int32, r = some (.int b)) ∧ Fr n0 L ∧ Exa Z h q "com/example/tributary/tributary/NodeQueue" ∧ ∃ n', (1 ≤ n' ∧ n' ≤ n + 1) ∧ QS Z h n0 q n' B' (fun y => fS y ∨ y = x)) :=
  con_of (plainFor_of_name pn_12) (fun p_ e_ s_ m_ b_ meth_ c_ T_ X_ hx hZ hby hml hown hnm hret hlk e0 => Go.cast (ef_rm4 m_ q x ky) (w4 q xu xv xw fG fP fK lL n B B' fS x ky X_ hx hZ hw hby hml hown hnm hret hlk e0 Z0 (Fr.nil n0) E_q F_size_q F_heap_q F_positions_q F_keys_q V_xu V_xv V_xw ne_q_xu ne_q_xv ne_q_xw ne_xu_xv ne_xu_xw ne_xv_xw ge_q ge_xu ge_xv ge_xw hl0 hlB hQ hn hx0 hx2 hB hB1 hB2 hB3))
theorem rmOff (l : Launch) (Z : State) (a0 : Array Value) (hw : ∀ d ∈ tables_1, d.before a0 Z = true) (q : Addr) (n : Nat) (B B' : Int) (fS : Int32 → Prop) (x : Int32) (ky : UInt64) (h0 : Heap) (n0 : Nat) (Z0 : n0 ≤ h0.size) (H : QS Z h0 n0 q n B fS) (hn : n ≤ 2) (hx0 : ¬ x < (0 : Int32)) (hx2 : x.toInt < 64) (hB : B ≤ 32) (hB1 : B ≤ B') (hB2 : 2 * B ≤ B') (hB3 : x.toInt + 1 ≤ B') :
    Con l Z (⟨"com/example/tributary/tributary/NodeQueue", "offer", "(ID)Z"⟩ : MethodName) prog_40_method_5_code 6 (some .boolean) ({ frames := 2, cells := 2, slots := 128, locals := 33 } : Room) #[(.ref q), (.int x), (.double ky)] h0 (fun r h L => (∃ b : Int32, r = some (.int b)) ∧ Fr n0 L ∧ Exa Z h q "com/example/tributary/tributary/NodeQueue" ∧ ∃ n', (1 ≤ n' ∧ n' ≤ n + 1) ∧ QS Z h n0 q n' B' (fun y => fS y ∨ y = x)) := by
  obtain ⟨xu, xv, xw, fG, fP, fK, lL, ⟨E_q, F_size_q, F_heap_q, F_positions_q, F_keys_q, V_xu, V_xv, V_xw⟩, ⟨ne_q_xu, ne_q_xv, ne_q_xw, ne_xu_xv, ne_xu_xw, ne_xv_xw, ge_q, ge_xu, ge_xv, ge_xw⟩, hl0, hlB, hQ⟩ := H
  exact rm4 l Z a0 hw q xu xv xw fG fP fK lL n B B' fS x ky h0 n0 Z0 E_q F_size_q F_heap_q F_positions_q F_keys_q V_xu V_xv V_xw ne_q_xu ne_q_xv ne_q_xw ne_xu_xv ne_xu_xw ne_xv_xw ge_q ge_xu ge_xv ge_xw hl0 hlB hQ hn hx0 hx2 hB hB1 hB2 hB3
theorem d14_0 : decode prog_40_method_8_code 0 = .ok (.aload_n 0, 1) := by decide +kernel
theorem d14_1 : decode prog_40_method_8_code 1 = .ok (.getfield 20, 3) := by decide +kernel
theorem d14_4 : decode prog_40_method_8_code 4 = .ok (.ifCond .ne 13, 3) := by decide +kernel
theorem d14_17 : decode prog_40_method_8_code 17 = .ok (.return_, 1) := by decide +kernel
set_option maxRecDepth 65536 in
set_option maxHeartbeats 40000000 in
theorem w14_1 {p : Program} {l : Launch} {e : Env} {s : State} {m : MethodId} {args : Array Value} {below : List Frame} {meth : Method} {c_ : Code} {T0 : State} {locs : List Loc} {Z : State} {a0 : Array Value} {h0 : Heap} {n0 : Nat} (q : Addr)
    (X0 : Stand p l e ({ frames := 0, cells := 0, slots := 0, locals := 0 } : Room) s m args below meth c_ T0 locs 0 0) (hx : p.tables.exec = Jvm.exec) (hZ : Z.Warmed39 s.vm) (hw : ∀ d ∈ tables_1, d.before a0 Z = true) (hby : c_.code = prog_40_method_8_code) (hml : c_.maxLocals = 1) (hown : s.vm.findClass "com/example/tributary/tributary/NodeQueue" = some m.cls) (hnm : meth.name = "requireNotEmpty") (hret : meth.sig.returnType = none) (hlk : meth.locks = false) (e0 : T0.heap = h0) (Z0 : n0 ≤ h0.size) (N0 : Fr n0 locs) (F_size_q : Fld Z h0 q "com/example/tributary/tributary/NodeQueue" "size" "I" (.int (1 : Int32))) :
    Go p e below s ({ frames := 0, cells := 0, slots := 0, locals := 0 } : Room).cells ({ frames := 0, cells := 0, slots := 0, locals := 0 } : Room).slots (fun r h L => r = none ∧ Fr n0 L ∧ h = h0) T0 (mkF m 0 #[.val (.ref q)] []) := by
  show Go _ _ _ _ _ _ _ T0 (mkF m 0 #[.val (.ref q)] [])
  refine Go.step (fun _ k => XS.aloadN X0.here hx rfl (hb hby d14_0) rfl rfl k) ?_
  obtain ⟨T1, X1, e1, st1⟩ := getF X0 hx hZ hown (host := "") (Or.inl (hw _ (mI 51 rfl))) Via.refl e0 F_size_q (g := (mkF m 1 #[.val (.ref q)] [(.ref q)])) rfl rfl (hb hby d14_1)
  refine Go.step st1 ?_
  show Go _ _ _ _ _ _ _ T1 (mkF m 4 #[.val (.ref q)] [(.int (1 : Int32))])
  refine Go.step (fun _ k => XS.ifYes X1.here hx rfl (pc0 := 4) (pc' := 17) rfl (hb hby d14_4) rfl ((if0 _ _).trans (feq (by decide : ¬ ((1 : Int32) = (0 : Int32)))).2) (by decide) (by decide) k) ?_
  show Go _ _ _ _ _ _ _ T1 (mkF m 17 #[.val (.ref q)] [])
  refine Go.retV X1 hx hlk hret (hb hby d14_17) (by decide) (by decide) ?_
  try rw [e1]
  exact ⟨rfl, N0, rfl⟩
theorem ef_rm14_1 (m : MethodId) (q : Addr) : entryFrame m #[(.ref q)] 1 = mkF m 0 #[.val (.ref q)] [] := by first | (simp [entryFrame, mkF, argsToLocals, Value.category]; done) | rfl
theorem rm14_1 (l : Launch) (Z : State) (a0 : Array Value) (hw : ∀ d ∈ tables_1, d.before a0 Z = true) (q : Addr) (h0 : Heap) (n0 : Nat) (Z0 : n0 ≤ h0.size) (F_size_q : Fld Z h0 q "com/example/tributary/tributary/NodeQueue" "size" "I" (.int (1 : Int32))) :
    Con l Z (⟨"com/example/tributary/tributary/NodeQueue", "requireNotEmpty", "()V"⟩ : MethodName) prog_40_method_8_code 1 none ({ frames := 0, cells := 0, slots := 0, locals := 0 } : Room) #[(.ref q)] h0 (fun r h L => r = none ∧ Fr n0 L ∧ h = h0) :=
  con_of (plainFor_of_name pn_12) (fun p_ e_ s_ m_ b_ meth_ c_ T_ X_ hx hZ hby hml hown hnm hret hlk e0 => Go.cast (ef_rm14_1 m_ q) (w14_1 q X_ hx hZ hw hby hml hown hnm hret hlk e0 Z0 (Fr.nil n0) F_size_q))
set_option maxRecDepth 65536 in
set_option maxHeartbeats 40000000 in
theorem w14_2 {p : Program} {l : Launch} {e : Env} {s : State} {m : MethodId} {args : Array Value} {below : List Frame} {meth : Method} {c_ : Code} {T0 : State} {locs : List Loc} {Z : State} {a0 : Array Value} {h0 : Heap} {n0 : Nat} (q : Addr)
    (X0 : Stand p l e ({ frames := 0, cells := 0, slots := 0, locals := 0 } : Room) s m args below meth c_ T0 locs 0 0) (hx : p.tables.exec = Jvm.exec) (hZ : Z.Warmed39 s.vm) (hw : ∀ d ∈ tables_1, d.before a0 Z = true) (hby : c_.code = prog_40_method_8_code) (hml : c_.maxLocals = 1) (hown : s.vm.findClass "com/example/tributary/tributary/NodeQueue" = some m.cls) (hnm : meth.name = "requireNotEmpty") (hret : meth.sig.returnType = none) (hlk : meth.locks = false) (e0 : T0.heap = h0) (Z0 : n0 ≤ h0.size) (N0 : Fr n0 locs) (F_size_q : Fld Z h0 q "com/example/tributary/tributary/NodeQueue" "size" "I" (.int (2 : Int32))) :
    Go p e below s ({ frames := 0, cells := 0, slots := 0, locals := 0 } : Room).cells ({ frames := 0, cells := 0, slots := 0, locals := 0 } : Room).slots (fun r h L => r = none ∧ Fr n0 L ∧ h = h0) T0 (mkF m 0 #[.val (.ref q)] []) := by
  show Go _ _ _ _ _ _ _ T0 (mkF m 0 #[.val (.ref q)] [])
  refine Go.step (fun _ k => XS.aloadN X0.here hx rfl (hb hby d14_0) rfl rfl k) ?_
  obtain ⟨T1, X1, e1, st1⟩ := getF X0 hx hZ hown (host := "") (Or.inl (hw _ (mI 51 rfl))) Via.refl e0 F_size_q (g := (mkF m 1 #[.val (.ref q)] [(.ref q)])) rfl rfl (hb hby d14_1)
  refine Go.step st1 ?_
  show Go _ _ _ _ _ _ _ T1 (mkF m 4 #[.val (.ref q)] [(.int (2 : Int32))])
  refine Go.step (fun _ k => XS.ifYes X1.here hx rfl (pc0 := 4) (pc' := 17) rfl (hb hby d14_4) rfl ((if0 _ _).trans (feq (by decide : ¬ ((2 : Int32) = (0 : Int32)))).2) (by decide) (by decide) k) ?_
  show Go _ _ _ _ _ _ _ T1 (mkF m 17 #[.val (.ref q)] [])
  refine Go.retV X1 hx hlk hret (hb hby d14_17) (by decide) (by decide) ?_
  try rw [e1]
  exact ⟨rfl, N0, rfl⟩
theorem ef_rm14_2 (m : MethodId) (q : Addr) : entryFrame m #[(.ref q)] 1 = mkF m 0 #[.val (.ref q)] [] := by first | (simp [entryFrame, mkF, argsToLocals, Value.category]; done) | rfl
theorem rm14_2 (l : Launch) (Z : State) (a0 : Array Value) (hw : ∀ d ∈ tables_1, d.before a0 Z = true) (q : Addr) (h0 : Heap) (n0 : Nat) (Z0 : n0 ≤ h0.size) (F_size_q : Fld Z h0 q "com/example/tributary/tributary/NodeQueue" "size" "I" (.int (2 : Int32))) :
    Con l Z (⟨"com/example/tributary/tributary/NodeQueue", "requireNotEmpty", "()V"⟩ : MethodName) prog_40_method_8_code 1 none ({ frames := 0, cells := 0, slots := 0, locals := 0 } : Room) #[(.ref q)] h0 (fun r h L => r = none ∧ Fr n0 L ∧ h = h0) :=
  con_of (plainFor_of_name pn_12) (fun p_ e_ s_ m_ b_ meth_ c_ T_ X_ hx hZ hby hml hown hnm hret hlk e0 => Go.cast (ef_rm14_2 m_ q) (w14_2 q X_ hx hZ hw hby hml hown hnm hret hlk e0 Z0 (Fr.nil n0) F_size_q))
set_option maxRecDepth 65536 in
set_option maxHeartbeats 40000000 in
theorem w14_3 {p : Program} {l : Launch} {e : Env} {s : State} {m : MethodId} {args : Array Value} {below : List Frame} {meth : Method} {c_ : Code} {T0 : State} {locs : List Loc} {Z : State} {a0 : Array Value} {h0 : Heap} {n0 : Nat} (q : Addr)
    (X0 : Stand p l e ({ frames := 0, cells := 0, slots := 0, locals := 0 } : Room) s m args below meth c_ T0 locs 0 0) (hx : p.tables.exec = Jvm.exec) (hZ : Z.Warmed39 s.vm) (hw : ∀ d ∈ tables_1, d.before a0 Z = true) (hby : c_.code = prog_40_method_8_code) (hml : c_.maxLocals = 1) (hown : s.vm.findClass "com/example/tributary/tributary/NodeQueue" = some m.cls) (hnm : meth.name = "requireNotEmpty") (hret : meth.sig.returnType = none) (hlk : meth.locks = false) (e0 : T0.heap = h0) (Z0 : n0 ≤ h0.size) (N0 : Fr n0 locs) (F_size_q : Fld Z h0 q "com/example/tributary/tributary/NodeQueue" "size" "I" (.int (3 : Int32))) :
    Go p e below s ({ frames := 0, cells := 0, slots := 0, locals := 0 } : Room).cells ({ frames := 0, cells := 0, slots := 0, locals := 0 } : Room).slots (fun r h L => r = none ∧ Fr n0 L ∧ h = h0) T0 (mkF m 0 #[.val (.ref q)] []) := by
  show Go _ _ _ _ _ _ _ T0 (mkF m 0 #[.val (.ref q)] [])
  refine Go.step (fun _ k => XS.aloadN X0.here hx rfl (hb hby d14_0) rfl rfl k) ?_
  obtain ⟨T1, X1, e1, st1⟩ := getF X0 hx hZ hown (host := "") (Or.inl (hw _ (mI 51 rfl))) Via.refl e0 F_size_q (g := (mkF m 1 #[.val (.ref q)] [(.ref q)])) rfl rfl (hb hby d14_1)
  refine Go.step st1 ?_
  show Go _ _ _ _ _ _ _ T1 (mkF m 4 #[.val (.ref q)] [(.int (3 : Int32))])
  refine Go.step (fun _ k => XS.ifYes X1.here hx rfl (pc0 := 4) (pc' := 17) rfl (hb hby d14_4) rfl ((if0 _ _).trans (feq (by decide : ¬ ((3 : Int32) = (0 : Int32)))).2) (by decide) (by decide) k) ?_
  show Go _ _ _ _ _ _ _ T1 (mkF m 17 #[.val (.ref q)] [])
  refine Go.retV X1 hx hlk hret (hb hby d14_17) (by decide) (by decide) ?_
  try rw [e1]
  exact ⟨rfl, N0, rfl⟩
theorem ef_rm14_3 (m : MethodId) (q : Addr) : entryFrame m #[(.ref q)] 1 = mkF m 0 #[.val (.ref q)] [] := by first | (simp [entryFrame, mkF, argsToLocals, Value.category]; done) | rfl
theorem rm14_3 (l : Launch) (Z : State) (a0 : Array Value) (hw : ∀ d ∈ tables_1, d.before a0 Z = true) (q : Addr) (h0 : Heap) (n0 : Nat) (Z0 : n0 ≤ h0.size) (F_size_q : Fld Z h0 q "com/example/tributary/tributary/NodeQueue" "size" "I" (.int (3 : Int32))) :
    Con l Z (⟨"com/example/tributary/tributary/NodeQueue", "requireNotEmpty", "()V"⟩ : MethodName) prog_40_method_8_code 1 none ({ frames := 0, cells := 0, slots := 0, locals := 0 } : Room) #[(.ref q)] h0 (fun r h L => r = none ∧ Fr n0 L ∧ h = h0) :=
  con_of (plainFor_of_name pn_12) (fun p_ e_ s_ m_ b_ meth_ c_ T_ X_ hx hZ hby hml hown hnm hret hlk e0 => Go.cast (ef_rm14_3 m_ q) (w14_3 q X_ hx hZ hw hby hml hown hnm hret hlk e0 Z0 (Fr.nil n0) F_size_q))
theorem d13_0 : decode prog_40_method_7_code 0 = .ok (.aload_n 0, 1) := by decide +kernel
theorem d13_1 : decode prog_40_method_7_code 1 = .ok (.invokevirtual 47, 3) := by decide +kernel
theorem pd_7 : parseMethodDescriptor "()V" = some ⟨[], none⟩ := by decide +kernel
theorem d13_4 : decode prog_40_method_7_code 4 = .ok (.aload_n 0, 1) := by decide +kernel
theorem d13_5 : decode prog_40_method_7_code 5 = .ok (.getfield 7, 3) := by decide +kernel
theorem d13_8 : decode prog_40_method_7_code 8 = .ok (.iconst 0, 1) := by decide +kernel
theorem d13_9 : decode prog_40_method_7_code 9 = .ok (.iaload, 1) := by decide +kernel
theorem d13_10 : decode prog_40_method_7_code 10 = .ok (.istore_n 1, 1) := by decide +kernel
theorem d13_11 : decode prog_40_method_7_code 11 = .ok (.aload_n 0, 1) := by decide +kernel
theorem d13_12 : decode prog_40_method_7_code 12 = .ok (.getfield 13, 3) := by decide +kernel
theorem d13_15 : decode prog_40_method_7_code 15 = .ok (.iload_n 1, 1) := by decide +kernel
theorem d13_16 : decode prog_40_method_7_code 16 = .ok (.iconst (-1), 1) := by decide +kernel
theorem d13_17 : decode prog_40_method_7_code 17 = .ok (.iastore, 1) := by decide +kernel
theorem d13_18 : decode prog_40_method_7_code 18 = .ok (.aload_n 0, 1) := by decide +kernel
theorem d13_19 : decode prog_40_method_7_code 19 = .ok (.dup, 1) := by decide +kernel
theorem d13_20 : decode prog_40_method_7_code 20 = .ok (.getfield 20, 3) := by decide +kernel
theorem d13_23 : decode prog_40_method_7_code 23 = .ok (.iconst 1, 1) := by decide +kernel
theorem d13_24 : decode prog_40_method_7_code 24 = .ok (.isub, 1) := by decide +kernel
theorem d13_25 : decode prog_40_method_7_code 25 = .ok (.putfield 20, 3) := by decide +kernel
theorem d13_28 : decode prog_40_method_7_code 28 = .ok (.aload_n 0, 1) := by decide +kernel
theorem d13_29 : decode prog_40_method_7_code 29 = .ok (.getfield 20, 3) := by decide +kernel
theorem d13_32 : decode prog_40_method_7_code 32 = .ok (.ifCond .le 22, 3) := by decide +kernel
theorem d13_54 : decode prog_40_method_7_code 54 = .ok (.iload_n 1, 1) := by decide +kernel
theorem d13_55 : decode prog_40_method_7_code 55 = .ok (.ireturn, 1) := by decide +kernel
set_option maxRecDepth 65536 in
set_option maxHeartbeats 40000000 in
theorem w13_1 {p : Program} {l : Launch} {e : Env} {s : State} {m : MethodId} {args : Array Value} {below : List Frame} {meth : Method} {c_ : Code} {T0 : State} {locs : List Loc} {Z : State} {a0 : Array Value} {h0 : Heap} {n0 : Nat} (q xu xv xw : Addr) (fG fP : Nat → Int32) (fK : Nat → UInt64) (lL : Int32) (B : Int) (fS : Int32 → Prop)
    (X0 : Stand p l e ({ frames := 2, cells := 0, slots := 0, locals := 29 } : Room) s m args below meth c_ T0 locs 0 0) (hx : p.tables.exec = Jvm.exec) (hZ : Z.Warmed39 s.vm) (hw : ∀ d ∈ tables_1, d.before a0 Z = true) (hby : c_.code = prog_40_method_7_code) (hml : c_.maxLocals = 2) (hown : s.vm.findClass "com/example/tributary/tributary/NodeQueue" = some m.cls) (hnm : meth.name = "poll") (hret : meth.sig.returnType = some .int) (hlk : meth.locks = false) (e0 : T0.heap = h0) (Z0 : n0 ≤ h0.size) (N0 : Fr n0 locs) (E_q : Exa Z h0 q "com/example/tributary/tributary/NodeQueue") (F_size_q : Fld Z h0 q "com/example/tributary/tributary/NodeQueue" "size" "I" (.int (1 : Int32))) (F_heap_q : Fld Z h0 q "com/example/tributary/tributary/NodeQueue" "heap" "[I" (.ref xu)) (F_positions_q : Fld Z h0 q "com/example/tributary/tributary/NodeQueue" "positions" "[I" (.ref xv)) (F_keys_q : Fld Z h0 q "com/example/tributary/tributary/NodeQueue" "keys" "[D" (.ref xw)) (V_xu : Iv Z h0 xu (16 : Int32) fG) (V_xv : Iv Z h0 xv lL fP) (V_xw : Dv Z h0 xw lL fK) (ne_q_xu : q ≠ xu) (ne_q_xv : q ≠ xv) (ne_q_xw : q ≠ xw) (ne_xu_xv : xu ≠ xv) (ne_xu_xw : xu ≠ xw) (ne_xv_xw : xv ≠ xw) (ge_q : n0 ≤ q) (ge_xu : n0 ≤ xu) (ge_xv : n0 ≤ xv) (ge_xw : n0 ≤ xw) (hl0 : ¬ lL < (0 : Int32)) (hlB : lL.toInt ≤ B) (hQ : QI 1 fG lL fP fS) :
    Go p e below s ({ frames := 2, cells := 0, slots := 0, locals := 29 } : Room).cells ({ frames := 2, cells := 0, slots := 0, locals := 29 } : Room).slots (fun r h L => ∃ x : Int32, r = some (.int x) ∧ Fr n0 L ∧ Exa Z h q "com/example/tributary/tributary/NodeQueue" ∧ ∃ n', n' ≤ 3 ∧ QS Z h n0 q n' B (fun y => fS y ∧ y ≠ x)) T0 (mkF m 0 #[.val (.ref q), .unset] []) := by
  show Go _ _ _ _ _ _ _ T0 (mkF m 0 #[.val (.ref q), .unset] [])
  refine Go.step (fun _ k => XS.aloadN X0.here hx rfl (hb hby d13_0) rfl rfl k) ?_
  refine Go.callP X0 hx hZ (by rw [hml]; rfl) (y := (⟨"com/example/tributary/tributary/NodeQueue", "requireNotEmpty", "()V"⟩ : MethodName)) (a := q) (argsL := []) (rest := []) hown (hw _ (mI 66 rfl)) (hw _ (mI 67 rfl)) (hw _ (mI 1 rfl)) (hw _ (mI 68 rfl)) (hw _ (mI 2 rfl)) (hw _ (mI 69 rfl)) (by decide) (rm14_1 l Z a0 hw q h0 n0 Z0 F_size_q) e0 E_q (hb hby d13_1) (lenOf pd_7 rfl) rfl rfl (W := 0) (Nat.le_of_eq rfl) (by decide) (by decide) (by decide) (by decide) ?_
  intro v1 T1 L1 X1 Q1
  obtain ⟨rfl, N1q, hh1⟩ := Q1
  have N1 := Fr.app N0 N1q
  show Go _ _ _ _ _ _ _ T1 (mkF m 4 #[.val (.ref q), .unset] [])
  refine Go.step (fun _ k => XS.aloadN X1.here hx rfl (hb hby d13_4) rfl rfl k) ?_
  obtain ⟨T2, X2, e2, st2⟩ := getF X1 hx hZ hown (host := "") (Or.inl (hw _ (mI 10 rfl))) Via.refl hh1 F_heap_q (g := (mkF m 5 #[.val (.ref q), .unset] [(.ref q)])) rfl rfl (hb hby d13_5)
  refine Go.step st2 ?_
  show Go _ _ _ _ _ _ _ T2 (mkF m 8 #[.val (.ref q), .unset] [(.ref xu)])
  refine Go.step (fun _ k => XS.iconst X2.here hx rfl (hb hby d13_8) k) ?_
  refine Go.iaload X2 hx hZ e2 V_xu (j := (0 : Int32)) (v := (fG 0)) (by decide) rfl (hb hby d13_9) ?_
  show Go _ _ _ _ _ _ _ T2 (mkF m 10 #[.val (.ref q), .unset] [(.int (fG 0))])
  refine Go.step (fun _ k => XS.istoreN X2.here hx rfl (hb hby d13_10) rfl (l' := #[.val (.ref q), .val (.int (fG 0))]) rfl k) ?_
  show Go _ _ _ _ _ _ _ T2 (mkF m 11 #[.val (.ref q), .val (.int (fG 0))] [])
  refine Go.step (fun _ k => XS.aloadN X2.here hx rfl (hb hby d13_11) rfl rfl k) ?_
  obtain ⟨T3, X3, e3, st3⟩ := getF X2 hx hZ hown (host := "") (Or.inl (hw _ (mI 12 rfl))) Via.refl e2 F_positions_q (g := (mkF m 12 #[.val (.ref q), .val (.int (fG 0))] [(.ref q)])) rfl rfl (hb hby d13_12)
  refine Go.step st3 ?_
  show Go _ _ _ _ _ _ _ T3 (mkF m 15 #[.val (.ref q), .val (.int (fG 0))] [(.ref xv)])
  refine Go.step (fun _ k => XS.iloadN X3.here hx rfl (hb hby d13_15) rfl k) ?_
  refine Go.step (fun _ k => XS.iconst X3.here hx rfl (hb hby d13_16) k) ?_
  refine Go.iastore X3 hx hZ e3 V_xv (j := (fG 0)) (x := (-1 : Int32)) (hQ.idx (i := 0) (by omega)) (hb hby d13_17) ?_
  intro T4 h4 X4 e4 W4 Vn4
  have V_xv_4 : Iv Z h4 xv lL (updN fP ((fG 0)).toNatClampNeg (-1 : Int32)) := Vn4
  have N4 := Fr.snoc X4 N1 ge_xv
  have E_q_4 := E_q.wr W4
  have F_size_q_4 := F_size_q.other W4 (Or.inl ne_q_xv)
  have F_heap_q_4 := F_heap_q.other W4 (Or.inl ne_q_xv)
  have F_positions_q_4 := F_positions_q.other W4 (Or.inl ne_q_xv)
  have F_keys_q_4 := F_keys_q.other W4 (Or.inl ne_q_xv)
  have V_xu_4 := V_xu.other W4 ne_xu_xv
  have V_xw_4 := V_xw.other W4 (Ne.symm ne_xv_xw)
  have K4 : Keep h0 h4 [q, xu, xv, xw] := (Keep.refl h0 [q, xu, xv, xw]).wr W4 (Or.inl (List.mem_of_getElem? (i := 2) rfl))
  show Go _ _ _ _ _ _ _ T4 (mkF m 18 #[.val (.ref q), .val (.int (fG 0))] [])
  refine Go.step (fun _ k => XS.aloadN X4.here hx rfl (hb hby d13_18) rfl rfl k) ?_
  refine Go.step (fun _ k => XS.dup X4.here hx rfl (hb hby d13_19) rfl rfl k) ?_
  obtain ⟨T5, X5, e5, st5⟩ := getF X4 hx hZ hown (host := "") (Or.inl (hw _ (mI 51 rfl))) Via.refl e4 F_size_q_4 (g := (mkF m 20 #[.val (.ref q), .val (.int (fG 0))] [(.ref q), (.ref q)])) rfl rfl (hb hby d13_20)
  refine Go.step st5 ?_
  show Go _ _ _ _ _ _ _ T5 (mkF m 23 #[.val (.ref q), .val (.int (fG 0))] [(.int (1 : Int32)), (.ref q)])
  refine Go.step (fun _ k => XS.iconst X5.here hx rfl (hb hby d13_23) k) ?_
  refine Go.step (fun _ k => XS.isub X5.here hx rfl (hb hby d13_24) rfl k) ?_
  show Go _ _ _ _ _ _ _ T5 (mkF m 25 #[.val (.ref q), .val (.int (fG 0))] [(.int (0 : Int32)), (.ref q)])
  obtain ⟨T6, h6, X6, e6, W6, st6⟩ := putF X5 hx hZ hown (host := "") (Or.inl (hw _ (mI 51 rfl))) Via.refl e5 F_size_q_4 E_q_4 (Or.inl (hw _ (mI 52 rfl))) (hw _ (mI 1 rfl)) (ty := .int) (by decide) rfl rfl (g := (mkF m 25 #[.val (.ref q), .val (.int (fG 0))] [(.int (0 : Int32)), (.ref q)])) rfl rfl (hb hby d13_25)
  refine Go.step st6 ?_
  have N6 := Fr.snoc X6 N4 ge_q
  have F_size_q_6 := F_size_q_4.same W6
  have E_q_6 := E_q_4.wr W6
  have F_heap_q_6 := F_heap_q_4.other W6 (Or.inr (slot_ne (Or.inl (hw _ (mI 11 rfl))) (Or.inl (hw _ (mI 52 rfl))) (by decide) (t := (.array .int)) (t' := .int) (by decide) (by decide)))
  have F_positions_q_6 := F_positions_q_4.other W6 (Or.inr (slot_ne (Or.inl (hw _ (mI 13 rfl))) (Or.inl (hw _ (mI 52 rfl))) (by decide) (t := (.array .int)) (t' := .int) (by decide) (by decide)))
  have F_keys_q_6 := F_keys_q_4.other W6 (Or.inr (slot_ne (Or.inl (hw _ (mI 16 rfl))) (Or.inl (hw _ (mI 52 rfl))) (by decide) (t := (.array .double)) (t' := .int) (by decide) (by decide)))
  have V_xu_6 := V_xu_4.other W6 (Ne.symm ne_q_xu)
  have V_xv_6 := V_xv_4.other W6 (Ne.symm ne_q_xv)
  have V_xw_6 := V_xw_4.other W6 (Ne.symm ne_q_xw)
  have K6 : Keep h0 h6 [q, xu, xv, xw] := K4.wr W6 (Or.inl (List.mem_of_getElem? (i := 0) rfl))
  show Go _ _ _ _ _ _ _ T6 (mkF m 28 #[.val (.ref q), .val (.int (fG 0))] [])
  refine Go.step (fun _ k => XS.aloadN X6.here hx rfl (hb hby d13_28) rfl rfl k) ?_
  obtain ⟨T7, X7, e7, st7⟩ := getF X6 hx hZ hown (host := "") (Or.inl (hw _ (mI 51 rfl))) Via.refl e6 F_size_q_6 (g := (mkF m 29 #[.val (.ref q), .val (.int (fG 0))] [(.ref q)])) rfl rfl (hb hby d13_29)
  refine Go.step st7 ?_
  show Go _ _ _ _ _ _ _ T7 (mkF m 32 #[.val (.ref q), .val (.int (fG 0))] [(.int (0 : Int32))])
  refine Go.step (fun _ k => XS.ifYes X7.here hx rfl (pc0 := 32) (pc' := 54) rfl (hb hby d13_32) rfl ((if0 _ _).trans (flt (by decide : ¬ ((0 : Int32) < (0 : Int32)))).2.2.2) (by decide) (by decide) k) ?_
  show Go _ _ _ _ _ _ _ T7 (mkF m 54 #[.val (.ref q), .val (.int (fG 0))] [])
  refine Go.step (fun _ k => XS.iloadN X7.here hx rfl (hb hby d13_54) rfl k) ?_
  refine Go.retI X7 hx hlk hret (hb hby d13_55) (by decide) (by decide) ?_
  try rw [e7]
  exact ⟨_, rfl, N6, E_q_6, 0, by decide, xu, xv, xw, _, _, _, lL, ⟨E_q_6, F_size_q_6, F_heap_q_6, F_positions_q_6, F_keys_q_6, V_xu_6, V_xv_6, V_xw_6⟩, ⟨ne_q_xu, ne_q_xv, ne_q_xw, ne_xu_xv, ne_xu_xw, ne_xv_xw, ge_q, ge_xu, ge_xv, ge_xw⟩, hl0, hlB, hQ.take1⟩
theorem ef_rm13_1 (m : MethodId) (q : Addr) : entryFrame m #[(.ref q)] 2 = mkF m 0 #[.val (.ref q), .unset] [] := by first | (simp [entryFrame, mkF, argsToLocals, Value.category]; done) | rfl
theorem rm13_1 (l : Launch) (Z : State) (a0 : Array Value) (hw : ∀ d ∈ tables_1, d.before a0 Z = true) (q xu xv xw : Addr) (fG fP : Nat → Int32) (fK : Nat → UInt64) (lL : Int32) (B : Int) (fS : Int32 → Prop) (h0 : Heap) (n0 : Nat) (Z0 : n0 ≤ h0.size) (E_q : Exa Z h0 q "com/example/tributary/tributary/NodeQueue") (F_size_q : Fld Z h0 q "com/example/tributary/tributary/NodeQueue" "size" "I" (.int (1 : Int32))) (F_heap_q : Fld Z h0 q "com/example/tributary/tributary/NodeQueue" "heap" "[I" (.ref xu)) (F_positions_q : Fld Z h0 q "com/example/tributary/tributary/NodeQueue" "positions" "[I" (.ref xv)) (F_keys_q : Fld Z h0 q "com/example/tributary/tributary/NodeQueue" "keys" "[D" (.ref xw)) (V_xu : Iv Z h0 xu (16 : Int32) fG) (V_xv : Iv Z h0 xv lL fP) (V_xw : Dv Z h0 xw lL fK) (ne_q_xu : q ≠ xu) (ne_q_xv : q ≠ xv) (ne_q_xw : q ≠ xw) (ne_xu_xv : xu ≠ xv) (ne_xu_xw : xu ≠ xw) (ne_xv_xw : xv ≠ xw) (ge_q : n0 ≤ q) (ge_xu : n0 ≤ xu) (ge_xv : n0 ≤ xv) (ge_xw : n0 ≤ xw) (hl0 : ¬ lL < (0 : Int32)) (hlB : lL.toInt ≤ B) (hQ : QI 1 fG lL fP fS) :
    Con l Z (⟨"com/example/tributary/tributary/NodeQueue", "poll", "()I"⟩ : MethodName) prog_40_method_7_code 2 (some .int) ({ frames := 2, cells := 0, slots := 0, locals := 29 } : Room) #[(.ref q)] h0 (fun r h L => ∃ x : Int32, r = some (.int x) ∧ Fr n0 L ∧ Exa Z h q "com/example/tributary/tributary/NodeQueue" ∧ ∃ n', n' ≤ 3 ∧ QS Z h n0 q n' B (fun y => fS y ∧ y ≠ x)) :=
  con_of (plainFor_of_name pn_12) (fun p_ e_ s_ m_ b_ meth_ c_ T_ X_ hx hZ hby hml hown hnm hret hlk e0 => Go.cast (ef_rm13_1 m_ q) (w13_1 q xu xv xw fG fP fK lL B fS X_ hx hZ hw hby hml hown hnm hret hlk e0 Z0 (Fr.nil n0) E_q F_size_q F_heap_q F_positions_q F_keys_q V_xu V_xv V_xw ne_q_xu ne_q_xv ne_q_xw ne_xu_xv ne_xu_xw ne_xv_xw ge_q ge_xu ge_xv ge_xw hl0 hlB hQ))
theorem d13_35 : decode prog_40_method_7_code 35 = .ok (.aload_n 0, 1) := by decide +kernel
theorem d13_36 : decode prog_40_method_7_code 36 = .ok (.aload_n 0, 1) := by decide +kernel
theorem d13_37 : decode prog_40_method_7_code 37 = .ok (.getfield 7, 3) := by decide +kernel
theorem d13_40 : decode prog_40_method_7_code 40 = .ok (.aload_n 0, 1) := by decide +kernel
theorem d13_41 : decode prog_40_method_7_code 41 = .ok (.getfield 20, 3) := by decide +kernel
theorem d13_44 : decode prog_40_method_7_code 44 = .ok (.iaload, 1) := by decide +kernel
theorem d13_45 : decode prog_40_method_7_code 45 = .ok (.iconst 0, 1) := by decide +kernel
theorem d13_46 : decode prog_40_method_7_code 46 = .ok (.invokevirtual 50, 3) := by decide +kernel
theorem d13_49 : decode prog_40_method_7_code 49 = .ok (.aload_n 0, 1) := by decide +kernel
theorem d13_50 : decode prog_40_method_7_code 50 = .ok (.iconst 0, 1) := by decide +kernel
theorem d13_51 : decode prog_40_method_7_code 51 = .ok (.invokevirtual 54, 3) := by decide +kernel
set_option maxRecDepth 65536 in
set_option maxHeartbeats 40000000 in
theorem w13_2 {p : Program} {l : Launch} {e : Env} {s : State} {m : MethodId} {args : Array Value} {below : List Frame} {meth : Method} {c_ : Code} {T0 : State} {locs : List Loc} {Z : State} {a0 : Array Value} {h0 : Heap} {n0 : Nat} (q xu xv xw : Addr) (fG fP : Nat → Int32) (fK : Nat → UInt64) (lL : Int32) (B : Int) (fS : Int32 → Prop)
    (X0 : Stand p l e ({ frames := 2, cells := 0, slots := 0, locals := 29 } : Room) s m args below meth c_ T0 locs 0 0) (hx : p.tables.exec = Jvm.exec) (hZ : Z.Warmed39 s.vm) (hw : ∀ d ∈ tables_1, d.before a0 Z = true) (hby : c_.code = prog_40_method_7_code) (hml : c_.maxLocals = 2) (hown : s.vm.findClass "com/example/tributary/tributary/NodeQueue" = some m.cls) (hnm : meth.name = "poll") (hret : meth.sig.returnType = some .int) (hlk : meth.locks = false) (e0 : T0.heap = h0) (Z0 : n0 ≤ h0.size) (N0 : Fr n0 locs) (E_q : Exa Z h0 q "com/example/tributary/tributary/NodeQueue") (F_size_q : Fld Z h0 q "com/example/tributary/tributary/NodeQueue" "size" "I" (.int (2 : Int32))) (F_heap_q : Fld Z h0 q "com/example/tributary/tributary/NodeQueue" "heap" "[I" (.ref xu)) (F_positions_q : Fld Z h0 q "com/example/tributary/tributary/NodeQueue" "positions" "[I" (.ref xv)) (F_keys_q : Fld Z h0 q "com/example/tributary/tributary/NodeQueue" "keys" "[D" (.ref xw)) (V_xu : Iv Z h0 xu (16 : Int32) fG) (V_xv : Iv Z h0 xv lL fP) (V_xw : Dv Z h0 xw lL fK) (ne_q_xu : q ≠ xu) (ne_q_xv : q ≠ xv) (ne_q_xw : q ≠ xw) (ne_xu_xv : xu ≠ xv) (ne_xu_xw : xu ≠ xw) (ne_xv_xw : xv ≠ xw) (ge_q : n0 ≤ q) (ge_xu : n0 ≤ xu) (ge_xv : n0 ≤ xv) (ge_xw : n0 ≤ xw) (hl0 : ¬ lL < (0 : Int32)) (hlB : lL.toInt ≤ B) (hQ : QI 2 fG lL fP fS) :
    Go p e below s ({ frames := 2, cells := 0, slots := 0, locals := 29 } : Room).cells ({ frames := 2, cells := 0, slots := 0, locals := 29 } : Room).slots (fun r h L => ∃ x : Int32, r = some (.int x) ∧ Fr n0 L ∧ Exa Z h q "com/example/tributary/tributary/NodeQueue" ∧ ∃ n', n' ≤ 3 ∧ QS Z h n0 q n' B (fun y => fS y ∧ y ≠ x)) T0 (mkF m 0 #[.val (.ref q), .unset] []) := by
  show Go _ _ _ _ _ _ _ T0 (mkF m 0 #[.val (.ref q), .unset] [])
  refine Go.step (fun _ k => XS.aloadN X0.here hx rfl (hb hby d13_0) rfl rfl k) ?_
  refine Go.callP X0 hx hZ (by rw [hml]; rfl) (y := (⟨"com/example/tributary/tributary/NodeQueue", "requireNotEmpty", "()V"⟩ : MethodName)) (a := q) (argsL := []) (rest := []) hown (hw _ (mI 66 rfl)) (hw _ (mI 67 rfl)) (hw _ (mI 1 rfl)) (hw _ (mI 68 rfl)) (hw _ (mI 2 rfl)) (hw _ (mI 69 rfl)) (by decide) (rm14_2 l Z a0 hw q h0 n0 Z0 F_size_q) e0 E_q (hb hby d13_1) (lenOf pd_7 rfl) rfl rfl (W := 0) (Nat.le_of_eq rfl) (by decide) (by decide) (by decide) (by decide) ?_
  intro v1 T1 L1 X1 Q1
  obtain ⟨rfl, N1q, hh1⟩ := Q1
  have N1 := Fr.app N0 N1q
  show Go _ _ _ _ _ _ _ T1 (mkF m 4 #[.val (.ref q), .unset] [])
  refine Go.step (fun _ k => XS.aloadN X1.here hx rfl (hb hby d13_4) rfl rfl k) ?_
  obtain ⟨T2, X2, e2, st2⟩ := getF X1 hx hZ hown (host := "") (Or.inl (hw _ (mI 10 rfl))) Via.refl hh1 F_heap_q (g := (mkF m 5 #[.val (.ref q), .unset] [(.ref q)])) rfl rfl (hb hby d13_5)
  refine Go.step st2 ?_
  show Go _ _ _ _ _ _ _ T2 (mkF m 8 #[.val (.ref q), .unset] [(.ref xu)])
  refine Go.step (fun _ k => XS.iconst X2.here hx rfl (hb hby d13_8) k) ?_
  refine Go.iaload X2 hx hZ e2 V_xu (j := (0 : Int32)) (v := (fG 0)) (by decide) rfl (hb hby d13_9) ?_
  show Go _ _ _ _ _ _ _ T2 (mkF m 10 #[.val (.ref q), .unset] [(.int (fG 0))])
  refine Go.step (fun _ k => XS.istoreN X2.here hx rfl (hb hby d13_10) rfl (l' := #[.val (.ref q), .val (.int (fG 0))]) rfl k) ?_
  show Go _ _ _ _ _ _ _ T2 (mkF m 11 #[.val (.ref q), .val (.int (fG 0))] [])
  refine Go.step (fun _ k => XS.aloadN X2.here hx rfl (hb hby d13_11) rfl rfl k) ?_
  obtain ⟨T3, X3, e3, st3⟩ := getF X2 hx hZ hown (host := "") (Or.inl (hw _ (mI 12 rfl))) Via.refl e2 F_positions_q (g := (mkF m 12 #[.val (.ref q), .val (.int (fG 0))] [(.ref q)])) rfl rfl (hb hby d13_12)
  refine Go.step st3 ?_
  show Go _ _ _ _ _ _ _ T3 (mkF m 15 #[.val (.ref q), .val (.int (fG 0))] [(.ref xv)])
  refine Go.step (fun _ k => XS.iloadN X3.here hx rfl (hb hby d13_15) rfl k) ?_
  refine Go.step (fun _ k => XS.iconst X3.here hx rfl (hb hby d13_16) k) ?_
  refine Go.iastore X3 hx hZ e3 V_xv (j := (fG 0)) (x := (-1 : Int32)) (hQ.idx (i := 0) (by omega)) (hb hby d13_17) ?_
  intro T4 h4 X4 e4 W4 Vn4
  have V_xv_4 : Iv Z h4 xv lL (updN fP ((fG 0)).toNatClampNeg (-1 : Int32)) := Vn4
  have N4 := Fr.snoc X4 N1 ge_xv
  have E_q_4 := E_q.wr W4
  have F_size_q_4 := F_size_q.other W4 (Or.inl ne_q_xv)
  have F_heap_q_4 := F_heap_q.other W4 (Or.inl ne_q_xv)
  have F_positions_q_4 := F_positions_q.other W4 (Or.inl ne_q_xv)
  have F_keys_q_4 := F_keys_q.other W4 (Or.inl ne_q_xv)
  have V_xu_4 := V_xu.other W4 ne_xu_xv
  have V_xw_4 := V_xw.other W4 (Ne.symm ne_xv_xw)
  have K4 : Keep h0 h4 [q, xu, xv, xw] := (Keep.refl h0 [q, xu, xv, xw]).wr W4 (Or.inl (List.mem_of_getElem? (i := 2) rfl))
  show Go _ _ _ _ _ _ _ T4 (mkF m 18 #[.val (.ref q), .val (.int (fG 0))] [])
  refine Go.step (fun _ k => XS.aloadN X4.here hx rfl (hb hby d13_18) rfl rfl k) ?_
  refine Go.step (fun _ k => XS.dup X4.here hx rfl (hb hby d13_19) rfl rfl k) ?_
  obtain ⟨T5, X5, e5, st5⟩ := getF X4 hx hZ hown (host := "") (Or.inl (hw _ (mI 51 rfl))) Via.refl e4 F_size_q_4 (g := (mkF m 20 #[.val (.ref q), .val (.int (fG 0))] [(.ref q), (.ref q)])) rfl rfl (hb hby d13_20)
  refine Go.step st5 ?_
  show Go _ _ _ _ _ _ _ T5 (mkF m 23 #[.val (.ref q), .val (.int (fG 0))] [(.int (2 : Int32)), (.ref q)])
  refine Go.step (fun _ k => XS.iconst X5.here hx rfl (hb hby d13_23) k) ?_
  refine Go.step (fun _ k => XS.isub X5.here hx rfl (hb hby d13_24) rfl k) ?_
  show Go _ _ _ _ _ _ _ T5 (mkF m 25 #[.val (.ref q), .val (.int (fG 0))] [(.int (1 : Int32)), (.ref q)])
  obtain ⟨T6, h6, X6, e6, W6, st6⟩ := putF X5 hx hZ hown (host := "") (Or.inl (hw _ (mI 51 rfl))) Via.refl e5 F_size_q_4 E_q_4 (Or.inl (hw _ (mI 52 rfl))) (hw _ (mI 1 rfl)) (ty := .int) (by decide) rfl rfl (g := (mkF m 25 #[.val (.ref q), .val (.int (fG 0))] [(.int (1 : Int32)), (.ref q)])) rfl rfl (hb hby d13_25)
  refine Go.step st6 ?_
  have N6 := Fr.snoc X6 N4 ge_q
  have F_size_q_6 := F_size_q_4.same W6
  have E_q_6 := E_q_4.wr W6
  have F_heap_q_6 := F_heap_q_4.other W6 (Or.inr (slot_ne (Or.inl (hw _ (mI 11 rfl))) (Or.inl (hw _ (mI 52 rfl))) (by decide) (t := (.array .int)) (t' := .int) (by decide) (by decide)))
  have F_positions_q_6 := F_positions_q_4.other W6 (Or.inr (slot_ne (Or.inl (hw _ (mI 13 rfl))) (Or.inl (hw _ (mI 52 rfl))) (by decide) (t := (.array .int)) (t' := .int) (by decide) (by decide)))
  have F_keys_q_6 := F_keys_q_4.other W6 (Or.inr (slot_ne (Or.inl (hw _ (mI 16 rfl))) (Or.inl (hw _ (mI 52 rfl))) (by decide) (t := (.array .double)) (t' := .int) (by decide) (by decide)))
  have V_xu_6 := V_xu_4.other W6 (Ne.symm ne_q_xu)
  have V_xv_6 := V_xv_4.other W6 (Ne.symm ne_q_xv)
  have V_xw_6 := V_xw_4.other W6 (Ne.symm ne_q_xw)
  have K6 : Keep h0 h6 [q, xu, xv, xw] := K4.wr W6 (Or.inl (List.mem_of_getElem? (i := 0) rfl))
  show Go _ _ _ _ _ _ _ T6 (mkF m 28 #[.val (.ref q), .val (.int (fG 0))] [])
  refine Go.step (fun _ k => XS.aloadN X6.here hx rfl (hb hby d13_28) rfl rfl k) ?_
  obtain ⟨T7, X7, e7, st7⟩ := getF X6 hx hZ hown (host := "") (Or.inl (hw _ (mI 51 rfl))) Via.refl e6 F_size_q_6 (g := (mkF m 29 #[.val (.ref q), .val (.int (fG 0))] [(.ref q)])) rfl rfl (hb hby d13_29)
  refine Go.step st7 ?_
  show Go _ _ _ _ _ _ _ T7 (mkF m 32 #[.val (.ref q), .val (.int (fG 0))] [(.int (1 : Int32))])
  refine Go.step (fun _ k => XS.ifNo X7.here hx rfl (hb hby d13_32) rfl ((if0 _ _).trans (tlt (by decide : (0 : Int32) < (1 : Int32))).2.2.2) k) ?_
  show Go _ _ _ _ _ _ _ T7 (mkF m 35 #[.val (.ref q), .val (.int (fG 0))] [])
  refine Go.step (fun _ k => XS.aloadN X7.here hx rfl (hb hby d13_35) rfl rfl k) ?_
  refine Go.step (fun _ k => XS.aloadN X7.here hx rfl (hb hby d13_36) rfl rfl k) ?_
  obtain ⟨T8, X8, e8, st8⟩ := getF X7 hx hZ hown (host := "") (Or.inl (hw _ (mI 10 rfl))) Via.refl e7 F_heap_q_6 (g := (mkF m 37 #[.val (.ref q), .val (.int (fG 0))] [(.ref q), (.ref q)])) rfl rfl (hb hby d13_37)
  refine Go.step st8 ?_
  show Go _ _ _ _ _ _ _ T8 (mkF m 40 #[.val (.ref q), .val (.int (fG 0))] [(.ref xu), (.ref q)])
  refine Go.step (fun _ k => XS.aloadN X8.here hx rfl (hb hby d13_40) rfl rfl k) ?_
  obtain ⟨T9, X9, e9, st9⟩ := getF X8 hx hZ hown (host := "") (Or.inl (hw _ (mI 51 rfl))) Via.refl e8 F_size_q_6 (g := (mkF m 41 #[.val (.ref q), .val (.int (fG 0))] [(.ref q), (.ref xu), (.ref q)])) rfl rfl (hb hby d13_41)
  refine Go.step st9 ?_
  show Go _ _ _ _ _ _ _ T9 (mkF m 44 #[.val (.ref q), .val (.int (fG 0))] [(.int (1 : Int32)), (.ref xu), (.ref q)])
  refine Go.iaload X9 hx hZ e9 V_xu_6 (j := (1 : Int32)) (v := (fG 1)) (by decide) rfl (hb hby d13_44) ?_
  show Go _ _ _ _ _ _ _ T9 (mkF m 45 #[.val (.ref q), .val (.int (fG 0))] [(.int (fG 1)), (.ref q)])
  refine Go.step (fun _ k => XS.iconst X9.here hx rfl (hb hby d13_45) k) ?_
  refine Go.callP X9 hx hZ (by rw [hml]; rfl) (y := (⟨"com/example/tributary/tributary/NodeQueue", "place", "(II)V"⟩ : MethodName)) (a := q) (argsL := [(.int (fG 1)), (.int (0 : Int32))]) (rest := []) hown (hw _ (mI 57 rfl)) (hw _ (mI 58 rfl)) (hw _ (mI 1 rfl)) (hw _ (mI 59 rfl)) (hw _ (mI 2 rfl)) (hw _ (mI 60 rfl)) (by decide) (rm12 l Z a0 hw q xu xv fG (updN fP ((fG 0)).toNatClampNeg (-1 : Int32)) lL (fG 1) (0 : Int32) h6 n0 (Nat.le_trans Z0 (K6 : Keep h0 h6 [q, xu, xv, xw]).1) F_heap_q_6 F_positions_q_6 V_xu_6 V_xv_6 ne_q_xu ne_q_xv ne_xu_xv ge_xu ge_xv (by decide) (hQ.idx (i := 1) (by omega))) e9 E_q_6 (hb hby d13_46) (lenOf pd_2 rfl) rfl rfl (W := 0) (Nat.le_of_eq rfl) (by decide) (by decide) (by decide) (by decide) ?_
  intro v10 T10 L10 X10 Q10
  obtain ⟨rfl, N10q, Kc10, Vu10, Vv10⟩ := Q10
  have N10 := Fr.app N6 N10q
  have E_q_10 := E_q_6.keep Kc10
  have F_size_q_10 := F_size_q_6.keep Kc10 (ninS ne_q_xu (ninS ne_q_xv nin0))
  have F_heap_q_10 := F_heap_q_6.keep Kc10 (ninS ne_q_xu (ninS ne_q_xv nin0))
  have F_positions_q_10 := F_positions_q_6.keep Kc10 (ninS ne_q_xu (ninS ne_q_xv nin0))
  have F_keys_q_10 := F_keys_q_6.keep Kc10 (ninS ne_q_xu (ninS ne_q_xv nin0))
  have V_xw_10 := V_xw_6.keep Kc10 (ninS (Ne.symm ne_xu_xw) (ninS (Ne.symm ne_xv_xw) nin0))
  have KK10 : Keep h0 T10.heap [q, xu, xv, xw] := (K6 : Keep h0 h6 [q, xu, xv, xw]).trans Kc10 (allS (Or.inl (List.mem_of_getElem? (i := 1) rfl)) (allS (Or.inl (List.mem_of_getElem? (i := 2) rfl)) all0))
  have Vu10 : Iv Z T10.heap xu (16 : Int32) (updN fG 0 (fG 1)) := Vu10
  show Go _ _ _ _ _ _ _ T10 (mkF m 49 #[.val (.ref q), .val (.int (fG 0))] [])
  refine Go.step (fun _ k => XS.aloadN X10.here hx rfl (hb hby d13_49) rfl rfl k) ?_
  refine Go.step (fun _ k => XS.iconst X10.here hx rfl (hb hby d13_50) k) ?_
  have hQ2 := hQ.take (by decide) (by decide)
  refine Go.callP X10 hx hZ (by rw [hml]; rfl) (y := (⟨"com/example/tributary/tributary/NodeQueue", "siftDown", "(I)V"⟩ : MethodName)) (a := q) (argsL := [(.int (0 : Int32))]) (rest := []) hown (hw _ (mI 70 rfl)) (hw _ (mI 71 rfl)) (hw _ (mI 1 rfl)) (hw _ (mI 72 rfl)) (hw _ (mI 2 rfl)) (hw _ (mI 73 rfl)) (by decide) (rmD1 l Z a0 hw q xu xv xw (updN fG 0 (fG 1)) (updN (updN fP ((fG 0)).toNatClampNeg (-1 : Int32)) ((fG 1)).toNatClampNeg (0 : Int32)) fK lL (fun y => fS y ∧ y ≠ fG 0) T10.heap n0 (Nat.le_trans Z0 (KK10 : Keep h0 T10.heap [q, xu, xv, xw]).1) E_q_10 F_size_q_10 F_heap_q_10 F_positions_q_10 F_keys_q_10 Vu10 Vv10 V_xw_10 ne_q_xu ne_q_xv ne_q_xw ne_xu_xv ne_xu_xw ne_xv_xw ge_q ge_xu ge_xv ge_xw hQ2) rfl E_q_10 (hb hby d13_51) (lenOf pd_3 rfl) rfl rfl (W := 0) (Nat.le_of_eq rfl) (by decide) (by decide) (by decide) (by decide) ?_
  intro v11 T11 L11 X11 Q11
  obtain ⟨rfl, N11q, Kc11, g11x, P11x, Vu11, Vv11, hQ11⟩ := Q11
  have N11 := Fr.app N10 N11q
  have E_q_11 := E_q_10.keep Kc11
  have F_size_q_11 := F_size_q_10.keep Kc11 (ninS ne_q_xu (ninS ne_q_xv nin0))
  have F_heap_q_11 := F_heap_q_10.keep Kc11 (ninS ne_q_xu (ninS ne_q_xv nin0))
  have F_positions_q_11 := F_positions_q_10.keep Kc11 (ninS ne_q_xu (ninS ne_q_xv nin0))
  have F_keys_q_11 := F_keys_q_10.keep Kc11 (ninS ne_q_xu (ninS ne_q_xv nin0))
  have V_xw_11 := V_xw_10.keep Kc11 (ninS (Ne.symm ne_xu_xw) (ninS (Ne.symm ne_xv_xw) nin0))
  have KK11 : Keep h0 T11.heap [q, xu, xv, xw] := (KK10 : Keep h0 T10.heap [q, xu, xv, xw]).trans Kc11 (allS (Or.inl (List.mem_of_getElem? (i := 1) rfl)) (allS (Or.inl (List.mem_of_getElem? (i := 2) rfl)) all0))
  show Go _ _ _ _ _ _ _ T11 (mkF m 54 #[.val (.ref q), .val (.int (fG 0))] [])
  refine Go.step (fun _ k => XS.iloadN X11.here hx rfl (hb hby d13_54) rfl k) ?_
  refine Go.retI X11 hx hlk hret (hb hby d13_55) (by decide) (by decide) ?_
  exact ⟨_, rfl, N11, E_q_11, 1, by decide, xu, xv, xw, _, _, _, lL, ⟨E_q_11, F_size_q_11, F_heap_q_11, F_positions_q_11, F_keys_q_11, Vu11, Vv11, V_xw_11⟩, ⟨ne_q_xu, ne_q_xv, ne_q_xw, ne_xu_xv, ne_xu_xw, ne_xv_xw, ge_q, ge_xu, ge_xv, ge_xw⟩, hl0, hlB, hQ11⟩
theorem ef_rm13_2 (m : MethodId) (q : Addr) : entryFrame m #[(.ref q)] 2 = mkF m 0 #[.val (.ref q), .unset] [] := by first | (simp [entryFrame, mkF, argsToLocals, Value.category]; done) | rfl
theorem rm13_2 (l : Launch) (Z : State) (a0 : Array Value) (hw : ∀ d ∈ tables_1, d.before a0 Z = true) (q xu xv xw : Addr) (fG fP : Nat → Int32) (fK : Nat → UInt64) (lL : Int32) (B : Int) (fS : Int32 → Prop) (h0 : Heap) (n0 : Nat) (Z0 : n0 ≤ h0.size) (E_q : Exa Z h0 q "com/example/tributary/tributary/NodeQueue") (F_size_q : Fld Z h0 q "com/example/tributary/tributary/NodeQueue" "size" "I" (.int (2 : Int32))) (F_heap_q : Fld Z h0 q "com/example/tributary/tributary/NodeQueue" "heap" "[I" (.ref xu)) (F_positions_q : Fld Z h0 q "com/example/tributary/tributary/NodeQueue" "positions" "[I" (.ref xv)) (F_keys_q : Fld Z h0 q "com/example/tributary/tributary/NodeQueue" "keys" "[D" (.ref xw)) (V_xu : Iv Z h0 xu (16 : Int32) fG) (V_xv : Iv Z h0 xv lL fP) (V_xw : Dv Z h0 xw lL fK) (ne_q_xu : q ≠ xu) (ne_q_xv : q ≠ xv) (ne_q_xw : q ≠ xw) (ne_xu_xv : xu ≠ xv) (ne_xu_xw : xu ≠ xw) (ne_xv_xw : xv ≠ xw) (ge_q : n0 ≤ q) (ge_xu : n0 ≤ xu) (ge_xv : n0 ≤ xv) (ge_xw : n0 ≤ xw) (hl0 : ¬ lL < (0 : Int32)) (hlB : lL.toInt ≤ B) (hQ : QI 2 fG lL fP fS) :
    Con l Z (⟨"com/example/tributary/tributary/NodeQueue", "poll", "()I"⟩ : MethodName) prog_40_method_7_code 2 (some .int) ({ frames := 2, cells := 0, slots := 0, locals := 29 } : Room) #[(.ref q)] h0 (fun r h L => ∃ x : Int32, r = some (.int x) ∧ Fr n0 L ∧ Exa Z h q "com/example/tributary/tributary/NodeQueue" ∧ ∃ n', n' ≤ 3 ∧ QS Z h n0 q n' B (fun y => fS y ∧ y ≠ x)) :=
  con_of (plainFor_of_name pn_12) (fun p_ e_ s_ m_ b_ meth_ c_ T_ X_ hx hZ hby hml hown hnm hret hlk e0 => Go.cast (ef_rm13_2 m_ q) (w13_2 q xu xv xw fG fP fK lL B fS X_ hx hZ hw hby hml hown hnm hret hlk e0 Z0 (Fr.nil n0) E_q F_size_q F_heap_q F_positions_q F_keys_q V_xu V_xv V_xw ne_q_xu ne_q_xv ne_q_xw ne_xu_xv ne_xu_xw ne_xv_xw ge_q ge_xu ge_xv ge_xw hl0 hlB hQ))
set_option maxRecDepth 65536 in
set_option maxHeartbeats 40000000 in
theorem w13_3 {p : Program} {l : Launch} {e : Env} {s : State} {m : MethodId} {args : Array Value} {below : List Frame} {meth : Method} {c_ : Code} {T0 : State} {locs : List Loc} {Z : State} {a0 : Array Value} {h0 : Heap} {n0 : Nat} (q xu xv xw : Addr) (fG fP : Nat → Int32) (fK : Nat → UInt64) (lL : Int32) (B : Int) (fS : Int32 → Prop)
    (X0 : Stand p l e ({ frames := 2, cells := 0, slots := 0, locals := 29 } : Room) s m args below meth c_ T0 locs 0 0) (hx : p.tables.exec = Jvm.exec) (hZ : Z.Warmed39 s.vm) (hw : ∀ d ∈ tables_1, d.before a0 Z = true) (hby : c_.code = prog_40_method_7_code) (hml : c_.maxLocals = 2) (hown : s.vm.findClass "com/example/tributary/tributary/NodeQueue" = some m.cls) (hnm : meth.name = "poll") (hret : meth.sig.returnType = some .int) (hlk : meth.locks = false) (e0 : T0.heap = h0) (Z0 : n0 ≤ h0.size) (N0 : Fr n0 locs) (E_q : Exa Z h0 q "com/example/tributary/tributary/NodeQueue") (F_size_q : Fld Z h0 q "com/example/tributary/tributary/NodeQueue" "size" "I" (.int (3 : Int32))) (F_heap_q : Fld Z h0 q "com/example/tributary/tributary/NodeQueue" "heap" "[I" (.ref xu)) (F_positions_q : Fld Z h0 q "com/example/tributary/tributary/NodeQueue" "positions" "[I" (.ref xv)) (F_keys_q : Fld Z h0 q "com/example/tributary/tributary/NodeQueue" "keys" "[D" (.ref xw)) (V_xu : Iv Z h0 xu (16 : Int32) fG) (V_xv : Iv Z h0 xv lL fP) (V_xw : Dv Z h0 xw lL fK) (ne_q_xu : q ≠ xu) (ne_q_xv : q ≠ xv) (ne_q_xw : q ≠ xw) (ne_xu_xv : xu ≠ xv) (ne_xu_xw : xu ≠ xw) (ne_xv_xw : xv ≠ xw) (ge_q : n0 ≤ q) (ge_xu : n0 ≤ xu) (ge_xv : n0 ≤ xv) (ge_xw : n0 ≤ xw) (hl0 : ¬ lL < (0 : Int32)) (hlB : lL.toInt ≤ B) (hQ : QI 3 fG lL fP fS) :
    Go p e below s ({ frames := 2, cells := 0, slots := 0, locals := 29 } : Room).cells ({ frames := 2, cells := 0, slots := 0, locals := 29 } : Room).slots (fun r h L => ∃ x : Int32, r = some (.int x) ∧ Fr n0 L ∧ Exa Z h q "com/example/tributary/tributary/NodeQueue" ∧ ∃ n', n' ≤ 3 ∧ QS Z h n0 q n' B (fun y => fS y ∧ y ≠ x)) T0 (mkF m 0 #[.val (.ref q), .unset] []) := by
  show Go _ _ _ _ _ _ _ T0 (mkF m 0 #[.val (.ref q), .unset] [])
  refine Go.step (fun _ k => XS.aloadN X0.here hx rfl (hb hby d13_0) rfl rfl k) ?_
  refine Go.callP X0 hx hZ (by rw [hml]; rfl) (y := (⟨"com/example/tributary/tributary/NodeQueue", "requireNotEmpty", "()V"⟩ : MethodName)) (a := q) (argsL := []) (rest := []) hown (hw _ (mI 66 rfl)) (hw _ (mI 67 rfl)) (hw _ (mI 1 rfl)) (hw _ (mI 68 rfl)) (hw _ (mI 2 rfl)) (hw _ (mI 69 rfl)) (by decide) (rm14_3 l Z a0 hw q h0 n0 Z0 F_size_q) e0 E_q (hb hby d13_1) (lenOf pd_7 rfl) rfl rfl (W := 0) (Nat.le_of_eq rfl) (by decide) (by decide) (by decide) (by decide) ?_
  intro v1 T1 L1 X1 Q1
  obtain ⟨rfl, N1q, hh1⟩ := Q1
  have N1 := Fr.app N0 N1q
  show Go _ _ _ _ _ _ _ T1 (mkF m 4 #[.val (.ref q), .unset] [])
  refine Go.step (fun _ k => XS.aloadN X1.here hx rfl (hb hby d13_4) rfl rfl k) ?_
  obtain ⟨T2, X2, e2, st2⟩ := getF X1 hx hZ hown (host := "") (Or.inl (hw _ (mI 10 rfl))) Via.refl hh1 F_heap_q (g := (mkF m 5 #[.val (.ref q), .unset] [(.ref q)])) rfl rfl (hb hby d13_5)
  refine Go.step st2 ?_
  show Go _ _ _ _ _ _ _ T2 (mkF m 8 #[.val (.ref q), .unset] [(.ref xu)])
  refine Go.step (fun _ k => XS.iconst X2.here hx rfl (hb hby d13_8) k) ?_
  refine Go.iaload X2 hx hZ e2 V_xu (j := (0 : Int32)) (v := (fG 0)) (by decide) rfl (hb hby d13_9) ?_
  show Go _ _ _ _ _ _ _ T2 (mkF m 10 #[.val (.ref q), .unset] [(.int (fG 0))])
  refine Go.step (fun _ k => XS.istoreN X2.here hx rfl (hb hby d13_10) rfl (l' := #[.val (.ref q), .val (.int (fG 0))]) rfl k) ?_
  show Go _ _ _ _ _ _ _ T2 (mkF m 11 #[.val (.ref q), .val (.int (fG 0))] [])
  refine Go.step (fun _ k => XS.aloadN X2.here hx rfl (hb hby d13_11) rfl rfl k) ?_
  obtain ⟨T3, X3, e3, st3⟩ := getF X2 hx hZ hown (host := "") (Or.inl (hw _ (mI 12 rfl))) Via.refl e2 F_positions_q (g := (mkF m 12 #[.val (.ref q), .val (.int (fG 0))] [(.ref q)])) rfl rfl (hb hby d13_12)
  refine Go.step st3 ?_
  show Go _ _ _ _ _ _ _ T3 (mkF m 15 #[.val (.ref q), .val (.int (fG 0))] [(.ref xv)])
  refine Go.step (fun _ k => XS.iloadN X3.here hx rfl (hb hby d13_15) rfl k) ?_
  refine Go.step (fun _ k => XS.iconst X3.here hx rfl (hb hby d13_16) k) ?_
  refine Go.iastore X3 hx hZ e3 V_xv (j := (fG 0)) (x := (-1 : Int32)) (hQ.idx (i := 0) (by omega)) (hb hby d13_17) ?_
  intro T4 h4 X4 e4 W4 Vn4
  have V_xv_4 : Iv Z h4 xv lL (updN fP ((fG 0)).toNatClampNeg (-1 : Int32)) := Vn4
  have N4 := Fr.snoc X4 N1 ge_xv
  have E_q_4 := E_q.wr W4
  have F_size_q_4 := F_size_q.other W4 (Or.inl ne_q_xv)
  have F_heap_q_4 := F_heap_q.other W4 (Or.inl ne_q_xv)
  have F_positions_q_4 := F_positions_q.other W4 (Or.inl ne_q_xv)
  have F_keys_q_4 := F_keys_q.other W4 (Or.inl ne_q_xv)
  have V_xu_4 := V_xu.other W4 ne_xu_xv
  have V_xw_4 := V_xw.other W4 (Ne.symm ne_xv_xw)
  have K4 : Keep h0 h4 [q, xu, xv, xw] := (Keep.refl h0 [q, xu, xv, xw]).wr W4 (Or.inl (List.mem_of_getElem? (i := 2) rfl))
  show Go _ _ _ _ _ _ _ T4 (mkF m 18 #[.val (.ref q), .val (.int (fG 0))] [])
  refine Go.step (fun _ k => XS.aloadN X4.here hx rfl (hb hby d13_18) rfl rfl k) ?_
  refine Go.step (fun _ k => XS.dup X4.here hx rfl (hb hby d13_19) rfl rfl k) ?_
  obtain ⟨T5, X5, e5, st5⟩ := getF X4 hx hZ hown (host := "") (Or.inl (hw _ (mI 51 rfl))) Via.refl e4 F_size_q_4 (g := (mkF m 20 #[.val (.ref q), .val (.int (fG 0))] [(.ref q), (.ref q)])) rfl rfl (hb hby d13_20)
  refine Go.step st5 ?_
  show Go _ _ _ _ _ _ _ T5 (mkF m 23 #[.val (.ref q), .val (.int (fG 0))] [(.int (3 : Int32)), (.ref q)])
  refine Go.step (fun _ k => XS.iconst X5.here hx rfl (hb hby d13_23) k) ?_
  refine Go.step (fun _ k => XS.isub X5.here hx rfl (hb hby d13_24) rfl k) ?_
  show Go _ _ _ _ _ _ _ T5 (mkF m 25 #[.val (.ref q), .val (.int (fG 0))] [(.int (2 : Int32)), (.ref q)])
  obtain ⟨T6, h6, X6, e6, W6, st6⟩ := putF X5 hx hZ hown (host := "") (Or.inl (hw _ (mI 51 rfl))) Via.refl e5 F_size_q_4 E_q_4 (Or.inl (hw _ (mI 52 rfl))) (hw _ (mI 1 rfl)) (ty := .int) (by decide) rfl rfl (g := (mkF m 25 #[.val (.ref q), .val (.int (fG 0))] [(.int (2 : Int32)), (.ref q)])) rfl rfl (hb hby d13_25)
  refine Go.step st6 ?_
  have N6 := Fr.snoc X6 N4 ge_q
  have F_size_q_6 := F_size_q_4.same W6
  have E_q_6 := E_q_4.wr W6
  have F_heap_q_6 := F_heap_q_4.other W6 (Or.inr (slot_ne (Or.inl (hw _ (mI 11 rfl))) (Or.inl (hw _ (mI 52 rfl))) (by decide) (t := (.array .int)) (t' := .int) (by decide) (by decide)))
  have F_positions_q_6 := F_positions_q_4.other W6 (Or.inr (slot_ne (Or.inl (hw _ (mI 13 rfl))) (Or.inl (hw _ (mI 52 rfl))) (by decide) (t := (.array .int)) (t' := .int) (by decide) (by decide)))
  have F_keys_q_6 := F_keys_q_4.other W6 (Or.inr (slot_ne (Or.inl (hw _ (mI 16 rfl))) (Or.inl (hw _ (mI 52 rfl))) (by decide) (t := (.array .double)) (t' := .int) (by decide) (by decide)))
  have V_xu_6 := V_xu_4.other W6 (Ne.symm ne_q_xu)
  have V_xv_6 := V_xv_4.other W6 (Ne.symm ne_q_xv)
  have V_xw_6 := V_xw_4.other W6 (Ne.symm ne_q_xw)
  have K6 : Keep h0 h6 [q, xu, xv, xw] := K4.wr W6 (Or.inl (List.mem_of_getElem? (i := 0) rfl))
  show Go _ _ _ _ _ _ _ T6 (mkF m 28 #[.val (.ref q), .val (.int (fG 0))] [])
  refine Go.step (fun _ k => XS.aloadN X6.here hx rfl (hb hby d13_28) rfl rfl k) ?_
  obtain ⟨T7, X7, e7, st7⟩ := getF X6 hx hZ hown (host := "") (Or.inl (hw _ (mI 51 rfl))) Via.refl e6 F_size_q_6 (g := (mkF m 29 #[.val (.ref q), .val (.int (fG 0))] [(.ref q)])) rfl rfl (hb hby d13_29)
  refine Go.step st7 ?_
  show Go _ _ _ _ _ _ _ T7 (mkF m 32 #[.val (.ref q), .val (.int (fG 0))] [(.int (2 : Int32))])
  refine Go.step (fun _ k => XS.ifNo X7.here hx rfl (hb hby d13_32) rfl ((if0 _ _).trans (tlt (by decide : (0 : Int32) < (2 : Int32))).2.2.2) k) ?_
  show Go _ _ _ _ _ _ _ T7 (mkF m 35 #[.val (.ref q), .val (.int (fG 0))] [])
  refine Go.step (fun _ k => XS.aloadN X7.here hx rfl (hb hby d13_35) rfl rfl k) ?_
  refine Go.step (fun _ k => XS.aloadN X7.here hx rfl (hb hby d13_36) rfl rfl k) ?_
  obtain ⟨T8, X8, e8, st8⟩ := getF X7 hx hZ hown (host := "") (Or.inl (hw _ (mI 10 rfl))) Via.refl e7 F_heap_q_6 (g := (mkF m 37 #[.val (.ref q), .val (.int (fG 0))] [(.ref q), (.ref q)])) rfl rfl (hb hby d13_37)
  refine Go.step st8 ?_
  show Go _ _ _ _ _ _ _ T8 (mkF m 40 #[.val (.ref q), .val (.int (fG 0))] [(.ref xu), (.ref q)])
  refine Go.step (fun _ k => XS.aloadN X8.here hx rfl (hb hby d13_40) rfl rfl k) ?_
  obtain ⟨T9, X9, e9, st9⟩ := getF X8 hx hZ hown (host := "") (Or.inl (hw _ (mI 51 rfl))) Via.refl e8 F_size_q_6 (g := (mkF m 41 #[.val (.ref q), .val (.int (fG 0))] [(.ref q), (.ref xu), (.ref q)])) rfl rfl (hb hby d13_41)
  refine Go.step st9 ?_
  show Go _ _ _ _ _ _ _ T9 (mkF m 44 #[.val (.ref q), .val (.int (fG 0))] [(.int (2 : Int32)), (.ref xu), (.ref q)])
  refine Go.iaload X9 hx hZ e9 V_xu_6 (j := (2 : Int32)) (v := (fG 2)) (by decide) rfl (hb hby d13_44) ?_
  show Go _ _ _ _ _ _ _ T9 (mkF m 45 #[.val (.ref q), .val (.int (fG 0))] [(.int (fG 2)), (.ref q)])
  refine Go.step (fun _ k => XS.iconst X9.here hx rfl (hb hby d13_45) k) ?_
  refine Go.callP X9 hx hZ (by rw [hml]; rfl) (y := (⟨"com/example/tributary/tributary/NodeQueue", "place", "(II)V"⟩ : MethodName)) (a := q) (argsL := [(.int (fG 2)), (.int (0 : Int32))]) (rest := []) hown (hw _ (mI 57 rfl)) (hw _ (mI 58 rfl)) (hw _ (mI 1 rfl)) (hw _ (mI 59 rfl)) (hw _ (mI 2 rfl)) (hw _ (mI 60 rfl)) (by decide) (rm12 l Z a0 hw q xu xv fG (updN fP ((fG 0)).toNatClampNeg (-1 : Int32)) lL (fG 2) (0 : Int32) h6 n0 (Nat.le_trans Z0 (K6 : Keep h0 h6 [q, xu, xv, xw]).1) F_heap_q_6 F_positions_q_6 V_xu_6 V_xv_6 ne_q_xu ne_q_xv ne_xu_xv ge_xu ge_xv (by decide) (hQ.idx (i := 2) (by omega))) e9 E_q_6 (hb hby d13_46) (lenOf pd_2 rfl) rfl rfl (W := 0) (Nat.le_of_eq rfl) (by decide) (by decide) (by decide) (by decide) ?_
  intro v10 T10 L10 X10 Q10
  obtain ⟨rfl, N10q, Kc10, Vu10, Vv10⟩ := Q10
  have N10 := Fr.app N6 N10q
  have E_q_10 := E_q_6.keep Kc10
  have F_size_q_10 := F_size_q_6.keep Kc10 (ninS ne_q_xu (ninS ne_q_xv nin0))
  have F_heap_q_10 := F_heap_q_6.keep Kc10 (ninS ne_q_xu (ninS ne_q_xv nin0))
  have F_positions_q_10 := F_positions_q_6.keep Kc10 (ninS ne_q_xu (ninS ne_q_xv nin0))
  have F_keys_q_10 := F_keys_q_6.keep Kc10 (ninS ne_q_xu (ninS ne_q_xv nin0))
  have V_xw_10 := V_xw_6.keep Kc10 (ninS (Ne.symm ne_xu_xw) (ninS (Ne.symm ne_xv_xw) nin0))
  have KK10 : Keep h0 T10.heap [q, xu, xv, xw] := (K6 : Keep h0 h6 [q, xu, xv, xw]).trans Kc10 (allS (Or.inl (List.mem_of_getElem? (i := 1) rfl)) (allS (Or.inl (List.mem_of_getElem? (i := 2) rfl)) all0))
  have Vu10 : Iv Z T10.heap xu (16 : Int32) (updN fG 0 (fG 2)) := Vu10
  show Go _ _ _ _ _ _ _ T10 (mkF m 49 #[.val (.ref q), .val (.int (fG 0))] [])
  refine Go.step (fun _ k => XS.aloadN X10.here hx rfl (hb hby d13_49) rfl rfl k) ?_
  refine Go.step (fun _ k => XS.iconst X10.here hx rfl (hb hby d13_50) k) ?_
  have hQ2 := hQ.take (by decide) (by decide)
  refine Go.callP X10 hx hZ (by rw [hml]; rfl) (y := (⟨"com/example/tributary/tributary/NodeQueue", "siftDown", "(I)V"⟩ : MethodName)) (a := q) (argsL := [(.int (0 : Int32))]) (rest := []) hown (hw _ (mI 70 rfl)) (hw _ (mI 71 rfl)) (hw _ (mI 1 rfl)) (hw _ (mI 72 rfl)) (hw _ (mI 2 rfl)) (hw _ (mI 73 rfl)) (by decide) (rmD2 l Z a0 hw q xu xv xw (updN fG 0 (fG 2)) (updN (updN fP ((fG 0)).toNatClampNeg (-1 : Int32)) ((fG 2)).toNatClampNeg (0 : Int32)) fK lL (fun y => fS y ∧ y ≠ fG 0) T10.heap n0 (Nat.le_trans Z0 (KK10 : Keep h0 T10.heap [q, xu, xv, xw]).1) E_q_10 F_size_q_10 F_heap_q_10 F_positions_q_10 F_keys_q_10 Vu10 Vv10 V_xw_10 ne_q_xu ne_q_xv ne_q_xw ne_xu_xv ne_xu_xw ne_xv_xw ge_q ge_xu ge_xv ge_xw hQ2) rfl E_q_10 (hb hby d13_51) (lenOf pd_3 rfl) rfl rfl (W := 0) (Nat.le_of_eq rfl) (by decide) (by decide) (by decide) (by decide) ?_
  intro v11 T11 L11 X11 Q11
  obtain ⟨rfl, N11q, Kc11, g11x, P11x, Vu11, Vv11, hQ11⟩ := Q11
  have N11 := Fr.app N10 N11q
  have E_q_11 := E_q_10.keep Kc11
  have F_size_q_11 := F_size_q_10.keep Kc11 (ninS ne_q_xu (ninS ne_q_xv nin0))
  have F_heap_q_11 := F_heap_q_10.keep Kc11 (ninS ne_q_xu (ninS ne_q_xv nin0))
  have F_positions_q_11 := F_positions_q_10.keep Kc11 (ninS ne_q_xu (ninS ne_q_xv nin0))
  have F_keys_q_11 := F_keys_q_10.keep Kc11 (ninS ne_q_xu (ninS ne_q_xv nin0))
  have V_xw_11 := V_xw_10.keep Kc11 (ninS (Ne.symm ne_xu_xw) (ninS (Ne.symm ne_xv_xw) nin0))
  have KK11 : Keep h0 T11.heap [q, xu, xv, xw] := (KK10 : Keep h0 T10.heap [q, xu, xv, xw]).trans Kc11 (allS (Or.inl (List.mem_of_getElem? (i := 1) rfl)) (allS (Or.inl (List.mem_of_getElem? (i := 2) rfl)) all0))
  show Go _ _ _ _ _ _ _ T11 (mkF m 54 #[.val (.ref q), .val (.int (fG 0))] [])
  refine Go.step (fun _ k => XS.iloadN X11.here hx rfl (hb hby d13_54) rfl k) ?_
  refine Go.retI X11 hx hlk hret (hb hby d13_55) (by decide) (by decide) ?_
  exact ⟨_, rfl, N11, E_q_11, 2, by decide, xu, xv, xw, _, _, _, lL, ⟨E_q_11, F_size_q_11, F_heap_q_11, F_positions_q_11, F_keys_q_11, Vu11, Vv11, V_xw_11⟩, ⟨ne_q_xu, ne_q_xv, ne_q_xw, ne_xu_xv, ne_xu_xw, ne_xv_xw, ge_q, ge_xu, ge_xv, ge_xw⟩, hl0, hlB, hQ11⟩
theorem ef_rm13_3 (m : MethodId) (q : Addr) : entryFrame m #[(.ref q)] 2 = mkF m 0 #[.val (.ref q), .unset] [] := by first | (simp [entryFrame, mkF, argsToLocals, Value.category]; done) | rfl
theorem rm13_3 (l : Launch) (Z : State) (a0 : Array Value) (hw : ∀ d ∈ tables_1, d.before a0 Z = true) (q xu xv xw : Addr) (fG fP : Nat → Int32) (fK : Nat → UInt64) (lL : Int32) (B : Int) (fS : Int32 → Prop) (h0 : Heap) (n0 : Nat) (Z0 : n0 ≤ h0.size) (E_q : Exa Z h0 q "com/example/tributary/tributary/NodeQueue") (F_size_q : Fld Z h0 q "com/example/tributary/tributary/NodeQueue" "size" "I" (.int (3 : Int32))) (F_heap_q : Fld Z h0 q "com/example/tributary/tributary/NodeQueue" "heap" "[I" (.ref xu)) (F_positions_q : Fld Z h0 q "com/example/tributary/tributary/NodeQueue" "positions" "[I" (.ref xv)) (F_keys_q : Fld Z h0 q "com/example/tributary/tributary/NodeQueue" "keys" "[D" (.ref xw)) (V_xu : Iv Z h0 xu (16 : Int32) fG) (V_xv : Iv Z h0 xv lL fP) (V_xw : Dv Z h0 xw lL fK) (ne_q_xu : q ≠ xu) (ne_q_xv : q ≠ xv) (ne_q_xw : q ≠ xw) (ne_xu_xv : xu ≠ xv) (ne_xu_xw : xu ≠ xw) (ne_xv_xw : xv ≠ xw) (ge_q : n0 ≤ q) (ge_xu : n0 ≤ xu) (ge_xv : n0 ≤ xv) (ge_xw : n0 ≤ xw) (hl0 : ¬ lL < (0 : Int32)) (hlB : lL.toInt ≤ B) (hQ : QI 3 fG lL fP fS) :
    Con l Z (⟨"com/example/tributary/tributary/NodeQueue", "poll", "()I"⟩ : MethodName) prog_40_method_7_code 2 (some .int) ({ frames := 2, cells := 0, slots := 0, locals := 29 } : Room) #[(.ref q)] h0 (fun r h L => ∃ x : Int32, r = some (.int x) ∧ Fr n0 L ∧ Exa Z h q "com/example/tributary/tributary/NodeQueue" ∧ ∃ n', n' ≤ 3 ∧ QS Z h n0 q n' B (fun y => fS y ∧ y ≠ x)) :=
  con_of (plainFor_of_name pn_12) (fun p_ e_ s_ m_ b_ meth_ c_ T_ X_ hx hZ hby hml hown hnm hret hlk e0 => Go.cast (ef_rm13_3 m_ q) (w13_3 q xu xv xw fG fP fK lL B fS X_ hx hZ hw hby hml hown hnm hret hlk e0 Z0 (Fr.nil n0) E_q F_size_q F_heap_q F_positions_q F_keys_q V_xu V_xv V_xw ne_q_xu ne_q_xv ne_q_xw ne_xu_xv ne_xu_xw ne_xv_xw ge_q ge_xu ge_xv ge_xw hl0 hlB hQ))
set_option maxHeartbeats 4000000 in
theorem rmPoll (l : Launch) (Z : State) (a0 : Array Value) (hw : ∀ d ∈ tables_1, d.before a0 Z = true) (q : Addr) (n : Nat) (B : Int) (fS : Int32 → Prop) (h0 : Heap) (n0 : Nat) (Z0 : n0 ≤ h0.size) (H : QS Z h0 n0 q n B fS) (h1 : 1 ≤ n) (hn : n ≤ 3) :
    Con l Z (⟨"com/example/tributary/tributary/NodeQueue", "poll", "()I"⟩ : MethodName) prog_40_method_7_code 2 (some .int) ({ frames := 2, cells := 0, slots := 0, locals := 29 } : Room) #[(.ref q)] h0 (fun r h L => ∃ x : Int32, r = some (.int x) ∧ Fr n0 L ∧ Exa Z h q "com/example/tributary/tributary/NodeQueue" ∧ ∃ n', n' ≤ 3 ∧ QS Z h n0 q n' B (fun y => fS y ∧ y ≠ x)) := by
  obtain ⟨xu, xv, xw, fG, fP, fK, lL, ⟨E_q, F_size_q, F_heap_q, F_positions_q, F_keys_q, V_xu, V_xv, V_xw⟩, ⟨ne_q_xu, ne_q_xv, ne_q_xw, ne_xu_xv, ne_xu_xw, ne_xv_xw, ge_q, ge_xu, ge_xv, ge_xw⟩, hl0, hlB, hQ⟩ := H
  rcases (by omega : n = 1 ∨ n = 2 ∨ n = 3) with rfl | rfl | rfl
  · exact rm13_1 l Z a0 hw q xu xv xw fG fP fK lL B fS h0 n0 Z0 E_q F_size_q F_heap_q F_positions_q F_keys_q V_xu V_xv V_xw ne_q_xu ne_q_xv ne_q_xw ne_xu_xv ne_xu_xw ne_xv_xw ge_q ge_xu ge_xv ge_xw hl0 hlB hQ
  · exact rm13_2 l Z a0 hw q xu xv xw fG fP fK lL B fS h0 n0 Z0 E_q F_size_q F_heap_q F_positions_q F_keys_q V_xu V_xv V_xw ne_q_xu ne_q_xv ne_q_xw ne_xu_xv ne_xu_xw ne_xv_xw ge_q ge_xu ge_xv ge_xw hl0 hlB hQ
  · exact rm13_3 l Z a0 hw q xu xv xw fG fP fK lL B fS h0 n0 Z0 E_q F_size_q F_heap_q F_positions_q F_keys_q V_xu V_xv V_xw ne_q_xu ne_q_xv ne_q_xw ne_xu_xv ne_xu_xw ne_xv_xw ge_q ge_xu ge_xv ge_xw hl0 hlB hQ
theorem d3_0 : decode prog_40_method_3_code 0 = .ok (.iload_n 1, 1) := by decide +kernel
theorem d3_1 : decode prog_40_method_3_code 1 = .ok (.aload_n 0, 1) := by decide +kernel
theorem d3_2 : decode prog_40_method_3_code 2 = .ok (.getfield 13, 3) := by decide +kernel
theorem d3_5 : decode prog_40_method_3_code 5 = .ok (.arraylength, 1) := by decide +kernel
theorem d3_6 : decode prog_40_method_3_code 6 = .ok (.if_icmp .ge 17, 3) := by decide +kernel
theorem d3_9 : decode prog_40_method_3_code 9 = .ok (.aload_n 0, 1) := by decide +kernel
theorem d3_10 : decode prog_40_method_3_code 10 = .ok (.getfield 13, 3) := by decide +kernel
theorem d3_13 : decode prog_40_method_3_code 13 = .ok (.iload_n 1, 1) := by decide +kernel
theorem d3_14 : decode prog_40_method_3_code 14 = .ok (.iaload, 1) := by decide +kernel
theorem d3_15 : decode prog_40_method_3_code 15 = .ok (.iconst (-1), 1) := by decide +kernel
theorem d3_16 : decode prog_40_method_3_code 16 = .ok (.if_icmp .eq 7, 3) := by decide +kernel
theorem d3_23 : decode prog_40_method_3_code 23 = .ok (.iconst 0, 1) := by decide +kernel
theorem d3_24 : decode prog_40_method_3_code 24 = .ok (.ireturn, 1) := by decide +kernel
theorem d3_19 : decode prog_40_method_3_code 19 = .ok (.iconst 1, 1) := by decide +kernel
theorem d3_20 : decode prog_40_method_3_code 20 = .ok (.goto 4, 3) := by decide +kernel
set_option maxRecDepth 65536 in
set_option maxHeartbeats 40000000 in
theorem w3 {p : Program} {l : Launch} {e : Env} {s : State} {m : MethodId} {args : Array Value} {below : List Frame} {meth : Method} {c_ : Code} {T0 : State} {locs : List Loc} {Z : State} {a0 : Array Value} {h0 : Heap} {n0 : Nat} (q xv : Addr) (fG fP : Nat → Int32) (lL : Int32) (n : Nat) (fS : Int32 → Prop) (x : Int32)
    (X0 : Stand p l e ({ frames := 0, cells := 0, slots := 0, locals := 0 } : Room) s m args below meth c_ T0 locs 0 0) (hx : p.tables.exec = Jvm.exec) (hZ : Z.Warmed39 s.vm) (hw : ∀ d ∈ tables_1, d.before a0 Z = true) (hby : c_.code = prog_40_method_3_code) (hml : c_.maxLocals = 2) (hown : s.vm.findClass "com/example/tributary/tributary/NodeQueue" = some m.cls) (hnm : meth.name = "contains") (hret : meth.sig.returnType = some .boolean) (hlk : meth.locks = false) (e0 : T0.heap = h0) (Z0 : n0 ≤ h0.size) (N0 : Fr n0 locs) (F_positions_q : Fld Z h0 q "com/example/tributary/tributary/NodeQueue" "positions" "[I" (.ref xv)) (V_xv : Iv Z h0 xv lL fP) (hQ : QI n fG lL fP fS) (hn : n ≤ 16) (hx' : ¬ x < (0 : Int32)) :
    Go p e below s ({ frames := 0, cells := 0, slots := 0, locals := 0 } : Room).cells ({ frames := 0, cells := 0, slots := 0, locals := 0 } : Room).slots (fun r h L => ∃ b : Int32, r = some (.int b) ∧ Fr n0 L ∧ h = h0 ∧ ((b = 1 ∧ fS x) ∨ (b = 0 ∧ ¬ fS x))) T0 (mkF m 0 #[.val (.ref q), .val (.int x)] []) := by
  show Go _ _ _ _ _ _ _ T0 (mkF m 0 #[.val (.ref q), .val (.int x)] [])
  refine Go.step (fun _ k => XS.iloadN X0.here hx rfl (hb hby d3_0) rfl k) ?_
  refine Go.step (fun _ k => XS.aloadN X0.here hx rfl (hb hby d3_1) rfl rfl k) ?_
  obtain ⟨T1, X1, e1, st1⟩ := getF X0 hx hZ hown (host := "") (Or.inl (hw _ (mI 12 rfl))) Via.refl e0 F_positions_q (g := (mkF m 2 #[.val (.ref q), .val (.int x)] [(.ref q), (.int x)])) rfl rfl (hb hby d3_2)
  refine Go.step st1 ?_
  show Go _ _ _ _ _ _ _ T1 (mkF m 5 #[.val (.ref q), .val (.int x)] [(.ref xv), (.int x)])
  refine Go.alen X1 hx hZ e1 V_xv (hb hby d3_5) ?_
  show Go _ _ _ _ _ _ _ T1 (mkF m 6 #[.val (.ref q), .val (.int x)] [(.int lL), (.int x)])
  by_cases hc6_2 : x < lL
  · refine Go.step (fun _ k => XS.icmpNo X1.here hx rfl (hb hby d3_6) rfl (tlt hc6_2).2.1 k) ?_
    show Go _ _ _ _ _ _ _ T1 (mkF m 9 #[.val (.ref q), .val (.int x)] [])
    refine Go.step (fun _ k => XS.aloadN X1.here hx rfl (hb hby d3_9) rfl rfl k) ?_
    obtain ⟨T3, X3, e3, st3⟩ := getF X1 hx hZ hown (host := "") (Or.inl (hw _ (mI 12 rfl))) Via.refl e1 F_positions_q (g := (mkF m 10 #[.val (.ref q), .val (.int x)] [(.ref q)])) rfl rfl (hb hby d3_10)
    refine Go.step st3 ?_
    show Go _ _ _ _ _ _ _ T3 (mkF m 13 #[.val (.ref q), .val (.int x)] [(.ref xv)])
    refine Go.step (fun _ k => XS.iloadN X3.here hx rfl (hb hby d3_13) rfl k) ?_
    refine Go.iaload X3 hx hZ e3 V_xv (j := x) (v := (fP (x).toNatClampNeg)) ⟨hx', hc6_2⟩ rfl (hb hby d3_14) ?_
    show Go _ _ _ _ _ _ _ T3 (mkF m 15 #[.val (.ref q), .val (.int x)] [(.int (fP (x).toNatClampNeg))])
    refine Go.step (fun _ k => XS.iconst X3.here hx rfl (hb hby d3_15) k) ?_
    by_cases hc16_4 : (fP (x).toNatClampNeg) = (-1 : Int32)
    · refine Go.step (fun _ k => XS.icmpYes X3.here hx rfl (pc0 := 16) (pc' := 23) rfl (hb hby d3_16) rfl (teq hc16_4).1 (by decide) (by decide) k) ?_
      show Go _ _ _ _ _ _ _ T3 (mkF m 23 #[.val (.ref q), .val (.int x)] [])
      refine Go.step (fun _ k => XS.iconst X3.here hx rfl (hb hby d3_23) k) ?_
      refine Go.retZ X3 hx hlk hret (by decide) (hb hby d3_24) (by decide) (by decide) ?_
      try rw [e3]
      exact ⟨_, rfl, N0, rfl, hQ.ans hn hx' _ (by rw [if_pos hc6_2]; rw [if_pos hc16_4]; try rfl)⟩
    · refine Go.step (fun _ k => XS.icmpNo X3.here hx rfl (hb hby d3_16) rfl (feq hc16_4).1 k) ?_
      show Go _ _ _ _ _ _ _ T3 (mkF m 19 #[.val (.ref q), .val (.int x)] [])
      refine Go.step (fun _ k => XS.iconst X3.here hx rfl (hb hby d3_19) k) ?_
      refine Go.step (fun _ k => XS.goto X3.here hx rfl (pc0 := 20) (pc' := 24) rfl (hb hby d3_20) (by decide) (by decide) k) ?_
      show Go _ _ _ _ _ _ _ T3 (mkF m 24 #[.val (.ref q), .val (.int x)] [(.int (1 : Int32))])
      refine Go.retZ X3 hx hlk hret (by decide) (hb hby d3_24) (by decide) (by decide) ?_
      try rw [e3]
      exact ⟨_, rfl, N0, rfl, hQ.ans hn hx' _ (by rw [if_pos hc6_2]; rw [if_neg hc16_4]; try rfl)⟩
  · refine Go.step (fun _ k => XS.icmpYes X1.here hx rfl (pc0 := 6) (pc' := 23) rfl (hb hby d3_6) rfl (flt hc6_2).2.1 (by decide) (by decide) k) ?_
    show Go _ _ _ _ _ _ _ T1 (mkF m 23 #[.val (.ref q), .val (.int x)] [])
    refine Go.step (fun _ k => XS.iconst X1.here hx rfl (hb hby d3_23) k) ?_
    refine Go.retZ X1 hx hlk hret (by decide) (hb hby d3_24) (by decide) (by decide) ?_
    try rw [e1]
    exact ⟨_, rfl, N0, rfl, hQ.ans hn hx' _ (by rw [if_neg hc6_2]; try rfl)⟩
theorem ef_rm3 (m : MethodId) (q : Addr) (x : Int32) : entryFrame m #[(.ref q), (.int x)] 2 = mkF m 0 #[.val (.ref q), .val (.int x)] [] := by first | (simp [entryFrame, mkF, argsToLocals, Value.category]; done) | rfl
theorem rm3 (l : Launch) (Z : State) (a0 : Array Value) (hw : ∀ d ∈ tables_1, d.before a0 Z = true) (q xv : Addr) (fG fP : Nat → Int32) (lL : Int32) (n : Nat) (fS : Int32 → Prop) (x : Int32) (h0 : Heap) (n0 : Nat) (Z0 : n0 ≤ h0.size) (F_positions_q : Fld Z h0 q "com/example/tributary/tributary/NodeQueue" "positions" "[I" (.ref xv)) (V_xv : Iv Z h0 xv lL fP) (hQ : QI n fG lL fP fS) (hn : n ≤ 16) (hx' : ¬ x < (0 : Int32)) :
    Con l Z (⟨"com/example/tributary/tributary/NodeQueue", "contains", "(I)Z"⟩ : MethodName) prog_40_method_3_code 2 (some .boolean) ({ frames := 0, cells := 0, slots := 0, locals := 0 } : Room) #[(.ref q), (.int x)] h0 (fun r h L => ∃ b : Int32, r = some (.int b) ∧ Fr n0 L ∧ h = h0 ∧ ((b = 1 ∧ fS x) ∨ (b = 0 ∧ ¬ fS x))) :=
  con_of (plainFor_of_name pn_12) (fun p_ e_ s_ m_ b_ meth_ c_ T_ X_ hx hZ hby hml hown hnm hret hlk e0 => Go.cast (ef_rm3 m_ q x) (w3 q xv fG fP lL n fS x X_ hx hZ hw hby hml hown hnm hret hlk e0 Z0 (Fr.nil n0) F_positions_q V_xv hQ hn hx'))
theorem rmCont (l : Launch) (Z : State) (a0 : Array Value) (hw : ∀ d ∈ tables_1, d.before a0 Z = true) (q : Addr) (n : Nat) (B : Int) (fS : Int32 → Prop) (x : Int32) (h0 : Heap) (n0 : Nat) (Z0 : n0 ≤ h0.size) (H : QS Z h0 n0 q n B fS) (hn : n ≤ 16) (hx' : ¬ x < (0 : Int32)) :
    Con l Z (⟨"com/example/tributary/tributary/NodeQueue", "contains", "(I)Z"⟩ : MethodName) prog_40_method_3_code 2 (some .boolean) ({ frames := 0, cells := 0, slots := 0, locals := 0 } : Room) #[(.ref q), (.int x)] h0 (fun r h L => ∃ b : Int32, r = some (.int b) ∧ Fr n0 L ∧ h = h0 ∧ ((b = 1 ∧ fS x) ∨ (b = 0 ∧ ¬ fS x))) := by
  obtain ⟨xu, xv, xw, fG, fP, fK, lL, ⟨E_q, F_size_q, F_heap_q, F_positions_q, F_keys_q, V_xu, V_xv, V_xw⟩, ⟨ne_q_xu, ne_q_xv, ne_q_xw, ne_xu_xv, ne_xu_xw, ne_xv_xw, ge_q, ge_xu, ge_xv, ge_xw⟩, hl0, hlB, hQ⟩ := H
  exact rm3 l Z a0 hw q xv fG fP lL n fS x h0 n0 Z0 F_positions_q V_xv hQ hn hx'
theorem pd_8 : parseMethodDescriptor "(I)Z" = some ⟨[.int], some .boolean⟩ := by decide +kernel
set_option maxRecDepth 65536 in
set_option maxHeartbeats 40000000 in
theorem w0c {p : Program} {l : Launch} {e : Env} {s : State} {m : MethodId} {args : Array Value} {below : List Frame} {meth : Method} {c_ : Code} {T0 : State} {locs : List Loc} {Z : State} {a0 : Array Value} {h0 : Heap} {n0 : Nat} (p0 p1 p2 p3 p4 na nb nc : Int32) (ka kb kc : UInt64) (ct : Int32) (q : Addr) (pb pp : Int32) (n : Nat) (fS : Int32 → Prop) (sl x : Int32)
    (X0 : Stand p l e room_1 s m args below meth c_ T0 locs 10 404) (hx : p.tables.exec = Jvm.exec) (hZ : Z.Warmed39 s.vm) (hw : ∀ d ∈ tables_1, d.before a0 Z = true) (hby : c_.code = code) (hml : c_.maxLocals = maxLocals) (hown : s.vm.findClass "com/example/tributary/tributary/NodeQueueContainsPinLaw" = some m.cls) (hnm : meth.name = "law") (hret : meth.sig.returnType = ret) (hlk : meth.locks = false) (e0 : T0.heap = h0) (Z0 : n0 ≤ h0.size) (N0 : Fr n0 locs) (E_q : Exa Z h0 q "com/example/tributary/tributary/NodeQueue") (ge_q : n0 ≤ q) (H : QS Z h0 n0 q n 64 fS) (hn : n ≤ 3) (hS : ∀ y, fS y ↔ (((¬ ct < (1 : Int32)) ∧ y = na) ∨ ((¬ ct < (2 : Int32)) ∧ y = nb) ∨ ((¬ ct < (3 : Int32)) ∧ y = nc)) ∧ ¬ (pb ≠ (0 : Int32) ∧ y = pp)) (hx' : ¬ x < (0 : Int32)) :
    Go p e below s room_1.cells room_1.slots (fun r h L => r = some (.int 1) ∧ Fr n0 L) T0 (mkF m 218 #[.val (.int p0), .val (.int p1), .val (.int p2), .val (.int p3), .val (.int p4), .val (.int na), .val (.int nb), .val (.int nc), .val (.double ka), .second, .val (.double kb), .second, .val (.double kc), .second, .val (.int ct), .val (.ref q), .val (.int pb), .val (.int pp), .val (.int sl), .val (.int x), .unset, .unset] []) := by
  have hret : meth.sig.returnType = some .boolean := hret
  show Go _ _ _ _ _ _ _ T0 (mkF m 218 #[.val (.int p0), .val (.int p1), .val (.int p2), .val (.int p3), .val (.int p4), .val (.int na), .val (.int nb), .val (.int nc), .val (.double ka), .second, .val (.double kb), .second, .val (.double kc), .second, .val (.int ct), .val (.ref q), .val (.int pb), .val (.int pp), .val (.int sl), .val (.int x), .unset, .unset] [])
  refine Go.step (fun _ k => XS.iload X0.here hx rfl (hb hby at_218) rfl k) ?_
  refine Go.step (fun _ k => XS.iconst X0.here hx rfl (hb hby at_220) k) ?_
  by_cases hc221_1 : ct < (1 : Int32)
  · refine Go.step (fun _ k => XS.icmpYes X0.here hx rfl (pc0 := 221) (pc' := 231) rfl (hb hby at_221) rfl (tlt hc221_1).1 (by decide) (by decide) k) ?_
    show Go _ _ _ _ _ _ _ T0 (mkF m 231 #[.val (.int p0), .val (.int p1), .val (.int p2), .val (.int p3), .val (.int p4), .val (.int na), .val (.int nb), .val (.int nc), .val (.double ka), .second, .val (.double kb), .second, .val (.double kc), .second, .val (.int ct), .val (.ref q), .val (.int pb), .val (.int pp), .val (.int sl), .val (.int x), .unset, .unset] [])
    refine Go.step (fun _ k => XS.iload X0.here hx rfl (hb hby at_231) rfl k) ?_
    refine Go.step (fun _ k => XS.iconst X0.here hx rfl (hb hby at_233) k) ?_
    refine Go.step (fun _ k => XS.icmpYes X0.here hx rfl (pc0 := 234) (pc' := 244) rfl (hb hby at_234) rfl (tlt (own_lts hc221_1 (by decide))).1 (by decide) (by decide) k) ?_
    show Go _ _ _ _ _ _ _ T0 (mkF m 244 #[.val (.int p0), .val (.int p1), .val (.int p2), .val (.int p3), .val (.int p4), .val (.int na), .val (.int nb), .val (.int nc), .val (.double ka), .second, .val (.double kb), .second, .val (.double kc), .second, .val (.int ct), .val (.ref q), .val (.int pb), .val (.int pp), .val (.int sl), .val (.int x), .unset, .unset] [])
    refine Go.step (fun _ k => XS.iload X0.here hx rfl (hb hby at_244) rfl k) ?_
    refine Go.step (fun _ k => XS.iconst X0.here hx rfl (hb hby at_246) k) ?_
    refine Go.step (fun _ k => XS.icmpYes X0.here hx rfl (pc0 := 247) (pc' := 261) rfl (hb hby at_247) rfl (tlt (own_lts hc221_1 (by decide))).1 (by decide) (by decide) k) ?_
    show Go _ _ _ _ _ _ _ T0 (mkF m 261 #[.val (.int p0), .val (.int p1), .val (.int p2), .val (.int p3), .val (.int p4), .val (.int na), .val (.int nb), .val (.int nc), .val (.double ka), .second, .val (.double kb), .second, .val (.double kc), .second, .val (.int ct), .val (.ref q), .val (.int pb), .val (.int pp), .val (.int sl), .val (.int x), .unset, .unset] [])
    refine Go.step (fun _ k => XS.iconst X0.here hx rfl (hb hby at_261) k) ?_
    refine Go.step (fun _ k => XS.istore X0.here hx rfl (hb hby at_262) rfl (l' := #[.val (.int p0), .val (.int p1), .val (.int p2), .val (.int p3), .val (.int p4), .val (.int na), .val (.int nb), .val (.int nc), .val (.double ka), .second, .val (.double kb), .second, .val (.double kc), .second, .val (.int ct), .val (.ref q), .val (.int pb), .val (.int pp), .val (.int sl), .val (.int x), .val (.int (0 : Int32)), .unset]) rfl k) ?_
    show Go _ _ _ _ _ _ _ T0 (mkF m 264 #[.val (.int p0), .val (.int p1), .val (.int p2), .val (.int p3), .val (.int p4), .val (.int na), .val (.int nb), .val (.int nc), .val (.double ka), .second, .val (.double kb), .second, .val (.double kc), .second, .val (.int ct), .val (.ref q), .val (.int pb), .val (.int pp), .val (.int sl), .val (.int x), .val (.int (0 : Int32)), .unset] [])
    refine Go.step (fun _ k => XS.iload X0.here hx rfl (hb hby at_264) rfl k) ?_
    refine Go.step (fun _ k => XS.ifYes X0.here hx rfl (pc0 := 266) (pc' := 285) rfl (hb hby at_266) rfl ((if0 _ _).trans (teq (by decide : (0 : Int32) = (0 : Int32))).1) (by decide) (by decide) k) ?_
    show Go _ _ _ _ _ _ _ T0 (mkF m 285 #[.val (.int p0), .val (.int p1), .val (.int p2), .val (.int p3), .val (.int p4), .val (.int na), .val (.int nb), .val (.int nc), .val (.double ka), .second, .val (.double kb), .second, .val (.double kc), .second, .val (.int ct), .val (.ref q), .val (.int pb), .val (.int pp), .val (.int sl), .val (.int x), .val (.int (0 : Int32)), .unset] [])
    refine Go.step (fun _ k => XS.iconst X0.here hx rfl (hb hby at_285) k) ?_
    refine Go.step (fun _ k => XS.istore X0.here hx rfl (hb hby at_286) rfl (l' := #[.val (.int p0), .val (.int p1), .val (.int p2), .val (.int p3), .val (.int p4), .val (.int na), .val (.int nb), .val (.int nc), .val (.double ka), .second, .val (.double kb), .second, .val (.double kc), .second, .val (.int ct), .val (.ref q), .val (.int pb), .val (.int pp), .val (.int sl), .val (.int x), .val (.int (0 : Int32)), .val (.int (0 : Int32))]) rfl k) ?_
    show Go _ _ _ _ _ _ _ T0 (mkF m 288 #[.val (.int p0), .val (.int p1), .val (.int p2), .val (.int p3), .val (.int p4), .val (.int na), .val (.int nb), .val (.int nc), .val (.double ka), .second, .val (.double kb), .second, .val (.double kc), .second, .val (.int ct), .val (.ref q), .val (.int pb), .val (.int pp), .val (.int sl), .val (.int x), .val (.int (0 : Int32)), .val (.int (0 : Int32))] [])
    refine Go.step (fun _ k => XS.aload X0.here hx rfl (hb hby at_288) rfl rfl k) ?_
    refine Go.step (fun _ k => XS.iload X0.here hx rfl (hb hby at_290) rfl k) ?_
    refine Go.callV X0 hx hZ (by rw [hml]; rfl) (y := (⟨"com/example/tributary/tributary/NodeQueue", "contains", "(I)Z"⟩ : MethodName)) (z := (⟨"com/example/tributary/tributary/NodeQueue", "contains", "(I)Z"⟩ : MethodName)) (a := q) (argsL := [(.int x)]) (rest := []) hown (hw _ (mI 17 rfl)) (hw _ (mI 18 rfl)) (notFace_of_selects (args := #[]) (mvT hZ (hw _ (mI 20 rfl)))) (hw _ (mI 20 rfl)) (hw _ (mI 19 rfl)) (hw _ (mI 2 rfl)) (hw _ (mI 21 rfl)) (by decide) (rmCont l Z a0 hw q n 64 fS x h0 n0 Z0 H (by omega) hx') e0 E_q (hb hby at_292) (lenOf pd_8 rfl) rfl rfl (W := 0) (Nat.le_of_eq rfl) (by decide) (by decide) (by decide) (by decide) ?_
    intro v2 T2 L2 X2 Q2
    obtain ⟨cb, rfl, N2q, hh2, hcb⟩ := Q2
    have N2 := Fr.app N0 N2q
    show Go _ _ _ _ _ _ _ T2 (mkF m 295 #[.val (.int p0), .val (.int p1), .val (.int p2), .val (.int p3), .val (.int p4), .val (.int na), .val (.int nb), .val (.int nc), .val (.double ka), .second, .val (.double kb), .second, .val (.double kc), .second, .val (.int ct), .val (.ref q), .val (.int pb), .val (.int pp), .val (.int sl), .val (.int x), .val (.int (0 : Int32)), .val (.int (0 : Int32))] [(.int cb)])
    refine Go.step (fun _ k => XS.iload X2.here hx rfl (hb hby at_295) rfl k) ?_
    refine Go.step (fun _ k => XS.icmpNo X2.here hx rfl (hb hby at_297) rfl (teq (hcb.resolve_left fun z => ((hS x).mp z.2).1.elim (fun u => u.1 hc221_1) (fun v => v.elim (fun u => u.1 (own_lts hc221_1 (by decide))) (fun u => u.1 (own_lts hc221_1 (by decide))))).1).2 k) ?_
    show Go _ _ _ _ _ _ _ T2 (mkF m 300 #[.val (.int p0), .val (.int p1), .val (.int p2), .val (.int p3), .val (.int p4), .val (.int na), .val (.int nb), .val (.int nc), .val (.double ka), .second, .val (.double kb), .second, .val (.double kc), .second, .val (.int ct), .val (.ref q), .val (.int pb), .val (.int pp), .val (.int sl), .val (.int x), .val (.int (0 : Int32)), .val (.int (0 : Int32))] [])
    refine Go.step (fun _ k => XS.iconst X2.here hx rfl (hb hby at_300) k) ?_
    refine Go.step (fun _ k => XS.goto X2.here hx rfl (pc0 := 301) (pc' := 305) rfl (hb hby at_301) (by decide) (by decide) k) ?_
    show Go _ _ _ _ _ _ _ T2 (mkF m 305 #[.val (.int p0), .val (.int p1), .val (.int p2), .val (.int p3), .val (.int p4), .val (.int na), .val (.int nb), .val (.int nc), .val (.double ka), .second, .val (.double kb), .second, .val (.double kc), .second, .val (.int ct), .val (.ref q), .val (.int pb), .val (.int pp), .val (.int sl), .val (.int x), .val (.int (0 : Int32)), .val (.int (0 : Int32))] [(.int (1 : Int32))])
    refine Go.retZ X2 hx hlk hret (by decide) (hb hby at_305) (by decide) (by decide) ?_
    try rw [hh2]
    exact ⟨rfl, N2⟩
  · refine Go.step (fun _ k => XS.icmpNo X0.here hx rfl (hb hby at_221) rfl (flt hc221_1).1 k) ?_
    show Go _ _ _ _ _ _ _ T0 (mkF m 224 #[.val (.int p0), .val (.int p1), .val (.int p2), .val (.int p3), .val (.int p4), .val (.int na), .val (.int nb), .val (.int nc), .val (.double ka), .second, .val (.double kb), .second, .val (.double kc), .second, .val (.int ct), .val (.ref q), .val (.int pb), .val (.int pp), .val (.int sl), .val (.int x), .unset, .unset] [])
    refine Go.step (fun _ k => XS.iload X0.here hx rfl (hb hby at_224) rfl k) ?_
    refine Go.step (fun _ k => XS.iload X0.here hx rfl (hb hby at_226) rfl k) ?_
    by_cases hc228_3 : x = na
    · refine Go.step (fun _ k => XS.icmpYes X0.here hx rfl (pc0 := 228) (pc' := 257) rfl (hb hby at_228) rfl (teq hc228_3).1 (by decide) (by decide) k) ?_
      show Go _ _ _ _ _ _ _ T0 (mkF m 257 #[.val (.int p0), .val (.int p1), .val (.int p2), .val (.int p3), .val (.int p4), .val (.int na), .val (.int nb), .val (.int nc), .val (.double ka), .second, .val (.double kb), .second, .val (.double kc), .second, .val (.int ct), .val (.ref q), .val (.int pb), .val (.int pp), .val (.int sl), .val (.int x), .unset, .unset] [])
      refine Go.step (fun _ k => XS.iconst X0.here hx rfl (hb hby at_257) k) ?_
      refine Go.step (fun _ k => XS.goto X0.here hx rfl (pc0 := 258) (pc' := 262) rfl (hb hby at_258) (by decide) (by decide) k) ?_
      show Go _ _ _ _ _ _ _ T0 (mkF m 262 #[.val (.int p0), .val (.int p1), .val (.int p2), .val (.int p3), .val (.int p4), .val (.int na), .val (.int nb), .val (.int nc), .val (.double ka), .second, .val (.double kb), .second, .val (.double kc), .second, .val (.int ct), .val (.ref q), .val (.int pb), .val (.int pp), .val (.int sl), .val (.int x), .unset, .unset] [(.int (1 : Int32))])
      refine Go.step (fun _ k => XS.istore X0.here hx rfl (hb hby at_262) rfl (l' := #[.val (.int p0), .val (.int p1), .val (.int p2), .val (.int p3), .val (.int p4), .val (.int na), .val (.int nb), .val (.int nc), .val (.double ka), .second, .val (.double kb), .second, .val (.double kc), .second, .val (.int ct), .val (.ref q), .val (.int pb), .val (.int pp), .val (.int sl), .val (.int x), .val (.int (1 : Int32)), .unset]) rfl k) ?_
      show Go _ _ _ _ _ _ _ T0 (mkF m 264 #[.val (.int p0), .val (.int p1), .val (.int p2), .val (.int p3), .val (.int p4), .val (.int na), .val (.int nb), .val (.int nc), .val (.double ka), .second, .val (.double kb), .second, .val (.double kc), .second, .val (.int ct), .val (.ref q), .val (.int pb), .val (.int pp), .val (.int sl), .val (.int x), .val (.int (1 : Int32)), .unset] [])
      refine Go.step (fun _ k => XS.iload X0.here hx rfl (hb hby at_264) rfl k) ?_
      refine Go.step (fun _ k => XS.ifNo X0.here hx rfl (hb hby at_266) rfl ((if0 _ _).trans (feq (by decide : ¬ ((1 : Int32) = (0 : Int32)))).1) k) ?_
      show Go _ _ _ _ _ _ _ T0 (mkF m 269 #[.val (.int p0), .val (.int p1), .val (.int p2), .val (.int p3), .val (.int p4), .val (.int na), .val (.int nb), .val (.int nc), .val (.double ka), .second, .val (.double kb), .second, .val (.double kc), .second, .val (.int ct), .val (.ref q), .val (.int pb), .val (.int pp), .val (.int sl), .val (.int x), .val (.int (1 : Int32)), .unset] [])
      refine Go.step (fun _ k => XS.iload X0.here hx rfl (hb hby at_269) rfl k) ?_
      by_cases hc271_4 : pb = (0 : Int32)
      · refine Go.step (fun _ k => XS.ifYes X0.here hx rfl (pc0 := 271) (pc' := 281) rfl (hb hby at_271) rfl ((if0 _ _).trans (teq hc271_4).1) (by decide) (by decide) k) ?_
        show Go _ _ _ _ _ _ _ T0 (mkF m 281 #[.val (.int p0), .val (.int p1), .val (.int p2), .val (.int p3), .val (.int p4), .val (.int na), .val (.int nb), .val (.int nc), .val (.double ka), .second, .val (.double kb), .second, .val (.double kc), .second, .val (.int ct), .val (.ref q), .val (.int pb), .val (.int pp), .val (.int sl), .val (.int x), .val (.int (1 : Int32)), .unset] [])
        refine Go.step (fun _ k => XS.iconst X0.here hx rfl (hb hby at_281) k) ?_
        refine Go.step (fun _ k => XS.goto X0.here hx rfl (pc0 := 282) (pc' := 286) rfl (hb hby at_282) (by decide) (by decide) k) ?_
        show Go _ _ _ _ _ _ _ T0 (mkF m 286 #[.val (.int p0), .val (.int p1), .val (.int p2), .val (.int p3), .val (.int p4), .val (.int na), .val (.int nb), .val (.int nc), .val (.double ka), .second, .val (.double kb), .second, .val (.double kc), .second, .val (.int ct), .val (.ref q), .val (.int pb), .val (.int pp), .val (.int sl), .val (.int x), .val (.int (1 : Int32)), .unset] [(.int (1 : Int32))])
        refine Go.step (fun _ k => XS.istore X0.here hx rfl (hb hby at_286) rfl (l' := #[.val (.int p0), .val (.int p1), .val (.int p2), .val (.int p3), .val (.int p4), .val (.int na), .val (.int nb), .val (.int nc), .val (.double ka), .second, .val (.double kb), .second, .val (.double kc), .second, .val (.int ct), .val (.ref q), .val (.int pb), .val (.int pp), .val (.int sl), .val (.int x), .val (.int (1 : Int32)), .val (.int (1 : Int32))]) rfl k) ?_
        show Go _ _ _ _ _ _ _ T0 (mkF m 288 #[.val (.int p0), .val (.int p1), .val (.int p2), .val (.int p3), .val (.int p4), .val (.int na), .val (.int nb), .val (.int nc), .val (.double ka), .second, .val (.double kb), .second, .val (.double kc), .second, .val (.int ct), .val (.ref q), .val (.int pb), .val (.int pp), .val (.int sl), .val (.int x), .val (.int (1 : Int32)), .val (.int (1 : Int32))] [])
        refine Go.step (fun _ k => XS.aload X0.here hx rfl (hb hby at_288) rfl rfl k) ?_
        refine Go.step (fun _ k => XS.iload X0.here hx rfl (hb hby at_290) rfl k) ?_
        refine Go.callV X0 hx hZ (by rw [hml]; rfl) (y := (⟨"com/example/tributary/tributary/NodeQueue", "contains", "(I)Z"⟩ : MethodName)) (z := (⟨"com/example/tributary/tributary/NodeQueue", "contains", "(I)Z"⟩ : MethodName)) (a := q) (argsL := [(.int x)]) (rest := []) hown (hw _ (mI 17 rfl)) (hw _ (mI 18 rfl)) (notFace_of_selects (args := #[]) (mvT hZ (hw _ (mI 20 rfl)))) (hw _ (mI 20 rfl)) (hw _ (mI 19 rfl)) (hw _ (mI 2 rfl)) (hw _ (mI 21 rfl)) (by decide) (rmCont l Z a0 hw q n 64 fS x h0 n0 Z0 H (by omega) hx') e0 E_q (hb hby at_292) (lenOf pd_8 rfl) rfl rfl (W := 0) (Nat.le_of_eq rfl) (by decide) (by decide) (by decide) (by decide) ?_
        intro v5 T5 L5 X5 Q5
        obtain ⟨cb, rfl, N5q, hh5, hcb⟩ := Q5
        have N5 := Fr.app N0 N5q
        show Go _ _ _ _ _ _ _ T5 (mkF m 295 #[.val (.int p0), .val (.int p1), .val (.int p2), .val (.int p3), .val (.int p4), .val (.int na), .val (.int nb), .val (.int nc), .val (.double ka), .second, .val (.double kb), .second, .val (.double kc), .second, .val (.int ct), .val (.ref q), .val (.int pb), .val (.int pp), .val (.int sl), .val (.int x), .val (.int (1 : Int32)), .val (.int (1 : Int32))] [(.int cb)])
        refine Go.step (fun _ k => XS.iload X5.here hx rfl (hb hby at_295) rfl k) ?_
        refine Go.step (fun _ k => XS.icmpNo X5.here hx rfl (hb hby at_297) rfl (teq (hcb.resolve_right fun z => z.2 ((hS x).mpr ⟨Or.inl ⟨hc221_1, hc228_3⟩, fun u => u.1 hc271_4⟩)).1).2 k) ?_
        show Go _ _ _ _ _ _ _ T5 (mkF m 300 #[.val (.int p0), .val (.int p1), .val (.int p2), .val (.int p3), .val (.int p4), .val (.int na), .val (.int nb), .val (.int nc), .val (.double ka), .second, .val (.double kb), .second, .val (.double kc), .second, .val (.int ct), .val (.ref q), .val (.int pb), .val (.int pp), .val (.int sl), .val (.int x), .val (.int (1 : Int32)), .val (.int (1 : Int32))] [])
        refine Go.step (fun _ k => XS.iconst X5.here hx rfl (hb hby at_300) k) ?_
        refine Go.step (fun _ k => XS.goto X5.here hx rfl (pc0 := 301) (pc' := 305) rfl (hb hby at_301) (by decide) (by decide) k) ?_
        show Go _ _ _ _ _ _ _ T5 (mkF m 305 #[.val (.int p0), .val (.int p1), .val (.int p2), .val (.int p3), .val (.int p4), .val (.int na), .val (.int nb), .val (.int nc), .val (.double ka), .second, .val (.double kb), .second, .val (.double kc), .second, .val (.int ct), .val (.ref q), .val (.int pb), .val (.int pp), .val (.int sl), .val (.int x), .val (.int (1 : Int32)), .val (.int (1 : Int32))] [(.int (1 : Int32))])
        refine Go.retZ X5 hx hlk hret (by decide) (hb hby at_305) (by decide) (by decide) ?_
        try rw [hh5]
        exact ⟨rfl, N5⟩
      · refine Go.step (fun _ k => XS.ifNo X0.here hx rfl (hb hby at_271) rfl ((if0 _ _).trans (feq hc271_4).1) k) ?_
        show Go _ _ _ _ _ _ _ T0 (mkF m 274 #[.val (.int p0), .val (.int p1), .val (.int p2), .val (.int p3), .val (.int p4), .val (.int na), .val (.int nb), .val (.int nc), .val (.double ka), .second, .val (.double kb), .second, .val (.double kc), .second, .val (.int ct), .val (.ref q), .val (.int pb), .val (.int pp), .val (.int sl), .val (.int x), .val (.int (1 : Int32)), .unset] [])
        refine Go.step (fun _ k => XS.iload X0.here hx rfl (hb hby at_274) rfl k) ?_
        refine Go.step (fun _ k => XS.iload X0.here hx rfl (hb hby at_276) rfl k) ?_
        by_cases hc278_6 : x = pp
        · refine Go.step (fun _ k => XS.icmpYes X0.here hx rfl (pc0 := 278) (pc' := 285) rfl (hb hby at_278) rfl (teq hc278_6).1 (by decide) (by decide) k) ?_
          show Go _ _ _ _ _ _ _ T0 (mkF m 285 #[.val (.int p0), .val (.int p1), .val (.int p2), .val (.int p3), .val (.int p4), .val (.int na), .val (.int nb), .val (.int nc), .val (.double ka), .second, .val (.double kb), .second, .val (.double kc), .second, .val (.int ct), .val (.ref q), .val (.int pb), .val (.int pp), .val (.int sl), .val (.int x), .val (.int (1 : Int32)), .unset] [])
          refine Go.step (fun _ k => XS.iconst X0.here hx rfl (hb hby at_285) k) ?_
          refine Go.step (fun _ k => XS.istore X0.here hx rfl (hb hby at_286) rfl (l' := #[.val (.int p0), .val (.int p1), .val (.int p2), .val (.int p3), .val (.int p4), .val (.int na), .val (.int nb), .val (.int nc), .val (.double ka), .second, .val (.double kb), .second, .val (.double kc), .second, .val (.int ct), .val (.ref q), .val (.int pb), .val (.int pp), .val (.int sl), .val (.int x), .val (.int (1 : Int32)), .val (.int (0 : Int32))]) rfl k) ?_
          show Go _ _ _ _ _ _ _ T0 (mkF m 288 #[.val (.int p0), .val (.int p1), .val (.int p2), .val (.int p3), .val (.int p4), .val (.int na), .val (.int nb), .val (.int nc), .val (.double ka), .second, .val (.double kb), .second, .val (.double kc), .second, .val (.int ct), .val (.ref q), .val (.int pb), .val (.int pp), .val (.int sl), .val (.int x), .val (.int (1 : Int32)), .val (.int (0 : Int32))] [])
          refine Go.step (fun _ k => XS.aload X0.here hx rfl (hb hby at_288) rfl rfl k) ?_
          refine Go.step (fun _ k => XS.iload X0.here hx rfl (hb hby at_290) rfl k) ?_
          refine Go.callV X0 hx hZ (by rw [hml]; rfl) (y := (⟨"com/example/tributary/tributary/NodeQueue", "contains", "(I)Z"⟩ : MethodName)) (z := (⟨"com/example/tributary/tributary/NodeQueue", "contains", "(I)Z"⟩ : MethodName)) (a := q) (argsL := [(.int x)]) (rest := []) hown (hw _ (mI 17 rfl)) (hw _ (mI 18 rfl)) (notFace_of_selects (args := #[]) (mvT hZ (hw _ (mI 20 rfl)))) (hw _ (mI 20 rfl)) (hw _ (mI 19 rfl)) (hw _ (mI 2 rfl)) (hw _ (mI 21 rfl)) (by decide) (rmCont l Z a0 hw q n 64 fS x h0 n0 Z0 H (by omega) hx') e0 E_q (hb hby at_292) (lenOf pd_8 rfl) rfl rfl (W := 0) (Nat.le_of_eq rfl) (by decide) (by decide) (by decide) (by decide) ?_
          intro v7 T7 L7 X7 Q7
          obtain ⟨cb, rfl, N7q, hh7, hcb⟩ := Q7
          have N7 := Fr.app N0 N7q
          show Go _ _ _ _ _ _ _ T7 (mkF m 295 #[.val (.int p0), .val (.int p1), .val (.int p2), .val (.int p3), .val (.int p4), .val (.int na), .val (.int nb), .val (.int nc), .val (.double ka), .second, .val (.double kb), .second, .val (.double kc), .second, .val (.int ct), .val (.ref q), .val (.int pb), .val (.int pp), .val (.int sl), .val (.int x), .val (.int (1 : Int32)), .val (.int (0 : Int32))] [(.int cb)])
          refine Go.step (fun _ k => XS.iload X7.here hx rfl (hb hby at_295) rfl k) ?_
          refine Go.step (fun _ k => XS.icmpNo X7.here hx rfl (hb hby at_297) rfl (teq (hcb.resolve_left fun z => ((hS x).mp z.2).2 ⟨hc271_4, hc278_6⟩).1).2 k) ?_
          show Go _ _ _ _ _ _ _ T7 (mkF m 300 #[.val (.int p0), .val (.int p1), .val (.int p2), .val (.int p3), .val (.int p4), .val (.int na), .val (.int nb), .val (.int nc), .val (.double ka), .second, .val (.double kb), .second, .val (.double kc), .second, .val (.int ct), .val (.ref q), .val (.int pb), .val (.int pp), .val (.int sl), .val (.int x), .val (.int (1 : Int32)), .val (.int (0 : Int32))] [])
          refine Go.step (fun _ k => XS.iconst X7.here hx rfl (hb hby at_300) k) ?_
          refine Go.step (fun _ k => XS.goto X7.here hx rfl (pc0 := 301) (pc' := 305) rfl (hb hby at_301) (by decide) (by decide) k) ?_
          show Go _ _ _ _ _ _ _ T7 (mkF m 305 #[.val (.int p0), .val (.int p1), .val (.int p2), .val (.int p3), .val (.int p4), .val (.int na), .val (.int nb), .val (.int nc), .val (.double ka), .second, .val (.double kb), .second, .val (.double kc), .second, .val (.int ct), .val (.ref q), .val (.int pb), .val (.int pp), .val (.int sl), .val (.int x), .val (.int (1 : Int32)), .val (.int (0 : Int32))] [(.int (1 : Int32))])
          refine Go.retZ X7 hx hlk hret (by decide) (hb hby at_305) (by decide) (by decide) ?_
          try rw [hh7]
          exact ⟨rfl, N7⟩
        · refine Go.step (fun _ k => XS.icmpNo X0.here hx rfl (hb hby at_278) rfl (feq hc278_6).1 k) ?_
          show Go _ _ _ _ _ _ _ T0 (mkF m 281 #[.val (.int p0), .val (.int p1), .val (.int p2), .val (.int p3), .val (.int p4), .val (.int na), .val (.int nb), .val (.int nc), .val (.double ka), .second, .val (.double kb), .second, .val (.double kc), .second, .val (.int ct), .val (.ref q), .val (.int pb), .val (.int pp), .val (.int sl), .val (.int x), .val (.int (1 : Int32)), .unset] [])
          refine Go.step (fun _ k => XS.iconst X0.here hx rfl (hb hby at_281) k) ?_
          refine Go.step (fun _ k => XS.goto X0.here hx rfl (pc0 := 282) (pc' := 286) rfl (hb hby at_282) (by decide) (by decide) k) ?_
          show Go _ _ _ _ _ _ _ T0 (mkF m 286 #[.val (.int p0), .val (.int p1), .val (.int p2), .val (.int p3), .val (.int p4), .val (.int na), .val (.int nb), .val (.int nc), .val (.double ka), .second, .val (.double kb), .second, .val (.double kc), .second, .val (.int ct), .val (.ref q), .val (.int pb), .val (.int pp), .val (.int sl), .val (.int x), .val (.int (1 : Int32)), .unset] [(.int (1 : Int32))])
          refine Go.step (fun _ k => XS.istore X0.here hx rfl (hb hby at_286) rfl (l' := #[.val (.int p0), .val (.int p1), .val (.int p2), .val (.int p3), .val (.int p4), .val (.int na), .val (.int nb), .val (.int nc), .val (.double ka), .second, .val (.double kb), .second, .val (.double kc), .second, .val (.int ct), .val (.ref q), .val (.int pb), .val (.int pp), .val (.int sl), .val (.int x), .val (.int (1 : Int32)), .val (.int (1 : Int32))]) rfl k) ?_
          show Go _ _ _ _ _ _ _ T0 (mkF m 288 #[.val (.int p0), .val (.int p1), .val (.int p2), .val (.int p3), .val (.int p4), .val (.int na), .val (.int nb), .val (.int nc), .val (.double ka), .second, .val (.double kb), .second, .val (.double kc), .second, .val (.int ct), .val (.ref q), .val (.int pb), .val (.int pp), .val (.int sl), .val (.int x), .val (.int (1 : Int32)), .val (.int (1 : Int32))] [])
          refine Go.step (fun _ k => XS.aload X0.here hx rfl (hb hby at_288) rfl rfl k) ?_
          refine Go.step (fun _ k => XS.iload X0.here hx rfl (hb hby at_290) rfl k) ?_
          refine Go.callV X0 hx hZ (by rw [hml]; rfl) (y := (⟨"com/example/tributary/tributary/NodeQueue", "contains", "(I)Z"⟩ : MethodName)) (z := (⟨"com/example/tributary/tributary/NodeQueue", "contains", "(I)Z"⟩ : MethodName)) (a := q) (argsL := [(.int x)]) (rest := []) hown (hw _ (mI 17 rfl)) (hw _ (mI 18 rfl)) (notFace_of_selects (args := #[]) (mvT hZ (hw _ (mI 20 rfl)))) (hw _ (mI 20 rfl)) (hw _ (mI 19 rfl)) (hw _ (mI 2 rfl)) (hw _ (mI 21 rfl)) (by decide) (rmCont l Z a0 hw q n 64 fS x h0 n0 Z0 H (by omega) hx') e0 E_q (hb hby at_292) (lenOf pd_8 rfl) rfl rfl (W := 0) (Nat.le_of_eq rfl) (by decide) (by decide) (by decide) (by decide) ?_
          intro v8 T8 L8 X8 Q8
          obtain ⟨cb, rfl, N8q, hh8, hcb⟩ := Q8
          have N8 := Fr.app N0 N8q
          show Go _ _ _ _ _ _ _ T8 (mkF m 295 #[.val (.int p0), .val (.int p1), .val (.int p2), .val (.int p3), .val (.int p4), .val (.int na), .val (.int nb), .val (.int nc), .val (.double ka), .second, .val (.double kb), .second, .val (.double kc), .second, .val (.int ct), .val (.ref q), .val (.int pb), .val (.int pp), .val (.int sl), .val (.int x), .val (.int (1 : Int32)), .val (.int (1 : Int32))] [(.int cb)])
          refine Go.step (fun _ k => XS.iload X8.here hx rfl (hb hby at_295) rfl k) ?_
          refine Go.step (fun _ k => XS.icmpNo X8.here hx rfl (hb hby at_297) rfl (teq (hcb.resolve_right fun z => z.2 ((hS x).mpr ⟨Or.inl ⟨hc221_1, hc228_3⟩, fun u => hc278_6 u.2⟩)).1).2 k) ?_
          show Go _ _ _ _ _ _ _ T8 (mkF m 300 #[.val (.int p0), .val (.int p1), .val (.int p2), .val (.int p3), .val (.int p4), .val (.int na), .val (.int nb), .val (.int nc), .val (.double ka), .second, .val (.double kb), .second, .val (.double kc), .second, .val (.int ct), .val (.ref q), .val (.int pb), .val (.int pp), .val (.int sl), .val (.int x), .val (.int (1 : Int32)), .val (.int (1 : Int32))] [])
          refine Go.step (fun _ k => XS.iconst X8.here hx rfl (hb hby at_300) k) ?_
          refine Go.step (fun _ k => XS.goto X8.here hx rfl (pc0 := 301) (pc' := 305) rfl (hb hby at_301) (by decide) (by decide) k) ?_
          show Go _ _ _ _ _ _ _ T8 (mkF m 305 #[.val (.int p0), .val (.int p1), .val (.int p2), .val (.int p3), .val (.int p4), .val (.int na), .val (.int nb), .val (.int nc), .val (.double ka), .second, .val (.double kb), .second, .val (.double kc), .second, .val (.int ct), .val (.ref q), .val (.int pb), .val (.int pp), .val (.int sl), .val (.int x), .val (.int (1 : Int32)), .val (.int (1 : Int32))] [(.int (1 : Int32))])
          refine Go.retZ X8 hx hlk hret (by decide) (hb hby at_305) (by decide) (by decide) ?_
          try rw [hh8]
          exact ⟨rfl, N8⟩
    · refine Go.step (fun _ k => XS.icmpNo X0.here hx rfl (hb hby at_228) rfl (feq hc228_3).1 k) ?_
      show Go _ _ _ _ _ _ _ T0 (mkF m 231 #[.val (.int p0), .val (.int p1), .val (.int p2), .val (.int p3), .val (.int p4), .val (.int na), .val (.int nb), .val (.int nc), .val (.double ka), .second, .val (.double kb), .second, .val (.double kc), .second, .val (.int ct), .val (.ref q), .val (.int pb), .val (.int pp), .val (.int sl), .val (.int x), .unset, .unset] [])
      refine Go.step (fun _ k => XS.iload X0.here hx rfl (hb hby at_231) rfl k) ?_
      refine Go.step (fun _ k => XS.iconst X0.here hx rfl (hb hby at_233) k) ?_
      by_cases hc234_9 : ct < (2 : Int32)
      · refine Go.step (fun _ k => XS.icmpYes X0.here hx rfl (pc0 := 234) (pc' := 244) rfl (hb hby at_234) rfl (tlt hc234_9).1 (by decide) (by decide) k) ?_
        show Go _ _ _ _ _ _ _ T0 (mkF m 244 #[.val (.int p0), .val (.int p1), .val (.int p2), .val (.int p3), .val (.int p4), .val (.int na), .val (.int nb), .val (.int nc), .val (.double ka), .second, .val (.double kb), .second, .val (.double kc), .second, .val (.int ct), .val (.ref q), .val (.int pb), .val (.int pp), .val (.int sl), .val (.int x), .unset, .unset] [])
        refine Go.step (fun _ k => XS.iload X0.here hx rfl (hb hby at_244) rfl k) ?_
        refine Go.step (fun _ k => XS.iconst X0.here hx rfl (hb hby at_246) k) ?_
        refine Go.step (fun _ k => XS.icmpYes X0.here hx rfl (pc0 := 247) (pc' := 261) rfl (hb hby at_247) rfl (tlt (own_lts hc234_9 (by decide))).1 (by decide) (by decide) k) ?_
        show Go _ _ _ _ _ _ _ T0 (mkF m 261 #[.val (.int p0), .val (.int p1), .val (.int p2), .val (.int p3), .val (.int p4), .val (.int na), .val (.int nb), .val (.int nc), .val (.double ka), .second, .val (.double kb), .second, .val (.double kc), .second, .val (.int ct), .val (.ref q), .val (.int pb), .val (.int pp), .val (.int sl), .val (.int x), .unset, .unset] [])
        refine Go.step (fun _ k => XS.iconst X0.here hx rfl (hb hby at_261) k) ?_
        refine Go.step (fun _ k => XS.istore X0.here hx rfl (hb hby at_262) rfl (l' := #[.val (.int p0), .val (.int p1), .val (.int p2), .val (.int p3), .val (.int p4), .val (.int na), .val (.int nb), .val (.int nc), .val (.double ka), .second, .val (.double kb), .second, .val (.double kc), .second, .val (.int ct), .val (.ref q), .val (.int pb), .val (.int pp), .val (.int sl), .val (.int x), .val (.int (0 : Int32)), .unset]) rfl k) ?_
        show Go _ _ _ _ _ _ _ T0 (mkF m 264 #[.val (.int p0), .val (.int p1), .val (.int p2), .val (.int p3), .val (.int p4), .val (.int na), .val (.int nb), .val (.int nc), .val (.double ka), .second, .val (.double kb), .second, .val (.double kc), .second, .val (.int ct), .val (.ref q), .val (.int pb), .val (.int pp), .val (.int sl), .val (.int x), .val (.int (0 : Int32)), .unset] [])
        refine Go.step (fun _ k => XS.iload X0.here hx rfl (hb hby at_264) rfl k) ?_
        refine Go.step (fun _ k => XS.ifYes X0.here hx rfl (pc0 := 266) (pc' := 285) rfl (hb hby at_266) rfl ((if0 _ _).trans (teq (by decide : (0 : Int32) = (0 : Int32))).1) (by decide) (by decide) k) ?_
        show Go _ _ _ _ _ _ _ T0 (mkF m 285 #[.val (.int p0), .val (.int p1), .val (.int p2), .val (.int p3), .val (.int p4), .val (.int na), .val (.int nb), .val (.int nc), .val (.double ka), .second, .val (.double kb), .second, .val (.double kc), .second, .val (.int ct), .val (.ref q), .val (.int pb), .val (.int pp), .val (.int sl), .val (.int x), .val (.int (0 : Int32)), .unset] [])
        refine Go.step (fun _ k => XS.iconst X0.here hx rfl (hb hby at_285) k) ?_
        refine Go.step (fun _ k => XS.istore X0.here hx rfl (hb hby at_286) rfl (l' := #[.val (.int p0), .val (.int p1), .val (.int p2), .val (.int p3), .val (.int p4), .val (.int na), .val (.int nb), .val (.int nc), .val (.double ka), .second, .val (.double kb), .second, .val (.double kc), .second, .val (.int ct), .val (.ref q), .val (.int pb), .val (.int pp), .val (.int sl), .val (.int x), .val (.int (0 : Int32)), .val (.int (0 : Int32))]) rfl k) ?_
        show Go _ _ _ _ _ _ _ T0 (mkF m 288 #[.val (.int p0), .val (.int p1), .val (.int p2), .val (.int p3), .val (.int p4), .val (.int na), .val (.int nb), .val (.int nc), .val (.double ka), .second, .val (.double kb), .second, .val (.double kc), .second, .val (.int ct), .val (.ref q), .val (.int pb), .val (.int pp), .val (.int sl), .val (.int x), .val (.int (0 : Int32)), .val (.int (0 : Int32))] [])
        refine Go.step (fun _ k => XS.aload X0.here hx rfl (hb hby at_288) rfl rfl k) ?_
        refine Go.step (fun _ k => XS.iload X0.here hx rfl (hb hby at_290) rfl k) ?_
        refine Go.callV X0 hx hZ (by rw [hml]; rfl) (y := (⟨"com/example/tributary/tributary/NodeQueue", "contains", "(I)Z"⟩ : MethodName)) (z := (⟨"com/example/tributary/tributary/NodeQueue", "contains", "(I)Z"⟩ : MethodName)) (a := q) (argsL := [(.int x)]) (rest := []) hown (hw _ (mI 17 rfl)) (hw _ (mI 18 rfl)) (notFace_of_selects (args := #[]) (mvT hZ (hw _ (mI 20 rfl)))) (hw _ (mI 20 rfl)) (hw _ (mI 19 rfl)) (hw _ (mI 2 rfl)) (hw _ (mI 21 rfl)) (by decide) (rmCont l Z a0 hw q n 64 fS x h0 n0 Z0 H (by omega) hx') e0 E_q (hb hby at_292) (lenOf pd_8 rfl) rfl rfl (W := 0) (Nat.le_of_eq rfl) (by decide) (by decide) (by decide) (by decide) ?_
        intro v10 T10 L10 X10 Q10
        obtain ⟨cb, rfl, N10q, hh10, hcb⟩ := Q10
        have N10 := Fr.app N0 N10q
        show Go _ _ _ _ _ _ _ T10 (mkF m 295 #[.val (.int p0), .val (.int p1), .val (.int p2), .val (.int p3), .val (.int p4), .val (.int na), .val (.int nb), .val (.int nc), .val (.double ka), .second, .val (.double kb), .second, .val (.double kc), .second, .val (.int ct), .val (.ref q), .val (.int pb), .val (.int pp), .val (.int sl), .val (.int x), .val (.int (0 : Int32)), .val (.int (0 : Int32))] [(.int cb)])
        refine Go.step (fun _ k => XS.iload X10.here hx rfl (hb hby at_295) rfl k) ?_
        refine Go.step (fun _ k => XS.icmpNo X10.here hx rfl (hb hby at_297) rfl (teq (hcb.resolve_left fun z => ((hS x).mp z.2).1.elim (fun u => hc228_3 u.2) (fun v => v.elim (fun u => u.1 hc234_9) (fun u => u.1 (own_lts hc234_9 (by decide))))).1).2 k) ?_
        show Go _ _ _ _ _ _ _ T10 (mkF m 300 #[.val (.int p0), .val (.int p1), .val (.int p2), .val (.int p3), .val (.int p4), .val (.int na), .val (.int nb), .val (.int nc), .val (.double ka), .second, .val (.double kb), .second, .val (.double kc), .second, .val (.int ct), .val (.ref q), .val (.int pb), .val (.int pp), .val (.int sl), .val (.int x), .val (.int (0 : Int32)), .val (.int (0 : Int32))] [])
        refine Go.step (fun _ k => XS.iconst X10.here hx rfl (hb hby at_300) k) ?_
        refine Go.step (fun _ k => XS.goto X10.here hx rfl (pc0 := 301) (pc' := 305) rfl (hb hby at_301) (by decide) (by decide) k) ?_
        show Go _ _ _ _ _ _ _ T10 (mkF m 305 #[.val (.int p0), .val (.int p1), .val (.int p2), .val (.int p3), .val (.int p4), .val (.int na), .val (.int nb), .val (.int nc), .val (.double ka), .second, .val (.double kb), .second, .val (.double kc), .second, .val (.int ct), .val (.ref q), .val (.int pb), .val (.int pp), .val (.int sl), .val (.int x), .val (.int (0 : Int32)), .val (.int (0 : Int32))] [(.int (1 : Int32))])
        refine Go.retZ X10 hx hlk hret (by decide) (hb hby at_305) (by decide) (by decide) ?_
        try rw [hh10]
        exact ⟨rfl, N10⟩
      · refine Go.step (fun _ k => XS.icmpNo X0.here hx rfl (hb hby at_234) rfl (flt hc234_9).1 k) ?_
        show Go _ _ _ _ _ _ _ T0 (mkF m 237 #[.val (.int p0), .val (.int p1), .val (.int p2), .val (.int p3), .val (.int p4), .val (.int na), .val (.int nb), .val (.int nc), .val (.double ka), .second, .val (.double kb), .second, .val (.double kc), .second, .val (.int ct), .val (.ref q), .val (.int pb), .val (.int pp), .val (.int sl), .val (.int x), .unset, .unset] [])
        refine Go.step (fun _ k => XS.iload X0.here hx rfl (hb hby at_237) rfl k) ?_
        refine Go.step (fun _ k => XS.iload X0.here hx rfl (hb hby at_239) rfl k) ?_
        by_cases hc241_11 : x = nb
        · refine Go.step (fun _ k => XS.icmpYes X0.here hx rfl (pc0 := 241) (pc' := 257) rfl (hb hby at_241) rfl (teq hc241_11).1 (by decide) (by decide) k) ?_
          show Go _ _ _ _ _ _ _ T0 (mkF m 257 #[.val (.int p0), .val (.int p1), .val (.int p2), .val (.int p3), .val (.int p4), .val (.int na), .val (.int nb), .val (.int nc), .val (.double ka), .second, .val (.double kb), .second, .val (.double kc), .second, .val (.int ct), .val (.ref q), .val (.int pb), .val (.int pp), .val (.int sl), .val (.int x), .unset, .unset] [])
          refine Go.step (fun _ k => XS.iconst X0.here hx rfl (hb hby at_257) k) ?_
          refine Go.step (fun _ k => XS.goto X0.here hx rfl (pc0 := 258) (pc' := 262) rfl (hb hby at_258) (by decide) (by decide) k) ?_
          show Go _ _ _ _ _ _ _ T0 (mkF m 262 #[.val (.int p0), .val (.int p1), .val (.int p2), .val (.int p3), .val (.int p4), .val (.int na), .val (.int nb), .val (.int nc), .val (.double ka), .second, .val (.double kb), .second, .val (.double kc), .second, .val (.int ct), .val (.ref q), .val (.int pb), .val (.int pp), .val (.int sl), .val (.int x), .unset, .unset] [(.int (1 : Int32))])
          refine Go.step (fun _ k => XS.istore X0.here hx rfl (hb hby at_262) rfl (l' := #[.val (.int p0), .val (.int p1), .val (.int p2), .val (.int p3), .val (.int p4), .val (.int na), .val (.int nb), .val (.int nc), .val (.double ka), .second, .val (.double kb), .second, .val (.double kc), .second, .val (.int ct), .val (.ref q), .val (.int pb), .val (.int pp), .val (.int sl), .val (.int x), .val (.int (1 : Int32)), .unset]) rfl k) ?_
          show Go _ _ _ _ _ _ _ T0 (mkF m 264 #[.val (.int p0), .val (.int p1), .val (.int p2), .val (.int p3), .val (.int p4), .val (.int na), .val (.int nb), .val (.int nc), .val (.double ka), .second, .val (.double kb), .second, .val (.double kc), .second, .val (.int ct), .val (.ref q), .val (.int pb), .val (.int pp), .val (.int sl), .val (.int x), .val (.int (1 : Int32)), .unset] [])
          refine Go.step (fun _ k => XS.iload X0.here hx rfl (hb hby at_264) rfl k) ?_
          refine Go.step (fun _ k => XS.ifNo X0.here hx rfl (hb hby at_266) rfl ((if0 _ _).trans (feq (by decide : ¬ ((1 : Int32) = (0 : Int32)))).1) k) ?_
          show Go _ _ _ _ _ _ _ T0 (mkF m 269 #[.val (.int p0), .val (.int p1), .val (.int p2), .val (.int p3), .val (.int p4), .val (.int na), .val (.int nb), .val (.int nc), .val (.double ka), .second, .val (.double kb), .second, .val (.double kc), .second, .val (.int ct), .val (.ref q), .val (.int pb), .val (.int pp), .val (.int sl), .val (.int x), .val (.int (1 : Int32)), .unset] [])
          refine Go.step (fun _ k => XS.iload X0.here hx rfl (hb hby at_269) rfl k) ?_
          by_cases hc271_12 : pb = (0 : Int32)
          · refine Go.step (fun _ k => XS.ifYes X0.here hx rfl (pc0 := 271) (pc' := 281) rfl (hb hby at_271) rfl ((if0 _ _).trans (teq hc271_12).1) (by decide) (by decide) k) ?_
            show Go _ _ _ _ _ _ _ T0 (mkF m 281 #[.val (.int p0), .val (.int p1), .val (.int p2), .val (.int p3), .val (.int p4), .val (.int na), .val (.int nb), .val (.int nc), .val (.double ka), .second, .val (.double kb), .second, .val (.double kc), .second, .val (.int ct), .val (.ref q), .val (.int pb), .val (.int pp), .val (.int sl), .val (.int x), .val (.int (1 : Int32)), .unset] [])
            refine Go.step (fun _ k => XS.iconst X0.here hx rfl (hb hby at_281) k) ?_
            refine Go.step (fun _ k => XS.goto X0.here hx rfl (pc0 := 282) (pc' := 286) rfl (hb hby at_282) (by decide) (by decide) k) ?_
            show Go _ _ _ _ _ _ _ T0 (mkF m 286 #[.val (.int p0), .val (.int p1), .val (.int p2), .val (.int p3), .val (.int p4), .val (.int na), .val (.int nb), .val (.int nc), .val (.double ka), .second, .val (.double kb), .second, .val (.double kc), .second, .val (.int ct), .val (.ref q), .val (.int pb), .val (.int pp), .val (.int sl), .val (.int x), .val (.int (1 : Int32)), .unset] [(.int (1 : Int32))])
            refine Go.step (fun _ k => XS.istore X0.here hx rfl (hb hby at_286) rfl (l' := #[.val (.int p0), .val (.int p1), .val (.int p2), .val (.int p3), .val (.int p4), .val (.int na), .val (.int nb), .val (.int nc), .val (.double ka), .second, .val (.double kb), .second, .val (.double kc), .second, .val (.int ct), .val (.ref q), .val (.int pb), .val (.int pp), .val (.int sl), .val (.int x), .val (.int (1 : Int32)), .val (.int (1 : Int32))]) rfl k) ?_
            show Go _ _ _ _ _ _ _ T0 (mkF m 288 #[.val (.int p0), .val (.int p1), .val (.int p2), .val (.int p3), .val (.int p4), .val (.int na), .val (.int nb), .val (.int nc), .val (.double ka), .second, .val (.double kb), .second, .val (.double kc), .second, .val (.int ct), .val (.ref q), .val (.int pb), .val (.int pp), .val (.int sl), .val (.int x), .val (.int (1 : Int32)), .val (.int (1 : Int32))] [])
            refine Go.step (fun _ k => XS.aload X0.here hx rfl (hb hby at_288) rfl rfl k) ?_
            refine Go.step (fun _ k => XS.iload X0.here hx rfl (hb hby at_290) rfl k) ?_
            refine Go.callV X0 hx hZ (by rw [hml]; rfl) (y := (⟨"com/example/tributary/tributary/NodeQueue", "contains", "(I)Z"⟩ : MethodName)) (z := (⟨"com/example/tributary/tributary/NodeQueue", "contains", "(I)Z"⟩ : MethodName)) (a := q) (argsL := [(.int x)]) (rest := []) hown (hw _ (mI 17 rfl)) (hw _ (mI 18 rfl)) (notFace_of_selects (args := #[]) (mvT hZ (hw _ (mI 20 rfl)))) (hw _ (mI 20 rfl)) (hw _ (mI 19 rfl)) (hw _ (mI 2 rfl)) (hw _ (mI 21 rfl)) (by decide) (rmCont l Z a0 hw q n 64 fS x h0 n0 Z0 H (by omega) hx') e0 E_q (hb hby at_292) (lenOf pd_8 rfl) rfl rfl (W := 0) (Nat.le_of_eq rfl) (by decide) (by decide) (by decide) (by decide) ?_
            intro v13 T13 L13 X13 Q13
            obtain ⟨cb, rfl, N13q, hh13, hcb⟩ := Q13
            have N13 := Fr.app N0 N13q
            show Go _ _ _ _ _ _ _ T13 (mkF m 295 #[.val (.int p0), .val (.int p1), .val (.int p2), .val (.int p3), .val (.int p4), .val (.int na), .val (.int nb), .val (.int nc), .val (.double ka), .second, .val (.double kb), .second, .val (.double kc), .second, .val (.int ct), .val (.ref q), .val (.int pb), .val (.int pp), .val (.int sl), .val (.int x), .val (.int (1 : Int32)), .val (.int (1 : Int32))] [(.int cb)])
            refine Go.step (fun _ k => XS.iload X13.here hx rfl (hb hby at_295) rfl k) ?_
            refine Go.step (fun _ k => XS.icmpNo X13.here hx rfl (hb hby at_297) rfl (teq (hcb.resolve_right fun z => z.2 ((hS x).mpr ⟨Or.inr (Or.inl ⟨hc234_9, hc241_11⟩), fun u => u.1 hc271_12⟩)).1).2 k) ?_
            show Go _ _ _ _ _ _ _ T13 (mkF m 300 #[.val (.int p0), .val (.int p1), .val (.int p2), .val (.int p3), .val (.int p4), .val (.int na), .val (.int nb), .val (.int nc), .val (.double ka), .second, .val (.double kb), .second, .val (.double kc), .second, .val (.int ct), .val (.ref q), .val (.int pb), .val (.int pp), .val (.int sl), .val (.int x), .val (.int (1 : Int32)), .val (.int (1 : Int32))] [])
            refine Go.step (fun _ k => XS.iconst X13.here hx rfl (hb hby at_300) k) ?_
            refine Go.step (fun _ k => XS.goto X13.here hx rfl (pc0 := 301) (pc' := 305) rfl (hb hby at_301) (by decide) (by decide) k) ?_
            show Go _ _ _ _ _ _ _ T13 (mkF m 305 #[.val (.int p0), .val (.int p1), .val (.int p2), .val (.int p3), .val (.int p4), .val (.int na), .val (.int nb), .val (.int nc), .val (.double ka), .second, .val (.double kb), .second, .val (.double kc), .second, .val (.int ct), .val (.ref q), .val (.int pb), .val (.int pp), .val (.int sl), .val (.int x), .val (.int (1 : Int32)), .val (.int (1 : Int32))] [(.int (1 : Int32))])
            refine Go.retZ X13 hx hlk hret (by decide) (hb hby at_305) (by decide) (by decide) ?_
            try rw [hh13]
            exact ⟨rfl, N13⟩
          · refine Go.step (fun _ k => XS.ifNo X0.here hx rfl (hb hby at_271) rfl ((if0 _ _).trans (feq hc271_12).1) k) ?_
            show Go _ _ _ _ _ _ _ T0 (mkF m 274 #[.val (.int p0), .val (.int p1), .val (.int p2), .val (.int p3), .val (.int p4), .val (.int na), .val (.int nb), .val (.int nc), .val (.double ka), .second, .val (.double kb), .second, .val (.double kc), .second, .val (.int ct), .val (.ref q), .val (.int pb), .val (.int pp), .val (.int sl), .val (.int x), .val (.int (1 : Int32)), .unset] [])
            refine Go.step (fun _ k => XS.iload X0.here hx rfl (hb hby at_274) rfl k) ?_
            refine Go.step (fun _ k => XS.iload X0.here hx rfl (hb hby at_276) rfl k) ?_
            by_cases hc278_14 : x = pp
            · refine Go.step (fun _ k => XS.icmpYes X0.here hx rfl (pc0 := 278) (pc' := 285) rfl (hb hby at_278) rfl (teq hc278_14).1 (by decide) (by decide) k) ?_
              show Go _ _ _ _ _ _ _ T0 (mkF m 285 #[.val (.int p0), .val (.int p1), .val (.int p2), .val (.int p3), .val (.int p4), .val (.int na), .val (.int nb), .val (.int nc), .val (.double ka), .second, .val (.double kb), .second, .val (.double kc), .second, .val (.int ct), .val (.ref q), .val (.int pb), .val (.int pp), .val (.int sl), .val (.int x), .val (.int (1 : Int32)), .unset] [])
              refine Go.step (fun _ k => XS.iconst X0.here hx rfl (hb hby at_285) k) ?_
              refine Go.step (fun _ k => XS.istore X0.here hx rfl (hb hby at_286) rfl (l' := #[.val (.int p0), .val (.int p1), .val (.int p2), .val (.int p3), .val (.int p4), .val (.int na), .val (.int nb), .val (.int nc), .val (.double ka), .second, .val (.double kb), .second, .val (.double kc), .second, .val (.int ct), .val (.ref q), .val (.int pb), .val (.int pp), .val (.int sl), .val (.int x), .val (.int (1 : Int32)), .val (.int (0 : Int32))]) rfl k) ?_
              show Go _ _ _ _ _ _ _ T0 (mkF m 288 #[.val (.int p0), .val (.int p1), .val (.int p2), .val (.int p3), .val (.int p4), .val (.int na), .val (.int nb), .val (.int nc), .val (.double ka), .second, .val (.double kb), .second, .val (.double kc), .second, .val (.int ct), .val (.ref q), .val (.int pb), .val (.int pp), .val (.int sl), .val (.int x), .val (.int (1 : Int32)), .val (.int (0 : Int32))] [])
              refine Go.step (fun _ k => XS.aload X0.here hx rfl (hb hby at_288) rfl rfl k) ?_
              refine Go.step (fun _ k => XS.iload X0.here hx rfl (hb hby at_290) rfl k) ?_
              refine Go.callV X0 hx hZ (by rw [hml]; rfl) (y := (⟨"com/example/tributary/tributary/NodeQueue", "contains", "(I)Z"⟩ : MethodName)) (z := (⟨"com/example/tributary/tributary/NodeQueue", "contains", "(I)Z"⟩ : MethodName)) (a := q) (argsL := [(.int x)]) (rest := []) hown (hw _ (mI 17 rfl)) (hw _ (mI 18 rfl)) (notFace_of_selects (args := #[]) (mvT hZ (hw _ (mI 20 rfl)))) (hw _ (mI 20 rfl)) (hw _ (mI 19 rfl)) (hw _ (mI 2 rfl)) (hw _ (mI 21 rfl)) (by decide) (rmCont l Z a0 hw q n 64 fS x h0 n0 Z0 H (by omega) hx') e0 E_q (hb hby at_292) (lenOf pd_8 rfl) rfl rfl (W := 0) (Nat.le_of_eq rfl) (by decide) (by decide) (by decide) (by decide) ?_
              intro v15 T15 L15 X15 Q15
              obtain ⟨cb, rfl, N15q, hh15, hcb⟩ := Q15
              have N15 := Fr.app N0 N15q
              show Go _ _ _ _ _ _ _ T15 (mkF m 295 #[.val (.int p0), .val (.int p1), .val (.int p2), .val (.int p3), .val (.int p4), .val (.int na), .val (.int nb), .val (.int nc), .val (.double ka), .second, .val (.double kb), .second, .val (.double kc), .second, .val (.int ct), .val (.ref q), .val (.int pb), .val (.int pp), .val (.int sl), .val (.int x), .val (.int (1 : Int32)), .val (.int (0 : Int32))] [(.int cb)])
              refine Go.step (fun _ k => XS.iload X15.here hx rfl (hb hby at_295) rfl k) ?_
              refine Go.step (fun _ k => XS.icmpNo X15.here hx rfl (hb hby at_297) rfl (teq (hcb.resolve_left fun z => ((hS x).mp z.2).2 ⟨hc271_12, hc278_14⟩).1).2 k) ?_
              show Go _ _ _ _ _ _ _ T15 (mkF m 300 #[.val (.int p0), .val (.int p1), .val (.int p2), .val (.int p3), .val (.int p4), .val (.int na), .val (.int nb), .val (.int nc), .val (.double ka), .second, .val (.double kb), .second, .val (.double kc), .second, .val (.int ct), .val (.ref q), .val (.int pb), .val (.int pp), .val (.int sl), .val (.int x), .val (.int (1 : Int32)), .val (.int (0 : Int32))] [])
              refine Go.step (fun _ k => XS.iconst X15.here hx rfl (hb hby at_300) k) ?_
              refine Go.step (fun _ k => XS.goto X15.here hx rfl (pc0 := 301) (pc' := 305) rfl (hb hby at_301) (by decide) (by decide) k) ?_
              show Go _ _ _ _ _ _ _ T15 (mkF m 305 #[.val (.int p0), .val (.int p1), .val (.int p2), .val (.int p3), .val (.int p4), .val (.int na), .val (.int nb), .val (.int nc), .val (.double ka), .second, .val (.double kb), .second, .val (.double kc), .second, .val (.int ct), .val (.ref q), .val (.int pb), .val (.int pp), .val (.int sl), .val (.int x), .val (.int (1 : Int32)), .val (.int (0 : Int32))] [(.int (1 : Int32))])
              refine Go.retZ X15 hx hlk hret (by decide) (hb hby at_305) (by decide) (by decide) ?_
              try rw [hh15]
              exact ⟨rfl, N15⟩
            · refine Go.step (fun _ k => XS.icmpNo X0.here hx rfl (hb hby at_278) rfl (feq hc278_14).1 k) ?_
              show Go _ _ _ _ _ _ _ T0 (mkF m 281 #[.val (.int p0), .val (.int p1), .val (.int p2), .val (.int p3), .val (.int p4), .val (.int na), .val (.int nb), .val (.int nc), .val (.double ka), .second, .val (.double kb), .second, .val (.double kc), .second, .val (.int ct), .val (.ref q), .val (.int pb), .val (.int pp), .val (.int sl), .val (.int x), .val (.int (1 : Int32)), .unset] [])
              refine Go.step (fun _ k => XS.iconst X0.here hx rfl (hb hby at_281) k) ?_
              refine Go.step (fun _ k => XS.goto X0.here hx rfl (pc0 := 282) (pc' := 286) rfl (hb hby at_282) (by decide) (by decide) k) ?_
              show Go _ _ _ _ _ _ _ T0 (mkF m 286 #[.val (.int p0), .val (.int p1), .val (.int p2), .val (.int p3), .val (.int p4), .val (.int na), .val (.int nb), .val (.int nc), .val (.double ka), .second, .val (.double kb), .second, .val (.double kc), .second, .val (.int ct), .val (.ref q), .val (.int pb), .val (.int pp), .val (.int sl), .val (.int x), .val (.int (1 : Int32)), .unset] [(.int (1 : Int32))])
              refine Go.step (fun _ k => XS.istore X0.here hx rfl (hb hby at_286) rfl (l' := #[.val (.int p0), .val (.int p1), .val (.int p2), .val (.int p3), .val (.int p4), .val (.int na), .val (.int nb), .val (.int nc), .val (.double ka), .second, .val (.double kb), .second, .val (.double kc), .second, .val (.int ct), .val (.ref q), .val (.int pb), .val (.int pp), .val (.int sl), .val (.int x), .val (.int (1 : Int32)), .val (.int (1 : Int32))]) rfl k) ?_
              show Go _ _ _ _ _ _ _ T0 (mkF m 288 #[.val (.int p0), .val (.int p1), .val (.int p2), .val (.int p3), .val (.int p4), .val (.int na), .val (.int nb), .val (.int nc), .val (.double ka), .second, .val (.double kb), .second, .val (.double kc), .second, .val (.int ct), .val (.ref q), .val (.int pb), .val (.int pp), .val (.int sl), .val (.int x), .val (.int (1 : Int32)), .val (.int (1 : Int32))] [])
              refine Go.step (fun _ k => XS.aload X0.here hx rfl (hb hby at_288) rfl rfl k) ?_
              refine Go.step (fun _ k => XS.iload X0.here hx rfl (hb hby at_290) rfl k) ?_
              refine Go.callV X0 hx hZ (by rw [hml]; rfl) (y := (⟨"com/example/tributary/tributary/NodeQueue", "contains", "(I)Z"⟩ : MethodName)) (z := (⟨"com/example/tributary/tributary/NodeQueue", "contains", "(I)Z"⟩ : MethodName)) (a := q) (argsL := [(.int x)]) (rest := []) hown (hw _ (mI 17 rfl)) (hw _ (mI 18 rfl)) (notFace_of_selects (args := #[]) (mvT hZ (hw _ (mI 20 rfl)))) (hw _ (mI 20 rfl)) (hw _ (mI 19 rfl)) (hw _ (mI 2 rfl)) (hw _ (mI 21 rfl)) (by decide) (rmCont l Z a0 hw q n 64 fS x h0 n0 Z0 H (by omega) hx') e0 E_q (hb hby at_292) (lenOf pd_8 rfl) rfl rfl (W := 0) (Nat.le_of_eq rfl) (by decide) (by decide) (by decide) (by decide) ?_
              intro v16 T16 L16 X16 Q16
              obtain ⟨cb, rfl, N16q, hh16, hcb⟩ := Q16
              have N16 := Fr.app N0 N16q
              show Go _ _ _ _ _ _ _ T16 (mkF m 295 #[.val (.int p0), .val (.int p1), .val (.int p2), .val (.int p3), .val (.int p4), .val (.int na), .val (.int nb), .val (.int nc), .val (.double ka), .second, .val (.double kb), .second, .val (.double kc), .second, .val (.int ct), .val (.ref q), .val (.int pb), .val (.int pp), .val (.int sl), .val (.int x), .val (.int (1 : Int32)), .val (.int (1 : Int32))] [(.int cb)])
              refine Go.step (fun _ k => XS.iload X16.here hx rfl (hb hby at_295) rfl k) ?_
              refine Go.step (fun _ k => XS.icmpNo X16.here hx rfl (hb hby at_297) rfl (teq (hcb.resolve_right fun z => z.2 ((hS x).mpr ⟨Or.inr (Or.inl ⟨hc234_9, hc241_11⟩), fun u => hc278_14 u.2⟩)).1).2 k) ?_
              show Go _ _ _ _ _ _ _ T16 (mkF m 300 #[.val (.int p0), .val (.int p1), .val (.int p2), .val (.int p3), .val (.int p4), .val (.int na), .val (.int nb), .val (.int nc), .val (.double ka), .second, .val (.double kb), .second, .val (.double kc), .second, .val (.int ct), .val (.ref q), .val (.int pb), .val (.int pp), .val (.int sl), .val (.int x), .val (.int (1 : Int32)), .val (.int (1 : Int32))] [])
              refine Go.step (fun _ k => XS.iconst X16.here hx rfl (hb hby at_300) k) ?_
              refine Go.step (fun _ k => XS.goto X16.here hx rfl (pc0 := 301) (pc' := 305) rfl (hb hby at_301) (by decide) (by decide) k) ?_
              show Go _ _ _ _ _ _ _ T16 (mkF m 305 #[.val (.int p0), .val (.int p1), .val (.int p2), .val (.int p3), .val (.int p4), .val (.int na), .val (.int nb), .val (.int nc), .val (.double ka), .second, .val (.double kb), .second, .val (.double kc), .second, .val (.int ct), .val (.ref q), .val (.int pb), .val (.int pp), .val (.int sl), .val (.int x), .val (.int (1 : Int32)), .val (.int (1 : Int32))] [(.int (1 : Int32))])
              refine Go.retZ X16 hx hlk hret (by decide) (hb hby at_305) (by decide) (by decide) ?_
              try rw [hh16]
              exact ⟨rfl, N16⟩
        · refine Go.step (fun _ k => XS.icmpNo X0.here hx rfl (hb hby at_241) rfl (feq hc241_11).1 k) ?_
          show Go _ _ _ _ _ _ _ T0 (mkF m 244 #[.val (.int p0), .val (.int p1), .val (.int p2), .val (.int p3), .val (.int p4), .val (.int na), .val (.int nb), .val (.int nc), .val (.double ka), .second, .val (.double kb), .second, .val (.double kc), .second, .val (.int ct), .val (.ref q), .val (.int pb), .val (.int pp), .val (.int sl), .val (.int x), .unset, .unset] [])
          refine Go.step (fun _ k => XS.iload X0.here hx rfl (hb hby at_244) rfl k) ?_
          refine Go.step (fun _ k => XS.iconst X0.here hx rfl (hb hby at_246) k) ?_
          by_cases hc247_17 : ct < (3 : Int32)
          · refine Go.step (fun _ k => XS.icmpYes X0.here hx rfl (pc0 := 247) (pc' := 261) rfl (hb hby at_247) rfl (tlt hc247_17).1 (by decide) (by decide) k) ?_
            show Go _ _ _ _ _ _ _ T0 (mkF m 261 #[.val (.int p0), .val (.int p1), .val (.int p2), .val (.int p3), .val (.int p4), .val (.int na), .val (.int nb), .val (.int nc), .val (.double ka), .second, .val (.double kb), .second, .val (.double kc), .second, .val (.int ct), .val (.ref q), .val (.int pb), .val (.int pp), .val (.int sl), .val (.int x), .unset, .unset] [])
            refine Go.step (fun _ k => XS.iconst X0.here hx rfl (hb hby at_261) k) ?_
            refine Go.step (fun _ k => XS.istore X0.here hx rfl (hb hby at_262) rfl (l' := #[.val (.int p0), .val (.int p1), .val (.int p2), .val (.int p3), .val (.int p4), .val (.int na), .val (.int nb), .val (.int nc), .val (.double ka), .second, .val (.double kb), .second, .val (.double kc), .second, .val (.int ct), .val (.ref q), .val (.int pb), .val (.int pp), .val (.int sl), .val (.int x), .val (.int (0 : Int32)), .unset]) rfl k) ?_
            show Go _ _ _ _ _ _ _ T0 (mkF m 264 #[.val (.int p0), .val (.int p1), .val (.int p2), .val (.int p3), .val (.int p4), .val (.int na), .val (.int nb), .val (.int nc), .val (.double ka), .second, .val (.double kb), .second, .val (.double kc), .second, .val (.int ct), .val (.ref q), .val (.int pb), .val (.int pp), .val (.int sl), .val (.int x), .val (.int (0 : Int32)), .unset] [])
            refine Go.step (fun _ k => XS.iload X0.here hx rfl (hb hby at_264) rfl k) ?_
            refine Go.step (fun _ k => XS.ifYes X0.here hx rfl (pc0 := 266) (pc' := 285) rfl (hb hby at_266) rfl ((if0 _ _).trans (teq (by decide : (0 : Int32) = (0 : Int32))).1) (by decide) (by decide) k) ?_
            show Go _ _ _ _ _ _ _ T0 (mkF m 285 #[.val (.int p0), .val (.int p1), .val (.int p2), .val (.int p3), .val (.int p4), .val (.int na), .val (.int nb), .val (.int nc), .val (.double ka), .second, .val (.double kb), .second, .val (.double kc), .second, .val (.int ct), .val (.ref q), .val (.int pb), .val (.int pp), .val (.int sl), .val (.int x), .val (.int (0 : Int32)), .unset] [])
            refine Go.step (fun _ k => XS.iconst X0.here hx rfl (hb hby at_285) k) ?_
            refine Go.step (fun _ k => XS.istore X0.here hx rfl (hb hby at_286) rfl (l' := #[.val (.int p0), .val (.int p1), .val (.int p2), .val (.int p3), .val (.int p4), .val (.int na), .val (.int nb), .val (.int nc), .val (.double ka), .second, .val (.double kb), .second, .val (.double kc), .second, .val (.int ct), .val (.ref q), .val (.int pb), .val (.int pp), .val (.int sl), .val (.int x), .val (.int (0 : Int32)), .val (.int (0 : Int32))]) rfl k) ?_
            show Go _ _ _ _ _ _ _ T0 (mkF m 288 #[.val (.int p0), .val (.int p1), .val (.int p2), .val (.int p3), .val (.int p4), .val (.int na), .val (.int nb), .val (.int nc), .val (.double ka), .second, .val (.double kb), .second, .val (.double kc), .second, .val (.int ct), .val (.ref q), .val (.int pb), .val (.int pp), .val (.int sl), .val (.int x), .val (.int (0 : Int32)), .val (.int (0 : Int32))] [])
            refine Go.step (fun _ k => XS.aload X0.here hx rfl (hb hby at_288) rfl rfl k) ?_
            refine Go.step (fun _ k => XS.iload X0.here hx rfl (hb hby at_290) rfl k) ?_
            refine Go.callV X0 hx hZ (by rw [hml]; rfl) (y := (⟨"com/example/tributary/tributary/NodeQueue", "contains", "(I)Z"⟩ : MethodName)) (z := (⟨"com/example/tributary/tributary/NodeQueue", "contains", "(I)Z"⟩ : MethodName)) (a := q) (argsL := [(.int x)]) (rest := []) hown (hw _ (mI 17 rfl)) (hw _ (mI 18 rfl)) (notFace_of_selects (args := #[]) (mvT hZ (hw _ (mI 20 rfl)))) (hw _ (mI 20 rfl)) (hw _ (mI 19 rfl)) (hw _ (mI 2 rfl)) (hw _ (mI 21 rfl)) (by decide) (rmCont l Z a0 hw q n 64 fS x h0 n0 Z0 H (by omega) hx') e0 E_q (hb hby at_292) (lenOf pd_8 rfl) rfl rfl (W := 0) (Nat.le_of_eq rfl) (by decide) (by decide) (by decide) (by decide) ?_
            intro v18 T18 L18 X18 Q18
            obtain ⟨cb, rfl, N18q, hh18, hcb⟩ := Q18
            have N18 := Fr.app N0 N18q
            show Go _ _ _ _ _ _ _ T18 (mkF m 295 #[.val (.int p0), .val (.int p1), .val (.int p2), .val (.int p3), .val (.int p4), .val (.int na), .val (.int nb), .val (.int nc), .val (.double ka), .second, .val (.double kb), .second, .val (.double kc), .second, .val (.int ct), .val (.ref q), .val (.int pb), .val (.int pp), .val (.int sl), .val (.int x), .val (.int (0 : Int32)), .val (.int (0 : Int32))] [(.int cb)])
            refine Go.step (fun _ k => XS.iload X18.here hx rfl (hb hby at_295) rfl k) ?_
            refine Go.step (fun _ k => XS.icmpNo X18.here hx rfl (hb hby at_297) rfl (teq (hcb.resolve_left fun z => ((hS x).mp z.2).1.elim (fun u => hc228_3 u.2) (fun v => v.elim (fun u => hc241_11 u.2) (fun u => u.1 hc247_17))).1).2 k) ?_
            show Go _ _ _ _ _ _ _ T18 (mkF m 300 #[.val (.int p0), .val (.int p1), .val (.int p2), .val (.int p3), .val (.int p4), .val (.int na), .val (.int nb), .val (.int nc), .val (.double ka), .second, .val (.double kb), .second, .val (.double kc), .second, .val (.int ct), .val (.ref q), .val (.int pb), .val (.int pp), .val (.int sl), .val (.int x), .val (.int (0 : Int32)), .val (.int (0 : Int32))] [])
            refine Go.step (fun _ k => XS.iconst X18.here hx rfl (hb hby at_300) k) ?_
            refine Go.step (fun _ k => XS.goto X18.here hx rfl (pc0 := 301) (pc' := 305) rfl (hb hby at_301) (by decide) (by decide) k) ?_
            show Go _ _ _ _ _ _ _ T18 (mkF m 305 #[.val (.int p0), .val (.int p1), .val (.int p2), .val (.int p3), .val (.int p4), .val (.int na), .val (.int nb), .val (.int nc), .val (.double ka), .second, .val (.double kb), .second, .val (.double kc), .second, .val (.int ct), .val (.ref q), .val (.int pb), .val (.int pp), .val (.int sl), .val (.int x), .val (.int (0 : Int32)), .val (.int (0 : Int32))] [(.int (1 : Int32))])
            refine Go.retZ X18 hx hlk hret (by decide) (hb hby at_305) (by decide) (by decide) ?_
            try rw [hh18]
            exact ⟨rfl, N18⟩
          · refine Go.step (fun _ k => XS.icmpNo X0.here hx rfl (hb hby at_247) rfl (flt hc247_17).1 k) ?_
            show Go _ _ _ _ _ _ _ T0 (mkF m 250 #[.val (.int p0), .val (.int p1), .val (.int p2), .val (.int p3), .val (.int p4), .val (.int na), .val (.int nb), .val (.int nc), .val (.double ka), .second, .val (.double kb), .second, .val (.double kc), .second, .val (.int ct), .val (.ref q), .val (.int pb), .val (.int pp), .val (.int sl), .val (.int x), .unset, .unset] [])
            refine Go.step (fun _ k => XS.iload X0.here hx rfl (hb hby at_250) rfl k) ?_
            refine Go.step (fun _ k => XS.iload X0.here hx rfl (hb hby at_252) rfl k) ?_
            by_cases hc254_19 : x = nc
            · refine Go.step (fun _ k => XS.icmpNo X0.here hx rfl (hb hby at_254) rfl (teq hc254_19).2 k) ?_
              show Go _ _ _ _ _ _ _ T0 (mkF m 257 #[.val (.int p0), .val (.int p1), .val (.int p2), .val (.int p3), .val (.int p4), .val (.int na), .val (.int nb), .val (.int nc), .val (.double ka), .second, .val (.double kb), .second, .val (.double kc), .second, .val (.int ct), .val (.ref q), .val (.int pb), .val (.int pp), .val (.int sl), .val (.int x), .unset, .unset] [])
              refine Go.step (fun _ k => XS.iconst X0.here hx rfl (hb hby at_257) k) ?_
              refine Go.step (fun _ k => XS.goto X0.here hx rfl (pc0 := 258) (pc' := 262) rfl (hb hby at_258) (by decide) (by decide) k) ?_
              show Go _ _ _ _ _ _ _ T0 (mkF m 262 #[.val (.int p0), .val (.int p1), .val (.int p2), .val (.int p3), .val (.int p4), .val (.int na), .val (.int nb), .val (.int nc), .val (.double ka), .second, .val (.double kb), .second, .val (.double kc), .second, .val (.int ct), .val (.ref q), .val (.int pb), .val (.int pp), .val (.int sl), .val (.int x), .unset, .unset] [(.int (1 : Int32))])
              refine Go.step (fun _ k => XS.istore X0.here hx rfl (hb hby at_262) rfl (l' := #[.val (.int p0), .val (.int p1), .val (.int p2), .val (.int p3), .val (.int p4), .val (.int na), .val (.int nb), .val (.int nc), .val (.double ka), .second, .val (.double kb), .second, .val (.double kc), .second, .val (.int ct), .val (.ref q), .val (.int pb), .val (.int pp), .val (.int sl), .val (.int x), .val (.int (1 : Int32)), .unset]) rfl k) ?_
              show Go _ _ _ _ _ _ _ T0 (mkF m 264 #[.val (.int p0), .val (.int p1), .val (.int p2), .val (.int p3), .val (.int p4), .val (.int na), .val (.int nb), .val (.int nc), .val (.double ka), .second, .val (.double kb), .second, .val (.double kc), .second, .val (.int ct), .val (.ref q), .val (.int pb), .val (.int pp), .val (.int sl), .val (.int x), .val (.int (1 : Int32)), .unset] [])
              refine Go.step (fun _ k => XS.iload X0.here hx rfl (hb hby at_264) rfl k) ?_
              refine Go.step (fun _ k => XS.ifNo X0.here hx rfl (hb hby at_266) rfl ((if0 _ _).trans (feq (by decide : ¬ ((1 : Int32) = (0 : Int32)))).1) k) ?_
              show Go _ _ _ _ _ _ _ T0 (mkF m 269 #[.val (.int p0), .val (.int p1), .val (.int p2), .val (.int p3), .val (.int p4), .val (.int na), .val (.int nb), .val (.int nc), .val (.double ka), .second, .val (.double kb), .second, .val (.double kc), .second, .val (.int ct), .val (.ref q), .val (.int pb), .val (.int pp), .val (.int sl), .val (.int x), .val (.int (1 : Int32)), .unset] [])
              refine Go.step (fun _ k => XS.iload X0.here hx rfl (hb hby at_269) rfl k) ?_
              by_cases hc271_20 : pb = (0 : Int32)
              · refine Go.step (fun _ k => XS.ifYes X0.here hx rfl (pc0 := 271) (pc' := 281) rfl (hb hby at_271) rfl ((if0 _ _).trans (teq hc271_20).1) (by decide) (by decide) k) ?_
                show Go _ _ _ _ _ _ _ T0 (mkF m 281 #[.val (.int p0), .val (.int p1), .val (.int p2), .val (.int p3), .val (.int p4), .val (.int na), .val (.int nb), .val (.int nc), .val (.double ka), .second, .val (.double kb), .second, .val (.double kc), .second, .val (.int ct), .val (.ref q), .val (.int pb), .val (.int pp), .val (.int sl), .val (.int x), .val (.int (1 : Int32)), .unset] [])
                refine Go.step (fun _ k => XS.iconst X0.here hx rfl (hb hby at_281) k) ?_
                refine Go.step (fun _ k => XS.goto X0.here hx rfl (pc0 := 282) (pc' := 286) rfl (hb hby at_282) (by decide) (by decide) k) ?_
                show Go _ _ _ _ _ _ _ T0 (mkF m 286 #[.val (.int p0), .val (.int p1), .val (.int p2), .val (.int p3), .val (.int p4), .val (.int na), .val (.int nb), .val (.int nc), .val (.double ka), .second, .val (.double kb), .second, .val (.double kc), .second, .val (.int ct), .val (.ref q), .val (.int pb), .val (.int pp), .val (.int sl), .val (.int x), .val (.int (1 : Int32)), .unset] [(.int (1 : Int32))])
                refine Go.step (fun _ k => XS.istore X0.here hx rfl (hb hby at_286) rfl (l' := #[.val (.int p0), .val (.int p1), .val (.int p2), .val (.int p3), .val (.int p4), .val (.int na), .val (.int nb), .val (.int nc), .val (.double ka), .second, .val (.double kb), .second, .val (.double kc), .second, .val (.int ct), .val (.ref q), .val (.int pb), .val (.int pp), .val (.int sl), .val (.int x), .val (.int (1 : Int32)), .val (.int (1 : Int32))]) rfl k) ?_
                show Go _ _ _ _ _ _ _ T0 (mkF m 288 #[.val (.int p0), .val (.int p1), .val (.int p2), .val (.int p3), .val (.int p4), .val (.int na), .val (.int nb), .val (.int nc), .val (.double ka), .second, .val (.double kb), .second, .val (.double kc), .second, .val (.int ct), .val (.ref q), .val (.int pb), .val (.int pp), .val (.int sl), .val (.int x), .val (.int (1 : Int32)), .val (.int (1 : Int32))] [])
                refine Go.step (fun _ k => XS.aload X0.here hx rfl (hb hby at_288) rfl rfl k) ?_
                refine Go.step (fun _ k => XS.iload X0.here hx rfl (hb hby at_290) rfl k) ?_
                refine Go.callV X0 hx hZ (by rw [hml]; rfl) (y := (⟨"com/example/tributary/tributary/NodeQueue", "contains", "(I)Z"⟩ : MethodName)) (z := (⟨"com/example/tributary/tributary/NodeQueue", "contains", "(I)Z"⟩ : MethodName)) (a := q) (argsL := [(.int x)]) (rest := []) hown (hw _ (mI 17 rfl)) (hw _ (mI 18 rfl)) (notFace_of_selects (args := #[]) (mvT hZ (hw _ (mI 20 rfl)))) (hw _ (mI 20 rfl)) (hw _ (mI 19 rfl)) (hw _ (mI 2 rfl)) (hw _ (mI 21 rfl)) (by decide) (rmCont l Z a0 hw q n 64 fS x h0 n0 Z0 H (by omega) hx') e0 E_q (hb hby at_292) (lenOf pd_8 rfl) rfl rfl (W := 0) (Nat.le_of_eq rfl) (by decide) (by decide) (by decide) (by decide) ?_
                intro v21 T21 L21 X21 Q21
                obtain ⟨cb, rfl, N21q, hh21, hcb⟩ := Q21
                have N21 := Fr.app N0 N21q
                show Go _ _ _ _ _ _ _ T21 (mkF m 295 #[.val (.int p0), .val (.int p1), .val (.int p2), .val (.int p3), .val (.int p4), .val (.int na), .val (.int nb), .val (.int nc), .val (.double ka), .second, .val (.double kb), .second, .val (.double kc), .second, .val (.int ct), .val (.ref q), .val (.int pb), .val (.int pp), .val (.int sl), .val (.int x), .val (.int (1 : Int32)), .val (.int (1 : Int32))] [(.int cb)])
                refine Go.step (fun _ k => XS.iload X21.here hx rfl (hb hby at_295) rfl k) ?_
                refine Go.step (fun _ k => XS.icmpNo X21.here hx rfl (hb hby at_297) rfl (teq (hcb.resolve_right fun z => z.2 ((hS x).mpr ⟨Or.inr (Or.inr ⟨hc247_17, hc254_19⟩), fun u => u.1 hc271_20⟩)).1).2 k) ?_
                show Go _ _ _ _ _ _ _ T21 (mkF m 300 #[.val (.int p0), .val (.int p1), .val (.int p2), .val (.int p3), .val (.int p4), .val (.int na), .val (.int nb), .val (.int nc), .val (.double ka), .second, .val (.double kb), .second, .val (.double kc), .second, .val (.int ct), .val (.ref q), .val (.int pb), .val (.int pp), .val (.int sl), .val (.int x), .val (.int (1 : Int32)), .val (.int (1 : Int32))] [])
                refine Go.step (fun _ k => XS.iconst X21.here hx rfl (hb hby at_300) k) ?_
                refine Go.step (fun _ k => XS.goto X21.here hx rfl (pc0 := 301) (pc' := 305) rfl (hb hby at_301) (by decide) (by decide) k) ?_
                show Go _ _ _ _ _ _ _ T21 (mkF m 305 #[.val (.int p0), .val (.int p1), .val (.int p2), .val (.int p3), .val (.int p4), .val (.int na), .val (.int nb), .val (.int nc), .val (.double ka), .second, .val (.double kb), .second, .val (.double kc), .second, .val (.int ct), .val (.ref q), .val (.int pb), .val (.int pp), .val (.int sl), .val (.int x), .val (.int (1 : Int32)), .val (.int (1 : Int32))] [(.int (1 : Int32))])
                refine Go.retZ X21 hx hlk hret (by decide) (hb hby at_305) (by decide) (by decide) ?_
                try rw [hh21]
                exact ⟨rfl, N21⟩
              · refine Go.step (fun _ k => XS.ifNo X0.here hx rfl (hb hby at_271) rfl ((if0 _ _).trans (feq hc271_20).1) k) ?_
                show Go _ _ _ _ _ _ _ T0 (mkF m 274 #[.val (.int p0), .val (.int p1), .val (.int p2), .val (.int p3), .val (.int p4), .val (.int na), .val (.int nb), .val (.int nc), .val (.double ka), .second, .val (.double kb), .second, .val (.double kc), .second, .val (.int ct), .val (.ref q), .val (.int pb), .val (.int pp), .val (.int sl), .val (.int x), .val (.int (1 : Int32)), .unset] [])
                refine Go.step (fun _ k => XS.iload X0.here hx rfl (hb hby at_274) rfl k) ?_
                refine Go.step (fun _ k => XS.iload X0.here hx rfl (hb hby at_276) rfl k) ?_
                by_cases hc278_22 : x = pp
                · refine Go.step (fun _ k => XS.icmpYes X0.here hx rfl (pc0 := 278) (pc' := 285) rfl (hb hby at_278) rfl (teq hc278_22).1 (by decide) (by decide) k) ?_
                  show Go _ _ _ _ _ _ _ T0 (mkF m 285 #[.val (.int p0), .val (.int p1), .val (.int p2), .val (.int p3), .val (.int p4), .val (.int na), .val (.int nb), .val (.int nc), .val (.double ka), .second, .val (.double kb), .second, .val (.double kc), .second, .val (.int ct), .val (.ref q), .val (.int pb), .val (.int pp), .val (.int sl), .val (.int x), .val (.int (1 : Int32)), .unset] [])
                  refine Go.step (fun _ k => XS.iconst X0.here hx rfl (hb hby at_285) k) ?_
                  refine Go.step (fun _ k => XS.istore X0.here hx rfl (hb hby at_286) rfl (l' := #[.val (.int p0), .val (.int p1), .val (.int p2), .val (.int p3), .val (.int p4), .val (.int na), .val (.int nb), .val (.int nc), .val (.double ka), .second, .val (.double kb), .second, .val (.double kc), .second, .val (.int ct), .val (.ref q), .val (.int pb), .val (.int pp), .val (.int sl), .val (.int x), .val (.int (1 : Int32)), .val (.int (0 : Int32))]) rfl k) ?_
                  show Go _ _ _ _ _ _ _ T0 (mkF m 288 #[.val (.int p0), .val (.int p1), .val (.int p2), .val (.int p3), .val (.int p4), .val (.int na), .val (.int nb), .val (.int nc), .val (.double ka), .second, .val (.double kb), .second, .val (.double kc), .second, .val (.int ct), .val (.ref q), .val (.int pb), .val (.int pp), .val (.int sl), .val (.int x), .val (.int (1 : Int32)), .val (.int (0 : Int32))] [])
                  refine Go.step (fun _ k => XS.aload X0.here hx rfl (hb hby at_288) rfl rfl k) ?_
                  refine Go.step (fun _ k => XS.iload X0.here hx rfl (hb hby at_290) rfl k) ?_
                  refine Go.callV X0 hx hZ (by rw [hml]; rfl) (y := (⟨"com/example/tributary/tributary/NodeQueue", "contains", "(I)Z"⟩ : MethodName)) (z := (⟨"com/example/tributary/tributary/NodeQueue", "contains", "(I)Z"⟩ : MethodName)) (a := q) (argsL := [(.int x)]) (rest := []) hown (hw _ (mI 17 rfl)) (hw _ (mI 18 rfl)) (notFace_of_selects (args := #[]) (mvT hZ (hw _ (mI 20 rfl)))) (hw _ (mI 20 rfl)) (hw _ (mI 19 rfl)) (hw _ (mI 2 rfl)) (hw _ (mI 21 rfl)) (by decide) (rmCont l Z a0 hw q n 64 fS x h0 n0 Z0 H (by omega) hx') e0 E_q (hb hby at_292) (lenOf pd_8 rfl) rfl rfl (W := 0) (Nat.le_of_eq rfl) (by decide) (by decide) (by decide) (by decide) ?_
                  intro v23 T23 L23 X23 Q23
                  obtain ⟨cb, rfl, N23q, hh23, hcb⟩ := Q23
                  have N23 := Fr.app N0 N23q
                  show Go _ _ _ _ _ _ _ T23 (mkF m 295 #[.val (.int p0), .val (.int p1), .val (.int p2), .val (.int p3), .val (.int p4), .val (.int na), .val (.int nb), .val (.int nc), .val (.double ka), .second, .val (.double kb), .second, .val (.double kc), .second, .val (.int ct), .val (.ref q), .val (.int pb), .val (.int pp), .val (.int sl), .val (.int x), .val (.int (1 : Int32)), .val (.int (0 : Int32))] [(.int cb)])
                  refine Go.step (fun _ k => XS.iload X23.here hx rfl (hb hby at_295) rfl k) ?_
                  refine Go.step (fun _ k => XS.icmpNo X23.here hx rfl (hb hby at_297) rfl (teq (hcb.resolve_left fun z => ((hS x).mp z.2).2 ⟨hc271_20, hc278_22⟩).1).2 k) ?_
                  show Go _ _ _ _ _ _ _ T23 (mkF m 300 #[.val (.int p0), .val (.int p1), .val (.int p2), .val (.int p3), .val (.int p4), .val (.int na), .val (.int nb), .val (.int nc), .val (.double ka), .second, .val (.double kb), .second, .val (.double kc), .second, .val (.int ct), .val (.ref q), .val (.int pb), .val (.int pp), .val (.int sl), .val (.int x), .val (.int (1 : Int32)), .val (.int (0 : Int32))] [])
                  refine Go.step (fun _ k => XS.iconst X23.here hx rfl (hb hby at_300) k) ?_
                  refine Go.step (fun _ k => XS.goto X23.here hx rfl (pc0 := 301) (pc' := 305) rfl (hb hby at_301) (by decide) (by decide) k) ?_
                  show Go _ _ _ _ _ _ _ T23 (mkF m 305 #[.val (.int p0), .val (.int p1), .val (.int p2), .val (.int p3), .val (.int p4), .val (.int na), .val (.int nb), .val (.int nc), .val (.double ka), .second, .val (.double kb), .second, .val (.double kc), .second, .val (.int ct), .val (.ref q), .val (.int pb), .val (.int pp), .val (.int sl), .val (.int x), .val (.int (1 : Int32)), .val (.int (0 : Int32))] [(.int (1 : Int32))])
                  refine Go.retZ X23 hx hlk hret (by decide) (hb hby at_305) (by decide) (by decide) ?_
                  try rw [hh23]
                  exact ⟨rfl, N23⟩
                · refine Go.step (fun _ k => XS.icmpNo X0.here hx rfl (hb hby at_278) rfl (feq hc278_22).1 k) ?_
                  show Go _ _ _ _ _ _ _ T0 (mkF m 281 #[.val (.int p0), .val (.int p1), .val (.int p2), .val (.int p3), .val (.int p4), .val (.int na), .val (.int nb), .val (.int nc), .val (.double ka), .second, .val (.double kb), .second, .val (.double kc), .second, .val (.int ct), .val (.ref q), .val (.int pb), .val (.int pp), .val (.int sl), .val (.int x), .val (.int (1 : Int32)), .unset] [])
                  refine Go.step (fun _ k => XS.iconst X0.here hx rfl (hb hby at_281) k) ?_
                  refine Go.step (fun _ k => XS.goto X0.here hx rfl (pc0 := 282) (pc' := 286) rfl (hb hby at_282) (by decide) (by decide) k) ?_
                  show Go _ _ _ _ _ _ _ T0 (mkF m 286 #[.val (.int p0), .val (.int p1), .val (.int p2), .val (.int p3), .val (.int p4), .val (.int na), .val (.int nb), .val (.int nc), .val (.double ka), .second, .val (.double kb), .second, .val (.double kc), .second, .val (.int ct), .val (.ref q), .val (.int pb), .val (.int pp), .val (.int sl), .val (.int x), .val (.int (1 : Int32)), .unset] [(.int (1 : Int32))])
                  refine Go.step (fun _ k => XS.istore X0.here hx rfl (hb hby at_286) rfl (l' := #[.val (.int p0), .val (.int p1), .val (.int p2), .val (.int p3), .val (.int p4), .val (.int na), .val (.int nb), .val (.int nc), .val (.double ka), .second, .val (.double kb), .second, .val (.double kc), .second, .val (.int ct), .val (.ref q), .val (.int pb), .val (.int pp), .val (.int sl), .val (.int x), .val (.int (1 : Int32)), .val (.int (1 : Int32))]) rfl k) ?_
                  show Go _ _ _ _ _ _ _ T0 (mkF m 288 #[.val (.int p0), .val (.int p1), .val (.int p2), .val (.int p3), .val (.int p4), .val (.int na), .val (.int nb), .val (.int nc), .val (.double ka), .second, .val (.double kb), .second, .val (.double kc), .second, .val (.int ct), .val (.ref q), .val (.int pb), .val (.int pp), .val (.int sl), .val (.int x), .val (.int (1 : Int32)), .val (.int (1 : Int32))] [])
                  refine Go.step (fun _ k => XS.aload X0.here hx rfl (hb hby at_288) rfl rfl k) ?_
                  refine Go.step (fun _ k => XS.iload X0.here hx rfl (hb hby at_290) rfl k) ?_
                  refine Go.callV X0 hx hZ (by rw [hml]; rfl) (y := (⟨"com/example/tributary/tributary/NodeQueue", "contains", "(I)Z"⟩ : MethodName)) (z := (⟨"com/example/tributary/tributary/NodeQueue", "contains", "(I)Z"⟩ : MethodName)) (a := q) (argsL := [(.int x)]) (rest := []) hown (hw _ (mI 17 rfl)) (hw _ (mI 18 rfl)) (notFace_of_selects (args := #[]) (mvT hZ (hw _ (mI 20 rfl)))) (hw _ (mI 20 rfl)) (hw _ (mI 19 rfl)) (hw _ (mI 2 rfl)) (hw _ (mI 21 rfl)) (by decide) (rmCont l Z a0 hw q n 64 fS x h0 n0 Z0 H (by omega) hx') e0 E_q (hb hby at_292) (lenOf pd_8 rfl) rfl rfl (W := 0) (Nat.le_of_eq rfl) (by decide) (by decide) (by decide) (by decide) ?_
                  intro v24 T24 L24 X24 Q24
                  obtain ⟨cb, rfl, N24q, hh24, hcb⟩ := Q24
                  have N24 := Fr.app N0 N24q
                  show Go _ _ _ _ _ _ _ T24 (mkF m 295 #[.val (.int p0), .val (.int p1), .val (.int p2), .val (.int p3), .val (.int p4), .val (.int na), .val (.int nb), .val (.int nc), .val (.double ka), .second, .val (.double kb), .second, .val (.double kc), .second, .val (.int ct), .val (.ref q), .val (.int pb), .val (.int pp), .val (.int sl), .val (.int x), .val (.int (1 : Int32)), .val (.int (1 : Int32))] [(.int cb)])
                  refine Go.step (fun _ k => XS.iload X24.here hx rfl (hb hby at_295) rfl k) ?_
                  refine Go.step (fun _ k => XS.icmpNo X24.here hx rfl (hb hby at_297) rfl (teq (hcb.resolve_right fun z => z.2 ((hS x).mpr ⟨Or.inr (Or.inr ⟨hc247_17, hc254_19⟩), fun u => hc278_22 u.2⟩)).1).2 k) ?_
                  show Go _ _ _ _ _ _ _ T24 (mkF m 300 #[.val (.int p0), .val (.int p1), .val (.int p2), .val (.int p3), .val (.int p4), .val (.int na), .val (.int nb), .val (.int nc), .val (.double ka), .second, .val (.double kb), .second, .val (.double kc), .second, .val (.int ct), .val (.ref q), .val (.int pb), .val (.int pp), .val (.int sl), .val (.int x), .val (.int (1 : Int32)), .val (.int (1 : Int32))] [])
                  refine Go.step (fun _ k => XS.iconst X24.here hx rfl (hb hby at_300) k) ?_
                  refine Go.step (fun _ k => XS.goto X24.here hx rfl (pc0 := 301) (pc' := 305) rfl (hb hby at_301) (by decide) (by decide) k) ?_
                  show Go _ _ _ _ _ _ _ T24 (mkF m 305 #[.val (.int p0), .val (.int p1), .val (.int p2), .val (.int p3), .val (.int p4), .val (.int na), .val (.int nb), .val (.int nc), .val (.double ka), .second, .val (.double kb), .second, .val (.double kc), .second, .val (.int ct), .val (.ref q), .val (.int pb), .val (.int pp), .val (.int sl), .val (.int x), .val (.int (1 : Int32)), .val (.int (1 : Int32))] [(.int (1 : Int32))])
                  refine Go.retZ X24 hx hlk hret (by decide) (hb hby at_305) (by decide) (by decide) ?_
                  try rw [hh24]
                  exact ⟨rfl, N24⟩
            · refine Go.step (fun _ k => XS.icmpYes X0.here hx rfl (pc0 := 254) (pc' := 261) rfl (hb hby at_254) rfl (feq hc254_19).2 (by decide) (by decide) k) ?_
              show Go _ _ _ _ _ _ _ T0 (mkF m 261 #[.val (.int p0), .val (.int p1), .val (.int p2), .val (.int p3), .val (.int p4), .val (.int na), .val (.int nb), .val (.int nc), .val (.double ka), .second, .val (.double kb), .second, .val (.double kc), .second, .val (.int ct), .val (.ref q), .val (.int pb), .val (.int pp), .val (.int sl), .val (.int x), .unset, .unset] [])
              refine Go.step (fun _ k => XS.iconst X0.here hx rfl (hb hby at_261) k) ?_
              refine Go.step (fun _ k => XS.istore X0.here hx rfl (hb hby at_262) rfl (l' := #[.val (.int p0), .val (.int p1), .val (.int p2), .val (.int p3), .val (.int p4), .val (.int na), .val (.int nb), .val (.int nc), .val (.double ka), .second, .val (.double kb), .second, .val (.double kc), .second, .val (.int ct), .val (.ref q), .val (.int pb), .val (.int pp), .val (.int sl), .val (.int x), .val (.int (0 : Int32)), .unset]) rfl k) ?_
              show Go _ _ _ _ _ _ _ T0 (mkF m 264 #[.val (.int p0), .val (.int p1), .val (.int p2), .val (.int p3), .val (.int p4), .val (.int na), .val (.int nb), .val (.int nc), .val (.double ka), .second, .val (.double kb), .second, .val (.double kc), .second, .val (.int ct), .val (.ref q), .val (.int pb), .val (.int pp), .val (.int sl), .val (.int x), .val (.int (0 : Int32)), .unset] [])
              refine Go.step (fun _ k => XS.iload X0.here hx rfl (hb hby at_264) rfl k) ?_
              refine Go.step (fun _ k => XS.ifYes X0.here hx rfl (pc0 := 266) (pc' := 285) rfl (hb hby at_266) rfl ((if0 _ _).trans (teq (by decide : (0 : Int32) = (0 : Int32))).1) (by decide) (by decide) k) ?_
              show Go _ _ _ _ _ _ _ T0 (mkF m 285 #[.val (.int p0), .val (.int p1), .val (.int p2), .val (.int p3), .val (.int p4), .val (.int na), .val (.int nb), .val (.int nc), .val (.double ka), .second, .val (.double kb), .second, .val (.double kc), .second, .val (.int ct), .val (.ref q), .val (.int pb), .val (.int pp), .val (.int sl), .val (.int x), .val (.int (0 : Int32)), .unset] [])
              refine Go.step (fun _ k => XS.iconst X0.here hx rfl (hb hby at_285) k) ?_
              refine Go.step (fun _ k => XS.istore X0.here hx rfl (hb hby at_286) rfl (l' := #[.val (.int p0), .val (.int p1), .val (.int p2), .val (.int p3), .val (.int p4), .val (.int na), .val (.int nb), .val (.int nc), .val (.double ka), .second, .val (.double kb), .second, .val (.double kc), .second, .val (.int ct), .val (.ref q), .val (.int pb), .val (.int pp), .val (.int sl), .val (.int x), .val (.int (0 : Int32)), .val (.int (0 : Int32))]) rfl k) ?_
              show Go _ _ _ _ _ _ _ T0 (mkF m 288 #[.val (.int p0), .val (.int p1), .val (.int p2), .val (.int p3), .val (.int p4), .val (.int na), .val (.int nb), .val (.int nc), .val (.double ka), .second, .val (.double kb), .second, .val (.double kc), .second, .val (.int ct), .val (.ref q), .val (.int pb), .val (.int pp), .val (.int sl), .val (.int x), .val (.int (0 : Int32)), .val (.int (0 : Int32))] [])
              refine Go.step (fun _ k => XS.aload X0.here hx rfl (hb hby at_288) rfl rfl k) ?_
              refine Go.step (fun _ k => XS.iload X0.here hx rfl (hb hby at_290) rfl k) ?_
              refine Go.callV X0 hx hZ (by rw [hml]; rfl) (y := (⟨"com/example/tributary/tributary/NodeQueue", "contains", "(I)Z"⟩ : MethodName)) (z := (⟨"com/example/tributary/tributary/NodeQueue", "contains", "(I)Z"⟩ : MethodName)) (a := q) (argsL := [(.int x)]) (rest := []) hown (hw _ (mI 17 rfl)) (hw _ (mI 18 rfl)) (notFace_of_selects (args := #[]) (mvT hZ (hw _ (mI 20 rfl)))) (hw _ (mI 20 rfl)) (hw _ (mI 19 rfl)) (hw _ (mI 2 rfl)) (hw _ (mI 21 rfl)) (by decide) (rmCont l Z a0 hw q n 64 fS x h0 n0 Z0 H (by omega) hx') e0 E_q (hb hby at_292) (lenOf pd_8 rfl) rfl rfl (W := 0) (Nat.le_of_eq rfl) (by decide) (by decide) (by decide) (by decide) ?_
              intro v25 T25 L25 X25 Q25
              obtain ⟨cb, rfl, N25q, hh25, hcb⟩ := Q25
              have N25 := Fr.app N0 N25q
              show Go _ _ _ _ _ _ _ T25 (mkF m 295 #[.val (.int p0), .val (.int p1), .val (.int p2), .val (.int p3), .val (.int p4), .val (.int na), .val (.int nb), .val (.int nc), .val (.double ka), .second, .val (.double kb), .second, .val (.double kc), .second, .val (.int ct), .val (.ref q), .val (.int pb), .val (.int pp), .val (.int sl), .val (.int x), .val (.int (0 : Int32)), .val (.int (0 : Int32))] [(.int cb)])
              refine Go.step (fun _ k => XS.iload X25.here hx rfl (hb hby at_295) rfl k) ?_
              refine Go.step (fun _ k => XS.icmpNo X25.here hx rfl (hb hby at_297) rfl (teq (hcb.resolve_left fun z => ((hS x).mp z.2).1.elim (fun u => hc228_3 u.2) (fun v => v.elim (fun u => hc241_11 u.2) (fun u => hc254_19 u.2))).1).2 k) ?_
              show Go _ _ _ _ _ _ _ T25 (mkF m 300 #[.val (.int p0), .val (.int p1), .val (.int p2), .val (.int p3), .val (.int p4), .val (.int na), .val (.int nb), .val (.int nc), .val (.double ka), .second, .val (.double kb), .second, .val (.double kc), .second, .val (.int ct), .val (.ref q), .val (.int pb), .val (.int pp), .val (.int sl), .val (.int x), .val (.int (0 : Int32)), .val (.int (0 : Int32))] [])
              refine Go.step (fun _ k => XS.iconst X25.here hx rfl (hb hby at_300) k) ?_
              refine Go.step (fun _ k => XS.goto X25.here hx rfl (pc0 := 301) (pc' := 305) rfl (hb hby at_301) (by decide) (by decide) k) ?_
              show Go _ _ _ _ _ _ _ T25 (mkF m 305 #[.val (.int p0), .val (.int p1), .val (.int p2), .val (.int p3), .val (.int p4), .val (.int na), .val (.int nb), .val (.int nc), .val (.double ka), .second, .val (.double kb), .second, .val (.double kc), .second, .val (.int ct), .val (.ref q), .val (.int pb), .val (.int pp), .val (.int sl), .val (.int x), .val (.int (0 : Int32)), .val (.int (0 : Int32))] [(.int (1 : Int32))])
              refine Go.retZ X25 hx hlk hret (by decide) (hb hby at_305) (by decide) (by decide) ?_
              try rw [hh25]
              exact ⟨rfl, N25⟩
set_option maxRecDepth 65536 in
set_option maxHeartbeats 40000000 in
theorem w0b {p : Program} {l : Launch} {e : Env} {s : State} {m : MethodId} {args : Array Value} {below : List Frame} {meth : Method} {c_ : Code} {T0 : State} {locs : List Loc} {Z : State} {a0 : Array Value} {h0 : Heap} {n0 : Nat} (p0 p1 p2 p3 p4 na nb nc : Int32) (ka kb kc : UInt64) (ct : Int32) (q : Addr) (pb pp : Int32) (n : Nat) (fS : Int32 → Prop)
    (X0 : Stand p l e room_1 s m args below meth c_ T0 locs 10 404) (hx : p.tables.exec = Jvm.exec) (hZ : Z.Warmed39 s.vm) (hw : ∀ d ∈ tables_1, d.before a0 Z = true) (hby : c_.code = code) (hml : c_.maxLocals = maxLocals) (hown : s.vm.findClass "com/example/tributary/tributary/NodeQueueContainsPinLaw" = some m.cls) (hnm : meth.name = "law") (hret : meth.sig.returnType = ret) (hlk : meth.locks = false) (e0 : T0.heap = h0) (Z0 : n0 ≤ h0.size) (N0 : Fr n0 locs) (E_q : Exa Z h0 q "com/example/tributary/tributary/NodeQueue") (ge_q : n0 ≤ q) (H : QS Z h0 n0 q n 64 fS) (hn : n ≤ 3) (hS : ∀ y, fS y ↔ (((¬ ct < (1 : Int32)) ∧ y = na) ∨ ((¬ ct < (2 : Int32)) ∧ y = nb) ∨ ((¬ ct < (3 : Int32)) ∧ y = nc)) ∧ ¬ (pb ≠ (0 : Int32) ∧ y = pp)) (hna : ¬ na < (0 : Int32)) (hnb : ¬ nb < (0 : Int32)) (hnc : ¬ nc < (0 : Int32)) :
    Go p e below s room_1.cells room_1.slots (fun r h L => r = some (.int 1) ∧ Fr n0 L) T0 (mkF m 148 #[.val (.int p0), .val (.int p1), .val (.int p2), .val (.int p3), .val (.int p4), .val (.int na), .val (.int nb), .val (.int nc), .val (.double ka), .second, .val (.double kb), .second, .val (.double kc), .second, .val (.int ct), .val (.ref q), .val (.int pb), .val (.int pp), .unset, .unset, .unset, .unset] []) := by
  have hret : meth.sig.returnType = some .boolean := hret
  show Go _ _ _ _ _ _ _ T0 (mkF m 148 #[.val (.int p0), .val (.int p1), .val (.int p2), .val (.int p3), .val (.int p4), .val (.int na), .val (.int nb), .val (.int nc), .val (.double ka), .second, .val (.double kb), .second, .val (.double kc), .second, .val (.int ct), .val (.ref q), .val (.int pb), .val (.int pp), .unset, .unset, .unset, .unset] [])
  refine Go.step (fun _ k => XS.iload X0.here hx rfl (hb hby at_148) rfl k) ?_
  refine Go.step (fun _ k => XS.iconst X0.here hx rfl (hb hby at_150) k) ?_
  refine Go.step (fun _ k => XS.iushr X0.here hx rfl (hb hby at_151) rfl k) ?_
  show Go _ _ _ _ _ _ _ T0 (mkF m 152 #[.val (.int p0), .val (.int p1), .val (.int p2), .val (.int p3), .val (.int p4), .val (.int na), .val (.int nb), .val (.int nc), .val (.double ka), .second, .val (.double kb), .second, .val (.double kc), .second, .val (.int ct), .val (.ref q), .val (.int pb), .val (.int pp), .unset, .unset, .unset, .unset] [(.int ((p4.toUInt32 >>> ((3 : Int32) &&& 31).toUInt32).toInt32))])
  refine Go.step (fun _ k => XS.iconst X0.here hx rfl (hb hby at_152) k) ?_
  refine Go.step (fun _ k => XS.iand X0.here hx rfl (hb hby at_153) rfl k) ?_
  show Go _ _ _ _ _ _ _ T0 (mkF m 154 #[.val (.int p0), .val (.int p1), .val (.int p2), .val (.int p3), .val (.int p4), .val (.int na), .val (.int nb), .val (.int nc), .val (.double ka), .second, .val (.double kb), .second, .val (.double kc), .second, .val (.int ct), .val (.ref q), .val (.int pb), .val (.int pp), .unset, .unset, .unset, .unset] [(.int (((p4.toUInt32 >>> ((3 : Int32) &&& 31).toUInt32).toInt32) &&& (3 : Int32)))])
  refine Go.step (fun _ k => XS.istore X0.here hx rfl (hb hby at_154) rfl (l' := #[.val (.int p0), .val (.int p1), .val (.int p2), .val (.int p3), .val (.int p4), .val (.int na), .val (.int nb), .val (.int nc), .val (.double ka), .second, .val (.double kb), .second, .val (.double kc), .second, .val (.int ct), .val (.ref q), .val (.int pb), .val (.int pp), .val (.int (((p4.toUInt32 >>> ((3 : Int32) &&& 31).toUInt32).toInt32) &&& (3 : Int32))), .unset, .unset, .unset]) rfl k) ?_
  show Go _ _ _ _ _ _ _ T0 (mkF m 156 #[.val (.int p0), .val (.int p1), .val (.int p2), .val (.int p3), .val (.int p4), .val (.int na), .val (.int nb), .val (.int nc), .val (.double ka), .second, .val (.double kb), .second, .val (.double kc), .second, .val (.int ct), .val (.ref q), .val (.int pb), .val (.int pp), .val (.int (((p4.toUInt32 >>> ((3 : Int32) &&& 31).toUInt32).toInt32) &&& (3 : Int32))), .unset, .unset, .unset] [])
  refine Go.step (fun _ k => XS.iload X0.here hx rfl (hb hby at_156) rfl k) ?_
  by_cases hc158_1 : (((p4.toUInt32 >>> ((3 : Int32) &&& 31).toUInt32).toInt32) &&& (3 : Int32)) = (0 : Int32)
  · refine Go.step (fun _ k => XS.ifNo X0.here hx rfl (hb hby at_158) rfl ((if0 _ _).trans (teq hc158_1).2) k) ?_
    show Go _ _ _ _ _ _ _ T0 (mkF m 161 #[.val (.int p0), .val (.int p1), .val (.int p2), .val (.int p3), .val (.int p4), .val (.int na), .val (.int nb), .val (.int nc), .val (.double ka), .second, .val (.double kb), .second, .val (.double kc), .second, .val (.int ct), .val (.ref q), .val (.int pb), .val (.int pp), .val (.int (((p4.toUInt32 >>> ((3 : Int32) &&& 31).toUInt32).toInt32) &&& (3 : Int32))), .unset, .unset, .unset] [])
    refine Go.step (fun _ k => XS.iload X0.here hx rfl (hb hby at_161) rfl k) ?_
    refine Go.step (fun _ k => XS.istore X0.here hx rfl (hb hby at_163) rfl (l' := #[.val (.int p0), .val (.int p1), .val (.int p2), .val (.int p3), .val (.int p4), .val (.int na), .val (.int nb), .val (.int nc), .val (.double ka), .second, .val (.double kb), .second, .val (.double kc), .second, .val (.int ct), .val (.ref q), .val (.int pb), .val (.int pp), .val (.int (((p4.toUInt32 >>> ((3 : Int32) &&& 31).toUInt32).toInt32) &&& (3 : Int32))), .val (.int na), .unset, .unset]) rfl k) ?_
    show Go _ _ _ _ _ _ _ T0 (mkF m 165 #[.val (.int p0), .val (.int p1), .val (.int p2), .val (.int p3), .val (.int p4), .val (.int na), .val (.int nb), .val (.int nc), .val (.double ka), .second, .val (.double kb), .second, .val (.double kc), .second, .val (.int ct), .val (.ref q), .val (.int pb), .val (.int pp), .val (.int (((p4.toUInt32 >>> ((3 : Int32) &&& 31).toUInt32).toInt32) &&& (3 : Int32))), .val (.int na), .unset, .unset] [])
    refine Go.step (fun _ k => XS.goto X0.here hx rfl (pc0 := 165) (pc' := 218) rfl (hb hby at_165) (by decide) (by decide) k) ?_
    show Go _ _ _ _ _ _ _ T0 (mkF m 218 #[.val (.int p0), .val (.int p1), .val (.int p2), .val (.int p3), .val (.int p4), .val (.int na), .val (.int nb), .val (.int nc), .val (.double ka), .second, .val (.double kb), .second, .val (.double kc), .second, .val (.int ct), .val (.ref q), .val (.int pb), .val (.int pp), .val (.int (((p4.toUInt32 >>> ((3 : Int32) &&& 31).toUInt32).toInt32) &&& (3 : Int32))), .val (.int na), .unset, .unset] [])
    exact w0c p0 p1 p2 p3 p4 na nb nc ka kb kc ct q pb pp n fS (((p4.toUInt32 >>> ((3 : Int32) &&& 31).toUInt32).toInt32) &&& (3 : Int32)) na X0 hx hZ hw hby hml hown hnm hret hlk e0 Z0 N0 E_q ge_q H hn hS hna
  · refine Go.step (fun _ k => XS.ifYes X0.here hx rfl (pc0 := 158) (pc' := 168) rfl (hb hby at_158) rfl ((if0 _ _).trans (feq hc158_1).2) (by decide) (by decide) k) ?_
    show Go _ _ _ _ _ _ _ T0 (mkF m 168 #[.val (.int p0), .val (.int p1), .val (.int p2), .val (.int p3), .val (.int p4), .val (.int na), .val (.int nb), .val (.int nc), .val (.double ka), .second, .val (.double kb), .second, .val (.double kc), .second, .val (.int ct), .val (.ref q), .val (.int pb), .val (.int pp), .val (.int (((p4.toUInt32 >>> ((3 : Int32) &&& 31).toUInt32).toInt32) &&& (3 : Int32))), .unset, .unset, .unset] [])
    refine Go.step (fun _ k => XS.iload X0.here hx rfl (hb hby at_168) rfl k) ?_
    refine Go.step (fun _ k => XS.iconst X0.here hx rfl (hb hby at_170) k) ?_
    by_cases hc171_2 : (((p4.toUInt32 >>> ((3 : Int32) &&& 31).toUInt32).toInt32) &&& (3 : Int32)) = (1 : Int32)
    · refine Go.step (fun _ k => XS.icmpNo X0.here hx rfl (hb hby at_171) rfl (teq hc171_2).2 k) ?_
      show Go _ _ _ _ _ _ _ T0 (mkF m 174 #[.val (.int p0), .val (.int p1), .val (.int p2), .val (.int p3), .val (.int p4), .val (.int na), .val (.int nb), .val (.int nc), .val (.double ka), .second, .val (.double kb), .second, .val (.double kc), .second, .val (.int ct), .val (.ref q), .val (.int pb), .val (.int pp), .val (.int (((p4.toUInt32 >>> ((3 : Int32) &&& 31).toUInt32).toInt32) &&& (3 : Int32))), .unset, .unset, .unset] [])
      refine Go.step (fun _ k => XS.iload X0.here hx rfl (hb hby at_174) rfl k) ?_
      refine Go.step (fun _ k => XS.istore X0.here hx rfl (hb hby at_176) rfl (l' := #[.val (.int p0), .val (.int p1), .val (.int p2), .val (.int p3), .val (.int p4), .val (.int na), .val (.int nb), .val (.int nc), .val (.double ka), .second, .val (.double kb), .second, .val (.double kc), .second, .val (.int ct), .val (.ref q), .val (.int pb), .val (.int pp), .val (.int (((p4.toUInt32 >>> ((3 : Int32) &&& 31).toUInt32).toInt32) &&& (3 : Int32))), .val (.int nb), .unset, .unset]) rfl k) ?_
      show Go _ _ _ _ _ _ _ T0 (mkF m 178 #[.val (.int p0), .val (.int p1), .val (.int p2), .val (.int p3), .val (.int p4), .val (.int na), .val (.int nb), .val (.int nc), .val (.double ka), .second, .val (.double kb), .second, .val (.double kc), .second, .val (.int ct), .val (.ref q), .val (.int pb), .val (.int pp), .val (.int (((p4.toUInt32 >>> ((3 : Int32) &&& 31).toUInt32).toInt32) &&& (3 : Int32))), .val (.int nb), .unset, .unset] [])
      refine Go.step (fun _ k => XS.goto X0.here hx rfl (pc0 := 178) (pc' := 218) rfl (hb hby at_178) (by decide) (by decide) k) ?_
      show Go _ _ _ _ _ _ _ T0 (mkF m 218 #[.val (.int p0), .val (.int p1), .val (.int p2), .val (.int p3), .val (.int p4), .val (.int na), .val (.int nb), .val (.int nc), .val (.double ka), .second, .val (.double kb), .second, .val (.double kc), .second, .val (.int ct), .val (.ref q), .val (.int pb), .val (.int pp), .val (.int (((p4.toUInt32 >>> ((3 : Int32) &&& 31).toUInt32).toInt32) &&& (3 : Int32))), .val (.int nb), .unset, .unset] [])
      exact w0c p0 p1 p2 p3 p4 na nb nc ka kb kc ct q pb pp n fS (((p4.toUInt32 >>> ((3 : Int32) &&& 31).toUInt32).toInt32) &&& (3 : Int32)) nb X0 hx hZ hw hby hml hown hnm hret hlk e0 Z0 N0 E_q ge_q H hn hS hnb
    · refine Go.step (fun _ k => XS.icmpYes X0.here hx rfl (pc0 := 171) (pc' := 181) rfl (hb hby at_171) rfl (feq hc171_2).2 (by decide) (by decide) k) ?_
      show Go _ _ _ _ _ _ _ T0 (mkF m 181 #[.val (.int p0), .val (.int p1), .val (.int p2), .val (.int p3), .val (.int p4), .val (.int na), .val (.int nb), .val (.int nc), .val (.double ka), .second, .val (.double kb), .second, .val (.double kc), .second, .val (.int ct), .val (.ref q), .val (.int pb), .val (.int pp), .val (.int (((p4.toUInt32 >>> ((3 : Int32) &&& 31).toUInt32).toInt32) &&& (3 : Int32))), .unset, .unset, .unset] [])
      refine Go.step (fun _ k => XS.iload X0.here hx rfl (hb hby at_181) rfl k) ?_
      refine Go.step (fun _ k => XS.iconst X0.here hx rfl (hb hby at_183) k) ?_
      by_cases hc184_3 : (((p4.toUInt32 >>> ((3 : Int32) &&& 31).toUInt32).toInt32) &&& (3 : Int32)) = (2 : Int32)
      · refine Go.step (fun _ k => XS.icmpNo X0.here hx rfl (hb hby at_184) rfl (teq hc184_3).2 k) ?_
        show Go _ _ _ _ _ _ _ T0 (mkF m 187 #[.val (.int p0), .val (.int p1), .val (.int p2), .val (.int p3), .val (.int p4), .val (.int na), .val (.int nb), .val (.int nc), .val (.double ka), .second, .val (.double kb), .second, .val (.double kc), .second, .val (.int ct), .val (.ref q), .val (.int pb), .val (.int pp), .val (.int (((p4.toUInt32 >>> ((3 : Int32) &&& 31).toUInt32).toInt32) &&& (3 : Int32))), .unset, .unset, .unset] [])
        refine Go.step (fun _ k => XS.iload X0.here hx rfl (hb hby at_187) rfl k) ?_
        refine Go.step (fun _ k => XS.istore X0.here hx rfl (hb hby at_189) rfl (l' := #[.val (.int p0), .val (.int p1), .val (.int p2), .val (.int p3), .val (.int p4), .val (.int na), .val (.int nb), .val (.int nc), .val (.double ka), .second, .val (.double kb), .second, .val (.double kc), .second, .val (.int ct), .val (.ref q), .val (.int pb), .val (.int pp), .val (.int (((p4.toUInt32 >>> ((3 : Int32) &&& 31).toUInt32).toInt32) &&& (3 : Int32))), .val (.int nc), .unset, .unset]) rfl k) ?_
        show Go _ _ _ _ _ _ _ T0 (mkF m 191 #[.val (.int p0), .val (.int p1), .val (.int p2), .val (.int p3), .val (.int p4), .val (.int na), .val (.int nb), .val (.int nc), .val (.double ka), .second, .val (.double kb), .second, .val (.double kc), .second, .val (.int ct), .val (.ref q), .val (.int pb), .val (.int pp), .val (.int (((p4.toUInt32 >>> ((3 : Int32) &&& 31).toUInt32).toInt32) &&& (3 : Int32))), .val (.int nc), .unset, .unset] [])
        refine Go.step (fun _ k => XS.goto X0.here hx rfl (pc0 := 191) (pc' := 218) rfl (hb hby at_191) (by decide) (by decide) k) ?_
        show Go _ _ _ _ _ _ _ T0 (mkF m 218 #[.val (.int p0), .val (.int p1), .val (.int p2), .val (.int p3), .val (.int p4), .val (.int na), .val (.int nb), .val (.int nc), .val (.double ka), .second, .val (.double kb), .second, .val (.double kc), .second, .val (.int ct), .val (.ref q), .val (.int pb), .val (.int pp), .val (.int (((p4.toUInt32 >>> ((3 : Int32) &&& 31).toUInt32).toInt32) &&& (3 : Int32))), .val (.int nc), .unset, .unset] [])
        exact w0c p0 p1 p2 p3 p4 na nb nc ka kb kc ct q pb pp n fS (((p4.toUInt32 >>> ((3 : Int32) &&& 31).toUInt32).toInt32) &&& (3 : Int32)) nc X0 hx hZ hw hby hml hown hnm hret hlk e0 Z0 N0 E_q ge_q H hn hS hnc
      · refine Go.step (fun _ k => XS.icmpYes X0.here hx rfl (pc0 := 184) (pc' := 194) rfl (hb hby at_184) rfl (feq hc184_3).2 (by decide) (by decide) k) ?_
        show Go _ _ _ _ _ _ _ T0 (mkF m 194 #[.val (.int p0), .val (.int p1), .val (.int p2), .val (.int p3), .val (.int p4), .val (.int na), .val (.int nb), .val (.int nc), .val (.double ka), .second, .val (.double kb), .second, .val (.double kc), .second, .val (.int ct), .val (.ref q), .val (.int pb), .val (.int pp), .val (.int (((p4.toUInt32 >>> ((3 : Int32) &&& 31).toUInt32).toInt32) &&& (3 : Int32))), .unset, .unset, .unset] [])
        refine Go.step (fun _ k => XS.iload X0.here hx rfl (hb hby at_194) rfl k) ?_
        refine Go.step (fun _ k => XS.iconst X0.here hx rfl (hb hby at_196) k) ?_
        refine Go.step (fun _ k => XS.iushr X0.here hx rfl (hb hby at_197) rfl k) ?_
        show Go _ _ _ _ _ _ _ T0 (mkF m 198 #[.val (.int p0), .val (.int p1), .val (.int p2), .val (.int p3), .val (.int p4), .val (.int na), .val (.int nb), .val (.int nc), .val (.double ka), .second, .val (.double kb), .second, .val (.double kc), .second, .val (.int ct), .val (.ref q), .val (.int pb), .val (.int pp), .val (.int (((p4.toUInt32 >>> ((3 : Int32) &&& 31).toUInt32).toInt32) &&& (3 : Int32))), .unset, .unset, .unset] [(.int ((p4.toUInt32 >>> ((5 : Int32) &&& 31).toUInt32).toInt32))])
        refine Go.step (fun _ k => XS.iconst X0.here hx rfl (hb hby at_198) k) ?_
        refine Go.step (fun _ k => XS.iand X0.here hx rfl (hb hby at_199) rfl k) ?_
        show Go _ _ _ _ _ _ _ T0 (mkF m 200 #[.val (.int p0), .val (.int p1), .val (.int p2), .val (.int p3), .val (.int p4), .val (.int na), .val (.int nb), .val (.int nc), .val (.double ka), .second, .val (.double kb), .second, .val (.double kc), .second, .val (.int ct), .val (.ref q), .val (.int pb), .val (.int pp), .val (.int (((p4.toUInt32 >>> ((3 : Int32) &&& 31).toUInt32).toInt32) &&& (3 : Int32))), .unset, .unset, .unset] [(.int (((p4.toUInt32 >>> ((5 : Int32) &&& 31).toUInt32).toInt32) &&& (1 : Int32)))])
        by_cases hc200_4 : (((p4.toUInt32 >>> ((5 : Int32) &&& 31).toUInt32).toInt32) &&& (1 : Int32)) = (0 : Int32)
        · refine Go.step (fun _ k => XS.ifYes X0.here hx rfl (pc0 := 200) (pc' := 212) rfl (hb hby at_200) rfl ((if0 _ _).trans (teq hc200_4).1) (by decide) (by decide) k) ?_
          show Go _ _ _ _ _ _ _ T0 (mkF m 212 #[.val (.int p0), .val (.int p1), .val (.int p2), .val (.int p3), .val (.int p4), .val (.int na), .val (.int nb), .val (.int nc), .val (.double ka), .second, .val (.double kb), .second, .val (.double kc), .second, .val (.int ct), .val (.ref q), .val (.int pb), .val (.int pp), .val (.int (((p4.toUInt32 >>> ((3 : Int32) &&& 31).toUInt32).toInt32) &&& (3 : Int32))), .unset, .unset, .unset] [])
          refine Go.step (fun _ k => XS.iloadN X0.here hx rfl (hb hby at_212) rfl k) ?_
          refine Go.step (fun _ k => XS.bipush X0.here hx rfl (hb hby at_213) k) ?_
          refine Go.step (fun _ k => XS.iand X0.here hx rfl (hb hby at_215) rfl k) ?_
          show Go _ _ _ _ _ _ _ T0 (mkF m 216 #[.val (.int p0), .val (.int p1), .val (.int p2), .val (.int p3), .val (.int p4), .val (.int na), .val (.int nb), .val (.int nc), .val (.double ka), .second, .val (.double kb), .second, .val (.double kc), .second, .val (.int ct), .val (.ref q), .val (.int pb), .val (.int pp), .val (.int (((p4.toUInt32 >>> ((3 : Int32) &&& 31).toUInt32).toInt32) &&& (3 : Int32))), .unset, .unset, .unset] [(.int (p3 &&& (127 : Int32)))])
          refine Go.step (fun _ k => XS.istore X0.here hx rfl (hb hby at_216) rfl (l' := #[.val (.int p0), .val (.int p1), .val (.int p2), .val (.int p3), .val (.int p4), .val (.int na), .val (.int nb), .val (.int nc), .val (.double ka), .second, .val (.double kb), .second, .val (.double kc), .second, .val (.int ct), .val (.ref q), .val (.int pb), .val (.int pp), .val (.int (((p4.toUInt32 >>> ((3 : Int32) &&& 31).toUInt32).toInt32) &&& (3 : Int32))), .val (.int (p3 &&& (127 : Int32))), .unset, .unset]) rfl k) ?_
          show Go _ _ _ _ _ _ _ T0 (mkF m 218 #[.val (.int p0), .val (.int p1), .val (.int p2), .val (.int p3), .val (.int p4), .val (.int na), .val (.int nb), .val (.int nc), .val (.double ka), .second, .val (.double kb), .second, .val (.double kc), .second, .val (.int ct), .val (.ref q), .val (.int pb), .val (.int pp), .val (.int (((p4.toUInt32 >>> ((3 : Int32) &&& 31).toUInt32).toInt32) &&& (3 : Int32))), .val (.int (p3 &&& (127 : Int32))), .unset, .unset] [])
          exact w0c p0 p1 p2 p3 p4 na nb nc ka kb kc ct q pb pp n fS (((p4.toUInt32 >>> ((3 : Int32) &&& 31).toUInt32).toInt32) &&& (3 : Int32)) (p3 &&& (127 : Int32)) X0 hx hZ hw hby hml hown hnm hret hlk e0 Z0 N0 E_q ge_q H hn hS (own_m127 p3)
        · refine Go.step (fun _ k => XS.ifNo X0.here hx rfl (hb hby at_200) rfl ((if0 _ _).trans (feq hc200_4).1) k) ?_
          show Go _ _ _ _ _ _ _ T0 (mkF m 203 #[.val (.int p0), .val (.int p1), .val (.int p2), .val (.int p3), .val (.int p4), .val (.int na), .val (.int nb), .val (.int nc), .val (.double ka), .second, .val (.double kb), .second, .val (.double kc), .second, .val (.int ct), .val (.ref q), .val (.int pb), .val (.int pp), .val (.int (((p4.toUInt32 >>> ((3 : Int32) &&& 31).toUInt32).toInt32) &&& (3 : Int32))), .unset, .unset, .unset] [])
          refine Go.step (fun _ k => XS.iloadN X0.here hx rfl (hb hby at_203) rfl k) ?_
          refine Go.step (X0.ldcInt hx hown (mvT hZ (hw _ (mI 74 rfl))) (g := (mkF m 204 #[.val (.int p0), .val (.int p1), .val (.int p2), .val (.int p3), .val (.int p4), .val (.int na), .val (.int nb), .val (.int nc), .val (.double ka), .second, .val (.double kb), .second, .val (.double kc), .second, .val (.int ct), .val (.ref q), .val (.int pb), .val (.int pp), .val (.int (((p4.toUInt32 >>> ((3 : Int32) &&& 31).toUInt32).toInt32) &&& (3 : Int32))), .unset, .unset, .unset] [(.int p3)])) rfl (hb hby at_204)) ?_
          show Go _ _ _ _ _ _ _ T0 (mkF m 206 #[.val (.int p0), .val (.int p1), .val (.int p2), .val (.int p3), .val (.int p4), .val (.int na), .val (.int nb), .val (.int nc), .val (.double ka), .second, .val (.double kb), .second, .val (.double kc), .second, .val (.int ct), .val (.ref q), .val (.int pb), .val (.int pp), .val (.int (((p4.toUInt32 >>> ((3 : Int32) &&& 31).toUInt32).toInt32) &&& (3 : Int32))), .unset, .unset, .unset] [(.int (2147483647 : Int32)), (.int p3)])
          refine Go.step (fun _ k => XS.iand X0.here hx rfl (hb hby at_206) rfl k) ?_
          show Go _ _ _ _ _ _ _ T0 (mkF m 207 #[.val (.int p0), .val (.int p1), .val (.int p2), .val (.int p3), .val (.int p4), .val (.int na), .val (.int nb), .val (.int nc), .val (.double ka), .second, .val (.double kb), .second, .val (.double kc), .second, .val (.int ct), .val (.ref q), .val (.int pb), .val (.int pp), .val (.int (((p4.toUInt32 >>> ((3 : Int32) &&& 31).toUInt32).toInt32) &&& (3 : Int32))), .unset, .unset, .unset] [(.int (p3 &&& (2147483647 : Int32)))])
          refine Go.step (fun _ k => XS.istore X0.here hx rfl (hb hby at_207) rfl (l' := #[.val (.int p0), .val (.int p1), .val (.int p2), .val (.int p3), .val (.int p4), .val (.int na), .val (.int nb), .val (.int nc), .val (.double ka), .second, .val (.double kb), .second, .val (.double kc), .second, .val (.int ct), .val (.ref q), .val (.int pb), .val (.int pp), .val (.int (((p4.toUInt32 >>> ((3 : Int32) &&& 31).toUInt32).toInt32) &&& (3 : Int32))), .val (.int (p3 &&& (2147483647 : Int32))), .unset, .unset]) rfl k) ?_
          show Go _ _ _ _ _ _ _ T0 (mkF m 209 #[.val (.int p0), .val (.int p1), .val (.int p2), .val (.int p3), .val (.int p4), .val (.int na), .val (.int nb), .val (.int nc), .val (.double ka), .second, .val (.double kb), .second, .val (.double kc), .second, .val (.int ct), .val (.ref q), .val (.int pb), .val (.int pp), .val (.int (((p4.toUInt32 >>> ((3 : Int32) &&& 31).toUInt32).toInt32) &&& (3 : Int32))), .val (.int (p3 &&& (2147483647 : Int32))), .unset, .unset] [])
          refine Go.step (fun _ k => XS.goto X0.here hx rfl (pc0 := 209) (pc' := 218) rfl (hb hby at_209) (by decide) (by decide) k) ?_
          show Go _ _ _ _ _ _ _ T0 (mkF m 218 #[.val (.int p0), .val (.int p1), .val (.int p2), .val (.int p3), .val (.int p4), .val (.int na), .val (.int nb), .val (.int nc), .val (.double ka), .second, .val (.double kb), .second, .val (.double kc), .second, .val (.int ct), .val (.ref q), .val (.int pb), .val (.int pp), .val (.int (((p4.toUInt32 >>> ((3 : Int32) &&& 31).toUInt32).toInt32) &&& (3 : Int32))), .val (.int (p3 &&& (2147483647 : Int32))), .unset, .unset] [])
          exact w0c p0 p1 p2 p3 p4 na nb nc ka kb kc ct q pb pp n fS (((p4.toUInt32 >>> ((3 : Int32) &&& 31).toUInt32).toInt32) &&& (3 : Int32)) (p3 &&& (2147483647 : Int32)) X0 hx hZ hw hby hml hown hnm hret hlk e0 Z0 N0 E_q ge_q H hn hS (own_mM p3)
theorem pd_9 : parseMethodDescriptor "(ID)Z" = some ⟨[.int, .double], some .boolean⟩ := by decide +kernel
theorem pd_10 : parseMethodDescriptor "()I" = some ⟨[], some .int⟩ := by decide +kernel
set_option maxRecDepth 65536 in
set_option maxHeartbeats 40000000 in
theorem w0 {p : Program} {l : Launch} {e : Env} {s : State} {m : MethodId} {args : Array Value} {below : List Frame} {meth : Method} {c_ : Code} {T0 : State} {locs : List Loc} {Z : State} {a0 : Array Value} {h0 : Heap} {n0 : Nat} (p0 p1 p2 p3 p4 : Int32)
    (X0 : Stand p l e room_1 s m args below meth c_ T0 locs 0 0) (hx : p.tables.exec = Jvm.exec) (hZ : Z.Warmed39 s.vm) (hw : ∀ d ∈ tables_1, d.before a0 Z = true) (hby : c_.code = code) (hml : c_.maxLocals = maxLocals) (hown : s.vm.findClass "com/example/tributary/tributary/NodeQueueContainsPinLaw" = some m.cls) (hnm : meth.name = "law") (hret : meth.sig.returnType = ret) (hlk : meth.locks = false) (e0 : T0.heap = h0) (Z0 : n0 ≤ h0.size) (N0 : Fr n0 locs)  :
    Go p e below s room_1.cells room_1.slots (fun r h L => r = some (.int 1) ∧ Fr n0 L) T0 (mkF m 0 #[.val (.int p0), .val (.int p1), .val (.int p2), .val (.int p3), .val (.int p4), .unset, .unset, .unset, .unset, .unset, .unset, .unset, .unset, .unset, .unset, .unset, .unset, .unset, .unset, .unset, .unset, .unset] []) := by
  have hret : meth.sig.returnType = some .boolean := hret
  show Go _ _ _ _ _ _ _ T0 (mkF m 0 #[.val (.int p0), .val (.int p1), .val (.int p2), .val (.int p3), .val (.int p4), .unset, .unset, .unset, .unset, .unset, .unset, .unset, .unset, .unset, .unset, .unset, .unset, .unset, .unset, .unset, .unset, .unset] [])
  refine Go.step (fun _ k => XS.iloadN X0.here hx rfl (hb hby at_0) rfl k) ?_
  refine Go.step (fun _ k => XS.bipush X0.here hx rfl (hb hby at_1) k) ?_
  refine Go.step (fun _ k => XS.iand X0.here hx rfl (hb hby at_3) rfl k) ?_
  show Go _ _ _ _ _ _ _ T0 (mkF m 4 #[.val (.int p0), .val (.int p1), .val (.int p2), .val (.int p3), .val (.int p4), .unset, .unset, .unset, .unset, .unset, .unset, .unset, .unset, .unset, .unset, .unset, .unset, .unset, .unset, .unset, .unset, .unset] [(.int (p0 &&& (15 : Int32)))])
  refine Go.step (fun _ k => XS.istore X0.here hx rfl (hb hby at_4) rfl (l' := #[.val (.int p0), .val (.int p1), .val (.int p2), .val (.int p3), .val (.int p4), .val (.int (p0 &&& (15 : Int32))), .unset, .unset, .unset, .unset, .unset, .unset, .unset, .unset, .unset, .unset, .unset, .unset, .unset, .unset, .unset, .unset]) rfl k) ?_
  obtain ⟨na, h_na⟩ : ∃ z, z = (p0 &&& (15 : Int32)) := ⟨_, rfl⟩
  rw [← h_na]
  have hna : ¬ na < (0 : Int32) ∧ na.toInt < 16 := by rw [h_na]; exact own_m15 p0
  show Go _ _ _ _ _ _ _ T0 (mkF m 6 #[.val (.int p0), .val (.int p1), .val (.int p2), .val (.int p3), .val (.int p4), .val (.int na), .unset, .unset, .unset, .unset, .unset, .unset, .unset, .unset, .unset, .unset, .unset, .unset, .unset, .unset, .unset, .unset] [])
  refine Go.step (fun _ k => XS.iloadN X0.here hx rfl (hb hby at_6) rfl k) ?_
  refine Go.step (fun _ k => XS.bipush X0.here hx rfl (hb hby at_7) k) ?_
  refine Go.step (fun _ k => XS.iand X0.here hx rfl (hb hby at_9) rfl k) ?_
  show Go _ _ _ _ _ _ _ T0 (mkF m 10 #[.val (.int p0), .val (.int p1), .val (.int p2), .val (.int p3), .val (.int p4), .val (.int na), .unset, .unset, .unset, .unset, .unset, .unset, .unset, .unset, .unset, .unset, .unset, .unset, .unset, .unset, .unset, .unset] [(.int (p1 &&& (15 : Int32)))])
  refine Go.step (fun _ k => XS.istore X0.here hx rfl (hb hby at_10) rfl (l' := #[.val (.int p0), .val (.int p1), .val (.int p2), .val (.int p3), .val (.int p4), .val (.int na), .val (.int (p1 &&& (15 : Int32))), .unset, .unset, .unset, .unset, .unset, .unset, .unset, .unset, .unset, .unset, .unset, .unset, .unset, .unset, .unset]) rfl k) ?_
  obtain ⟨nb, h_nb⟩ : ∃ z, z = (p1 &&& (15 : Int32)) := ⟨_, rfl⟩
  rw [← h_nb]
  have hnb : ¬ nb < (0 : Int32) ∧ nb.toInt < 16 := by rw [h_nb]; exact own_m15 p1
  show Go _ _ _ _ _ _ _ T0 (mkF m 12 #[.val (.int p0), .val (.int p1), .val (.int p2), .val (.int p3), .val (.int p4), .val (.int na), .val (.int nb), .unset, .unset, .unset, .unset, .unset, .unset, .unset, .unset, .unset, .unset, .unset, .unset, .unset, .unset, .unset] [])
  refine Go.step (fun _ k => XS.iloadN X0.here hx rfl (hb hby at_12) rfl k) ?_
  refine Go.step (fun _ k => XS.bipush X0.here hx rfl (hb hby at_13) k) ?_
  refine Go.step (fun _ k => XS.iand X0.here hx rfl (hb hby at_15) rfl k) ?_
  show Go _ _ _ _ _ _ _ T0 (mkF m 16 #[.val (.int p0), .val (.int p1), .val (.int p2), .val (.int p3), .val (.int p4), .val (.int na), .val (.int nb), .unset, .unset, .unset, .unset, .unset, .unset, .unset, .unset, .unset, .unset, .unset, .unset, .unset, .unset, .unset] [(.int (p2 &&& (63 : Int32)))])
  refine Go.step (fun _ k => XS.istore X0.here hx rfl (hb hby at_16) rfl (l' := #[.val (.int p0), .val (.int p1), .val (.int p2), .val (.int p3), .val (.int p4), .val (.int na), .val (.int nb), .val (.int (p2 &&& (63 : Int32))), .unset, .unset, .unset, .unset, .unset, .unset, .unset, .unset, .unset, .unset, .unset, .unset, .unset, .unset]) rfl k) ?_
  obtain ⟨nc, h_nc⟩ : ∃ z, z = (p2 &&& (63 : Int32)) := ⟨_, rfl⟩
  rw [← h_nc]
  have hnc : ¬ nc < (0 : Int32) ∧ nc.toInt < 64 := by rw [h_nc]; exact own_m63 p2
  show Go _ _ _ _ _ _ _ T0 (mkF m 18 #[.val (.int p0), .val (.int p1), .val (.int p2), .val (.int p3), .val (.int p4), .val (.int na), .val (.int nb), .val (.int nc), .unset, .unset, .unset, .unset, .unset, .unset, .unset, .unset, .unset, .unset, .unset, .unset, .unset, .unset] [])
  refine Go.step (fun _ k => XS.iloadN X0.here hx rfl (hb hby at_18) rfl k) ?_
  refine Go.step (fun _ k => XS.bipush X0.here hx rfl (hb hby at_19) k) ?_
  refine Go.step (fun _ k => XS.iushr X0.here hx rfl (hb hby at_21) rfl k) ?_
  show Go _ _ _ _ _ _ _ T0 (mkF m 22 #[.val (.int p0), .val (.int p1), .val (.int p2), .val (.int p3), .val (.int p4), .val (.int na), .val (.int nb), .val (.int nc), .unset, .unset, .unset, .unset, .unset, .unset, .unset, .unset, .unset, .unset, .unset, .unset, .unset, .unset] [(.int ((p0.toUInt32 >>> ((8 : Int32) &&& 31).toUInt32).toInt32))])
  refine Go.step (fun _ k => XS.bipush X0.here hx rfl (hb hby at_22) k) ?_
  refine Go.step (fun _ k => XS.iand X0.here hx rfl (hb hby at_24) rfl k) ?_
  show Go _ _ _ _ _ _ _ T0 (mkF m 25 #[.val (.int p0), .val (.int p1), .val (.int p2), .val (.int p3), .val (.int p4), .val (.int na), .val (.int nb), .val (.int nc), .unset, .unset, .unset, .unset, .unset, .unset, .unset, .unset, .unset, .unset, .unset, .unset, .unset, .unset] [(.int (((p0.toUInt32 >>> ((8 : Int32) &&& 31).toUInt32).toInt32) &&& (7 : Int32)))])
  refine Go.step (fun _ k => XS.i2dS X0.here hx rfl (hb hby at_25) rfl rfl k) ?_
  show Go _ _ _ _ _ _ _ T0 (mkF m 26 #[.val (.int p0), .val (.int p1), .val (.int p2), .val (.int p3), .val (.int p4), .val (.int na), .val (.int nb), .val (.int nc), .unset, .unset, .unset, .unset, .unset, .unset, .unset, .unset, .unset, .unset, .unset, .unset, .unset, .unset] [(.double (FP.i2d (((p0.toUInt32 >>> ((8 : Int32) &&& 31).toUInt32).toInt32) &&& (7 : Int32))))])
  refine Go.step (fun _ k => XS.dstore X0.here hx rfl (hb hby at_26) rfl (l' := #[.val (.int p0), .val (.int p1), .val (.int p2), .val (.int p3), .val (.int p4), .val (.int na), .val (.int nb), .val (.int nc), .val (.double (FP.i2d (((p0.toUInt32 >>> ((8 : Int32) &&& 31).toUInt32).toInt32) &&& (7 : Int32)))), .second, .unset, .unset, .unset, .unset, .unset, .unset, .unset, .unset, .unset, .unset, .unset, .unset]) rfl k) ?_
  obtain ⟨ka, h_ka⟩ : ∃ z, z = (FP.i2d (((p0.toUInt32 >>> ((8 : Int32) &&& 31).toUInt32).toInt32) &&& (7 : Int32))) := ⟨_, rfl⟩
  rw [← h_ka]
  show Go _ _ _ _ _ _ _ T0 (mkF m 28 #[.val (.int p0), .val (.int p1), .val (.int p2), .val (.int p3), .val (.int p4), .val (.int na), .val (.int nb), .val (.int nc), .val (.double ka), .second, .unset, .unset, .unset, .unset, .unset, .unset, .unset, .unset, .unset, .unset, .unset, .unset] [])
  refine Go.step (fun _ k => XS.iloadN X0.here hx rfl (hb hby at_28) rfl k) ?_
  refine Go.step (fun _ k => XS.bipush X0.here hx rfl (hb hby at_29) k) ?_
  refine Go.step (fun _ k => XS.iushr X0.here hx rfl (hb hby at_31) rfl k) ?_
  show Go _ _ _ _ _ _ _ T0 (mkF m 32 #[.val (.int p0), .val (.int p1), .val (.int p2), .val (.int p3), .val (.int p4), .val (.int na), .val (.int nb), .val (.int nc), .val (.double ka), .second, .unset, .unset, .unset, .unset, .unset, .unset, .unset, .unset, .unset, .unset, .unset, .unset] [(.int ((p1.toUInt32 >>> ((8 : Int32) &&& 31).toUInt32).toInt32))])
  refine Go.step (fun _ k => XS.bipush X0.here hx rfl (hb hby at_32) k) ?_
  refine Go.step (fun _ k => XS.iand X0.here hx rfl (hb hby at_34) rfl k) ?_
  show Go _ _ _ _ _ _ _ T0 (mkF m 35 #[.val (.int p0), .val (.int p1), .val (.int p2), .val (.int p3), .val (.int p4), .val (.int na), .val (.int nb), .val (.int nc), .val (.double ka), .second, .unset, .unset, .unset, .unset, .unset, .unset, .unset, .unset, .unset, .unset, .unset, .unset] [(.int (((p1.toUInt32 >>> ((8 : Int32) &&& 31).toUInt32).toInt32) &&& (7 : Int32)))])
  refine Go.step (fun _ k => XS.i2dS X0.here hx rfl (hb hby at_35) rfl rfl k) ?_
  show Go _ _ _ _ _ _ _ T0 (mkF m 36 #[.val (.int p0), .val (.int p1), .val (.int p2), .val (.int p3), .val (.int p4), .val (.int na), .val (.int nb), .val (.int nc), .val (.double ka), .second, .unset, .unset, .unset, .unset, .unset, .unset, .unset, .unset, .unset, .unset, .unset, .unset] [(.double (FP.i2d (((p1.toUInt32 >>> ((8 : Int32) &&& 31).toUInt32).toInt32) &&& (7 : Int32))))])
  refine Go.step (fun _ k => XS.dstore X0.here hx rfl (hb hby at_36) rfl (l' := #[.val (.int p0), .val (.int p1), .val (.int p2), .val (.int p3), .val (.int p4), .val (.int na), .val (.int nb), .val (.int nc), .val (.double ka), .second, .val (.double (FP.i2d (((p1.toUInt32 >>> ((8 : Int32) &&& 31).toUInt32).toInt32) &&& (7 : Int32)))), .second, .unset, .unset, .unset, .unset, .unset, .unset, .unset, .unset, .unset, .unset]) rfl k) ?_
  obtain ⟨kb, h_kb⟩ : ∃ z, z = (FP.i2d (((p1.toUInt32 >>> ((8 : Int32) &&& 31).toUInt32).toInt32) &&& (7 : Int32))) := ⟨_, rfl⟩
  rw [← h_kb]
  show Go _ _ _ _ _ _ _ T0 (mkF m 38 #[.val (.int p0), .val (.int p1), .val (.int p2), .val (.int p3), .val (.int p4), .val (.int na), .val (.int nb), .val (.int nc), .val (.double ka), .second, .val (.double kb), .second, .unset, .unset, .unset, .unset, .unset, .unset, .unset, .unset, .unset, .unset] [])
  refine Go.step (fun _ k => XS.iloadN X0.here hx rfl (hb hby at_38) rfl k) ?_
  refine Go.step (fun _ k => XS.bipush X0.here hx rfl (hb hby at_39) k) ?_
  refine Go.step (fun _ k => XS.iushr X0.here hx rfl (hb hby at_41) rfl k) ?_
  show Go _ _ _ _ _ _ _ T0 (mkF m 42 #[.val (.int p0), .val (.int p1), .val (.int p2), .val (.int p3), .val (.int p4), .val (.int na), .val (.int nb), .val (.int nc), .val (.double ka), .second, .val (.double kb), .second, .unset, .unset, .unset, .unset, .unset, .unset, .unset, .unset, .unset, .unset] [(.int ((p2.toUInt32 >>> ((8 : Int32) &&& 31).toUInt32).toInt32))])
  refine Go.step (fun _ k => XS.bipush X0.here hx rfl (hb hby at_42) k) ?_
  refine Go.step (fun _ k => XS.iand X0.here hx rfl (hb hby at_44) rfl k) ?_
  show Go _ _ _ _ _ _ _ T0 (mkF m 45 #[.val (.int p0), .val (.int p1), .val (.int p2), .val (.int p3), .val (.int p4), .val (.int na), .val (.int nb), .val (.int nc), .val (.double ka), .second, .val (.double kb), .second, .unset, .unset, .unset, .unset, .unset, .unset, .unset, .unset, .unset, .unset] [(.int (((p2.toUInt32 >>> ((8 : Int32) &&& 31).toUInt32).toInt32) &&& (7 : Int32)))])
  refine Go.step (fun _ k => XS.i2dS X0.here hx rfl (hb hby at_45) rfl rfl k) ?_
  show Go _ _ _ _ _ _ _ T0 (mkF m 46 #[.val (.int p0), .val (.int p1), .val (.int p2), .val (.int p3), .val (.int p4), .val (.int na), .val (.int nb), .val (.int nc), .val (.double ka), .second, .val (.double kb), .second, .unset, .unset, .unset, .unset, .unset, .unset, .unset, .unset, .unset, .unset] [(.double (FP.i2d (((p2.toUInt32 >>> ((8 : Int32) &&& 31).toUInt32).toInt32) &&& (7 : Int32))))])
  refine Go.step (fun _ k => XS.dstore X0.here hx rfl (hb hby at_46) rfl (l' := #[.val (.int p0), .val (.int p1), .val (.int p2), .val (.int p3), .val (.int p4), .val (.int na), .val (.int nb), .val (.int nc), .val (.double ka), .second, .val (.double kb), .second, .val (.double (FP.i2d (((p2.toUInt32 >>> ((8 : Int32) &&& 31).toUInt32).toInt32) &&& (7 : Int32)))), .second, .unset, .unset, .unset, .unset, .unset, .unset, .unset, .unset]) rfl k) ?_
  obtain ⟨kc, h_kc⟩ : ∃ z, z = (FP.i2d (((p2.toUInt32 >>> ((8 : Int32) &&& 31).toUInt32).toInt32) &&& (7 : Int32))) := ⟨_, rfl⟩
  rw [← h_kc]
  show Go _ _ _ _ _ _ _ T0 (mkF m 48 #[.val (.int p0), .val (.int p1), .val (.int p2), .val (.int p3), .val (.int p4), .val (.int na), .val (.int nb), .val (.int nc), .val (.double ka), .second, .val (.double kb), .second, .val (.double kc), .second, .unset, .unset, .unset, .unset, .unset, .unset, .unset, .unset] [])
  refine Go.step (fun _ k => XS.iload X0.here hx rfl (hb hby at_48) rfl k) ?_
  refine Go.step (fun _ k => XS.iconst X0.here hx rfl (hb hby at_50) k) ?_
  refine Go.step (fun _ k => XS.iand X0.here hx rfl (hb hby at_51) rfl k) ?_
  show Go _ _ _ _ _ _ _ T0 (mkF m 52 #[.val (.int p0), .val (.int p1), .val (.int p2), .val (.int p3), .val (.int p4), .val (.int na), .val (.int nb), .val (.int nc), .val (.double ka), .second, .val (.double kb), .second, .val (.double kc), .second, .unset, .unset, .unset, .unset, .unset, .unset, .unset, .unset] [(.int (p4 &&& (3 : Int32)))])
  refine Go.step (fun _ k => XS.istore X0.here hx rfl (hb hby at_52) rfl (l' := #[.val (.int p0), .val (.int p1), .val (.int p2), .val (.int p3), .val (.int p4), .val (.int na), .val (.int nb), .val (.int nc), .val (.double ka), .second, .val (.double kb), .second, .val (.double kc), .second, .val (.int (p4 &&& (3 : Int32))), .unset, .unset, .unset, .unset, .unset, .unset, .unset]) rfl k) ?_
  obtain ⟨ct, h_ct⟩ : ∃ z, z = (p4 &&& (3 : Int32)) := ⟨_, rfl⟩
  rw [← h_ct]
  show Go _ _ _ _ _ _ _ T0 (mkF m 54 #[.val (.int p0), .val (.int p1), .val (.int p2), .val (.int p3), .val (.int p4), .val (.int na), .val (.int nb), .val (.int nc), .val (.double ka), .second, .val (.double kb), .second, .val (.double kc), .second, .val (.int ct), .unset, .unset, .unset, .unset, .unset, .unset, .unset] [])
  obtain ⟨T1, h1, X1, e1, E1, A1, D1, -, st1⟩ := newO X0 hx hZ hown (hw _ (mI 0 rfl)) (hw _ (mI 1 rfl)) (hw _ (mI 2 rfl)) e0 (g := (mkF m 54 #[.val (.int p0), .val (.int p1), .val (.int p2), .val (.int p3), .val (.int p4), .val (.int na), .val (.int nb), .val (.int nc), .val (.double ka), .second, .val (.double kb), .second, .val (.double kc), .second, .val (.int ct), .unset, .unset, .unset, .unset, .unset, .unset, .unset] [])) rfl (hb hby at_54) (by decide) (by decide)
  obtain ⟨b1, g1⟩ : ∃ z, z = h0.size := ⟨_, rfl⟩
  rw [← g1] at A1 D1 st1
  refine Go.step st1 ?_
  have K1 : Keep h0 h1 [] := (Keep.refl h0 []).ext E1
  have sz_b1 : h0.size ≤ b1 := Nat.le_trans ((Keep.refl h0 []) : Keep h0 h0 []).1 (Nat.le_of_eq g1.symm)
  have ge_b1 : n0 ≤ b1 := Nat.le_trans Z0 sz_b1
  have E_b1 := A1
  have F_heap_b1 : Fld Z h1 b1 "com/example/tributary/tributary/NodeQueue" "heap" "[I" .null := D1 (Or.inl (hw _ (mI 11 rfl))) (ty := (.array .int)) (by decide)
  have F_positions_b1 : Fld Z h1 b1 "com/example/tributary/tributary/NodeQueue" "positions" "[I" .null := D1 (Or.inl (hw _ (mI 13 rfl))) (ty := (.array .int)) (by decide)
  have F_keys_b1 : Fld Z h1 b1 "com/example/tributary/tributary/NodeQueue" "keys" "[D" .null := D1 (Or.inl (hw _ (mI 16 rfl))) (ty := (.array .double)) (by decide)
  have F_size_b1 : Fld Z h1 b1 "com/example/tributary/tributary/NodeQueue" "size" "I" (.int (0 : Int32)) := D1 (Or.inl (hw _ (mI 52 rfl))) (ty := .int) (by decide)
  show Go _ _ _ _ _ _ _ T1 (mkF m 57 #[.val (.int p0), .val (.int p1), .val (.int p2), .val (.int p3), .val (.int p4), .val (.int na), .val (.int nb), .val (.int nc), .val (.double ka), .second, .val (.double kb), .second, .val (.double kc), .second, .val (.int ct), .unset, .unset, .unset, .unset, .unset, .unset, .unset] [(.ref b1)])
  refine Go.step (fun _ k => XS.dup X1.here hx rfl (hb hby at_57) rfl rfl k) ?_
  refine Go.callI X1 hx hZ (by rw [hml]; rfl) (y := (⟨"com/example/tributary/tributary/NodeQueue", "<init>", "()V"⟩ : MethodName)) (a := b1) (argsL := []) (rest := [(.ref b1)]) rfl hown (hw _ (mI 3 rfl)) (hw _ (mI 4 rfl)) (hw _ (mI 2 rfl)) (hw _ (mI 5 rfl)) (by decide) (rm1 l Z a0 hw b1 h1 n0 (Nat.le_trans Z0 (K1 : Keep h0 h1 []).1) E_b1 F_size_b1 F_heap_b1 F_positions_b1 F_keys_b1 ge_b1) e1 (hb hby at_58) (lenOf pd_7 rfl) rfl rfl (W := 1) (Nat.le_of_eq rfl) (by decide) (by decide) (by decide) (by decide) ?_
  intro v2 T2 L2 X2 Q2
  obtain ⟨rfl, N2q, Eq2, H2x⟩ := Q2
  have N2 := Fr.app N0 N2q
  show Go _ _ _ _ _ _ _ T2 (mkF m 61 #[.val (.int p0), .val (.int p1), .val (.int p2), .val (.int p3), .val (.int p4), .val (.int na), .val (.int nb), .val (.int nc), .val (.double ka), .second, .val (.double kb), .second, .val (.double kc), .second, .val (.int ct), .unset, .unset, .unset, .unset, .unset, .unset, .unset] [(.ref b1)])
  refine Go.step (fun _ k => XS.astore X2.here hx rfl (hb hby at_61) rfl rfl (l' := #[.val (.int p0), .val (.int p1), .val (.int p2), .val (.int p3), .val (.int p4), .val (.int na), .val (.int nb), .val (.int nc), .val (.double ka), .second, .val (.double kb), .second, .val (.double kc), .second, .val (.int ct), .val (.ref b1), .unset, .unset, .unset, .unset, .unset, .unset]) rfl k) ?_
  show Go _ _ _ _ _ _ _ T2 (mkF m 63 #[.val (.int p0), .val (.int p1), .val (.int p2), .val (.int p3), .val (.int p4), .val (.int na), .val (.int nb), .val (.int nc), .val (.double ka), .second, .val (.double kb), .second, .val (.double kc), .second, .val (.int ct), .val (.ref b1), .unset, .unset, .unset, .unset, .unset, .unset] [])
  refine Go.step (fun _ k => XS.iload X2.here hx rfl (hb hby at_63) rfl k) ?_
  refine Go.step (fun _ k => XS.iconst X2.here hx rfl (hb hby at_65) k) ?_
  by_cases hc66_3 : ct < (1 : Int32)
  · refine Go.step (fun _ k => XS.icmpYes X2.here hx rfl (pc0 := 66) (pc' := 79) rfl (hb hby at_66) rfl (tlt hc66_3).1 (by decide) (by decide) k) ?_
    show Go _ _ _ _ _ _ _ T2 (mkF m 79 #[.val (.int p0), .val (.int p1), .val (.int p2), .val (.int p3), .val (.int p4), .val (.int na), .val (.int nb), .val (.int nc), .val (.double ka), .second, .val (.double kb), .second, .val (.double kc), .second, .val (.int ct), .val (.ref b1), .unset, .unset, .unset, .unset, .unset, .unset] [])
    refine Go.step (fun _ k => XS.iload X2.here hx rfl (hb hby at_79) rfl k) ?_
    refine Go.step (fun _ k => XS.iconst X2.here hx rfl (hb hby at_81) k) ?_
    refine Go.step (fun _ k => XS.icmpYes X2.here hx rfl (pc0 := 82) (pc' := 95) rfl (hb hby at_82) rfl (tlt (own_lts hc66_3 (by decide))).1 (by decide) (by decide) k) ?_
    show Go _ _ _ _ _ _ _ T2 (mkF m 95 #[.val (.int p0), .val (.int p1), .val (.int p2), .val (.int p3), .val (.int p4), .val (.int na), .val (.int nb), .val (.int nc), .val (.double ka), .second, .val (.double kb), .second, .val (.double kc), .second, .val (.int ct), .val (.ref b1), .unset, .unset, .unset, .unset, .unset, .unset] [])
    refine Go.step (fun _ k => XS.iload X2.here hx rfl (hb hby at_95) rfl k) ?_
    refine Go.step (fun _ k => XS.iconst X2.here hx rfl (hb hby at_97) k) ?_
    refine Go.step (fun _ k => XS.icmpYes X2.here hx rfl (pc0 := 98) (pc' := 111) rfl (hb hby at_98) rfl (tlt (own_lts hc66_3 (by decide))).1 (by decide) (by decide) k) ?_
    show Go _ _ _ _ _ _ _ T2 (mkF m 111 #[.val (.int p0), .val (.int p1), .val (.int p2), .val (.int p3), .val (.int p4), .val (.int na), .val (.int nb), .val (.int nc), .val (.double ka), .second, .val (.double kb), .second, .val (.double kc), .second, .val (.int ct), .val (.ref b1), .unset, .unset, .unset, .unset, .unset, .unset] [])
    refine Go.step (fun _ k => XS.iload X2.here hx rfl (hb hby at_111) rfl k) ?_
    refine Go.step (fun _ k => XS.iconst X2.here hx rfl (hb hby at_113) k) ?_
    refine Go.step (fun _ k => XS.icmpYes X2.here hx rfl (pc0 := 114) (pc' := 130) rfl (hb hby at_114) rfl (tlt hc66_3).1 (by decide) (by decide) k) ?_
    show Go _ _ _ _ _ _ _ T2 (mkF m 130 #[.val (.int p0), .val (.int p1), .val (.int p2), .val (.int p3), .val (.int p4), .val (.int na), .val (.int nb), .val (.int nc), .val (.double ka), .second, .val (.double kb), .second, .val (.double kc), .second, .val (.int ct), .val (.ref b1), .unset, .unset, .unset, .unset, .unset, .unset] [])
    refine Go.step (fun _ k => XS.iconst X2.here hx rfl (hb hby at_130) k) ?_
    refine Go.step (fun _ k => XS.istore X2.here hx rfl (hb hby at_131) rfl (l' := #[.val (.int p0), .val (.int p1), .val (.int p2), .val (.int p3), .val (.int p4), .val (.int na), .val (.int nb), .val (.int nc), .val (.double ka), .second, .val (.double kb), .second, .val (.double kc), .second, .val (.int ct), .val (.ref b1), .val (.int (0 : Int32)), .unset, .unset, .unset, .unset, .unset]) rfl k) ?_
    show Go _ _ _ _ _ _ _ T2 (mkF m 133 #[.val (.int p0), .val (.int p1), .val (.int p2), .val (.int p3), .val (.int p4), .val (.int na), .val (.int nb), .val (.int nc), .val (.double ka), .second, .val (.double kb), .second, .val (.double kc), .second, .val (.int ct), .val (.ref b1), .val (.int (0 : Int32)), .unset, .unset, .unset, .unset, .unset] [])
    refine Go.step (fun _ k => XS.iconst X2.here hx rfl (hb hby at_133) k) ?_
    refine Go.step (fun _ k => XS.istore X2.here hx rfl (hb hby at_134) rfl (l' := #[.val (.int p0), .val (.int p1), .val (.int p2), .val (.int p3), .val (.int p4), .val (.int na), .val (.int nb), .val (.int nc), .val (.double ka), .second, .val (.double kb), .second, .val (.double kc), .second, .val (.int ct), .val (.ref b1), .val (.int (0 : Int32)), .val (.int (-1 : Int32)), .unset, .unset, .unset, .unset]) rfl k) ?_
    show Go _ _ _ _ _ _ _ T2 (mkF m 136 #[.val (.int p0), .val (.int p1), .val (.int p2), .val (.int p3), .val (.int p4), .val (.int na), .val (.int nb), .val (.int nc), .val (.double ka), .second, .val (.double kb), .second, .val (.double kc), .second, .val (.int ct), .val (.ref b1), .val (.int (0 : Int32)), .val (.int (-1 : Int32)), .unset, .unset, .unset, .unset] [])
    refine Go.step (fun _ k => XS.iload X2.here hx rfl (hb hby at_136) rfl k) ?_
    refine Go.step (fun _ k => XS.ifYes X2.here hx rfl (pc0 := 138) (pc' := 148) rfl (hb hby at_138) rfl ((if0 _ _).trans (teq (by decide : (0 : Int32) = (0 : Int32))).1) (by decide) (by decide) k) ?_
    show Go _ _ _ _ _ _ _ T2 (mkF m 148 #[.val (.int p0), .val (.int p1), .val (.int p2), .val (.int p3), .val (.int p4), .val (.int na), .val (.int nb), .val (.int nc), .val (.double ka), .second, .val (.double kb), .second, .val (.double kc), .second, .val (.int ct), .val (.ref b1), .val (.int (0 : Int32)), .val (.int (-1 : Int32)), .unset, .unset, .unset, .unset] [])
    have H64 : QS Z T2.heap n0 b1 0 64 (fun _ => False) := by obtain ⟨a1, a2, a3, a4, a5, a6, a7, b1, b2, b3, b4, b5⟩ := H2x; exact ⟨a1, a2, a3, a4, a5, a6, a7, b1, b2, b3, by omega, b5⟩
    exact w0b p0 p1 p2 p3 p4 na nb nc ka kb kc ct b1 (0 : Int32) (-1 : Int32) 0 (fun _ => False) (own_up X2 (by decide) (by decide)) hx hZ hw hby hml hown hnm hret hlk rfl (Nat.le_trans ge_b1 (Nat.le_of_lt Eq2.lt)) N2 Eq2 ge_b1 H64 (by omega) (fun y => by simp [or_assoc, hc66_3, (own_lts hc66_3 (by decide) : ct < (2 : Int32)), (own_lts hc66_3 (by decide) : ct < (3 : Int32))]) hna.1 hnb.1 hnc.1
  · refine Go.step (fun _ k => XS.icmpNo X2.here hx rfl (hb hby at_66) rfl (flt hc66_3).1 k) ?_
    show Go _ _ _ _ _ _ _ T2 (mkF m 69 #[.val (.int p0), .val (.int p1), .val (.int p2), .val (.int p3), .val (.int p4), .val (.int na), .val (.int nb), .val (.int nc), .val (.double ka), .second, .val (.double kb), .second, .val (.double kc), .second, .val (.int ct), .val (.ref b1), .unset, .unset, .unset, .unset, .unset, .unset] [])
    refine Go.step (fun _ k => XS.aload X2.here hx rfl (hb hby at_69) rfl rfl k) ?_
    refine Go.step (fun _ k => XS.iload X2.here hx rfl (hb hby at_71) rfl k) ?_
    refine Go.step (fun _ k => XS.dload X2.here hx rfl (hb hby at_73) rfl k) ?_
    show Go _ _ _ _ _ _ _ T2 (mkF m 75 #[.val (.int p0), .val (.int p1), .val (.int p2), .val (.int p3), .val (.int p4), .val (.int na), .val (.int nb), .val (.int nc), .val (.double ka), .second, .val (.double kb), .second, .val (.double kc), .second, .val (.int ct), .val (.ref b1), .unset, .unset, .unset, .unset, .unset, .unset] [(.double ka), (.int na), (.ref b1)])
    refine Go.callV X2 hx hZ (by rw [hml]; rfl) (y := (⟨"com/example/tributary/tributary/NodeQueue", "offer", "(ID)Z"⟩ : MethodName)) (z := (⟨"com/example/tributary/tributary/NodeQueue", "offer", "(ID)Z"⟩ : MethodName)) (a := b1) (argsL := [(.int na), (.double ka)]) (rest := []) hown (hw _ (mI 22 rfl)) (hw _ (mI 23 rfl)) (notFace_of_selects (args := #[]) (mvT hZ (hw _ (mI 25 rfl)))) (hw _ (mI 25 rfl)) (hw _ (mI 24 rfl)) (hw _ (mI 2 rfl)) (hw _ (mI 26 rfl)) (by decide) (rmOff l Z a0 hw b1 0 0 16 (fun _ => False) na ka T2.heap n0 (Nat.le_trans ge_b1 (Nat.le_of_lt Eq2.lt)) H2x (by omega) hna.1 (by omega) (by decide) (by decide) (by decide) (by omega)) rfl Eq2 (hb hby at_75) (lenOf pd_9 rfl) rfl rfl (W := 0) (Nat.le_of_eq rfl) (by decide) (by decide) (by decide) (by decide) ?_
    intro v4 T4 L4 X4 Q4
    obtain ⟨⟨rv4, rfl⟩, N4q, Eq4, n4x, hn4, H4x⟩ := Q4
    have N4 := Fr.app N2 N4q
    show Go _ _ _ _ _ _ _ T4 (mkF m 78 #[.val (.int p0), .val (.int p1), .val (.int p2), .val (.int p3), .val (.int p4), .val (.int na), .val (.int nb), .val (.int nc), .val (.double ka), .second, .val (.double kb), .second, .val (.double kc), .second, .val (.int ct), .val (.ref b1), .unset, .unset, .unset, .unset, .unset, .unset] [(.int rv4)])
    refine Go.step (fun _ k => XS.pop X4.here hx rfl (hb hby at_78) rfl rfl k) ?_
    show Go _ _ _ _ _ _ _ T4 (mkF m 79 #[.val (.int p0), .val (.int p1), .val (.int p2), .val (.int p3), .val (.int p4), .val (.int na), .val (.int nb), .val (.int nc), .val (.double ka), .second, .val (.double kb), .second, .val (.double kc), .second, .val (.int ct), .val (.ref b1), .unset, .unset, .unset, .unset, .unset, .unset] [])
    refine Go.step (fun _ k => XS.iload X4.here hx rfl (hb hby at_79) rfl k) ?_
    refine Go.step (fun _ k => XS.iconst X4.here hx rfl (hb hby at_81) k) ?_
    by_cases hc82_5 : ct < (2 : Int32)
    · refine Go.step (fun _ k => XS.icmpYes X4.here hx rfl (pc0 := 82) (pc' := 95) rfl (hb hby at_82) rfl (tlt hc82_5).1 (by decide) (by decide) k) ?_
      show Go _ _ _ _ _ _ _ T4 (mkF m 95 #[.val (.int p0), .val (.int p1), .val (.int p2), .val (.int p3), .val (.int p4), .val (.int na), .val (.int nb), .val (.int nc), .val (.double ka), .second, .val (.double kb), .second, .val (.double kc), .second, .val (.int ct), .val (.ref b1), .unset, .unset, .unset, .unset, .unset, .unset] [])
      refine Go.step (fun _ k => XS.iload X4.here hx rfl (hb hby at_95) rfl k) ?_
      refine Go.step (fun _ k => XS.iconst X4.here hx rfl (hb hby at_97) k) ?_
      refine Go.step (fun _ k => XS.icmpYes X4.here hx rfl (pc0 := 98) (pc' := 111) rfl (hb hby at_98) rfl (tlt (own_lts hc82_5 (by decide))).1 (by decide) (by decide) k) ?_
      show Go _ _ _ _ _ _ _ T4 (mkF m 111 #[.val (.int p0), .val (.int p1), .val (.int p2), .val (.int p3), .val (.int p4), .val (.int na), .val (.int nb), .val (.int nc), .val (.double ka), .second, .val (.double kb), .second, .val (.double kc), .second, .val (.int ct), .val (.ref b1), .unset, .unset, .unset, .unset, .unset, .unset] [])
      refine Go.step (fun _ k => XS.iload X4.here hx rfl (hb hby at_111) rfl k) ?_
      refine Go.step (fun _ k => XS.iconst X4.here hx rfl (hb hby at_113) k) ?_
      refine Go.step (fun _ k => XS.icmpNo X4.here hx rfl (hb hby at_114) rfl (flt hc66_3).1 k) ?_
      show Go _ _ _ _ _ _ _ T4 (mkF m 117 #[.val (.int p0), .val (.int p1), .val (.int p2), .val (.int p3), .val (.int p4), .val (.int na), .val (.int nb), .val (.int nc), .val (.double ka), .second, .val (.double kb), .second, .val (.double kc), .second, .val (.int ct), .val (.ref b1), .unset, .unset, .unset, .unset, .unset, .unset] [])
      refine Go.step (fun _ k => XS.iload X4.here hx rfl (hb hby at_117) rfl k) ?_
      refine Go.step (fun _ k => XS.iconst X4.here hx rfl (hb hby at_119) k) ?_
      refine Go.step (fun _ k => XS.iushr X4.here hx rfl (hb hby at_120) rfl k) ?_
      show Go _ _ _ _ _ _ _ T4 (mkF m 121 #[.val (.int p0), .val (.int p1), .val (.int p2), .val (.int p3), .val (.int p4), .val (.int na), .val (.int nb), .val (.int nc), .val (.double ka), .second, .val (.double kb), .second, .val (.double kc), .second, .val (.int ct), .val (.ref b1), .unset, .unset, .unset, .unset, .unset, .unset] [(.int ((p4.toUInt32 >>> ((2 : Int32) &&& 31).toUInt32).toInt32))])
      refine Go.step (fun _ k => XS.iconst X4.here hx rfl (hb hby at_121) k) ?_
      refine Go.step (fun _ k => XS.iand X4.here hx rfl (hb hby at_122) rfl k) ?_
      show Go _ _ _ _ _ _ _ T4 (mkF m 123 #[.val (.int p0), .val (.int p1), .val (.int p2), .val (.int p3), .val (.int p4), .val (.int na), .val (.int nb), .val (.int nc), .val (.double ka), .second, .val (.double kb), .second, .val (.double kc), .second, .val (.int ct), .val (.ref b1), .unset, .unset, .unset, .unset, .unset, .unset] [(.int (((p4.toUInt32 >>> ((2 : Int32) &&& 31).toUInt32).toInt32) &&& (1 : Int32)))])
      by_cases hc123_6 : (((p4.toUInt32 >>> ((2 : Int32) &&& 31).toUInt32).toInt32) &&& (1 : Int32)) = (0 : Int32)
      · refine Go.step (fun _ k => XS.ifYes X4.here hx rfl (pc0 := 123) (pc' := 130) rfl (hb hby at_123) rfl ((if0 _ _).trans (teq hc123_6).1) (by decide) (by decide) k) ?_
        show Go _ _ _ _ _ _ _ T4 (mkF m 130 #[.val (.int p0), .val (.int p1), .val (.int p2), .val (.int p3), .val (.int p4), .val (.int na), .val (.int nb), .val (.int nc), .val (.double ka), .second, .val (.double kb), .second, .val (.double kc), .second, .val (.int ct), .val (.ref b1), .unset, .unset, .unset, .unset, .unset, .unset] [])
        refine Go.step (fun _ k => XS.iconst X4.here hx rfl (hb hby at_130) k) ?_
        refine Go.step (fun _ k => XS.istore X4.here hx rfl (hb hby at_131) rfl (l' := #[.val (.int p0), .val (.int p1), .val (.int p2), .val (.int p3), .val (.int p4), .val (.int na), .val (.int nb), .val (.int nc), .val (.double ka), .second, .val (.double kb), .second, .val (.double kc), .second, .val (.int ct), .val (.ref b1), .val (.int (0 : Int32)), .unset, .unset, .unset, .unset, .unset]) rfl k) ?_
        show Go _ _ _ _ _ _ _ T4 (mkF m 133 #[.val (.int p0), .val (.int p1), .val (.int p2), .val (.int p3), .val (.int p4), .val (.int na), .val (.int nb), .val (.int nc), .val (.double ka), .second, .val (.double kb), .second, .val (.double kc), .second, .val (.int ct), .val (.ref b1), .val (.int (0 : Int32)), .unset, .unset, .unset, .unset, .unset] [])
        refine Go.step (fun _ k => XS.iconst X4.here hx rfl (hb hby at_133) k) ?_
        refine Go.step (fun _ k => XS.istore X4.here hx rfl (hb hby at_134) rfl (l' := #[.val (.int p0), .val (.int p1), .val (.int p2), .val (.int p3), .val (.int p4), .val (.int na), .val (.int nb), .val (.int nc), .val (.double ka), .second, .val (.double kb), .second, .val (.double kc), .second, .val (.int ct), .val (.ref b1), .val (.int (0 : Int32)), .val (.int (-1 : Int32)), .unset, .unset, .unset, .unset]) rfl k) ?_
        show Go _ _ _ _ _ _ _ T4 (mkF m 136 #[.val (.int p0), .val (.int p1), .val (.int p2), .val (.int p3), .val (.int p4), .val (.int na), .val (.int nb), .val (.int nc), .val (.double ka), .second, .val (.double kb), .second, .val (.double kc), .second, .val (.int ct), .val (.ref b1), .val (.int (0 : Int32)), .val (.int (-1 : Int32)), .unset, .unset, .unset, .unset] [])
        refine Go.step (fun _ k => XS.iload X4.here hx rfl (hb hby at_136) rfl k) ?_
        refine Go.step (fun _ k => XS.ifYes X4.here hx rfl (pc0 := 138) (pc' := 148) rfl (hb hby at_138) rfl ((if0 _ _).trans (teq (by decide : (0 : Int32) = (0 : Int32))).1) (by decide) (by decide) k) ?_
        show Go _ _ _ _ _ _ _ T4 (mkF m 148 #[.val (.int p0), .val (.int p1), .val (.int p2), .val (.int p3), .val (.int p4), .val (.int na), .val (.int nb), .val (.int nc), .val (.double ka), .second, .val (.double kb), .second, .val (.double kc), .second, .val (.int ct), .val (.ref b1), .val (.int (0 : Int32)), .val (.int (-1 : Int32)), .unset, .unset, .unset, .unset] [])
        have H64 : QS Z T4.heap n0 b1 n4x 64 (fun y => (fun _ => False) y ∨ y = na) := by obtain ⟨a1, a2, a3, a4, a5, a6, a7, b1, b2, b3, b4, b5⟩ := H4x; exact ⟨a1, a2, a3, a4, a5, a6, a7, b1, b2, b3, by omega, b5⟩
        exact w0b p0 p1 p2 p3 p4 na nb nc ka kb kc ct b1 (0 : Int32) (-1 : Int32) n4x (fun y => (fun _ => False) y ∨ y = na) (own_up X4 (by decide) (by decide)) hx hZ hw hby hml hown hnm hret hlk rfl (Nat.le_trans ge_b1 (Nat.le_of_lt Eq4.lt)) N4 Eq4 ge_b1 H64 (by omega) (fun y => by simp [or_assoc, hc66_3, hc82_5, (own_lts hc82_5 (by decide) : ct < (3 : Int32))]) hna.1 hnb.1 hnc.1
      · refine Go.step (fun _ k => XS.ifNo X4.here hx rfl (hb hby at_123) rfl ((if0 _ _).trans (feq hc123_6).1) k) ?_
        show Go _ _ _ _ _ _ _ T4 (mkF m 126 #[.val (.int p0), .val (.int p1), .val (.int p2), .val (.int p3), .val (.int p4), .val (.int na), .val (.int nb), .val (.int nc), .val (.double ka), .second, .val (.double kb), .second, .val (.double kc), .second, .val (.int ct), .val (.ref b1), .unset, .unset, .unset, .unset, .unset, .unset] [])
        refine Go.step (fun _ k => XS.iconst X4.here hx rfl (hb hby at_126) k) ?_
        refine Go.step (fun _ k => XS.goto X4.here hx rfl (pc0 := 127) (pc' := 131) rfl (hb hby at_127) (by decide) (by decide) k) ?_
        show Go _ _ _ _ _ _ _ T4 (mkF m 131 #[.val (.int p0), .val (.int p1), .val (.int p2), .val (.int p3), .val (.int p4), .val (.int na), .val (.int nb), .val (.int nc), .val (.double ka), .second, .val (.double kb), .second, .val (.double kc), .second, .val (.int ct), .val (.ref b1), .unset, .unset, .unset, .unset, .unset, .unset] [(.int (1 : Int32))])
        refine Go.step (fun _ k => XS.istore X4.here hx rfl (hb hby at_131) rfl (l' := #[.val (.int p0), .val (.int p1), .val (.int p2), .val (.int p3), .val (.int p4), .val (.int na), .val (.int nb), .val (.int nc), .val (.double ka), .second, .val (.double kb), .second, .val (.double kc), .second, .val (.int ct), .val (.ref b1), .val (.int (1 : Int32)), .unset, .unset, .unset, .unset, .unset]) rfl k) ?_
        show Go _ _ _ _ _ _ _ T4 (mkF m 133 #[.val (.int p0), .val (.int p1), .val (.int p2), .val (.int p3), .val (.int p4), .val (.int na), .val (.int nb), .val (.int nc), .val (.double ka), .second, .val (.double kb), .second, .val (.double kc), .second, .val (.int ct), .val (.ref b1), .val (.int (1 : Int32)), .unset, .unset, .unset, .unset, .unset] [])
        refine Go.step (fun _ k => XS.iconst X4.here hx rfl (hb hby at_133) k) ?_
        refine Go.step (fun _ k => XS.istore X4.here hx rfl (hb hby at_134) rfl (l' := #[.val (.int p0), .val (.int p1), .val (.int p2), .val (.int p3), .val (.int p4), .val (.int na), .val (.int nb), .val (.int nc), .val (.double ka), .second, .val (.double kb), .second, .val (.double kc), .second, .val (.int ct), .val (.ref b1), .val (.int (1 : Int32)), .val (.int (-1 : Int32)), .unset, .unset, .unset, .unset]) rfl k) ?_
        show Go _ _ _ _ _ _ _ T4 (mkF m 136 #[.val (.int p0), .val (.int p1), .val (.int p2), .val (.int p3), .val (.int p4), .val (.int na), .val (.int nb), .val (.int nc), .val (.double ka), .second, .val (.double kb), .second, .val (.double kc), .second, .val (.int ct), .val (.ref b1), .val (.int (1 : Int32)), .val (.int (-1 : Int32)), .unset, .unset, .unset, .unset] [])
        refine Go.step (fun _ k => XS.iload X4.here hx rfl (hb hby at_136) rfl k) ?_
        refine Go.step (fun _ k => XS.ifNo X4.here hx rfl (hb hby at_138) rfl ((if0 _ _).trans (feq (by decide : ¬ ((1 : Int32) = (0 : Int32)))).1) k) ?_
        show Go _ _ _ _ _ _ _ T4 (mkF m 141 #[.val (.int p0), .val (.int p1), .val (.int p2), .val (.int p3), .val (.int p4), .val (.int na), .val (.int nb), .val (.int nc), .val (.double ka), .second, .val (.double kb), .second, .val (.double kc), .second, .val (.int ct), .val (.ref b1), .val (.int (1 : Int32)), .val (.int (-1 : Int32)), .unset, .unset, .unset, .unset] [])
        refine Go.step (fun _ k => XS.aload X4.here hx rfl (hb hby at_141) rfl rfl k) ?_
        refine Go.callV X4 hx hZ (by rw [hml]; rfl) (y := (⟨"com/example/tributary/tributary/NodeQueue", "poll", "()I"⟩ : MethodName)) (z := (⟨"com/example/tributary/tributary/NodeQueue", "poll", "()I"⟩ : MethodName)) (a := b1) (argsL := []) (rest := []) hown (hw _ (mI 61 rfl)) (hw _ (mI 62 rfl)) (notFace_of_selects (args := #[]) (mvT hZ (hw _ (mI 64 rfl)))) (hw _ (mI 64 rfl)) (hw _ (mI 63 rfl)) (hw _ (mI 2 rfl)) (hw _ (mI 65 rfl)) (by decide) (rmPoll l Z a0 hw b1 n4x 16 (fun y => (fun _ => False) y ∨ y = na) T4.heap n0 (Nat.le_trans ge_b1 (Nat.le_of_lt Eq4.lt)) H4x (by omega) (by omega)) rfl Eq4 (hb hby at_143) (lenOf pd_10 rfl) rfl rfl (W := 0) (Nat.le_of_eq rfl) (by decide) (by decide) (by decide) (by decide) ?_
        intro v7 T7 L7 X7 Q7
        obtain ⟨pv7, rfl, N7q, Eq7, n7x, hn7, H7x⟩ := Q7
        have N7 := Fr.app N4 N7q
        show Go _ _ _ _ _ _ _ T7 (mkF m 146 #[.val (.int p0), .val (.int p1), .val (.int p2), .val (.int p3), .val (.int p4), .val (.int na), .val (.int nb), .val (.int nc), .val (.double ka), .second, .val (.double kb), .second, .val (.double kc), .second, .val (.int ct), .val (.ref b1), .val (.int (1 : Int32)), .val (.int (-1 : Int32)), .unset, .unset, .unset, .unset] [(.int pv7)])
        refine Go.step (fun _ k => XS.istore X7.here hx rfl (hb hby at_146) rfl (l' := #[.val (.int p0), .val (.int p1), .val (.int p2), .val (.int p3), .val (.int p4), .val (.int na), .val (.int nb), .val (.int nc), .val (.double ka), .second, .val (.double kb), .second, .val (.double kc), .second, .val (.int ct), .val (.ref b1), .val (.int (1 : Int32)), .val (.int pv7), .unset, .unset, .unset, .unset]) rfl k) ?_
        show Go _ _ _ _ _ _ _ T7 (mkF m 148 #[.val (.int p0), .val (.int p1), .val (.int p2), .val (.int p3), .val (.int p4), .val (.int na), .val (.int nb), .val (.int nc), .val (.double ka), .second, .val (.double kb), .second, .val (.double kc), .second, .val (.int ct), .val (.ref b1), .val (.int (1 : Int32)), .val (.int pv7), .unset, .unset, .unset, .unset] [])
        have H64 : QS Z T7.heap n0 b1 n7x 64 (fun y => (fun y => (fun _ => False) y ∨ y = na) y ∧ y ≠ pv7) := by obtain ⟨a1, a2, a3, a4, a5, a6, a7, b1, b2, b3, b4, b5⟩ := H7x; exact ⟨a1, a2, a3, a4, a5, a6, a7, b1, b2, b3, by omega, b5⟩
        exact w0b p0 p1 p2 p3 p4 na nb nc ka kb kc ct b1 (1 : Int32) pv7 n7x (fun y => (fun y => (fun _ => False) y ∨ y = na) y ∧ y ≠ pv7) (own_up X7 (by decide) (by decide)) hx hZ hw hby hml hown hnm hret hlk rfl (Nat.le_trans ge_b1 (Nat.le_of_lt Eq7.lt)) N7 Eq7 ge_b1 H64 (by omega) (fun y => by simp [or_assoc, hc66_3, hc82_5, (own_lts hc82_5 (by decide) : ct < (3 : Int32))]) hna.1 hnb.1 hnc.1
    · refine Go.step (fun _ k => XS.icmpNo X4.here hx rfl (hb hby at_82) rfl (flt hc82_5).1 k) ?_
      show Go _ _ _ _ _ _ _ T4 (mkF m 85 #[.val (.int p0), .val (.int p1), .val (.int p2), .val (.int p3), .val (.int p4), .val (.int na), .val (.int nb), .val (.int nc), .val (.double ka), .second, .val (.double kb), .second, .val (.double kc), .second, .val (.int ct), .val (.ref b1), .unset, .unset, .unset, .unset, .unset, .unset] [])
      refine Go.step (fun _ k => XS.aload X4.here hx rfl (hb hby at_85) rfl rfl k) ?_
      refine Go.step (fun _ k => XS.iload X4.here hx rfl (hb hby at_87) rfl k) ?_
      refine Go.step (fun _ k => XS.dload X4.here hx rfl (hb hby at_89) rfl k) ?_
      show Go _ _ _ _ _ _ _ T4 (mkF m 91 #[.val (.int p0), .val (.int p1), .val (.int p2), .val (.int p3), .val (.int p4), .val (.int na), .val (.int nb), .val (.int nc), .val (.double ka), .second, .val (.double kb), .second, .val (.double kc), .second, .val (.int ct), .val (.ref b1), .unset, .unset, .unset, .unset, .unset, .unset] [(.double kb), (.int nb), (.ref b1)])
      refine Go.callV X4 hx hZ (by rw [hml]; rfl) (y := (⟨"com/example/tributary/tributary/NodeQueue", "offer", "(ID)Z"⟩ : MethodName)) (z := (⟨"com/example/tributary/tributary/NodeQueue", "offer", "(ID)Z"⟩ : MethodName)) (a := b1) (argsL := [(.int nb), (.double kb)]) (rest := []) hown (hw _ (mI 22 rfl)) (hw _ (mI 23 rfl)) (notFace_of_selects (args := #[]) (mvT hZ (hw _ (mI 25 rfl)))) (hw _ (mI 25 rfl)) (hw _ (mI 24 rfl)) (hw _ (mI 2 rfl)) (hw _ (mI 26 rfl)) (by decide) (rmOff l Z a0 hw b1 n4x 16 32 (fun y => (fun _ => False) y ∨ y = na) nb kb T4.heap n0 (Nat.le_trans ge_b1 (Nat.le_of_lt Eq4.lt)) H4x (by omega) hnb.1 (by omega) (by decide) (by decide) (by decide) (by omega)) rfl Eq4 (hb hby at_91) (lenOf pd_9 rfl) rfl rfl (W := 0) (Nat.le_of_eq rfl) (by decide) (by decide) (by decide) (by decide) ?_
      intro v8 T8 L8 X8 Q8
      obtain ⟨⟨rv8, rfl⟩, N8q, Eq8, n8x, hn8, H8x⟩ := Q8
      have N8 := Fr.app N4 N8q
      show Go _ _ _ _ _ _ _ T8 (mkF m 94 #[.val (.int p0), .val (.int p1), .val (.int p2), .val (.int p3), .val (.int p4), .val (.int na), .val (.int nb), .val (.int nc), .val (.double ka), .second, .val (.double kb), .second, .val (.double kc), .second, .val (.int ct), .val (.ref b1), .unset, .unset, .unset, .unset, .unset, .unset] [(.int rv8)])
      refine Go.step (fun _ k => XS.pop X8.here hx rfl (hb hby at_94) rfl rfl k) ?_
      show Go _ _ _ _ _ _ _ T8 (mkF m 95 #[.val (.int p0), .val (.int p1), .val (.int p2), .val (.int p3), .val (.int p4), .val (.int na), .val (.int nb), .val (.int nc), .val (.double ka), .second, .val (.double kb), .second, .val (.double kc), .second, .val (.int ct), .val (.ref b1), .unset, .unset, .unset, .unset, .unset, .unset] [])
      refine Go.step (fun _ k => XS.iload X8.here hx rfl (hb hby at_95) rfl k) ?_
      refine Go.step (fun _ k => XS.iconst X8.here hx rfl (hb hby at_97) k) ?_
      by_cases hc98_9 : ct < (3 : Int32)
      · refine Go.step (fun _ k => XS.icmpYes X8.here hx rfl (pc0 := 98) (pc' := 111) rfl (hb hby at_98) rfl (tlt hc98_9).1 (by decide) (by decide) k) ?_
        show Go _ _ _ _ _ _ _ T8 (mkF m 111 #[.val (.int p0), .val (.int p1), .val (.int p2), .val (.int p3), .val (.int p4), .val (.int na), .val (.int nb), .val (.int nc), .val (.double ka), .second, .val (.double kb), .second, .val (.double kc), .second, .val (.int ct), .val (.ref b1), .unset, .unset, .unset, .unset, .unset, .unset] [])
        refine Go.step (fun _ k => XS.iload X8.here hx rfl (hb hby at_111) rfl k) ?_
        refine Go.step (fun _ k => XS.iconst X8.here hx rfl (hb hby at_113) k) ?_
        refine Go.step (fun _ k => XS.icmpNo X8.here hx rfl (hb hby at_114) rfl (flt hc66_3).1 k) ?_
        show Go _ _ _ _ _ _ _ T8 (mkF m 117 #[.val (.int p0), .val (.int p1), .val (.int p2), .val (.int p3), .val (.int p4), .val (.int na), .val (.int nb), .val (.int nc), .val (.double ka), .second, .val (.double kb), .second, .val (.double kc), .second, .val (.int ct), .val (.ref b1), .unset, .unset, .unset, .unset, .unset, .unset] [])
        refine Go.step (fun _ k => XS.iload X8.here hx rfl (hb hby at_117) rfl k) ?_
        refine Go.step (fun _ k => XS.iconst X8.here hx rfl (hb hby at_119) k) ?_
        refine Go.step (fun _ k => XS.iushr X8.here hx rfl (hb hby at_120) rfl k) ?_
        show Go _ _ _ _ _ _ _ T8 (mkF m 121 #[.val (.int p0), .val (.int p1), .val (.int p2), .val (.int p3), .val (.int p4), .val (.int na), .val (.int nb), .val (.int nc), .val (.double ka), .second, .val (.double kb), .second, .val (.double kc), .second, .val (.int ct), .val (.ref b1), .unset, .unset, .unset, .unset, .unset, .unset] [(.int ((p4.toUInt32 >>> ((2 : Int32) &&& 31).toUInt32).toInt32))])
        refine Go.step (fun _ k => XS.iconst X8.here hx rfl (hb hby at_121) k) ?_
        refine Go.step (fun _ k => XS.iand X8.here hx rfl (hb hby at_122) rfl k) ?_
        show Go _ _ _ _ _ _ _ T8 (mkF m 123 #[.val (.int p0), .val (.int p1), .val (.int p2), .val (.int p3), .val (.int p4), .val (.int na), .val (.int nb), .val (.int nc), .val (.double ka), .second, .val (.double kb), .second, .val (.double kc), .second, .val (.int ct), .val (.ref b1), .unset, .unset, .unset, .unset, .unset, .unset] [(.int (((p4.toUInt32 >>> ((2 : Int32) &&& 31).toUInt32).toInt32) &&& (1 : Int32)))])
        by_cases hc123_10 : (((p4.toUInt32 >>> ((2 : Int32) &&& 31).toUInt32).toInt32) &&& (1 : Int32)) = (0 : Int32)
        · refine Go.step (fun _ k => XS.ifYes X8.here hx rfl (pc0 := 123) (pc' := 130) rfl (hb hby at_123) rfl ((if0 _ _).trans (teq hc123_10).1) (by decide) (by decide) k) ?_
          show Go _ _ _ _ _ _ _ T8 (mkF m 130 #[.val (.int p0), .val (.int p1), .val (.int p2), .val (.int p3), .val (.int p4), .val (.int na), .val (.int nb), .val (.int nc), .val (.double ka), .second, .val (.double kb), .second, .val (.double kc), .second, .val (.int ct), .val (.ref b1), .unset, .unset, .unset, .unset, .unset, .unset] [])
          refine Go.step (fun _ k => XS.iconst X8.here hx rfl (hb hby at_130) k) ?_
          refine Go.step (fun _ k => XS.istore X8.here hx rfl (hb hby at_131) rfl (l' := #[.val (.int p0), .val (.int p1), .val (.int p2), .val (.int p3), .val (.int p4), .val (.int na), .val (.int nb), .val (.int nc), .val (.double ka), .second, .val (.double kb), .second, .val (.double kc), .second, .val (.int ct), .val (.ref b1), .val (.int (0 : Int32)), .unset, .unset, .unset, .unset, .unset]) rfl k) ?_
          show Go _ _ _ _ _ _ _ T8 (mkF m 133 #[.val (.int p0), .val (.int p1), .val (.int p2), .val (.int p3), .val (.int p4), .val (.int na), .val (.int nb), .val (.int nc), .val (.double ka), .second, .val (.double kb), .second, .val (.double kc), .second, .val (.int ct), .val (.ref b1), .val (.int (0 : Int32)), .unset, .unset, .unset, .unset, .unset] [])
          refine Go.step (fun _ k => XS.iconst X8.here hx rfl (hb hby at_133) k) ?_
          refine Go.step (fun _ k => XS.istore X8.here hx rfl (hb hby at_134) rfl (l' := #[.val (.int p0), .val (.int p1), .val (.int p2), .val (.int p3), .val (.int p4), .val (.int na), .val (.int nb), .val (.int nc), .val (.double ka), .second, .val (.double kb), .second, .val (.double kc), .second, .val (.int ct), .val (.ref b1), .val (.int (0 : Int32)), .val (.int (-1 : Int32)), .unset, .unset, .unset, .unset]) rfl k) ?_
          show Go _ _ _ _ _ _ _ T8 (mkF m 136 #[.val (.int p0), .val (.int p1), .val (.int p2), .val (.int p3), .val (.int p4), .val (.int na), .val (.int nb), .val (.int nc), .val (.double ka), .second, .val (.double kb), .second, .val (.double kc), .second, .val (.int ct), .val (.ref b1), .val (.int (0 : Int32)), .val (.int (-1 : Int32)), .unset, .unset, .unset, .unset] [])
          refine Go.step (fun _ k => XS.iload X8.here hx rfl (hb hby at_136) rfl k) ?_
          refine Go.step (fun _ k => XS.ifYes X8.here hx rfl (pc0 := 138) (pc' := 148) rfl (hb hby at_138) rfl ((if0 _ _).trans (teq (by decide : (0 : Int32) = (0 : Int32))).1) (by decide) (by decide) k) ?_
          show Go _ _ _ _ _ _ _ T8 (mkF m 148 #[.val (.int p0), .val (.int p1), .val (.int p2), .val (.int p3), .val (.int p4), .val (.int na), .val (.int nb), .val (.int nc), .val (.double ka), .second, .val (.double kb), .second, .val (.double kc), .second, .val (.int ct), .val (.ref b1), .val (.int (0 : Int32)), .val (.int (-1 : Int32)), .unset, .unset, .unset, .unset] [])
          have H64 : QS Z T8.heap n0 b1 n8x 64 (fun y => (fun y => (fun _ => False) y ∨ y = na) y ∨ y = nb) := by obtain ⟨a1, a2, a3, a4, a5, a6, a7, b1, b2, b3, b4, b5⟩ := H8x; exact ⟨a1, a2, a3, a4, a5, a6, a7, b1, b2, b3, by omega, b5⟩
          exact w0b p0 p1 p2 p3 p4 na nb nc ka kb kc ct b1 (0 : Int32) (-1 : Int32) n8x (fun y => (fun y => (fun _ => False) y ∨ y = na) y ∨ y = nb) (own_up X8 (by decide) (by decide)) hx hZ hw hby hml hown hnm hret hlk rfl (Nat.le_trans ge_b1 (Nat.le_of_lt Eq8.lt)) N8 Eq8 ge_b1 H64 (by omega) (fun y => by simp [or_assoc, hc66_3, hc82_5, hc98_9]) hna.1 hnb.1 hnc.1
        · refine Go.step (fun _ k => XS.ifNo X8.here hx rfl (hb hby at_123) rfl ((if0 _ _).trans (feq hc123_10).1) k) ?_
          show Go _ _ _ _ _ _ _ T8 (mkF m 126 #[.val (.int p0), .val (.int p1), .val (.int p2), .val (.int p3), .val (.int p4), .val (.int na), .val (.int nb), .val (.int nc), .val (.double ka), .second, .val (.double kb), .second, .val (.double kc), .second, .val (.int ct), .val (.ref b1), .unset, .unset, .unset, .unset, .unset, .unset] [])
          refine Go.step (fun _ k => XS.iconst X8.here hx rfl (hb hby at_126) k) ?_
          refine Go.step (fun _ k => XS.goto X8.here hx rfl (pc0 := 127) (pc' := 131) rfl (hb hby at_127) (by decide) (by decide) k) ?_
          show Go _ _ _ _ _ _ _ T8 (mkF m 131 #[.val (.int p0), .val (.int p1), .val (.int p2), .val (.int p3), .val (.int p4), .val (.int na), .val (.int nb), .val (.int nc), .val (.double ka), .second, .val (.double kb), .second, .val (.double kc), .second, .val (.int ct), .val (.ref b1), .unset, .unset, .unset, .unset, .unset, .unset] [(.int (1 : Int32))])
          refine Go.step (fun _ k => XS.istore X8.here hx rfl (hb hby at_131) rfl (l' := #[.val (.int p0), .val (.int p1), .val (.int p2), .val (.int p3), .val (.int p4), .val (.int na), .val (.int nb), .val (.int nc), .val (.double ka), .second, .val (.double kb), .second, .val (.double kc), .second, .val (.int ct), .val (.ref b1), .val (.int (1 : Int32)), .unset, .unset, .unset, .unset, .unset]) rfl k) ?_
          show Go _ _ _ _ _ _ _ T8 (mkF m 133 #[.val (.int p0), .val (.int p1), .val (.int p2), .val (.int p3), .val (.int p4), .val (.int na), .val (.int nb), .val (.int nc), .val (.double ka), .second, .val (.double kb), .second, .val (.double kc), .second, .val (.int ct), .val (.ref b1), .val (.int (1 : Int32)), .unset, .unset, .unset, .unset, .unset] [])
          refine Go.step (fun _ k => XS.iconst X8.here hx rfl (hb hby at_133) k) ?_
          refine Go.step (fun _ k => XS.istore X8.here hx rfl (hb hby at_134) rfl (l' := #[.val (.int p0), .val (.int p1), .val (.int p2), .val (.int p3), .val (.int p4), .val (.int na), .val (.int nb), .val (.int nc), .val (.double ka), .second, .val (.double kb), .second, .val (.double kc), .second, .val (.int ct), .val (.ref b1), .val (.int (1 : Int32)), .val (.int (-1 : Int32)), .unset, .unset, .unset, .unset]) rfl k) ?_
          show Go _ _ _ _ _ _ _ T8 (mkF m 136 #[.val (.int p0), .val (.int p1), .val (.int p2), .val (.int p3), .val (.int p4), .val (.int na), .val (.int nb), .val (.int nc), .val (.double ka), .second, .val (.double kb), .second, .val (.double kc), .second, .val (.int ct), .val (.ref b1), .val (.int (1 : Int32)), .val (.int (-1 : Int32)), .unset, .unset, .unset, .unset] [])
          refine Go.step (fun _ k => XS.iload X8.here hx rfl (hb hby at_136) rfl k) ?_
          refine Go.step (fun _ k => XS.ifNo X8.here hx rfl (hb hby at_138) rfl ((if0 _ _).trans (feq (by decide : ¬ ((1 : Int32) = (0 : Int32)))).1) k) ?_
          show Go _ _ _ _ _ _ _ T8 (mkF m 141 #[.val (.int p0), .val (.int p1), .val (.int p2), .val (.int p3), .val (.int p4), .val (.int na), .val (.int nb), .val (.int nc), .val (.double ka), .second, .val (.double kb), .second, .val (.double kc), .second, .val (.int ct), .val (.ref b1), .val (.int (1 : Int32)), .val (.int (-1 : Int32)), .unset, .unset, .unset, .unset] [])
          refine Go.step (fun _ k => XS.aload X8.here hx rfl (hb hby at_141) rfl rfl k) ?_
          refine Go.callV X8 hx hZ (by rw [hml]; rfl) (y := (⟨"com/example/tributary/tributary/NodeQueue", "poll", "()I"⟩ : MethodName)) (z := (⟨"com/example/tributary/tributary/NodeQueue", "poll", "()I"⟩ : MethodName)) (a := b1) (argsL := []) (rest := []) hown (hw _ (mI 61 rfl)) (hw _ (mI 62 rfl)) (notFace_of_selects (args := #[]) (mvT hZ (hw _ (mI 64 rfl)))) (hw _ (mI 64 rfl)) (hw _ (mI 63 rfl)) (hw _ (mI 2 rfl)) (hw _ (mI 65 rfl)) (by decide) (rmPoll l Z a0 hw b1 n8x 32 (fun y => (fun y => (fun _ => False) y ∨ y = na) y ∨ y = nb) T8.heap n0 (Nat.le_trans ge_b1 (Nat.le_of_lt Eq8.lt)) H8x (by omega) (by omega)) rfl Eq8 (hb hby at_143) (lenOf pd_10 rfl) rfl rfl (W := 0) (Nat.le_of_eq rfl) (by decide) (by decide) (by decide) (by decide) ?_
          intro v11 T11 L11 X11 Q11
          obtain ⟨pv11, rfl, N11q, Eq11, n11x, hn11, H11x⟩ := Q11
          have N11 := Fr.app N8 N11q
          show Go _ _ _ _ _ _ _ T11 (mkF m 146 #[.val (.int p0), .val (.int p1), .val (.int p2), .val (.int p3), .val (.int p4), .val (.int na), .val (.int nb), .val (.int nc), .val (.double ka), .second, .val (.double kb), .second, .val (.double kc), .second, .val (.int ct), .val (.ref b1), .val (.int (1 : Int32)), .val (.int (-1 : Int32)), .unset, .unset, .unset, .unset] [(.int pv11)])
          refine Go.step (fun _ k => XS.istore X11.here hx rfl (hb hby at_146) rfl (l' := #[.val (.int p0), .val (.int p1), .val (.int p2), .val (.int p3), .val (.int p4), .val (.int na), .val (.int nb), .val (.int nc), .val (.double ka), .second, .val (.double kb), .second, .val (.double kc), .second, .val (.int ct), .val (.ref b1), .val (.int (1 : Int32)), .val (.int pv11), .unset, .unset, .unset, .unset]) rfl k) ?_
          show Go _ _ _ _ _ _ _ T11 (mkF m 148 #[.val (.int p0), .val (.int p1), .val (.int p2), .val (.int p3), .val (.int p4), .val (.int na), .val (.int nb), .val (.int nc), .val (.double ka), .second, .val (.double kb), .second, .val (.double kc), .second, .val (.int ct), .val (.ref b1), .val (.int (1 : Int32)), .val (.int pv11), .unset, .unset, .unset, .unset] [])
          have H64 : QS Z T11.heap n0 b1 n11x 64 (fun y => (fun y => (fun y => (fun _ => False) y ∨ y = na) y ∨ y = nb) y ∧ y ≠ pv11) := by obtain ⟨a1, a2, a3, a4, a5, a6, a7, b1, b2, b3, b4, b5⟩ := H11x; exact ⟨a1, a2, a3, a4, a5, a6, a7, b1, b2, b3, by omega, b5⟩
          exact w0b p0 p1 p2 p3 p4 na nb nc ka kb kc ct b1 (1 : Int32) pv11 n11x (fun y => (fun y => (fun y => (fun _ => False) y ∨ y = na) y ∨ y = nb) y ∧ y ≠ pv11) (own_up X11 (by decide) (by decide)) hx hZ hw hby hml hown hnm hret hlk rfl (Nat.le_trans ge_b1 (Nat.le_of_lt Eq11.lt)) N11 Eq11 ge_b1 H64 (by omega) (fun y => by simp [or_assoc, hc66_3, hc82_5, hc98_9]) hna.1 hnb.1 hnc.1
      · refine Go.step (fun _ k => XS.icmpNo X8.here hx rfl (hb hby at_98) rfl (flt hc98_9).1 k) ?_
        show Go _ _ _ _ _ _ _ T8 (mkF m 101 #[.val (.int p0), .val (.int p1), .val (.int p2), .val (.int p3), .val (.int p4), .val (.int na), .val (.int nb), .val (.int nc), .val (.double ka), .second, .val (.double kb), .second, .val (.double kc), .second, .val (.int ct), .val (.ref b1), .unset, .unset, .unset, .unset, .unset, .unset] [])
        refine Go.step (fun _ k => XS.aload X8.here hx rfl (hb hby at_101) rfl rfl k) ?_
        refine Go.step (fun _ k => XS.iload X8.here hx rfl (hb hby at_103) rfl k) ?_
        refine Go.step (fun _ k => XS.dload X8.here hx rfl (hb hby at_105) rfl k) ?_
        show Go _ _ _ _ _ _ _ T8 (mkF m 107 #[.val (.int p0), .val (.int p1), .val (.int p2), .val (.int p3), .val (.int p4), .val (.int na), .val (.int nb), .val (.int nc), .val (.double ka), .second, .val (.double kb), .second, .val (.double kc), .second, .val (.int ct), .val (.ref b1), .unset, .unset, .unset, .unset, .unset, .unset] [(.double kc), (.int nc), (.ref b1)])
        refine Go.callV X8 hx hZ (by rw [hml]; rfl) (y := (⟨"com/example/tributary/tributary/NodeQueue", "offer", "(ID)Z"⟩ : MethodName)) (z := (⟨"com/example/tributary/tributary/NodeQueue", "offer", "(ID)Z"⟩ : MethodName)) (a := b1) (argsL := [(.int nc), (.double kc)]) (rest := []) hown (hw _ (mI 22 rfl)) (hw _ (mI 23 rfl)) (notFace_of_selects (args := #[]) (mvT hZ (hw _ (mI 25 rfl)))) (hw _ (mI 25 rfl)) (hw _ (mI 24 rfl)) (hw _ (mI 2 rfl)) (hw _ (mI 26 rfl)) (by decide) (rmOff l Z a0 hw b1 n8x 32 64 (fun y => (fun y => (fun _ => False) y ∨ y = na) y ∨ y = nb) nc kc T8.heap n0 (Nat.le_trans ge_b1 (Nat.le_of_lt Eq8.lt)) H8x (by omega) hnc.1 (by omega) (by decide) (by decide) (by decide) (by omega)) rfl Eq8 (hb hby at_107) (lenOf pd_9 rfl) rfl rfl (W := 0) (Nat.le_of_eq rfl) (by decide) (by decide) (by decide) (by decide) ?_
        intro v12 T12 L12 X12 Q12
        obtain ⟨⟨rv12, rfl⟩, N12q, Eq12, n12x, hn12, H12x⟩ := Q12
        have N12 := Fr.app N8 N12q
        show Go _ _ _ _ _ _ _ T12 (mkF m 110 #[.val (.int p0), .val (.int p1), .val (.int p2), .val (.int p3), .val (.int p4), .val (.int na), .val (.int nb), .val (.int nc), .val (.double ka), .second, .val (.double kb), .second, .val (.double kc), .second, .val (.int ct), .val (.ref b1), .unset, .unset, .unset, .unset, .unset, .unset] [(.int rv12)])
        refine Go.step (fun _ k => XS.pop X12.here hx rfl (hb hby at_110) rfl rfl k) ?_
        show Go _ _ _ _ _ _ _ T12 (mkF m 111 #[.val (.int p0), .val (.int p1), .val (.int p2), .val (.int p3), .val (.int p4), .val (.int na), .val (.int nb), .val (.int nc), .val (.double ka), .second, .val (.double kb), .second, .val (.double kc), .second, .val (.int ct), .val (.ref b1), .unset, .unset, .unset, .unset, .unset, .unset] [])
        refine Go.step (fun _ k => XS.iload X12.here hx rfl (hb hby at_111) rfl k) ?_
        refine Go.step (fun _ k => XS.iconst X12.here hx rfl (hb hby at_113) k) ?_
        refine Go.step (fun _ k => XS.icmpNo X12.here hx rfl (hb hby at_114) rfl (flt hc66_3).1 k) ?_
        show Go _ _ _ _ _ _ _ T12 (mkF m 117 #[.val (.int p0), .val (.int p1), .val (.int p2), .val (.int p3), .val (.int p4), .val (.int na), .val (.int nb), .val (.int nc), .val (.double ka), .second, .val (.double kb), .second, .val (.double kc), .second, .val (.int ct), .val (.ref b1), .unset, .unset, .unset, .unset, .unset, .unset] [])
        refine Go.step (fun _ k => XS.iload X12.here hx rfl (hb hby at_117) rfl k) ?_
        refine Go.step (fun _ k => XS.iconst X12.here hx rfl (hb hby at_119) k) ?_
        refine Go.step (fun _ k => XS.iushr X12.here hx rfl (hb hby at_120) rfl k) ?_
        show Go _ _ _ _ _ _ _ T12 (mkF m 121 #[.val (.int p0), .val (.int p1), .val (.int p2), .val (.int p3), .val (.int p4), .val (.int na), .val (.int nb), .val (.int nc), .val (.double ka), .second, .val (.double kb), .second, .val (.double kc), .second, .val (.int ct), .val (.ref b1), .unset, .unset, .unset, .unset, .unset, .unset] [(.int ((p4.toUInt32 >>> ((2 : Int32) &&& 31).toUInt32).toInt32))])
        refine Go.step (fun _ k => XS.iconst X12.here hx rfl (hb hby at_121) k) ?_
        refine Go.step (fun _ k => XS.iand X12.here hx rfl (hb hby at_122) rfl k) ?_
        show Go _ _ _ _ _ _ _ T12 (mkF m 123 #[.val (.int p0), .val (.int p1), .val (.int p2), .val (.int p3), .val (.int p4), .val (.int na), .val (.int nb), .val (.int nc), .val (.double ka), .second, .val (.double kb), .second, .val (.double kc), .second, .val (.int ct), .val (.ref b1), .unset, .unset, .unset, .unset, .unset, .unset] [(.int (((p4.toUInt32 >>> ((2 : Int32) &&& 31).toUInt32).toInt32) &&& (1 : Int32)))])
        by_cases hc123_13 : (((p4.toUInt32 >>> ((2 : Int32) &&& 31).toUInt32).toInt32) &&& (1 : Int32)) = (0 : Int32)
        · refine Go.step (fun _ k => XS.ifYes X12.here hx rfl (pc0 := 123) (pc' := 130) rfl (hb hby at_123) rfl ((if0 _ _).trans (teq hc123_13).1) (by decide) (by decide) k) ?_
          show Go _ _ _ _ _ _ _ T12 (mkF m 130 #[.val (.int p0), .val (.int p1), .val (.int p2), .val (.int p3), .val (.int p4), .val (.int na), .val (.int nb), .val (.int nc), .val (.double ka), .second, .val (.double kb), .second, .val (.double kc), .second, .val (.int ct), .val (.ref b1), .unset, .unset, .unset, .unset, .unset, .unset] [])
          refine Go.step (fun _ k => XS.iconst X12.here hx rfl (hb hby at_130) k) ?_
          refine Go.step (fun _ k => XS.istore X12.here hx rfl (hb hby at_131) rfl (l' := #[.val (.int p0), .val (.int p1), .val (.int p2), .val (.int p3), .val (.int p4), .val (.int na), .val (.int nb), .val (.int nc), .val (.double ka), .second, .val (.double kb), .second, .val (.double kc), .second, .val (.int ct), .val (.ref b1), .val (.int (0 : Int32)), .unset, .unset, .unset, .unset, .unset]) rfl k) ?_
          show Go _ _ _ _ _ _ _ T12 (mkF m 133 #[.val (.int p0), .val (.int p1), .val (.int p2), .val (.int p3), .val (.int p4), .val (.int na), .val (.int nb), .val (.int nc), .val (.double ka), .second, .val (.double kb), .second, .val (.double kc), .second, .val (.int ct), .val (.ref b1), .val (.int (0 : Int32)), .unset, .unset, .unset, .unset, .unset] [])
          refine Go.step (fun _ k => XS.iconst X12.here hx rfl (hb hby at_133) k) ?_
          refine Go.step (fun _ k => XS.istore X12.here hx rfl (hb hby at_134) rfl (l' := #[.val (.int p0), .val (.int p1), .val (.int p2), .val (.int p3), .val (.int p4), .val (.int na), .val (.int nb), .val (.int nc), .val (.double ka), .second, .val (.double kb), .second, .val (.double kc), .second, .val (.int ct), .val (.ref b1), .val (.int (0 : Int32)), .val (.int (-1 : Int32)), .unset, .unset, .unset, .unset]) rfl k) ?_
          show Go _ _ _ _ _ _ _ T12 (mkF m 136 #[.val (.int p0), .val (.int p1), .val (.int p2), .val (.int p3), .val (.int p4), .val (.int na), .val (.int nb), .val (.int nc), .val (.double ka), .second, .val (.double kb), .second, .val (.double kc), .second, .val (.int ct), .val (.ref b1), .val (.int (0 : Int32)), .val (.int (-1 : Int32)), .unset, .unset, .unset, .unset] [])
          refine Go.step (fun _ k => XS.iload X12.here hx rfl (hb hby at_136) rfl k) ?_
          refine Go.step (fun _ k => XS.ifYes X12.here hx rfl (pc0 := 138) (pc' := 148) rfl (hb hby at_138) rfl ((if0 _ _).trans (teq (by decide : (0 : Int32) = (0 : Int32))).1) (by decide) (by decide) k) ?_
          show Go _ _ _ _ _ _ _ T12 (mkF m 148 #[.val (.int p0), .val (.int p1), .val (.int p2), .val (.int p3), .val (.int p4), .val (.int na), .val (.int nb), .val (.int nc), .val (.double ka), .second, .val (.double kb), .second, .val (.double kc), .second, .val (.int ct), .val (.ref b1), .val (.int (0 : Int32)), .val (.int (-1 : Int32)), .unset, .unset, .unset, .unset] [])
          have H64 : QS Z T12.heap n0 b1 n12x 64 (fun y => (fun y => (fun y => (fun _ => False) y ∨ y = na) y ∨ y = nb) y ∨ y = nc) := by obtain ⟨a1, a2, a3, a4, a5, a6, a7, b1, b2, b3, b4, b5⟩ := H12x; exact ⟨a1, a2, a3, a4, a5, a6, a7, b1, b2, b3, by omega, b5⟩
          exact w0b p0 p1 p2 p3 p4 na nb nc ka kb kc ct b1 (0 : Int32) (-1 : Int32) n12x (fun y => (fun y => (fun y => (fun _ => False) y ∨ y = na) y ∨ y = nb) y ∨ y = nc) (own_up X12 (by decide) (by decide)) hx hZ hw hby hml hown hnm hret hlk rfl (Nat.le_trans ge_b1 (Nat.le_of_lt Eq12.lt)) N12 Eq12 ge_b1 H64 (by omega) (fun y => by simp [or_assoc, hc66_3, hc82_5, hc98_9]) hna.1 hnb.1 hnc.1
        · refine Go.step (fun _ k => XS.ifNo X12.here hx rfl (hb hby at_123) rfl ((if0 _ _).trans (feq hc123_13).1) k) ?_
          show Go _ _ _ _ _ _ _ T12 (mkF m 126 #[.val (.int p0), .val (.int p1), .val (.int p2), .val (.int p3), .val (.int p4), .val (.int na), .val (.int nb), .val (.int nc), .val (.double ka), .second, .val (.double kb), .second, .val (.double kc), .second, .val (.int ct), .val (.ref b1), .unset, .unset, .unset, .unset, .unset, .unset] [])
          refine Go.step (fun _ k => XS.iconst X12.here hx rfl (hb hby at_126) k) ?_
          refine Go.step (fun _ k => XS.goto X12.here hx rfl (pc0 := 127) (pc' := 131) rfl (hb hby at_127) (by decide) (by decide) k) ?_
          show Go _ _ _ _ _ _ _ T12 (mkF m 131 #[.val (.int p0), .val (.int p1), .val (.int p2), .val (.int p3), .val (.int p4), .val (.int na), .val (.int nb), .val (.int nc), .val (.double ka), .second, .val (.double kb), .second, .val (.double kc), .second, .val (.int ct), .val (.ref b1), .unset, .unset, .unset, .unset, .unset, .unset] [(.int (1 : Int32))])
          refine Go.step (fun _ k => XS.istore X12.here hx rfl (hb hby at_131) rfl (l' := #[.val (.int p0), .val (.int p1), .val (.int p2), .val (.int p3), .val (.int p4), .val (.int na), .val (.int nb), .val (.int nc), .val (.double ka), .second, .val (.double kb), .second, .val (.double kc), .second, .val (.int ct), .val (.ref b1), .val (.int (1 : Int32)), .unset, .unset, .unset, .unset, .unset]) rfl k) ?_
          show Go _ _ _ _ _ _ _ T12 (mkF m 133 #[.val (.int p0), .val (.int p1), .val (.int p2), .val (.int p3), .val (.int p4), .val (.int na), .val (.int nb), .val (.int nc), .val (.double ka), .second, .val (.double kb), .second, .val (.double kc), .second, .val (.int ct), .val (.ref b1), .val (.int (1 : Int32)), .unset, .unset, .unset, .unset, .unset] [])
          refine Go.step (fun _ k => XS.iconst X12.here hx rfl (hb hby at_133) k) ?_
          refine Go.step (fun _ k => XS.istore X12.here hx rfl (hb hby at_134) rfl (l' := #[.val (.int p0), .val (.int p1), .val (.int p2), .val (.int p3), .val (.int p4), .val (.int na), .val (.int nb), .val (.int nc), .val (.double ka), .second, .val (.double kb), .second, .val (.double kc), .second, .val (.int ct), .val (.ref b1), .val (.int (1 : Int32)), .val (.int (-1 : Int32)), .unset, .unset, .unset, .unset]) rfl k) ?_
          show Go _ _ _ _ _ _ _ T12 (mkF m 136 #[.val (.int p0), .val (.int p1), .val (.int p2), .val (.int p3), .val (.int p4), .val (.int na), .val (.int nb), .val (.int nc), .val (.double ka), .second, .val (.double kb), .second, .val (.double kc), .second, .val (.int ct), .val (.ref b1), .val (.int (1 : Int32)), .val (.int (-1 : Int32)), .unset, .unset, .unset, .unset] [])
          refine Go.step (fun _ k => XS.iload X12.here hx rfl (hb hby at_136) rfl k) ?_
          refine Go.step (fun _ k => XS.ifNo X12.here hx rfl (hb hby at_138) rfl ((if0 _ _).trans (feq (by decide : ¬ ((1 : Int32) = (0 : Int32)))).1) k) ?_
          show Go _ _ _ _ _ _ _ T12 (mkF m 141 #[.val (.int p0), .val (.int p1), .val (.int p2), .val (.int p3), .val (.int p4), .val (.int na), .val (.int nb), .val (.int nc), .val (.double ka), .second, .val (.double kb), .second, .val (.double kc), .second, .val (.int ct), .val (.ref b1), .val (.int (1 : Int32)), .val (.int (-1 : Int32)), .unset, .unset, .unset, .unset] [])
          refine Go.step (fun _ k => XS.aload X12.here hx rfl (hb hby at_141) rfl rfl k) ?_
          refine Go.callV X12 hx hZ (by rw [hml]; rfl) (y := (⟨"com/example/tributary/tributary/NodeQueue", "poll", "()I"⟩ : MethodName)) (z := (⟨"com/example/tributary/tributary/NodeQueue", "poll", "()I"⟩ : MethodName)) (a := b1) (argsL := []) (rest := []) hown (hw _ (mI 61 rfl)) (hw _ (mI 62 rfl)) (notFace_of_selects (args := #[]) (mvT hZ (hw _ (mI 64 rfl)))) (hw _ (mI 64 rfl)) (hw _ (mI 63 rfl)) (hw _ (mI 2 rfl)) (hw _ (mI 65 rfl)) (by decide) (rmPoll l Z a0 hw b1 n12x 64 (fun y => (fun y => (fun y => (fun _ => False) y ∨ y = na) y ∨ y = nb) y ∨ y = nc) T12.heap n0 (Nat.le_trans ge_b1 (Nat.le_of_lt Eq12.lt)) H12x (by omega) (by omega)) rfl Eq12 (hb hby at_143) (lenOf pd_10 rfl) rfl rfl (W := 0) (Nat.le_of_eq rfl) (by decide) (by decide) (by decide) (by decide) ?_
          intro v14 T14 L14 X14 Q14
          obtain ⟨pv14, rfl, N14q, Eq14, n14x, hn14, H14x⟩ := Q14
          have N14 := Fr.app N12 N14q
          show Go _ _ _ _ _ _ _ T14 (mkF m 146 #[.val (.int p0), .val (.int p1), .val (.int p2), .val (.int p3), .val (.int p4), .val (.int na), .val (.int nb), .val (.int nc), .val (.double ka), .second, .val (.double kb), .second, .val (.double kc), .second, .val (.int ct), .val (.ref b1), .val (.int (1 : Int32)), .val (.int (-1 : Int32)), .unset, .unset, .unset, .unset] [(.int pv14)])
          refine Go.step (fun _ k => XS.istore X14.here hx rfl (hb hby at_146) rfl (l' := #[.val (.int p0), .val (.int p1), .val (.int p2), .val (.int p3), .val (.int p4), .val (.int na), .val (.int nb), .val (.int nc), .val (.double ka), .second, .val (.double kb), .second, .val (.double kc), .second, .val (.int ct), .val (.ref b1), .val (.int (1 : Int32)), .val (.int pv14), .unset, .unset, .unset, .unset]) rfl k) ?_
          show Go _ _ _ _ _ _ _ T14 (mkF m 148 #[.val (.int p0), .val (.int p1), .val (.int p2), .val (.int p3), .val (.int p4), .val (.int na), .val (.int nb), .val (.int nc), .val (.double ka), .second, .val (.double kb), .second, .val (.double kc), .second, .val (.int ct), .val (.ref b1), .val (.int (1 : Int32)), .val (.int pv14), .unset, .unset, .unset, .unset] [])
          have H64 : QS Z T14.heap n0 b1 n14x 64 (fun y => (fun y => (fun y => (fun y => (fun _ => False) y ∨ y = na) y ∨ y = nb) y ∨ y = nc) y ∧ y ≠ pv14) := by obtain ⟨a1, a2, a3, a4, a5, a6, a7, b1, b2, b3, b4, b5⟩ := H14x; exact ⟨a1, a2, a3, a4, a5, a6, a7, b1, b2, b3, by omega, b5⟩
          exact w0b p0 p1 p2 p3 p4 na nb nc ka kb kc ct b1 (1 : Int32) pv14 n14x (fun y => (fun y => (fun y => (fun y => (fun _ => False) y ∨ y = na) y ∨ y = nb) y ∨ y = nc) y ∧ y ≠ pv14) (own_up X14 (by decide) (by decide)) hx hZ hw hby hml hown hnm hret hlk rfl (Nat.le_trans ge_b1 (Nat.le_of_lt Eq14.lt)) N14 Eq14 ge_b1 H64 (by omega) (fun y => by simp [or_assoc, hc66_3, hc82_5, hc98_9]) hna.1 hnb.1 hnc.1
theorem pn_0 : plainName "com/example/tributary/tributary/NodeQueueContainsPinLaw" = true := by first | (simp [plainName, overriddenIn]; done) | decide +kernel
theorem ef_rm0 (m : MethodId) (p0 : Int32) (p1 : Int32) (p2 : Int32) (p3 : Int32) (p4 : Int32) : entryFrame m #[(.int p0), (.int p1), (.int p2), (.int p3), (.int p4)] maxLocals = mkF m 0 #[.val (.int p0), .val (.int p1), .val (.int p2), .val (.int p3), .val (.int p4), .unset, .unset, .unset, .unset, .unset, .unset, .unset, .unset, .unset, .unset, .unset, .unset, .unset, .unset, .unset, .unset, .unset] [] := by first | (simp [entryFrame, mkF, argsToLocals, Value.category, maxLocals]; done) | rfl
theorem rm0 (l : Launch) (Z : State) (a0 : Array Value) (hw : ∀ d ∈ tables_1, d.before a0 Z = true) (ws : List Jvm.Cond) (p0 p1 p2 p3 p4 : Int32) (h0 : Heap) (n0 : Nat) (Z0 : n0 ≤ h0.size)  :
    MetFree l x (head1 (Jvm.Cond.code x code maxLocals ret :: ws) room_1) (fun a U => a = #[(.int p0), (.int p1), (.int p2), (.int p3), (.int p4)] ∧ Z.Warmed39 U.vm ∧ U.heap = h0) (fun _ _ _ _ _ => True) (fun _ U o U' => ∃ v L, o = .returned v ∧ (fun r h L => r = some (.int 1) ∧ Fr n0 L) v U'.heap L ∧ FrameEnd U o U' L room_1.cells room_1.slots) :=
  con_of (plainFor_of_name pn_0) (fun p_ e_ s_ m_ b_ meth_ c_ T_ X_ hx hZ hby hml hown hnm hret hlk e0 => Go.cast (ef_rm0 m_ p0 p1 p2 p3 p4) (w0 p0 p1 p2 p3 p4 X_ hx hZ hw hby hml hown hnm hret hlk e0 Z0 (Fr.nil n0) ))
set_option maxRecDepth 65536 in
set_option maxHeartbeats 40000000 in
theorem comes_1 {Post : Tables → Env → Array Value → State → Outcome → State → Prop} (hpost : ∀ tb e args s v u, (limb_1_1.after args s (.returned v) u = true ∧ limb_1_2.after args s (.returned v) u = true ∧ True) → FrameEnd s (.returned v) u (Jvm.fieldLocs frame_1_writes args s ++ Jvm.arrayLocs frame_1_arrays args s ++ Jvm.staticLocs frame_1_statics s) 32 512 → Post tb e args s (.returned v) u) :
    ArmFor flags0 classFile x code maxLocals ret World_1 tables_1 room_1 Calls_1 rest_1 Pre_1 Post := by
  intro l hfl _ _ p e ha hc hk s m args below hf hA hF happ hP
  obtain ⟨hcalls, hrest, hpre⟩ := hP
  obtain ⟨-, -, -, hnamed, -, -, -, hat⟩ := (Spec.applies_iff hf).mp happ
  obtain ⟨hg, hn⟩ := and_e (Cond.before_iff.mp (show (Jvm.Cond.and given_1 narrow_1).before args s = true from hpre))
  obtain ⟨g1, g2⟩ := and_e hg
  obtain ⟨g3, g4⟩ := and_e g2
  obtain ⟨g5, g6⟩ := and_e g4
  obtain ⟨g7, g8⟩ := and_e g6
  obtain ⟨g9, g10⟩ := and_e g8
  obtain ⟨w0, w1, w2, w3, w4, rfl⟩ : ∃ w0 w1 w2 w3 w4 : Value, args = #[w0, w1, w2, w3, w4] := by
    have hs : args.size = 5 := by simpa [Cond.value, given_1] using g1
    obtain ⟨L⟩ := args
    match L, hs with
    | [w0, w1, w2, w3, w4], _ => exact ⟨w0, w1, w2, w3, w4, rfl⟩
  have hw := fun d (hd : d ∈ tables_1) => atoms_spec (ws := Jvm.Cond.code x code maxLocals ret :: tables_1) hat d (List.mem_cons_of_mem _ hd)
  have hfit : Fit s := fun {y c} hc i hi => by
    obtain ⟨ha, rfl⟩ := Array.getElem?_eq_some_iff.mp hc
    have q := List.all_eq_true.mp ((Array.all_eq_true_iff_forall_mem.mp hF) _ (Array.getElem_mem ha)) i (List.mem_range.mpr hi)
    simpa [Array.getElem?_eq_getElem hi] using q
  obtain ⟨i0, ei0⟩ := is_v g3
  obtain rfl : w0 = (.int i0) := Option.some.inj ei0
  obtain ⟨i1, ei1⟩ := is_v g5
  obtain rfl : w1 = (.int i1) := Option.some.inj ei1
  obtain ⟨i2, ei2⟩ := is_v g7
  obtain rfl : w2 = (.int i2) := Option.some.inj ei2
  obtain ⟨i3, ei3⟩ := is_v g9
  obtain rfl : w3 = (.int i3) := Option.some.inj ei3
  obtain ⟨i4, ei4⟩ := is_v g10
  obtain rfl : w4 = (.int i4) := Option.some.inj ei4
  obtain ⟨n, o, h1, h2, h3, _, L, rfl, ⟨rfl, N⟩, hq⟩ := rm0 l s _ hw tables_1 i0 i1 i2 i3 i4 s.heap s.heap.size (Nat.le_refl _)  p e ha hc hk s m _ below hf ((Spec.applies_iff_loose hf).mp happ).1 ⟨rfl, State.Warmed39.refl s, rfl⟩ trivial
  refine ⟨n, _, h1, h2, h3, hpost _ _ _ _ _ _ ⟨Cond.after_iff.mpr rfl, Cond.after_iff.mpr (eq_i res_at (Term.int_eval (1)) rfl), trivial⟩ ⟨hq.1, hq.2.1, (hq.2.2.sift fun y hy => Or.inr (N y hy)).mono (by decide) (by decide)⟩⟩
theorem main_1_1 : Claimed_1_1 := comes_1 fun _ _ _ _ _ _ h hF => ⟨h.1, hF⟩
theorem main_1_2 : Claimed_1_2 := comes_1 fun _ _ _ _ _ _ h hF => ⟨h.2.1, hF⟩
end Jvm.Pilot.@@N@@
namespace Jvm.Pilot.@@N@@
open Jvm Jvm.ClassFile Sem Op Lib Jvm.Free Jvm.Stand Jvm.Pilot.@@N@@.Jvm.D
/-! MADE BY PROGRAM (witnessworld.py) out of the Statement's table words and the real class files: 14 classes; the members and pool entries that the words name. The judged class is class 1, her method 1. -/
namespace start1
open Jvm.ClassFile
def u (s : String) : CpInfo := .utf8 (stringToUtf16 s)
/-- a pool by its gaps: so many unusable entries, then the entry; so many at the end -/
def gap : Nat → List CpInfo → List CpInfo
  | 0, r => r
  | n + 1, r => .unusable :: gap n r
def poolList (es : List (Nat × CpInfo)) (last : Nat) : List CpInfo := es.foldr (fun e r => gap e.1 (e.2 :: r)) (gap last [])
def pool (es : List (Nat × CpInfo)) (last : Nat) : Array CpInfo := ⟨poolList es last⟩
def fileOf (pool : Array CpInfo) (this : Nat) (attrs : Array Attribute := #[]) (ms : Array MethodInfo := #[]) (fl : Nat := 33) (sup : Nat := 0) (ifs : Array Nat := #[]) (fds : Array FieldInfo := #[]) : ClassFile where
  minorVersion := 0
  majorVersion := 65
  constantPool := pool
  accessFlags := fl
  thisClass := this
  superClass := sup
  interfaces := ifs
  fields := fds
  methods := ms
  attributes := attrs
def plain (name : String) (sup : Option ClassId) : Class where
  name := name
  kind := .ordinary
  loader := none
  accessFlags := 33
  super := sup
  interfaces := #[]
  cf := none
  fields := #[]
  methods := #[]
  instanceTypes := #[]
  staticTypes := #[]
  resolved := #[]
  callSites := []
  init := .initialized
  statics := none
  mirror := none

def pool0 : Array CpInfo := pool [(5, u "<init>"), (0, u "()V"), (1, .class_ 10), (1, u "java/lang/Object")] 113

def k0c0 : Code := { maxStack := 0, maxLocals := 1, code := object_method_1_code, exceptionTable := #[], attributes := #[] }
def k0m0 : Method := { name := "<init>", desc := "()V", sig := { parameters := [], returnType := none }, accessFlags := 1, code := some k0c0 }
/-- java/lang/Object -/
def k0 : Class := { plain "java/lang/Object" none with
  accessFlags := 33
  interfaces := #[]
  cf := some (fileOf pool0 8 #[] #[{ accessFlags := 1, nameIndex := 5, descriptorIndex := 6, attributes := #[] }] 33 0 #[] #[])
  fields := #[]
  methods := #[k0m0]
  instanceTypes := #[]
  staticTypes := #[]
  resolved := Array.replicate 124 none
  statics := none }

def pool1 : Array CpInfo := pool [(2, .class_ 4), (0, .nameAndType 5 6), (0, u "java/lang/Object"), (0, u "<init>"), (0, u "()V"), (0, .class_ 8), (0, u "com/example/tributary/tributary/NodeQueue"), (0, .methodref 7 3), (0, .methodref 7 11), (0, .nameAndType 12 13), (0, u "offer"), (0, u "(ID)Z"), (0, .methodref 7 15), (0, .nameAndType 16 17), (0, u "poll"), (0, u "()I"), (0, .integer 2147483647), (0, .methodref 7 20), (0, .nameAndType 21 22), (0, u "contains"), (0, u "(I)Z"), (0, .class_ 24), (0, u "com/example/tributary/tributary/NodeQueueContainsPinLaw"), (2, u "law"), (0, u "(IIIII)Z")] 3

def k1m0 : Method := { name := "<init>", desc := "()V", sig := { parameters := [], returnType := none }, accessFlags := 1, code := none }
def k1c1 : Code := { maxStack := 4, maxLocals := 22, code := code, exceptionTable := #[], attributes := #[] }
def k1m1 : Method := { name := "law", desc := "(IIIII)Z", sig := { parameters := [.int, .int, .int, .int, .int], returnType := some .boolean }, accessFlags := 9, code := some k1c1 }
/-- com/example/tributary/tributary/NodeQueueContainsPinLaw -/
def k1 : Class := { plain "com/example/tributary/tributary/NodeQueueContainsPinLaw" (some 0) with
  accessFlags := 49
  interfaces := #[]
  cf := some (fileOf pool1 23 #[] #[{ accessFlags := 1, nameIndex := 5, descriptorIndex := 6, attributes := #[] }, { accessFlags := 9, nameIndex := 27, descriptorIndex := 28, attributes := #[] }] 49 2 #[] #[])
  fields := #[]
  methods := #[k1m0, k1m1]
  instanceTypes := #[]
  staticTypes := #[]
  resolved := Array.replicate 32 none
  statics := none }

def pool2 : Array CpInfo := pool [(1, .methodref 2 3), (0, .class_ 4), (0, .nameAndType 5 6), (0, u "java/lang/Object"), (0, u "<init>"), (0, u "()V"), (0, .fieldref 8 9), (0, .class_ 10), (0, .nameAndType 11 12), (0, u "com/example/tributary/tributary/NodeQueue"), (0, u "heap"), (0, u "[I"), (0, .fieldref 8 14), (0, .nameAndType 15 12), (0, u "positions"), (0, .fieldref 8 17), (0, .nameAndType 18 19), (0, u "keys"), (0, u "[D"), (0, .fieldref 8 21), (0, .nameAndType 22 23), (0, u "size"), (0, u "I"), (0, .methodref 25 26), (0, .class_ 27), (0, .nameAndType 28 29), (0, u "java/lang/Math"), (0, u "max"), (0, u "(II)I"), (0, .methodref 31 32), (0, .class_ 33), (0, .nameAndType 34 35), (0, u "java/util/Arrays"), (0, u "copyOf"), (0, u "([II)[I"), (0, .methodref 31 37), (0, .nameAndType 38 39), (0, u "fill"), (0, u "([IIII)V"), (0, .methodref 31 41), (0, .nameAndType 34 42), (0, u "([DI)[D"), (0, .methodref 8 44), (0, .nameAndType 45 46), (0, u "siftUp"), (0, u "(I)V"), (0, .methodref 8 48), (0, .nameAndType 49 6), (0, u "requireNotEmpty"), (0, .methodref 8 51), (0, .nameAndType 52 53), (0, u "place"), (0, u "(II)V"), (0, .methodref 8 55), (0, .nameAndType 56 46), (0, u "siftDown"), (7, u "NOT_QUEUED"), (7, u "contains"), (0, u "(I)Z"), (2, u "offer"), (0, u "(ID)Z"), (2, u "poll"), (0, u "()I")] 2

def k2c0 : Code := { maxStack := 2, maxLocals := 1, code := prog_40_method_1_code, exceptionTable := #[], attributes := #[] }
def k2m0 : Method := { name := "<init>", desc := "()V", sig := { parameters := [], returnType := none }, accessFlags := 0, code := some k2c0 }
def k2c1 : Code := { maxStack := 2, maxLocals := 2, code := prog_40_method_3_code, exceptionTable := #[], attributes := #[] }
def k2m1 : Method := { name := "contains", desc := "(I)Z", sig := { parameters := [.int], returnType := some .boolean }, accessFlags := 0, code := some k2c1 }
def k2c2 : Code := { maxStack := 4, maxLocals := 6, code := prog_40_method_5_code, exceptionTable := #[], attributes := #[] }
def k2m2 : Method := { name := "offer", desc := "(ID)Z", sig := { parameters := [.int, .double], returnType := some .boolean }, accessFlags := 0, code := some k2c2 }
def k2c3 : Code := { maxStack := 3, maxLocals := 2, code := prog_40_method_7_code, exceptionTable := #[], attributes := #[] }
def k2m3 : Method := { name := "poll", desc := "()I", sig := { parameters := [], returnType := some .int }, accessFlags := 0, code := some k2c3 }
def k2c4 : Code := { maxStack := 3, maxLocals := 1, code := prog_40_method_8_code, exceptionTable := #[], attributes := #[] }
def k2m4 : Method := { name := "requireNotEmpty", desc := "()V", sig := { parameters := [], returnType := none }, accessFlags := 2, code := some k2c4 }
def k2c5 : Code := { maxStack := 4, maxLocals := 4, code := prog_40_method_9_code, exceptionTable := #[], attributes := #[] }
def k2m5 : Method := { name := "siftUp", desc := "(I)V", sig := { parameters := [.int], returnType := none }, accessFlags := 2, code := some k2c5 }
def k2c6 : Code := { maxStack := 5, maxLocals := 4, code := prog_40_method_10_code, exceptionTable := #[], attributes := #[] }
def k2m6 : Method := { name := "siftDown", desc := "(I)V", sig := { parameters := [.int], returnType := none }, accessFlags := 2, code := some k2c6 }
def k2c7 : Code := { maxStack := 3, maxLocals := 3, code := prog_40_method_11_code, exceptionTable := #[], attributes := #[] }
def k2m7 : Method := { name := "place", desc := "(II)V", sig := { parameters := [.int, .int], returnType := none }, accessFlags := 2, code := some k2c7 }
/-- com/example/tributary/tributary/NodeQueue -/
def k2 : Class := { plain "com/example/tributary/tributary/NodeQueue" (some 0) with
  accessFlags := 48
  interfaces := #[]
  cf := some (fileOf pool2 8 #[] #[{ accessFlags := 0, nameIndex := 5, descriptorIndex := 6, attributes := #[] }, { accessFlags := 0, nameIndex := 72, descriptorIndex := 73, attributes := #[] }, { accessFlags := 0, nameIndex := 76, descriptorIndex := 77, attributes := #[] }, { accessFlags := 0, nameIndex := 80, descriptorIndex := 81, attributes := #[] }, { accessFlags := 2, nameIndex := 49, descriptorIndex := 6, attributes := #[] }, { accessFlags := 2, nameIndex := 45, descriptorIndex := 46, attributes := #[] }, { accessFlags := 2, nameIndex := 56, descriptorIndex := 46, attributes := #[] }, { accessFlags := 2, nameIndex := 52, descriptorIndex := 53, attributes := #[] }] 48 2 #[] #[{ accessFlags := 26, nameIndex := 64, descriptorIndex := 23, attributes := #[] }, { accessFlags := 2, nameIndex := 11, descriptorIndex := 12, attributes := #[] }, { accessFlags := 2, nameIndex := 22, descriptorIndex := 23, attributes := #[] }, { accessFlags := 2, nameIndex := 15, descriptorIndex := 12, attributes := #[] }, { accessFlags := 2, nameIndex := 18, descriptorIndex := 19, attributes := #[] }])
  fields := #[{ name := "NOT_QUEUED", type := .int, accessFlags := 26, slot := 0, constantValue := 0 }, { name := "heap", type := (.array .int), accessFlags := 2, slot := 0, constantValue := 0 }, { name := "size", type := .int, accessFlags := 2, slot := 1, constantValue := 0 }, { name := "positions", type := (.array .int), accessFlags := 2, slot := 2, constantValue := 0 }, { name := "keys", type := (.array .double), accessFlags := 2, slot := 3, constantValue := 0 }]
  methods := #[k2m0, k2m1, k2m2, k2m3, k2m4, k2m5, k2m6, k2m7]
  instanceTypes := #[(.array .int), .int, (.array .int), (.array .double)]
  staticTypes := #[.int]
  resolved := Array.replicate 84 none
  statics := none }

def pool3 : Array CpInfo := pool [(1, .class_ 2), (0, u "java/lang/Math"), (1, .class_ 6), (1, u "java/lang/Object"), (0, u "<init>"), (0, u "()V"), (89, .class_ 100), (1, u "java/lang/Math$RandomNumberGeneratorHolder"), (71, u "negativeZeroFloatBits"), (0, u "J"), (2, u "negativeZeroDoubleBits"), (21, u "max"), (2, u "min"), (43, u "$assertionsDisabled"), (0, u "Z"), (88, u "(II)I"), (2, u "twoToTheDoubleScaleDown"), (0, u "D"), (4, u "twoToTheDoubleScaleUp"), (9, u "E"), (3, u "PI"), (2, u "TAU"), (2, u "DEGREES_TO_RADIANS"), (0, u "RADIANS_TO_DEGREES")] 94

def k3m0 : Method := { name := "<init>", desc := "()V", sig := { parameters := [], returnType := none }, accessFlags := 2, code := none }
def k3c1 : Code := { maxStack := 2, maxLocals := 2, code := jdk_29_method_65_code, exceptionTable := #[], attributes := #[] }
def k3m1 : Method := { name := "max", desc := "(II)I", sig := { parameters := [.int, .int], returnType := some .int }, accessFlags := 9, code := some k3c1 }
def k3c2 : Code := { maxStack := 2, maxLocals := 2, code := jdk_29_method_69_code, exceptionTable := #[], attributes := #[] }
def k3m2 : Method := { name := "min", desc := "(II)I", sig := { parameters := [.int, .int], returnType := some .int }, accessFlags := 9, code := some k3c2 }
/-- java/lang/Math -/
def k3 : Class := { plain "java/lang/Math" (some 0) with
  accessFlags := 49
  interfaces := #[]
  cf := some (fileOf pool3 1 #[.nestMembers #[98]] #[{ accessFlags := 2, nameIndex := 7, descriptorIndex := 8, attributes := #[] }, { accessFlags := 9, nameIndex := 198, descriptorIndex := 335, attributes := #[] }, { accessFlags := 9, nameIndex := 201, descriptorIndex := 335, attributes := #[] }] 49 4 #[] #[{ accessFlags := 25, nameIndex := 354, descriptorIndex := 339, attributes := #[] }, { accessFlags := 25, nameIndex := 358, descriptorIndex := 339, attributes := #[] }, { accessFlags := 25, nameIndex := 361, descriptorIndex := 339, attributes := #[] }, { accessFlags := 26, nameIndex := 364, descriptorIndex := 339, attributes := #[] }, { accessFlags := 26, nameIndex := 365, descriptorIndex := 339, attributes := #[] }, { accessFlags := 26, nameIndex := 172, descriptorIndex := 173, attributes := #[] }, { accessFlags := 26, nameIndex := 176, descriptorIndex := 173, attributes := #[] }, { accessFlags := 8, nameIndex := 344, descriptorIndex := 339, attributes := #[] }, { accessFlags := 8, nameIndex := 338, descriptorIndex := 339, attributes := #[] }, { accessFlags := 4120, nameIndex := 245, descriptorIndex := 246, attributes := #[] }])
  fields := #[{ name := "E", type := .double, accessFlags := 25, slot := 0, constantValue := 0 }, { name := "PI", type := .double, accessFlags := 25, slot := 1, constantValue := 0 }, { name := "TAU", type := .double, accessFlags := 25, slot := 2, constantValue := 0 }, { name := "DEGREES_TO_RADIANS", type := .double, accessFlags := 26, slot := 3, constantValue := 0 }, { name := "RADIANS_TO_DEGREES", type := .double, accessFlags := 26, slot := 4, constantValue := 0 }, { name := "negativeZeroFloatBits", type := .long, accessFlags := 26, slot := 5, constantValue := 0 }, { name := "negativeZeroDoubleBits", type := .long, accessFlags := 26, slot := 6, constantValue := 0 }, { name := "twoToTheDoubleScaleUp", type := .double, accessFlags := 8, slot := 7, constantValue := 0 }, { name := "twoToTheDoubleScaleDown", type := .double, accessFlags := 8, slot := 8, constantValue := 0 }, { name := "$assertionsDisabled", type := .boolean, accessFlags := 4120, slot := 9, constantValue := 0 }]
  methods := #[k3m0, k3m1, k3m2]
  instanceTypes := #[]
  staticTypes := #[.double, .double, .double, .double, .double, .long, .long, .double, .double, .boolean]
  resolved := Array.replicate 460 none
  statics := none }

def pool4 : Array CpInfo := pool [(2, .class_ 4), (1, u "java/lang/Object"), (0, u "<init>"), (0, u "()V"), (5, u "([IIII)V"), (0, .methodref 14 15), (0, .class_ 16), (0, .nameAndType 17 18), (0, u "java/util/Arrays"), (0, u "rangeCheck"), (0, u "(III)V"), (55, .class_ 76), (1, u "java/util/Arrays$NaturalOrder"), (36, .class_ 115), (1, u "java/util/Arrays$LegacyMergeSort"), (1, u "Z"), (32, .methodref 151 152), (0, .class_ 153), (0, .nameAndType 154 155), (0, u "java/lang/System"), (0, u "arraycopy"), (0, u "(Ljava/lang/Object;ILjava/lang/Object;II)V"), (146, u "copyOf"), (1, .methodref 305 306), (0, .class_ 307), (0, .nameAndType 308 309), (0, u "java/lang/Math"), (0, u "min"), (0, u "(II)I"), (65, .class_ 376), (0, u "java/util/Arrays$ArrayList"), (68, u "$assertionsDisabled"), (269, u "MIN_ARRAY_SORT_GRAN"), (0, u "I"), (2, u "INSERTIONSORT_THRESHOLD"), (120, u "fill"), (30, u "([II)[I"), (3, u "([DI)[D"), (99, .class_ 976), (0, u "java/util/Arrays$ArrayItr")] 52

def k4m0 : Method := { name := "<init>", desc := "()V", sig := { parameters := [], returnType := none }, accessFlags := 2, code := none }
def k4c1 : Code := { maxStack := 4, maxLocals := 3, code := jdk_65_method_30_code, exceptionTable := #[], attributes := #[] }
def k4m1 : Method := { name := "rangeCheck", desc := "(III)V", sig := { parameters := [.int, .int, .int], returnType := none }, accessFlags := 8, code := some k4c1 }
def k4c2 : Code := { maxStack := 3, maxLocals := 5, code := jdk_65_method_104_code, exceptionTable := #[], attributes := #[] }
def k4m2 : Method := { name := "fill", desc := "([IIII)V", sig := { parameters := [(.array .int), .int, .int, .int], returnType := none }, accessFlags := 9, code := some k4c2 }
def k4c3 : Code := { maxStack := 6, maxLocals := 3, code := jdk_65_method_123_code, exceptionTable := #[], attributes := #[] }
def k4m3 : Method := { name := "copyOf", desc := "([II)[I", sig := { parameters := [(.array .int), .int], returnType := some (.array .int) }, accessFlags := 9, code := some k4c3 }
def k4c4 : Code := { maxStack := 6, maxLocals := 3, code := jdk_65_method_127_code, exceptionTable := #[], attributes := #[] }
def k4m4 : Method := { name := "copyOf", desc := "([DI)[D", sig := { parameters := [(.array .double), .int], returnType := some (.array .double) }, accessFlags := 9, code := some k4c4 }
/-- java/util/Arrays -/
def k4 : Class := { plain "java/util/Arrays" (some 0) with
  accessFlags := 49
  interfaces := #[]
  cf := some (fileOf pool4 14 #[.nestMembers #[975, 375, 113, 74]] #[{ accessFlags := 2, nameIndex := 5, descriptorIndex := 6, attributes := #[] }, { accessFlags := 8, nameIndex := 17, descriptorIndex := 18, attributes := #[] }, { accessFlags := 9, nameIndex := 840, descriptorIndex := 12, attributes := #[] }, { accessFlags := 9, nameIndex := 302, descriptorIndex := 871, attributes := #[] }, { accessFlags := 9, nameIndex := 302, descriptorIndex := 875, attributes := #[] }] 49 2 #[] #[{ accessFlags := 26, nameIndex := 715, descriptorIndex := 716, attributes := #[] }, { accessFlags := 26, nameIndex := 719, descriptorIndex := 716, attributes := #[] }, { accessFlags := 4120, nameIndex := 445, descriptorIndex := 117, attributes := #[] }])
  fields := #[{ name := "MIN_ARRAY_SORT_GRAN", type := .int, accessFlags := 26, slot := 0, constantValue := 0 }, { name := "INSERTIONSORT_THRESHOLD", type := .int, accessFlags := 26, slot := 1, constantValue := 0 }, { name := "$assertionsDisabled", type := .boolean, accessFlags := 4120, slot := 2, constantValue := 0 }]
  methods := #[k4m0, k4m1, k4m2, k4m3, k4m4]
  instanceTypes := #[]
  staticTypes := #[.int, .int, .boolean]
  resolved := Array.replicate 1029 none
  statics := none }

def pool5 : Array CpInfo := pool [(2, .class_ 4), (1, u "java/lang/Object"), (0, u "<init>"), (0, u "()V"), (1, .class_ 10), (1, u "java/lang/System"), (0, u "allowSecurityManager"), (0, u "I"), (16, u "cons"), (0, u "Ljava/io/Console;"), (77, .class_ 110), (1, u "java/lang/System$CallersHolder"), (43, u "initialErrStream"), (0, u "Ljava/io/PrintStream;"), (19, u "security"), (0, u "Ljava/lang/SecurityManager;"), (31, .class_ 209), (0, u "java/lang/System$1"), (7, u "props"), (0, u "Ljava/util/Properties;"), (2, u "lineSeparator"), (0, u "Ljava/lang/String;"), (96, .class_ 321), (1, u "java/lang/System$LoggerFinder"), (5, .class_ 328), (0, u "java/lang/System$Logger"), (67, u "err"), (2, u "out"), (91, u "notSupportedJnuEncoding"), (15, u "in"), (17, u "initialIn"), (0, u "Ljava/io/InputStream;"), (35, u "bootLayer"), (0, u "Ljava/lang/ModuleLayer;"), (99, .class_ 664), (0, u "java/lang/System$2"), (9, u "NEVER"), (2, u "MAYBE"), (49, u "arraycopy"), (0, u "(Ljava/lang/Object;ILjava/lang/Object;II)V"), (72, .class_ 802), (0, u "java/lang/System$Logger$Level")] 31

def k5m0 : Method := { name := "<init>", desc := "()V", sig := { parameters := [], returnType := none }, accessFlags := 2, code := none }
def k5m1 : Method := { name := "arraycopy", desc := "(Ljava/lang/Object;ILjava/lang/Object;II)V", sig := { parameters := [(.object "java/lang/Object"), .int, (.object "java/lang/Object"), .int, .int], returnType := none }, accessFlags := 265, code := none }
/-- java/lang/System -/
def k5 : Class := { plain "java/lang/System" (some 0) with
  accessFlags := 49
  interfaces := #[]
  cf := some (fileOf pool5 8 #[.nestMembers #[319, 327, 801, 108, 663, 208]] #[{ accessFlags := 2, nameIndex := 5, descriptorIndex := 6, attributes := #[] }, { accessFlags := 265, nameIndex := 727, descriptorIndex := 728, attributes := #[] }] 49 2 #[] #[{ accessFlags := 25, nameIndex := 507, descriptorIndex := 526, attributes := #[] }, { accessFlags := 25, nameIndex := 399, descriptorIndex := 155, attributes := #[] }, { accessFlags := 25, nameIndex := 396, descriptorIndex := 155, attributes := #[] }, { accessFlags := 10, nameIndex := 525, descriptorIndex := 526, attributes := #[] }, { accessFlags := 26, nameIndex := 674, descriptorIndex := 12, attributes := #[] }, { accessFlags := 26, nameIndex := 677, descriptorIndex := 12, attributes := #[] }, { accessFlags := 10, nameIndex := 11, descriptorIndex := 12, attributes := #[] }, { accessFlags := 74, nameIndex := 175, descriptorIndex := 176, attributes := #[] }, { accessFlags := 10, nameIndex := 491, descriptorIndex := 222, attributes := #[] }, { accessFlags := 74, nameIndex := 29, descriptorIndex := 30, attributes := #[] }, { accessFlags := 74, nameIndex := 154, descriptorIndex := 155, attributes := #[] }, { accessFlags := 10, nameIndex := 217, descriptorIndex := 218, attributes := #[] }, { accessFlags := 10, nameIndex := 221, descriptorIndex := 222, attributes := #[] }, { accessFlags := 8, nameIndex := 562, descriptorIndex := 563, attributes := #[] }])
  fields := #[{ name := "in", type := (.object "java/io/InputStream"), accessFlags := 25, slot := 0, constantValue := 0 }, { name := "out", type := (.object "java/io/PrintStream"), accessFlags := 25, slot := 1, constantValue := 0 }, { name := "err", type := (.object "java/io/PrintStream"), accessFlags := 25, slot := 2, constantValue := 0 }, { name := "initialIn", type := (.object "java/io/InputStream"), accessFlags := 10, slot := 3, constantValue := 0 }, { name := "NEVER", type := .int, accessFlags := 26, slot := 4, constantValue := 0 }, { name := "MAYBE", type := .int, accessFlags := 26, slot := 5, constantValue := 0 }, { name := "allowSecurityManager", type := .int, accessFlags := 10, slot := 6, constantValue := 0 }, { name := "security", type := (.object "java/lang/SecurityManager"), accessFlags := 74, slot := 7, constantValue := 0 }, { name := "notSupportedJnuEncoding", type := (.object "java/lang/String"), accessFlags := 10, slot := 8, constantValue := 0 }, { name := "cons", type := (.object "java/io/Console"), accessFlags := 74, slot := 9, constantValue := 0 }, { name := "initialErrStream", type := (.object "java/io/PrintStream"), accessFlags := 74, slot := 10, constantValue := 0 }, { name := "props", type := (.object "java/util/Properties"), accessFlags := 10, slot := 11, constantValue := 0 }, { name := "lineSeparator", type := (.object "java/lang/String"), accessFlags := 10, slot := 12, constantValue := 0 }, { name := "bootLayer", type := (.object "java/lang/ModuleLayer"), accessFlags := 8, slot := 13, constantValue := 0 }]
  methods := #[k5m0, k5m1]
  instanceTypes := #[]
  staticTypes := #[(.object "java/io/InputStream"), (.object "java/io/PrintStream"), (.object "java/io/PrintStream"), (.object "java/io/InputStream"), .int, .int, .int, (.object "java/lang/SecurityManager"), (.object "java/lang/String"), (.object "java/io/Console"), (.object "java/io/PrintStream"), (.object "java/util/Properties"), (.object "java/lang/String"), (.object "java/lang/ModuleLayer")]
  resolved := Array.replicate 834 none
  statics := none }

def pool6 : Array CpInfo := pool [(1, u "java/lang/Cloneable"), (0, .class_ 1), (0, u "java/lang/Object"), (0, .class_ 3)] 3

/-- java/lang/Cloneable -/
def k6 : Class := { plain "java/lang/Cloneable" (some 0) with
  accessFlags := 1537
  interfaces := #[]
  cf := some (fileOf pool6 2 #[] #[] 1537 4 #[] #[])
  fields := #[]
  methods := #[]
  instanceTypes := #[]
  staticTypes := #[]
  resolved := Array.replicate 8 none
  statics := none }

def pool7 : Array CpInfo := pool [(1, u "java/io/Serializable"), (0, .class_ 1), (0, u "java/lang/Object"), (0, .class_ 3)] 3

/-- java/io/Serializable -/
def k7 : Class := { plain "java/io/Serializable" (some 0) with
  accessFlags := 1537
  interfaces := #[]
  cf := some (fileOf pool7 2 #[] #[] 1537 4 #[] #[])
  fields := #[]
  methods := #[]
  instanceTypes := #[]
  staticTypes := #[]
  resolved := Array.replicate 8 none
  statics := none }

/-- the primitive byte -/
def k8 : Class := { plain "byte" none with kind := .primitive 'B', accessFlags := 0x411 }
/-- [B -/
def k9 : Class := { plain "[B" (some 0) with kind := .array 8 .byte, interfaces := #[6, 7], accessFlags := 1041 }

/-- the primitive double -/
def k10 : Class := { plain "double" none with kind := .primitive 'D', accessFlags := 0x411 }
/-- [D -/
def k11 : Class := { plain "[D" (some 0) with kind := .array 10 .double, interfaces := #[6, 7], accessFlags := 1041 }

/-- the primitive int -/
def k12 : Class := { plain "int" none with kind := .primitive 'I', accessFlags := 0x411 }
/-- [I -/
def k13 : Class := { plain "[I" (some 0) with kind := .array 12 .int, interfaces := #[6, 7], accessFlags := 1041 }

def heap : Heap := #[]
def classes : Array Class := #[k0, k1, k2, k3, k4, k5, k6, k7, k8, k9, k10, k11, k12, k13]
def interned : List (Array UInt16 × Addr) := []
def slotsUsed : Nat := 0
def theMethod : MethodId := ⟨1, 1⟩
def args0 : Array Value := #[.int 3, .int 5, .int 40, .int 3, .int 7]
def aboutOver (below : List Frame) : State where
  vm := { classes := classes, interned := interned.toArray }
  heap := heap
  slotsUsed := slotsUsed
  threads := #[{ frames := .invoking theMethod args0 :: below }]
def below0 : List Frame := [.native { method := ⟨0, 0⟩, args := #[] }]
def about1 : State := aboutOver below0
def p0 : Program := .bare "" "" ""
def e0 : Env := launch0.env 0 0 0
theorem w_frames : about1.frames = Frame.invoking theMethod args0 :: below0 := rfl
set_option maxRecDepth 65536 in
theorem w_args : argsFit about1.vm theMethod args0 = true := by decide +kernel
set_option maxRecDepth 65536 in
theorem w_heap : heapFits about1 = true := by decide +kernel
set_option maxRecDepth 65536 in
theorem w_runnable : about1.curStatus? = some .runnable := by decide +kernel
set_option maxRecDepth 65536 in
theorem w_alone : about1.alone = true := by decide +kernel
set_option maxRecDepth 65536 in
theorem w_named : about1.methodNamed? x = some theMethod := by decide +kernel
set_option maxRecDepth 65536 in
theorem w_hears : about1.hears theMethod below0 = true := by decide +kernel
set_option maxRecDepth 65536 in
theorem w_ripe : about1.ripe theMethod args0 below0 = true := by decide +kernel
theorem w_running : about1.status = .running := rfl
set_option maxRecDepth 65536 in
theorem w_room : about1.hasRoom e0.platform room_1 = true :=
  launch0.hasRoom_least _ room_1 (by decide +kernel) (by decide +kernel) (by decide +kernel) (by decide +kernel) (by decide +kernel) (by decide +kernel)
theorem allAtoms_all (ts : List Jvm.Cond) (a : Array Jvm.Value) (st : Jvm.State) : (allAtoms ts).before a st = ts.all (fun c => c.before a st) := by
  induction ts with
  | nil => rfl
  | cons c t ih =>
    show (Jvm.Cond.and c (allAtoms t)).before a st = _
    rw [Jvm.Cond.before_and, ih, List.all_cons]
def words1 : List Jvm.Cond := Jvm.Cond.code x code maxLocals ret :: tables_1
/-- a 'code' word, met by the world's own term for the bytes: nothing is compared byte by byte -/
theorem code_word {y : MethodName} {bytes : ByteArray} {mx : Nat} {rt : Option FieldType} {a : Array Value} {s : State} {m : MethodId} {meth : Method} {c : Code} (h1 : s.methodNamed? y = some m) (h2 : s.vm.method? m = some meth) (h3 : meth.code = some c) (h4 : c.code = bytes)
    (h5 : (c.maxLocals == mx && c.exceptionTable.isEmpty && decide (c.maxStack ≤ mostOperands) && decide (meth.sig.returnType = rt) && !meth.locks && decide (parseMethodDescriptor y.desc = some meth.sig)) = true) : (Jvm.Cond.code y bytes mx rt).before a s = true := by
  simp only [Bool.and_eq_true, beq_iff_eq, Bool.not_eq_true', decide_eq_true_eq] at h5
  obtain ⟨⟨⟨⟨⟨g1, g2⟩, g3⟩, g4⟩, g5⟩, g6⟩ := h5
  simp [Cond.before, Cond.holds, Cond.value, h1, h2, h3, h4, g1, g2, g3, g4, g5, g6]
def isCode : Jvm.Cond → Bool
  | .code _ _ _ _ => true
  | _ => false
theorem all_split {L : List Jvm.Cond} {P : Jvm.Cond → Bool} (h1 : L.all (fun c => isCode c || P c) = true) (h2 : ∀ c ∈ L.filter isCode, P c = true) : L.all P = true := by
  refine List.all_eq_true.mpr fun c hc => ?_
  have h := List.all_eq_true.mp h1 c hc
  rcases Bool.eq_false_or_eq_true (isCode c) with hi | hi
  · exact h2 c (List.mem_filter.mpr ⟨hc, hi⟩)
  · simpa [hi] using h
set_option maxRecDepth 65536 in
theorem w_c0 : (Jvm.Cond.code x code maxLocals ret).before args0 about1 = true := code_word (m := ⟨1, 1⟩) (meth := k1m1) (c := k1c1) (by decide +kernel) rfl rfl rfl (by decide +kernel)
set_option maxRecDepth 65536 in
theorem w_c1 : (Jvm.Cond.code ({ cls := "com/example/tributary/tributary/NodeQueue", name := "<init>", desc := "()V" } : Jvm.MethodName) prog_40_method_1_code (1 : Nat) (Option.none : Option Jvm.ClassFile.FieldType)).before args0 about1 = true := code_word (m := ⟨2, 0⟩) (meth := k2m0) (c := k2c0) (by decide +kernel) rfl rfl rfl (by decide +kernel)
set_option maxRecDepth 65536 in
theorem w_c2 : (Jvm.Cond.code ({ cls := "java/lang/Object", name := "<init>", desc := "()V" } : Jvm.MethodName) object_method_1_code (1 : Nat) (Option.none : Option Jvm.ClassFile.FieldType)).before args0 about1 = true := code_word (m := ⟨0, 0⟩) (meth := k0m0) (c := k0c0) (by decide +kernel) rfl rfl rfl (by decide +kernel)
set_option maxRecDepth 65536 in
theorem w_c3 : (Jvm.Cond.code ({ cls := "com/example/tributary/tributary/NodeQueue", name := "contains", desc := "(I)Z" } : Jvm.MethodName) prog_40_method_3_code (2 : Nat) (Option.some Jvm.ClassFile.FieldType.boolean)).before args0 about1 = true := code_word (m := ⟨2, 1⟩) (meth := k2m1) (c := k2c1) (by decide +kernel) rfl rfl rfl (by decide +kernel)
set_option maxRecDepth 65536 in
theorem w_c4 : (Jvm.Cond.code ({ cls := "com/example/tributary/tributary/NodeQueue", name := "offer", desc := "(ID)Z" } : Jvm.MethodName) prog_40_method_5_code (6 : Nat) (Option.some Jvm.ClassFile.FieldType.boolean)).before args0 about1 = true := code_word (m := ⟨2, 2⟩) (meth := k2m2) (c := k2c2) (by decide +kernel) rfl rfl rfl (by decide +kernel)
set_option maxRecDepth 65536 in
theorem w_c5 : (Jvm.Cond.code ({ cls := "java/lang/Math", name := "max", desc := "(II)I" } : Jvm.MethodName) jdk_29_method_65_code (2 : Nat) (Option.some Jvm.ClassFile.FieldType.int)).before args0 about1 = true := code_word (m := ⟨3, 1⟩) (meth := k3m1) (c := k3c1) (by decide +kernel) rfl rfl rfl (by decide +kernel)
set_option maxRecDepth 65536 in
theorem w_c6 : (Jvm.Cond.code ({ cls := "java/util/Arrays", name := "copyOf", desc := "([II)[I" } : Jvm.MethodName) jdk_65_method_123_code (3 : Nat) (Option.some (Jvm.ClassFile.FieldType.array Jvm.ClassFile.FieldType.int))).before args0 about1 = true := code_word (m := ⟨4, 3⟩) (meth := k4m3) (c := k4c3) (by decide +kernel) rfl rfl rfl (by decide +kernel)
set_option maxRecDepth 65536 in
theorem w_c7 : (Jvm.Cond.code ({ cls := "java/lang/Math", name := "min", desc := "(II)I" } : Jvm.MethodName) jdk_29_method_69_code (2 : Nat) (Option.some Jvm.ClassFile.FieldType.int)).before args0 about1 = true := code_word (m := ⟨3, 2⟩) (meth := k3m2) (c := k3c2) (by decide +kernel) rfl rfl rfl (by decide +kernel)
set_option maxRecDepth 65536 in
theorem w_c8 : (Jvm.Cond.code ({ cls := "java/util/Arrays", name := "fill", desc := "([IIII)V" } : Jvm.MethodName) jdk_65_method_104_code (5 : Nat) (Option.none : Option Jvm.ClassFile.FieldType)).before args0 about1 = true := code_word (m := ⟨4, 2⟩) (meth := k4m2) (c := k4c2) (by decide +kernel) rfl rfl rfl (by decide +kernel)
set_option maxRecDepth 65536 in
theorem w_c9 : (Jvm.Cond.code ({ cls := "java/util/Arrays", name := "rangeCheck", desc := "(III)V" } : Jvm.MethodName) jdk_65_method_30_code (3 : Nat) (Option.none : Option Jvm.ClassFile.FieldType)).before args0 about1 = true := code_word (m := ⟨4, 1⟩) (meth := k4m1) (c := k4c1) (by decide +kernel) rfl rfl rfl (by decide +kernel)
set_option maxRecDepth 65536 in
theorem w_c10 : (Jvm.Cond.code ({ cls := "java/util/Arrays", name := "copyOf", desc := "([DI)[D" } : Jvm.MethodName) jdk_65_method_127_code (3 : Nat) (Option.some (Jvm.ClassFile.FieldType.array Jvm.ClassFile.FieldType.double))).before args0 about1 = true := code_word (m := ⟨4, 4⟩) (meth := k4m4) (c := k4c4) (by decide +kernel) rfl rfl rfl (by decide +kernel)
set_option maxRecDepth 65536 in
theorem w_c11 : (Jvm.Cond.code ({ cls := "com/example/tributary/tributary/NodeQueue", name := "siftUp", desc := "(I)V" } : Jvm.MethodName) prog_40_method_9_code (4 : Nat) (Option.none : Option Jvm.ClassFile.FieldType)).before args0 about1 = true := code_word (m := ⟨2, 5⟩) (meth := k2m5) (c := k2c5) (by decide +kernel) rfl rfl rfl (by decide +kernel)
set_option maxRecDepth 65536 in
theorem w_c12 : (Jvm.Cond.code ({ cls := "com/example/tributary/tributary/NodeQueue", name := "place", desc := "(II)V" } : Jvm.MethodName) prog_40_method_11_code (3 : Nat) (Option.none : Option Jvm.ClassFile.FieldType)).before args0 about1 = true := code_word (m := ⟨2, 7⟩) (meth := k2m7) (c := k2c7) (by decide +kernel) rfl rfl rfl (by decide +kernel)
set_option maxRecDepth 65536 in
theorem w_c13 : (Jvm.Cond.code ({ cls := "com/example/tributary/tributary/NodeQueue", name := "poll", desc := "()I" } : Jvm.MethodName) prog_40_method_7_code (2 : Nat) (Option.some Jvm.ClassFile.FieldType.int)).before args0 about1 = true := code_word (m := ⟨2, 3⟩) (meth := k2m3) (c := k2c3) (by decide +kernel) rfl rfl rfl (by decide +kernel)
set_option maxRecDepth 65536 in
theorem w_c14 : (Jvm.Cond.code ({ cls := "com/example/tributary/tributary/NodeQueue", name := "requireNotEmpty", desc := "()V" } : Jvm.MethodName) prog_40_method_8_code (1 : Nat) (Option.none : Option Jvm.ClassFile.FieldType)).before args0 about1 = true := code_word (m := ⟨2, 4⟩) (meth := k2m4) (c := k2c4) (by decide +kernel) rfl rfl rfl (by decide +kernel)
set_option maxRecDepth 65536 in
theorem w_c15 : (Jvm.Cond.code ({ cls := "com/example/tributary/tributary/NodeQueue", name := "siftDown", desc := "(I)V" } : Jvm.MethodName) prog_40_method_10_code (4 : Nat) (Option.none : Option Jvm.ClassFile.FieldType)).before args0 about1 = true := code_word (m := ⟨2, 6⟩) (meth := k2m6) (c := k2c6) (by decide +kernel) rfl rfl rfl (by decide +kernel)
def codes1 : List Jvm.Cond := [Jvm.Cond.code x code maxLocals ret, Jvm.Cond.code ({ cls := "com/example/tributary/tributary/NodeQueue", name := "<init>", desc := "()V" } : Jvm.MethodName) prog_40_method_1_code (1 : Nat) (Option.none : Option Jvm.ClassFile.FieldType), Jvm.Cond.code ({ cls := "java/lang/Object", name := "<init>", desc := "()V" } : Jvm.MethodName) object_method_1_code (1 : Nat) (Option.none : Option Jvm.ClassFile.FieldType), Jvm.Cond.code ({ cls := "com/example/tributary/tributary/NodeQueue", name := "contains", desc := "(I)Z" } : Jvm.MethodName) prog_40_method_3_code (2 : Nat) (Option.some Jvm.ClassFile.FieldType.boolean), Jvm.Cond.code ({ cls := "com/example/tributary/tributary/NodeQueue", name := "offer", desc := "(ID)Z" } : Jvm.MethodName) prog_40_method_5_code (6 : Nat) (Option.some Jvm.ClassFile.FieldType.boolean), Jvm.Cond.code ({ cls := "java/lang/Math", name := "max", desc := "(II)I" } : Jvm.MethodName) jdk_29_method_65_code (2 : Nat) (Option.some Jvm.ClassFile.FieldType.int), Jvm.Cond.code ({ cls := "java/util/Arrays", name := "copyOf", desc := "([II)[I" } : Jvm.MethodName) jdk_65_method_123_code (3 : Nat) (Option.some (Jvm.ClassFile.FieldType.array Jvm.ClassFile.FieldType.int)), Jvm.Cond.code ({ cls := "java/lang/Math", name := "min", desc := "(II)I" } : Jvm.MethodName) jdk_29_method_69_code (2 : Nat) (Option.some Jvm.ClassFile.FieldType.int), Jvm.Cond.code ({ cls := "java/util/Arrays", name := "fill", desc := "([IIII)V" } : Jvm.MethodName) jdk_65_method_104_code (5 : Nat) (Option.none : Option Jvm.ClassFile.FieldType), Jvm.Cond.code ({ cls := "java/util/Arrays", name := "rangeCheck", desc := "(III)V" } : Jvm.MethodName) jdk_65_method_30_code (3 : Nat) (Option.none : Option Jvm.ClassFile.FieldType), Jvm.Cond.code ({ cls := "java/util/Arrays", name := "copyOf", desc := "([DI)[D" } : Jvm.MethodName) jdk_65_method_127_code (3 : Nat) (Option.some (Jvm.ClassFile.FieldType.array Jvm.ClassFile.FieldType.double)), Jvm.Cond.code ({ cls := "com/example/tributary/tributary/NodeQueue", name := "siftUp", desc := "(I)V" } : Jvm.MethodName) prog_40_method_9_code (4 : Nat) (Option.none : Option Jvm.ClassFile.FieldType), Jvm.Cond.code ({ cls := "com/example/tributary/tributary/NodeQueue", name := "place", desc := "(II)V" } : Jvm.MethodName) prog_40_method_11_code (3 : Nat) (Option.none : Option Jvm.ClassFile.FieldType), Jvm.Cond.code ({ cls := "com/example/tributary/tributary/NodeQueue", name := "poll", desc := "()I" } : Jvm.MethodName) prog_40_method_7_code (2 : Nat) (Option.some Jvm.ClassFile.FieldType.int), Jvm.Cond.code ({ cls := "com/example/tributary/tributary/NodeQueue", name := "requireNotEmpty", desc := "()V" } : Jvm.MethodName) prog_40_method_8_code (1 : Nat) (Option.none : Option Jvm.ClassFile.FieldType), Jvm.Cond.code ({ cls := "com/example/tributary/tributary/NodeQueue", name := "siftDown", desc := "(I)V" } : Jvm.MethodName) prog_40_method_10_code (4 : Nat) (Option.none : Option Jvm.ClassFile.FieldType)]
set_option maxRecDepth 65536 in
theorem codes_eq : words1.filter isCode = codes1 := rfl
theorem w_codes : ∀ c ∈ words1.filter isCode, c.before args0 about1 = true := by
  rw [codes_eq]
  intro c hc
  simp only [codes1, List.mem_cons, List.not_mem_nil, or_false] at hc
  rcases hc with rfl | rfl | rfl | rfl | rfl | rfl | rfl | rfl | rfl | rfl | rfl | rfl | rfl | rfl | rfl | rfl
  · exact w_c0
  · exact w_c1
  · exact w_c2
  · exact w_c3
  · exact w_c4
  · exact w_c5
  · exact w_c6
  · exact w_c7
  · exact w_c8
  · exact w_c9
  · exact w_c10
  · exact w_c11
  · exact w_c12
  · exact w_c13
  · exact w_c14
  · exact w_c15
set_option maxRecDepth 65536 in
theorem w_t1 : (words1.take 24).all (fun c => isCode c || c.before args0 about1) = true := by decide +kernel
set_option maxRecDepth 65536 in
theorem w_t2 : ((words1.drop 24).take 24).all (fun c => isCode c || c.before args0 about1) = true := by decide +kernel
set_option maxRecDepth 65536 in
theorem w_t3 : (((words1.drop 24).drop 24).take 24).all (fun c => isCode c || c.before args0 about1) = true := by decide +kernel
set_option maxRecDepth 65536 in
theorem w_t4 : (((words1.drop 24).drop 24).drop 24).all (fun c => isCode c || c.before args0 about1) = true := by decide +kernel
theorem w_tables : (allAtoms (Jvm.Cond.code x code maxLocals ret :: tables_1)).before args0 about1 = true := by
  rw [allAtoms_all]
  show words1.all (fun c => c.before args0 about1) = true
  refine all_split ?_ w_codes
  rw [← List.take_append_drop 24 words1, List.all_append, w_t1, ← List.take_append_drop 24 (words1.drop 24), List.all_append, w_t2, ← List.take_append_drop 24 ((words1.drop 24).drop 24), List.all_append, w_t3, w_t4]
  rfl
set_option maxRecDepth 65536 in
theorem w_case : (Jvm.Cond.and given_1 narrow_1).before args0 about1 = true := by decide +kernel
theorem w_applies : (headSpec (Jvm.Cond.code x code maxLocals ret :: tables_1) room_1).applies x e0.platform about1 = true :=
  (Spec.applies_iff w_frames).mpr ⟨w_running, w_runnable, w_alone, w_named, w_hears, w_ripe, w_room, w_tables⟩
theorem atStart : AtStart classFile x code maxLocals ret World_1 tables_1 room_1 Calls_1 rest_1 Pre_1 launch0 p0 e0 about1 theMethod args0 below0 :=
  ⟨lists_1, trivial, launch0.admits_env _ _ _, launch0.least_env, fairChoices_fair.cas, fairChoices_fair.clock, w_frames, w_args, w_heap, w_applies, trivial, trivial, w_case⟩
end start1
theorem witness_1 : WitnessClaimed_1 := ⟨start1.p0, start1.e0, start1.about1, start1.theMethod, start1.args0, start1.below0, start1.atStart⟩
end Jvm.Pilot.@@N@@
