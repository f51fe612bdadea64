import JvmDerived
import JvmDerived.Pilot.@@N@@Statement
import JvmDerived.Pilot.@@N@@Code
set_option linter.unusedVariables false
set_option linter.unusedSimpArgs false
namespace Jvm.Pilot.@@N@@
open Jvm Jvm.ClassFile Sem Op Lib Jvm.Free Jvm.Stand Jvm.LawKit Jvm.RoadKit Bundle Jvm.Pilot.@@N@@.Jvm.D
/-! OWN: the walk as a tree. Go: from here the run comes to a return that Q allows. -/
def Go (p : Program) (e : Env) (below : List Frame) (s : State) (C S : Nat) (Q : Option Value → Heap → List Loc → Prop) (T : State) (g : JFrame) : Prop :=
  ∃ s₂ o, Steps p.tables e below (T.setTop g) s₂ ∧ s₂.status = .running ∧ Ended s₂ below o ∧ ∃ v L, o = .returned v ∧ Q v s₂.heap L ∧ FrameEnd s o s₂ L C S
section OwnGo
variable {p : Program} {l : Launch} {e : Env} {R : Room} {s : State} {m : MethodId} {args : Array Value} {below : List Frame} {meth : Method} {c : Code} {T T' : State} {locs : List Loc} {cells slots : Nat} {Z : State} {a0 : Array Value} {h : Heap} {C S : Nat} {Q : Option Value → Heap → List Loc → Prop} {g g' : JFrame}
theorem Go.step (st : ∀ target, Steps p.tables e below (T'.setTop g') target → Steps p.tables e below (T.setTop g) target) (h : Go p e below s C S Q T' g') : Go p e below s C S Q T g := by
  obtain ⟨s₂, o, h1, r⟩ := h; exact ⟨s₂, o, st _ h1, r⟩
theorem Go.cast (q : g = g') (h : Go p e below s C S Q T g') : Go p e below s C S Q T g := q ▸ h
theorem Go.ret (X : Stand p l e R s m args below meth c T locs cells slots) (hlk : meth.locks = false) {v : Option Value} (hv : meth.sig.returnType = none → v = none)
    (st : ∀ fs, (∀ (f : JFrame) (acts : List Action), f.method = m → f.locked = none → f.entered = [] → (doReturn e (T.setTop f) acts v).1 = T.setFrames fs) → Steps p.tables e below (T.setTop g) (T.setFrames fs))
    (hq : Q v T.heap locs) (hc : cells ≤ C) (hs : slots ≤ S) : Go p e below s C S Q T g := by
  obtain ⟨fs, hr, hrun, hended, hW, hsame⟩ := X.leave (v := v) hv hlk
  exact ⟨_, _, st fs hr, hrun, hended, v, locs, rfl, hq, ⟨_, rfl⟩, hW, hsame.mono hc hs⟩
theorem Go.retV (X : Stand p l e R s m args below meth c T locs cells slots) (hx : p.tables.exec = Jvm.exec) (hlk : meth.locks = false) (hret : meth.sig.returnType = none) {pc : Nat} {Ls : Array Slot} (hd : decode c.code pc = .ok (.return_, 1))
    (hc : cells ≤ C) (hs : slots ≤ S) (hq : Q none T.heap locs) : Go p e below s C S Q T (mkF m pc Ls []) :=
  Go.ret X hlk (fun _ => rfl) (fun fs hr => X.returnOut hx hret hd hr) hq hc hs
theorem Go.retW (X : Stand p l e R s m args below meth c T locs cells slots) (hx : p.tables.exec = Jvm.exec) (hlk : meth.locks = false) {t : FieldType} (hret : meth.sig.returnType = some t) {pc : Nat} {Ls : Array Slot} {w : Value} {i : Instr} {rest : List Value} (hn : narrow t w = w)
    (hi : (i = .ireturn ∧ (t = .int ∨ t = .boolean ∨ t = .byte ∨ t = .char ∨ t = .short) ∧ ∃ z, w = .int z) ∨ (i = .lreturn ∧ t = .long ∧ ∃ z, w = .long z) ∨ (i = .dreturn ∧ t = .double ∧ ∃ z, w = .double z) ∨ (i = .freturn ∧ t = .float ∧ ∃ z, w = .float z) ∨ (i = .areturn ∧ t.isReference = true ∧ w.isRef = true))
    (hd : decode c.code pc = .ok (i, 1)) (hc : cells ≤ C) (hs : slots ≤ S) (hq : Q (some w) T.heap locs) : Go p e below s C S Q T (mkF m pc Ls (w :: rest)) :=
  Go.ret X hlk (fun h => by rw [hret] at h; cases h) (fun fs hr => retOut X hx hret hn hi hd hr) hq hc hs
theorem Go.retI (X : Stand p l e R s m args below meth c T locs cells slots) (hx : p.tables.exec = Jvm.exec) (hlk : meth.locks = false) (hret : meth.sig.returnType = some .int) {pc : Nat} {Ls : Array Slot} {z : Int32} {rest : List Value}
    (hd : decode c.code pc = .ok (.ireturn, 1)) (hc : cells ≤ C) (hs : slots ≤ S) (hq : Q (some (.int z)) T.heap locs) : Go p e below s C S Q T (mkF m pc Ls (.int z :: rest)) :=
  Go.retW X hx hlk hret rfl (Or.inl ⟨rfl, Or.inl rfl, z, rfl⟩) hd hc hs hq
theorem Go.retZ (X : Stand p l e R s m args below meth c T locs cells slots) (hx : p.tables.exec = Jvm.exec) (hlk : meth.locks = false) (hret : meth.sig.returnType = some .boolean) {pc : Nat} {Ls : Array Slot} {z : Int32} {rest : List Value} (hz : z = 0 ∨ z = 1)
    (hd : decode c.code pc = .ok (.ireturn, 1)) (hc : cells ≤ C) (hs : slots ≤ S) (hq : Q (some (.int z)) T.heap locs) : Go p e below s C S Q T (mkF m pc Ls (.int z :: rest)) :=
  Go.retW X hx hlk hret (by rcases hz with rfl | rfl <;> rfl) (Or.inl ⟨rfl, Or.inr (Or.inl rfl), z, rfl⟩) hd hc hs hq
theorem Go.retJ (X : Stand p l e R s m args below meth c T locs cells slots) (hx : p.tables.exec = Jvm.exec) (hlk : meth.locks = false) (hret : meth.sig.returnType = some .long) {pc : Nat} {Ls : Array Slot} {z : Int64} {rest : List Value}
    (hd : decode c.code pc = .ok (.lreturn, 1)) (hc : cells ≤ C) (hs : slots ≤ S) (hq : Q (some (.long z)) T.heap locs) : Go p e below s C S Q T (mkF m pc Ls (.long z :: rest)) :=
  Go.retW X hx hlk hret rfl (Or.inr (Or.inl ⟨rfl, rfl, z, rfl⟩)) hd hc hs hq
theorem Go.retD (X : Stand p l e R s m args below meth c T locs cells slots) (hx : p.tables.exec = Jvm.exec) (hlk : meth.locks = false) (hret : meth.sig.returnType = some .double) {pc : Nat} {Ls : Array Slot} {z : UInt64} {rest : List Value}
    (hd : decode c.code pc = .ok (.dreturn, 1)) (hc : cells ≤ C) (hs : slots ≤ S) (hq : Q (some (.double z)) T.heap locs) : Go p e below s C S Q T (mkF m pc Ls (.double z :: rest)) :=
  Go.retW X hx hlk hret rfl (Or.inr (Or.inr (Or.inl ⟨rfl, rfl, z, rfl⟩))) hd hc hs hq
theorem Go.retR (X : Stand p l e R s m args below meth c T locs cells slots) (hx : p.tables.exec = Jvm.exec) (hlk : meth.locks = false) {t : FieldType} (hret : meth.sig.returnType = some t) (ht : t.isReference = true) {pc : Nat} {Ls : Array Slot} {w : Value} {rest : List Value} (hn : narrow t w = w) (hw : w.isRef = true)
    (hd : decode c.code pc = .ok (.areturn, 1)) (hc : cells ≤ C) (hs : slots ≤ S) (hq : Q (some w) T.heap locs) : Go p e below s C S Q T (mkF m pc Ls (w :: rest)) :=
  Go.retW X hx hlk hret hn (Or.inr (Or.inr (Or.inr (Or.inr ⟨rfl, ht, hw⟩)))) hd hc hs hq
/-- a method's contract out of its walk -/
theorem con_of {y : MethodName} {bytes : ByteArray} {ml : Nat} {rt : Option FieldType} {ws : List Jvm.Cond} {rm : Room} {as' : Array Value} {h0 : Heap} (hpl : plainFor y = true)
    (body : ∀ (p : Program) (e : Env) (s : State) (m : MethodId) (below : List Frame) (meth : Method) (c : Code) (T : State), Stand p l e rm s m as' below meth c T [] 0 0 → p.tables.exec = Jvm.exec → Z.Warmed39 s.vm → c.code = bytes → c.maxLocals = ml → s.vm.findClass y.cls = some m.cls → meth.name = y.name →
      meth.sig.returnType = rt → meth.locks = false → T.heap = h0 → Go p e below s rm.cells rm.slots Q T (entryFrame m as' ml)) :
    MetFree l y (head1 (Jvm.Cond.code y bytes ml rt :: ws) rm) (fun a U => a = as' ∧ Z.Warmed39 U.vm ∧ U.heap = h0) (fun _ _ _ _ _ => True) (fun _ U o U' => ∃ v L, o = .returned v ∧ Q v U'.heap L ∧ FrameEnd U o U' L rm.cells rm.slots) := by
  refine MetFree.of_bodySF hpl hisR ?_
  intro p e s m args below meth c s₁ Bd hml0 hP hK
  obtain ⟨rfl, hZ, hh⟩ := hP
  exact body p e s m below meth c s₁ (Stand.of_body Bd) Bd.exec hZ Bd.bytes hml0 (findClass_of_methodNamed Bd.named) (name_of_methodNamed Bd.named Bd.method).1 Bd.returns (BodyLoose.notSynchronized Bd) (by rw [← hh, Bd.state]; rfl)
abbrev Con (l : Launch) (Z : State) (y : MethodName) (bytes : ByteArray) (ml : Nat) (rt : Option FieldType) (rm : Room) (as' : Array Value) (h0 : Heap) (Q : Option Value → Heap → List Loc → Prop) : Prop :=
  MetFree l y (head1 [Jvm.Cond.code y bytes ml rt] rm) (fun a U => a = as' ∧ Z.Warmed39 U.vm ∧ U.heap = h0) (fun _ _ _ _ _ => True) (fun _ U o U' => ∃ v L, o = .returned v ∧ Q v U'.heap L ∧ FrameEnd U o U' L rm.cells rm.slots)
theorem Go.callS (X : Stand p l e R s m args below meth c T locs cells slots) (hx : p.tables.exec = Jvm.exec) (hZ : Z.Warmed39 s.vm) {own : String} {index : Nat} {y : MethodName} {bytes : ByteArray} {maxL : Nat} {ret : Option FieldType} {rm : Room} {as' : Array Value} {Qc : Option Value → Heap → List Loc → Prop} {W pc : Nat} {Ls : Array Slot} {st : List Value} {argsL rest : List Value} (hml : Ls.size = c.maxLocals)
    (hown : s.vm.findClass own = some m.cls) (w1 : (Jvm.Cond.methodLink own index y).before a0 Z = true) (w2 : (Jvm.Cond.static y).before a0 Z = true) (w3 : (Jvm.Cond.initialized y.cls).before a0 Z = true) (w4 : (Jvm.Cond.code y bytes maxL ret).before a0 Z = true) (hy : y.cls ≠ "java/lang/invoke/MethodHandle" ∧ y.cls ≠ "java/lang/invoke/VarHandle")
    (hM : Con l Z y bytes maxL ret rm as' h Qc) (eT : T.heap = h) (hd : decode c.code pc = .ok (.invokestatic index, 3)) (hlen : ∀ sig, parseMethodDescriptor y.desc = some sig → argsL.length = sig.parameters.length) (hst : st = argsL.reverse ++ rest) (has : argsL.toArray = as')
    (hW : (rest.map fun v => v.category).sum ≤ W) (hf : rm.frames + 1 ≤ R.frames) (hl : W + (maxL + 11) + rm.locals ≤ R.locals) (hc : cells + rm.cells ≤ R.cells) (hs : slots + rm.slots ≤ R.slots)
    (k : ∀ (v : Option Value) (T' : State) (L : List Loc), Stand p l e R s m args below meth c T' (locs ++ L) (cells + rm.cells) (slots + rm.slots) → Qc v T'.heap L → Go p e below s C S Q T' (mkF m (pc + 3) Ls (v.toList ++ rest))) :
    Go p e below s C S Q T (mkF m pc Ls st) := by
  obtain ⟨v, _, ⟨T', L', k', n'⟩, -, X', ⟨Lc, hQ, l1, y1, z1⟩, stp⟩ := Jvm.LawKit.callS X hx (y := y) hown (mvT hZ w1) (mvT hZ w2) (mvT hZ w3) (mvT hZ w4) hy (backOf (W := W) hM hZ w4 w3 hf hl) (g := mkF m pc Ls st) rfl hml (argsL := argsL) (rest := rest) hlen hst (by show 2 * 0 + _ ≤ _; omega) hd (fun _ _ => ⟨has, eT, hc, hs⟩)
  dsimp only [Pt.U, Pt.locs, Pt.cells, Pt.slots] at X' l1 y1 z1 stp hQ
  subst l1 y1 z1
  exact Go.step stp (k v T' Lc X' hQ)
theorem Go.callI (X : Stand p l e R s m args below meth c T locs cells slots) (hx : p.tables.exec = Jvm.exec) (hZ : Z.Warmed39 s.vm) {own : String} {index : Nat} {y : MethodName} {bytes : ByteArray} {maxL : Nat} {rm : Room} {as' : Array Value} {Qc : Option Value → Heap → List Loc → Prop} {W pc : Nat} {Ls : Array Slot} {st : List Value} {a : Addr} {argsL rest : List Value} (hml : Ls.size = c.maxLocals)
    (hy1 : y.name = "<init>") (hown : s.vm.findClass own = some m.cls) (w1 : (Jvm.Cond.methodLink own index y).before a0 Z = true) (w2 : (Jvm.Cond.instanceMethod y).before a0 Z = true) (w3 : (Jvm.Cond.initialized y.cls).before a0 Z = true) (w4 : (Jvm.Cond.code y bytes maxL none).before a0 Z = true) (hy : y.cls ≠ "java/lang/invoke/MethodHandle" ∧ y.cls ≠ "java/lang/invoke/VarHandle")
    (hM : Con l Z y bytes maxL none rm as' h Qc) (eT : T.heap = h) (hd : decode c.code pc = .ok (.invokespecial index, 3)) (hlen : ∀ sig, parseMethodDescriptor y.desc = some sig → argsL.length = sig.parameters.length) (hst : st = argsL.reverse ++ .ref a :: rest) (has : (Value.ref a :: argsL).toArray = as')
    (hW : (rest.map fun v => v.category).sum ≤ W) (hf : rm.frames + 1 ≤ R.frames) (hl : W + (maxL + 11) + rm.locals ≤ R.locals) (hc : cells + rm.cells ≤ R.cells) (hs : slots + rm.slots ≤ R.slots)
    (k : ∀ (v : Option Value) (T' : State) (L : List Loc), Stand p l e R s m args below meth c T' (locs ++ L) (cells + rm.cells) (slots + rm.slots) → Qc v T'.heap L → Go p e below s C S Q T' (mkF m (pc + 3) Ls (v.toList ++ rest))) :
    Go p e below s C S Q T (mkF m pc Ls st) := by
  obtain ⟨v, _, ⟨T', L', k', n'⟩, -, X', ⟨Lc, hQ, l1, y1, z1⟩, stp⟩ := X.specialBack hx (y := y) hy1 hown (mvT hZ w1) (mvT hZ w2) (mvT hZ w4) hy (backOf (W := W) hM hZ w4 w3 hf hl) (g := mkF m pc Ls st) rfl hml (Steps.refl _) (a := a) (argsL := argsL) (rest := rest) hlen hst (by show 2 * 0 + _ ≤ _; omega) hd (fun _ _ => ⟨has, eT, hc, hs⟩)
  dsimp only [Pt.U, Pt.locs, Pt.cells, Pt.slots] at X' l1 y1 z1 stp hQ
  subst l1 y1 z1
  exact Go.step (fun _ q => stp.trans q) (k v T' Lc X' hQ)
theorem Go.callV (X : Stand p l e R s m args below meth c T locs cells slots) (hx : p.tables.exec = Jvm.exec) (hZ : Z.Warmed39 s.vm) {own K : String} {index : Nat} {y z : MethodName} {bytes : ByteArray} {maxL : Nat} {ret : Option FieldType} {rm : Room} {as' : Array Value} {Qc : Option Value → Heap → List Loc → Prop} {W pc : Nat} {Ls : Array Slot} {st : List Value} {a : Addr} {argsL rest : List Value} (hml : Ls.size = c.maxLocals)
    (hown : s.vm.findClass own = some m.cls) (w1 : (Jvm.Cond.methodLink own index y).before a0 Z = true) (w2 : (Jvm.Cond.declares y).before a0 Z = true) (hnf : NotFace s y) (w5 : (Jvm.Cond.selects K y z).before a0 Z = true) (w6 : (Jvm.Cond.instanceMethod z).before a0 Z = true) (w3 : (Jvm.Cond.initialized z.cls).before a0 Z = true) (w4 : (Jvm.Cond.code z bytes maxL ret).before a0 Z = true) (hy : y.cls ≠ "java/lang/invoke/MethodHandle" ∧ y.cls ≠ "java/lang/invoke/VarHandle")
    (hM : Con l Z z bytes maxL ret rm as' h Qc) (eT : T.heap = h) (E : Exa Z h a K) (hd : decode c.code pc = .ok (.invokevirtual index, 3)) (hlen : ∀ sig, parseMethodDescriptor y.desc = some sig → argsL.length = sig.parameters.length) (hst : st = argsL.reverse ++ .ref a :: rest) (has : (Value.ref a :: argsL).toArray = as')
    (hW : (rest.map fun v => v.category).sum ≤ W) (hf : rm.frames + 1 ≤ R.frames) (hl : W + (maxL + 11) + rm.locals ≤ R.locals) (hc : cells + rm.cells ≤ R.cells) (hs : slots + rm.slots ≤ R.slots)
    (k : ∀ (v : Option Value) (T' : State) (L : List Loc), Stand p l e R s m args below meth c T' (locs ++ L) (cells + rm.cells) (slots + rm.slots) → Qc v T'.heap L → Go p e below s C S Q T' (mkF m (pc + 3) Ls (v.toList ++ rest))) :
    Go p e below s C S Q T (mkF m pc Ls st) := by
  obtain ⟨cq, kq, qa, qb, qc⟩ := isOf hZ eT E
  obtain ⟨v, _, ⟨T', L', k', n'⟩, -, X', ⟨Lc, hQ, l1, y1, z1⟩, stp⟩ := X.virtualBack hx (y := y) (z := z) hown (mvT hZ w1) (mvT hZ w2) hnf (mvT hZ w5) (mvT hZ w6) hy (backOf (W := W) hM hZ w4 w3 hf hl) qa qc (g := mkF m pc Ls st) rfl hml (Steps.refl _) (argsL := argsL) (rest := rest) hlen hst (by show 2 * 0 + _ ≤ _; omega) hd (fun _ _ => ⟨has, eT, hc, hs⟩)
  dsimp only [Pt.U, Pt.locs, Pt.cells, Pt.slots] at X' l1 y1 z1 stp hQ
  subst l1 y1 z1
  exact Go.step (fun _ q => stp.trans q) (k v T' Lc X' hQ)
theorem Go.callP (X : Stand p l e R s m args below meth c T locs cells slots) (hx : p.tables.exec = Jvm.exec) (hZ : Z.Warmed39 s.vm) {own : String} {index : Nat} {y : MethodName} {bytes : ByteArray} {maxL : Nat} {ret : Option FieldType} {rm : Room} {as' : Array Value} {Qc : Option Value → Heap → List Loc → Prop} {W pc : Nat} {Ls : Array Slot} {st : List Value} {a : Addr} {argsL rest : List Value} (hml : Ls.size = c.maxLocals)
    (hown : s.vm.findClass own = some m.cls) (w1 : (Jvm.Cond.methodLink own index y).before a0 Z = true) (w6 : (Jvm.Cond.instanceMethod y).before a0 Z = true) {kk : Nat} (w5 : (Jvm.Cond.instantiable y.cls kk).before a0 Z = true) (w7 : (Jvm.Cond.privateMethod y).before a0 Z = true) (w3 : (Jvm.Cond.initialized y.cls).before a0 Z = true) (w4 : (Jvm.Cond.code y bytes maxL ret).before a0 Z = true) (hy : y.cls ≠ "java/lang/invoke/MethodHandle" ∧ y.cls ≠ "java/lang/invoke/VarHandle")
    (hM : Con l Z y bytes maxL ret rm as' h Qc) (eT : T.heap = h) {K : String} (E : Exa Z h a K) (hd : decode c.code pc = .ok (.invokevirtual index, 3)) (hlen : ∀ sig, parseMethodDescriptor y.desc = some sig → argsL.length = sig.parameters.length) (hst : st = argsL.reverse ++ .ref a :: rest) (has : (Value.ref a :: argsL).toArray = as')
    (hW : (rest.map fun v => v.category).sum ≤ W) (hf : rm.frames + 1 ≤ R.frames) (hl : W + (maxL + 11) + rm.locals ≤ R.locals) (hc : cells + rm.cells ≤ R.cells) (hs : slots + rm.slots ≤ R.slots)
    (k : ∀ (v : Option Value) (T' : State) (L : List Loc), Stand p l e R s m args below meth c T' (locs ++ L) (cells + rm.cells) (slots + rm.slots) → Qc v T'.heap L → Go p e below s C S Q T' (mkF m (pc + 3) Ls (v.toList ++ rest))) :
    Go p e below s C S Q T (mkF m pc Ls st) := by
  obtain ⟨cq, q1, q2⟩ := E.cell
  have hpriv : s.PrivateAt y := Cond.privateMethod_at (mvP hZ w7 (args := #[]))
  have w5' : (Jvm.Cond.instantiable y.cls kk).before args s = true := mvT hZ w5
  obtain ⟨c1, k1, i1, i2, -, i4, -⟩ := Cond.instantiable_spec w5'
  have hsel : (Jvm.Cond.selects y.cls y y).before args s = true := selects_self_of_private i1 i2 (by simp only [Bool.or_eq_false_iff] at i4; exact i4.1) hpriv (mvT hZ w6) hy
  obtain ⟨v, _, ⟨T', L', k', n'⟩, -, X', ⟨Lc, hQ, l1, y1, z1⟩, stp⟩ := X.privateBack hx (y := y) hown (mvT hZ w1) (mvT hZ w6) hsel hpriv (mvT hZ w4) hy (backOf (W := W) hM hZ w4 w3 hf hl) (g := mkF m pc Ls st) rfl hml (Steps.refl _) (a := a) (by rw [eT]; exact q1) q2 (argsL := argsL) (rest := rest) hlen hst (by show 2 * 0 + _ ≤ _; omega) hd (fun _ _ => ⟨has, eT, hc, hs⟩)
  dsimp only [Pt.U, Pt.locs, Pt.cells, Pt.slots] at X' l1 y1 z1 stp hQ
  subst l1 y1 z1
  exact Go.step (fun _ q => stp.trans q) (k v T' Lc X' hQ)
end OwnGo
/-! OWN: branches on a comparison of doubles, as javac writes them -/
section OwnCmp
variable {x y : UInt64}
theorem cv_none (o : CmpOp) (h : FP.dcmp x y = none) : cmpValue (FP.dcmp x y) o = (match o with | .l => -1 | .g => 1) := by rw [h]; cases o <;> rfl
theorem gt_y (h : FP.dcmp x y = some .gt) : ifCond.holds .le (cmpValue (FP.dcmp x y) .l) = false := by rw [h]; rfl
theorem gt_n (h : ¬ FP.dcmp x y = some .gt) : ifCond.holds .le (cmpValue (FP.dcmp x y) .l) = true := by
  rcases q : FP.dcmp x y with _ | (_ | _ | _) <;> first | rfl | exact absurd q h
theorem ge_y (h : FP.dcmp x y = some .gt ∨ FP.dcmp x y = some .eq) : ifCond.holds .lt (cmpValue (FP.dcmp x y) .l) = false := by rcases h with h | h <;> rw [h] <;> rfl
theorem ge_n (h : ¬ (FP.dcmp x y = some .gt ∨ FP.dcmp x y = some .eq)) : ifCond.holds .lt (cmpValue (FP.dcmp x y) .l) = true := by
  rcases q : FP.dcmp x y with _ | (_ | _ | _) <;> first | rfl | exact absurd (Or.inl q) h | exact absurd (Or.inr q) h
theorem lt_y (h : FP.dcmp x y = some .lt) : ifCond.holds .ge (cmpValue (FP.dcmp x y) .g) = false := by rw [h]; rfl
theorem lt_n (h : ¬ FP.dcmp x y = some .lt) : ifCond.holds .ge (cmpValue (FP.dcmp x y) .g) = true := by
  rcases q : FP.dcmp x y with _ | (_ | _ | _) <;> first | rfl | exact absurd q h
theorem le_y (h : FP.dcmp x y = some .lt ∨ FP.dcmp x y = some .eq) : ifCond.holds .gt (cmpValue (FP.dcmp x y) .g) = false := by rcases h with h | h <;> rw [h] <;> rfl
theorem le_n (h : ¬ (FP.dcmp x y = some .lt ∨ FP.dcmp x y = some .eq)) : ifCond.holds .gt (cmpValue (FP.dcmp x y) .g) = true := by
  rcases q : FP.dcmp x y with _ | (_ | _ | _) <;> first | rfl | exact absurd (Or.inl q) h | exact absurd (Or.inr q) h
theorem eq_y (o : CmpOp) (h : FP.dcmp x y = some .eq) : ifCond.holds .ne (cmpValue (FP.dcmp x y) o) = false ∧ ifCond.holds .eq (cmpValue (FP.dcmp x y) o) = true := by rw [h]; cases o <;> exact ⟨rfl, rfl⟩
theorem eq_n (o : CmpOp) (h : ¬ FP.dcmp x y = some .eq) : ifCond.holds .ne (cmpValue (FP.dcmp x y) o) = true ∧ ifCond.holds .eq (cmpValue (FP.dcmp x y) o) = false := by
  rcases q : FP.dcmp x y with _ | (_ | _ | _) <;> cases o <;> first | exact ⟨rfl, rfl⟩ | exact absurd q h
/-- x > y, by a taken 'ifgt' over dcmpl -/
theorem gtT_y (h : FP.dcmp x y = some .gt) : ifCond.holds .gt (cmpValue (FP.dcmp x y) .l) = true := by rw [h]; rfl
theorem gtT_n (h : ¬ FP.dcmp x y = some .gt) : ifCond.holds .gt (cmpValue (FP.dcmp x y) .l) = false := by
  rcases q : FP.dcmp x y with _ | (_ | _ | _) <;> first | rfl | exact absurd q h
theorem geT_y (h : FP.dcmp x y = some .gt ∨ FP.dcmp x y = some .eq) : ifCond.holds .ge (cmpValue (FP.dcmp x y) .l) = true := by rcases h with h | h <;> rw [h] <;> rfl
theorem geT_n (h : ¬ (FP.dcmp x y = some .gt ∨ FP.dcmp x y = some .eq)) : ifCond.holds .ge (cmpValue (FP.dcmp x y) .l) = false := by
  rcases q : FP.dcmp x y with _ | (_ | _ | _) <;> first | rfl | exact absurd (Or.inl q) h | exact absurd (Or.inr q) h
theorem ltT_y (h : FP.dcmp x y = some .lt) : ifCond.holds .lt (cmpValue (FP.dcmp x y) .g) = true := by rw [h]; rfl
theorem ltT_n (h : ¬ FP.dcmp x y = some .lt) : ifCond.holds .lt (cmpValue (FP.dcmp x y) .g) = false := by
  rcases q : FP.dcmp x y with _ | (_ | _ | _) <;> first | rfl | exact absurd q h
theorem leT_y (h : FP.dcmp x y = some .lt ∨ FP.dcmp x y = some .eq) : ifCond.holds .le (cmpValue (FP.dcmp x y) .g) = true := by rcases h with h | h <;> rw [h] <;> rfl
theorem leT_n (h : ¬ (FP.dcmp x y = some .lt ∨ FP.dcmp x y = some .eq)) : ifCond.holds .le (cmpValue (FP.dcmp x y) .g) = false := by
  rcases q : FP.dcmp x y with _ | (_ | _ | _) <;> first | rfl | exact absurd (Or.inl q) h | exact absurd (Or.inr q) h
end OwnCmp

/-! OWN: arrays by a function of the place -/
def updN {α : Type} (g : Nat → α) (j : Nat) (x : α) : Nat → α := fun i => if i = j then x else g i
theorem updN_same {α : Type} (g : Nat → α) (j : Nat) (x : α) : updN g j x j = x := by simp [updN]
theorem updN_ne {α : Type} {g : Nat → α} {i j : Nat} {x : α} (h : i ≠ j) : updN g j x i = g i := by simp [updN, h]
def Fv (Z : State) (h : Heap) (a : Addr) (ty : FieldType) (n : Int32) (f : Nat → Value) : Prop :=
  ∃ c : Cell, Arr Z h a c ty ∧ c.slots.size = n.toNatClampNeg ∧ ¬ n < 0 ∧ (∀ i, fits ty (f i) = true) ∧ ∀ i, i < c.slots.size → c.slots[i]? = some (f i)
abbrev Dv (Z : State) (h : Heap) (a : Addr) (n : Int32) (g : Nat → UInt64) : Prop := Fv Z h a .double n (fun i => .double (g i))
abbrev Iv (Z : State) (h : Heap) (a : Addr) (n : Int32) (g : Nat → Int32) : Prop := Fv Z h a .int n (fun i => .int (g i))
section OwnFv
variable {Z : State} {h h' : Heap} {a b : Addr} {ty : FieldType} {n j : Int32} {f : Nat → Value} {v : Value} {sl : Nat} {ws : List Addr}
theorem Fv.lt (F : Fv Z h a ty n f) : a < h.size := by obtain ⟨c, A, -⟩ := F; exact A.lt
theorem Fv.ext (F : Fv Z h a ty n f) (E : Ext h h') : Fv Z h' a ty n f := by obtain ⟨c, A, r⟩ := F; exact ⟨c, A.ext E, r⟩
theorem Fv.other (F : Fv Z h b ty n f) (W : Wr h h' a sl v) (q : b ≠ a) : Fv Z h' b ty n f := by obtain ⟨c, A, r⟩ := F; exact ⟨c, A.other W q, r⟩
theorem Fv.keep (F : Fv Z h a ty n f) (K : Keep h h' ws) (q : a ∉ ws) : Fv Z h' a ty n f := by obtain ⟨c, A, r⟩ := F; exact ⟨c, ⟨K.2.1 a c A.1 q, A.2⟩, r⟩
theorem Fv.new {k : ClassId} (A : Arr Z h a (newA k ty n) ty) (q : ¬ n < 0) : Fv Z h a ty n (fun _ => defaultValue ty) := ⟨_, A, sz_new _ _ _, q, fun i => by cases ty <;> rfl, fun i hi => by
  rw [sz_new] at hi; simp [newA, hi]⟩
theorem own_nat_of {j : Int32} (h : ¬ j < 0) : (j.toNatClampNeg : Int) = j.toInt := by
  rw [Int32.lt_iff_toInt_lt] at h; have e0 : (0 : Int32).toInt = 0 := rfl
  rw [Int32.toNatClampNeg]; omega
theorem Fv.set (F : Fv Z h a ty n f) (W : Wr h h' a j.toNatClampNeg v) (hv : fits ty v = true) : Fv Z h' a ty n (updN f j.toNatClampNeg v) := by
  obtain ⟨c, A, S, P, G, H⟩ := F
  refine ⟨_, A.same W, by rw [sz_set]; exact S, P, fun i => ?_, fun i hi => ?_⟩
  · unfold updN; split
    · exact hv
    · exact G i
  · rw [sz_set] at hi
    unfold updN
    by_cases u : i = j.toNatClampNeg
    · rw [if_pos u, u]; rw [u] at hi; simp [Cell.setSlot, hi]
    · rw [if_neg u]; simp only [Cell.setSlot]; rw [Array.getElem?_setIfInBounds_ne (Ne.symm u)]; exact H i hi
theorem Dv.set {g : Nat → UInt64} {x : UInt64} (F : Dv Z h a n g) (W : Wr h h' a j.toNatClampNeg (.double x)) : Dv Z h' a n (updN g j.toNatClampNeg x) := by
  have := Fv.set F W rfl
  have e : (updN (fun i => Value.double (g i)) j.toNatClampNeg (.double x)) = fun i => Value.double (updN g j.toNatClampNeg x i) := by
    funext i; unfold updN; split <;> rfl
  rw [e] at this; exact this
theorem Iv.set {g : Nat → Int32} {x : Int32} (F : Iv Z h a n g) (W : Wr h h' a j.toNatClampNeg (.int x)) : Iv Z h' a n (updN g j.toNatClampNeg x) := by
  have := Fv.set F W rfl
  have e : (updN (fun i => Value.int (g i)) j.toNatClampNeg (.int x)) = fun i => Value.int (updN g j.toNatClampNeg x i) := by
    funext i; unfold updN; split <;> rfl
  rw [e] at this; exact this
theorem Fv.congr {f' : Nat → Value} (F : Fv Z h a ty n f) (q : ∀ i, f i = f' i) : Fv Z h a ty n f' := by rw [← (funext q : f = f')]; exact F
theorem Fv.inb {c : Cell} (S : c.slots.size = n.toNatClampNeg) (q : ¬ j < 0 ∧ j < n) : ¬ (j < 0 ∨ c.slots.size ≤ j.toNatClampNeg) := inb_of S q
variable {p : Program} {l : Launch} {e : Env} {R : Room} {s : State} {m : MethodId} {args : Array Value} {below : List Frame} {meth : Method} {c : Code} {T : State} {locs : List Loc} {cells slots : Nat} {C S : Nat} {Q : Option Value → Heap → List Loc → Prop} {pc : Nat} {Ls : Array Slot} {rest : List Value}
theorem Go.alen (X : Stand p l e R s m args below meth c T locs cells slots) (hx : p.tables.exec = Jvm.exec) (hZ : Z.Warmed39 s.vm) (eT : T.heap = h) (F : Fv Z h a ty n f) (hd : decode c.code pc = .ok (.arraylength, 1))
    (k : Go p e below s C S Q T (mkF m (pc + 1) Ls (.int n :: rest))) : Go p e below s C S Q T (mkF m pc Ls (.ref a :: rest)) := by
  obtain ⟨cl, A, S', P, -, -⟩ := F
  refine Go.step (X.arraylength hx (cell := cl) (by rw [eT]; exact A.1) (State.isArrayOf_alike hZ.alike A.2.1) (g := mkF m pc Ls (.ref a :: rest)) rfl rfl hd) ?_
  rw [len_of S' P]; exact k
theorem Go.iaload {g : Nat → Int32} {v : Int32} (X : Stand p l e R s m args below meth c T locs cells slots) (hx : p.tables.exec = Jvm.exec) (hZ : Z.Warmed39 s.vm) (eT : T.heap = h) (F : Iv Z h a n g) (hj : ¬ j < 0 ∧ j < n) (hv : g j.toNatClampNeg = v) (hd : decode c.code pc = .ok (.iaload, 1))
    (k : Go p e below s C S Q T (mkF m (pc + 1) Ls (.int v :: rest))) : Go p e below s C S Q T (mkF m pc Ls (.int j :: .ref a :: rest)) := by
  obtain ⟨cl, A, S', P, G, H⟩ := F
  have q := inb_of S' hj
  exact Go.step (fun t r => X.iaload hx (j := j) (v := .int v) (by rw [eT]; exact A.1) (State.isArrayOf_alike hZ.alike A.2.1) A.2.2 q (by rw [← hv]; exact H _ (Nat.lt_of_not_le fun z => q (Or.inr z))) (g := mkF m pc Ls (.int j :: .ref a :: rest)) rfl rfl hd t r) k
theorem Go.daload {g : Nat → UInt64} {v : UInt64} (X : Stand p l e R s m args below meth c T locs cells slots) (hx : p.tables.exec = Jvm.exec) (hZ : Z.Warmed39 s.vm) (eT : T.heap = h) (F : Dv Z h a n g) (hj : ¬ j < 0 ∧ j < n) (hv : g j.toNatClampNeg = v) (hd : decode c.code pc = .ok (.daload, 1))
    (k : Go p e below s C S Q T (mkF m (pc + 1) Ls (.double v :: rest))) : Go p e below s C S Q T (mkF m pc Ls (.int j :: .ref a :: rest)) := by
  obtain ⟨cl, A, S', P, G, H⟩ := F
  have q := inb_of S' hj
  exact Go.step (fun t r => X.daload hx (j := j) (v := .double v) (by rw [eT]; exact A.1) (State.isArrayOf_alike hZ.alike A.2.1) A.2.2 q (by rw [← hv]; exact H _ (Nat.lt_of_not_le fun z => q (Or.inr z))) (g := mkF m pc Ls (.int j :: .ref a :: rest)) rfl rfl hd t r) k
theorem Go.iastore {g : Nat → Int32} {x : Int32} (X : Stand p l e R s m args below meth c T locs cells slots) (hx : p.tables.exec = Jvm.exec) (hZ : Z.Warmed39 s.vm) (eT : T.heap = h) (F : Iv Z h a n g) (hj : ¬ j < 0 ∧ j < n) (hd : decode c.code pc = .ok (.iastore, 1))
    (k : ∀ T' h', Stand p l e R s m args below meth c T' (locs ++ [⟨a, j.toNatClampNeg⟩]) cells slots → T'.heap = h' → Wr h h' a j.toNatClampNeg (.int x) → Iv Z h' a n (updN g j.toNatClampNeg x) → Go p e below s C S Q T' (mkF m (pc + 1) Ls rest)) : Go p e below s C S Q T (mkF m pc Ls (.int x :: .int j :: .ref a :: rest)) := by
  have F0 := F
  obtain ⟨cl, A, S', P, G, H⟩ := F
  obtain ⟨T', h', X', e', W, st⟩ := stI X hx hZ eT A (j := j) (x := x) (inb_of S' hj) (g := mkF m pc Ls (.int x :: .int j :: .ref a :: rest)) rfl rfl hd
  exact Go.step st (k T' h' X' e' W (Iv.set F0 W))
theorem Go.dastore {g : Nat → UInt64} {x : UInt64} (X : Stand p l e R s m args below meth c T locs cells slots) (hx : p.tables.exec = Jvm.exec) (hZ : Z.Warmed39 s.vm) (eT : T.heap = h) (F : Dv Z h a n g) (hj : ¬ j < 0 ∧ j < n) (hd : decode c.code pc = .ok (.dastore, 1))
    (k : ∀ T' h', Stand p l e R s m args below meth c T' (locs ++ [⟨a, j.toNatClampNeg⟩]) cells slots → T'.heap = h' → Wr h h' a j.toNatClampNeg (.double x) → Dv Z h' a n (updN g j.toNatClampNeg x) → Go p e below s C S Q T' (mkF m (pc + 1) Ls rest)) : Go p e below s C S Q T (mkF m pc Ls (.double x :: .int j :: .ref a :: rest)) := by
  have F0 := F
  obtain ⟨cl, A, S', P, G, H⟩ := F
  obtain ⟨T', h', X', e', W, st⟩ := stD X hx hZ eT A (j := j) (x := x) (inb_of S' hj) (g := mkF m pc Ls (.double x :: .int j :: .ref a :: rest)) rfl rfl hd
  exact Go.step st (k T' h' X' e' W (Dv.set F0 W))
abbrev Zv (Z : State) (h : Heap) (a : Addr) (n : Int32) (g : Nat → Int32) : Prop := Fv Z h a .boolean n (fun i => .int (g i))
theorem Zv.set {g : Nat → Int32} {x : Int32} (F : Zv Z h a n g) (W : Wr h h' a j.toNatClampNeg (.int x)) (hb : fits .boolean (.int x) = true) : Zv Z h' a n (updN g j.toNatClampNeg x) := by
  have := Fv.set F W hb
  have e : (updN (fun i => Value.int (g i)) j.toNatClampNeg (.int x)) = fun i => Value.int (updN g j.toNatClampNeg x i) := by
    funext i; unfold updN; split <;> rfl
  rw [e] at this; exact this
theorem Go.zaload {g : Nat → Int32} {v : Int32} (X : Stand p l e R s m args below meth c T locs cells slots) (hx : p.tables.exec = Jvm.exec) (hZ : Z.Warmed39 s.vm) (eT : T.heap = h) (F : Zv Z h a n g) (hj : ¬ j < 0 ∧ j < n) (hv : g j.toNatClampNeg = v) (hd : decode c.code pc = .ok (.baload, 1))
    (k : Go p e below s C S Q T (mkF m (pc + 1) Ls (.int v :: rest))) : Go p e below s C S Q T (mkF m pc Ls (.int j :: .ref a :: rest)) := by
  obtain ⟨cl, A, S', P, G, H⟩ := F
  have q := inb_of S' hj
  exact Go.step (fun t r => X.baloadBooleans hx (j := j) (v := .int v) (by rw [eT]; exact A.1) (State.isArrayOf_alike hZ.alike A.2.1) A.2.2 q (by rw [← hv]; exact H _ (Nat.lt_of_not_le fun z => q (Or.inr z))) (g := mkF m pc Ls (.int j :: .ref a :: rest)) rfl rfl hd t r) k
theorem Go.zastore {g : Nat → Int32} {x : Int32} (X : Stand p l e R s m args below meth c T locs cells slots) (hx : p.tables.exec = Jvm.exec) (hZ : Z.Warmed39 s.vm) (eT : T.heap = h) (F : Zv Z h a n g) (hj : ¬ j < 0 ∧ j < n) (hn : nar .boolean x = x) (hd : decode c.code pc = .ok (.bastore, 1))
    (k : ∀ T' h', Stand p l e R s m args below meth c T' (locs ++ [⟨a, j.toNatClampNeg⟩]) cells slots → T'.heap = h' → Wr h h' a j.toNatClampNeg (.int x) → Zv Z h' a n (updN g j.toNatClampNeg x) → Go p e below s C S Q T' (mkF m (pc + 1) Ls rest)) : Go p e below s C S Q T (mkF m pc Ls (.int x :: .int j :: .ref a :: rest)) := by
  have F0 := F
  obtain ⟨cl, A, S', P, G, H⟩ := F
  have hj' := inb_of S' hj
  obtain ⟨X', st⟩ := bastoreZ X hx (by rw [eT]; exact A.1) (State.isArrayOf_alike hZ.alike A.2.1) A.2.2 hj' (g := mkF m pc Ls (.int x :: .int j :: .ref a :: rest)) rfl rfl hd
  rw [hn] at X' st
  have W : Wr h (T.setCell a (cl.setSlot j.toNatClampNeg (.int x))).heap a j.toNatClampNeg (.int x) := ⟨cl, A.1, A.plain, Nat.lt_of_not_le fun q => hj' (Or.inr q), by rw [← eT]; rfl⟩
  exact Go.step st (k _ _ X' rfl W (Zv.set F0 W (by rw [← hn]; exact fits_nar_bool x)))
/-- clone() of an array -/
theorem Go.clone {a0 : Array Value} {own ad : String} {index W cap : Nat} (X : Stand p l e R s m args below meth c T locs cells slots) (hx : p.tables.exec = Jvm.exec) (hZ : Z.Warmed39 s.vm) (hml : Ls.size = c.maxLocals) (hown : s.vm.findClass own = some m.cls)
    (w1 : (Jvm.Cond.methodLink own index ⟨ad, "clone", "()Ljava/lang/Object;"⟩).before a0 Z = true) (w2 : (Jvm.Cond.sameMethod ad "java/lang/Object" "clone" "()Ljava/lang/Object;").before a0 Z = true) (w3 : (Jvm.Cond.native ⟨"java/lang/Object", "clone", "()Ljava/lang/Object;"⟩).before a0 Z = true)
    (w4 : (Jvm.Cond.instanceMethod ⟨"java/lang/Object", "clone", "()Ljava/lang/Object;"⟩).before a0 Z = true) (w5 : (Jvm.Cond.selects ad ⟨ad, "clone", "()Ljava/lang/Object;"⟩ ⟨"java/lang/Object", "clone", "()Ljava/lang/Object;"⟩).before a0 Z = true) (w6 : (Jvm.Cond.castable ad "java/lang/Cloneable").before a0 Z = true)
    (eT : T.heap = h) (F : Fv Z h a ty n f) (E : Exa Z h a ad) (hd : decode c.code pc = .ok (.invokevirtual index, 3)) (hf : 1 ≤ R.frames) (hW : (rest.map fun v => v.category).sum ≤ W) (hl : W + 14 ≤ R.locals) (hcap : n.toNatClampNeg ≤ cap) (hc : cells + 1 ≤ R.cells) (hsl : slots + cap ≤ R.slots)
    (k : ∀ T' h' b, b = h.size → Stand p l e R s m args below meth c T' locs (cells + 1) (slots + cap) → T'.heap = h' → Ext h h' → Fv Z h' b ty n f → Exa Z h' b ad → Go p e below s C S Q T' (mkF m (pc + 3) Ls (.ref b :: rest))) : Go p e below s C S Q T (mkF m pc Ls (.ref a :: rest)) := by
  obtain ⟨cl, A, S', P, G, H⟩ := F
  have FC : FitC Z cl := fitC_of A fun i hi v hv => by rw [H i hi] at hv; cases hv; exact G i
  obtain ⟨T', h', X', e', ex, A', E', st⟩ := cloneA X hx hZ hown w1 w2 w3 w4 w5 w6 eT A E FC (g := mkF m pc Ls (.ref a :: rest)) rfl hml rfl hd hf (by show 2 * 0 + _ ≤ _; omega) hl (by rw [S']; exact hcap) hc hsl
  exact Go.step st (k T' h' _ rfl X' e' ex ⟨cloneOf cl, A', S', P, G, H⟩ E')
end OwnFv

section OwnConv
open Jvm.FP.Core
theorem own_nnN {a : UInt64} (h : val64 a ≠ .nan) : Jvm.Free.Fl.NoNaN64 a := Jvm.Free.Fl.noNaN64_no.mpr ((notNaN_iff a).mpr h)
theorem own_Nnn {a : UInt64} (h : Jvm.Free.Fl.NoNaN64 a) : val64 a ≠ .nan := (notNaN_iff a).mp (Jvm.Free.Fl.noNaN64_no.mp h)
theorem own_finF {a : UInt64} (h : DFin a) : Jvm.Free.Fl.Fin64 a := Jvm.Free.Fl.fin64_core.mpr h
theorem own_Ffin {a : UInt64} (h : Jvm.Free.Fl.Fin64 a) : DFin a := Jvm.Free.Fl.fin64_core.mp h
theorem own_nnF {a : UInt64} (h : DFin a) : Jvm.Free.Fl.NoNaN64 a := own_nnN h.ne_nan
theorem own_nz {x : Int64} (h : x ≠ 0) : Jvm.Free.Fl.Nz64 (FP.l2d x) := Jvm.Free.Fl.nz64_core.mpr (fun z => l2d_ne_zero h ((zero_bits2 _).mp z))
theorem own_eqD {a b : UInt64} (h : a = b) (n : Jvm.Free.Fl.NoNaN64 a) : FP.dcmp a b = some .eq := by subst h; exact dcmp_self (own_Nnn n)
end OwnConv

section OwnSl
def slopeW (i n : Int32) (g : Nat → UInt64) : UInt64 := if i < n then g (i).toNatClampNeg else 0
theorem own_n (x : Int32) : (x &&& (3 : Int32)) = 0 ∨ (x &&& (3 : Int32)) = 1 ∨ (x &&& (3 : Int32)) = 2 ∨ (x &&& (3 : Int32)) = 3 := by
  have h := c_mask x 3 2 (by decide) (by decide)
  simp only [← Int32.toInt_inj, show (0 : Int32).toInt = 0 from rfl, show (1 : Int32).toInt = 1 from rfl, show (2 : Int32).toInt = 2 from rfl, show (3 : Int32).toInt = 3 from rfl]
  omega
theorem own_v1 (x : Int32) : ¬ (x &&& (2147483647 : Int32)) < (0 : Int32) := by
  have h := c_mask x 2147483647 31 (by decide) (by decide)
  rw [Int32.lt_iff_toInt_lt, show (0 : Int32).toInt = 0 from rfl]; omega
theorem own_v2 (x : Int32) : ¬ (x &&& (3 : Int32)) < (0 : Int32) := by
  have h := c_mask x 3 2 (by decide) (by decide)
  rw [Int32.lt_iff_toInt_lt, show (0 : Int32).toInt = 0 from rfl]; omega
theorem own_eqI {x : UInt64} {p : Int32} (h : x = FP.i2d p) : FP.dcmp x (FP.i2d p) = some .eq := by rw [h]; exact Jvm.FP.Core.dcmp_self (Jvm.FP.Core.i2d_fin p).ne_nan
theorem own_sw {i n : Int32} {g : Nat → UInt64} {x : UInt64} {k : Int32} (h : i < n) (hk : i = k) (hx : g (k).toNatClampNeg = x) : slopeW i n g = x := by rw [slopeW, if_pos h, hk]; exact hx
theorem own_sw0 {i n : Int32} {g : Nat → UInt64} (h : ¬ i < n) : FP.dcmp (slopeW i n g) (0 : UInt64) = some .eq := by rw [slopeW, if_neg h]; decide +kernel
theorem own_i1 {v : Int32} (h0 : ¬ v < (0 : Int32)) (h1 : v < (1 : Int32)) (h2 : ¬ v = (0 : Int32)) : False := by
  rw [Int32.lt_iff_toInt_lt] at h0 h1; rw [← Int32.toInt_inj] at h2
  rw [show (0 : Int32).toInt = 0 from rfl] at h0 h2; rw [show (1 : Int32).toInt = 1 from rfl] at h1; omega
theorem own_i2 {v : Int32} (h0 : ¬ v < (0 : Int32)) (h1 : v < (2 : Int32)) (h2 : ¬ v = (0 : Int32)) (h3 : ¬ v = (1 : Int32)) : False := by
  rw [Int32.lt_iff_toInt_lt] at h0 h1; rw [← Int32.toInt_inj] at h2 h3
  rw [show (0 : Int32).toInt = 0 from rfl] at h0 h2; rw [show (2 : Int32).toInt = 2 from rfl] at h1; rw [show (1 : Int32).toInt = 1 from rfl] at h3; omega
theorem own_i3 {v : Int32} (h0 : ¬ v < (0 : Int32)) (h1 : v < (3 : Int32)) (h2 : ¬ v = (0 : Int32)) (h3 : ¬ v = (1 : Int32)) : v = (2 : Int32) := by
  rw [Int32.lt_iff_toInt_lt] at h0 h1; rw [← Int32.toInt_inj] at h2 h3 ⊢
  rw [show (0 : Int32).toInt = 0 from rfl] at h0 h2; rw [show (3 : Int32).toInt = 3 from rfl] at h1; rw [show (1 : Int32).toInt = 1 from rfl] at h3; rw [show (2 : Int32).toInt = 2 from rfl]; omega
end OwnSl
theorem d3_0 : decode jdk_117_method_8_code 0 = .ok (.dload_n 0, 1) := by decide +kernel
theorem pd_0 : parseMethodDescriptor "(D)D" = some ⟨[.double], some .double⟩ := by decide +kernel
theorem d3_1 : decode jdk_117_method_8_code 1 = .ok (.invokestatic 38, 3) := by decide +kernel
theorem d3_4 : decode jdk_117_method_8_code 4 = .ok (.ldc2_w 111, 3) := by decide +kernel
theorem d3_7 : decode jdk_117_method_8_code 7 = .ok (.dcmp .g, 1) := by decide +kernel
theorem d3_8 : decode jdk_117_method_8_code 8 = .ok (.ifCond .gt 7, 3) := by decide +kernel
theorem d3_11 : decode jdk_117_method_8_code 11 = .ok (.iconst 1, 1) := by decide +kernel
theorem d3_12 : decode jdk_117_method_8_code 12 = .ok (.goto 4, 3) := by decide +kernel
theorem d3_16 : decode jdk_117_method_8_code 16 = .ok (.ireturn, 1) := by decide +kernel
set_option maxRecDepth 65536 in
set_option maxHeartbeats 40000000 in
theorem w3 {p : Program} {l : Launch} {e : Env} {s : State} {m : MethodId} {args : Array Value} {below : List Frame} {meth : Method} {c_ : Code} {T0 : State} {locs : List Loc} {Z : State} {a0 : Array Value} {h0 : Heap} {n0 : Nat} (v : UInt64)
    (X0 : Stand p l e ({ frames := 1, cells := 0, slots := 0, locals := 13 } : Room) s m args below meth c_ T0 locs 0 0) (hx : p.tables.exec = Jvm.exec) (hZ : Z.Warmed39 s.vm) (hw : ∀ d ∈ tables_1, d.before a0 Z = true) (hby : c_.code = jdk_117_method_8_code) (hml : c_.maxLocals = 2) (hown : s.vm.findClass "java/lang/Double" = some m.cls) (hnm : meth.name = "isFinite") (hret : meth.sig.returnType = some .boolean) (hlk : meth.locks = false) (e0 : T0.heap = h0) (Z0 : n0 ≤ h0.size) (N0 : Fr n0 locs) (hf : Jvm.Free.Fl.Fin64 v) :
    Go p e below s ({ frames := 1, cells := 0, slots := 0, locals := 13 } : Room).cells ({ frames := 1, cells := 0, slots := 0, locals := 13 } : Room).slots (fun r h L => r = some (.int 1) ∧ Fr n0 L ∧ h = h0) T0 (mkF m 0 #[.val (.double v), .second] []) := by
  show Go _ _ _ _ _ _ _ T0 (mkF m 0 #[.val (.double v), .second] [])
  refine Go.step (fun _ k => XS.dloadN X0.here hx rfl (hb hby d3_0) rfl k) ?_
  show Go _ _ _ _ _ _ _ T0 (mkF m 1 #[.val (.double v), .second] [(.double v)])
  obtain ⟨T1, X1, e1, st1⟩ := natS X0 hx hZ (y := (⟨"java/lang/Math", "abs", "(D)D"⟩ : MethodName)) hown (hw _ (List.mem_of_getElem? (i := 14) rfl)) (hw _ (List.mem_of_getElem? (i := 15) rfl)) (hw _ (List.mem_of_getElem? (i := 16) rfl)) (hw _ (List.mem_of_getElem? (i := 17) rfl)) (by decide) e0 (W := 0) (F := fun a' => a' = #[.double v] ∧ Jvm.Free.Fl.NoNaN64 v) (val' := (.double (v &&& 0x7fffffffffffffff))) (fun hc => Jvm.Free.Fl.Abs.absD_pays v hc (by decide) (by decide)) (g := (mkF m 1 #[.val (.double v), .second] [(.double v)])) rfl (by rw [hml]; rfl) (argsL := [(.double v)]) (rest := []) (lenOf pd_0 rfl) rfl (by show 2 * 0 + _ ≤ _; exact Nat.le_of_eq rfl) (hb hby d3_1) (by decide) (by decide) ⟨rfl, hf.noNaN⟩ rfl
  refine Go.step st1 ?_
  show Go _ _ _ _ _ _ _ T1 (mkF m 4 #[.val (.double v), .second] [(.double (v &&& 0x7fffffffffffffff))])
  refine Go.step (X1.ldc2DoubleC hx hown (mvT hZ (hw _ (List.mem_of_getElem? (i := 18) rfl))) (g := (mkF m 4 #[.val (.double v), .second] [(.double (v &&& 0x7fffffffffffffff))])) rfl (hb hby d3_4)) ?_
  show Go _ _ _ _ _ _ _ T1 (mkF m 7 #[.val (.double v), .second] [(.double (9218868437227405311 : UInt64)), (.double (v &&& 0x7fffffffffffffff))])
  refine Go.step (fun _ k => XS.dcmpS X1.here hx rfl (hb hby d3_7) rfl rfl k) ?_
  show Go _ _ _ _ _ _ _ T1 (mkF m 8 #[.val (.double v), .second] [(.int (cmpValue (FP.dcmp (v &&& 0x7fffffffffffffff) (9218868437227405311 : UInt64)) .g))])
  refine Go.step (fun _ k => XS.ifNo X1.here hx rfl (hb hby d3_8) rfl (le_y ((Jvm.FP.Core.le_max (own_Ffin hf).notNaN).mpr (own_Ffin hf))) k) ?_
  show Go _ _ _ _ _ _ _ T1 (mkF m 11 #[.val (.double v), .second] [])
  refine Go.step (fun _ k => XS.iconst X1.here hx rfl (hb hby d3_11) k) ?_
  show Go _ _ _ _ _ _ _ T1 (mkF m 12 #[.val (.double v), .second] [(.int (1 : Int32))])
  refine Go.step (fun _ k => XS.goto X1.here hx rfl (pc0 := 12) (pc' := 16) rfl (hb hby d3_12) (by decide) (by decide) k) ?_
  show Go _ _ _ _ _ _ _ T1 (mkF m 16 #[.val (.double v), .second] [(.int (1 : Int32))])
  refine Go.retZ X1 hx hlk hret (by decide) (hb hby d3_16) (by decide) (by decide) ?_
  try rw [e1]
  exact ⟨rfl, N0, rfl⟩
theorem pn_3 : plainName "java/lang/Double" = true := by first | (simp [plainName, overriddenIn]; done) | decide +kernel
theorem ef_rm3 (m : MethodId) (v : UInt64) : entryFrame m #[(.double v)] 2 = mkF m 0 #[.val (.double v), .second] [] := by first | (simp [entryFrame, mkF, argsToLocals, Value.category]; done) | rfl
theorem rm3 (l : Launch) (Z : State) (a0 : Array Value) (hw : ∀ d ∈ tables_1, d.before a0 Z = true) (v : UInt64) (h0 : Heap) (n0 : Nat) (Z0 : n0 ≤ h0.size) (hf : Jvm.Free.Fl.Fin64 v) :
    Con l Z (⟨"java/lang/Double", "isFinite", "(D)Z"⟩ : MethodName) jdk_117_method_8_code 2 (some .boolean) ({ frames := 1, cells := 0, slots := 0, locals := 13 } : Room) #[(.double v)] h0 (fun r h L => r = some (.int 1) ∧ Fr n0 L ∧ h = h0) :=
  con_of (plainFor_of_name pn_3) (fun p_ e_ s_ m_ b_ meth_ c_ T_ X_ hx hZ hby hml hown hnm hret hlk e0 => Go.cast (ef_rm3 m_ v) (w3 v X_ hx hZ hw hby hml hown hnm hret hlk e0 Z0 (Fr.nil n0) hf))
theorem d1_0 : decode prog_28_method_1_code 0 = .ok (.aload_n 0, 1) := by decide +kernel
theorem d1_1 : decode prog_28_method_1_code 1 = .ok (.invokespecial 1, 3) := by decide +kernel
theorem d1_4 : decode prog_28_method_1_code 4 = .ok (.aload_n 1, 1) := by decide +kernel
theorem d1_5 : decode prog_28_method_1_code 5 = .ok (.astore 4, 2) := by decide +kernel
theorem d1_7 : decode prog_28_method_1_code 7 = .ok (.aload 4, 2) := by decide +kernel
theorem d1_9 : decode prog_28_method_1_code 9 = .ok (.arraylength, 1) := by decide +kernel
theorem d1_10 : decode prog_28_method_1_code 10 = .ok (.istore 5, 2) := by decide +kernel
theorem d1_12 : decode prog_28_method_1_code 12 = .ok (.iconst 0, 1) := by decide +kernel
theorem d1_13 : decode prog_28_method_1_code 13 = .ok (.istore 6, 2) := by decide +kernel
theorem d1_15 : decode prog_28_method_1_code 15 = .ok (.iload 6, 2) := by decide +kernel
theorem d1_17 : decode prog_28_method_1_code 17 = .ok (.iload 5, 2) := by decide +kernel
theorem d1_19 : decode prog_28_method_1_code 19 = .ok (.if_icmp .ge 39, 3) := by decide +kernel
theorem d1_58 : decode prog_28_method_1_code 58 = .ok (.dload_n 2, 1) := by decide +kernel
theorem d1_59 : decode prog_28_method_1_code 59 = .ok (.invokestatic 7, 3) := by decide +kernel
theorem pd_1 : parseMethodDescriptor "(D)Z" = some ⟨[.double], some .boolean⟩ := by decide +kernel
theorem d1_62 : decode prog_28_method_1_code 62 = .ok (.ifCond .ne 17, 3) := by decide +kernel
theorem d1_79 : decode prog_28_method_1_code 79 = .ok (.aload_n 0, 1) := by decide +kernel
theorem d1_80 : decode prog_28_method_1_code 80 = .ok (.aload_n 1, 1) := by decide +kernel
theorem d1_81 : decode prog_28_method_1_code 81 = .ok (.invokevirtual 23, 3) := by decide +kernel
theorem d1_84 : decode prog_28_method_1_code 84 = .ok (.checkcast 24, 3) := by decide +kernel
theorem d1_87 : decode prog_28_method_1_code 87 = .ok (.putfield 29, 3) := by decide +kernel
theorem d1_90 : decode prog_28_method_1_code 90 = .ok (.aload_n 0, 1) := by decide +kernel
theorem d1_91 : decode prog_28_method_1_code 91 = .ok (.dload_n 2, 1) := by decide +kernel
theorem d1_92 : decode prog_28_method_1_code 92 = .ok (.putfield 34, 3) := by decide +kernel
theorem d1_95 : decode prog_28_method_1_code 95 = .ok (.return_, 1) := by decide +kernel
set_option maxRecDepth 65536 in
set_option maxHeartbeats 40000000 in
theorem w1_0 {p : Program} {l : Launch} {e : Env} {s : State} {m : MethodId} {args : Array Value} {below : List Frame} {meth : Method} {c_ : Code} {T0 : State} {locs : List Loc} {Z : State} {a0 : Array Value} {h0 : Heap} {n0 : Nat} (a q : Addr) (g : Nat → UInt64)
    (X0 : Stand p l e ({ frames := 2, cells := 1, slots := 0, locals := 40 } : Room) s m args below meth c_ T0 locs 0 0) (hx : p.tables.exec = Jvm.exec) (hZ : Z.Warmed39 s.vm) (hw : ∀ d ∈ tables_1, d.before a0 Z = true) (hby : c_.code = prog_28_method_1_code) (hml : c_.maxLocals = 9) (hown : s.vm.findClass "com/example/leapwise/leapwise/polytope/HalfSpace" = some m.cls) (hnm : meth.name = "<init>") (hret : meth.sig.returnType = none) (hlk : meth.locks = false) (e0 : T0.heap = h0) (Z0 : n0 ≤ h0.size) (N0 : Fr n0 locs) (E_a : Exa Z h0 a "com/example/leapwise/leapwise/polytope/HalfSpace") (F_coefficients_a : Fld Z h0 a "com/example/leapwise/leapwise/polytope/HalfSpace" "coefficients" "[D" .null) (F_bound_a : Fld Z h0 a "com/example/leapwise/leapwise/polytope/HalfSpace" "bound" "D" (.double (0 : UInt64))) (E_q : Exa Z h0 q "[D") (V_q : Dv Z h0 q (0 : Int32) g) (ge_a : n0 ≤ a) (ne_a_q : a ≠ q) (hf : ∀ i, i < 0 → Jvm.Free.Fl.Fin64 (g i)) :
    Go p e below s ({ frames := 2, cells := 1, slots := 0, locals := 40 } : Room).cells ({ frames := 2, cells := 1, slots := 0, locals := 40 } : Room).slots (fun r h L => r = none ∧ Fr n0 L ∧ Keep h0 h [a] ∧ Exa Z h a "com/example/leapwise/leapwise/polytope/HalfSpace" ∧ ∃ c : Addr, Fld Z h a "com/example/leapwise/leapwise/polytope/HalfSpace" "coefficients" "[D" (.ref c) ∧ Dv Z h c (0 : Int32) g ∧ h0.size ≤ c) T0 (mkF m 0 #[.val (.ref a), .val (.ref q), .val (.double (0 : UInt64)), .second, .unset, .unset, .unset, .unset, .unset] []) := by
  show Go _ _ _ _ _ _ _ T0 (mkF m 0 #[.val (.ref a), .val (.ref q), .val (.double (0 : UInt64)), .second, .unset, .unset, .unset, .unset, .unset] [])
  refine Go.step (fun _ k => XS.aloadN X0.here hx rfl (hb hby d1_0) rfl rfl k) ?_
  show Go _ _ _ _ _ _ _ T0 (mkF m 1 #[.val (.ref a), .val (.ref q), .val (.double (0 : UInt64)), .second, .unset, .unset, .unset, .unset, .unset] [(.ref a)])
  obtain ⟨T1, X1, e1, st1⟩ := initO X0 hx hZ hown (hw _ (List.mem_of_getElem? (i := 7) rfl)) (hw _ (List.mem_of_getElem? (i := 8) rfl)) (hw _ (List.mem_of_getElem? (i := 9) rfl)) e0 (g := (mkF m 1 #[.val (.ref a), .val (.ref q), .val (.double (0 : UInt64)), .second, .unset, .unset, .unset, .unset, .unset] [(.ref a)])) rfl (by rw [hml]; rfl) rfl (hb hby d1_1) (by decide) (W := 0) (by show 2 * 0 + _ ≤ _; exact Nat.le_of_eq rfl) (by decide)
  refine Go.step st1 ?_
  show Go _ _ _ _ _ _ _ T1 (mkF m 4 #[.val (.ref a), .val (.ref q), .val (.double (0 : UInt64)), .second, .unset, .unset, .unset, .unset, .unset] [])
  refine Go.step (fun _ k => XS.aloadN X1.here hx rfl (hb hby d1_4) rfl rfl k) ?_
  show Go _ _ _ _ _ _ _ T1 (mkF m 5 #[.val (.ref a), .val (.ref q), .val (.double (0 : UInt64)), .second, .unset, .unset, .unset, .unset, .unset] [(.ref q)])
  refine Go.step (fun _ k => XS.astore X1.here hx rfl (hb hby d1_5) rfl rfl (l' := #[.val (.ref a), .val (.ref q), .val (.double (0 : UInt64)), .second, .val (.ref q), .unset, .unset, .unset, .unset]) rfl k) ?_
  show Go _ _ _ _ _ _ _ T1 (mkF m 7 #[.val (.ref a), .val (.ref q), .val (.double (0 : UInt64)), .second, .val (.ref q), .unset, .unset, .unset, .unset] [])
  refine Go.step (fun _ k => XS.aload X1.here hx rfl (hb hby d1_7) rfl rfl k) ?_
  show Go _ _ _ _ _ _ _ T1 (mkF m 9 #[.val (.ref a), .val (.ref q), .val (.double (0 : UInt64)), .second, .val (.ref q), .unset, .unset, .unset, .unset] [(.ref q)])
  refine Go.alen X1 hx hZ e1 V_q (hb hby d1_9) ?_
  show Go _ _ _ _ _ _ _ T1 (mkF m 10 #[.val (.ref a), .val (.ref q), .val (.double (0 : UInt64)), .second, .val (.ref q), .unset, .unset, .unset, .unset] [(.int (0 : Int32))])
  refine Go.step (fun _ k => XS.istore X1.here hx rfl (hb hby d1_10) rfl (l' := #[.val (.ref a), .val (.ref q), .val (.double (0 : UInt64)), .second, .val (.ref q), .val (.int (0 : Int32)), .unset, .unset, .unset]) rfl k) ?_
  show Go _ _ _ _ _ _ _ T1 (mkF m 12 #[.val (.ref a), .val (.ref q), .val (.double (0 : UInt64)), .second, .val (.ref q), .val (.int (0 : Int32)), .unset, .unset, .unset] [])
  refine Go.step (fun _ k => XS.iconst X1.here hx rfl (hb hby d1_12) k) ?_
  show Go _ _ _ _ _ _ _ T1 (mkF m 13 #[.val (.ref a), .val (.ref q), .val (.double (0 : UInt64)), .second, .val (.ref q), .val (.int (0 : Int32)), .unset, .unset, .unset] [(.int (0 : Int32))])
  refine Go.step (fun _ k => XS.istore X1.here hx rfl (hb hby d1_13) rfl (l' := #[.val (.ref a), .val (.ref q), .val (.double (0 : UInt64)), .second, .val (.ref q), .val (.int (0 : Int32)), .val (.int (0 : Int32)), .unset, .unset]) rfl k) ?_
  show Go _ _ _ _ _ _ _ T1 (mkF m 15 #[.val (.ref a), .val (.ref q), .val (.double (0 : UInt64)), .second, .val (.ref q), .val (.int (0 : Int32)), .val (.int (0 : Int32)), .unset, .unset] [])
  refine Go.step (fun _ k => XS.iload X1.here hx rfl (hb hby d1_15) rfl k) ?_
  show Go _ _ _ _ _ _ _ T1 (mkF m 17 #[.val (.ref a), .val (.ref q), .val (.double (0 : UInt64)), .second, .val (.ref q), .val (.int (0 : Int32)), .val (.int (0 : Int32)), .unset, .unset] [(.int (0 : Int32))])
  refine Go.step (fun _ k => XS.iload X1.here hx rfl (hb hby d1_17) rfl k) ?_
  show Go _ _ _ _ _ _ _ T1 (mkF m 19 #[.val (.ref a), .val (.ref q), .val (.double (0 : UInt64)), .second, .val (.ref q), .val (.int (0 : Int32)), .val (.int (0 : Int32)), .unset, .unset] [(.int (0 : Int32)), (.int (0 : Int32))])
  refine Go.step (fun _ k => XS.icmpYes X1.here hx rfl (pc0 := 19) (pc' := 58) rfl (hb hby d1_19) rfl (flt (by decide : ¬ ((0 : Int32) < (0 : Int32)))).2.1 (by decide) (by decide) k) ?_
  show Go _ _ _ _ _ _ _ T1 (mkF m 58 #[.val (.ref a), .val (.ref q), .val (.double (0 : UInt64)), .second, .val (.ref q), .val (.int (0 : Int32)), .val (.int (0 : Int32)), .unset, .unset] [])
  refine Go.step (fun _ k => XS.dloadN X1.here hx rfl (hb hby d1_58) rfl k) ?_
  show Go _ _ _ _ _ _ _ T1 (mkF m 59 #[.val (.ref a), .val (.ref q), .val (.double (0 : UInt64)), .second, .val (.ref q), .val (.int (0 : Int32)), .val (.int (0 : Int32)), .unset, .unset] [(.double (0 : UInt64))])
  refine Go.callS X1 hx hZ (by rw [hml]; rfl) (y := (⟨"java/lang/Double", "isFinite", "(D)Z"⟩ : MethodName)) (argsL := [(.double (0 : UInt64))]) (rest := []) hown (hw _ (List.mem_of_getElem? (i := 10) rfl)) (hw _ (List.mem_of_getElem? (i := 11) rfl)) (hw _ (List.mem_of_getElem? (i := 12) rfl)) (hw _ (List.mem_of_getElem? (i := 13) rfl)) (by decide) (rm3 l Z a0 hw (0 : UInt64) h0 n0 Z0 (by first | decide +kernel | (unfold Jvm.Free.Fl.Fin64; decide +kernel) | (unfold Jvm.Free.Fl.Nz64; decide +kernel) | (unfold Jvm.Free.Fl.NoNaN64; decide +kernel))) e1 (hb hby d1_59) (lenOf pd_1 rfl) rfl rfl (W := 0) (Nat.le_of_eq rfl) (by decide) (by decide) (by decide) (by decide) ?_
  intro v2 T2 L2 X2 Q2
  obtain ⟨rfl, N2q, hh2⟩ := Q2
  have N2 := Fr.app N0 N2q
  show Go _ _ _ _ _ _ _ T2 (mkF m 62 #[.val (.ref a), .val (.ref q), .val (.double (0 : UInt64)), .second, .val (.ref q), .val (.int (0 : Int32)), .val (.int (0 : Int32)), .unset, .unset] [(.int (1 : Int32))])
  refine Go.step (fun _ k => XS.ifYes X2.here hx rfl (pc0 := 62) (pc' := 79) rfl (hb hby d1_62) rfl ((if0 _ _).trans (feq (by decide : ¬ ((1 : Int32) = (0 : Int32)))).2) (by decide) (by decide) k) ?_
  show Go _ _ _ _ _ _ _ T2 (mkF m 79 #[.val (.ref a), .val (.ref q), .val (.double (0 : UInt64)), .second, .val (.ref q), .val (.int (0 : Int32)), .val (.int (0 : Int32)), .unset, .unset] [])
  refine Go.step (fun _ k => XS.aloadN X2.here hx rfl (hb hby d1_79) rfl rfl k) ?_
  show Go _ _ _ _ _ _ _ T2 (mkF m 80 #[.val (.ref a), .val (.ref q), .val (.double (0 : UInt64)), .second, .val (.ref q), .val (.int (0 : Int32)), .val (.int (0 : Int32)), .unset, .unset] [(.ref a)])
  refine Go.step (fun _ k => XS.aloadN X2.here hx rfl (hb hby d1_80) rfl rfl k) ?_
  show Go _ _ _ _ _ _ _ T2 (mkF m 81 #[.val (.ref a), .val (.ref q), .val (.double (0 : UInt64)), .second, .val (.ref q), .val (.int (0 : Int32)), .val (.int (0 : Int32)), .unset, .unset] [(.ref q), (.ref a)])
  refine Go.clone X2 hx hZ (by rw [hml]; rfl) hown (hw _ (List.mem_of_getElem? (i := 19) rfl)) (hw _ (List.mem_of_getElem? (i := 20) rfl)) (hw _ (List.mem_of_getElem? (i := 24) rfl)) (hw _ (List.mem_of_getElem? (i := 22) rfl)) (hw _ (List.mem_of_getElem? (i := 23) rfl)) (hw _ (List.mem_of_getElem? (i := 25) rfl)) hh2 V_q E_q (hb hby d1_81) (by decide) (W := 1) (Nat.le_of_eq rfl) (by decide) (cap := 0) (by decide) (by decide) (by decide) ?_
  intro T3 h3 b3 g3 X3 e3 E3 Vc3 Ec3
  have K3 : Keep h0 h3 [a] := (Keep.refl h0 [a]).ext E3
  have sz_b3 : h0.size ≤ b3 := Nat.le_trans ((Keep.refl h0 [a]) : Keep h0 h0 [a]).1 (Nat.le_of_eq g3.symm)
  have ge_b3 : n0 ≤ b3 := Nat.le_trans Z0 sz_b3
  have ne_a_b3 : a ≠ b3 := Nat.ne_of_lt (Nat.lt_of_lt_of_le E_a.lt (Nat.le_of_eq g3.symm))
  have ne_q_b3 : q ≠ b3 := Nat.ne_of_lt (Nat.lt_of_lt_of_le E_q.lt (Nat.le_of_eq g3.symm))
  have E_a_3 := E_a.ext E3
  have F_coefficients_a_3 := F_coefficients_a.ext E3
  have F_bound_a_3 := F_bound_a.ext E3
  have E_q_3 := E_q.ext E3
  have V_q_3 := V_q.ext E3
  show Go _ _ _ _ _ _ _ T3 (mkF m 84 #[.val (.ref a), .val (.ref q), .val (.double (0 : UInt64)), .second, .val (.ref q), .val (.int (0 : Int32)), .val (.int (0 : Int32)), .unset, .unset] [(.ref b3), (.ref a)])
  obtain ⟨T4, X4, e4, st4⟩ := castY X3 hx hZ hown (hw _ (List.mem_of_getElem? (i := 26) rfl)) e3 (Ins.self Ec3) (g := (mkF m 84 #[.val (.ref a), .val (.ref q), .val (.double (0 : UInt64)), .second, .val (.ref q), .val (.int (0 : Int32)), .val (.int (0 : Int32)), .unset, .unset] [(.ref b3), (.ref a)])) rfl rfl (hb hby d1_84)
  refine Go.step st4 ?_
  show Go _ _ _ _ _ _ _ T4 (mkF m 87 #[.val (.ref a), .val (.ref q), .val (.double (0 : UInt64)), .second, .val (.ref q), .val (.int (0 : Int32)), .val (.int (0 : Int32)), .unset, .unset] [(.ref b3), (.ref a)])
  obtain ⟨T5, h5, X5, e5, W5, st5⟩ := putF X4 hx hZ hown (host := "") (Or.inl (hw _ (List.mem_of_getElem? (i := 28) rfl))) Via.refl e4 F_coefficients_a_3 E_a_3 (Or.inr ⟨(hw _ (List.mem_of_getElem? (i := 29) rfl)), rfl, hnm⟩) (hw _ (List.mem_of_getElem? (i := 2) rfl)) (ty := (.array .double)) (by decide) rfl rfl (g := (mkF m 87 #[.val (.ref a), .val (.ref q), .val (.double (0 : UInt64)), .second, .val (.ref q), .val (.int (0 : Int32)), .val (.int (0 : Int32)), .unset, .unset] [(.ref b3), (.ref a)])) rfl rfl (hb hby d1_87)
  refine Go.step st5 ?_
  have N5 := Fr.snoc X5 N2 ge_a
  have F_coefficients_a_5 := F_coefficients_a_3.same W5
  have E_a_5 := E_a_3.wr W5
  have F_bound_a_5 := F_bound_a_3.other W5 (Or.inr (slot_ne (Or.inr (hw _ (List.mem_of_getElem? (i := 31) rfl))) (Or.inr (hw _ (List.mem_of_getElem? (i := 29) rfl))) (by decide) (t := .double) (t' := (.array .double)) (by decide) (by decide)))
  have E_q_5 := E_q_3.wr W5
  have V_q_5 := V_q_3.other W5 (Ne.symm ne_a_q)
  have Vc3_5 := Vc3.other W5 (Ne.symm ne_a_b3)
  have Ec3_5 := Ec3.wr W5
  have K5 : Keep h0 h5 [a] := K3.wr W5 (Or.inl (List.mem_of_getElem? (i := 0) rfl))
  show Go _ _ _ _ _ _ _ T5 (mkF m 90 #[.val (.ref a), .val (.ref q), .val (.double (0 : UInt64)), .second, .val (.ref q), .val (.int (0 : Int32)), .val (.int (0 : Int32)), .unset, .unset] [])
  refine Go.step (fun _ k => XS.aloadN X5.here hx rfl (hb hby d1_90) rfl rfl k) ?_
  show Go _ _ _ _ _ _ _ T5 (mkF m 91 #[.val (.ref a), .val (.ref q), .val (.double (0 : UInt64)), .second, .val (.ref q), .val (.int (0 : Int32)), .val (.int (0 : Int32)), .unset, .unset] [(.ref a)])
  refine Go.step (fun _ k => XS.dloadN X5.here hx rfl (hb hby d1_91) rfl k) ?_
  show Go _ _ _ _ _ _ _ T5 (mkF m 92 #[.val (.ref a), .val (.ref q), .val (.double (0 : UInt64)), .second, .val (.ref q), .val (.int (0 : Int32)), .val (.int (0 : Int32)), .unset, .unset] [(.double (0 : UInt64)), (.ref a)])
  obtain ⟨T6, h6, X6, e6, W6, st6⟩ := putF X5 hx hZ hown (host := "") (Or.inl (hw _ (List.mem_of_getElem? (i := 30) rfl))) Via.refl e5 F_bound_a_5 E_a_5 (Or.inr ⟨(hw _ (List.mem_of_getElem? (i := 31) rfl)), rfl, hnm⟩) (hw _ (List.mem_of_getElem? (i := 2) rfl)) (ty := .double) (by decide) rfl rfl (g := (mkF m 92 #[.val (.ref a), .val (.ref q), .val (.double (0 : UInt64)), .second, .val (.ref q), .val (.int (0 : Int32)), .val (.int (0 : Int32)), .unset, .unset] [(.double (0 : UInt64)), (.ref a)])) rfl rfl (hb hby d1_92)
  refine Go.step st6 ?_
  have N6 := Fr.snoc X6 N5 ge_a
  have F_bound_a_6 := F_bound_a_5.same W6
  have E_a_6 := E_a_5.wr W6
  have F_coefficients_a_6 := F_coefficients_a_5.other W6 (Or.inr (slot_ne (Or.inr (hw _ (List.mem_of_getElem? (i := 29) rfl))) (Or.inr (hw _ (List.mem_of_getElem? (i := 31) rfl))) (by decide) (t := (.array .double)) (t' := .double) (by decide) (by decide)))
  have E_q_6 := E_q_5.wr W6
  have V_q_6 := V_q_5.other W6 (Ne.symm ne_a_q)
  have Vc3_6 := Vc3_5.other W6 (Ne.symm ne_a_b3)
  have Ec3_6 := Ec3_5.wr W6
  have K6 : Keep h0 h6 [a] := K5.wr W6 (Or.inl (List.mem_of_getElem? (i := 0) rfl))
  show Go _ _ _ _ _ _ _ T6 (mkF m 95 #[.val (.ref a), .val (.ref q), .val (.double (0 : UInt64)), .second, .val (.ref q), .val (.int (0 : Int32)), .val (.int (0 : Int32)), .unset, .unset] [])
  refine Go.retV X6 hx hlk hret (hb hby d1_95) (by decide) (by decide) ?_
  try rw [e6]
  exact ⟨rfl, N6, K6, E_a_6, b3, F_coefficients_a_6, Vc3_6, sz_b3⟩
theorem pn_1 : plainName "com/example/leapwise/leapwise/polytope/HalfSpace" = true := by first | (simp [plainName, overriddenIn]; done) | decide +kernel
theorem ef_rm1_0 (m : MethodId) (a : Addr) (q : Addr) : entryFrame m #[(.ref a), (.ref q), (.double (0 : UInt64))] 9 = mkF m 0 #[.val (.ref a), .val (.ref q), .val (.double (0 : UInt64)), .second, .unset, .unset, .unset, .unset, .unset] [] := by first | (simp [entryFrame, mkF, argsToLocals, Value.category]; done) | rfl
theorem rm1_0 (l : Launch) (Z : State) (a0 : Array Value) (hw : ∀ d ∈ tables_1, d.before a0 Z = true) (a q : Addr) (g : Nat → UInt64) (h0 : Heap) (n0 : Nat) (Z0 : n0 ≤ h0.size) (E_a : Exa Z h0 a "com/example/leapwise/leapwise/polytope/HalfSpace") (F_coefficients_a : Fld Z h0 a "com/example/leapwise/leapwise/polytope/HalfSpace" "coefficients" "[D" .null) (F_bound_a : Fld Z h0 a "com/example/leapwise/leapwise/polytope/HalfSpace" "bound" "D" (.double (0 : UInt64))) (E_q : Exa Z h0 q "[D") (V_q : Dv Z h0 q (0 : Int32) g) (ge_a : n0 ≤ a) (ne_a_q : a ≠ q) (hf : ∀ i, i < 0 → Jvm.Free.Fl.Fin64 (g i)) :
    Con l Z (⟨"com/example/leapwise/leapwise/polytope/HalfSpace", "<init>", "([DD)V"⟩ : MethodName) prog_28_method_1_code 9 none ({ frames := 2, cells := 1, slots := 0, locals := 40 } : Room) #[(.ref a), (.ref q), (.double (0 : UInt64))] h0 (fun r h L => r = none ∧ Fr n0 L ∧ Keep h0 h [a] ∧ Exa Z h a "com/example/leapwise/leapwise/polytope/HalfSpace" ∧ ∃ c : Addr, Fld Z h a "com/example/leapwise/leapwise/polytope/HalfSpace" "coefficients" "[D" (.ref c) ∧ Dv Z h c (0 : Int32) g ∧ h0.size ≤ c) :=
  con_of (plainFor_of_name pn_1) (fun p_ e_ s_ m_ b_ meth_ c_ T_ X_ hx hZ hby hml hown hnm hret hlk e0 => Go.cast (ef_rm1_0 m_ a q) (w1_0 a q g X_ hx hZ hw hby hml hown hnm hret hlk e0 Z0 (Fr.nil n0) E_a F_coefficients_a F_bound_a E_q V_q ge_a ne_a_q hf))
theorem d1_22 : decode prog_28_method_1_code 22 = .ok (.aload 4, 2) := by decide +kernel
theorem d1_24 : decode prog_28_method_1_code 24 = .ok (.iload 6, 2) := by decide +kernel
theorem d1_26 : decode prog_28_method_1_code 26 = .ok (.daload, 1) := by decide +kernel
theorem d1_27 : decode prog_28_method_1_code 27 = .ok (.dstore 7, 2) := by decide +kernel
theorem d1_29 : decode prog_28_method_1_code 29 = .ok (.dload 7, 2) := by decide +kernel
theorem d1_31 : decode prog_28_method_1_code 31 = .ok (.invokestatic 7, 3) := by decide +kernel
theorem d1_34 : decode prog_28_method_1_code 34 = .ok (.ifCond .ne 18, 3) := by decide +kernel
theorem d1_52 : decode prog_28_method_1_code 52 = .ok (.iinc 6 1, 3) := by decide +kernel
theorem d1_55 : decode prog_28_method_1_code 55 = .ok (.goto (-40), 3) := by decide +kernel
set_option maxRecDepth 65536 in
set_option maxHeartbeats 40000000 in
theorem w1_1 {p : Program} {l : Launch} {e : Env} {s : State} {m : MethodId} {args : Array Value} {below : List Frame} {meth : Method} {c_ : Code} {T0 : State} {locs : List Loc} {Z : State} {a0 : Array Value} {h0 : Heap} {n0 : Nat} (a q : Addr) (g : Nat → UInt64)
    (X0 : Stand p l e ({ frames := 2, cells := 1, slots := 1, locals := 40 } : Room) s m args below meth c_ T0 locs 0 0) (hx : p.tables.exec = Jvm.exec) (hZ : Z.Warmed39 s.vm) (hw : ∀ d ∈ tables_1, d.before a0 Z = true) (hby : c_.code = prog_28_method_1_code) (hml : c_.maxLocals = 9) (hown : s.vm.findClass "com/example/leapwise/leapwise/polytope/HalfSpace" = some m.cls) (hnm : meth.name = "<init>") (hret : meth.sig.returnType = none) (hlk : meth.locks = false) (e0 : T0.heap = h0) (Z0 : n0 ≤ h0.size) (N0 : Fr n0 locs) (E_a : Exa Z h0 a "com/example/leapwise/leapwise/polytope/HalfSpace") (F_coefficients_a : Fld Z h0 a "com/example/leapwise/leapwise/polytope/HalfSpace" "coefficients" "[D" .null) (F_bound_a : Fld Z h0 a "com/example/leapwise/leapwise/polytope/HalfSpace" "bound" "D" (.double (0 : UInt64))) (E_q : Exa Z h0 q "[D") (V_q : Dv Z h0 q (1 : Int32) g) (ge_a : n0 ≤ a) (ne_a_q : a ≠ q) (hf : ∀ i, i < 1 → Jvm.Free.Fl.Fin64 (g i)) :
    Go p e below s ({ frames := 2, cells := 1, slots := 1, locals := 40 } : Room).cells ({ frames := 2, cells := 1, slots := 1, locals := 40 } : Room).slots (fun r h L => r = none ∧ Fr n0 L ∧ Keep h0 h [a] ∧ Exa Z h a "com/example/leapwise/leapwise/polytope/HalfSpace" ∧ ∃ c : Addr, Fld Z h a "com/example/leapwise/leapwise/polytope/HalfSpace" "coefficients" "[D" (.ref c) ∧ Dv Z h c (1 : Int32) g ∧ h0.size ≤ c) T0 (mkF m 0 #[.val (.ref a), .val (.ref q), .val (.double (0 : UInt64)), .second, .unset, .unset, .unset, .unset, .unset] []) := by
  show Go _ _ _ _ _ _ _ T0 (mkF m 0 #[.val (.ref a), .val (.ref q), .val (.double (0 : UInt64)), .second, .unset, .unset, .unset, .unset, .unset] [])
  refine Go.step (fun _ k => XS.aloadN X0.here hx rfl (hb hby d1_0) rfl rfl k) ?_
  show Go _ _ _ _ _ _ _ T0 (mkF m 1 #[.val (.ref a), .val (.ref q), .val (.double (0 : UInt64)), .second, .unset, .unset, .unset, .unset, .unset] [(.ref a)])
  obtain ⟨T1, X1, e1, st1⟩ := initO X0 hx hZ hown (hw _ (List.mem_of_getElem? (i := 7) rfl)) (hw _ (List.mem_of_getElem? (i := 8) rfl)) (hw _ (List.mem_of_getElem? (i := 9) rfl)) e0 (g := (mkF m 1 #[.val (.ref a), .val (.ref q), .val (.double (0 : UInt64)), .second, .unset, .unset, .unset, .unset, .unset] [(.ref a)])) rfl (by rw [hml]; rfl) rfl (hb hby d1_1) (by decide) (W := 0) (by show 2 * 0 + _ ≤ _; exact Nat.le_of_eq rfl) (by decide)
  refine Go.step st1 ?_
  show Go _ _ _ _ _ _ _ T1 (mkF m 4 #[.val (.ref a), .val (.ref q), .val (.double (0 : UInt64)), .second, .unset, .unset, .unset, .unset, .unset] [])
  refine Go.step (fun _ k => XS.aloadN X1.here hx rfl (hb hby d1_4) rfl rfl k) ?_
  show Go _ _ _ _ _ _ _ T1 (mkF m 5 #[.val (.ref a), .val (.ref q), .val (.double (0 : UInt64)), .second, .unset, .unset, .unset, .unset, .unset] [(.ref q)])
  refine Go.step (fun _ k => XS.astore X1.here hx rfl (hb hby d1_5) rfl rfl (l' := #[.val (.ref a), .val (.ref q), .val (.double (0 : UInt64)), .second, .val (.ref q), .unset, .unset, .unset, .unset]) rfl k) ?_
  show Go _ _ _ _ _ _ _ T1 (mkF m 7 #[.val (.ref a), .val (.ref q), .val (.double (0 : UInt64)), .second, .val (.ref q), .unset, .unset, .unset, .unset] [])
  refine Go.step (fun _ k => XS.aload X1.here hx rfl (hb hby d1_7) rfl rfl k) ?_
  show Go _ _ _ _ _ _ _ T1 (mkF m 9 #[.val (.ref a), .val (.ref q), .val (.double (0 : UInt64)), .second, .val (.ref q), .unset, .unset, .unset, .unset] [(.ref q)])
  refine Go.alen X1 hx hZ e1 V_q (hb hby d1_9) ?_
  show Go _ _ _ _ _ _ _ T1 (mkF m 10 #[.val (.ref a), .val (.ref q), .val (.double (0 : UInt64)), .second, .val (.ref q), .unset, .unset, .unset, .unset] [(.int (1 : Int32))])
  refine Go.step (fun _ k => XS.istore X1.here hx rfl (hb hby d1_10) rfl (l' := #[.val (.ref a), .val (.ref q), .val (.double (0 : UInt64)), .second, .val (.ref q), .val (.int (1 : Int32)), .unset, .unset, .unset]) rfl k) ?_
  show Go _ _ _ _ _ _ _ T1 (mkF m 12 #[.val (.ref a), .val (.ref q), .val (.double (0 : UInt64)), .second, .val (.ref q), .val (.int (1 : Int32)), .unset, .unset, .unset] [])
  refine Go.step (fun _ k => XS.iconst X1.here hx rfl (hb hby d1_12) k) ?_
  show Go _ _ _ _ _ _ _ T1 (mkF m 13 #[.val (.ref a), .val (.ref q), .val (.double (0 : UInt64)), .second, .val (.ref q), .val (.int (1 : Int32)), .unset, .unset, .unset] [(.int (0 : Int32))])
  refine Go.step (fun _ k => XS.istore X1.here hx rfl (hb hby d1_13) rfl (l' := #[.val (.ref a), .val (.ref q), .val (.double (0 : UInt64)), .second, .val (.ref q), .val (.int (1 : Int32)), .val (.int (0 : Int32)), .unset, .unset]) rfl k) ?_
  show Go _ _ _ _ _ _ _ T1 (mkF m 15 #[.val (.ref a), .val (.ref q), .val (.double (0 : UInt64)), .second, .val (.ref q), .val (.int (1 : Int32)), .val (.int (0 : Int32)), .unset, .unset] [])
  refine Go.step (fun _ k => XS.iload X1.here hx rfl (hb hby d1_15) rfl k) ?_
  show Go _ _ _ _ _ _ _ T1 (mkF m 17 #[.val (.ref a), .val (.ref q), .val (.double (0 : UInt64)), .second, .val (.ref q), .val (.int (1 : Int32)), .val (.int (0 : Int32)), .unset, .unset] [(.int (0 : Int32))])
  refine Go.step (fun _ k => XS.iload X1.here hx rfl (hb hby d1_17) rfl k) ?_
  show Go _ _ _ _ _ _ _ T1 (mkF m 19 #[.val (.ref a), .val (.ref q), .val (.double (0 : UInt64)), .second, .val (.ref q), .val (.int (1 : Int32)), .val (.int (0 : Int32)), .unset, .unset] [(.int (1 : Int32)), (.int (0 : Int32))])
  refine Go.step (fun _ k => XS.icmpNo X1.here hx rfl (hb hby d1_19) rfl (tlt (by decide : (0 : Int32) < (1 : Int32))).2.1 k) ?_
  show Go _ _ _ _ _ _ _ T1 (mkF m 22 #[.val (.ref a), .val (.ref q), .val (.double (0 : UInt64)), .second, .val (.ref q), .val (.int (1 : Int32)), .val (.int (0 : Int32)), .unset, .unset] [])
  refine Go.step (fun _ k => XS.aload X1.here hx rfl (hb hby d1_22) rfl rfl k) ?_
  show Go _ _ _ _ _ _ _ T1 (mkF m 24 #[.val (.ref a), .val (.ref q), .val (.double (0 : UInt64)), .second, .val (.ref q), .val (.int (1 : Int32)), .val (.int (0 : Int32)), .unset, .unset] [(.ref q)])
  refine Go.step (fun _ k => XS.iload X1.here hx rfl (hb hby d1_24) rfl k) ?_
  show Go _ _ _ _ _ _ _ T1 (mkF m 26 #[.val (.ref a), .val (.ref q), .val (.double (0 : UInt64)), .second, .val (.ref q), .val (.int (1 : Int32)), .val (.int (0 : Int32)), .unset, .unset] [(.int (0 : Int32)), (.ref q)])
  refine Go.daload X1 hx hZ e1 V_q (j := (0 : Int32)) (v := (g 0)) (by decide) rfl (hb hby d1_26) ?_
  show Go _ _ _ _ _ _ _ T1 (mkF m 27 #[.val (.ref a), .val (.ref q), .val (.double (0 : UInt64)), .second, .val (.ref q), .val (.int (1 : Int32)), .val (.int (0 : Int32)), .unset, .unset] [(.double (g 0))])
  refine Go.step (fun _ k => XS.dstore X1.here hx rfl (hb hby d1_27) rfl (l' := #[.val (.ref a), .val (.ref q), .val (.double (0 : UInt64)), .second, .val (.ref q), .val (.int (1 : Int32)), .val (.int (0 : Int32)), .val (.double (g 0)), .second]) rfl k) ?_
  show Go _ _ _ _ _ _ _ T1 (mkF m 29 #[.val (.ref a), .val (.ref q), .val (.double (0 : UInt64)), .second, .val (.ref q), .val (.int (1 : Int32)), .val (.int (0 : Int32)), .val (.double (g 0)), .second] [])
  refine Go.step (fun _ k => XS.dload X1.here hx rfl (hb hby d1_29) rfl k) ?_
  show Go _ _ _ _ _ _ _ T1 (mkF m 31 #[.val (.ref a), .val (.ref q), .val (.double (0 : UInt64)), .second, .val (.ref q), .val (.int (1 : Int32)), .val (.int (0 : Int32)), .val (.double (g 0)), .second] [(.double (g 0))])
  refine Go.callS X1 hx hZ (by rw [hml]; rfl) (y := (⟨"java/lang/Double", "isFinite", "(D)Z"⟩ : MethodName)) (argsL := [(.double (g 0))]) (rest := []) hown (hw _ (List.mem_of_getElem? (i := 10) rfl)) (hw _ (List.mem_of_getElem? (i := 11) rfl)) (hw _ (List.mem_of_getElem? (i := 12) rfl)) (hw _ (List.mem_of_getElem? (i := 13) rfl)) (by decide) (rm3 l Z a0 hw (g 0) h0 n0 Z0 (hf 0 (by decide))) e1 (hb hby d1_31) (lenOf pd_1 rfl) rfl rfl (W := 0) (Nat.le_of_eq rfl) (by decide) (by decide) (by decide) (by decide) ?_
  intro v2 T2 L2 X2 Q2
  obtain ⟨rfl, N2q, hh2⟩ := Q2
  have N2 := Fr.app N0 N2q
  show Go _ _ _ _ _ _ _ T2 (mkF m 34 #[.val (.ref a), .val (.ref q), .val (.double (0 : UInt64)), .second, .val (.ref q), .val (.int (1 : Int32)), .val (.int (0 : Int32)), .val (.double (g 0)), .second] [(.int (1 : Int32))])
  refine Go.step (fun _ k => XS.ifYes X2.here hx rfl (pc0 := 34) (pc' := 52) rfl (hb hby d1_34) rfl ((if0 _ _).trans (feq (by decide : ¬ ((1 : Int32) = (0 : Int32)))).2) (by decide) (by decide) k) ?_
  show Go _ _ _ _ _ _ _ T2 (mkF m 52 #[.val (.ref a), .val (.ref q), .val (.double (0 : UInt64)), .second, .val (.ref q), .val (.int (1 : Int32)), .val (.int (0 : Int32)), .val (.double (g 0)), .second] [])
  refine Go.step (fun _ k => XS.iinc X2.here hx rfl (hb hby d1_52) rfl (l' := #[.val (.ref a), .val (.ref q), .val (.double (0 : UInt64)), .second, .val (.ref q), .val (.int (1 : Int32)), .val (.int (1 : Int32)), .val (.double (g 0)), .second]) rfl k) ?_
  show Go _ _ _ _ _ _ _ T2 (mkF m 55 #[.val (.ref a), .val (.ref q), .val (.double (0 : UInt64)), .second, .val (.ref q), .val (.int (1 : Int32)), .val (.int (1 : Int32)), .val (.double (g 0)), .second] [])
  refine Go.step (fun _ k => XS.goto X2.here hx rfl (pc0 := 55) (pc' := 15) rfl (hb hby d1_55) (by decide) (by decide) k) ?_
  show Go _ _ _ _ _ _ _ T2 (mkF m 15 #[.val (.ref a), .val (.ref q), .val (.double (0 : UInt64)), .second, .val (.ref q), .val (.int (1 : Int32)), .val (.int (1 : Int32)), .val (.double (g 0)), .second] [])
  refine Go.step (fun _ k => XS.iload X2.here hx rfl (hb hby d1_15) rfl k) ?_
  show Go _ _ _ _ _ _ _ T2 (mkF m 17 #[.val (.ref a), .val (.ref q), .val (.double (0 : UInt64)), .second, .val (.ref q), .val (.int (1 : Int32)), .val (.int (1 : Int32)), .val (.double (g 0)), .second] [(.int (1 : Int32))])
  refine Go.step (fun _ k => XS.iload X2.here hx rfl (hb hby d1_17) rfl k) ?_
  show Go _ _ _ _ _ _ _ T2 (mkF m 19 #[.val (.ref a), .val (.ref q), .val (.double (0 : UInt64)), .second, .val (.ref q), .val (.int (1 : Int32)), .val (.int (1 : Int32)), .val (.double (g 0)), .second] [(.int (1 : Int32)), (.int (1 : Int32))])
  refine Go.step (fun _ k => XS.icmpYes X2.here hx rfl (pc0 := 19) (pc' := 58) rfl (hb hby d1_19) rfl (flt (by decide : ¬ ((1 : Int32) < (1 : Int32)))).2.1 (by decide) (by decide) k) ?_
  show Go _ _ _ _ _ _ _ T2 (mkF m 58 #[.val (.ref a), .val (.ref q), .val (.double (0 : UInt64)), .second, .val (.ref q), .val (.int (1 : Int32)), .val (.int (1 : Int32)), .val (.double (g 0)), .second] [])
  refine Go.step (fun _ k => XS.dloadN X2.here hx rfl (hb hby d1_58) rfl k) ?_
  show Go _ _ _ _ _ _ _ T2 (mkF m 59 #[.val (.ref a), .val (.ref q), .val (.double (0 : UInt64)), .second, .val (.ref q), .val (.int (1 : Int32)), .val (.int (1 : Int32)), .val (.double (g 0)), .second] [(.double (0 : UInt64))])
  refine Go.callS X2 hx hZ (by rw [hml]; rfl) (y := (⟨"java/lang/Double", "isFinite", "(D)Z"⟩ : MethodName)) (argsL := [(.double (0 : UInt64))]) (rest := []) hown (hw _ (List.mem_of_getElem? (i := 10) rfl)) (hw _ (List.mem_of_getElem? (i := 11) rfl)) (hw _ (List.mem_of_getElem? (i := 12) rfl)) (hw _ (List.mem_of_getElem? (i := 13) rfl)) (by decide) (rm3 l Z a0 hw (0 : UInt64) h0 n0 Z0 (by first | decide +kernel | (unfold Jvm.Free.Fl.Fin64; decide +kernel) | (unfold Jvm.Free.Fl.Nz64; decide +kernel) | (unfold Jvm.Free.Fl.NoNaN64; decide +kernel))) hh2 (hb hby d1_59) (lenOf pd_1 rfl) rfl rfl (W := 0) (Nat.le_of_eq rfl) (by decide) (by decide) (by decide) (by decide) ?_
  intro v3 T3 L3 X3 Q3
  obtain ⟨rfl, N3q, hh3⟩ := Q3
  have N3 := Fr.app N2 N3q
  show Go _ _ _ _ _ _ _ T3 (mkF m 62 #[.val (.ref a), .val (.ref q), .val (.double (0 : UInt64)), .second, .val (.ref q), .val (.int (1 : Int32)), .val (.int (1 : Int32)), .val (.double (g 0)), .second] [(.int (1 : Int32))])
  refine Go.step (fun _ k => XS.ifYes X3.here hx rfl (pc0 := 62) (pc' := 79) rfl (hb hby d1_62) rfl ((if0 _ _).trans (feq (by decide : ¬ ((1 : Int32) = (0 : Int32)))).2) (by decide) (by decide) k) ?_
  show Go _ _ _ _ _ _ _ T3 (mkF m 79 #[.val (.ref a), .val (.ref q), .val (.double (0 : UInt64)), .second, .val (.ref q), .val (.int (1 : Int32)), .val (.int (1 : Int32)), .val (.double (g 0)), .second] [])
  refine Go.step (fun _ k => XS.aloadN X3.here hx rfl (hb hby d1_79) rfl rfl k) ?_
  show Go _ _ _ _ _ _ _ T3 (mkF m 80 #[.val (.ref a), .val (.ref q), .val (.double (0 : UInt64)), .second, .val (.ref q), .val (.int (1 : Int32)), .val (.int (1 : Int32)), .val (.double (g 0)), .second] [(.ref a)])
  refine Go.step (fun _ k => XS.aloadN X3.here hx rfl (hb hby d1_80) rfl rfl k) ?_
  show Go _ _ _ _ _ _ _ T3 (mkF m 81 #[.val (.ref a), .val (.ref q), .val (.double (0 : UInt64)), .second, .val (.ref q), .val (.int (1 : Int32)), .val (.int (1 : Int32)), .val (.double (g 0)), .second] [(.ref q), (.ref a)])
  refine Go.clone X3 hx hZ (by rw [hml]; rfl) hown (hw _ (List.mem_of_getElem? (i := 19) rfl)) (hw _ (List.mem_of_getElem? (i := 20) rfl)) (hw _ (List.mem_of_getElem? (i := 24) rfl)) (hw _ (List.mem_of_getElem? (i := 22) rfl)) (hw _ (List.mem_of_getElem? (i := 23) rfl)) (hw _ (List.mem_of_getElem? (i := 25) rfl)) hh3 V_q E_q (hb hby d1_81) (by decide) (W := 1) (Nat.le_of_eq rfl) (by decide) (cap := 1) (by decide) (by decide) (by decide) ?_
  intro T4 h4 b4 g4 X4 e4 E4 Vc4 Ec4
  have K4 : Keep h0 h4 [a] := (Keep.refl h0 [a]).ext E4
  have sz_b4 : h0.size ≤ b4 := Nat.le_trans ((Keep.refl h0 [a]) : Keep h0 h0 [a]).1 (Nat.le_of_eq g4.symm)
  have ge_b4 : n0 ≤ b4 := Nat.le_trans Z0 sz_b4
  have ne_a_b4 : a ≠ b4 := Nat.ne_of_lt (Nat.lt_of_lt_of_le E_a.lt (Nat.le_of_eq g4.symm))
  have ne_q_b4 : q ≠ b4 := Nat.ne_of_lt (Nat.lt_of_lt_of_le E_q.lt (Nat.le_of_eq g4.symm))
  have E_a_4 := E_a.ext E4
  have F_coefficients_a_4 := F_coefficients_a.ext E4
  have F_bound_a_4 := F_bound_a.ext E4
  have E_q_4 := E_q.ext E4
  have V_q_4 := V_q.ext E4
  show Go _ _ _ _ _ _ _ T4 (mkF m 84 #[.val (.ref a), .val (.ref q), .val (.double (0 : UInt64)), .second, .val (.ref q), .val (.int (1 : Int32)), .val (.int (1 : Int32)), .val (.double (g 0)), .second] [(.ref b4), (.ref a)])
  obtain ⟨T5, X5, e5, st5⟩ := castY X4 hx hZ hown (hw _ (List.mem_of_getElem? (i := 26) rfl)) e4 (Ins.self Ec4) (g := (mkF m 84 #[.val (.ref a), .val (.ref q), .val (.double (0 : UInt64)), .second, .val (.ref q), .val (.int (1 : Int32)), .val (.int (1 : Int32)), .val (.double (g 0)), .second] [(.ref b4), (.ref a)])) rfl rfl (hb hby d1_84)
  refine Go.step st5 ?_
  show Go _ _ _ _ _ _ _ T5 (mkF m 87 #[.val (.ref a), .val (.ref q), .val (.double (0 : UInt64)), .second, .val (.ref q), .val (.int (1 : Int32)), .val (.int (1 : Int32)), .val (.double (g 0)), .second] [(.ref b4), (.ref a)])
  obtain ⟨T6, h6, X6, e6, W6, st6⟩ := putF X5 hx hZ hown (host := "") (Or.inl (hw _ (List.mem_of_getElem? (i := 28) rfl))) Via.refl e5 F_coefficients_a_4 E_a_4 (Or.inr ⟨(hw _ (List.mem_of_getElem? (i := 29) rfl)), rfl, hnm⟩) (hw _ (List.mem_of_getElem? (i := 2) rfl)) (ty := (.array .double)) (by decide) rfl rfl (g := (mkF m 87 #[.val (.ref a), .val (.ref q), .val (.double (0 : UInt64)), .second, .val (.ref q), .val (.int (1 : Int32)), .val (.int (1 : Int32)), .val (.double (g 0)), .second] [(.ref b4), (.ref a)])) rfl rfl (hb hby d1_87)
  refine Go.step st6 ?_
  have N6 := Fr.snoc X6 N3 ge_a
  have F_coefficients_a_6 := F_coefficients_a_4.same W6
  have E_a_6 := E_a_4.wr W6
  have F_bound_a_6 := F_bound_a_4.other W6 (Or.inr (slot_ne (Or.inr (hw _ (List.mem_of_getElem? (i := 31) rfl))) (Or.inr (hw _ (List.mem_of_getElem? (i := 29) rfl))) (by decide) (t := .double) (t' := (.array .double)) (by decide) (by decide)))
  have E_q_6 := E_q_4.wr W6
  have V_q_6 := V_q_4.other W6 (Ne.symm ne_a_q)
  have Vc4_6 := Vc4.other W6 (Ne.symm ne_a_b4)
  have Ec4_6 := Ec4.wr W6
  have K6 : Keep h0 h6 [a] := K4.wr W6 (Or.inl (List.mem_of_getElem? (i := 0) rfl))
  show Go _ _ _ _ _ _ _ T6 (mkF m 90 #[.val (.ref a), .val (.ref q), .val (.double (0 : UInt64)), .second, .val (.ref q), .val (.int (1 : Int32)), .val (.int (1 : Int32)), .val (.double (g 0)), .second] [])
  refine Go.step (fun _ k => XS.aloadN X6.here hx rfl (hb hby d1_90) rfl rfl k) ?_
  show Go _ _ _ _ _ _ _ T6 (mkF m 91 #[.val (.ref a), .val (.ref q), .val (.double (0 : UInt64)), .second, .val (.ref q), .val (.int (1 : Int32)), .val (.int (1 : Int32)), .val (.double (g 0)), .second] [(.ref a)])
  refine Go.step (fun _ k => XS.dloadN X6.here hx rfl (hb hby d1_91) rfl k) ?_
  show Go _ _ _ _ _ _ _ T6 (mkF m 92 #[.val (.ref a), .val (.ref q), .val (.double (0 : UInt64)), .second, .val (.ref q), .val (.int (1 : Int32)), .val (.int (1 : Int32)), .val (.double (g 0)), .second] [(.double (0 : UInt64)), (.ref a)])
  obtain ⟨T7, h7, X7, e7, W7, st7⟩ := putF X6 hx hZ hown (host := "") (Or.inl (hw _ (List.mem_of_getElem? (i := 30) rfl))) Via.refl e6 F_bound_a_6 E_a_6 (Or.inr ⟨(hw _ (List.mem_of_getElem? (i := 31) rfl)), rfl, hnm⟩) (hw _ (List.mem_of_getElem? (i := 2) rfl)) (ty := .double) (by decide) rfl rfl (g := (mkF m 92 #[.val (.ref a), .val (.ref q), .val (.double (0 : UInt64)), .second, .val (.ref q), .val (.int (1 : Int32)), .val (.int (1 : Int32)), .val (.double (g 0)), .second] [(.double (0 : UInt64)), (.ref a)])) rfl rfl (hb hby d1_92)
  refine Go.step st7 ?_
  have N7 := Fr.snoc X7 N6 ge_a
  have F_bound_a_7 := F_bound_a_6.same W7
  have E_a_7 := E_a_6.wr W7
  have F_coefficients_a_7 := F_coefficients_a_6.other W7 (Or.inr (slot_ne (Or.inr (hw _ (List.mem_of_getElem? (i := 29) rfl))) (Or.inr (hw _ (List.mem_of_getElem? (i := 31) rfl))) (by decide) (t := (.array .double)) (t' := .double) (by decide) (by decide)))
  have E_q_7 := E_q_6.wr W7
  have V_q_7 := V_q_6.other W7 (Ne.symm ne_a_q)
  have Vc4_7 := Vc4_6.other W7 (Ne.symm ne_a_b4)
  have Ec4_7 := Ec4_6.wr W7
  have K7 : Keep h0 h7 [a] := K6.wr W7 (Or.inl (List.mem_of_getElem? (i := 0) rfl))
  show Go _ _ _ _ _ _ _ T7 (mkF m 95 #[.val (.ref a), .val (.ref q), .val (.double (0 : UInt64)), .second, .val (.ref q), .val (.int (1 : Int32)), .val (.int (1 : Int32)), .val (.double (g 0)), .second] [])
  refine Go.retV X7 hx hlk hret (hb hby d1_95) (by decide) (by decide) ?_
  try rw [e7]
  exact ⟨rfl, N7, K7, E_a_7, b4, F_coefficients_a_7, Vc4_7, sz_b4⟩
theorem ef_rm1_1 (m : MethodId) (a : Addr) (q : Addr) : entryFrame m #[(.ref a), (.ref q), (.double (0 : UInt64))] 9 = mkF m 0 #[.val (.ref a), .val (.ref q), .val (.double (0 : UInt64)), .second, .unset, .unset, .unset, .unset, .unset] [] := by first | (simp [entryFrame, mkF, argsToLocals, Value.category]; done) | rfl
theorem rm1_1 (l : Launch) (Z : State) (a0 : Array Value) (hw : ∀ d ∈ tables_1, d.before a0 Z = true) (a q : Addr) (g : Nat → UInt64) (h0 : Heap) (n0 : Nat) (Z0 : n0 ≤ h0.size) (E_a : Exa Z h0 a "com/example/leapwise/leapwise/polytope/HalfSpace") (F_coefficients_a : Fld Z h0 a "com/example/leapwise/leapwise/polytope/HalfSpace" "coefficients" "[D" .null) (F_bound_a : Fld Z h0 a "com/example/leapwise/leapwise/polytope/HalfSpace" "bound" "D" (.double (0 : UInt64))) (E_q : Exa Z h0 q "[D") (V_q : Dv Z h0 q (1 : Int32) g) (ge_a : n0 ≤ a) (ne_a_q : a ≠ q) (hf : ∀ i, i < 1 → Jvm.Free.Fl.Fin64 (g i)) :
    Con l Z (⟨"com/example/leapwise/leapwise/polytope/HalfSpace", "<init>", "([DD)V"⟩ : MethodName) prog_28_method_1_code 9 none ({ frames := 2, cells := 1, slots := 1, locals := 40 } : Room) #[(.ref a), (.ref q), (.double (0 : UInt64))] h0 (fun r h L => r = none ∧ Fr n0 L ∧ Keep h0 h [a] ∧ Exa Z h a "com/example/leapwise/leapwise/polytope/HalfSpace" ∧ ∃ c : Addr, Fld Z h a "com/example/leapwise/leapwise/polytope/HalfSpace" "coefficients" "[D" (.ref c) ∧ Dv Z h c (1 : Int32) g ∧ h0.size ≤ c) :=
  con_of (plainFor_of_name pn_1) (fun p_ e_ s_ m_ b_ meth_ c_ T_ X_ hx hZ hby hml hown hnm hret hlk e0 => Go.cast (ef_rm1_1 m_ a q) (w1_1 a q g X_ hx hZ hw hby hml hown hnm hret hlk e0 Z0 (Fr.nil n0) E_a F_coefficients_a F_bound_a E_q V_q ge_a ne_a_q hf))
set_option maxRecDepth 65536 in
set_option maxHeartbeats 40000000 in
theorem w1_2 {p : Program} {l : Launch} {e : Env} {s : State} {m : MethodId} {args : Array Value} {below : List Frame} {meth : Method} {c_ : Code} {T0 : State} {locs : List Loc} {Z : State} {a0 : Array Value} {h0 : Heap} {n0 : Nat} (a q : Addr) (g : Nat → UInt64)
    (X0 : Stand p l e ({ frames := 2, cells := 1, slots := 2, locals := 40 } : Room) s m args below meth c_ T0 locs 0 0) (hx : p.tables.exec = Jvm.exec) (hZ : Z.Warmed39 s.vm) (hw : ∀ d ∈ tables_1, d.before a0 Z = true) (hby : c_.code = prog_28_method_1_code) (hml : c_.maxLocals = 9) (hown : s.vm.findClass "com/example/leapwise/leapwise/polytope/HalfSpace" = some m.cls) (hnm : meth.name = "<init>") (hret : meth.sig.returnType = none) (hlk : meth.locks = false) (e0 : T0.heap = h0) (Z0 : n0 ≤ h0.size) (N0 : Fr n0 locs) (E_a : Exa Z h0 a "com/example/leapwise/leapwise/polytope/HalfSpace") (F_coefficients_a : Fld Z h0 a "com/example/leapwise/leapwise/polytope/HalfSpace" "coefficients" "[D" .null) (F_bound_a : Fld Z h0 a "com/example/leapwise/leapwise/polytope/HalfSpace" "bound" "D" (.double (0 : UInt64))) (E_q : Exa Z h0 q "[D") (V_q : Dv Z h0 q (2 : Int32) g) (ge_a : n0 ≤ a) (ne_a_q : a ≠ q) (hf : ∀ i, i < 2 → Jvm.Free.Fl.Fin64 (g i)) :
    Go p e below s ({ frames := 2, cells := 1, slots := 2, locals := 40 } : Room).cells ({ frames := 2, cells := 1, slots := 2, locals := 40 } : Room).slots (fun r h L => r = none ∧ Fr n0 L ∧ Keep h0 h [a] ∧ Exa Z h a "com/example/leapwise/leapwise/polytope/HalfSpace" ∧ ∃ c : Addr, Fld Z h a "com/example/leapwise/leapwise/polytope/HalfSpace" "coefficients" "[D" (.ref c) ∧ Dv Z h c (2 : Int32) g ∧ h0.size ≤ c) T0 (mkF m 0 #[.val (.ref a), .val (.ref q), .val (.double (0 : UInt64)), .second, .unset, .unset, .unset, .unset, .unset] []) := by
  show Go _ _ _ _ _ _ _ T0 (mkF m 0 #[.val (.ref a), .val (.ref q), .val (.double (0 : UInt64)), .second, .unset, .unset, .unset, .unset, .unset] [])
  refine Go.step (fun _ k => XS.aloadN X0.here hx rfl (hb hby d1_0) rfl rfl k) ?_
  show Go _ _ _ _ _ _ _ T0 (mkF m 1 #[.val (.ref a), .val (.ref q), .val (.double (0 : UInt64)), .second, .unset, .unset, .unset, .unset, .unset] [(.ref a)])
  obtain ⟨T1, X1, e1, st1⟩ := initO X0 hx hZ hown (hw _ (List.mem_of_getElem? (i := 7) rfl)) (hw _ (List.mem_of_getElem? (i := 8) rfl)) (hw _ (List.mem_of_getElem? (i := 9) rfl)) e0 (g := (mkF m 1 #[.val (.ref a), .val (.ref q), .val (.double (0 : UInt64)), .second, .unset, .unset, .unset, .unset, .unset] [(.ref a)])) rfl (by rw [hml]; rfl) rfl (hb hby d1_1) (by decide) (W := 0) (by show 2 * 0 + _ ≤ _; exact Nat.le_of_eq rfl) (by decide)
  refine Go.step st1 ?_
  show Go _ _ _ _ _ _ _ T1 (mkF m 4 #[.val (.ref a), .val (.ref q), .val (.double (0 : UInt64)), .second, .unset, .unset, .unset, .unset, .unset] [])
  refine Go.step (fun _ k => XS.aloadN X1.here hx rfl (hb hby d1_4) rfl rfl k) ?_
  show Go _ _ _ _ _ _ _ T1 (mkF m 5 #[.val (.ref a), .val (.ref q), .val (.double (0 : UInt64)), .second, .unset, .unset, .unset, .unset, .unset] [(.ref q)])
  refine Go.step (fun _ k => XS.astore X1.here hx rfl (hb hby d1_5) rfl rfl (l' := #[.val (.ref a), .val (.ref q), .val (.double (0 : UInt64)), .second, .val (.ref q), .unset, .unset, .unset, .unset]) rfl k) ?_
  show Go _ _ _ _ _ _ _ T1 (mkF m 7 #[.val (.ref a), .val (.ref q), .val (.double (0 : UInt64)), .second, .val (.ref q), .unset, .unset, .unset, .unset] [])
  refine Go.step (fun _ k => XS.aload X1.here hx rfl (hb hby d1_7) rfl rfl k) ?_
  show Go _ _ _ _ _ _ _ T1 (mkF m 9 #[.val (.ref a), .val (.ref q), .val (.double (0 : UInt64)), .second, .val (.ref q), .unset, .unset, .unset, .unset] [(.ref q)])
  refine Go.alen X1 hx hZ e1 V_q (hb hby d1_9) ?_
  show Go _ _ _ _ _ _ _ T1 (mkF m 10 #[.val (.ref a), .val (.ref q), .val (.double (0 : UInt64)), .second, .val (.ref q), .unset, .unset, .unset, .unset] [(.int (2 : Int32))])
  refine Go.step (fun _ k => XS.istore X1.here hx rfl (hb hby d1_10) rfl (l' := #[.val (.ref a), .val (.ref q), .val (.double (0 : UInt64)), .second, .val (.ref q), .val (.int (2 : Int32)), .unset, .unset, .unset]) rfl k) ?_
  show Go _ _ _ _ _ _ _ T1 (mkF m 12 #[.val (.ref a), .val (.ref q), .val (.double (0 : UInt64)), .second, .val (.ref q), .val (.int (2 : Int32)), .unset, .unset, .unset] [])
  refine Go.step (fun _ k => XS.iconst X1.here hx rfl (hb hby d1_12) k) ?_
  show Go _ _ _ _ _ _ _ T1 (mkF m 13 #[.val (.ref a), .val (.ref q), .val (.double (0 : UInt64)), .second, .val (.ref q), .val (.int (2 : Int32)), .unset, .unset, .unset] [(.int (0 : Int32))])
  refine Go.step (fun _ k => XS.istore X1.here hx rfl (hb hby d1_13) rfl (l' := #[.val (.ref a), .val (.ref q), .val (.double (0 : UInt64)), .second, .val (.ref q), .val (.int (2 : Int32)), .val (.int (0 : Int32)), .unset, .unset]) rfl k) ?_
  show Go _ _ _ _ _ _ _ T1 (mkF m 15 #[.val (.ref a), .val (.ref q), .val (.double (0 : UInt64)), .second, .val (.ref q), .val (.int (2 : Int32)), .val (.int (0 : Int32)), .unset, .unset] [])
  refine Go.step (fun _ k => XS.iload X1.here hx rfl (hb hby d1_15) rfl k) ?_
  show Go _ _ _ _ _ _ _ T1 (mkF m 17 #[.val (.ref a), .val (.ref q), .val (.double (0 : UInt64)), .second, .val (.ref q), .val (.int (2 : Int32)), .val (.int (0 : Int32)), .unset, .unset] [(.int (0 : Int32))])
  refine Go.step (fun _ k => XS.iload X1.here hx rfl (hb hby d1_17) rfl k) ?_
  show Go _ _ _ _ _ _ _ T1 (mkF m 19 #[.val (.ref a), .val (.ref q), .val (.double (0 : UInt64)), .second, .val (.ref q), .val (.int (2 : Int32)), .val (.int (0 : Int32)), .unset, .unset] [(.int (2 : Int32)), (.int (0 : Int32))])
  refine Go.step (fun _ k => XS.icmpNo X1.here hx rfl (hb hby d1_19) rfl (tlt (by decide : (0 : Int32) < (2 : Int32))).2.1 k) ?_
  show Go _ _ _ _ _ _ _ T1 (mkF m 22 #[.val (.ref a), .val (.ref q), .val (.double (0 : UInt64)), .second, .val (.ref q), .val (.int (2 : Int32)), .val (.int (0 : Int32)), .unset, .unset] [])
  refine Go.step (fun _ k => XS.aload X1.here hx rfl (hb hby d1_22) rfl rfl k) ?_
  show Go _ _ _ _ _ _ _ T1 (mkF m 24 #[.val (.ref a), .val (.ref q), .val (.double (0 : UInt64)), .second, .val (.ref q), .val (.int (2 : Int32)), .val (.int (0 : Int32)), .unset, .unset] [(.ref q)])
  refine Go.step (fun _ k => XS.iload X1.here hx rfl (hb hby d1_24) rfl k) ?_
  show Go _ _ _ _ _ _ _ T1 (mkF m 26 #[.val (.ref a), .val (.ref q), .val (.double (0 : UInt64)), .second, .val (.ref q), .val (.int (2 : Int32)), .val (.int (0 : Int32)), .unset, .unset] [(.int (0 : Int32)), (.ref q)])
  refine Go.daload X1 hx hZ e1 V_q (j := (0 : Int32)) (v := (g 0)) (by decide) rfl (hb hby d1_26) ?_
  show Go _ _ _ _ _ _ _ T1 (mkF m 27 #[.val (.ref a), .val (.ref q), .val (.double (0 : UInt64)), .second, .val (.ref q), .val (.int (2 : Int32)), .val (.int (0 : Int32)), .unset, .unset] [(.double (g 0))])
  refine Go.step (fun _ k => XS.dstore X1.here hx rfl (hb hby d1_27) rfl (l' := #[.val (.ref a), .val (.ref q), .val (.double (0 : UInt64)), .second, .val (.ref q), .val (.int (2 : Int32)), .val (.int (0 : Int32)), .val (.double (g 0)), .second]) rfl k) ?_
  show Go _ _ _ _ _ _ _ T1 (mkF m 29 #[.val (.ref a), .val (.ref q), .val (.double (0 : UInt64)), .second, .val (.ref q), .val (.int (2 : Int32)), .val (.int (0 : Int32)), .val (.double (g 0)), .second] [])
  refine Go.step (fun _ k => XS.dload X1.here hx rfl (hb hby d1_29) rfl k) ?_
  show Go _ _ _ _ _ _ _ T1 (mkF m 31 #[.val (.ref a), .val (.ref q), .val (.double (0 : UInt64)), .second, .val (.ref q), .val (.int (2 : Int32)), .val (.int (0 : Int32)), .val (.double (g 0)), .second] [(.double (g 0))])
  refine Go.callS X1 hx hZ (by rw [hml]; rfl) (y := (⟨"java/lang/Double", "isFinite", "(D)Z"⟩ : MethodName)) (argsL := [(.double (g 0))]) (rest := []) hown (hw _ (List.mem_of_getElem? (i := 10) rfl)) (hw _ (List.mem_of_getElem? (i := 11) rfl)) (hw _ (List.mem_of_getElem? (i := 12) rfl)) (hw _ (List.mem_of_getElem? (i := 13) rfl)) (by decide) (rm3 l Z a0 hw (g 0) h0 n0 Z0 (hf 0 (by decide))) e1 (hb hby d1_31) (lenOf pd_1 rfl) rfl rfl (W := 0) (Nat.le_of_eq rfl) (by decide) (by decide) (by decide) (by decide) ?_
  intro v2 T2 L2 X2 Q2
  obtain ⟨rfl, N2q, hh2⟩ := Q2
  have N2 := Fr.app N0 N2q
  show Go _ _ _ _ _ _ _ T2 (mkF m 34 #[.val (.ref a), .val (.ref q), .val (.double (0 : UInt64)), .second, .val (.ref q), .val (.int (2 : Int32)), .val (.int (0 : Int32)), .val (.double (g 0)), .second] [(.int (1 : Int32))])
  refine Go.step (fun _ k => XS.ifYes X2.here hx rfl (pc0 := 34) (pc' := 52) rfl (hb hby d1_34) rfl ((if0 _ _).trans (feq (by decide : ¬ ((1 : Int32) = (0 : Int32)))).2) (by decide) (by decide) k) ?_
  show Go _ _ _ _ _ _ _ T2 (mkF m 52 #[.val (.ref a), .val (.ref q), .val (.double (0 : UInt64)), .second, .val (.ref q), .val (.int (2 : Int32)), .val (.int (0 : Int32)), .val (.double (g 0)), .second] [])
  refine Go.step (fun _ k => XS.iinc X2.here hx rfl (hb hby d1_52) rfl (l' := #[.val (.ref a), .val (.ref q), .val (.double (0 : UInt64)), .second, .val (.ref q), .val (.int (2 : Int32)), .val (.int (1 : Int32)), .val (.double (g 0)), .second]) rfl k) ?_
  show Go _ _ _ _ _ _ _ T2 (mkF m 55 #[.val (.ref a), .val (.ref q), .val (.double (0 : UInt64)), .second, .val (.ref q), .val (.int (2 : Int32)), .val (.int (1 : Int32)), .val (.double (g 0)), .second] [])
  refine Go.step (fun _ k => XS.goto X2.here hx rfl (pc0 := 55) (pc' := 15) rfl (hb hby d1_55) (by decide) (by decide) k) ?_
  show Go _ _ _ _ _ _ _ T2 (mkF m 15 #[.val (.ref a), .val (.ref q), .val (.double (0 : UInt64)), .second, .val (.ref q), .val (.int (2 : Int32)), .val (.int (1 : Int32)), .val (.double (g 0)), .second] [])
  refine Go.step (fun _ k => XS.iload X2.here hx rfl (hb hby d1_15) rfl k) ?_
  show Go _ _ _ _ _ _ _ T2 (mkF m 17 #[.val (.ref a), .val (.ref q), .val (.double (0 : UInt64)), .second, .val (.ref q), .val (.int (2 : Int32)), .val (.int (1 : Int32)), .val (.double (g 0)), .second] [(.int (1 : Int32))])
  refine Go.step (fun _ k => XS.iload X2.here hx rfl (hb hby d1_17) rfl k) ?_
  show Go _ _ _ _ _ _ _ T2 (mkF m 19 #[.val (.ref a), .val (.ref q), .val (.double (0 : UInt64)), .second, .val (.ref q), .val (.int (2 : Int32)), .val (.int (1 : Int32)), .val (.double (g 0)), .second] [(.int (2 : Int32)), (.int (1 : Int32))])
  refine Go.step (fun _ k => XS.icmpNo X2.here hx rfl (hb hby d1_19) rfl (tlt (by decide : (1 : Int32) < (2 : Int32))).2.1 k) ?_
  show Go _ _ _ _ _ _ _ T2 (mkF m 22 #[.val (.ref a), .val (.ref q), .val (.double (0 : UInt64)), .second, .val (.ref q), .val (.int (2 : Int32)), .val (.int (1 : Int32)), .val (.double (g 0)), .second] [])
  refine Go.step (fun _ k => XS.aload X2.here hx rfl (hb hby d1_22) rfl rfl k) ?_
  show Go _ _ _ _ _ _ _ T2 (mkF m 24 #[.val (.ref a), .val (.ref q), .val (.double (0 : UInt64)), .second, .val (.ref q), .val (.int (2 : Int32)), .val (.int (1 : Int32)), .val (.double (g 0)), .second] [(.ref q)])
  refine Go.step (fun _ k => XS.iload X2.here hx rfl (hb hby d1_24) rfl k) ?_
  show Go _ _ _ _ _ _ _ T2 (mkF m 26 #[.val (.ref a), .val (.ref q), .val (.double (0 : UInt64)), .second, .val (.ref q), .val (.int (2 : Int32)), .val (.int (1 : Int32)), .val (.double (g 0)), .second] [(.int (1 : Int32)), (.ref q)])
  refine Go.daload X2 hx hZ hh2 V_q (j := (1 : Int32)) (v := (g 1)) (by decide) rfl (hb hby d1_26) ?_
  show Go _ _ _ _ _ _ _ T2 (mkF m 27 #[.val (.ref a), .val (.ref q), .val (.double (0 : UInt64)), .second, .val (.ref q), .val (.int (2 : Int32)), .val (.int (1 : Int32)), .val (.double (g 0)), .second] [(.double (g 1))])
  refine Go.step (fun _ k => XS.dstore X2.here hx rfl (hb hby d1_27) rfl (l' := #[.val (.ref a), .val (.ref q), .val (.double (0 : UInt64)), .second, .val (.ref q), .val (.int (2 : Int32)), .val (.int (1 : Int32)), .val (.double (g 1)), .second]) rfl k) ?_
  show Go _ _ _ _ _ _ _ T2 (mkF m 29 #[.val (.ref a), .val (.ref q), .val (.double (0 : UInt64)), .second, .val (.ref q), .val (.int (2 : Int32)), .val (.int (1 : Int32)), .val (.double (g 1)), .second] [])
  refine Go.step (fun _ k => XS.dload X2.here hx rfl (hb hby d1_29) rfl k) ?_
  show Go _ _ _ _ _ _ _ T2 (mkF m 31 #[.val (.ref a), .val (.ref q), .val (.double (0 : UInt64)), .second, .val (.ref q), .val (.int (2 : Int32)), .val (.int (1 : Int32)), .val (.double (g 1)), .second] [(.double (g 1))])
  refine Go.callS X2 hx hZ (by rw [hml]; rfl) (y := (⟨"java/lang/Double", "isFinite", "(D)Z"⟩ : MethodName)) (argsL := [(.double (g 1))]) (rest := []) hown (hw _ (List.mem_of_getElem? (i := 10) rfl)) (hw _ (List.mem_of_getElem? (i := 11) rfl)) (hw _ (List.mem_of_getElem? (i := 12) rfl)) (hw _ (List.mem_of_getElem? (i := 13) rfl)) (by decide) (rm3 l Z a0 hw (g 1) h0 n0 Z0 (hf 1 (by decide))) hh2 (hb hby d1_31) (lenOf pd_1 rfl) rfl rfl (W := 0) (Nat.le_of_eq rfl) (by decide) (by decide) (by decide) (by decide) ?_
  intro v3 T3 L3 X3 Q3
  obtain ⟨rfl, N3q, hh3⟩ := Q3
  have N3 := Fr.app N2 N3q
  show Go _ _ _ _ _ _ _ T3 (mkF m 34 #[.val (.ref a), .val (.ref q), .val (.double (0 : UInt64)), .second, .val (.ref q), .val (.int (2 : Int32)), .val (.int (1 : Int32)), .val (.double (g 1)), .second] [(.int (1 : Int32))])
  refine Go.step (fun _ k => XS.ifYes X3.here hx rfl (pc0 := 34) (pc' := 52) rfl (hb hby d1_34) rfl ((if0 _ _).trans (feq (by decide : ¬ ((1 : Int32) = (0 : Int32)))).2) (by decide) (by decide) k) ?_
  show Go _ _ _ _ _ _ _ T3 (mkF m 52 #[.val (.ref a), .val (.ref q), .val (.double (0 : UInt64)), .second, .val (.ref q), .val (.int (2 : Int32)), .val (.int (1 : Int32)), .val (.double (g 1)), .second] [])
  refine Go.step (fun _ k => XS.iinc X3.here hx rfl (hb hby d1_52) rfl (l' := #[.val (.ref a), .val (.ref q), .val (.double (0 : UInt64)), .second, .val (.ref q), .val (.int (2 : Int32)), .val (.int (2 : Int32)), .val (.double (g 1)), .second]) rfl k) ?_
  show Go _ _ _ _ _ _ _ T3 (mkF m 55 #[.val (.ref a), .val (.ref q), .val (.double (0 : UInt64)), .second, .val (.ref q), .val (.int (2 : Int32)), .val (.int (2 : Int32)), .val (.double (g 1)), .second] [])
  refine Go.step (fun _ k => XS.goto X3.here hx rfl (pc0 := 55) (pc' := 15) rfl (hb hby d1_55) (by decide) (by decide) k) ?_
  show Go _ _ _ _ _ _ _ T3 (mkF m 15 #[.val (.ref a), .val (.ref q), .val (.double (0 : UInt64)), .second, .val (.ref q), .val (.int (2 : Int32)), .val (.int (2 : Int32)), .val (.double (g 1)), .second] [])
  refine Go.step (fun _ k => XS.iload X3.here hx rfl (hb hby d1_15) rfl k) ?_
  show Go _ _ _ _ _ _ _ T3 (mkF m 17 #[.val (.ref a), .val (.ref q), .val (.double (0 : UInt64)), .second, .val (.ref q), .val (.int (2 : Int32)), .val (.int (2 : Int32)), .val (.double (g 1)), .second] [(.int (2 : Int32))])
  refine Go.step (fun _ k => XS.iload X3.here hx rfl (hb hby d1_17) rfl k) ?_
  show Go _ _ _ _ _ _ _ T3 (mkF m 19 #[.val (.ref a), .val (.ref q), .val (.double (0 : UInt64)), .second, .val (.ref q), .val (.int (2 : Int32)), .val (.int (2 : Int32)), .val (.double (g 1)), .second] [(.int (2 : Int32)), (.int (2 : Int32))])
  refine Go.step (fun _ k => XS.icmpYes X3.here hx rfl (pc0 := 19) (pc' := 58) rfl (hb hby d1_19) rfl (flt (by decide : ¬ ((2 : Int32) < (2 : Int32)))).2.1 (by decide) (by decide) k) ?_
  show Go _ _ _ _ _ _ _ T3 (mkF m 58 #[.val (.ref a), .val (.ref q), .val (.double (0 : UInt64)), .second, .val (.ref q), .val (.int (2 : Int32)), .val (.int (2 : Int32)), .val (.double (g 1)), .second] [])
  refine Go.step (fun _ k => XS.dloadN X3.here hx rfl (hb hby d1_58) rfl k) ?_
  show Go _ _ _ _ _ _ _ T3 (mkF m 59 #[.val (.ref a), .val (.ref q), .val (.double (0 : UInt64)), .second, .val (.ref q), .val (.int (2 : Int32)), .val (.int (2 : Int32)), .val (.double (g 1)), .second] [(.double (0 : UInt64))])
  refine Go.callS X3 hx hZ (by rw [hml]; rfl) (y := (⟨"java/lang/Double", "isFinite", "(D)Z"⟩ : MethodName)) (argsL := [(.double (0 : UInt64))]) (rest := []) hown (hw _ (List.mem_of_getElem? (i := 10) rfl)) (hw _ (List.mem_of_getElem? (i := 11) rfl)) (hw _ (List.mem_of_getElem? (i := 12) rfl)) (hw _ (List.mem_of_getElem? (i := 13) rfl)) (by decide) (rm3 l Z a0 hw (0 : UInt64) h0 n0 Z0 (by first | decide +kernel | (unfold Jvm.Free.Fl.Fin64; decide +kernel) | (unfold Jvm.Free.Fl.Nz64; decide +kernel) | (unfold Jvm.Free.Fl.NoNaN64; decide +kernel))) hh3 (hb hby d1_59) (lenOf pd_1 rfl) rfl rfl (W := 0) (Nat.le_of_eq rfl) (by decide) (by decide) (by decide) (by decide) ?_
  intro v4 T4 L4 X4 Q4
  obtain ⟨rfl, N4q, hh4⟩ := Q4
  have N4 := Fr.app N3 N4q
  show Go _ _ _ _ _ _ _ T4 (mkF m 62 #[.val (.ref a), .val (.ref q), .val (.double (0 : UInt64)), .second, .val (.ref q), .val (.int (2 : Int32)), .val (.int (2 : Int32)), .val (.double (g 1)), .second] [(.int (1 : Int32))])
  refine Go.step (fun _ k => XS.ifYes X4.here hx rfl (pc0 := 62) (pc' := 79) rfl (hb hby d1_62) rfl ((if0 _ _).trans (feq (by decide : ¬ ((1 : Int32) = (0 : Int32)))).2) (by decide) (by decide) k) ?_
  show Go _ _ _ _ _ _ _ T4 (mkF m 79 #[.val (.ref a), .val (.ref q), .val (.double (0 : UInt64)), .second, .val (.ref q), .val (.int (2 : Int32)), .val (.int (2 : Int32)), .val (.double (g 1)), .second] [])
  refine Go.step (fun _ k => XS.aloadN X4.here hx rfl (hb hby d1_79) rfl rfl k) ?_
  show Go _ _ _ _ _ _ _ T4 (mkF m 80 #[.val (.ref a), .val (.ref q), .val (.double (0 : UInt64)), .second, .val (.ref q), .val (.int (2 : Int32)), .val (.int (2 : Int32)), .val (.double (g 1)), .second] [(.ref a)])
  refine Go.step (fun _ k => XS.aloadN X4.here hx rfl (hb hby d1_80) rfl rfl k) ?_
  show Go _ _ _ _ _ _ _ T4 (mkF m 81 #[.val (.ref a), .val (.ref q), .val (.double (0 : UInt64)), .second, .val (.ref q), .val (.int (2 : Int32)), .val (.int (2 : Int32)), .val (.double (g 1)), .second] [(.ref q), (.ref a)])
  refine Go.clone X4 hx hZ (by rw [hml]; rfl) hown (hw _ (List.mem_of_getElem? (i := 19) rfl)) (hw _ (List.mem_of_getElem? (i := 20) rfl)) (hw _ (List.mem_of_getElem? (i := 24) rfl)) (hw _ (List.mem_of_getElem? (i := 22) rfl)) (hw _ (List.mem_of_getElem? (i := 23) rfl)) (hw _ (List.mem_of_getElem? (i := 25) rfl)) hh4 V_q E_q (hb hby d1_81) (by decide) (W := 1) (Nat.le_of_eq rfl) (by decide) (cap := 2) (by decide) (by decide) (by decide) ?_
  intro T5 h5 b5 g5 X5 e5 E5 Vc5 Ec5
  have K5 : Keep h0 h5 [a] := (Keep.refl h0 [a]).ext E5
  have sz_b5 : h0.size ≤ b5 := Nat.le_trans ((Keep.refl h0 [a]) : Keep h0 h0 [a]).1 (Nat.le_of_eq g5.symm)
  have ge_b5 : n0 ≤ b5 := Nat.le_trans Z0 sz_b5
  have ne_a_b5 : a ≠ b5 := Nat.ne_of_lt (Nat.lt_of_lt_of_le E_a.lt (Nat.le_of_eq g5.symm))
  have ne_q_b5 : q ≠ b5 := Nat.ne_of_lt (Nat.lt_of_lt_of_le E_q.lt (Nat.le_of_eq g5.symm))
  have E_a_5 := E_a.ext E5
  have F_coefficients_a_5 := F_coefficients_a.ext E5
  have F_bound_a_5 := F_bound_a.ext E5
  have E_q_5 := E_q.ext E5
  have V_q_5 := V_q.ext E5
  show Go _ _ _ _ _ _ _ T5 (mkF m 84 #[.val (.ref a), .val (.ref q), .val (.double (0 : UInt64)), .second, .val (.ref q), .val (.int (2 : Int32)), .val (.int (2 : Int32)), .val (.double (g 1)), .second] [(.ref b5), (.ref a)])
  obtain ⟨T6, X6, e6, st6⟩ := castY X5 hx hZ hown (hw _ (List.mem_of_getElem? (i := 26) rfl)) e5 (Ins.self Ec5) (g := (mkF m 84 #[.val (.ref a), .val (.ref q), .val (.double (0 : UInt64)), .second, .val (.ref q), .val (.int (2 : Int32)), .val (.int (2 : Int32)), .val (.double (g 1)), .second] [(.ref b5), (.ref a)])) rfl rfl (hb hby d1_84)
  refine Go.step st6 ?_
  show Go _ _ _ _ _ _ _ T6 (mkF m 87 #[.val (.ref a), .val (.ref q), .val (.double (0 : UInt64)), .second, .val (.ref q), .val (.int (2 : Int32)), .val (.int (2 : Int32)), .val (.double (g 1)), .second] [(.ref b5), (.ref a)])
  obtain ⟨T7, h7, X7, e7, W7, st7⟩ := putF X6 hx hZ hown (host := "") (Or.inl (hw _ (List.mem_of_getElem? (i := 28) rfl))) Via.refl e6 F_coefficients_a_5 E_a_5 (Or.inr ⟨(hw _ (List.mem_of_getElem? (i := 29) rfl)), rfl, hnm⟩) (hw _ (List.mem_of_getElem? (i := 2) rfl)) (ty := (.array .double)) (by decide) rfl rfl (g := (mkF m 87 #[.val (.ref a), .val (.ref q), .val (.double (0 : UInt64)), .second, .val (.ref q), .val (.int (2 : Int32)), .val (.int (2 : Int32)), .val (.double (g 1)), .second] [(.ref b5), (.ref a)])) rfl rfl (hb hby d1_87)
  refine Go.step st7 ?_
  have N7 := Fr.snoc X7 N4 ge_a
  have F_coefficients_a_7 := F_coefficients_a_5.same W7
  have E_a_7 := E_a_5.wr W7
  have F_bound_a_7 := F_bound_a_5.other W7 (Or.inr (slot_ne (Or.inr (hw _ (List.mem_of_getElem? (i := 31) rfl))) (Or.inr (hw _ (List.mem_of_getElem? (i := 29) rfl))) (by decide) (t := .double) (t' := (.array .double)) (by decide) (by decide)))
  have E_q_7 := E_q_5.wr W7
  have V_q_7 := V_q_5.other W7 (Ne.symm ne_a_q)
  have Vc5_7 := Vc5.other W7 (Ne.symm ne_a_b5)
  have Ec5_7 := Ec5.wr W7
  have K7 : Keep h0 h7 [a] := K5.wr W7 (Or.inl (List.mem_of_getElem? (i := 0) rfl))
  show Go _ _ _ _ _ _ _ T7 (mkF m 90 #[.val (.ref a), .val (.ref q), .val (.double (0 : UInt64)), .second, .val (.ref q), .val (.int (2 : Int32)), .val (.int (2 : Int32)), .val (.double (g 1)), .second] [])
  refine Go.step (fun _ k => XS.aloadN X7.here hx rfl (hb hby d1_90) rfl rfl k) ?_
  show Go _ _ _ _ _ _ _ T7 (mkF m 91 #[.val (.ref a), .val (.ref q), .val (.double (0 : UInt64)), .second, .val (.ref q), .val (.int (2 : Int32)), .val (.int (2 : Int32)), .val (.double (g 1)), .second] [(.ref a)])
  refine Go.step (fun _ k => XS.dloadN X7.here hx rfl (hb hby d1_91) rfl k) ?_
  show Go _ _ _ _ _ _ _ T7 (mkF m 92 #[.val (.ref a), .val (.ref q), .val (.double (0 : UInt64)), .second, .val (.ref q), .val (.int (2 : Int32)), .val (.int (2 : Int32)), .val (.double (g 1)), .second] [(.double (0 : UInt64)), (.ref a)])
  obtain ⟨T8, h8, X8, e8, W8, st8⟩ := putF X7 hx hZ hown (host := "") (Or.inl (hw _ (List.mem_of_getElem? (i := 30) rfl))) Via.refl e7 F_bound_a_7 E_a_7 (Or.inr ⟨(hw _ (List.mem_of_getElem? (i := 31) rfl)), rfl, hnm⟩) (hw _ (List.mem_of_getElem? (i := 2) rfl)) (ty := .double) (by decide) rfl rfl (g := (mkF m 92 #[.val (.ref a), .val (.ref q), .val (.double (0 : UInt64)), .second, .val (.ref q), .val (.int (2 : Int32)), .val (.int (2 : Int32)), .val (.double (g 1)), .second] [(.double (0 : UInt64)), (.ref a)])) rfl rfl (hb hby d1_92)
  refine Go.step st8 ?_
  have N8 := Fr.snoc X8 N7 ge_a
  have F_bound_a_8 := F_bound_a_7.same W8
  have E_a_8 := E_a_7.wr W8
  have F_coefficients_a_8 := F_coefficients_a_7.other W8 (Or.inr (slot_ne (Or.inr (hw _ (List.mem_of_getElem? (i := 29) rfl))) (Or.inr (hw _ (List.mem_of_getElem? (i := 31) rfl))) (by decide) (t := (.array .double)) (t' := .double) (by decide) (by decide)))
  have E_q_8 := E_q_7.wr W8
  have V_q_8 := V_q_7.other W8 (Ne.symm ne_a_q)
  have Vc5_8 := Vc5_7.other W8 (Ne.symm ne_a_b5)
  have Ec5_8 := Ec5_7.wr W8
  have K8 : Keep h0 h8 [a] := K7.wr W8 (Or.inl (List.mem_of_getElem? (i := 0) rfl))
  show Go _ _ _ _ _ _ _ T8 (mkF m 95 #[.val (.ref a), .val (.ref q), .val (.double (0 : UInt64)), .second, .val (.ref q), .val (.int (2 : Int32)), .val (.int (2 : Int32)), .val (.double (g 1)), .second] [])
  refine Go.retV X8 hx hlk hret (hb hby d1_95) (by decide) (by decide) ?_
  try rw [e8]
  exact ⟨rfl, N8, K8, E_a_8, b5, F_coefficients_a_8, Vc5_8, sz_b5⟩
theorem ef_rm1_2 (m : MethodId) (a : Addr) (q : Addr) : entryFrame m #[(.ref a), (.ref q), (.double (0 : UInt64))] 9 = mkF m 0 #[.val (.ref a), .val (.ref q), .val (.double (0 : UInt64)), .second, .unset, .unset, .unset, .unset, .unset] [] := by first | (simp [entryFrame, mkF, argsToLocals, Value.category]; done) | rfl
theorem rm1_2 (l : Launch) (Z : State) (a0 : Array Value) (hw : ∀ d ∈ tables_1, d.before a0 Z = true) (a q : Addr) (g : Nat → UInt64) (h0 : Heap) (n0 : Nat) (Z0 : n0 ≤ h0.size) (E_a : Exa Z h0 a "com/example/leapwise/leapwise/polytope/HalfSpace") (F_coefficients_a : Fld Z h0 a "com/example/leapwise/leapwise/polytope/HalfSpace" "coefficients" "[D" .null) (F_bound_a : Fld Z h0 a "com/example/leapwise/leapwise/polytope/HalfSpace" "bound" "D" (.double (0 : UInt64))) (E_q : Exa Z h0 q "[D") (V_q : Dv Z h0 q (2 : Int32) g) (ge_a : n0 ≤ a) (ne_a_q : a ≠ q) (hf : ∀ i, i < 2 → Jvm.Free.Fl.Fin64 (g i)) :
    Con l Z (⟨"com/example/leapwise/leapwise/polytope/HalfSpace", "<init>", "([DD)V"⟩ : MethodName) prog_28_method_1_code 9 none ({ frames := 2, cells := 1, slots := 2, locals := 40 } : Room) #[(.ref a), (.ref q), (.double (0 : UInt64))] h0 (fun r h L => r = none ∧ Fr n0 L ∧ Keep h0 h [a] ∧ Exa Z h a "com/example/leapwise/leapwise/polytope/HalfSpace" ∧ ∃ c : Addr, Fld Z h a "com/example/leapwise/leapwise/polytope/HalfSpace" "coefficients" "[D" (.ref c) ∧ Dv Z h c (2 : Int32) g ∧ h0.size ≤ c) :=
  con_of (plainFor_of_name pn_1) (fun p_ e_ s_ m_ b_ meth_ c_ T_ X_ hx hZ hby hml hown hnm hret hlk e0 => Go.cast (ef_rm1_2 m_ a q) (w1_2 a q g X_ hx hZ hw hby hml hown hnm hret hlk e0 Z0 (Fr.nil n0) E_a F_coefficients_a F_bound_a E_q V_q ge_a ne_a_q hf))
set_option maxRecDepth 65536 in
set_option maxHeartbeats 40000000 in
theorem w1_3 {p : Program} {l : Launch} {e : Env} {s : State} {m : MethodId} {args : Array Value} {below : List Frame} {meth : Method} {c_ : Code} {T0 : State} {locs : List Loc} {Z : State} {a0 : Array Value} {h0 : Heap} {n0 : Nat} (a q : Addr) (g : Nat → UInt64)
    (X0 : Stand p l e ({ frames := 2, cells := 1, slots := 3, locals := 40 } : Room) s m args below meth c_ T0 locs 0 0) (hx : p.tables.exec = Jvm.exec) (hZ : Z.Warmed39 s.vm) (hw : ∀ d ∈ tables_1, d.before a0 Z = true) (hby : c_.code = prog_28_method_1_code) (hml : c_.maxLocals = 9) (hown : s.vm.findClass "com/example/leapwise/leapwise/polytope/HalfSpace" = some m.cls) (hnm : meth.name = "<init>") (hret : meth.sig.returnType = none) (hlk : meth.locks = false) (e0 : T0.heap = h0) (Z0 : n0 ≤ h0.size) (N0 : Fr n0 locs) (E_a : Exa Z h0 a "com/example/leapwise/leapwise/polytope/HalfSpace") (F_coefficients_a : Fld Z h0 a "com/example/leapwise/leapwise/polytope/HalfSpace" "coefficients" "[D" .null) (F_bound_a : Fld Z h0 a "com/example/leapwise/leapwise/polytope/HalfSpace" "bound" "D" (.double (0 : UInt64))) (E_q : Exa Z h0 q "[D") (V_q : Dv Z h0 q (3 : Int32) g) (ge_a : n0 ≤ a) (ne_a_q : a ≠ q) (hf : ∀ i, i < 3 → Jvm.Free.Fl.Fin64 (g i)) :
    Go p e below s ({ frames := 2, cells := 1, slots := 3, locals := 40 } : Room).cells ({ frames := 2, cells := 1, slots := 3, locals := 40 } : Room).slots (fun r h L => r = none ∧ Fr n0 L ∧ Keep h0 h [a] ∧ Exa Z h a "com/example/leapwise/leapwise/polytope/HalfSpace" ∧ ∃ c : Addr, Fld Z h a "com/example/leapwise/leapwise/polytope/HalfSpace" "coefficients" "[D" (.ref c) ∧ Dv Z h c (3 : Int32) g ∧ h0.size ≤ c) T0 (mkF m 0 #[.val (.ref a), .val (.ref q), .val (.double (0 : UInt64)), .second, .unset, .unset, .unset, .unset, .unset] []) := by
  show Go _ _ _ _ _ _ _ T0 (mkF m 0 #[.val (.ref a), .val (.ref q), .val (.double (0 : UInt64)), .second, .unset, .unset, .unset, .unset, .unset] [])
  refine Go.step (fun _ k => XS.aloadN X0.here hx rfl (hb hby d1_0) rfl rfl k) ?_
  show Go _ _ _ _ _ _ _ T0 (mkF m 1 #[.val (.ref a), .val (.ref q), .val (.double (0 : UInt64)), .second, .unset, .unset, .unset, .unset, .unset] [(.ref a)])
  obtain ⟨T1, X1, e1, st1⟩ := initO X0 hx hZ hown (hw _ (List.mem_of_getElem? (i := 7) rfl)) (hw _ (List.mem_of_getElem? (i := 8) rfl)) (hw _ (List.mem_of_getElem? (i := 9) rfl)) e0 (g := (mkF m 1 #[.val (.ref a), .val (.ref q), .val (.double (0 : UInt64)), .second, .unset, .unset, .unset, .unset, .unset] [(.ref a)])) rfl (by rw [hml]; rfl) rfl (hb hby d1_1) (by decide) (W := 0) (by show 2 * 0 + _ ≤ _; exact Nat.le_of_eq rfl) (by decide)
  refine Go.step st1 ?_
  show Go _ _ _ _ _ _ _ T1 (mkF m 4 #[.val (.ref a), .val (.ref q), .val (.double (0 : UInt64)), .second, .unset, .unset, .unset, .unset, .unset] [])
  refine Go.step (fun _ k => XS.aloadN X1.here hx rfl (hb hby d1_4) rfl rfl k) ?_
  show Go _ _ _ _ _ _ _ T1 (mkF m 5 #[.val (.ref a), .val (.ref q), .val (.double (0 : UInt64)), .second, .unset, .unset, .unset, .unset, .unset] [(.ref q)])
  refine Go.step (fun _ k => XS.astore X1.here hx rfl (hb hby d1_5) rfl rfl (l' := #[.val (.ref a), .val (.ref q), .val (.double (0 : UInt64)), .second, .val (.ref q), .unset, .unset, .unset, .unset]) rfl k) ?_
  show Go _ _ _ _ _ _ _ T1 (mkF m 7 #[.val (.ref a), .val (.ref q), .val (.double (0 : UInt64)), .second, .val (.ref q), .unset, .unset, .unset, .unset] [])
  refine Go.step (fun _ k => XS.aload X1.here hx rfl (hb hby d1_7) rfl rfl k) ?_
  show Go _ _ _ _ _ _ _ T1 (mkF m 9 #[.val (.ref a), .val (.ref q), .val (.double (0 : UInt64)), .second, .val (.ref q), .unset, .unset, .unset, .unset] [(.ref q)])
  refine Go.alen X1 hx hZ e1 V_q (hb hby d1_9) ?_
  show Go _ _ _ _ _ _ _ T1 (mkF m 10 #[.val (.ref a), .val (.ref q), .val (.double (0 : UInt64)), .second, .val (.ref q), .unset, .unset, .unset, .unset] [(.int (3 : Int32))])
  refine Go.step (fun _ k => XS.istore X1.here hx rfl (hb hby d1_10) rfl (l' := #[.val (.ref a), .val (.ref q), .val (.double (0 : UInt64)), .second, .val (.ref q), .val (.int (3 : Int32)), .unset, .unset, .unset]) rfl k) ?_
  show Go _ _ _ _ _ _ _ T1 (mkF m 12 #[.val (.ref a), .val (.ref q), .val (.double (0 : UInt64)), .second, .val (.ref q), .val (.int (3 : Int32)), .unset, .unset, .unset] [])
  refine Go.step (fun _ k => XS.iconst X1.here hx rfl (hb hby d1_12) k) ?_
  show Go _ _ _ _ _ _ _ T1 (mkF m 13 #[.val (.ref a), .val (.ref q), .val (.double (0 : UInt64)), .second, .val (.ref q), .val (.int (3 : Int32)), .unset, .unset, .unset] [(.int (0 : Int32))])
  refine Go.step (fun _ k => XS.istore X1.here hx rfl (hb hby d1_13) rfl (l' := #[.val (.ref a), .val (.ref q), .val (.double (0 : UInt64)), .second, .val (.ref q), .val (.int (3 : Int32)), .val (.int (0 : Int32)), .unset, .unset]) rfl k) ?_
  show Go _ _ _ _ _ _ _ T1 (mkF m 15 #[.val (.ref a), .val (.ref q), .val (.double (0 : UInt64)), .second, .val (.ref q), .val (.int (3 : Int32)), .val (.int (0 : Int32)), .unset, .unset] [])
  refine Go.step (fun _ k => XS.iload X1.here hx rfl (hb hby d1_15) rfl k) ?_
  show Go _ _ _ _ _ _ _ T1 (mkF m 17 #[.val (.ref a), .val (.ref q), .val (.double (0 : UInt64)), .second, .val (.ref q), .val (.int (3 : Int32)), .val (.int (0 : Int32)), .unset, .unset] [(.int (0 : Int32))])
  refine Go.step (fun _ k => XS.iload X1.here hx rfl (hb hby d1_17) rfl k) ?_
  show Go _ _ _ _ _ _ _ T1 (mkF m 19 #[.val (.ref a), .val (.ref q), .val (.double (0 : UInt64)), .second, .val (.ref q), .val (.int (3 : Int32)), .val (.int (0 : Int32)), .unset, .unset] [(.int (3 : Int32)), (.int (0 : Int32))])
  refine Go.step (fun _ k => XS.icmpNo X1.here hx rfl (hb hby d1_19) rfl (tlt (by decide : (0 : Int32) < (3 : Int32))).2.1 k) ?_
  show Go _ _ _ _ _ _ _ T1 (mkF m 22 #[.val (.ref a), .val (.ref q), .val (.double (0 : UInt64)), .second, .val (.ref q), .val (.int (3 : Int32)), .val (.int (0 : Int32)), .unset, .unset] [])
  refine Go.step (fun _ k => XS.aload X1.here hx rfl (hb hby d1_22) rfl rfl k) ?_
  show Go _ _ _ _ _ _ _ T1 (mkF m 24 #[.val (.ref a), .val (.ref q), .val (.double (0 : UInt64)), .second, .val (.ref q), .val (.int (3 : Int32)), .val (.int (0 : Int32)), .unset, .unset] [(.ref q)])
  refine Go.step (fun _ k => XS.iload X1.here hx rfl (hb hby d1_24) rfl k) ?_
  show Go _ _ _ _ _ _ _ T1 (mkF m 26 #[.val (.ref a), .val (.ref q), .val (.double (0 : UInt64)), .second, .val (.ref q), .val (.int (3 : Int32)), .val (.int (0 : Int32)), .unset, .unset] [(.int (0 : Int32)), (.ref q)])
  refine Go.daload X1 hx hZ e1 V_q (j := (0 : Int32)) (v := (g 0)) (by decide) rfl (hb hby d1_26) ?_
  show Go _ _ _ _ _ _ _ T1 (mkF m 27 #[.val (.ref a), .val (.ref q), .val (.double (0 : UInt64)), .second, .val (.ref q), .val (.int (3 : Int32)), .val (.int (0 : Int32)), .unset, .unset] [(.double (g 0))])
  refine Go.step (fun _ k => XS.dstore X1.here hx rfl (hb hby d1_27) rfl (l' := #[.val (.ref a), .val (.ref q), .val (.double (0 : UInt64)), .second, .val (.ref q), .val (.int (3 : Int32)), .val (.int (0 : Int32)), .val (.double (g 0)), .second]) rfl k) ?_
  show Go _ _ _ _ _ _ _ T1 (mkF m 29 #[.val (.ref a), .val (.ref q), .val (.double (0 : UInt64)), .second, .val (.ref q), .val (.int (3 : Int32)), .val (.int (0 : Int32)), .val (.double (g 0)), .second] [])
  refine Go.step (fun _ k => XS.dload X1.here hx rfl (hb hby d1_29) rfl k) ?_
  show Go _ _ _ _ _ _ _ T1 (mkF m 31 #[.val (.ref a), .val (.ref q), .val (.double (0 : UInt64)), .second, .val (.ref q), .val (.int (3 : Int32)), .val (.int (0 : Int32)), .val (.double (g 0)), .second] [(.double (g 0))])
  refine Go.callS X1 hx hZ (by rw [hml]; rfl) (y := (⟨"java/lang/Double", "isFinite", "(D)Z"⟩ : MethodName)) (argsL := [(.double (g 0))]) (rest := []) hown (hw _ (List.mem_of_getElem? (i := 10) rfl)) (hw _ (List.mem_of_getElem? (i := 11) rfl)) (hw _ (List.mem_of_getElem? (i := 12) rfl)) (hw _ (List.mem_of_getElem? (i := 13) rfl)) (by decide) (rm3 l Z a0 hw (g 0) h0 n0 Z0 (hf 0 (by decide))) e1 (hb hby d1_31) (lenOf pd_1 rfl) rfl rfl (W := 0) (Nat.le_of_eq rfl) (by decide) (by decide) (by decide) (by decide) ?_
  intro v2 T2 L2 X2 Q2
  obtain ⟨rfl, N2q, hh2⟩ := Q2
  have N2 := Fr.app N0 N2q
  show Go _ _ _ _ _ _ _ T2 (mkF m 34 #[.val (.ref a), .val (.ref q), .val (.double (0 : UInt64)), .second, .val (.ref q), .val (.int (3 : Int32)), .val (.int (0 : Int32)), .val (.double (g 0)), .second] [(.int (1 : Int32))])
  refine Go.step (fun _ k => XS.ifYes X2.here hx rfl (pc0 := 34) (pc' := 52) rfl (hb hby d1_34) rfl ((if0 _ _).trans (feq (by decide : ¬ ((1 : Int32) = (0 : Int32)))).2) (by decide) (by decide) k) ?_
  show Go _ _ _ _ _ _ _ T2 (mkF m 52 #[.val (.ref a), .val (.ref q), .val (.double (0 : UInt64)), .second, .val (.ref q), .val (.int (3 : Int32)), .val (.int (0 : Int32)), .val (.double (g 0)), .second] [])
  refine Go.step (fun _ k => XS.iinc X2.here hx rfl (hb hby d1_52) rfl (l' := #[.val (.ref a), .val (.ref q), .val (.double (0 : UInt64)), .second, .val (.ref q), .val (.int (3 : Int32)), .val (.int (1 : Int32)), .val (.double (g 0)), .second]) rfl k) ?_
  show Go _ _ _ _ _ _ _ T2 (mkF m 55 #[.val (.ref a), .val (.ref q), .val (.double (0 : UInt64)), .second, .val (.ref q), .val (.int (3 : Int32)), .val (.int (1 : Int32)), .val (.double (g 0)), .second] [])
  refine Go.step (fun _ k => XS.goto X2.here hx rfl (pc0 := 55) (pc' := 15) rfl (hb hby d1_55) (by decide) (by decide) k) ?_
  show Go _ _ _ _ _ _ _ T2 (mkF m 15 #[.val (.ref a), .val (.ref q), .val (.double (0 : UInt64)), .second, .val (.ref q), .val (.int (3 : Int32)), .val (.int (1 : Int32)), .val (.double (g 0)), .second] [])
  refine Go.step (fun _ k => XS.iload X2.here hx rfl (hb hby d1_15) rfl k) ?_
  show Go _ _ _ _ _ _ _ T2 (mkF m 17 #[.val (.ref a), .val (.ref q), .val (.double (0 : UInt64)), .second, .val (.ref q), .val (.int (3 : Int32)), .val (.int (1 : Int32)), .val (.double (g 0)), .second] [(.int (1 : Int32))])
  refine Go.step (fun _ k => XS.iload X2.here hx rfl (hb hby d1_17) rfl k) ?_
  show Go _ _ _ _ _ _ _ T2 (mkF m 19 #[.val (.ref a), .val (.ref q), .val (.double (0 : UInt64)), .second, .val (.ref q), .val (.int (3 : Int32)), .val (.int (1 : Int32)), .val (.double (g 0)), .second] [(.int (3 : Int32)), (.int (1 : Int32))])
  refine Go.step (fun _ k => XS.icmpNo X2.here hx rfl (hb hby d1_19) rfl (tlt (by decide : (1 : Int32) < (3 : Int32))).2.1 k) ?_
  show Go _ _ _ _ _ _ _ T2 (mkF m 22 #[.val (.ref a), .val (.ref q), .val (.double (0 : UInt64)), .second, .val (.ref q), .val (.int (3 : Int32)), .val (.int (1 : Int32)), .val (.double (g 0)), .second] [])
  refine Go.step (fun _ k => XS.aload X2.here hx rfl (hb hby d1_22) rfl rfl k) ?_
  show Go _ _ _ _ _ _ _ T2 (mkF m 24 #[.val (.ref a), .val (.ref q), .val (.double (0 : UInt64)), .second, .val (.ref q), .val (.int (3 : Int32)), .val (.int (1 : Int32)), .val (.double (g 0)), .second] [(.ref q)])
  refine Go.step (fun _ k => XS.iload X2.here hx rfl (hb hby d1_24) rfl k) ?_
  show Go _ _ _ _ _ _ _ T2 (mkF m 26 #[.val (.ref a), .val (.ref q), .val (.double (0 : UInt64)), .second, .val (.ref q), .val (.int (3 : Int32)), .val (.int (1 : Int32)), .val (.double (g 0)), .second] [(.int (1 : Int32)), (.ref q)])
  refine Go.daload X2 hx hZ hh2 V_q (j := (1 : Int32)) (v := (g 1)) (by decide) rfl (hb hby d1_26) ?_
  show Go _ _ _ _ _ _ _ T2 (mkF m 27 #[.val (.ref a), .val (.ref q), .val (.double (0 : UInt64)), .second, .val (.ref q), .val (.int (3 : Int32)), .val (.int (1 : Int32)), .val (.double (g 0)), .second] [(.double (g 1))])
  refine Go.step (fun _ k => XS.dstore X2.here hx rfl (hb hby d1_27) rfl (l' := #[.val (.ref a), .val (.ref q), .val (.double (0 : UInt64)), .second, .val (.ref q), .val (.int (3 : Int32)), .val (.int (1 : Int32)), .val (.double (g 1)), .second]) rfl k) ?_
  show Go _ _ _ _ _ _ _ T2 (mkF m 29 #[.val (.ref a), .val (.ref q), .val (.double (0 : UInt64)), .second, .val (.ref q), .val (.int (3 : Int32)), .val (.int (1 : Int32)), .val (.double (g 1)), .second] [])
  refine Go.step (fun _ k => XS.dload X2.here hx rfl (hb hby d1_29) rfl k) ?_
  show Go _ _ _ _ _ _ _ T2 (mkF m 31 #[.val (.ref a), .val (.ref q), .val (.double (0 : UInt64)), .second, .val (.ref q), .val (.int (3 : Int32)), .val (.int (1 : Int32)), .val (.double (g 1)), .second] [(.double (g 1))])
  refine Go.callS X2 hx hZ (by rw [hml]; rfl) (y := (⟨"java/lang/Double", "isFinite", "(D)Z"⟩ : MethodName)) (argsL := [(.double (g 1))]) (rest := []) hown (hw _ (List.mem_of_getElem? (i := 10) rfl)) (hw _ (List.mem_of_getElem? (i := 11) rfl)) (hw _ (List.mem_of_getElem? (i := 12) rfl)) (hw _ (List.mem_of_getElem? (i := 13) rfl)) (by decide) (rm3 l Z a0 hw (g 1) h0 n0 Z0 (hf 1 (by decide))) hh2 (hb hby d1_31) (lenOf pd_1 rfl) rfl rfl (W := 0) (Nat.le_of_eq rfl) (by decide) (by decide) (by decide) (by decide) ?_
  intro v3 T3 L3 X3 Q3
  obtain ⟨rfl, N3q, hh3⟩ := Q3
  have N3 := Fr.app N2 N3q
  show Go _ _ _ _ _ _ _ T3 (mkF m 34 #[.val (.ref a), .val (.ref q), .val (.double (0 : UInt64)), .second, .val (.ref q), .val (.int (3 : Int32)), .val (.int (1 : Int32)), .val (.double (g 1)), .second] [(.int (1 : Int32))])
  refine Go.step (fun _ k => XS.ifYes X3.here hx rfl (pc0 := 34) (pc' := 52) rfl (hb hby d1_34) rfl ((if0 _ _).trans (feq (by decide : ¬ ((1 : Int32) = (0 : Int32)))).2) (by decide) (by decide) k) ?_
  show Go _ _ _ _ _ _ _ T3 (mkF m 52 #[.val (.ref a), .val (.ref q), .val (.double (0 : UInt64)), .second, .val (.ref q), .val (.int (3 : Int32)), .val (.int (1 : Int32)), .val (.double (g 1)), .second] [])
  refine Go.step (fun _ k => XS.iinc X3.here hx rfl (hb hby d1_52) rfl (l' := #[.val (.ref a), .val (.ref q), .val (.double (0 : UInt64)), .second, .val (.ref q), .val (.int (3 : Int32)), .val (.int (2 : Int32)), .val (.double (g 1)), .second]) rfl k) ?_
  show Go _ _ _ _ _ _ _ T3 (mkF m 55 #[.val (.ref a), .val (.ref q), .val (.double (0 : UInt64)), .second, .val (.ref q), .val (.int (3 : Int32)), .val (.int (2 : Int32)), .val (.double (g 1)), .second] [])
  refine Go.step (fun _ k => XS.goto X3.here hx rfl (pc0 := 55) (pc' := 15) rfl (hb hby d1_55) (by decide) (by decide) k) ?_
  show Go _ _ _ _ _ _ _ T3 (mkF m 15 #[.val (.ref a), .val (.ref q), .val (.double (0 : UInt64)), .second, .val (.ref q), .val (.int (3 : Int32)), .val (.int (2 : Int32)), .val (.double (g 1)), .second] [])
  refine Go.step (fun _ k => XS.iload X3.here hx rfl (hb hby d1_15) rfl k) ?_
  show Go _ _ _ _ _ _ _ T3 (mkF m 17 #[.val (.ref a), .val (.ref q), .val (.double (0 : UInt64)), .second, .val (.ref q), .val (.int (3 : Int32)), .val (.int (2 : Int32)), .val (.double (g 1)), .second] [(.int (2 : Int32))])
  refine Go.step (fun _ k => XS.iload X3.here hx rfl (hb hby d1_17) rfl k) ?_
  show Go _ _ _ _ _ _ _ T3 (mkF m 19 #[.val (.ref a), .val (.ref q), .val (.double (0 : UInt64)), .second, .val (.ref q), .val (.int (3 : Int32)), .val (.int (2 : Int32)), .val (.double (g 1)), .second] [(.int (3 : Int32)), (.int (2 : Int32))])
  refine Go.step (fun _ k => XS.icmpNo X3.here hx rfl (hb hby d1_19) rfl (tlt (by decide : (2 : Int32) < (3 : Int32))).2.1 k) ?_
  show Go _ _ _ _ _ _ _ T3 (mkF m 22 #[.val (.ref a), .val (.ref q), .val (.double (0 : UInt64)), .second, .val (.ref q), .val (.int (3 : Int32)), .val (.int (2 : Int32)), .val (.double (g 1)), .second] [])
  refine Go.step (fun _ k => XS.aload X3.here hx rfl (hb hby d1_22) rfl rfl k) ?_
  show Go _ _ _ _ _ _ _ T3 (mkF m 24 #[.val (.ref a), .val (.ref q), .val (.double (0 : UInt64)), .second, .val (.ref q), .val (.int (3 : Int32)), .val (.int (2 : Int32)), .val (.double (g 1)), .second] [(.ref q)])
  refine Go.step (fun _ k => XS.iload X3.here hx rfl (hb hby d1_24) rfl k) ?_
  show Go _ _ _ _ _ _ _ T3 (mkF m 26 #[.val (.ref a), .val (.ref q), .val (.double (0 : UInt64)), .second, .val (.ref q), .val (.int (3 : Int32)), .val (.int (2 : Int32)), .val (.double (g 1)), .second] [(.int (2 : Int32)), (.ref q)])
  refine Go.daload X3 hx hZ hh3 V_q (j := (2 : Int32)) (v := (g 2)) (by decide) rfl (hb hby d1_26) ?_
  show Go _ _ _ _ _ _ _ T3 (mkF m 27 #[.val (.ref a), .val (.ref q), .val (.double (0 : UInt64)), .second, .val (.ref q), .val (.int (3 : Int32)), .val (.int (2 : Int32)), .val (.double (g 1)), .second] [(.double (g 2))])
  refine Go.step (fun _ k => XS.dstore X3.here hx rfl (hb hby d1_27) rfl (l' := #[.val (.ref a), .val (.ref q), .val (.double (0 : UInt64)), .second, .val (.ref q), .val (.int (3 : Int32)), .val (.int (2 : Int32)), .val (.double (g 2)), .second]) rfl k) ?_
  show Go _ _ _ _ _ _ _ T3 (mkF m 29 #[.val (.ref a), .val (.ref q), .val (.double (0 : UInt64)), .second, .val (.ref q), .val (.int (3 : Int32)), .val (.int (2 : Int32)), .val (.double (g 2)), .second] [])
  refine Go.step (fun _ k => XS.dload X3.here hx rfl (hb hby d1_29) rfl k) ?_
  show Go _ _ _ _ _ _ _ T3 (mkF m 31 #[.val (.ref a), .val (.ref q), .val (.double (0 : UInt64)), .second, .val (.ref q), .val (.int (3 : Int32)), .val (.int (2 : Int32)), .val (.double (g 2)), .second] [(.double (g 2))])
  refine Go.callS X3 hx hZ (by rw [hml]; rfl) (y := (⟨"java/lang/Double", "isFinite", "(D)Z"⟩ : MethodName)) (argsL := [(.double (g 2))]) (rest := []) hown (hw _ (List.mem_of_getElem? (i := 10) rfl)) (hw _ (List.mem_of_getElem? (i := 11) rfl)) (hw _ (List.mem_of_getElem? (i := 12) rfl)) (hw _ (List.mem_of_getElem? (i := 13) rfl)) (by decide) (rm3 l Z a0 hw (g 2) h0 n0 Z0 (hf 2 (by decide))) hh3 (hb hby d1_31) (lenOf pd_1 rfl) rfl rfl (W := 0) (Nat.le_of_eq rfl) (by decide) (by decide) (by decide) (by decide) ?_
  intro v4 T4 L4 X4 Q4
  obtain ⟨rfl, N4q, hh4⟩ := Q4
  have N4 := Fr.app N3 N4q
  show Go _ _ _ _ _ _ _ T4 (mkF m 34 #[.val (.ref a), .val (.ref q), .val (.double (0 : UInt64)), .second, .val (.ref q), .val (.int (3 : Int32)), .val (.int (2 : Int32)), .val (.double (g 2)), .second] [(.int (1 : Int32))])
  refine Go.step (fun _ k => XS.ifYes X4.here hx rfl (pc0 := 34) (pc' := 52) rfl (hb hby d1_34) rfl ((if0 _ _).trans (feq (by decide : ¬ ((1 : Int32) = (0 : Int32)))).2) (by decide) (by decide) k) ?_
  show Go _ _ _ _ _ _ _ T4 (mkF m 52 #[.val (.ref a), .val (.ref q), .val (.double (0 : UInt64)), .second, .val (.ref q), .val (.int (3 : Int32)), .val (.int (2 : Int32)), .val (.double (g 2)), .second] [])
  refine Go.step (fun _ k => XS.iinc X4.here hx rfl (hb hby d1_52) rfl (l' := #[.val (.ref a), .val (.ref q), .val (.double (0 : UInt64)), .second, .val (.ref q), .val (.int (3 : Int32)), .val (.int (3 : Int32)), .val (.double (g 2)), .second]) rfl k) ?_
  show Go _ _ _ _ _ _ _ T4 (mkF m 55 #[.val (.ref a), .val (.ref q), .val (.double (0 : UInt64)), .second, .val (.ref q), .val (.int (3 : Int32)), .val (.int (3 : Int32)), .val (.double (g 2)), .second] [])
  refine Go.step (fun _ k => XS.goto X4.here hx rfl (pc0 := 55) (pc' := 15) rfl (hb hby d1_55) (by decide) (by decide) k) ?_
  show Go _ _ _ _ _ _ _ T4 (mkF m 15 #[.val (.ref a), .val (.ref q), .val (.double (0 : UInt64)), .second, .val (.ref q), .val (.int (3 : Int32)), .val (.int (3 : Int32)), .val (.double (g 2)), .second] [])
  refine Go.step (fun _ k => XS.iload X4.here hx rfl (hb hby d1_15) rfl k) ?_
  show Go _ _ _ _ _ _ _ T4 (mkF m 17 #[.val (.ref a), .val (.ref q), .val (.double (0 : UInt64)), .second, .val (.ref q), .val (.int (3 : Int32)), .val (.int (3 : Int32)), .val (.double (g 2)), .second] [(.int (3 : Int32))])
  refine Go.step (fun _ k => XS.iload X4.here hx rfl (hb hby d1_17) rfl k) ?_
  show Go _ _ _ _ _ _ _ T4 (mkF m 19 #[.val (.ref a), .val (.ref q), .val (.double (0 : UInt64)), .second, .val (.ref q), .val (.int (3 : Int32)), .val (.int (3 : Int32)), .val (.double (g 2)), .second] [(.int (3 : Int32)), (.int (3 : Int32))])
  refine Go.step (fun _ k => XS.icmpYes X4.here hx rfl (pc0 := 19) (pc' := 58) rfl (hb hby d1_19) rfl (flt (by decide : ¬ ((3 : Int32) < (3 : Int32)))).2.1 (by decide) (by decide) k) ?_
  show Go _ _ _ _ _ _ _ T4 (mkF m 58 #[.val (.ref a), .val (.ref q), .val (.double (0 : UInt64)), .second, .val (.ref q), .val (.int (3 : Int32)), .val (.int (3 : Int32)), .val (.double (g 2)), .second] [])
  refine Go.step (fun _ k => XS.dloadN X4.here hx rfl (hb hby d1_58) rfl k) ?_
  show Go _ _ _ _ _ _ _ T4 (mkF m 59 #[.val (.ref a), .val (.ref q), .val (.double (0 : UInt64)), .second, .val (.ref q), .val (.int (3 : Int32)), .val (.int (3 : Int32)), .val (.double (g 2)), .second] [(.double (0 : UInt64))])
  refine Go.callS X4 hx hZ (by rw [hml]; rfl) (y := (⟨"java/lang/Double", "isFinite", "(D)Z"⟩ : MethodName)) (argsL := [(.double (0 : UInt64))]) (rest := []) hown (hw _ (List.mem_of_getElem? (i := 10) rfl)) (hw _ (List.mem_of_getElem? (i := 11) rfl)) (hw _ (List.mem_of_getElem? (i := 12) rfl)) (hw _ (List.mem_of_getElem? (i := 13) rfl)) (by decide) (rm3 l Z a0 hw (0 : UInt64) h0 n0 Z0 (by first | decide +kernel | (unfold Jvm.Free.Fl.Fin64; decide +kernel) | (unfold Jvm.Free.Fl.Nz64; decide +kernel) | (unfold Jvm.Free.Fl.NoNaN64; decide +kernel))) hh4 (hb hby d1_59) (lenOf pd_1 rfl) rfl rfl (W := 0) (Nat.le_of_eq rfl) (by decide) (by decide) (by decide) (by decide) ?_
  intro v5 T5 L5 X5 Q5
  obtain ⟨rfl, N5q, hh5⟩ := Q5
  have N5 := Fr.app N4 N5q
  show Go _ _ _ _ _ _ _ T5 (mkF m 62 #[.val (.ref a), .val (.ref q), .val (.double (0 : UInt64)), .second, .val (.ref q), .val (.int (3 : Int32)), .val (.int (3 : Int32)), .val (.double (g 2)), .second] [(.int (1 : Int32))])
  refine Go.step (fun _ k => XS.ifYes X5.here hx rfl (pc0 := 62) (pc' := 79) rfl (hb hby d1_62) rfl ((if0 _ _).trans (feq (by decide : ¬ ((1 : Int32) = (0 : Int32)))).2) (by decide) (by decide) k) ?_
  show Go _ _ _ _ _ _ _ T5 (mkF m 79 #[.val (.ref a), .val (.ref q), .val (.double (0 : UInt64)), .second, .val (.ref q), .val (.int (3 : Int32)), .val (.int (3 : Int32)), .val (.double (g 2)), .second] [])
  refine Go.step (fun _ k => XS.aloadN X5.here hx rfl (hb hby d1_79) rfl rfl k) ?_
  show Go _ _ _ _ _ _ _ T5 (mkF m 80 #[.val (.ref a), .val (.ref q), .val (.double (0 : UInt64)), .second, .val (.ref q), .val (.int (3 : Int32)), .val (.int (3 : Int32)), .val (.double (g 2)), .second] [(.ref a)])
  refine Go.step (fun _ k => XS.aloadN X5.here hx rfl (hb hby d1_80) rfl rfl k) ?_
  show Go _ _ _ _ _ _ _ T5 (mkF m 81 #[.val (.ref a), .val (.ref q), .val (.double (0 : UInt64)), .second, .val (.ref q), .val (.int (3 : Int32)), .val (.int (3 : Int32)), .val (.double (g 2)), .second] [(.ref q), (.ref a)])
  refine Go.clone X5 hx hZ (by rw [hml]; rfl) hown (hw _ (List.mem_of_getElem? (i := 19) rfl)) (hw _ (List.mem_of_getElem? (i := 20) rfl)) (hw _ (List.mem_of_getElem? (i := 24) rfl)) (hw _ (List.mem_of_getElem? (i := 22) rfl)) (hw _ (List.mem_of_getElem? (i := 23) rfl)) (hw _ (List.mem_of_getElem? (i := 25) rfl)) hh5 V_q E_q (hb hby d1_81) (by decide) (W := 1) (Nat.le_of_eq rfl) (by decide) (cap := 3) (by decide) (by decide) (by decide) ?_
  intro T6 h6 b6 g6 X6 e6 E6 Vc6 Ec6
  have K6 : Keep h0 h6 [a] := (Keep.refl h0 [a]).ext E6
  have sz_b6 : h0.size ≤ b6 := Nat.le_trans ((Keep.refl h0 [a]) : Keep h0 h0 [a]).1 (Nat.le_of_eq g6.symm)
  have ge_b6 : n0 ≤ b6 := Nat.le_trans Z0 sz_b6
  have ne_a_b6 : a ≠ b6 := Nat.ne_of_lt (Nat.lt_of_lt_of_le E_a.lt (Nat.le_of_eq g6.symm))
  have ne_q_b6 : q ≠ b6 := Nat.ne_of_lt (Nat.lt_of_lt_of_le E_q.lt (Nat.le_of_eq g6.symm))
  have E_a_6 := E_a.ext E6
  have F_coefficients_a_6 := F_coefficients_a.ext E6
  have F_bound_a_6 := F_bound_a.ext E6
  have E_q_6 := E_q.ext E6
  have V_q_6 := V_q.ext E6
  show Go _ _ _ _ _ _ _ T6 (mkF m 84 #[.val (.ref a), .val (.ref q), .val (.double (0 : UInt64)), .second, .val (.ref q), .val (.int (3 : Int32)), .val (.int (3 : Int32)), .val (.double (g 2)), .second] [(.ref b6), (.ref a)])
  obtain ⟨T7, X7, e7, st7⟩ := castY X6 hx hZ hown (hw _ (List.mem_of_getElem? (i := 26) rfl)) e6 (Ins.self Ec6) (g := (mkF m 84 #[.val (.ref a), .val (.ref q), .val (.double (0 : UInt64)), .second, .val (.ref q), .val (.int (3 : Int32)), .val (.int (3 : Int32)), .val (.double (g 2)), .second] [(.ref b6), (.ref a)])) rfl rfl (hb hby d1_84)
  refine Go.step st7 ?_
  show Go _ _ _ _ _ _ _ T7 (mkF m 87 #[.val (.ref a), .val (.ref q), .val (.double (0 : UInt64)), .second, .val (.ref q), .val (.int (3 : Int32)), .val (.int (3 : Int32)), .val (.double (g 2)), .second] [(.ref b6), (.ref a)])
  obtain ⟨T8, h8, X8, e8, W8, st8⟩ := putF X7 hx hZ hown (host := "") (Or.inl (hw _ (List.mem_of_getElem? (i := 28) rfl))) Via.refl e7 F_coefficients_a_6 E_a_6 (Or.inr ⟨(hw _ (List.mem_of_getElem? (i := 29) rfl)), rfl, hnm⟩) (hw _ (List.mem_of_getElem? (i := 2) rfl)) (ty := (.array .double)) (by decide) rfl rfl (g := (mkF m 87 #[.val (.ref a), .val (.ref q), .val (.double (0 : UInt64)), .second, .val (.ref q), .val (.int (3 : Int32)), .val (.int (3 : Int32)), .val (.double (g 2)), .second] [(.ref b6), (.ref a)])) rfl rfl (hb hby d1_87)
  refine Go.step st8 ?_
  have N8 := Fr.snoc X8 N5 ge_a
  have F_coefficients_a_8 := F_coefficients_a_6.same W8
  have E_a_8 := E_a_6.wr W8
  have F_bound_a_8 := F_bound_a_6.other W8 (Or.inr (slot_ne (Or.inr (hw _ (List.mem_of_getElem? (i := 31) rfl))) (Or.inr (hw _ (List.mem_of_getElem? (i := 29) rfl))) (by decide) (t := .double) (t' := (.array .double)) (by decide) (by decide)))
  have E_q_8 := E_q_6.wr W8
  have V_q_8 := V_q_6.other W8 (Ne.symm ne_a_q)
  have Vc6_8 := Vc6.other W8 (Ne.symm ne_a_b6)
  have Ec6_8 := Ec6.wr W8
  have K8 : Keep h0 h8 [a] := K6.wr W8 (Or.inl (List.mem_of_getElem? (i := 0) rfl))
  show Go _ _ _ _ _ _ _ T8 (mkF m 90 #[.val (.ref a), .val (.ref q), .val (.double (0 : UInt64)), .second, .val (.ref q), .val (.int (3 : Int32)), .val (.int (3 : Int32)), .val (.double (g 2)), .second] [])
  refine Go.step (fun _ k => XS.aloadN X8.here hx rfl (hb hby d1_90) rfl rfl k) ?_
  show Go _ _ _ _ _ _ _ T8 (mkF m 91 #[.val (.ref a), .val (.ref q), .val (.double (0 : UInt64)), .second, .val (.ref q), .val (.int (3 : Int32)), .val (.int (3 : Int32)), .val (.double (g 2)), .second] [(.ref a)])
  refine Go.step (fun _ k => XS.dloadN X8.here hx rfl (hb hby d1_91) rfl k) ?_
  show Go _ _ _ _ _ _ _ T8 (mkF m 92 #[.val (.ref a), .val (.ref q), .val (.double (0 : UInt64)), .second, .val (.ref q), .val (.int (3 : Int32)), .val (.int (3 : Int32)), .val (.double (g 2)), .second] [(.double (0 : UInt64)), (.ref a)])
  obtain ⟨T9, h9, X9, e9, W9, st9⟩ := putF X8 hx hZ hown (host := "") (Or.inl (hw _ (List.mem_of_getElem? (i := 30) rfl))) Via.refl e8 F_bound_a_8 E_a_8 (Or.inr ⟨(hw _ (List.mem_of_getElem? (i := 31) rfl)), rfl, hnm⟩) (hw _ (List.mem_of_getElem? (i := 2) rfl)) (ty := .double) (by decide) rfl rfl (g := (mkF m 92 #[.val (.ref a), .val (.ref q), .val (.double (0 : UInt64)), .second, .val (.ref q), .val (.int (3 : Int32)), .val (.int (3 : Int32)), .val (.double (g 2)), .second] [(.double (0 : UInt64)), (.ref a)])) rfl rfl (hb hby d1_92)
  refine Go.step st9 ?_
  have N9 := Fr.snoc X9 N8 ge_a
  have F_bound_a_9 := F_bound_a_8.same W9
  have E_a_9 := E_a_8.wr W9
  have F_coefficients_a_9 := F_coefficients_a_8.other W9 (Or.inr (slot_ne (Or.inr (hw _ (List.mem_of_getElem? (i := 29) rfl))) (Or.inr (hw _ (List.mem_of_getElem? (i := 31) rfl))) (by decide) (t := (.array .double)) (t' := .double) (by decide) (by decide)))
  have E_q_9 := E_q_8.wr W9
  have V_q_9 := V_q_8.other W9 (Ne.symm ne_a_q)
  have Vc6_9 := Vc6_8.other W9 (Ne.symm ne_a_b6)
  have Ec6_9 := Ec6_8.wr W9
  have K9 : Keep h0 h9 [a] := K8.wr W9 (Or.inl (List.mem_of_getElem? (i := 0) rfl))
  show Go _ _ _ _ _ _ _ T9 (mkF m 95 #[.val (.ref a), .val (.ref q), .val (.double (0 : UInt64)), .second, .val (.ref q), .val (.int (3 : Int32)), .val (.int (3 : Int32)), .val (.double (g 2)), .second] [])
  refine Go.retV X9 hx hlk hret (hb hby d1_95) (by decide) (by decide) ?_
  try rw [e9]
  exact ⟨rfl, N9, K9, E_a_9, b6, F_coefficients_a_9, Vc6_9, sz_b6⟩
theorem ef_rm1_3 (m : MethodId) (a : Addr) (q : Addr) : entryFrame m #[(.ref a), (.ref q), (.double (0 : UInt64))] 9 = mkF m 0 #[.val (.ref a), .val (.ref q), .val (.double (0 : UInt64)), .second, .unset, .unset, .unset, .unset, .unset] [] := by first | (simp [entryFrame, mkF, argsToLocals, Value.category]; done) | rfl
theorem rm1_3 (l : Launch) (Z : State) (a0 : Array Value) (hw : ∀ d ∈ tables_1, d.before a0 Z = true) (a q : Addr) (g : Nat → UInt64) (h0 : Heap) (n0 : Nat) (Z0 : n0 ≤ h0.size) (E_a : Exa Z h0 a "com/example/leapwise/leapwise/polytope/HalfSpace") (F_coefficients_a : Fld Z h0 a "com/example/leapwise/leapwise/polytope/HalfSpace" "coefficients" "[D" .null) (F_bound_a : Fld Z h0 a "com/example/leapwise/leapwise/polytope/HalfSpace" "bound" "D" (.double (0 : UInt64))) (E_q : Exa Z h0 q "[D") (V_q : Dv Z h0 q (3 : Int32) g) (ge_a : n0 ≤ a) (ne_a_q : a ≠ q) (hf : ∀ i, i < 3 → Jvm.Free.Fl.Fin64 (g i)) :
    Con l Z (⟨"com/example/leapwise/leapwise/polytope/HalfSpace", "<init>", "([DD)V"⟩ : MethodName) prog_28_method_1_code 9 none ({ frames := 2, cells := 1, slots := 3, locals := 40 } : Room) #[(.ref a), (.ref q), (.double (0 : UInt64))] h0 (fun r h L => r = none ∧ Fr n0 L ∧ Keep h0 h [a] ∧ Exa Z h a "com/example/leapwise/leapwise/polytope/HalfSpace" ∧ ∃ c : Addr, Fld Z h a "com/example/leapwise/leapwise/polytope/HalfSpace" "coefficients" "[D" (.ref c) ∧ Dv Z h c (3 : Int32) g ∧ h0.size ≤ c) :=
  con_of (plainFor_of_name pn_1) (fun p_ e_ s_ m_ b_ meth_ c_ T_ X_ hx hZ hby hml hown hnm hret hlk e0 => Go.cast (ef_rm1_3 m_ a q) (w1_3 a q g X_ hx hZ hw hby hml hown hnm hret hlk e0 Z0 (Fr.nil n0) E_a F_coefficients_a F_bound_a E_q V_q ge_a ne_a_q hf))
theorem d5_0 : decode prog_28_method_2_code 0 = .ok (.iload_n 1, 1) := by decide +kernel
theorem d5_1 : decode prog_28_method_2_code 1 = .ok (.aload_n 0, 1) := by decide +kernel
theorem d5_2 : decode prog_28_method_2_code 2 = .ok (.getfield 29, 3) := by decide +kernel
theorem d5_5 : decode prog_28_method_2_code 5 = .ok (.arraylength, 1) := by decide +kernel
theorem d5_6 : decode prog_28_method_2_code 6 = .ok (.if_icmp .ge 12, 3) := by decide +kernel
theorem d5_9 : decode prog_28_method_2_code 9 = .ok (.aload_n 0, 1) := by decide +kernel
theorem d5_10 : decode prog_28_method_2_code 10 = .ok (.getfield 29, 3) := by decide +kernel
theorem d5_13 : decode prog_28_method_2_code 13 = .ok (.iload_n 1, 1) := by decide +kernel
theorem d5_14 : decode prog_28_method_2_code 14 = .ok (.daload, 1) := by decide +kernel
theorem d5_15 : decode prog_28_method_2_code 15 = .ok (.goto 4, 3) := by decide +kernel
theorem d5_19 : decode prog_28_method_2_code 19 = .ok (.dreturn, 1) := by decide +kernel
theorem d5_18 : decode prog_28_method_2_code 18 = .ok (.dconst 0, 1) := by decide +kernel
set_option maxRecDepth 65536 in
set_option maxHeartbeats 40000000 in
theorem w5 {p : Program} {l : Launch} {e : Env} {s : State} {m : MethodId} {args : Array Value} {below : List Frame} {meth : Method} {c_ : Code} {T0 : State} {locs : List Loc} {Z : State} {a0 : Array Value} {h0 : Heap} {n0 : Nat} (a : Addr) (i : Int32) (q : Addr) (n : Int32) (g : Nat → UInt64)
    (X0 : Stand p l e ({ frames := 0, cells := 0, slots := 0, locals := 0 } : Room) s m args below meth c_ T0 locs 0 0) (hx : p.tables.exec = Jvm.exec) (hZ : Z.Warmed39 s.vm) (hw : ∀ d ∈ tables_1, d.before a0 Z = true) (hby : c_.code = prog_28_method_2_code) (hml : c_.maxLocals = 2) (hown : s.vm.findClass "com/example/leapwise/leapwise/polytope/HalfSpace" = some m.cls) (hnm : meth.name = "coefficient") (hret : meth.sig.returnType = some .double) (hlk : meth.locks = false) (e0 : T0.heap = h0) (Z0 : n0 ≤ h0.size) (N0 : Fr n0 locs) (F_a : Fld Z h0 a "com/example/leapwise/leapwise/polytope/HalfSpace" "coefficients" "[D" (.ref q)) (V_q : Dv Z h0 q n g) (hi : ¬ i < 0) :
    Go p e below s ({ frames := 0, cells := 0, slots := 0, locals := 0 } : Room).cells ({ frames := 0, cells := 0, slots := 0, locals := 0 } : Room).slots (fun r h L => r = some (.double (slopeW i n g)) ∧ Fr n0 L ∧ h = h0) T0 (mkF m 0 #[.val (.ref a), .val (.int i)] []) := by
  show Go _ _ _ _ _ _ _ T0 (mkF m 0 #[.val (.ref a), .val (.int i)] [])
  refine Go.step (fun _ k => XS.iloadN X0.here hx rfl (hb hby d5_0) rfl k) ?_
  show Go _ _ _ _ _ _ _ T0 (mkF m 1 #[.val (.ref a), .val (.int i)] [(.int i)])
  refine Go.step (fun _ k => XS.aloadN X0.here hx rfl (hb hby d5_1) rfl rfl k) ?_
  show Go _ _ _ _ _ _ _ T0 (mkF m 2 #[.val (.ref a), .val (.int i)] [(.ref a), (.int i)])
  obtain ⟨T1, X1, e1, st1⟩ := getF X0 hx hZ hown (host := "") (Or.inl (hw _ (List.mem_of_getElem? (i := 28) rfl))) Via.refl e0 F_a (g := (mkF m 2 #[.val (.ref a), .val (.int i)] [(.ref a), (.int i)])) rfl rfl (hb hby d5_2)
  refine Go.step st1 ?_
  show Go _ _ _ _ _ _ _ T1 (mkF m 5 #[.val (.ref a), .val (.int i)] [(.ref q), (.int i)])
  refine Go.alen X1 hx hZ e1 V_q (hb hby d5_5) ?_
  show Go _ _ _ _ _ _ _ T1 (mkF m 6 #[.val (.ref a), .val (.int i)] [(.int n), (.int i)])
  by_cases hc6_2 : i < n
  · refine Go.step (fun _ k => XS.icmpNo X1.here hx rfl (hb hby d5_6) rfl (tlt hc6_2).2.1 k) ?_
    show Go _ _ _ _ _ _ _ T1 (mkF m 9 #[.val (.ref a), .val (.int i)] [])
    refine Go.step (fun _ k => XS.aloadN X1.here hx rfl (hb hby d5_9) rfl rfl k) ?_
    show Go _ _ _ _ _ _ _ T1 (mkF m 10 #[.val (.ref a), .val (.int i)] [(.ref a)])
    obtain ⟨T3, X3, e3, st3⟩ := getF X1 hx hZ hown (host := "") (Or.inl (hw _ (List.mem_of_getElem? (i := 28) rfl))) Via.refl e1 F_a (g := (mkF m 10 #[.val (.ref a), .val (.int i)] [(.ref a)])) rfl rfl (hb hby d5_10)
    refine Go.step st3 ?_
    show Go _ _ _ _ _ _ _ T3 (mkF m 13 #[.val (.ref a), .val (.int i)] [(.ref q)])
    refine Go.step (fun _ k => XS.iloadN X3.here hx rfl (hb hby d5_13) rfl k) ?_
    show Go _ _ _ _ _ _ _ T3 (mkF m 14 #[.val (.ref a), .val (.int i)] [(.int i), (.ref q)])
    refine Go.daload X3 hx hZ e3 V_q (j := i) (v := (g (i).toNatClampNeg)) ⟨hi, hc6_2⟩ rfl (hb hby d5_14) ?_
    show Go _ _ _ _ _ _ _ T3 (mkF m 15 #[.val (.ref a), .val (.int i)] [(.double (g (i).toNatClampNeg))])
    refine Go.step (fun _ k => XS.goto X3.here hx rfl (pc0 := 15) (pc' := 19) rfl (hb hby d5_15) (by decide) (by decide) k) ?_
    show Go _ _ _ _ _ _ _ T3 (mkF m 19 #[.val (.ref a), .val (.int i)] [(.double (g (i).toNatClampNeg))])
    refine Go.retD X3 hx hlk hret (hb hby d5_19) (by decide) (by decide) ?_
    try rw [e3]
    exact ⟨by simp only [slopeW]; rw [if_pos hc6_2], N0, rfl⟩
  · refine Go.step (fun _ k => XS.icmpYes X1.here hx rfl (pc0 := 6) (pc' := 18) rfl (hb hby d5_6) rfl (flt hc6_2).2.1 (by decide) (by decide) k) ?_
    show Go _ _ _ _ _ _ _ T1 (mkF m 18 #[.val (.ref a), .val (.int i)] [])
    refine Go.step (fun _ k => XS.dconst0 X1.here hx rfl (hb hby d5_18) rfl k) ?_
    show Go _ _ _ _ _ _ _ T1 (mkF m 19 #[.val (.ref a), .val (.int i)] [(.double (0 : UInt64))])
    refine Go.retD X1 hx hlk hret (hb hby d5_19) (by decide) (by decide) ?_
    try rw [e1]
    exact ⟨by simp only [slopeW]; rw [if_neg hc6_2], N0, rfl⟩
theorem ef_rm5 (m : MethodId) (a : Addr) (i : Int32) : entryFrame m #[(.ref a), (.int i)] 2 = mkF m 0 #[.val (.ref a), .val (.int i)] [] := by first | (simp [entryFrame, mkF, argsToLocals, Value.category]; done) | rfl
theorem rm5 (l : Launch) (Z : State) (a0 : Array Value) (hw : ∀ d ∈ tables_1, d.before a0 Z = true) (a : Addr) (i : Int32) (q : Addr) (n : Int32) (g : Nat → UInt64) (h0 : Heap) (n0 : Nat) (Z0 : n0 ≤ h0.size) (F_a : Fld Z h0 a "com/example/leapwise/leapwise/polytope/HalfSpace" "coefficients" "[D" (.ref q)) (V_q : Dv Z h0 q n g) (hi : ¬ i < 0) :
    Con l Z (⟨"com/example/leapwise/leapwise/polytope/HalfSpace", "coefficient", "(I)D"⟩ : MethodName) prog_28_method_2_code 2 (some .double) ({ frames := 0, cells := 0, slots := 0, locals := 0 } : Room) #[(.ref a), (.int i)] h0 (fun r h L => r = some (.double (slopeW i n g)) ∧ Fr n0 L ∧ h = h0) :=
  con_of (plainFor_of_name pn_1) (fun p_ e_ s_ m_ b_ meth_ c_ T_ X_ hx hZ hby hml hown hnm hret hlk e0 => Go.cast (ef_rm5 m_ a i) (w5 a i q n g X_ hx hZ hw hby hml hown hnm hret hlk e0 Z0 (Fr.nil n0) F_a V_q hi))
theorem pd_2 : parseMethodDescriptor "([DD)V" = some ⟨[(.array .double), .double], none⟩ := by decide +kernel
theorem pd_3 : parseMethodDescriptor "(I)D" = some ⟨[.int], some .double⟩ := by decide +kernel
set_option maxRecDepth 65536 in
set_option maxHeartbeats 40000000 in
theorem w0 {p : Program} {l : Launch} {e : Env} {s : State} {m : MethodId} {args : Array Value} {below : List Frame} {meth : Method} {c_ : Code} {T0 : State} {locs : List Loc} {Z : State} {a0 : Array Value} {h0 : Heap} {n0 : Nat} (p0 p1 p2 p3 p4 : Int32)
    (X0 : Stand p l e room_1 s m args below meth c_ T0 locs 0 0) (hx : p.tables.exec = Jvm.exec) (hZ : Z.Warmed39 s.vm) (hw : ∀ d ∈ tables_1, d.before a0 Z = true) (hby : c_.code = code) (hml : c_.maxLocals = maxLocals) (hown : s.vm.findClass "com/example/leapwise/leapwise/polytope/HalfSpaceCoefficientPinLaw" = some m.cls) (hnm : meth.name = "law") (hret : meth.sig.returnType = ret) (hlk : meth.locks = false) (e0 : T0.heap = h0) (Z0 : n0 ≤ h0.size) (N0 : Fr n0 locs)  :
    Go p e below s room_1.cells room_1.slots (fun r h L => r = some (.int 1) ∧ Fr n0 L) T0 (mkF m 0 #[.val (.int p0), .val (.int p1), .val (.int p2), .val (.int p3), .val (.int p4), .unset, .unset, .unset, .unset, .unset, .unset] []) := by
  have hret : meth.sig.returnType = some .boolean := hret
  show Go _ _ _ _ _ _ _ T0 (mkF m 0 #[.val (.int p0), .val (.int p1), .val (.int p2), .val (.int p3), .val (.int p4), .unset, .unset, .unset, .unset, .unset, .unset] [])
  refine Go.step (fun _ k => XS.iloadN X0.here hx rfl (hb hby at_0) rfl k) ?_
  show Go _ _ _ _ _ _ _ T0 (mkF m 1 #[.val (.int p0), .val (.int p1), .val (.int p2), .val (.int p3), .val (.int p4), .unset, .unset, .unset, .unset, .unset, .unset] [(.int p0)])
  refine Go.step (fun _ k => XS.iconst X0.here hx rfl (hb hby at_1) k) ?_
  show Go _ _ _ _ _ _ _ T0 (mkF m 2 #[.val (.int p0), .val (.int p1), .val (.int p2), .val (.int p3), .val (.int p4), .unset, .unset, .unset, .unset, .unset, .unset] [(.int (3 : Int32)), (.int p0)])
  refine Go.step (fun _ k => XS.iand X0.here hx rfl (hb hby at_2) rfl k) ?_
  show Go _ _ _ _ _ _ _ T0 (mkF m 3 #[.val (.int p0), .val (.int p1), .val (.int p2), .val (.int p3), .val (.int p4), .unset, .unset, .unset, .unset, .unset, .unset] [(.int (p0 &&& (3 : Int32)))])
  refine Go.step (fun _ k => XS.istore X0.here hx rfl (hb hby at_3) rfl (l' := #[.val (.int p0), .val (.int p1), .val (.int p2), .val (.int p3), .val (.int p4), .val (.int (p0 &&& (3 : Int32))), .unset, .unset, .unset, .unset, .unset]) rfl k) ?_
  show Go _ _ _ _ _ _ _ T0 (mkF m 5 #[.val (.int p0), .val (.int p1), .val (.int p2), .val (.int p3), .val (.int p4), .val (.int (p0 &&& (3 : Int32))), .unset, .unset, .unset, .unset, .unset] [])
  obtain ⟨n, h_n⟩ : ∃ z, z = (p0 &&& (3 : Int32)) := ⟨_, rfl⟩
  rw [← h_n]
  have hn4 := own_n p0
  rw [← h_n] at hn4
  rcases hn4 with rfl | rfl | rfl | rfl
  · show Go _ _ _ _ _ _ _ T0 (mkF m 5 #[.val (.int p0), .val (.int p1), .val (.int p2), .val (.int p3), .val (.int p4), .val (.int (0 : Int32)), .unset, .unset, .unset, .unset, .unset] [])
    refine Go.step (fun _ k => XS.iload X0.here hx rfl (hb hby at_5) rfl k) ?_
    show Go _ _ _ _ _ _ _ T0 (mkF m 7 #[.val (.int p0), .val (.int p1), .val (.int p2), .val (.int p3), .val (.int p4), .val (.int (0 : Int32)), .unset, .unset, .unset, .unset, .unset] [(.int (0 : Int32))])
    obtain ⟨T1, h1, k1, X1, e1, E1, A1, B1, st1⟩ := newPE X0 hx hZ (hw _ (List.mem_of_getElem? (i := 0) rfl)) e0 (g := (mkF m 7 #[.val (.int p0), .val (.int p1), .val (.int p2), .val (.int p3), .val (.int p4), .val (.int (0 : Int32)), .unset, .unset, .unset, .unset, .unset] [(.int (0 : Int32))])) rfl (hb hby at_7) rfl (by decide) (cap := 0) (by decide) (by decide) (by decide) (by decide) (ad := "[D") (by decide)
    obtain ⟨b1, g1⟩ : ∃ z, z = h0.size := ⟨_, rfl⟩
    rw [← g1] at A1 B1 st1
    refine Go.step st1 ?_
    have K1 : Keep h0 h1 [] := (Keep.refl h0 []).ext E1
    have sz_b1 : h0.size ≤ b1 := Nat.le_trans ((Keep.refl h0 []) : Keep h0 h0 []).1 (Nat.le_of_eq g1.symm)
    have ge_b1 : n0 ≤ b1 := Nat.le_trans Z0 sz_b1
    have V_b1 : Dv Z h1 b1 (0 : Int32) (fun _ => (0 : UInt64)) := Fv.new A1 (by decide)
    have E_b1 := B1
    show Go _ _ _ _ _ _ _ T1 (mkF m 9 #[.val (.int p0), .val (.int p1), .val (.int p2), .val (.int p3), .val (.int p4), .val (.int (0 : Int32)), .unset, .unset, .unset, .unset, .unset] [(.ref b1)])
    refine Go.step (fun _ k => XS.astore X1.here hx rfl (hb hby at_9) rfl rfl (l' := #[.val (.int p0), .val (.int p1), .val (.int p2), .val (.int p3), .val (.int p4), .val (.int (0 : Int32)), .val (.ref b1), .unset, .unset, .unset, .unset]) rfl k) ?_
    show Go _ _ _ _ _ _ _ T1 (mkF m 11 #[.val (.int p0), .val (.int p1), .val (.int p2), .val (.int p3), .val (.int p4), .val (.int (0 : Int32)), .val (.ref b1), .unset, .unset, .unset, .unset] [])
    refine Go.step (fun _ k => XS.iload X1.here hx rfl (hb hby at_11) rfl k) ?_
    show Go _ _ _ _ _ _ _ T1 (mkF m 13 #[.val (.int p0), .val (.int p1), .val (.int p2), .val (.int p3), .val (.int p4), .val (.int (0 : Int32)), .val (.ref b1), .unset, .unset, .unset, .unset] [(.int (0 : Int32))])
    refine Go.step (fun _ k => XS.ifYes X1.here hx rfl (pc0 := 13) (pc' := 22) rfl (hb hby at_13) rfl ((if0 _ _).trans (flt (by decide : ¬ ((0 : Int32) < (0 : Int32)))).2.2.2) (by decide) (by decide) k) ?_
    show Go _ _ _ _ _ _ _ T1 (mkF m 22 #[.val (.int p0), .val (.int p1), .val (.int p2), .val (.int p3), .val (.int p4), .val (.int (0 : Int32)), .val (.ref b1), .unset, .unset, .unset, .unset] [])
    refine Go.step (fun _ k => XS.iload X1.here hx rfl (hb hby at_22) rfl k) ?_
    show Go _ _ _ _ _ _ _ T1 (mkF m 24 #[.val (.int p0), .val (.int p1), .val (.int p2), .val (.int p3), .val (.int p4), .val (.int (0 : Int32)), .val (.ref b1), .unset, .unset, .unset, .unset] [(.int (0 : Int32))])
    refine Go.step (fun _ k => XS.iconst X1.here hx rfl (hb hby at_24) k) ?_
    show Go _ _ _ _ _ _ _ T1 (mkF m 25 #[.val (.int p0), .val (.int p1), .val (.int p2), .val (.int p3), .val (.int p4), .val (.int (0 : Int32)), .val (.ref b1), .unset, .unset, .unset, .unset] [(.int (1 : Int32)), (.int (0 : Int32))])
    refine Go.step (fun _ k => XS.icmpYes X1.here hx rfl (pc0 := 25) (pc' := 34) rfl (hb hby at_25) rfl (flt (by decide : ¬ ((1 : Int32) < (0 : Int32)))).2.2.2 (by decide) (by decide) k) ?_
    show Go _ _ _ _ _ _ _ T1 (mkF m 34 #[.val (.int p0), .val (.int p1), .val (.int p2), .val (.int p3), .val (.int p4), .val (.int (0 : Int32)), .val (.ref b1), .unset, .unset, .unset, .unset] [])
    refine Go.step (fun _ k => XS.iload X1.here hx rfl (hb hby at_34) rfl k) ?_
    show Go _ _ _ _ _ _ _ T1 (mkF m 36 #[.val (.int p0), .val (.int p1), .val (.int p2), .val (.int p3), .val (.int p4), .val (.int (0 : Int32)), .val (.ref b1), .unset, .unset, .unset, .unset] [(.int (0 : Int32))])
    refine Go.step (fun _ k => XS.iconst X1.here hx rfl (hb hby at_36) k) ?_
    show Go _ _ _ _ _ _ _ T1 (mkF m 37 #[.val (.int p0), .val (.int p1), .val (.int p2), .val (.int p3), .val (.int p4), .val (.int (0 : Int32)), .val (.ref b1), .unset, .unset, .unset, .unset] [(.int (2 : Int32)), (.int (0 : Int32))])
    refine Go.step (fun _ k => XS.icmpYes X1.here hx rfl (pc0 := 37) (pc' := 46) rfl (hb hby at_37) rfl (flt (by decide : ¬ ((2 : Int32) < (0 : Int32)))).2.2.2 (by decide) (by decide) k) ?_
    show Go _ _ _ _ _ _ _ T1 (mkF m 46 #[.val (.int p0), .val (.int p1), .val (.int p2), .val (.int p3), .val (.int p4), .val (.int (0 : Int32)), .val (.ref b1), .unset, .unset, .unset, .unset] [])
    obtain ⟨T2, h2, X2, e2, E2, A2, D2, -, st2⟩ := newO X1 hx hZ hown (hw _ (List.mem_of_getElem? (i := 1) rfl)) (hw _ (List.mem_of_getElem? (i := 2) rfl)) (hw _ (List.mem_of_getElem? (i := 3) rfl)) e1 (g := (mkF m 46 #[.val (.int p0), .val (.int p1), .val (.int p2), .val (.int p3), .val (.int p4), .val (.int (0 : Int32)), .val (.ref b1), .unset, .unset, .unset, .unset] [])) rfl (hb hby at_46) (by decide) (by decide)
    obtain ⟨b2, g2⟩ : ∃ z, z = h1.size := ⟨_, rfl⟩
    rw [← g2] at A2 D2 st2
    refine Go.step st2 ?_
    have K2 : Keep h0 h2 [] := K1.ext E2
    have sz_b2 : h0.size ≤ b2 := Nat.le_trans (K1 : Keep h0 h1 []).1 (Nat.le_of_eq g2.symm)
    have ge_b2 : n0 ≤ b2 := Nat.le_trans Z0 sz_b2
    have ne_b1_b2 : b1 ≠ b2 := Nat.ne_of_lt (Nat.lt_of_lt_of_le V_b1.lt (Nat.le_of_eq g2.symm))
    have V_b1_2 := V_b1.ext E2
    have E_b1_2 := E_b1.ext E2
    have E_b2 := A2
    have F_coefficients_b2 : Fld Z h2 b2 "com/example/leapwise/leapwise/polytope/HalfSpace" "coefficients" "[D" .null := D2 (Or.inr (hw _ (List.mem_of_getElem? (i := 29) rfl))) (ty := (.array .double)) (by decide)
    have F_bound_b2 : Fld Z h2 b2 "com/example/leapwise/leapwise/polytope/HalfSpace" "bound" "D" (.double (0 : UInt64)) := D2 (Or.inr (hw _ (List.mem_of_getElem? (i := 31) rfl))) (ty := .double) (by decide)
    show Go _ _ _ _ _ _ _ T2 (mkF m 49 #[.val (.int p0), .val (.int p1), .val (.int p2), .val (.int p3), .val (.int p4), .val (.int (0 : Int32)), .val (.ref b1), .unset, .unset, .unset, .unset] [(.ref b2)])
    refine Go.step (fun _ k => XS.dup X2.here hx rfl (hb hby at_49) rfl rfl k) ?_
    show Go _ _ _ _ _ _ _ T2 (mkF m 50 #[.val (.int p0), .val (.int p1), .val (.int p2), .val (.int p3), .val (.int p4), .val (.int (0 : Int32)), .val (.ref b1), .unset, .unset, .unset, .unset] [(.ref b2), (.ref b2)])
    refine Go.step (fun _ k => XS.aload X2.here hx rfl (hb hby at_50) rfl rfl k) ?_
    show Go _ _ _ _ _ _ _ T2 (mkF m 52 #[.val (.int p0), .val (.int p1), .val (.int p2), .val (.int p3), .val (.int p4), .val (.int (0 : Int32)), .val (.ref b1), .unset, .unset, .unset, .unset] [(.ref b1), (.ref b2), (.ref b2)])
    refine Go.step (fun _ k => XS.dconst0 X2.here hx rfl (hb hby at_52) rfl k) ?_
    show Go _ _ _ _ _ _ _ T2 (mkF m 53 #[.val (.int p0), .val (.int p1), .val (.int p2), .val (.int p3), .val (.int p4), .val (.int (0 : Int32)), .val (.ref b1), .unset, .unset, .unset, .unset] [(.double (0 : UInt64)), (.ref b1), (.ref b2), (.ref b2)])
    refine Go.callI X2 hx hZ (by rw [hml]; rfl) (y := (⟨"com/example/leapwise/leapwise/polytope/HalfSpace", "<init>", "([DD)V"⟩ : MethodName)) (a := b2) (argsL := [(.ref b1), (.double (0 : UInt64))]) (rest := [(.ref b2)]) rfl hown (hw _ (List.mem_of_getElem? (i := 4) rfl)) (hw _ (List.mem_of_getElem? (i := 5) rfl)) (hw _ (List.mem_of_getElem? (i := 3) rfl)) (hw _ (List.mem_of_getElem? (i := 6) rfl)) (by decide) (rm1_0 l Z a0 hw b2 b1 (fun _ => (0 : UInt64)) h2 n0 (Nat.le_trans Z0 (K2 : Keep h0 h2 []).1) E_b2 F_coefficients_b2 F_bound_b2 E_b1_2 V_b1_2 ge_b2 (Ne.symm ne_b1_b2) (fun i hi' => absurd hi' (by omega))) e2 (hb hby at_53) (lenOf pd_2 rfl) rfl rfl (W := 1) (Nat.le_of_eq rfl) (by decide) (by decide) (by decide) (by decide) ?_
    intro v3 T3 L3 X3 Q3
    obtain ⟨rfl, N3q, Kc3, Ec3, c3, Fc3, Vc3, sc3⟩ := Q3
    have N3 := Fr.app N0 N3q
    have ne_b1_c3 : b1 ≠ c3 := Nat.ne_of_lt (Nat.lt_of_lt_of_le V_b1_2.lt sc3)
    have V_b1_3 := V_b1_2.keep Kc3 (ninS ne_b1_b2 nin0)
    have E_b1_3 := E_b1_2.keep Kc3
    have E_b2_3 := E_b2.keep Kc3
    have KK3 : Keep h0 T3.heap [] := (K2 : Keep h0 h2 []).trans Kc3 (allS (Or.inr sz_b2) all0)
    show Go _ _ _ _ _ _ _ T3 (mkF m 56 #[.val (.int p0), .val (.int p1), .val (.int p2), .val (.int p3), .val (.int p4), .val (.int (0 : Int32)), .val (.ref b1), .unset, .unset, .unset, .unset] [(.ref b2)])
    refine Go.step (fun _ k => XS.astore X3.here hx rfl (hb hby at_56) rfl rfl (l' := #[.val (.int p0), .val (.int p1), .val (.int p2), .val (.int p3), .val (.int p4), .val (.int (0 : Int32)), .val (.ref b1), .val (.ref b2), .unset, .unset, .unset]) rfl k) ?_
    show Go _ _ _ _ _ _ _ T3 (mkF m 58 #[.val (.int p0), .val (.int p1), .val (.int p2), .val (.int p3), .val (.int p4), .val (.int (0 : Int32)), .val (.ref b1), .val (.ref b2), .unset, .unset, .unset] [])
    refine Go.step (fun _ k => XS.iload X3.here hx rfl (hb hby at_58) rfl k) ?_
    show Go _ _ _ _ _ _ _ T3 (mkF m 60 #[.val (.int p0), .val (.int p1), .val (.int p2), .val (.int p3), .val (.int p4), .val (.int (0 : Int32)), .val (.ref b1), .val (.ref b2), .unset, .unset, .unset] [(.int (0 : Int32))])
    refine Go.step (fun _ k => XS.ifYes X3.here hx rfl (pc0 := 60) (pc' := 70) rfl (hb hby at_60) rfl ((if0 _ _).trans (flt (by decide : ¬ ((0 : Int32) < (0 : Int32)))).2.2.2) (by decide) (by decide) k) ?_
    show Go _ _ _ _ _ _ _ T3 (mkF m 70 #[.val (.int p0), .val (.int p1), .val (.int p2), .val (.int p3), .val (.int p4), .val (.int (0 : Int32)), .val (.ref b1), .val (.ref b2), .unset, .unset, .unset] [])
    refine Go.step (fun _ k => XS.iload X3.here hx rfl (hb hby at_70) rfl k) ?_
    show Go _ _ _ _ _ _ _ T3 (mkF m 72 #[.val (.int p0), .val (.int p1), .val (.int p2), .val (.int p3), .val (.int p4), .val (.int (0 : Int32)), .val (.ref b1), .val (.ref b2), .unset, .unset, .unset] [(.int (0 : Int32))])
    refine Go.step (fun _ k => XS.iconst X3.here hx rfl (hb hby at_72) k) ?_
    show Go _ _ _ _ _ _ _ T3 (mkF m 73 #[.val (.int p0), .val (.int p1), .val (.int p2), .val (.int p3), .val (.int p4), .val (.int (0 : Int32)), .val (.ref b1), .val (.ref b2), .unset, .unset, .unset] [(.int (1 : Int32)), (.int (0 : Int32))])
    refine Go.step (fun _ k => XS.icmpYes X3.here hx rfl (pc0 := 73) (pc' := 83) rfl (hb hby at_73) rfl (flt (by decide : ¬ ((1 : Int32) < (0 : Int32)))).2.2.2 (by decide) (by decide) k) ?_
    show Go _ _ _ _ _ _ _ T3 (mkF m 83 #[.val (.int p0), .val (.int p1), .val (.int p2), .val (.int p3), .val (.int p4), .val (.int (0 : Int32)), .val (.ref b1), .val (.ref b2), .unset, .unset, .unset] [])
    refine Go.step (fun _ k => XS.iload X3.here hx rfl (hb hby at_83) rfl k) ?_
    show Go _ _ _ _ _ _ _ T3 (mkF m 85 #[.val (.int p0), .val (.int p1), .val (.int p2), .val (.int p3), .val (.int p4), .val (.int (0 : Int32)), .val (.ref b1), .val (.ref b2), .unset, .unset, .unset] [(.int (0 : Int32))])
    refine Go.step (fun _ k => XS.iconst X3.here hx rfl (hb hby at_85) k) ?_
    show Go _ _ _ _ _ _ _ T3 (mkF m 86 #[.val (.int p0), .val (.int p1), .val (.int p2), .val (.int p3), .val (.int p4), .val (.int (0 : Int32)), .val (.ref b1), .val (.ref b2), .unset, .unset, .unset] [(.int (2 : Int32)), (.int (0 : Int32))])
    refine Go.step (fun _ k => XS.icmpYes X3.here hx rfl (pc0 := 86) (pc' := 96) rfl (hb hby at_86) rfl (flt (by decide : ¬ ((2 : Int32) < (0 : Int32)))).2.2.2 (by decide) (by decide) k) ?_
    show Go _ _ _ _ _ _ _ T3 (mkF m 96 #[.val (.int p0), .val (.int p1), .val (.int p2), .val (.int p3), .val (.int p4), .val (.int (0 : Int32)), .val (.ref b1), .val (.ref b2), .unset, .unset, .unset] [])
    refine Go.step (fun _ k => XS.iloadN X3.here hx rfl (hb hby at_96) rfl k) ?_
    show Go _ _ _ _ _ _ _ T3 (mkF m 97 #[.val (.int p0), .val (.int p1), .val (.int p2), .val (.int p3), .val (.int p4), .val (.int (0 : Int32)), .val (.ref b1), .val (.ref b2), .unset, .unset, .unset] [(.int p0)])
    refine Go.step (fun _ k => XS.iconst X3.here hx rfl (hb hby at_97) k) ?_
    show Go _ _ _ _ _ _ _ T3 (mkF m 98 #[.val (.int p0), .val (.int p1), .val (.int p2), .val (.int p3), .val (.int p4), .val (.int (0 : Int32)), .val (.ref b1), .val (.ref b2), .unset, .unset, .unset] [(.int (4 : Int32)), (.int p0)])
    refine Go.step (fun _ k => XS.iand X3.here hx rfl (hb hby at_98) rfl k) ?_
    show Go _ _ _ _ _ _ _ T3 (mkF m 99 #[.val (.int p0), .val (.int p1), .val (.int p2), .val (.int p3), .val (.int p4), .val (.int (0 : Int32)), .val (.ref b1), .val (.ref b2), .unset, .unset, .unset] [(.int (p0 &&& (4 : Int32)))])
    by_cases hc99_4 : (p0 &&& (4 : Int32)) = (0 : Int32)
    · refine Go.step (fun _ k => XS.ifYes X3.here hx rfl (pc0 := 99) (pc' := 110) rfl (hb hby at_99) rfl ((if0 _ _).trans (teq hc99_4).1) (by decide) (by decide) k) ?_
      show Go _ _ _ _ _ _ _ T3 (mkF m 110 #[.val (.int p0), .val (.int p1), .val (.int p2), .val (.int p3), .val (.int p4), .val (.int (0 : Int32)), .val (.ref b1), .val (.ref b2), .unset, .unset, .unset] [])
      refine Go.step (fun _ k => XS.iload X3.here hx rfl (hb hby at_110) rfl k) ?_
      show Go _ _ _ _ _ _ _ T3 (mkF m 112 #[.val (.int p0), .val (.int p1), .val (.int p2), .val (.int p3), .val (.int p4), .val (.int (0 : Int32)), .val (.ref b1), .val (.ref b2), .unset, .unset, .unset] [(.int p4)])
      refine Go.step (fun _ k => XS.iconst X3.here hx rfl (hb hby at_112) k) ?_
      show Go _ _ _ _ _ _ _ T3 (mkF m 113 #[.val (.int p0), .val (.int p1), .val (.int p2), .val (.int p3), .val (.int p4), .val (.int (0 : Int32)), .val (.ref b1), .val (.ref b2), .unset, .unset, .unset] [(.int (3 : Int32)), (.int p4)])
      refine Go.step (fun _ k => XS.iand X3.here hx rfl (hb hby at_113) rfl k) ?_
      show Go _ _ _ _ _ _ _ T3 (mkF m 114 #[.val (.int p0), .val (.int p1), .val (.int p2), .val (.int p3), .val (.int p4), .val (.int (0 : Int32)), .val (.ref b1), .val (.ref b2), .unset, .unset, .unset] [(.int (p4 &&& (3 : Int32)))])
      refine Go.step (fun _ k => XS.istore X3.here hx rfl (hb hby at_114) rfl (l' := #[.val (.int p0), .val (.int p1), .val (.int p2), .val (.int p3), .val (.int p4), .val (.int (0 : Int32)), .val (.ref b1), .val (.ref b2), .val (.int (p4 &&& (3 : Int32))), .unset, .unset]) rfl k) ?_
      have hw0 := own_v2 p4
      obtain ⟨w, h_w⟩ : ∃ z, z = (p4 &&& (3 : Int32)) := ⟨_, rfl⟩
      rw [← h_w]
      rw [← h_w] at hw0
      show Go _ _ _ _ _ _ _ T3 (mkF m 116 #[.val (.int p0), .val (.int p1), .val (.int p2), .val (.int p3), .val (.int p4), .val (.int (0 : Int32)), .val (.ref b1), .val (.ref b2), .val (.int w), .unset, .unset] [])
      refine Go.step (fun _ k => XS.iload X3.here hx rfl (hb hby at_116) rfl k) ?_
      show Go _ _ _ _ _ _ _ T3 (mkF m 118 #[.val (.int p0), .val (.int p1), .val (.int p2), .val (.int p3), .val (.int p4), .val (.int (0 : Int32)), .val (.ref b1), .val (.ref b2), .val (.int w), .unset, .unset] [(.int w)])
      refine Go.step (fun _ k => XS.iload X3.here hx rfl (hb hby at_118) rfl k) ?_
      show Go _ _ _ _ _ _ _ T3 (mkF m 120 #[.val (.int p0), .val (.int p1), .val (.int p2), .val (.int p3), .val (.int p4), .val (.int (0 : Int32)), .val (.ref b1), .val (.ref b2), .val (.int w), .unset, .unset] [(.int (0 : Int32)), (.int w)])
      by_cases hc120_5 : w < (0 : Int32)
      · refine Go.step (fun _ k => XS.icmpYes X3.here hx rfl (pc0 := 120) (pc' := 129) rfl (hb hby at_120) rfl (tlt hc120_5).1 (by decide) (by decide) k) ?_
        show Go _ _ _ _ _ _ _ T3 (mkF m 129 #[.val (.int p0), .val (.int p1), .val (.int p2), .val (.int p3), .val (.int p4), .val (.int (0 : Int32)), .val (.ref b1), .val (.ref b2), .val (.int w), .unset, .unset] [])
        refine Go.step (fun _ k => XS.iload X3.here hx rfl (hb hby at_129) rfl k) ?_
        show Go _ _ _ _ _ _ _ T3 (mkF m 131 #[.val (.int p0), .val (.int p1), .val (.int p2), .val (.int p3), .val (.int p4), .val (.int (0 : Int32)), .val (.ref b1), .val (.ref b2), .val (.int w), .unset, .unset] [(.int w)])
        by_cases hc131_6 : w = (0 : Int32)
        · refine Go.step (fun _ k => XS.ifNo X3.here hx rfl (hb hby at_131) rfl ((if0 _ _).trans (teq hc131_6).2) k) ?_
          show Go _ _ _ _ _ _ _ T3 (mkF m 134 #[.val (.int p0), .val (.int p1), .val (.int p2), .val (.int p3), .val (.int p4), .val (.int (0 : Int32)), .val (.ref b1), .val (.ref b2), .val (.int w), .unset, .unset] [])
          refine Go.step (fun _ k => XS.iloadN X3.here hx rfl (hb hby at_134) rfl k) ?_
          show Go _ _ _ _ _ _ _ T3 (mkF m 135 #[.val (.int p0), .val (.int p1), .val (.int p2), .val (.int p3), .val (.int p4), .val (.int (0 : Int32)), .val (.ref b1), .val (.ref b2), .val (.int w), .unset, .unset] [(.int p1)])
          refine Go.step (fun _ k => XS.i2dS X3.here hx rfl (hb hby at_135) rfl rfl k) ?_
          show Go _ _ _ _ _ _ _ T3 (mkF m 136 #[.val (.int p0), .val (.int p1), .val (.int p2), .val (.int p3), .val (.int p4), .val (.int (0 : Int32)), .val (.ref b1), .val (.ref b2), .val (.int w), .unset, .unset] [(.double (FP.i2d p1))])
          refine Go.step (fun _ k => XS.dstore X3.here hx rfl (hb hby at_136) rfl (l' := #[.val (.int p0), .val (.int p1), .val (.int p2), .val (.int p3), .val (.int p4), .val (.int (0 : Int32)), .val (.ref b1), .val (.ref b2), .val (.int w), .val (.double (FP.i2d p1)), .second]) rfl k) ?_
          show Go _ _ _ _ _ _ _ T3 (mkF m 138 #[.val (.int p0), .val (.int p1), .val (.int p2), .val (.int p3), .val (.int p4), .val (.int (0 : Int32)), .val (.ref b1), .val (.ref b2), .val (.int w), .val (.double (FP.i2d p1)), .second] [])
          refine Go.step (fun _ k => XS.goto X3.here hx rfl (pc0 := 138) (pc' := 158) rfl (hb hby at_138) (by decide) (by decide) k) ?_
          show Go _ _ _ _ _ _ _ T3 (mkF m 158 #[.val (.int p0), .val (.int p1), .val (.int p2), .val (.int p3), .val (.int p4), .val (.int (0 : Int32)), .val (.ref b1), .val (.ref b2), .val (.int w), .val (.double (FP.i2d p1)), .second] [])
          refine Go.step (fun _ k => XS.aload X3.here hx rfl (hb hby at_158) rfl rfl k) ?_
          show Go _ _ _ _ _ _ _ T3 (mkF m 160 #[.val (.int p0), .val (.int p1), .val (.int p2), .val (.int p3), .val (.int p4), .val (.int (0 : Int32)), .val (.ref b1), .val (.ref b2), .val (.int w), .val (.double (FP.i2d p1)), .second] [(.ref b2)])
          refine Go.step (fun _ k => XS.iload X3.here hx rfl (hb hby at_160) rfl k) ?_
          show Go _ _ _ _ _ _ _ T3 (mkF m 162 #[.val (.int p0), .val (.int p1), .val (.int p2), .val (.int p3), .val (.int p4), .val (.int (0 : Int32)), .val (.ref b1), .val (.ref b2), .val (.int w), .val (.double (FP.i2d p1)), .second] [(.int w), (.ref b2)])
          refine Go.callV X3 hx hZ (by rw [hml]; rfl) (y := (⟨"com/example/leapwise/leapwise/polytope/HalfSpace", "coefficient", "(I)D"⟩ : MethodName)) (z := (⟨"com/example/leapwise/leapwise/polytope/HalfSpace", "coefficient", "(I)D"⟩ : MethodName)) (a := b2) (argsL := [(.int w)]) (rest := []) hown (hw _ (List.mem_of_getElem? (i := 32) rfl)) (hw _ (List.mem_of_getElem? (i := 33) rfl)) (notFace_of_selects (args := #[]) (mvT hZ (hw _ (List.mem_of_getElem? (i := 35) rfl)))) (hw _ (List.mem_of_getElem? (i := 35) rfl)) (hw _ (List.mem_of_getElem? (i := 34) rfl)) (hw _ (List.mem_of_getElem? (i := 3) rfl)) (hw _ (List.mem_of_getElem? (i := 36) rfl)) (by decide) (rm5 l Z a0 hw b2 w c3 (0 : Int32) (fun _ => (0 : UInt64)) T3.heap n0 (Nat.le_trans Z0 (KK3 : Keep h0 T3.heap []).1) Fc3 Vc3 hw0) rfl Ec3 (hb hby at_162) (lenOf pd_3 rfl) rfl rfl (W := 0) (Nat.le_of_eq rfl) (by decide) (by decide) (by decide) (by decide) ?_
          intro v7 T7 L7 X7 Q7
          obtain ⟨rfl, N7q, hh7⟩ := Q7
          have N7 := Fr.app N3 N7q
          show Go _ _ _ _ _ _ _ T7 (mkF m 165 #[.val (.int p0), .val (.int p1), .val (.int p2), .val (.int p3), .val (.int p4), .val (.int (0 : Int32)), .val (.ref b1), .val (.ref b2), .val (.int w), .val (.double (FP.i2d p1)), .second] [(.double (slopeW w (0 : Int32) (fun _ => (0 : UInt64))))])
          refine Go.step (fun _ k => XS.dload X7.here hx rfl (hb hby at_165) rfl k) ?_
          show Go _ _ _ _ _ _ _ T7 (mkF m 167 #[.val (.int p0), .val (.int p1), .val (.int p2), .val (.int p3), .val (.int p4), .val (.int (0 : Int32)), .val (.ref b1), .val (.ref b2), .val (.int w), .val (.double (FP.i2d p1)), .second] [(.double (FP.i2d p1)), (.double (slopeW w (0 : Int32) (fun _ => (0 : UInt64))))])
          refine Go.step (fun _ k => XS.dcmpS X7.here hx rfl (hb hby at_167) rfl rfl k) ?_
          show Go _ _ _ _ _ _ _ T7 (mkF m 168 #[.val (.int p0), .val (.int p1), .val (.int p2), .val (.int p3), .val (.int p4), .val (.int (0 : Int32)), .val (.ref b1), .val (.ref b2), .val (.int w), .val (.double (FP.i2d p1)), .second] [(.int (cmpValue (FP.dcmp (slopeW w (0 : Int32) (fun _ => (0 : UInt64))) (FP.i2d p1)) .l))])
          refine Go.step (fun _ k => XS.ifNo X7.here hx rfl (hb hby at_168) rfl (eq_y .l (absurd hc120_5 hw0)).1 k) ?_
          show Go _ _ _ _ _ _ _ T7 (mkF m 171 #[.val (.int p0), .val (.int p1), .val (.int p2), .val (.int p3), .val (.int p4), .val (.int (0 : Int32)), .val (.ref b1), .val (.ref b2), .val (.int w), .val (.double (FP.i2d p1)), .second] [])
          refine Go.step (fun _ k => XS.iconst X7.here hx rfl (hb hby at_171) k) ?_
          show Go _ _ _ _ _ _ _ T7 (mkF m 172 #[.val (.int p0), .val (.int p1), .val (.int p2), .val (.int p3), .val (.int p4), .val (.int (0 : Int32)), .val (.ref b1), .val (.ref b2), .val (.int w), .val (.double (FP.i2d p1)), .second] [(.int (1 : Int32))])
          refine Go.step (fun _ k => XS.goto X7.here hx rfl (pc0 := 172) (pc' := 176) rfl (hb hby at_172) (by decide) (by decide) k) ?_
          show Go _ _ _ _ _ _ _ T7 (mkF m 176 #[.val (.int p0), .val (.int p1), .val (.int p2), .val (.int p3), .val (.int p4), .val (.int (0 : Int32)), .val (.ref b1), .val (.ref b2), .val (.int w), .val (.double (FP.i2d p1)), .second] [(.int (1 : Int32))])
          refine Go.retZ X7 hx hlk hret (by decide) (hb hby at_176) (by decide) (by decide) ?_
          try rw [hh7]
          exact ⟨rfl, N7⟩
        · refine Go.step (fun _ k => XS.ifYes X3.here hx rfl (pc0 := 131) (pc' := 141) rfl (hb hby at_131) rfl ((if0 _ _).trans (feq hc131_6).2) (by decide) (by decide) k) ?_
          show Go _ _ _ _ _ _ _ T3 (mkF m 141 #[.val (.int p0), .val (.int p1), .val (.int p2), .val (.int p3), .val (.int p4), .val (.int (0 : Int32)), .val (.ref b1), .val (.ref b2), .val (.int w), .unset, .unset] [])
          refine Go.step (fun _ k => XS.iload X3.here hx rfl (hb hby at_141) rfl k) ?_
          show Go _ _ _ _ _ _ _ T3 (mkF m 143 #[.val (.int p0), .val (.int p1), .val (.int p2), .val (.int p3), .val (.int p4), .val (.int (0 : Int32)), .val (.ref b1), .val (.ref b2), .val (.int w), .unset, .unset] [(.int w)])
          refine Go.step (fun _ k => XS.iconst X3.here hx rfl (hb hby at_143) k) ?_
          show Go _ _ _ _ _ _ _ T3 (mkF m 144 #[.val (.int p0), .val (.int p1), .val (.int p2), .val (.int p3), .val (.int p4), .val (.int (0 : Int32)), .val (.ref b1), .val (.ref b2), .val (.int w), .unset, .unset] [(.int (1 : Int32)), (.int w)])
          by_cases hc144_8 : w = (1 : Int32)
          · refine Go.step (fun _ k => XS.icmpNo X3.here hx rfl (hb hby at_144) rfl (teq hc144_8).2 k) ?_
            show Go _ _ _ _ _ _ _ T3 (mkF m 147 #[.val (.int p0), .val (.int p1), .val (.int p2), .val (.int p3), .val (.int p4), .val (.int (0 : Int32)), .val (.ref b1), .val (.ref b2), .val (.int w), .unset, .unset] [])
            refine Go.step (fun _ k => XS.iloadN X3.here hx rfl (hb hby at_147) rfl k) ?_
            show Go _ _ _ _ _ _ _ T3 (mkF m 148 #[.val (.int p0), .val (.int p1), .val (.int p2), .val (.int p3), .val (.int p4), .val (.int (0 : Int32)), .val (.ref b1), .val (.ref b2), .val (.int w), .unset, .unset] [(.int p2)])
            refine Go.step (fun _ k => XS.i2dS X3.here hx rfl (hb hby at_148) rfl rfl k) ?_
            show Go _ _ _ _ _ _ _ T3 (mkF m 149 #[.val (.int p0), .val (.int p1), .val (.int p2), .val (.int p3), .val (.int p4), .val (.int (0 : Int32)), .val (.ref b1), .val (.ref b2), .val (.int w), .unset, .unset] [(.double (FP.i2d p2))])
            refine Go.step (fun _ k => XS.dstore X3.here hx rfl (hb hby at_149) rfl (l' := #[.val (.int p0), .val (.int p1), .val (.int p2), .val (.int p3), .val (.int p4), .val (.int (0 : Int32)), .val (.ref b1), .val (.ref b2), .val (.int w), .val (.double (FP.i2d p2)), .second]) rfl k) ?_
            show Go _ _ _ _ _ _ _ T3 (mkF m 151 #[.val (.int p0), .val (.int p1), .val (.int p2), .val (.int p3), .val (.int p4), .val (.int (0 : Int32)), .val (.ref b1), .val (.ref b2), .val (.int w), .val (.double (FP.i2d p2)), .second] [])
            refine Go.step (fun _ k => XS.goto X3.here hx rfl (pc0 := 151) (pc' := 158) rfl (hb hby at_151) (by decide) (by decide) k) ?_
            show Go _ _ _ _ _ _ _ T3 (mkF m 158 #[.val (.int p0), .val (.int p1), .val (.int p2), .val (.int p3), .val (.int p4), .val (.int (0 : Int32)), .val (.ref b1), .val (.ref b2), .val (.int w), .val (.double (FP.i2d p2)), .second] [])
            refine Go.step (fun _ k => XS.aload X3.here hx rfl (hb hby at_158) rfl rfl k) ?_
            show Go _ _ _ _ _ _ _ T3 (mkF m 160 #[.val (.int p0), .val (.int p1), .val (.int p2), .val (.int p3), .val (.int p4), .val (.int (0 : Int32)), .val (.ref b1), .val (.ref b2), .val (.int w), .val (.double (FP.i2d p2)), .second] [(.ref b2)])
            refine Go.step (fun _ k => XS.iload X3.here hx rfl (hb hby at_160) rfl k) ?_
            show Go _ _ _ _ _ _ _ T3 (mkF m 162 #[.val (.int p0), .val (.int p1), .val (.int p2), .val (.int p3), .val (.int p4), .val (.int (0 : Int32)), .val (.ref b1), .val (.ref b2), .val (.int w), .val (.double (FP.i2d p2)), .second] [(.int w), (.ref b2)])
            refine Go.callV X3 hx hZ (by rw [hml]; rfl) (y := (⟨"com/example/leapwise/leapwise/polytope/HalfSpace", "coefficient", "(I)D"⟩ : MethodName)) (z := (⟨"com/example/leapwise/leapwise/polytope/HalfSpace", "coefficient", "(I)D"⟩ : MethodName)) (a := b2) (argsL := [(.int w)]) (rest := []) hown (hw _ (List.mem_of_getElem? (i := 32) rfl)) (hw _ (List.mem_of_getElem? (i := 33) rfl)) (notFace_of_selects (args := #[]) (mvT hZ (hw _ (List.mem_of_getElem? (i := 35) rfl)))) (hw _ (List.mem_of_getElem? (i := 35) rfl)) (hw _ (List.mem_of_getElem? (i := 34) rfl)) (hw _ (List.mem_of_getElem? (i := 3) rfl)) (hw _ (List.mem_of_getElem? (i := 36) rfl)) (by decide) (rm5 l Z a0 hw b2 w c3 (0 : Int32) (fun _ => (0 : UInt64)) T3.heap n0 (Nat.le_trans Z0 (KK3 : Keep h0 T3.heap []).1) Fc3 Vc3 hw0) rfl Ec3 (hb hby at_162) (lenOf pd_3 rfl) rfl rfl (W := 0) (Nat.le_of_eq rfl) (by decide) (by decide) (by decide) (by decide) ?_
            intro v9 T9 L9 X9 Q9
            obtain ⟨rfl, N9q, hh9⟩ := Q9
            have N9 := Fr.app N3 N9q
            show Go _ _ _ _ _ _ _ T9 (mkF m 165 #[.val (.int p0), .val (.int p1), .val (.int p2), .val (.int p3), .val (.int p4), .val (.int (0 : Int32)), .val (.ref b1), .val (.ref b2), .val (.int w), .val (.double (FP.i2d p2)), .second] [(.double (slopeW w (0 : Int32) (fun _ => (0 : UInt64))))])
            refine Go.step (fun _ k => XS.dload X9.here hx rfl (hb hby at_165) rfl k) ?_
            show Go _ _ _ _ _ _ _ T9 (mkF m 167 #[.val (.int p0), .val (.int p1), .val (.int p2), .val (.int p3), .val (.int p4), .val (.int (0 : Int32)), .val (.ref b1), .val (.ref b2), .val (.int w), .val (.double (FP.i2d p2)), .second] [(.double (FP.i2d p2)), (.double (slopeW w (0 : Int32) (fun _ => (0 : UInt64))))])
            refine Go.step (fun _ k => XS.dcmpS X9.here hx rfl (hb hby at_167) rfl rfl k) ?_
            show Go _ _ _ _ _ _ _ T9 (mkF m 168 #[.val (.int p0), .val (.int p1), .val (.int p2), .val (.int p3), .val (.int p4), .val (.int (0 : Int32)), .val (.ref b1), .val (.ref b2), .val (.int w), .val (.double (FP.i2d p2)), .second] [(.int (cmpValue (FP.dcmp (slopeW w (0 : Int32) (fun _ => (0 : UInt64))) (FP.i2d p2)) .l))])
            refine Go.step (fun _ k => XS.ifNo X9.here hx rfl (hb hby at_168) rfl (eq_y .l (absurd hc120_5 hw0)).1 k) ?_
            show Go _ _ _ _ _ _ _ T9 (mkF m 171 #[.val (.int p0), .val (.int p1), .val (.int p2), .val (.int p3), .val (.int p4), .val (.int (0 : Int32)), .val (.ref b1), .val (.ref b2), .val (.int w), .val (.double (FP.i2d p2)), .second] [])
            refine Go.step (fun _ k => XS.iconst X9.here hx rfl (hb hby at_171) k) ?_
            show Go _ _ _ _ _ _ _ T9 (mkF m 172 #[.val (.int p0), .val (.int p1), .val (.int p2), .val (.int p3), .val (.int p4), .val (.int (0 : Int32)), .val (.ref b1), .val (.ref b2), .val (.int w), .val (.double (FP.i2d p2)), .second] [(.int (1 : Int32))])
            refine Go.step (fun _ k => XS.goto X9.here hx rfl (pc0 := 172) (pc' := 176) rfl (hb hby at_172) (by decide) (by decide) k) ?_
            show Go _ _ _ _ _ _ _ T9 (mkF m 176 #[.val (.int p0), .val (.int p1), .val (.int p2), .val (.int p3), .val (.int p4), .val (.int (0 : Int32)), .val (.ref b1), .val (.ref b2), .val (.int w), .val (.double (FP.i2d p2)), .second] [(.int (1 : Int32))])
            refine Go.retZ X9 hx hlk hret (by decide) (hb hby at_176) (by decide) (by decide) ?_
            try rw [hh9]
            exact ⟨rfl, N9⟩
          · refine Go.step (fun _ k => XS.icmpYes X3.here hx rfl (pc0 := 144) (pc' := 154) rfl (hb hby at_144) rfl (feq hc144_8).2 (by decide) (by decide) k) ?_
            show Go _ _ _ _ _ _ _ T3 (mkF m 154 #[.val (.int p0), .val (.int p1), .val (.int p2), .val (.int p3), .val (.int p4), .val (.int (0 : Int32)), .val (.ref b1), .val (.ref b2), .val (.int w), .unset, .unset] [])
            refine Go.step (fun _ k => XS.iloadN X3.here hx rfl (hb hby at_154) rfl k) ?_
            show Go _ _ _ _ _ _ _ T3 (mkF m 155 #[.val (.int p0), .val (.int p1), .val (.int p2), .val (.int p3), .val (.int p4), .val (.int (0 : Int32)), .val (.ref b1), .val (.ref b2), .val (.int w), .unset, .unset] [(.int p3)])
            refine Go.step (fun _ k => XS.i2dS X3.here hx rfl (hb hby at_155) rfl rfl k) ?_
            show Go _ _ _ _ _ _ _ T3 (mkF m 156 #[.val (.int p0), .val (.int p1), .val (.int p2), .val (.int p3), .val (.int p4), .val (.int (0 : Int32)), .val (.ref b1), .val (.ref b2), .val (.int w), .unset, .unset] [(.double (FP.i2d p3))])
            refine Go.step (fun _ k => XS.dstore X3.here hx rfl (hb hby at_156) rfl (l' := #[.val (.int p0), .val (.int p1), .val (.int p2), .val (.int p3), .val (.int p4), .val (.int (0 : Int32)), .val (.ref b1), .val (.ref b2), .val (.int w), .val (.double (FP.i2d p3)), .second]) rfl k) ?_
            show Go _ _ _ _ _ _ _ T3 (mkF m 158 #[.val (.int p0), .val (.int p1), .val (.int p2), .val (.int p3), .val (.int p4), .val (.int (0 : Int32)), .val (.ref b1), .val (.ref b2), .val (.int w), .val (.double (FP.i2d p3)), .second] [])
            refine Go.step (fun _ k => XS.aload X3.here hx rfl (hb hby at_158) rfl rfl k) ?_
            show Go _ _ _ _ _ _ _ T3 (mkF m 160 #[.val (.int p0), .val (.int p1), .val (.int p2), .val (.int p3), .val (.int p4), .val (.int (0 : Int32)), .val (.ref b1), .val (.ref b2), .val (.int w), .val (.double (FP.i2d p3)), .second] [(.ref b2)])
            refine Go.step (fun _ k => XS.iload X3.here hx rfl (hb hby at_160) rfl k) ?_
            show Go _ _ _ _ _ _ _ T3 (mkF m 162 #[.val (.int p0), .val (.int p1), .val (.int p2), .val (.int p3), .val (.int p4), .val (.int (0 : Int32)), .val (.ref b1), .val (.ref b2), .val (.int w), .val (.double (FP.i2d p3)), .second] [(.int w), (.ref b2)])
            refine Go.callV X3 hx hZ (by rw [hml]; rfl) (y := (⟨"com/example/leapwise/leapwise/polytope/HalfSpace", "coefficient", "(I)D"⟩ : MethodName)) (z := (⟨"com/example/leapwise/leapwise/polytope/HalfSpace", "coefficient", "(I)D"⟩ : MethodName)) (a := b2) (argsL := [(.int w)]) (rest := []) hown (hw _ (List.mem_of_getElem? (i := 32) rfl)) (hw _ (List.mem_of_getElem? (i := 33) rfl)) (notFace_of_selects (args := #[]) (mvT hZ (hw _ (List.mem_of_getElem? (i := 35) rfl)))) (hw _ (List.mem_of_getElem? (i := 35) rfl)) (hw _ (List.mem_of_getElem? (i := 34) rfl)) (hw _ (List.mem_of_getElem? (i := 3) rfl)) (hw _ (List.mem_of_getElem? (i := 36) rfl)) (by decide) (rm5 l Z a0 hw b2 w c3 (0 : Int32) (fun _ => (0 : UInt64)) T3.heap n0 (Nat.le_trans Z0 (KK3 : Keep h0 T3.heap []).1) Fc3 Vc3 hw0) rfl Ec3 (hb hby at_162) (lenOf pd_3 rfl) rfl rfl (W := 0) (Nat.le_of_eq rfl) (by decide) (by decide) (by decide) (by decide) ?_
            intro v10 T10 L10 X10 Q10
            obtain ⟨rfl, N10q, hh10⟩ := Q10
            have N10 := Fr.app N3 N10q
            show Go _ _ _ _ _ _ _ T10 (mkF m 165 #[.val (.int p0), .val (.int p1), .val (.int p2), .val (.int p3), .val (.int p4), .val (.int (0 : Int32)), .val (.ref b1), .val (.ref b2), .val (.int w), .val (.double (FP.i2d p3)), .second] [(.double (slopeW w (0 : Int32) (fun _ => (0 : UInt64))))])
            refine Go.step (fun _ k => XS.dload X10.here hx rfl (hb hby at_165) rfl k) ?_
            show Go _ _ _ _ _ _ _ T10 (mkF m 167 #[.val (.int p0), .val (.int p1), .val (.int p2), .val (.int p3), .val (.int p4), .val (.int (0 : Int32)), .val (.ref b1), .val (.ref b2), .val (.int w), .val (.double (FP.i2d p3)), .second] [(.double (FP.i2d p3)), (.double (slopeW w (0 : Int32) (fun _ => (0 : UInt64))))])
            refine Go.step (fun _ k => XS.dcmpS X10.here hx rfl (hb hby at_167) rfl rfl k) ?_
            show Go _ _ _ _ _ _ _ T10 (mkF m 168 #[.val (.int p0), .val (.int p1), .val (.int p2), .val (.int p3), .val (.int p4), .val (.int (0 : Int32)), .val (.ref b1), .val (.ref b2), .val (.int w), .val (.double (FP.i2d p3)), .second] [(.int (cmpValue (FP.dcmp (slopeW w (0 : Int32) (fun _ => (0 : UInt64))) (FP.i2d p3)) .l))])
            refine Go.step (fun _ k => XS.ifNo X10.here hx rfl (hb hby at_168) rfl (eq_y .l (absurd hc120_5 hw0)).1 k) ?_
            show Go _ _ _ _ _ _ _ T10 (mkF m 171 #[.val (.int p0), .val (.int p1), .val (.int p2), .val (.int p3), .val (.int p4), .val (.int (0 : Int32)), .val (.ref b1), .val (.ref b2), .val (.int w), .val (.double (FP.i2d p3)), .second] [])
            refine Go.step (fun _ k => XS.iconst X10.here hx rfl (hb hby at_171) k) ?_
            show Go _ _ _ _ _ _ _ T10 (mkF m 172 #[.val (.int p0), .val (.int p1), .val (.int p2), .val (.int p3), .val (.int p4), .val (.int (0 : Int32)), .val (.ref b1), .val (.ref b2), .val (.int w), .val (.double (FP.i2d p3)), .second] [(.int (1 : Int32))])
            refine Go.step (fun _ k => XS.goto X10.here hx rfl (pc0 := 172) (pc' := 176) rfl (hb hby at_172) (by decide) (by decide) k) ?_
            show Go _ _ _ _ _ _ _ T10 (mkF m 176 #[.val (.int p0), .val (.int p1), .val (.int p2), .val (.int p3), .val (.int p4), .val (.int (0 : Int32)), .val (.ref b1), .val (.ref b2), .val (.int w), .val (.double (FP.i2d p3)), .second] [(.int (1 : Int32))])
            refine Go.retZ X10 hx hlk hret (by decide) (hb hby at_176) (by decide) (by decide) ?_
            try rw [hh10]
            exact ⟨rfl, N10⟩
      · refine Go.step (fun _ k => XS.icmpNo X3.here hx rfl (hb hby at_120) rfl (flt hc120_5).1 k) ?_
        show Go _ _ _ _ _ _ _ T3 (mkF m 123 #[.val (.int p0), .val (.int p1), .val (.int p2), .val (.int p3), .val (.int p4), .val (.int (0 : Int32)), .val (.ref b1), .val (.ref b2), .val (.int w), .unset, .unset] [])
        refine Go.step (fun _ k => XS.dconst0 X3.here hx rfl (hb hby at_123) rfl k) ?_
        show Go _ _ _ _ _ _ _ T3 (mkF m 124 #[.val (.int p0), .val (.int p1), .val (.int p2), .val (.int p3), .val (.int p4), .val (.int (0 : Int32)), .val (.ref b1), .val (.ref b2), .val (.int w), .unset, .unset] [(.double (0 : UInt64))])
        refine Go.step (fun _ k => XS.dstore X3.here hx rfl (hb hby at_124) rfl (l' := #[.val (.int p0), .val (.int p1), .val (.int p2), .val (.int p3), .val (.int p4), .val (.int (0 : Int32)), .val (.ref b1), .val (.ref b2), .val (.int w), .val (.double (0 : UInt64)), .second]) rfl k) ?_
        show Go _ _ _ _ _ _ _ T3 (mkF m 126 #[.val (.int p0), .val (.int p1), .val (.int p2), .val (.int p3), .val (.int p4), .val (.int (0 : Int32)), .val (.ref b1), .val (.ref b2), .val (.int w), .val (.double (0 : UInt64)), .second] [])
        refine Go.step (fun _ k => XS.goto X3.here hx rfl (pc0 := 126) (pc' := 158) rfl (hb hby at_126) (by decide) (by decide) k) ?_
        show Go _ _ _ _ _ _ _ T3 (mkF m 158 #[.val (.int p0), .val (.int p1), .val (.int p2), .val (.int p3), .val (.int p4), .val (.int (0 : Int32)), .val (.ref b1), .val (.ref b2), .val (.int w), .val (.double (0 : UInt64)), .second] [])
        refine Go.step (fun _ k => XS.aload X3.here hx rfl (hb hby at_158) rfl rfl k) ?_
        show Go _ _ _ _ _ _ _ T3 (mkF m 160 #[.val (.int p0), .val (.int p1), .val (.int p2), .val (.int p3), .val (.int p4), .val (.int (0 : Int32)), .val (.ref b1), .val (.ref b2), .val (.int w), .val (.double (0 : UInt64)), .second] [(.ref b2)])
        refine Go.step (fun _ k => XS.iload X3.here hx rfl (hb hby at_160) rfl k) ?_
        show Go _ _ _ _ _ _ _ T3 (mkF m 162 #[.val (.int p0), .val (.int p1), .val (.int p2), .val (.int p3), .val (.int p4), .val (.int (0 : Int32)), .val (.ref b1), .val (.ref b2), .val (.int w), .val (.double (0 : UInt64)), .second] [(.int w), (.ref b2)])
        refine Go.callV X3 hx hZ (by rw [hml]; rfl) (y := (⟨"com/example/leapwise/leapwise/polytope/HalfSpace", "coefficient", "(I)D"⟩ : MethodName)) (z := (⟨"com/example/leapwise/leapwise/polytope/HalfSpace", "coefficient", "(I)D"⟩ : MethodName)) (a := b2) (argsL := [(.int w)]) (rest := []) hown (hw _ (List.mem_of_getElem? (i := 32) rfl)) (hw _ (List.mem_of_getElem? (i := 33) rfl)) (notFace_of_selects (args := #[]) (mvT hZ (hw _ (List.mem_of_getElem? (i := 35) rfl)))) (hw _ (List.mem_of_getElem? (i := 35) rfl)) (hw _ (List.mem_of_getElem? (i := 34) rfl)) (hw _ (List.mem_of_getElem? (i := 3) rfl)) (hw _ (List.mem_of_getElem? (i := 36) rfl)) (by decide) (rm5 l Z a0 hw b2 w c3 (0 : Int32) (fun _ => (0 : UInt64)) T3.heap n0 (Nat.le_trans Z0 (KK3 : Keep h0 T3.heap []).1) Fc3 Vc3 hw0) rfl Ec3 (hb hby at_162) (lenOf pd_3 rfl) rfl rfl (W := 0) (Nat.le_of_eq rfl) (by decide) (by decide) (by decide) (by decide) ?_
        intro v11 T11 L11 X11 Q11
        obtain ⟨rfl, N11q, hh11⟩ := Q11
        have N11 := Fr.app N3 N11q
        show Go _ _ _ _ _ _ _ T11 (mkF m 165 #[.val (.int p0), .val (.int p1), .val (.int p2), .val (.int p3), .val (.int p4), .val (.int (0 : Int32)), .val (.ref b1), .val (.ref b2), .val (.int w), .val (.double (0 : UInt64)), .second] [(.double (slopeW w (0 : Int32) (fun _ => (0 : UInt64))))])
        refine Go.step (fun _ k => XS.dload X11.here hx rfl (hb hby at_165) rfl k) ?_
        show Go _ _ _ _ _ _ _ T11 (mkF m 167 #[.val (.int p0), .val (.int p1), .val (.int p2), .val (.int p3), .val (.int p4), .val (.int (0 : Int32)), .val (.ref b1), .val (.ref b2), .val (.int w), .val (.double (0 : UInt64)), .second] [(.double (0 : UInt64)), (.double (slopeW w (0 : Int32) (fun _ => (0 : UInt64))))])
        refine Go.step (fun _ k => XS.dcmpS X11.here hx rfl (hb hby at_167) rfl rfl k) ?_
        show Go _ _ _ _ _ _ _ T11 (mkF m 168 #[.val (.int p0), .val (.int p1), .val (.int p2), .val (.int p3), .val (.int p4), .val (.int (0 : Int32)), .val (.ref b1), .val (.ref b2), .val (.int w), .val (.double (0 : UInt64)), .second] [(.int (cmpValue (FP.dcmp (slopeW w (0 : Int32) (fun _ => (0 : UInt64))) (0 : UInt64)) .l))])
        refine Go.step (fun _ k => XS.ifNo X11.here hx rfl (hb hby at_168) rfl (eq_y .l (own_sw0 hc120_5)).1 k) ?_
        show Go _ _ _ _ _ _ _ T11 (mkF m 171 #[.val (.int p0), .val (.int p1), .val (.int p2), .val (.int p3), .val (.int p4), .val (.int (0 : Int32)), .val (.ref b1), .val (.ref b2), .val (.int w), .val (.double (0 : UInt64)), .second] [])
        refine Go.step (fun _ k => XS.iconst X11.here hx rfl (hb hby at_171) k) ?_
        show Go _ _ _ _ _ _ _ T11 (mkF m 172 #[.val (.int p0), .val (.int p1), .val (.int p2), .val (.int p3), .val (.int p4), .val (.int (0 : Int32)), .val (.ref b1), .val (.ref b2), .val (.int w), .val (.double (0 : UInt64)), .second] [(.int (1 : Int32))])
        refine Go.step (fun _ k => XS.goto X11.here hx rfl (pc0 := 172) (pc' := 176) rfl (hb hby at_172) (by decide) (by decide) k) ?_
        show Go _ _ _ _ _ _ _ T11 (mkF m 176 #[.val (.int p0), .val (.int p1), .val (.int p2), .val (.int p3), .val (.int p4), .val (.int (0 : Int32)), .val (.ref b1), .val (.ref b2), .val (.int w), .val (.double (0 : UInt64)), .second] [(.int (1 : Int32))])
        refine Go.retZ X11 hx hlk hret (by decide) (hb hby at_176) (by decide) (by decide) ?_
        try rw [hh11]
        exact ⟨rfl, N11⟩
    · refine Go.step (fun _ k => XS.ifNo X3.here hx rfl (hb hby at_99) rfl ((if0 _ _).trans (feq hc99_4).1) k) ?_
      show Go _ _ _ _ _ _ _ T3 (mkF m 102 #[.val (.int p0), .val (.int p1), .val (.int p2), .val (.int p3), .val (.int p4), .val (.int (0 : Int32)), .val (.ref b1), .val (.ref b2), .unset, .unset, .unset] [])
      refine Go.step (fun _ k => XS.iload X3.here hx rfl (hb hby at_102) rfl k) ?_
      show Go _ _ _ _ _ _ _ T3 (mkF m 104 #[.val (.int p0), .val (.int p1), .val (.int p2), .val (.int p3), .val (.int p4), .val (.int (0 : Int32)), .val (.ref b1), .val (.ref b2), .unset, .unset, .unset] [(.int p4)])
      refine Go.step (X3.ldcInt hx hown (mvT hZ (hw _ (List.mem_of_getElem? (i := 38) rfl))) (g := (mkF m 104 #[.val (.int p0), .val (.int p1), .val (.int p2), .val (.int p3), .val (.int p4), .val (.int (0 : Int32)), .val (.ref b1), .val (.ref b2), .unset, .unset, .unset] [(.int p4)])) rfl (hb hby at_104)) ?_
      show Go _ _ _ _ _ _ _ T3 (mkF m 106 #[.val (.int p0), .val (.int p1), .val (.int p2), .val (.int p3), .val (.int p4), .val (.int (0 : Int32)), .val (.ref b1), .val (.ref b2), .unset, .unset, .unset] [(.int (2147483647 : Int32)), (.int p4)])
      refine Go.step (fun _ k => XS.iand X3.here hx rfl (hb hby at_106) rfl k) ?_
      show Go _ _ _ _ _ _ _ T3 (mkF m 107 #[.val (.int p0), .val (.int p1), .val (.int p2), .val (.int p3), .val (.int p4), .val (.int (0 : Int32)), .val (.ref b1), .val (.ref b2), .unset, .unset, .unset] [(.int (p4 &&& (2147483647 : Int32)))])
      refine Go.step (fun _ k => XS.goto X3.here hx rfl (pc0 := 107) (pc' := 114) rfl (hb hby at_107) (by decide) (by decide) k) ?_
      show Go _ _ _ _ _ _ _ T3 (mkF m 114 #[.val (.int p0), .val (.int p1), .val (.int p2), .val (.int p3), .val (.int p4), .val (.int (0 : Int32)), .val (.ref b1), .val (.ref b2), .unset, .unset, .unset] [(.int (p4 &&& (2147483647 : Int32)))])
      refine Go.step (fun _ k => XS.istore X3.here hx rfl (hb hby at_114) rfl (l' := #[.val (.int p0), .val (.int p1), .val (.int p2), .val (.int p3), .val (.int p4), .val (.int (0 : Int32)), .val (.ref b1), .val (.ref b2), .val (.int (p4 &&& (2147483647 : Int32))), .unset, .unset]) rfl k) ?_
      have hw0 := own_v1 p4
      obtain ⟨w, h_w⟩ : ∃ z, z = (p4 &&& (2147483647 : Int32)) := ⟨_, rfl⟩
      rw [← h_w]
      rw [← h_w] at hw0
      show Go _ _ _ _ _ _ _ T3 (mkF m 116 #[.val (.int p0), .val (.int p1), .val (.int p2), .val (.int p3), .val (.int p4), .val (.int (0 : Int32)), .val (.ref b1), .val (.ref b2), .val (.int w), .unset, .unset] [])
      refine Go.step (fun _ k => XS.iload X3.here hx rfl (hb hby at_116) rfl k) ?_
      show Go _ _ _ _ _ _ _ T3 (mkF m 118 #[.val (.int p0), .val (.int p1), .val (.int p2), .val (.int p3), .val (.int p4), .val (.int (0 : Int32)), .val (.ref b1), .val (.ref b2), .val (.int w), .unset, .unset] [(.int w)])
      refine Go.step (fun _ k => XS.iload X3.here hx rfl (hb hby at_118) rfl k) ?_
      show Go _ _ _ _ _ _ _ T3 (mkF m 120 #[.val (.int p0), .val (.int p1), .val (.int p2), .val (.int p3), .val (.int p4), .val (.int (0 : Int32)), .val (.ref b1), .val (.ref b2), .val (.int w), .unset, .unset] [(.int (0 : Int32)), (.int w)])
      by_cases hc120_12 : w < (0 : Int32)
      · refine Go.step (fun _ k => XS.icmpYes X3.here hx rfl (pc0 := 120) (pc' := 129) rfl (hb hby at_120) rfl (tlt hc120_12).1 (by decide) (by decide) k) ?_
        show Go _ _ _ _ _ _ _ T3 (mkF m 129 #[.val (.int p0), .val (.int p1), .val (.int p2), .val (.int p3), .val (.int p4), .val (.int (0 : Int32)), .val (.ref b1), .val (.ref b2), .val (.int w), .unset, .unset] [])
        refine Go.step (fun _ k => XS.iload X3.here hx rfl (hb hby at_129) rfl k) ?_
        show Go _ _ _ _ _ _ _ T3 (mkF m 131 #[.val (.int p0), .val (.int p1), .val (.int p2), .val (.int p3), .val (.int p4), .val (.int (0 : Int32)), .val (.ref b1), .val (.ref b2), .val (.int w), .unset, .unset] [(.int w)])
        by_cases hc131_13 : w = (0 : Int32)
        · refine Go.step (fun _ k => XS.ifNo X3.here hx rfl (hb hby at_131) rfl ((if0 _ _).trans (teq hc131_13).2) k) ?_
          show Go _ _ _ _ _ _ _ T3 (mkF m 134 #[.val (.int p0), .val (.int p1), .val (.int p2), .val (.int p3), .val (.int p4), .val (.int (0 : Int32)), .val (.ref b1), .val (.ref b2), .val (.int w), .unset, .unset] [])
          refine Go.step (fun _ k => XS.iloadN X3.here hx rfl (hb hby at_134) rfl k) ?_
          show Go _ _ _ _ _ _ _ T3 (mkF m 135 #[.val (.int p0), .val (.int p1), .val (.int p2), .val (.int p3), .val (.int p4), .val (.int (0 : Int32)), .val (.ref b1), .val (.ref b2), .val (.int w), .unset, .unset] [(.int p1)])
          refine Go.step (fun _ k => XS.i2dS X3.here hx rfl (hb hby at_135) rfl rfl k) ?_
          show Go _ _ _ _ _ _ _ T3 (mkF m 136 #[.val (.int p0), .val (.int p1), .val (.int p2), .val (.int p3), .val (.int p4), .val (.int (0 : Int32)), .val (.ref b1), .val (.ref b2), .val (.int w), .unset, .unset] [(.double (FP.i2d p1))])
          refine Go.step (fun _ k => XS.dstore X3.here hx rfl (hb hby at_136) rfl (l' := #[.val (.int p0), .val (.int p1), .val (.int p2), .val (.int p3), .val (.int p4), .val (.int (0 : Int32)), .val (.ref b1), .val (.ref b2), .val (.int w), .val (.double (FP.i2d p1)), .second]) rfl k) ?_
          show Go _ _ _ _ _ _ _ T3 (mkF m 138 #[.val (.int p0), .val (.int p1), .val (.int p2), .val (.int p3), .val (.int p4), .val (.int (0 : Int32)), .val (.ref b1), .val (.ref b2), .val (.int w), .val (.double (FP.i2d p1)), .second] [])
          refine Go.step (fun _ k => XS.goto X3.here hx rfl (pc0 := 138) (pc' := 158) rfl (hb hby at_138) (by decide) (by decide) k) ?_
          show Go _ _ _ _ _ _ _ T3 (mkF m 158 #[.val (.int p0), .val (.int p1), .val (.int p2), .val (.int p3), .val (.int p4), .val (.int (0 : Int32)), .val (.ref b1), .val (.ref b2), .val (.int w), .val (.double (FP.i2d p1)), .second] [])
          refine Go.step (fun _ k => XS.aload X3.here hx rfl (hb hby at_158) rfl rfl k) ?_
          show Go _ _ _ _ _ _ _ T3 (mkF m 160 #[.val (.int p0), .val (.int p1), .val (.int p2), .val (.int p3), .val (.int p4), .val (.int (0 : Int32)), .val (.ref b1), .val (.ref b2), .val (.int w), .val (.double (FP.i2d p1)), .second] [(.ref b2)])
          refine Go.step (fun _ k => XS.iload X3.here hx rfl (hb hby at_160) rfl k) ?_
          show Go _ _ _ _ _ _ _ T3 (mkF m 162 #[.val (.int p0), .val (.int p1), .val (.int p2), .val (.int p3), .val (.int p4), .val (.int (0 : Int32)), .val (.ref b1), .val (.ref b2), .val (.int w), .val (.double (FP.i2d p1)), .second] [(.int w), (.ref b2)])
          refine Go.callV X3 hx hZ (by rw [hml]; rfl) (y := (⟨"com/example/leapwise/leapwise/polytope/HalfSpace", "coefficient", "(I)D"⟩ : MethodName)) (z := (⟨"com/example/leapwise/leapwise/polytope/HalfSpace", "coefficient", "(I)D"⟩ : MethodName)) (a := b2) (argsL := [(.int w)]) (rest := []) hown (hw _ (List.mem_of_getElem? (i := 32) rfl)) (hw _ (List.mem_of_getElem? (i := 33) rfl)) (notFace_of_selects (args := #[]) (mvT hZ (hw _ (List.mem_of_getElem? (i := 35) rfl)))) (hw _ (List.mem_of_getElem? (i := 35) rfl)) (hw _ (List.mem_of_getElem? (i := 34) rfl)) (hw _ (List.mem_of_getElem? (i := 3) rfl)) (hw _ (List.mem_of_getElem? (i := 36) rfl)) (by decide) (rm5 l Z a0 hw b2 w c3 (0 : Int32) (fun _ => (0 : UInt64)) T3.heap n0 (Nat.le_trans Z0 (KK3 : Keep h0 T3.heap []).1) Fc3 Vc3 hw0) rfl Ec3 (hb hby at_162) (lenOf pd_3 rfl) rfl rfl (W := 0) (Nat.le_of_eq rfl) (by decide) (by decide) (by decide) (by decide) ?_
          intro v14 T14 L14 X14 Q14
          obtain ⟨rfl, N14q, hh14⟩ := Q14
          have N14 := Fr.app N3 N14q
          show Go _ _ _ _ _ _ _ T14 (mkF m 165 #[.val (.int p0), .val (.int p1), .val (.int p2), .val (.int p3), .val (.int p4), .val (.int (0 : Int32)), .val (.ref b1), .val (.ref b2), .val (.int w), .val (.double (FP.i2d p1)), .second] [(.double (slopeW w (0 : Int32) (fun _ => (0 : UInt64))))])
          refine Go.step (fun _ k => XS.dload X14.here hx rfl (hb hby at_165) rfl k) ?_
          show Go _ _ _ _ _ _ _ T14 (mkF m 167 #[.val (.int p0), .val (.int p1), .val (.int p2), .val (.int p3), .val (.int p4), .val (.int (0 : Int32)), .val (.ref b1), .val (.ref b2), .val (.int w), .val (.double (FP.i2d p1)), .second] [(.double (FP.i2d p1)), (.double (slopeW w (0 : Int32) (fun _ => (0 : UInt64))))])
          refine Go.step (fun _ k => XS.dcmpS X14.here hx rfl (hb hby at_167) rfl rfl k) ?_
          show Go _ _ _ _ _ _ _ T14 (mkF m 168 #[.val (.int p0), .val (.int p1), .val (.int p2), .val (.int p3), .val (.int p4), .val (.int (0 : Int32)), .val (.ref b1), .val (.ref b2), .val (.int w), .val (.double (FP.i2d p1)), .second] [(.int (cmpValue (FP.dcmp (slopeW w (0 : Int32) (fun _ => (0 : UInt64))) (FP.i2d p1)) .l))])
          refine Go.step (fun _ k => XS.ifNo X14.here hx rfl (hb hby at_168) rfl (eq_y .l (absurd hc120_12 hw0)).1 k) ?_
          show Go _ _ _ _ _ _ _ T14 (mkF m 171 #[.val (.int p0), .val (.int p1), .val (.int p2), .val (.int p3), .val (.int p4), .val (.int (0 : Int32)), .val (.ref b1), .val (.ref b2), .val (.int w), .val (.double (FP.i2d p1)), .second] [])
          refine Go.step (fun _ k => XS.iconst X14.here hx rfl (hb hby at_171) k) ?_
          show Go _ _ _ _ _ _ _ T14 (mkF m 172 #[.val (.int p0), .val (.int p1), .val (.int p2), .val (.int p3), .val (.int p4), .val (.int (0 : Int32)), .val (.ref b1), .val (.ref b2), .val (.int w), .val (.double (FP.i2d p1)), .second] [(.int (1 : Int32))])
          refine Go.step (fun _ k => XS.goto X14.here hx rfl (pc0 := 172) (pc' := 176) rfl (hb hby at_172) (by decide) (by decide) k) ?_
          show Go _ _ _ _ _ _ _ T14 (mkF m 176 #[.val (.int p0), .val (.int p1), .val (.int p2), .val (.int p3), .val (.int p4), .val (.int (0 : Int32)), .val (.ref b1), .val (.ref b2), .val (.int w), .val (.double (FP.i2d p1)), .second] [(.int (1 : Int32))])
          refine Go.retZ X14 hx hlk hret (by decide) (hb hby at_176) (by decide) (by decide) ?_
          try rw [hh14]
          exact ⟨rfl, N14⟩
        · refine Go.step (fun _ k => XS.ifYes X3.here hx rfl (pc0 := 131) (pc' := 141) rfl (hb hby at_131) rfl ((if0 _ _).trans (feq hc131_13).2) (by decide) (by decide) k) ?_
          show Go _ _ _ _ _ _ _ T3 (mkF m 141 #[.val (.int p0), .val (.int p1), .val (.int p2), .val (.int p3), .val (.int p4), .val (.int (0 : Int32)), .val (.ref b1), .val (.ref b2), .val (.int w), .unset, .unset] [])
          refine Go.step (fun _ k => XS.iload X3.here hx rfl (hb hby at_141) rfl k) ?_
          show Go _ _ _ _ _ _ _ T3 (mkF m 143 #[.val (.int p0), .val (.int p1), .val (.int p2), .val (.int p3), .val (.int p4), .val (.int (0 : Int32)), .val (.ref b1), .val (.ref b2), .val (.int w), .unset, .unset] [(.int w)])
          refine Go.step (fun _ k => XS.iconst X3.here hx rfl (hb hby at_143) k) ?_
          show Go _ _ _ _ _ _ _ T3 (mkF m 144 #[.val (.int p0), .val (.int p1), .val (.int p2), .val (.int p3), .val (.int p4), .val (.int (0 : Int32)), .val (.ref b1), .val (.ref b2), .val (.int w), .unset, .unset] [(.int (1 : Int32)), (.int w)])
          by_cases hc144_15 : w = (1 : Int32)
          · refine Go.step (fun _ k => XS.icmpNo X3.here hx rfl (hb hby at_144) rfl (teq hc144_15).2 k) ?_
            show Go _ _ _ _ _ _ _ T3 (mkF m 147 #[.val (.int p0), .val (.int p1), .val (.int p2), .val (.int p3), .val (.int p4), .val (.int (0 : Int32)), .val (.ref b1), .val (.ref b2), .val (.int w), .unset, .unset] [])
            refine Go.step (fun _ k => XS.iloadN X3.here hx rfl (hb hby at_147) rfl k) ?_
            show Go _ _ _ _ _ _ _ T3 (mkF m 148 #[.val (.int p0), .val (.int p1), .val (.int p2), .val (.int p3), .val (.int p4), .val (.int (0 : Int32)), .val (.ref b1), .val (.ref b2), .val (.int w), .unset, .unset] [(.int p2)])
            refine Go.step (fun _ k => XS.i2dS X3.here hx rfl (hb hby at_148) rfl rfl k) ?_
            show Go _ _ _ _ _ _ _ T3 (mkF m 149 #[.val (.int p0), .val (.int p1), .val (.int p2), .val (.int p3), .val (.int p4), .val (.int (0 : Int32)), .val (.ref b1), .val (.ref b2), .val (.int w), .unset, .unset] [(.double (FP.i2d p2))])
            refine Go.step (fun _ k => XS.dstore X3.here hx rfl (hb hby at_149) rfl (l' := #[.val (.int p0), .val (.int p1), .val (.int p2), .val (.int p3), .val (.int p4), .val (.int (0 : Int32)), .val (.ref b1), .val (.ref b2), .val (.int w), .val (.double (FP.i2d p2)), .second]) rfl k) ?_
            show Go _ _ _ _ _ _ _ T3 (mkF m 151 #[.val (.int p0), .val (.int p1), .val (.int p2), .val (.int p3), .val (.int p4), .val (.int (0 : Int32)), .val (.ref b1), .val (.ref b2), .val (.int w), .val (.double (FP.i2d p2)), .second] [])
            refine Go.step (fun _ k => XS.goto X3.here hx rfl (pc0 := 151) (pc' := 158) rfl (hb hby at_151) (by decide) (by decide) k) ?_
            show Go _ _ _ _ _ _ _ T3 (mkF m 158 #[.val (.int p0), .val (.int p1), .val (.int p2), .val (.int p3), .val (.int p4), .val (.int (0 : Int32)), .val (.ref b1), .val (.ref b2), .val (.int w), .val (.double (FP.i2d p2)), .second] [])
            refine Go.step (fun _ k => XS.aload X3.here hx rfl (hb hby at_158) rfl rfl k) ?_
            show Go _ _ _ _ _ _ _ T3 (mkF m 160 #[.val (.int p0), .val (.int p1), .val (.int p2), .val (.int p3), .val (.int p4), .val (.int (0 : Int32)), .val (.ref b1), .val (.ref b2), .val (.int w), .val (.double (FP.i2d p2)), .second] [(.ref b2)])
            refine Go.step (fun _ k => XS.iload X3.here hx rfl (hb hby at_160) rfl k) ?_
            show Go _ _ _ _ _ _ _ T3 (mkF m 162 #[.val (.int p0), .val (.int p1), .val (.int p2), .val (.int p3), .val (.int p4), .val (.int (0 : Int32)), .val (.ref b1), .val (.ref b2), .val (.int w), .val (.double (FP.i2d p2)), .second] [(.int w), (.ref b2)])
            refine Go.callV X3 hx hZ (by rw [hml]; rfl) (y := (⟨"com/example/leapwise/leapwise/polytope/HalfSpace", "coefficient", "(I)D"⟩ : MethodName)) (z := (⟨"com/example/leapwise/leapwise/polytope/HalfSpace", "coefficient", "(I)D"⟩ : MethodName)) (a := b2) (argsL := [(.int w)]) (rest := []) hown (hw _ (List.mem_of_getElem? (i := 32) rfl)) (hw _ (List.mem_of_getElem? (i := 33) rfl)) (notFace_of_selects (args := #[]) (mvT hZ (hw _ (List.mem_of_getElem? (i := 35) rfl)))) (hw _ (List.mem_of_getElem? (i := 35) rfl)) (hw _ (List.mem_of_getElem? (i := 34) rfl)) (hw _ (List.mem_of_getElem? (i := 3) rfl)) (hw _ (List.mem_of_getElem? (i := 36) rfl)) (by decide) (rm5 l Z a0 hw b2 w c3 (0 : Int32) (fun _ => (0 : UInt64)) T3.heap n0 (Nat.le_trans Z0 (KK3 : Keep h0 T3.heap []).1) Fc3 Vc3 hw0) rfl Ec3 (hb hby at_162) (lenOf pd_3 rfl) rfl rfl (W := 0) (Nat.le_of_eq rfl) (by decide) (by decide) (by decide) (by decide) ?_
            intro v16 T16 L16 X16 Q16
            obtain ⟨rfl, N16q, hh16⟩ := Q16
            have N16 := Fr.app N3 N16q
            show Go _ _ _ _ _ _ _ T16 (mkF m 165 #[.val (.int p0), .val (.int p1), .val (.int p2), .val (.int p3), .val (.int p4), .val (.int (0 : Int32)), .val (.ref b1), .val (.ref b2), .val (.int w), .val (.double (FP.i2d p2)), .second] [(.double (slopeW w (0 : Int32) (fun _ => (0 : UInt64))))])
            refine Go.step (fun _ k => XS.dload X16.here hx rfl (hb hby at_165) rfl k) ?_
            show Go _ _ _ _ _ _ _ T16 (mkF m 167 #[.val (.int p0), .val (.int p1), .val (.int p2), .val (.int p3), .val (.int p4), .val (.int (0 : Int32)), .val (.ref b1), .val (.ref b2), .val (.int w), .val (.double (FP.i2d p2)), .second] [(.double (FP.i2d p2)), (.double (slopeW w (0 : Int32) (fun _ => (0 : UInt64))))])
            refine Go.step (fun _ k => XS.dcmpS X16.here hx rfl (hb hby at_167) rfl rfl k) ?_
            show Go _ _ _ _ _ _ _ T16 (mkF m 168 #[.val (.int p0), .val (.int p1), .val (.int p2), .val (.int p3), .val (.int p4), .val (.int (0 : Int32)), .val (.ref b1), .val (.ref b2), .val (.int w), .val (.double (FP.i2d p2)), .second] [(.int (cmpValue (FP.dcmp (slopeW w (0 : Int32) (fun _ => (0 : UInt64))) (FP.i2d p2)) .l))])
            refine Go.step (fun _ k => XS.ifNo X16.here hx rfl (hb hby at_168) rfl (eq_y .l (absurd hc120_12 hw0)).1 k) ?_
            show Go _ _ _ _ _ _ _ T16 (mkF m 171 #[.val (.int p0), .val (.int p1), .val (.int p2), .val (.int p3), .val (.int p4), .val (.int (0 : Int32)), .val (.ref b1), .val (.ref b2), .val (.int w), .val (.double (FP.i2d p2)), .second] [])
            refine Go.step (fun _ k => XS.iconst X16.here hx rfl (hb hby at_171) k) ?_
            show Go _ _ _ _ _ _ _ T16 (mkF m 172 #[.val (.int p0), .val (.int p1), .val (.int p2), .val (.int p3), .val (.int p4), .val (.int (0 : Int32)), .val (.ref b1), .val (.ref b2), .val (.int w), .val (.double (FP.i2d p2)), .second] [(.int (1 : Int32))])
            refine Go.step (fun _ k => XS.goto X16.here hx rfl (pc0 := 172) (pc' := 176) rfl (hb hby at_172) (by decide) (by decide) k) ?_
            show Go _ _ _ _ _ _ _ T16 (mkF m 176 #[.val (.int p0), .val (.int p1), .val (.int p2), .val (.int p3), .val (.int p4), .val (.int (0 : Int32)), .val (.ref b1), .val (.ref b2), .val (.int w), .val (.double (FP.i2d p2)), .second] [(.int (1 : Int32))])
            refine Go.retZ X16 hx hlk hret (by decide) (hb hby at_176) (by decide) (by decide) ?_
            try rw [hh16]
            exact ⟨rfl, N16⟩
          · refine Go.step (fun _ k => XS.icmpYes X3.here hx rfl (pc0 := 144) (pc' := 154) rfl (hb hby at_144) rfl (feq hc144_15).2 (by decide) (by decide) k) ?_
            show Go _ _ _ _ _ _ _ T3 (mkF m 154 #[.val (.int p0), .val (.int p1), .val (.int p2), .val (.int p3), .val (.int p4), .val (.int (0 : Int32)), .val (.ref b1), .val (.ref b2), .val (.int w), .unset, .unset] [])
            refine Go.step (fun _ k => XS.iloadN X3.here hx rfl (hb hby at_154) rfl k) ?_
            show Go _ _ _ _ _ _ _ T3 (mkF m 155 #[.val (.int p0), .val (.int p1), .val (.int p2), .val (.int p3), .val (.int p4), .val (.int (0 : Int32)), .val (.ref b1), .val (.ref b2), .val (.int w), .unset, .unset] [(.int p3)])
            refine Go.step (fun _ k => XS.i2dS X3.here hx rfl (hb hby at_155) rfl rfl k) ?_
            show Go _ _ _ _ _ _ _ T3 (mkF m 156 #[.val (.int p0), .val (.int p1), .val (.int p2), .val (.int p3), .val (.int p4), .val (.int (0 : Int32)), .val (.ref b1), .val (.ref b2), .val (.int w), .unset, .unset] [(.double (FP.i2d p3))])
            refine Go.step (fun _ k => XS.dstore X3.here hx rfl (hb hby at_156) rfl (l' := #[.val (.int p0), .val (.int p1), .val (.int p2), .val (.int p3), .val (.int p4), .val (.int (0 : Int32)), .val (.ref b1), .val (.ref b2), .val (.int w), .val (.double (FP.i2d p3)), .second]) rfl k) ?_
            show Go _ _ _ _ _ _ _ T3 (mkF m 158 #[.val (.int p0), .val (.int p1), .val (.int p2), .val (.int p3), .val (.int p4), .val (.int (0 : Int32)), .val (.ref b1), .val (.ref b2), .val (.int w), .val (.double (FP.i2d p3)), .second] [])
            refine Go.step (fun _ k => XS.aload X3.here hx rfl (hb hby at_158) rfl rfl k) ?_
            show Go _ _ _ _ _ _ _ T3 (mkF m 160 #[.val (.int p0), .val (.int p1), .val (.int p2), .val (.int p3), .val (.int p4), .val (.int (0 : Int32)), .val (.ref b1), .val (.ref b2), .val (.int w), .val (.double (FP.i2d p3)), .second] [(.ref b2)])
            refine Go.step (fun _ k => XS.iload X3.here hx rfl (hb hby at_160) rfl k) ?_
            show Go _ _ _ _ _ _ _ T3 (mkF m 162 #[.val (.int p0), .val (.int p1), .val (.int p2), .val (.int p3), .val (.int p4), .val (.int (0 : Int32)), .val (.ref b1), .val (.ref b2), .val (.int w), .val (.double (FP.i2d p3)), .second] [(.int w), (.ref b2)])
            refine Go.callV X3 hx hZ (by rw [hml]; rfl) (y := (⟨"com/example/leapwise/leapwise/polytope/HalfSpace", "coefficient", "(I)D"⟩ : MethodName)) (z := (⟨"com/example/leapwise/leapwise/polytope/HalfSpace", "coefficient", "(I)D"⟩ : MethodName)) (a := b2) (argsL := [(.int w)]) (rest := []) hown (hw _ (List.mem_of_getElem? (i := 32) rfl)) (hw _ (List.mem_of_getElem? (i := 33) rfl)) (notFace_of_selects (args := #[]) (mvT hZ (hw _ (List.mem_of_getElem? (i := 35) rfl)))) (hw _ (List.mem_of_getElem? (i := 35) rfl)) (hw _ (List.mem_of_getElem? (i := 34) rfl)) (hw _ (List.mem_of_getElem? (i := 3) rfl)) (hw _ (List.mem_of_getElem? (i := 36) rfl)) (by decide) (rm5 l Z a0 hw b2 w c3 (0 : Int32) (fun _ => (0 : UInt64)) T3.heap n0 (Nat.le_trans Z0 (KK3 : Keep h0 T3.heap []).1) Fc3 Vc3 hw0) rfl Ec3 (hb hby at_162) (lenOf pd_3 rfl) rfl rfl (W := 0) (Nat.le_of_eq rfl) (by decide) (by decide) (by decide) (by decide) ?_
            intro v17 T17 L17 X17 Q17
            obtain ⟨rfl, N17q, hh17⟩ := Q17
            have N17 := Fr.app N3 N17q
            show Go _ _ _ _ _ _ _ T17 (mkF m 165 #[.val (.int p0), .val (.int p1), .val (.int p2), .val (.int p3), .val (.int p4), .val (.int (0 : Int32)), .val (.ref b1), .val (.ref b2), .val (.int w), .val (.double (FP.i2d p3)), .second] [(.double (slopeW w (0 : Int32) (fun _ => (0 : UInt64))))])
            refine Go.step (fun _ k => XS.dload X17.here hx rfl (hb hby at_165) rfl k) ?_
            show Go _ _ _ _ _ _ _ T17 (mkF m 167 #[.val (.int p0), .val (.int p1), .val (.int p2), .val (.int p3), .val (.int p4), .val (.int (0 : Int32)), .val (.ref b1), .val (.ref b2), .val (.int w), .val (.double (FP.i2d p3)), .second] [(.double (FP.i2d p3)), (.double (slopeW w (0 : Int32) (fun _ => (0 : UInt64))))])
            refine Go.step (fun _ k => XS.dcmpS X17.here hx rfl (hb hby at_167) rfl rfl k) ?_
            show Go _ _ _ _ _ _ _ T17 (mkF m 168 #[.val (.int p0), .val (.int p1), .val (.int p2), .val (.int p3), .val (.int p4), .val (.int (0 : Int32)), .val (.ref b1), .val (.ref b2), .val (.int w), .val (.double (FP.i2d p3)), .second] [(.int (cmpValue (FP.dcmp (slopeW w (0 : Int32) (fun _ => (0 : UInt64))) (FP.i2d p3)) .l))])
            refine Go.step (fun _ k => XS.ifNo X17.here hx rfl (hb hby at_168) rfl (eq_y .l (absurd hc120_12 hw0)).1 k) ?_
            show Go _ _ _ _ _ _ _ T17 (mkF m 171 #[.val (.int p0), .val (.int p1), .val (.int p2), .val (.int p3), .val (.int p4), .val (.int (0 : Int32)), .val (.ref b1), .val (.ref b2), .val (.int w), .val (.double (FP.i2d p3)), .second] [])
            refine Go.step (fun _ k => XS.iconst X17.here hx rfl (hb hby at_171) k) ?_
            show Go _ _ _ _ _ _ _ T17 (mkF m 172 #[.val (.int p0), .val (.int p1), .val (.int p2), .val (.int p3), .val (.int p4), .val (.int (0 : Int32)), .val (.ref b1), .val (.ref b2), .val (.int w), .val (.double (FP.i2d p3)), .second] [(.int (1 : Int32))])
            refine Go.step (fun _ k => XS.goto X17.here hx rfl (pc0 := 172) (pc' := 176) rfl (hb hby at_172) (by decide) (by decide) k) ?_
            show Go _ _ _ _ _ _ _ T17 (mkF m 176 #[.val (.int p0), .val (.int p1), .val (.int p2), .val (.int p3), .val (.int p4), .val (.int (0 : Int32)), .val (.ref b1), .val (.ref b2), .val (.int w), .val (.double (FP.i2d p3)), .second] [(.int (1 : Int32))])
            refine Go.retZ X17 hx hlk hret (by decide) (hb hby at_176) (by decide) (by decide) ?_
            try rw [hh17]
            exact ⟨rfl, N17⟩
      · refine Go.step (fun _ k => XS.icmpNo X3.here hx rfl (hb hby at_120) rfl (flt hc120_12).1 k) ?_
        show Go _ _ _ _ _ _ _ T3 (mkF m 123 #[.val (.int p0), .val (.int p1), .val (.int p2), .val (.int p3), .val (.int p4), .val (.int (0 : Int32)), .val (.ref b1), .val (.ref b2), .val (.int w), .unset, .unset] [])
        refine Go.step (fun _ k => XS.dconst0 X3.here hx rfl (hb hby at_123) rfl k) ?_
        show Go _ _ _ _ _ _ _ T3 (mkF m 124 #[.val (.int p0), .val (.int p1), .val (.int p2), .val (.int p3), .val (.int p4), .val (.int (0 : Int32)), .val (.ref b1), .val (.ref b2), .val (.int w), .unset, .unset] [(.double (0 : UInt64))])
        refine Go.step (fun _ k => XS.dstore X3.here hx rfl (hb hby at_124) rfl (l' := #[.val (.int p0), .val (.int p1), .val (.int p2), .val (.int p3), .val (.int p4), .val (.int (0 : Int32)), .val (.ref b1), .val (.ref b2), .val (.int w), .val (.double (0 : UInt64)), .second]) rfl k) ?_
        show Go _ _ _ _ _ _ _ T3 (mkF m 126 #[.val (.int p0), .val (.int p1), .val (.int p2), .val (.int p3), .val (.int p4), .val (.int (0 : Int32)), .val (.ref b1), .val (.ref b2), .val (.int w), .val (.double (0 : UInt64)), .second] [])
        refine Go.step (fun _ k => XS.goto X3.here hx rfl (pc0 := 126) (pc' := 158) rfl (hb hby at_126) (by decide) (by decide) k) ?_
        show Go _ _ _ _ _ _ _ T3 (mkF m 158 #[.val (.int p0), .val (.int p1), .val (.int p2), .val (.int p3), .val (.int p4), .val (.int (0 : Int32)), .val (.ref b1), .val (.ref b2), .val (.int w), .val (.double (0 : UInt64)), .second] [])
        refine Go.step (fun _ k => XS.aload X3.here hx rfl (hb hby at_158) rfl rfl k) ?_
        show Go _ _ _ _ _ _ _ T3 (mkF m 160 #[.val (.int p0), .val (.int p1), .val (.int p2), .val (.int p3), .val (.int p4), .val (.int (0 : Int32)), .val (.ref b1), .val (.ref b2), .val (.int w), .val (.double (0 : UInt64)), .second] [(.ref b2)])
        refine Go.step (fun _ k => XS.iload X3.here hx rfl (hb hby at_160) rfl k) ?_
        show Go _ _ _ _ _ _ _ T3 (mkF m 162 #[.val (.int p0), .val (.int p1), .val (.int p2), .val (.int p3), .val (.int p4), .val (.int (0 : Int32)), .val (.ref b1), .val (.ref b2), .val (.int w), .val (.double (0 : UInt64)), .second] [(.int w), (.ref b2)])
        refine Go.callV X3 hx hZ (by rw [hml]; rfl) (y := (⟨"com/example/leapwise/leapwise/polytope/HalfSpace", "coefficient", "(I)D"⟩ : MethodName)) (z := (⟨"com/example/leapwise/leapwise/polytope/HalfSpace", "coefficient", "(I)D"⟩ : MethodName)) (a := b2) (argsL := [(.int w)]) (rest := []) hown (hw _ (List.mem_of_getElem? (i := 32) rfl)) (hw _ (List.mem_of_getElem? (i := 33) rfl)) (notFace_of_selects (args := #[]) (mvT hZ (hw _ (List.mem_of_getElem? (i := 35) rfl)))) (hw _ (List.mem_of_getElem? (i := 35) rfl)) (hw _ (List.mem_of_getElem? (i := 34) rfl)) (hw _ (List.mem_of_getElem? (i := 3) rfl)) (hw _ (List.mem_of_getElem? (i := 36) rfl)) (by decide) (rm5 l Z a0 hw b2 w c3 (0 : Int32) (fun _ => (0 : UInt64)) T3.heap n0 (Nat.le_trans Z0 (KK3 : Keep h0 T3.heap []).1) Fc3 Vc3 hw0) rfl Ec3 (hb hby at_162) (lenOf pd_3 rfl) rfl rfl (W := 0) (Nat.le_of_eq rfl) (by decide) (by decide) (by decide) (by decide) ?_
        intro v18 T18 L18 X18 Q18
        obtain ⟨rfl, N18q, hh18⟩ := Q18
        have N18 := Fr.app N3 N18q
        show Go _ _ _ _ _ _ _ T18 (mkF m 165 #[.val (.int p0), .val (.int p1), .val (.int p2), .val (.int p3), .val (.int p4), .val (.int (0 : Int32)), .val (.ref b1), .val (.ref b2), .val (.int w), .val (.double (0 : UInt64)), .second] [(.double (slopeW w (0 : Int32) (fun _ => (0 : UInt64))))])
        refine Go.step (fun _ k => XS.dload X18.here hx rfl (hb hby at_165) rfl k) ?_
        show Go _ _ _ _ _ _ _ T18 (mkF m 167 #[.val (.int p0), .val (.int p1), .val (.int p2), .val (.int p3), .val (.int p4), .val (.int (0 : Int32)), .val (.ref b1), .val (.ref b2), .val (.int w), .val (.double (0 : UInt64)), .second] [(.double (0 : UInt64)), (.double (slopeW w (0 : Int32) (fun _ => (0 : UInt64))))])
        refine Go.step (fun _ k => XS.dcmpS X18.here hx rfl (hb hby at_167) rfl rfl k) ?_
        show Go _ _ _ _ _ _ _ T18 (mkF m 168 #[.val (.int p0), .val (.int p1), .val (.int p2), .val (.int p3), .val (.int p4), .val (.int (0 : Int32)), .val (.ref b1), .val (.ref b2), .val (.int w), .val (.double (0 : UInt64)), .second] [(.int (cmpValue (FP.dcmp (slopeW w (0 : Int32) (fun _ => (0 : UInt64))) (0 : UInt64)) .l))])
        refine Go.step (fun _ k => XS.ifNo X18.here hx rfl (hb hby at_168) rfl (eq_y .l (own_sw0 hc120_12)).1 k) ?_
        show Go _ _ _ _ _ _ _ T18 (mkF m 171 #[.val (.int p0), .val (.int p1), .val (.int p2), .val (.int p3), .val (.int p4), .val (.int (0 : Int32)), .val (.ref b1), .val (.ref b2), .val (.int w), .val (.double (0 : UInt64)), .second] [])
        refine Go.step (fun _ k => XS.iconst X18.here hx rfl (hb hby at_171) k) ?_
        show Go _ _ _ _ _ _ _ T18 (mkF m 172 #[.val (.int p0), .val (.int p1), .val (.int p2), .val (.int p3), .val (.int p4), .val (.int (0 : Int32)), .val (.ref b1), .val (.ref b2), .val (.int w), .val (.double (0 : UInt64)), .second] [(.int (1 : Int32))])
        refine Go.step (fun _ k => XS.goto X18.here hx rfl (pc0 := 172) (pc' := 176) rfl (hb hby at_172) (by decide) (by decide) k) ?_
        show Go _ _ _ _ _ _ _ T18 (mkF m 176 #[.val (.int p0), .val (.int p1), .val (.int p2), .val (.int p3), .val (.int p4), .val (.int (0 : Int32)), .val (.ref b1), .val (.ref b2), .val (.int w), .val (.double (0 : UInt64)), .second] [(.int (1 : Int32))])
        refine Go.retZ X18 hx hlk hret (by decide) (hb hby at_176) (by decide) (by decide) ?_
        try rw [hh18]
        exact ⟨rfl, N18⟩
  · show Go _ _ _ _ _ _ _ T0 (mkF m 5 #[.val (.int p0), .val (.int p1), .val (.int p2), .val (.int p3), .val (.int p4), .val (.int (1 : Int32)), .unset, .unset, .unset, .unset, .unset] [])
    refine Go.step (fun _ k => XS.iload X0.here hx rfl (hb hby at_5) rfl k) ?_
    show Go _ _ _ _ _ _ _ T0 (mkF m 7 #[.val (.int p0), .val (.int p1), .val (.int p2), .val (.int p3), .val (.int p4), .val (.int (1 : Int32)), .unset, .unset, .unset, .unset, .unset] [(.int (1 : Int32))])
    obtain ⟨T19, h19, k19, X19, e19, E19, A19, B19, st19⟩ := newPE X0 hx hZ (hw _ (List.mem_of_getElem? (i := 0) rfl)) e0 (g := (mkF m 7 #[.val (.int p0), .val (.int p1), .val (.int p2), .val (.int p3), .val (.int p4), .val (.int (1 : Int32)), .unset, .unset, .unset, .unset, .unset] [(.int (1 : Int32))])) rfl (hb hby at_7) rfl (by decide) (cap := 1) (by decide) (by decide) (by decide) (by decide) (ad := "[D") (by decide)
    obtain ⟨b19, g19⟩ : ∃ z, z = h0.size := ⟨_, rfl⟩
    rw [← g19] at A19 B19 st19
    refine Go.step st19 ?_
    have K19 : Keep h0 h19 [] := (Keep.refl h0 []).ext E19
    have sz_b19 : h0.size ≤ b19 := Nat.le_trans ((Keep.refl h0 []) : Keep h0 h0 []).1 (Nat.le_of_eq g19.symm)
    have ge_b19 : n0 ≤ b19 := Nat.le_trans Z0 sz_b19
    have V_b19 : Dv Z h19 b19 (1 : Int32) (fun _ => (0 : UInt64)) := Fv.new A19 (by decide)
    have E_b19 := B19
    show Go _ _ _ _ _ _ _ T19 (mkF m 9 #[.val (.int p0), .val (.int p1), .val (.int p2), .val (.int p3), .val (.int p4), .val (.int (1 : Int32)), .unset, .unset, .unset, .unset, .unset] [(.ref b19)])
    refine Go.step (fun _ k => XS.astore X19.here hx rfl (hb hby at_9) rfl rfl (l' := #[.val (.int p0), .val (.int p1), .val (.int p2), .val (.int p3), .val (.int p4), .val (.int (1 : Int32)), .val (.ref b19), .unset, .unset, .unset, .unset]) rfl k) ?_
    show Go _ _ _ _ _ _ _ T19 (mkF m 11 #[.val (.int p0), .val (.int p1), .val (.int p2), .val (.int p3), .val (.int p4), .val (.int (1 : Int32)), .val (.ref b19), .unset, .unset, .unset, .unset] [])
    refine Go.step (fun _ k => XS.iload X19.here hx rfl (hb hby at_11) rfl k) ?_
    show Go _ _ _ _ _ _ _ T19 (mkF m 13 #[.val (.int p0), .val (.int p1), .val (.int p2), .val (.int p3), .val (.int p4), .val (.int (1 : Int32)), .val (.ref b19), .unset, .unset, .unset, .unset] [(.int (1 : Int32))])
    refine Go.step (fun _ k => XS.ifNo X19.here hx rfl (hb hby at_13) rfl ((if0 _ _).trans (tlt (by decide : (0 : Int32) < (1 : Int32))).2.2.2) k) ?_
    show Go _ _ _ _ _ _ _ T19 (mkF m 16 #[.val (.int p0), .val (.int p1), .val (.int p2), .val (.int p3), .val (.int p4), .val (.int (1 : Int32)), .val (.ref b19), .unset, .unset, .unset, .unset] [])
    refine Go.step (fun _ k => XS.aload X19.here hx rfl (hb hby at_16) rfl rfl k) ?_
    show Go _ _ _ _ _ _ _ T19 (mkF m 18 #[.val (.int p0), .val (.int p1), .val (.int p2), .val (.int p3), .val (.int p4), .val (.int (1 : Int32)), .val (.ref b19), .unset, .unset, .unset, .unset] [(.ref b19)])
    refine Go.step (fun _ k => XS.iconst X19.here hx rfl (hb hby at_18) k) ?_
    show Go _ _ _ _ _ _ _ T19 (mkF m 19 #[.val (.int p0), .val (.int p1), .val (.int p2), .val (.int p3), .val (.int p4), .val (.int (1 : Int32)), .val (.ref b19), .unset, .unset, .unset, .unset] [(.int (0 : Int32)), (.ref b19)])
    refine Go.step (fun _ k => XS.iloadN X19.here hx rfl (hb hby at_19) rfl k) ?_
    show Go _ _ _ _ _ _ _ T19 (mkF m 20 #[.val (.int p0), .val (.int p1), .val (.int p2), .val (.int p3), .val (.int p4), .val (.int (1 : Int32)), .val (.ref b19), .unset, .unset, .unset, .unset] [(.int p1), (.int (0 : Int32)), (.ref b19)])
    refine Go.step (fun _ k => XS.i2dS X19.here hx rfl (hb hby at_20) rfl rfl k) ?_
    show Go _ _ _ _ _ _ _ T19 (mkF m 21 #[.val (.int p0), .val (.int p1), .val (.int p2), .val (.int p3), .val (.int p4), .val (.int (1 : Int32)), .val (.ref b19), .unset, .unset, .unset, .unset] [(.double (FP.i2d p1)), (.int (0 : Int32)), (.ref b19)])
    refine Go.dastore X19 hx hZ e19 V_b19 (j := (0 : Int32)) (x := (FP.i2d p1)) (by decide) (hb hby at_21) ?_
    intro T20 h20 X20 e20 W20 Vn20
    have V_b19_20 : Dv Z h20 b19 (1 : Int32) (updN (fun _ => (0 : UInt64)) 0 (FP.i2d p1)) := Vn20
    have N20 := Fr.snoc X20 N0 ge_b19
    have E_b19_20 := E_b19.wr W20
    have K20 : Keep h0 h20 [] := K19.wr W20 (Or.inr sz_b19)
    show Go _ _ _ _ _ _ _ T20 (mkF m 22 #[.val (.int p0), .val (.int p1), .val (.int p2), .val (.int p3), .val (.int p4), .val (.int (1 : Int32)), .val (.ref b19), .unset, .unset, .unset, .unset] [])
    refine Go.step (fun _ k => XS.iload X20.here hx rfl (hb hby at_22) rfl k) ?_
    show Go _ _ _ _ _ _ _ T20 (mkF m 24 #[.val (.int p0), .val (.int p1), .val (.int p2), .val (.int p3), .val (.int p4), .val (.int (1 : Int32)), .val (.ref b19), .unset, .unset, .unset, .unset] [(.int (1 : Int32))])
    refine Go.step (fun _ k => XS.iconst X20.here hx rfl (hb hby at_24) k) ?_
    show Go _ _ _ _ _ _ _ T20 (mkF m 25 #[.val (.int p0), .val (.int p1), .val (.int p2), .val (.int p3), .val (.int p4), .val (.int (1 : Int32)), .val (.ref b19), .unset, .unset, .unset, .unset] [(.int (1 : Int32)), (.int (1 : Int32))])
    refine Go.step (fun _ k => XS.icmpYes X20.here hx rfl (pc0 := 25) (pc' := 34) rfl (hb hby at_25) rfl (flt (by decide : ¬ ((1 : Int32) < (1 : Int32)))).2.2.2 (by decide) (by decide) k) ?_
    show Go _ _ _ _ _ _ _ T20 (mkF m 34 #[.val (.int p0), .val (.int p1), .val (.int p2), .val (.int p3), .val (.int p4), .val (.int (1 : Int32)), .val (.ref b19), .unset, .unset, .unset, .unset] [])
    refine Go.step (fun _ k => XS.iload X20.here hx rfl (hb hby at_34) rfl k) ?_
    show Go _ _ _ _ _ _ _ T20 (mkF m 36 #[.val (.int p0), .val (.int p1), .val (.int p2), .val (.int p3), .val (.int p4), .val (.int (1 : Int32)), .val (.ref b19), .unset, .unset, .unset, .unset] [(.int (1 : Int32))])
    refine Go.step (fun _ k => XS.iconst X20.here hx rfl (hb hby at_36) k) ?_
    show Go _ _ _ _ _ _ _ T20 (mkF m 37 #[.val (.int p0), .val (.int p1), .val (.int p2), .val (.int p3), .val (.int p4), .val (.int (1 : Int32)), .val (.ref b19), .unset, .unset, .unset, .unset] [(.int (2 : Int32)), (.int (1 : Int32))])
    refine Go.step (fun _ k => XS.icmpYes X20.here hx rfl (pc0 := 37) (pc' := 46) rfl (hb hby at_37) rfl (flt (by decide : ¬ ((2 : Int32) < (1 : Int32)))).2.2.2 (by decide) (by decide) k) ?_
    show Go _ _ _ _ _ _ _ T20 (mkF m 46 #[.val (.int p0), .val (.int p1), .val (.int p2), .val (.int p3), .val (.int p4), .val (.int (1 : Int32)), .val (.ref b19), .unset, .unset, .unset, .unset] [])
    obtain ⟨T21, h21, X21, e21, E21, A21, D21, -, st21⟩ := newO X20 hx hZ hown (hw _ (List.mem_of_getElem? (i := 1) rfl)) (hw _ (List.mem_of_getElem? (i := 2) rfl)) (hw _ (List.mem_of_getElem? (i := 3) rfl)) e20 (g := (mkF m 46 #[.val (.int p0), .val (.int p1), .val (.int p2), .val (.int p3), .val (.int p4), .val (.int (1 : Int32)), .val (.ref b19), .unset, .unset, .unset, .unset] [])) rfl (hb hby at_46) (by decide) (by decide)
    obtain ⟨b21, g21⟩ : ∃ z, z = h20.size := ⟨_, rfl⟩
    rw [← g21] at A21 D21 st21
    refine Go.step st21 ?_
    have K21 : Keep h0 h21 [] := K20.ext E21
    have sz_b21 : h0.size ≤ b21 := Nat.le_trans (K20 : Keep h0 h20 []).1 (Nat.le_of_eq g21.symm)
    have ge_b21 : n0 ≤ b21 := Nat.le_trans Z0 sz_b21
    have ne_b19_b21 : b19 ≠ b21 := Nat.ne_of_lt (Nat.lt_of_lt_of_le V_b19_20.lt (Nat.le_of_eq g21.symm))
    have V_b19_21 := V_b19_20.ext E21
    have E_b19_21 := E_b19_20.ext E21
    have E_b21 := A21
    have F_coefficients_b21 : Fld Z h21 b21 "com/example/leapwise/leapwise/polytope/HalfSpace" "coefficients" "[D" .null := D21 (Or.inr (hw _ (List.mem_of_getElem? (i := 29) rfl))) (ty := (.array .double)) (by decide)
    have F_bound_b21 : Fld Z h21 b21 "com/example/leapwise/leapwise/polytope/HalfSpace" "bound" "D" (.double (0 : UInt64)) := D21 (Or.inr (hw _ (List.mem_of_getElem? (i := 31) rfl))) (ty := .double) (by decide)
    show Go _ _ _ _ _ _ _ T21 (mkF m 49 #[.val (.int p0), .val (.int p1), .val (.int p2), .val (.int p3), .val (.int p4), .val (.int (1 : Int32)), .val (.ref b19), .unset, .unset, .unset, .unset] [(.ref b21)])
    refine Go.step (fun _ k => XS.dup X21.here hx rfl (hb hby at_49) rfl rfl k) ?_
    show Go _ _ _ _ _ _ _ T21 (mkF m 50 #[.val (.int p0), .val (.int p1), .val (.int p2), .val (.int p3), .val (.int p4), .val (.int (1 : Int32)), .val (.ref b19), .unset, .unset, .unset, .unset] [(.ref b21), (.ref b21)])
    refine Go.step (fun _ k => XS.aload X21.here hx rfl (hb hby at_50) rfl rfl k) ?_
    show Go _ _ _ _ _ _ _ T21 (mkF m 52 #[.val (.int p0), .val (.int p1), .val (.int p2), .val (.int p3), .val (.int p4), .val (.int (1 : Int32)), .val (.ref b19), .unset, .unset, .unset, .unset] [(.ref b19), (.ref b21), (.ref b21)])
    refine Go.step (fun _ k => XS.dconst0 X21.here hx rfl (hb hby at_52) rfl k) ?_
    show Go _ _ _ _ _ _ _ T21 (mkF m 53 #[.val (.int p0), .val (.int p1), .val (.int p2), .val (.int p3), .val (.int p4), .val (.int (1 : Int32)), .val (.ref b19), .unset, .unset, .unset, .unset] [(.double (0 : UInt64)), (.ref b19), (.ref b21), (.ref b21)])
    refine Go.callI X21 hx hZ (by rw [hml]; rfl) (y := (⟨"com/example/leapwise/leapwise/polytope/HalfSpace", "<init>", "([DD)V"⟩ : MethodName)) (a := b21) (argsL := [(.ref b19), (.double (0 : UInt64))]) (rest := [(.ref b21)]) rfl hown (hw _ (List.mem_of_getElem? (i := 4) rfl)) (hw _ (List.mem_of_getElem? (i := 5) rfl)) (hw _ (List.mem_of_getElem? (i := 3) rfl)) (hw _ (List.mem_of_getElem? (i := 6) rfl)) (by decide) (rm1_1 l Z a0 hw b21 b19 (updN (fun _ => (0 : UInt64)) 0 (FP.i2d p1)) h21 n0 (Nat.le_trans Z0 (K21 : Keep h0 h21 []).1) E_b21 F_coefficients_b21 F_bound_b21 E_b19_21 V_b19_21 ge_b21 (Ne.symm ne_b19_b21) (fun i hi' => by rcases (by omega : i = 0) with rfl <;> exact Jvm.Free.Fl.i2d_fin _)) e21 (hb hby at_53) (lenOf pd_2 rfl) rfl rfl (W := 1) (Nat.le_of_eq rfl) (by decide) (by decide) (by decide) (by decide) ?_
    intro v22 T22 L22 X22 Q22
    obtain ⟨rfl, N22q, Kc22, Ec22, c22, Fc22, Vc22, sc22⟩ := Q22
    have N22 := Fr.app N20 N22q
    have ne_b19_c22 : b19 ≠ c22 := Nat.ne_of_lt (Nat.lt_of_lt_of_le V_b19_21.lt sc22)
    have V_b19_22 := V_b19_21.keep Kc22 (ninS ne_b19_b21 nin0)
    have E_b19_22 := E_b19_21.keep Kc22
    have E_b21_22 := E_b21.keep Kc22
    have KK22 : Keep h0 T22.heap [] := (K21 : Keep h0 h21 []).trans Kc22 (allS (Or.inr sz_b21) all0)
    show Go _ _ _ _ _ _ _ T22 (mkF m 56 #[.val (.int p0), .val (.int p1), .val (.int p2), .val (.int p3), .val (.int p4), .val (.int (1 : Int32)), .val (.ref b19), .unset, .unset, .unset, .unset] [(.ref b21)])
    refine Go.step (fun _ k => XS.astore X22.here hx rfl (hb hby at_56) rfl rfl (l' := #[.val (.int p0), .val (.int p1), .val (.int p2), .val (.int p3), .val (.int p4), .val (.int (1 : Int32)), .val (.ref b19), .val (.ref b21), .unset, .unset, .unset]) rfl k) ?_
    show Go _ _ _ _ _ _ _ T22 (mkF m 58 #[.val (.int p0), .val (.int p1), .val (.int p2), .val (.int p3), .val (.int p4), .val (.int (1 : Int32)), .val (.ref b19), .val (.ref b21), .unset, .unset, .unset] [])
    refine Go.step (fun _ k => XS.iload X22.here hx rfl (hb hby at_58) rfl k) ?_
    show Go _ _ _ _ _ _ _ T22 (mkF m 60 #[.val (.int p0), .val (.int p1), .val (.int p2), .val (.int p3), .val (.int p4), .val (.int (1 : Int32)), .val (.ref b19), .val (.ref b21), .unset, .unset, .unset] [(.int (1 : Int32))])
    refine Go.step (fun _ k => XS.ifNo X22.here hx rfl (hb hby at_60) rfl ((if0 _ _).trans (tlt (by decide : (0 : Int32) < (1 : Int32))).2.2.2) k) ?_
    show Go _ _ _ _ _ _ _ T22 (mkF m 63 #[.val (.int p0), .val (.int p1), .val (.int p2), .val (.int p3), .val (.int p4), .val (.int (1 : Int32)), .val (.ref b19), .val (.ref b21), .unset, .unset, .unset] [])
    refine Go.step (fun _ k => XS.aload X22.here hx rfl (hb hby at_63) rfl rfl k) ?_
    show Go _ _ _ _ _ _ _ T22 (mkF m 65 #[.val (.int p0), .val (.int p1), .val (.int p2), .val (.int p3), .val (.int p4), .val (.int (1 : Int32)), .val (.ref b19), .val (.ref b21), .unset, .unset, .unset] [(.ref b19)])
    refine Go.step (fun _ k => XS.iconst X22.here hx rfl (hb hby at_65) k) ?_
    show Go _ _ _ _ _ _ _ T22 (mkF m 66 #[.val (.int p0), .val (.int p1), .val (.int p2), .val (.int p3), .val (.int p4), .val (.int (1 : Int32)), .val (.ref b19), .val (.ref b21), .unset, .unset, .unset] [(.int (0 : Int32)), (.ref b19)])
    refine Go.step (X22.ldc2DoubleC hx hown (mvT hZ (hw _ (List.mem_of_getElem? (i := 37) rfl))) (g := (mkF m 66 #[.val (.int p0), .val (.int p1), .val (.int p2), .val (.int p3), .val (.int p4), .val (.int (1 : Int32)), .val (.ref b19), .val (.ref b21), .unset, .unset, .unset] [(.int (0 : Int32)), (.ref b19)])) rfl (hb hby at_66)) ?_
    show Go _ _ _ _ _ _ _ T22 (mkF m 69 #[.val (.int p0), .val (.int p1), .val (.int p2), .val (.int p3), .val (.int p4), .val (.int (1 : Int32)), .val (.ref b19), .val (.ref b21), .unset, .unset, .unset] [(.double (4602678819172646912 : UInt64)), (.int (0 : Int32)), (.ref b19)])
    refine Go.dastore X22 hx hZ rfl V_b19_22 (j := (0 : Int32)) (x := (4602678819172646912 : UInt64)) (by decide) (hb hby at_69) ?_
    intro T23 h23 X23 e23 W23 Vn23
    have V_b19_23 : Dv Z h23 b19 (1 : Int32) (updN (updN (fun _ => (0 : UInt64)) 0 (FP.i2d p1)) 0 (4602678819172646912 : UInt64)) := Vn23
    have N23 := Fr.snoc X23 N22 ge_b19
    have E_b19_23 := E_b19_22.wr W23
    have Ec22_23 := Ec22.wr W23
    have Fc22_23 := Fc22.other W23 (Or.inl (Ne.symm ne_b19_b21))
    have Vc22_23 := Vc22.other W23 (Ne.symm ne_b19_c22)
    have K23 : Keep h0 h23 [] := KK22.wr W23 (Or.inr sz_b19)
    show Go _ _ _ _ _ _ _ T23 (mkF m 70 #[.val (.int p0), .val (.int p1), .val (.int p2), .val (.int p3), .val (.int p4), .val (.int (1 : Int32)), .val (.ref b19), .val (.ref b21), .unset, .unset, .unset] [])
    refine Go.step (fun _ k => XS.iload X23.here hx rfl (hb hby at_70) rfl k) ?_
    show Go _ _ _ _ _ _ _ T23 (mkF m 72 #[.val (.int p0), .val (.int p1), .val (.int p2), .val (.int p3), .val (.int p4), .val (.int (1 : Int32)), .val (.ref b19), .val (.ref b21), .unset, .unset, .unset] [(.int (1 : Int32))])
    refine Go.step (fun _ k => XS.iconst X23.here hx rfl (hb hby at_72) k) ?_
    show Go _ _ _ _ _ _ _ T23 (mkF m 73 #[.val (.int p0), .val (.int p1), .val (.int p2), .val (.int p3), .val (.int p4), .val (.int (1 : Int32)), .val (.ref b19), .val (.ref b21), .unset, .unset, .unset] [(.int (1 : Int32)), (.int (1 : Int32))])
    refine Go.step (fun _ k => XS.icmpYes X23.here hx rfl (pc0 := 73) (pc' := 83) rfl (hb hby at_73) rfl (flt (by decide : ¬ ((1 : Int32) < (1 : Int32)))).2.2.2 (by decide) (by decide) k) ?_
    show Go _ _ _ _ _ _ _ T23 (mkF m 83 #[.val (.int p0), .val (.int p1), .val (.int p2), .val (.int p3), .val (.int p4), .val (.int (1 : Int32)), .val (.ref b19), .val (.ref b21), .unset, .unset, .unset] [])
    refine Go.step (fun _ k => XS.iload X23.here hx rfl (hb hby at_83) rfl k) ?_
    show Go _ _ _ _ _ _ _ T23 (mkF m 85 #[.val (.int p0), .val (.int p1), .val (.int p2), .val (.int p3), .val (.int p4), .val (.int (1 : Int32)), .val (.ref b19), .val (.ref b21), .unset, .unset, .unset] [(.int (1 : Int32))])
    refine Go.step (fun _ k => XS.iconst X23.here hx rfl (hb hby at_85) k) ?_
    show Go _ _ _ _ _ _ _ T23 (mkF m 86 #[.val (.int p0), .val (.int p1), .val (.int p2), .val (.int p3), .val (.int p4), .val (.int (1 : Int32)), .val (.ref b19), .val (.ref b21), .unset, .unset, .unset] [(.int (2 : Int32)), (.int (1 : Int32))])
    refine Go.step (fun _ k => XS.icmpYes X23.here hx rfl (pc0 := 86) (pc' := 96) rfl (hb hby at_86) rfl (flt (by decide : ¬ ((2 : Int32) < (1 : Int32)))).2.2.2 (by decide) (by decide) k) ?_
    show Go _ _ _ _ _ _ _ T23 (mkF m 96 #[.val (.int p0), .val (.int p1), .val (.int p2), .val (.int p3), .val (.int p4), .val (.int (1 : Int32)), .val (.ref b19), .val (.ref b21), .unset, .unset, .unset] [])
    refine Go.step (fun _ k => XS.iloadN X23.here hx rfl (hb hby at_96) rfl k) ?_
    show Go _ _ _ _ _ _ _ T23 (mkF m 97 #[.val (.int p0), .val (.int p1), .val (.int p2), .val (.int p3), .val (.int p4), .val (.int (1 : Int32)), .val (.ref b19), .val (.ref b21), .unset, .unset, .unset] [(.int p0)])
    refine Go.step (fun _ k => XS.iconst X23.here hx rfl (hb hby at_97) k) ?_
    show Go _ _ _ _ _ _ _ T23 (mkF m 98 #[.val (.int p0), .val (.int p1), .val (.int p2), .val (.int p3), .val (.int p4), .val (.int (1 : Int32)), .val (.ref b19), .val (.ref b21), .unset, .unset, .unset] [(.int (4 : Int32)), (.int p0)])
    refine Go.step (fun _ k => XS.iand X23.here hx rfl (hb hby at_98) rfl k) ?_
    show Go _ _ _ _ _ _ _ T23 (mkF m 99 #[.val (.int p0), .val (.int p1), .val (.int p2), .val (.int p3), .val (.int p4), .val (.int (1 : Int32)), .val (.ref b19), .val (.ref b21), .unset, .unset, .unset] [(.int (p0 &&& (4 : Int32)))])
    by_cases hc99_24 : (p0 &&& (4 : Int32)) = (0 : Int32)
    · refine Go.step (fun _ k => XS.ifYes X23.here hx rfl (pc0 := 99) (pc' := 110) rfl (hb hby at_99) rfl ((if0 _ _).trans (teq hc99_24).1) (by decide) (by decide) k) ?_
      show Go _ _ _ _ _ _ _ T23 (mkF m 110 #[.val (.int p0), .val (.int p1), .val (.int p2), .val (.int p3), .val (.int p4), .val (.int (1 : Int32)), .val (.ref b19), .val (.ref b21), .unset, .unset, .unset] [])
      refine Go.step (fun _ k => XS.iload X23.here hx rfl (hb hby at_110) rfl k) ?_
      show Go _ _ _ _ _ _ _ T23 (mkF m 112 #[.val (.int p0), .val (.int p1), .val (.int p2), .val (.int p3), .val (.int p4), .val (.int (1 : Int32)), .val (.ref b19), .val (.ref b21), .unset, .unset, .unset] [(.int p4)])
      refine Go.step (fun _ k => XS.iconst X23.here hx rfl (hb hby at_112) k) ?_
      show Go _ _ _ _ _ _ _ T23 (mkF m 113 #[.val (.int p0), .val (.int p1), .val (.int p2), .val (.int p3), .val (.int p4), .val (.int (1 : Int32)), .val (.ref b19), .val (.ref b21), .unset, .unset, .unset] [(.int (3 : Int32)), (.int p4)])
      refine Go.step (fun _ k => XS.iand X23.here hx rfl (hb hby at_113) rfl k) ?_
      show Go _ _ _ _ _ _ _ T23 (mkF m 114 #[.val (.int p0), .val (.int p1), .val (.int p2), .val (.int p3), .val (.int p4), .val (.int (1 : Int32)), .val (.ref b19), .val (.ref b21), .unset, .unset, .unset] [(.int (p4 &&& (3 : Int32)))])
      refine Go.step (fun _ k => XS.istore X23.here hx rfl (hb hby at_114) rfl (l' := #[.val (.int p0), .val (.int p1), .val (.int p2), .val (.int p3), .val (.int p4), .val (.int (1 : Int32)), .val (.ref b19), .val (.ref b21), .val (.int (p4 &&& (3 : Int32))), .unset, .unset]) rfl k) ?_
      have hw0 := own_v2 p4
      obtain ⟨w, h_w⟩ : ∃ z, z = (p4 &&& (3 : Int32)) := ⟨_, rfl⟩
      rw [← h_w]
      rw [← h_w] at hw0
      show Go _ _ _ _ _ _ _ T23 (mkF m 116 #[.val (.int p0), .val (.int p1), .val (.int p2), .val (.int p3), .val (.int p4), .val (.int (1 : Int32)), .val (.ref b19), .val (.ref b21), .val (.int w), .unset, .unset] [])
      refine Go.step (fun _ k => XS.iload X23.here hx rfl (hb hby at_116) rfl k) ?_
      show Go _ _ _ _ _ _ _ T23 (mkF m 118 #[.val (.int p0), .val (.int p1), .val (.int p2), .val (.int p3), .val (.int p4), .val (.int (1 : Int32)), .val (.ref b19), .val (.ref b21), .val (.int w), .unset, .unset] [(.int w)])
      refine Go.step (fun _ k => XS.iload X23.here hx rfl (hb hby at_118) rfl k) ?_
      show Go _ _ _ _ _ _ _ T23 (mkF m 120 #[.val (.int p0), .val (.int p1), .val (.int p2), .val (.int p3), .val (.int p4), .val (.int (1 : Int32)), .val (.ref b19), .val (.ref b21), .val (.int w), .unset, .unset] [(.int (1 : Int32)), (.int w)])
      by_cases hc120_25 : w < (1 : Int32)
      · refine Go.step (fun _ k => XS.icmpYes X23.here hx rfl (pc0 := 120) (pc' := 129) rfl (hb hby at_120) rfl (tlt hc120_25).1 (by decide) (by decide) k) ?_
        show Go _ _ _ _ _ _ _ T23 (mkF m 129 #[.val (.int p0), .val (.int p1), .val (.int p2), .val (.int p3), .val (.int p4), .val (.int (1 : Int32)), .val (.ref b19), .val (.ref b21), .val (.int w), .unset, .unset] [])
        refine Go.step (fun _ k => XS.iload X23.here hx rfl (hb hby at_129) rfl k) ?_
        show Go _ _ _ _ _ _ _ T23 (mkF m 131 #[.val (.int p0), .val (.int p1), .val (.int p2), .val (.int p3), .val (.int p4), .val (.int (1 : Int32)), .val (.ref b19), .val (.ref b21), .val (.int w), .unset, .unset] [(.int w)])
        by_cases hc131_26 : w = (0 : Int32)
        · refine Go.step (fun _ k => XS.ifNo X23.here hx rfl (hb hby at_131) rfl ((if0 _ _).trans (teq hc131_26).2) k) ?_
          show Go _ _ _ _ _ _ _ T23 (mkF m 134 #[.val (.int p0), .val (.int p1), .val (.int p2), .val (.int p3), .val (.int p4), .val (.int (1 : Int32)), .val (.ref b19), .val (.ref b21), .val (.int w), .unset, .unset] [])
          refine Go.step (fun _ k => XS.iloadN X23.here hx rfl (hb hby at_134) rfl k) ?_
          show Go _ _ _ _ _ _ _ T23 (mkF m 135 #[.val (.int p0), .val (.int p1), .val (.int p2), .val (.int p3), .val (.int p4), .val (.int (1 : Int32)), .val (.ref b19), .val (.ref b21), .val (.int w), .unset, .unset] [(.int p1)])
          refine Go.step (fun _ k => XS.i2dS X23.here hx rfl (hb hby at_135) rfl rfl k) ?_
          show Go _ _ _ _ _ _ _ T23 (mkF m 136 #[.val (.int p0), .val (.int p1), .val (.int p2), .val (.int p3), .val (.int p4), .val (.int (1 : Int32)), .val (.ref b19), .val (.ref b21), .val (.int w), .unset, .unset] [(.double (FP.i2d p1))])
          refine Go.step (fun _ k => XS.dstore X23.here hx rfl (hb hby at_136) rfl (l' := #[.val (.int p0), .val (.int p1), .val (.int p2), .val (.int p3), .val (.int p4), .val (.int (1 : Int32)), .val (.ref b19), .val (.ref b21), .val (.int w), .val (.double (FP.i2d p1)), .second]) rfl k) ?_
          show Go _ _ _ _ _ _ _ T23 (mkF m 138 #[.val (.int p0), .val (.int p1), .val (.int p2), .val (.int p3), .val (.int p4), .val (.int (1 : Int32)), .val (.ref b19), .val (.ref b21), .val (.int w), .val (.double (FP.i2d p1)), .second] [])
          refine Go.step (fun _ k => XS.goto X23.here hx rfl (pc0 := 138) (pc' := 158) rfl (hb hby at_138) (by decide) (by decide) k) ?_
          show Go _ _ _ _ _ _ _ T23 (mkF m 158 #[.val (.int p0), .val (.int p1), .val (.int p2), .val (.int p3), .val (.int p4), .val (.int (1 : Int32)), .val (.ref b19), .val (.ref b21), .val (.int w), .val (.double (FP.i2d p1)), .second] [])
          refine Go.step (fun _ k => XS.aload X23.here hx rfl (hb hby at_158) rfl rfl k) ?_
          show Go _ _ _ _ _ _ _ T23 (mkF m 160 #[.val (.int p0), .val (.int p1), .val (.int p2), .val (.int p3), .val (.int p4), .val (.int (1 : Int32)), .val (.ref b19), .val (.ref b21), .val (.int w), .val (.double (FP.i2d p1)), .second] [(.ref b21)])
          refine Go.step (fun _ k => XS.iload X23.here hx rfl (hb hby at_160) rfl k) ?_
          show Go _ _ _ _ _ _ _ T23 (mkF m 162 #[.val (.int p0), .val (.int p1), .val (.int p2), .val (.int p3), .val (.int p4), .val (.int (1 : Int32)), .val (.ref b19), .val (.ref b21), .val (.int w), .val (.double (FP.i2d p1)), .second] [(.int w), (.ref b21)])
          refine Go.callV X23 hx hZ (by rw [hml]; rfl) (y := (⟨"com/example/leapwise/leapwise/polytope/HalfSpace", "coefficient", "(I)D"⟩ : MethodName)) (z := (⟨"com/example/leapwise/leapwise/polytope/HalfSpace", "coefficient", "(I)D"⟩ : MethodName)) (a := b21) (argsL := [(.int w)]) (rest := []) hown (hw _ (List.mem_of_getElem? (i := 32) rfl)) (hw _ (List.mem_of_getElem? (i := 33) rfl)) (notFace_of_selects (args := #[]) (mvT hZ (hw _ (List.mem_of_getElem? (i := 35) rfl)))) (hw _ (List.mem_of_getElem? (i := 35) rfl)) (hw _ (List.mem_of_getElem? (i := 34) rfl)) (hw _ (List.mem_of_getElem? (i := 3) rfl)) (hw _ (List.mem_of_getElem? (i := 36) rfl)) (by decide) (rm5 l Z a0 hw b21 w c22 (1 : Int32) (updN (fun _ => (0 : UInt64)) 0 (FP.i2d p1)) h23 n0 (Nat.le_trans Z0 (K23 : Keep h0 h23 []).1) Fc22_23 Vc22_23 hw0) e23 Ec22_23 (hb hby at_162) (lenOf pd_3 rfl) rfl rfl (W := 0) (Nat.le_of_eq rfl) (by decide) (by decide) (by decide) (by decide) ?_
          intro v27 T27 L27 X27 Q27
          obtain ⟨rfl, N27q, hh27⟩ := Q27
          have N27 := Fr.app N23 N27q
          show Go _ _ _ _ _ _ _ T27 (mkF m 165 #[.val (.int p0), .val (.int p1), .val (.int p2), .val (.int p3), .val (.int p4), .val (.int (1 : Int32)), .val (.ref b19), .val (.ref b21), .val (.int w), .val (.double (FP.i2d p1)), .second] [(.double (slopeW w (1 : Int32) (updN (fun _ => (0 : UInt64)) 0 (FP.i2d p1))))])
          refine Go.step (fun _ k => XS.dload X27.here hx rfl (hb hby at_165) rfl k) ?_
          show Go _ _ _ _ _ _ _ T27 (mkF m 167 #[.val (.int p0), .val (.int p1), .val (.int p2), .val (.int p3), .val (.int p4), .val (.int (1 : Int32)), .val (.ref b19), .val (.ref b21), .val (.int w), .val (.double (FP.i2d p1)), .second] [(.double (FP.i2d p1)), (.double (slopeW w (1 : Int32) (updN (fun _ => (0 : UInt64)) 0 (FP.i2d p1))))])
          refine Go.step (fun _ k => XS.dcmpS X27.here hx rfl (hb hby at_167) rfl rfl k) ?_
          show Go _ _ _ _ _ _ _ T27 (mkF m 168 #[.val (.int p0), .val (.int p1), .val (.int p2), .val (.int p3), .val (.int p4), .val (.int (1 : Int32)), .val (.ref b19), .val (.ref b21), .val (.int w), .val (.double (FP.i2d p1)), .second] [(.int (cmpValue (FP.dcmp (slopeW w (1 : Int32) (updN (fun _ => (0 : UInt64)) 0 (FP.i2d p1))) (FP.i2d p1)) .l))])
          refine Go.step (fun _ k => XS.ifNo X27.here hx rfl (hb hby at_168) rfl (eq_y .l (own_eqI (own_sw hc120_25 hc131_26 rfl))).1 k) ?_
          show Go _ _ _ _ _ _ _ T27 (mkF m 171 #[.val (.int p0), .val (.int p1), .val (.int p2), .val (.int p3), .val (.int p4), .val (.int (1 : Int32)), .val (.ref b19), .val (.ref b21), .val (.int w), .val (.double (FP.i2d p1)), .second] [])
          refine Go.step (fun _ k => XS.iconst X27.here hx rfl (hb hby at_171) k) ?_
          show Go _ _ _ _ _ _ _ T27 (mkF m 172 #[.val (.int p0), .val (.int p1), .val (.int p2), .val (.int p3), .val (.int p4), .val (.int (1 : Int32)), .val (.ref b19), .val (.ref b21), .val (.int w), .val (.double (FP.i2d p1)), .second] [(.int (1 : Int32))])
          refine Go.step (fun _ k => XS.goto X27.here hx rfl (pc0 := 172) (pc' := 176) rfl (hb hby at_172) (by decide) (by decide) k) ?_
          show Go _ _ _ _ _ _ _ T27 (mkF m 176 #[.val (.int p0), .val (.int p1), .val (.int p2), .val (.int p3), .val (.int p4), .val (.int (1 : Int32)), .val (.ref b19), .val (.ref b21), .val (.int w), .val (.double (FP.i2d p1)), .second] [(.int (1 : Int32))])
          refine Go.retZ X27 hx hlk hret (by decide) (hb hby at_176) (by decide) (by decide) ?_
          try rw [hh27]
          exact ⟨rfl, N27⟩
        · refine Go.step (fun _ k => XS.ifYes X23.here hx rfl (pc0 := 131) (pc' := 141) rfl (hb hby at_131) rfl ((if0 _ _).trans (feq hc131_26).2) (by decide) (by decide) k) ?_
          show Go _ _ _ _ _ _ _ T23 (mkF m 141 #[.val (.int p0), .val (.int p1), .val (.int p2), .val (.int p3), .val (.int p4), .val (.int (1 : Int32)), .val (.ref b19), .val (.ref b21), .val (.int w), .unset, .unset] [])
          refine Go.step (fun _ k => XS.iload X23.here hx rfl (hb hby at_141) rfl k) ?_
          show Go _ _ _ _ _ _ _ T23 (mkF m 143 #[.val (.int p0), .val (.int p1), .val (.int p2), .val (.int p3), .val (.int p4), .val (.int (1 : Int32)), .val (.ref b19), .val (.ref b21), .val (.int w), .unset, .unset] [(.int w)])
          refine Go.step (fun _ k => XS.iconst X23.here hx rfl (hb hby at_143) k) ?_
          show Go _ _ _ _ _ _ _ T23 (mkF m 144 #[.val (.int p0), .val (.int p1), .val (.int p2), .val (.int p3), .val (.int p4), .val (.int (1 : Int32)), .val (.ref b19), .val (.ref b21), .val (.int w), .unset, .unset] [(.int (1 : Int32)), (.int w)])
          by_cases hc144_28 : w = (1 : Int32)
          · refine Go.step (fun _ k => XS.icmpNo X23.here hx rfl (hb hby at_144) rfl (teq hc144_28).2 k) ?_
            show Go _ _ _ _ _ _ _ T23 (mkF m 147 #[.val (.int p0), .val (.int p1), .val (.int p2), .val (.int p3), .val (.int p4), .val (.int (1 : Int32)), .val (.ref b19), .val (.ref b21), .val (.int w), .unset, .unset] [])
            refine Go.step (fun _ k => XS.iloadN X23.here hx rfl (hb hby at_147) rfl k) ?_
            show Go _ _ _ _ _ _ _ T23 (mkF m 148 #[.val (.int p0), .val (.int p1), .val (.int p2), .val (.int p3), .val (.int p4), .val (.int (1 : Int32)), .val (.ref b19), .val (.ref b21), .val (.int w), .unset, .unset] [(.int p2)])
            refine Go.step (fun _ k => XS.i2dS X23.here hx rfl (hb hby at_148) rfl rfl k) ?_
            show Go _ _ _ _ _ _ _ T23 (mkF m 149 #[.val (.int p0), .val (.int p1), .val (.int p2), .val (.int p3), .val (.int p4), .val (.int (1 : Int32)), .val (.ref b19), .val (.ref b21), .val (.int w), .unset, .unset] [(.double (FP.i2d p2))])
            refine Go.step (fun _ k => XS.dstore X23.here hx rfl (hb hby at_149) rfl (l' := #[.val (.int p0), .val (.int p1), .val (.int p2), .val (.int p3), .val (.int p4), .val (.int (1 : Int32)), .val (.ref b19), .val (.ref b21), .val (.int w), .val (.double (FP.i2d p2)), .second]) rfl k) ?_
            show Go _ _ _ _ _ _ _ T23 (mkF m 151 #[.val (.int p0), .val (.int p1), .val (.int p2), .val (.int p3), .val (.int p4), .val (.int (1 : Int32)), .val (.ref b19), .val (.ref b21), .val (.int w), .val (.double (FP.i2d p2)), .second] [])
            refine Go.step (fun _ k => XS.goto X23.here hx rfl (pc0 := 151) (pc' := 158) rfl (hb hby at_151) (by decide) (by decide) k) ?_
            show Go _ _ _ _ _ _ _ T23 (mkF m 158 #[.val (.int p0), .val (.int p1), .val (.int p2), .val (.int p3), .val (.int p4), .val (.int (1 : Int32)), .val (.ref b19), .val (.ref b21), .val (.int w), .val (.double (FP.i2d p2)), .second] [])
            refine Go.step (fun _ k => XS.aload X23.here hx rfl (hb hby at_158) rfl rfl k) ?_
            show Go _ _ _ _ _ _ _ T23 (mkF m 160 #[.val (.int p0), .val (.int p1), .val (.int p2), .val (.int p3), .val (.int p4), .val (.int (1 : Int32)), .val (.ref b19), .val (.ref b21), .val (.int w), .val (.double (FP.i2d p2)), .second] [(.ref b21)])
            refine Go.step (fun _ k => XS.iload X23.here hx rfl (hb hby at_160) rfl k) ?_
            show Go _ _ _ _ _ _ _ T23 (mkF m 162 #[.val (.int p0), .val (.int p1), .val (.int p2), .val (.int p3), .val (.int p4), .val (.int (1 : Int32)), .val (.ref b19), .val (.ref b21), .val (.int w), .val (.double (FP.i2d p2)), .second] [(.int w), (.ref b21)])
            refine Go.callV X23 hx hZ (by rw [hml]; rfl) (y := (⟨"com/example/leapwise/leapwise/polytope/HalfSpace", "coefficient", "(I)D"⟩ : MethodName)) (z := (⟨"com/example/leapwise/leapwise/polytope/HalfSpace", "coefficient", "(I)D"⟩ : MethodName)) (a := b21) (argsL := [(.int w)]) (rest := []) hown (hw _ (List.mem_of_getElem? (i := 32) rfl)) (hw _ (List.mem_of_getElem? (i := 33) rfl)) (notFace_of_selects (args := #[]) (mvT hZ (hw _ (List.mem_of_getElem? (i := 35) rfl)))) (hw _ (List.mem_of_getElem? (i := 35) rfl)) (hw _ (List.mem_of_getElem? (i := 34) rfl)) (hw _ (List.mem_of_getElem? (i := 3) rfl)) (hw _ (List.mem_of_getElem? (i := 36) rfl)) (by decide) (rm5 l Z a0 hw b21 w c22 (1 : Int32) (updN (fun _ => (0 : UInt64)) 0 (FP.i2d p1)) h23 n0 (Nat.le_trans Z0 (K23 : Keep h0 h23 []).1) Fc22_23 Vc22_23 hw0) e23 Ec22_23 (hb hby at_162) (lenOf pd_3 rfl) rfl rfl (W := 0) (Nat.le_of_eq rfl) (by decide) (by decide) (by decide) (by decide) ?_
            intro v29 T29 L29 X29 Q29
            obtain ⟨rfl, N29q, hh29⟩ := Q29
            have N29 := Fr.app N23 N29q
            show Go _ _ _ _ _ _ _ T29 (mkF m 165 #[.val (.int p0), .val (.int p1), .val (.int p2), .val (.int p3), .val (.int p4), .val (.int (1 : Int32)), .val (.ref b19), .val (.ref b21), .val (.int w), .val (.double (FP.i2d p2)), .second] [(.double (slopeW w (1 : Int32) (updN (fun _ => (0 : UInt64)) 0 (FP.i2d p1))))])
            refine Go.step (fun _ k => XS.dload X29.here hx rfl (hb hby at_165) rfl k) ?_
            show Go _ _ _ _ _ _ _ T29 (mkF m 167 #[.val (.int p0), .val (.int p1), .val (.int p2), .val (.int p3), .val (.int p4), .val (.int (1 : Int32)), .val (.ref b19), .val (.ref b21), .val (.int w), .val (.double (FP.i2d p2)), .second] [(.double (FP.i2d p2)), (.double (slopeW w (1 : Int32) (updN (fun _ => (0 : UInt64)) 0 (FP.i2d p1))))])
            refine Go.step (fun _ k => XS.dcmpS X29.here hx rfl (hb hby at_167) rfl rfl k) ?_
            show Go _ _ _ _ _ _ _ T29 (mkF m 168 #[.val (.int p0), .val (.int p1), .val (.int p2), .val (.int p3), .val (.int p4), .val (.int (1 : Int32)), .val (.ref b19), .val (.ref b21), .val (.int w), .val (.double (FP.i2d p2)), .second] [(.int (cmpValue (FP.dcmp (slopeW w (1 : Int32) (updN (fun _ => (0 : UInt64)) 0 (FP.i2d p1))) (FP.i2d p2)) .l))])
            refine Go.step (fun _ k => XS.ifNo X29.here hx rfl (hb hby at_168) rfl (eq_y .l (own_i1 hw0 hc120_25 hc131_26).elim).1 k) ?_
            show Go _ _ _ _ _ _ _ T29 (mkF m 171 #[.val (.int p0), .val (.int p1), .val (.int p2), .val (.int p3), .val (.int p4), .val (.int (1 : Int32)), .val (.ref b19), .val (.ref b21), .val (.int w), .val (.double (FP.i2d p2)), .second] [])
            refine Go.step (fun _ k => XS.iconst X29.here hx rfl (hb hby at_171) k) ?_
            show Go _ _ _ _ _ _ _ T29 (mkF m 172 #[.val (.int p0), .val (.int p1), .val (.int p2), .val (.int p3), .val (.int p4), .val (.int (1 : Int32)), .val (.ref b19), .val (.ref b21), .val (.int w), .val (.double (FP.i2d p2)), .second] [(.int (1 : Int32))])
            refine Go.step (fun _ k => XS.goto X29.here hx rfl (pc0 := 172) (pc' := 176) rfl (hb hby at_172) (by decide) (by decide) k) ?_
            show Go _ _ _ _ _ _ _ T29 (mkF m 176 #[.val (.int p0), .val (.int p1), .val (.int p2), .val (.int p3), .val (.int p4), .val (.int (1 : Int32)), .val (.ref b19), .val (.ref b21), .val (.int w), .val (.double (FP.i2d p2)), .second] [(.int (1 : Int32))])
            refine Go.retZ X29 hx hlk hret (by decide) (hb hby at_176) (by decide) (by decide) ?_
            try rw [hh29]
            exact ⟨rfl, N29⟩
          · refine Go.step (fun _ k => XS.icmpYes X23.here hx rfl (pc0 := 144) (pc' := 154) rfl (hb hby at_144) rfl (feq hc144_28).2 (by decide) (by decide) k) ?_
            show Go _ _ _ _ _ _ _ T23 (mkF m 154 #[.val (.int p0), .val (.int p1), .val (.int p2), .val (.int p3), .val (.int p4), .val (.int (1 : Int32)), .val (.ref b19), .val (.ref b21), .val (.int w), .unset, .unset] [])
            refine Go.step (fun _ k => XS.iloadN X23.here hx rfl (hb hby at_154) rfl k) ?_
            show Go _ _ _ _ _ _ _ T23 (mkF m 155 #[.val (.int p0), .val (.int p1), .val (.int p2), .val (.int p3), .val (.int p4), .val (.int (1 : Int32)), .val (.ref b19), .val (.ref b21), .val (.int w), .unset, .unset] [(.int p3)])
            refine Go.step (fun _ k => XS.i2dS X23.here hx rfl (hb hby at_155) rfl rfl k) ?_
            show Go _ _ _ _ _ _ _ T23 (mkF m 156 #[.val (.int p0), .val (.int p1), .val (.int p2), .val (.int p3), .val (.int p4), .val (.int (1 : Int32)), .val (.ref b19), .val (.ref b21), .val (.int w), .unset, .unset] [(.double (FP.i2d p3))])
            refine Go.step (fun _ k => XS.dstore X23.here hx rfl (hb hby at_156) rfl (l' := #[.val (.int p0), .val (.int p1), .val (.int p2), .val (.int p3), .val (.int p4), .val (.int (1 : Int32)), .val (.ref b19), .val (.ref b21), .val (.int w), .val (.double (FP.i2d p3)), .second]) rfl k) ?_
            show Go _ _ _ _ _ _ _ T23 (mkF m 158 #[.val (.int p0), .val (.int p1), .val (.int p2), .val (.int p3), .val (.int p4), .val (.int (1 : Int32)), .val (.ref b19), .val (.ref b21), .val (.int w), .val (.double (FP.i2d p3)), .second] [])
            refine Go.step (fun _ k => XS.aload X23.here hx rfl (hb hby at_158) rfl rfl k) ?_
            show Go _ _ _ _ _ _ _ T23 (mkF m 160 #[.val (.int p0), .val (.int p1), .val (.int p2), .val (.int p3), .val (.int p4), .val (.int (1 : Int32)), .val (.ref b19), .val (.ref b21), .val (.int w), .val (.double (FP.i2d p3)), .second] [(.ref b21)])
            refine Go.step (fun _ k => XS.iload X23.here hx rfl (hb hby at_160) rfl k) ?_
            show Go _ _ _ _ _ _ _ T23 (mkF m 162 #[.val (.int p0), .val (.int p1), .val (.int p2), .val (.int p3), .val (.int p4), .val (.int (1 : Int32)), .val (.ref b19), .val (.ref b21), .val (.int w), .val (.double (FP.i2d p3)), .second] [(.int w), (.ref b21)])
            refine Go.callV X23 hx hZ (by rw [hml]; rfl) (y := (⟨"com/example/leapwise/leapwise/polytope/HalfSpace", "coefficient", "(I)D"⟩ : MethodName)) (z := (⟨"com/example/leapwise/leapwise/polytope/HalfSpace", "coefficient", "(I)D"⟩ : MethodName)) (a := b21) (argsL := [(.int w)]) (rest := []) hown (hw _ (List.mem_of_getElem? (i := 32) rfl)) (hw _ (List.mem_of_getElem? (i := 33) rfl)) (notFace_of_selects (args := #[]) (mvT hZ (hw _ (List.mem_of_getElem? (i := 35) rfl)))) (hw _ (List.mem_of_getElem? (i := 35) rfl)) (hw _ (List.mem_of_getElem? (i := 34) rfl)) (hw _ (List.mem_of_getElem? (i := 3) rfl)) (hw _ (List.mem_of_getElem? (i := 36) rfl)) (by decide) (rm5 l Z a0 hw b21 w c22 (1 : Int32) (updN (fun _ => (0 : UInt64)) 0 (FP.i2d p1)) h23 n0 (Nat.le_trans Z0 (K23 : Keep h0 h23 []).1) Fc22_23 Vc22_23 hw0) e23 Ec22_23 (hb hby at_162) (lenOf pd_3 rfl) rfl rfl (W := 0) (Nat.le_of_eq rfl) (by decide) (by decide) (by decide) (by decide) ?_
            intro v30 T30 L30 X30 Q30
            obtain ⟨rfl, N30q, hh30⟩ := Q30
            have N30 := Fr.app N23 N30q
            show Go _ _ _ _ _ _ _ T30 (mkF m 165 #[.val (.int p0), .val (.int p1), .val (.int p2), .val (.int p3), .val (.int p4), .val (.int (1 : Int32)), .val (.ref b19), .val (.ref b21), .val (.int w), .val (.double (FP.i2d p3)), .second] [(.double (slopeW w (1 : Int32) (updN (fun _ => (0 : UInt64)) 0 (FP.i2d p1))))])
            refine Go.step (fun _ k => XS.dload X30.here hx rfl (hb hby at_165) rfl k) ?_
            show Go _ _ _ _ _ _ _ T30 (mkF m 167 #[.val (.int p0), .val (.int p1), .val (.int p2), .val (.int p3), .val (.int p4), .val (.int (1 : Int32)), .val (.ref b19), .val (.ref b21), .val (.int w), .val (.double (FP.i2d p3)), .second] [(.double (FP.i2d p3)), (.double (slopeW w (1 : Int32) (updN (fun _ => (0 : UInt64)) 0 (FP.i2d p1))))])
            refine Go.step (fun _ k => XS.dcmpS X30.here hx rfl (hb hby at_167) rfl rfl k) ?_
            show Go _ _ _ _ _ _ _ T30 (mkF m 168 #[.val (.int p0), .val (.int p1), .val (.int p2), .val (.int p3), .val (.int p4), .val (.int (1 : Int32)), .val (.ref b19), .val (.ref b21), .val (.int w), .val (.double (FP.i2d p3)), .second] [(.int (cmpValue (FP.dcmp (slopeW w (1 : Int32) (updN (fun _ => (0 : UInt64)) 0 (FP.i2d p1))) (FP.i2d p3)) .l))])
            refine Go.step (fun _ k => XS.ifNo X30.here hx rfl (hb hby at_168) rfl (eq_y .l (own_i1 hw0 hc120_25 hc131_26).elim).1 k) ?_
            show Go _ _ _ _ _ _ _ T30 (mkF m 171 #[.val (.int p0), .val (.int p1), .val (.int p2), .val (.int p3), .val (.int p4), .val (.int (1 : Int32)), .val (.ref b19), .val (.ref b21), .val (.int w), .val (.double (FP.i2d p3)), .second] [])
            refine Go.step (fun _ k => XS.iconst X30.here hx rfl (hb hby at_171) k) ?_
            show Go _ _ _ _ _ _ _ T30 (mkF m 172 #[.val (.int p0), .val (.int p1), .val (.int p2), .val (.int p3), .val (.int p4), .val (.int (1 : Int32)), .val (.ref b19), .val (.ref b21), .val (.int w), .val (.double (FP.i2d p3)), .second] [(.int (1 : Int32))])
            refine Go.step (fun _ k => XS.goto X30.here hx rfl (pc0 := 172) (pc' := 176) rfl (hb hby at_172) (by decide) (by decide) k) ?_
            show Go _ _ _ _ _ _ _ T30 (mkF m 176 #[.val (.int p0), .val (.int p1), .val (.int p2), .val (.int p3), .val (.int p4), .val (.int (1 : Int32)), .val (.ref b19), .val (.ref b21), .val (.int w), .val (.double (FP.i2d p3)), .second] [(.int (1 : Int32))])
            refine Go.retZ X30 hx hlk hret (by decide) (hb hby at_176) (by decide) (by decide) ?_
            try rw [hh30]
            exact ⟨rfl, N30⟩
      · refine Go.step (fun _ k => XS.icmpNo X23.here hx rfl (hb hby at_120) rfl (flt hc120_25).1 k) ?_
        show Go _ _ _ _ _ _ _ T23 (mkF m 123 #[.val (.int p0), .val (.int p1), .val (.int p2), .val (.int p3), .val (.int p4), .val (.int (1 : Int32)), .val (.ref b19), .val (.ref b21), .val (.int w), .unset, .unset] [])
        refine Go.step (fun _ k => XS.dconst0 X23.here hx rfl (hb hby at_123) rfl k) ?_
        show Go _ _ _ _ _ _ _ T23 (mkF m 124 #[.val (.int p0), .val (.int p1), .val (.int p2), .val (.int p3), .val (.int p4), .val (.int (1 : Int32)), .val (.ref b19), .val (.ref b21), .val (.int w), .unset, .unset] [(.double (0 : UInt64))])
        refine Go.step (fun _ k => XS.dstore X23.here hx rfl (hb hby at_124) rfl (l' := #[.val (.int p0), .val (.int p1), .val (.int p2), .val (.int p3), .val (.int p4), .val (.int (1 : Int32)), .val (.ref b19), .val (.ref b21), .val (.int w), .val (.double (0 : UInt64)), .second]) rfl k) ?_
        show Go _ _ _ _ _ _ _ T23 (mkF m 126 #[.val (.int p0), .val (.int p1), .val (.int p2), .val (.int p3), .val (.int p4), .val (.int (1 : Int32)), .val (.ref b19), .val (.ref b21), .val (.int w), .val (.double (0 : UInt64)), .second] [])
        refine Go.step (fun _ k => XS.goto X23.here hx rfl (pc0 := 126) (pc' := 158) rfl (hb hby at_126) (by decide) (by decide) k) ?_
        show Go _ _ _ _ _ _ _ T23 (mkF m 158 #[.val (.int p0), .val (.int p1), .val (.int p2), .val (.int p3), .val (.int p4), .val (.int (1 : Int32)), .val (.ref b19), .val (.ref b21), .val (.int w), .val (.double (0 : UInt64)), .second] [])
        refine Go.step (fun _ k => XS.aload X23.here hx rfl (hb hby at_158) rfl rfl k) ?_
        show Go _ _ _ _ _ _ _ T23 (mkF m 160 #[.val (.int p0), .val (.int p1), .val (.int p2), .val (.int p3), .val (.int p4), .val (.int (1 : Int32)), .val (.ref b19), .val (.ref b21), .val (.int w), .val (.double (0 : UInt64)), .second] [(.ref b21)])
        refine Go.step (fun _ k => XS.iload X23.here hx rfl (hb hby at_160) rfl k) ?_
        show Go _ _ _ _ _ _ _ T23 (mkF m 162 #[.val (.int p0), .val (.int p1), .val (.int p2), .val (.int p3), .val (.int p4), .val (.int (1 : Int32)), .val (.ref b19), .val (.ref b21), .val (.int w), .val (.double (0 : UInt64)), .second] [(.int w), (.ref b21)])
        refine Go.callV X23 hx hZ (by rw [hml]; rfl) (y := (⟨"com/example/leapwise/leapwise/polytope/HalfSpace", "coefficient", "(I)D"⟩ : MethodName)) (z := (⟨"com/example/leapwise/leapwise/polytope/HalfSpace", "coefficient", "(I)D"⟩ : MethodName)) (a := b21) (argsL := [(.int w)]) (rest := []) hown (hw _ (List.mem_of_getElem? (i := 32) rfl)) (hw _ (List.mem_of_getElem? (i := 33) rfl)) (notFace_of_selects (args := #[]) (mvT hZ (hw _ (List.mem_of_getElem? (i := 35) rfl)))) (hw _ (List.mem_of_getElem? (i := 35) rfl)) (hw _ (List.mem_of_getElem? (i := 34) rfl)) (hw _ (List.mem_of_getElem? (i := 3) rfl)) (hw _ (List.mem_of_getElem? (i := 36) rfl)) (by decide) (rm5 l Z a0 hw b21 w c22 (1 : Int32) (updN (fun _ => (0 : UInt64)) 0 (FP.i2d p1)) h23 n0 (Nat.le_trans Z0 (K23 : Keep h0 h23 []).1) Fc22_23 Vc22_23 hw0) e23 Ec22_23 (hb hby at_162) (lenOf pd_3 rfl) rfl rfl (W := 0) (Nat.le_of_eq rfl) (by decide) (by decide) (by decide) (by decide) ?_
        intro v31 T31 L31 X31 Q31
        obtain ⟨rfl, N31q, hh31⟩ := Q31
        have N31 := Fr.app N23 N31q
        show Go _ _ _ _ _ _ _ T31 (mkF m 165 #[.val (.int p0), .val (.int p1), .val (.int p2), .val (.int p3), .val (.int p4), .val (.int (1 : Int32)), .val (.ref b19), .val (.ref b21), .val (.int w), .val (.double (0 : UInt64)), .second] [(.double (slopeW w (1 : Int32) (updN (fun _ => (0 : UInt64)) 0 (FP.i2d p1))))])
        refine Go.step (fun _ k => XS.dload X31.here hx rfl (hb hby at_165) rfl k) ?_
        show Go _ _ _ _ _ _ _ T31 (mkF m 167 #[.val (.int p0), .val (.int p1), .val (.int p2), .val (.int p3), .val (.int p4), .val (.int (1 : Int32)), .val (.ref b19), .val (.ref b21), .val (.int w), .val (.double (0 : UInt64)), .second] [(.double (0 : UInt64)), (.double (slopeW w (1 : Int32) (updN (fun _ => (0 : UInt64)) 0 (FP.i2d p1))))])
        refine Go.step (fun _ k => XS.dcmpS X31.here hx rfl (hb hby at_167) rfl rfl k) ?_
        show Go _ _ _ _ _ _ _ T31 (mkF m 168 #[.val (.int p0), .val (.int p1), .val (.int p2), .val (.int p3), .val (.int p4), .val (.int (1 : Int32)), .val (.ref b19), .val (.ref b21), .val (.int w), .val (.double (0 : UInt64)), .second] [(.int (cmpValue (FP.dcmp (slopeW w (1 : Int32) (updN (fun _ => (0 : UInt64)) 0 (FP.i2d p1))) (0 : UInt64)) .l))])
        refine Go.step (fun _ k => XS.ifNo X31.here hx rfl (hb hby at_168) rfl (eq_y .l (own_sw0 hc120_25)).1 k) ?_
        show Go _ _ _ _ _ _ _ T31 (mkF m 171 #[.val (.int p0), .val (.int p1), .val (.int p2), .val (.int p3), .val (.int p4), .val (.int (1 : Int32)), .val (.ref b19), .val (.ref b21), .val (.int w), .val (.double (0 : UInt64)), .second] [])
        refine Go.step (fun _ k => XS.iconst X31.here hx rfl (hb hby at_171) k) ?_
        show Go _ _ _ _ _ _ _ T31 (mkF m 172 #[.val (.int p0), .val (.int p1), .val (.int p2), .val (.int p3), .val (.int p4), .val (.int (1 : Int32)), .val (.ref b19), .val (.ref b21), .val (.int w), .val (.double (0 : UInt64)), .second] [(.int (1 : Int32))])
        refine Go.step (fun _ k => XS.goto X31.here hx rfl (pc0 := 172) (pc' := 176) rfl (hb hby at_172) (by decide) (by decide) k) ?_
        show Go _ _ _ _ _ _ _ T31 (mkF m 176 #[.val (.int p0), .val (.int p1), .val (.int p2), .val (.int p3), .val (.int p4), .val (.int (1 : Int32)), .val (.ref b19), .val (.ref b21), .val (.int w), .val (.double (0 : UInt64)), .second] [(.int (1 : Int32))])
        refine Go.retZ X31 hx hlk hret (by decide) (hb hby at_176) (by decide) (by decide) ?_
        try rw [hh31]
        exact ⟨rfl, N31⟩
    · refine Go.step (fun _ k => XS.ifNo X23.here hx rfl (hb hby at_99) rfl ((if0 _ _).trans (feq hc99_24).1) k) ?_
      show Go _ _ _ _ _ _ _ T23 (mkF m 102 #[.val (.int p0), .val (.int p1), .val (.int p2), .val (.int p3), .val (.int p4), .val (.int (1 : Int32)), .val (.ref b19), .val (.ref b21), .unset, .unset, .unset] [])
      refine Go.step (fun _ k => XS.iload X23.here hx rfl (hb hby at_102) rfl k) ?_
      show Go _ _ _ _ _ _ _ T23 (mkF m 104 #[.val (.int p0), .val (.int p1), .val (.int p2), .val (.int p3), .val (.int p4), .val (.int (1 : Int32)), .val (.ref b19), .val (.ref b21), .unset, .unset, .unset] [(.int p4)])
      refine Go.step (X23.ldcInt hx hown (mvT hZ (hw _ (List.mem_of_getElem? (i := 38) rfl))) (g := (mkF m 104 #[.val (.int p0), .val (.int p1), .val (.int p2), .val (.int p3), .val (.int p4), .val (.int (1 : Int32)), .val (.ref b19), .val (.ref b21), .unset, .unset, .unset] [(.int p4)])) rfl (hb hby at_104)) ?_
      show Go _ _ _ _ _ _ _ T23 (mkF m 106 #[.val (.int p0), .val (.int p1), .val (.int p2), .val (.int p3), .val (.int p4), .val (.int (1 : Int32)), .val (.ref b19), .val (.ref b21), .unset, .unset, .unset] [(.int (2147483647 : Int32)), (.int p4)])
      refine Go.step (fun _ k => XS.iand X23.here hx rfl (hb hby at_106) rfl k) ?_
      show Go _ _ _ _ _ _ _ T23 (mkF m 107 #[.val (.int p0), .val (.int p1), .val (.int p2), .val (.int p3), .val (.int p4), .val (.int (1 : Int32)), .val (.ref b19), .val (.ref b21), .unset, .unset, .unset] [(.int (p4 &&& (2147483647 : Int32)))])
      refine Go.step (fun _ k => XS.goto X23.here hx rfl (pc0 := 107) (pc' := 114) rfl (hb hby at_107) (by decide) (by decide) k) ?_
      show Go _ _ _ _ _ _ _ T23 (mkF m 114 #[.val (.int p0), .val (.int p1), .val (.int p2), .val (.int p3), .val (.int p4), .val (.int (1 : Int32)), .val (.ref b19), .val (.ref b21), .unset, .unset, .unset] [(.int (p4 &&& (2147483647 : Int32)))])
      refine Go.step (fun _ k => XS.istore X23.here hx rfl (hb hby at_114) rfl (l' := #[.val (.int p0), .val (.int p1), .val (.int p2), .val (.int p3), .val (.int p4), .val (.int (1 : Int32)), .val (.ref b19), .val (.ref b21), .val (.int (p4 &&& (2147483647 : Int32))), .unset, .unset]) rfl k) ?_
      have hw0 := own_v1 p4
      obtain ⟨w, h_w⟩ : ∃ z, z = (p4 &&& (2147483647 : Int32)) := ⟨_, rfl⟩
      rw [← h_w]
      rw [← h_w] at hw0
      show Go _ _ _ _ _ _ _ T23 (mkF m 116 #[.val (.int p0), .val (.int p1), .val (.int p2), .val (.int p3), .val (.int p4), .val (.int (1 : Int32)), .val (.ref b19), .val (.ref b21), .val (.int w), .unset, .unset] [])
      refine Go.step (fun _ k => XS.iload X23.here hx rfl (hb hby at_116) rfl k) ?_
      show Go _ _ _ _ _ _ _ T23 (mkF m 118 #[.val (.int p0), .val (.int p1), .val (.int p2), .val (.int p3), .val (.int p4), .val (.int (1 : Int32)), .val (.ref b19), .val (.ref b21), .val (.int w), .unset, .unset] [(.int w)])
      refine Go.step (fun _ k => XS.iload X23.here hx rfl (hb hby at_118) rfl k) ?_
      show Go _ _ _ _ _ _ _ T23 (mkF m 120 #[.val (.int p0), .val (.int p1), .val (.int p2), .val (.int p3), .val (.int p4), .val (.int (1 : Int32)), .val (.ref b19), .val (.ref b21), .val (.int w), .unset, .unset] [(.int (1 : Int32)), (.int w)])
      by_cases hc120_32 : w < (1 : Int32)
      · refine Go.step (fun _ k => XS.icmpYes X23.here hx rfl (pc0 := 120) (pc' := 129) rfl (hb hby at_120) rfl (tlt hc120_32).1 (by decide) (by decide) k) ?_
        show Go _ _ _ _ _ _ _ T23 (mkF m 129 #[.val (.int p0), .val (.int p1), .val (.int p2), .val (.int p3), .val (.int p4), .val (.int (1 : Int32)), .val (.ref b19), .val (.ref b21), .val (.int w), .unset, .unset] [])
        refine Go.step (fun _ k => XS.iload X23.here hx rfl (hb hby at_129) rfl k) ?_
        show Go _ _ _ _ _ _ _ T23 (mkF m 131 #[.val (.int p0), .val (.int p1), .val (.int p2), .val (.int p3), .val (.int p4), .val (.int (1 : Int32)), .val (.ref b19), .val (.ref b21), .val (.int w), .unset, .unset] [(.int w)])
        by_cases hc131_33 : w = (0 : Int32)
        · refine Go.step (fun _ k => XS.ifNo X23.here hx rfl (hb hby at_131) rfl ((if0 _ _).trans (teq hc131_33).2) k) ?_
          show Go _ _ _ _ _ _ _ T23 (mkF m 134 #[.val (.int p0), .val (.int p1), .val (.int p2), .val (.int p3), .val (.int p4), .val (.int (1 : Int32)), .val (.ref b19), .val (.ref b21), .val (.int w), .unset, .unset] [])
          refine Go.step (fun _ k => XS.iloadN X23.here hx rfl (hb hby at_134) rfl k) ?_
          show Go _ _ _ _ _ _ _ T23 (mkF m 135 #[.val (.int p0), .val (.int p1), .val (.int p2), .val (.int p3), .val (.int p4), .val (.int (1 : Int32)), .val (.ref b19), .val (.ref b21), .val (.int w), .unset, .unset] [(.int p1)])
          refine Go.step (fun _ k => XS.i2dS X23.here hx rfl (hb hby at_135) rfl rfl k) ?_
          show Go _ _ _ _ _ _ _ T23 (mkF m 136 #[.val (.int p0), .val (.int p1), .val (.int p2), .val (.int p3), .val (.int p4), .val (.int (1 : Int32)), .val (.ref b19), .val (.ref b21), .val (.int w), .unset, .unset] [(.double (FP.i2d p1))])
          refine Go.step (fun _ k => XS.dstore X23.here hx rfl (hb hby at_136) rfl (l' := #[.val (.int p0), .val (.int p1), .val (.int p2), .val (.int p3), .val (.int p4), .val (.int (1 : Int32)), .val (.ref b19), .val (.ref b21), .val (.int w), .val (.double (FP.i2d p1)), .second]) rfl k) ?_
          show Go _ _ _ _ _ _ _ T23 (mkF m 138 #[.val (.int p0), .val (.int p1), .val (.int p2), .val (.int p3), .val (.int p4), .val (.int (1 : Int32)), .val (.ref b19), .val (.ref b21), .val (.int w), .val (.double (FP.i2d p1)), .second] [])
          refine Go.step (fun _ k => XS.goto X23.here hx rfl (pc0 := 138) (pc' := 158) rfl (hb hby at_138) (by decide) (by decide) k) ?_
          show Go _ _ _ _ _ _ _ T23 (mkF m 158 #[.val (.int p0), .val (.int p1), .val (.int p2), .val (.int p3), .val (.int p4), .val (.int (1 : Int32)), .val (.ref b19), .val (.ref b21), .val (.int w), .val (.double (FP.i2d p1)), .second] [])
          refine Go.step (fun _ k => XS.aload X23.here hx rfl (hb hby at_158) rfl rfl k) ?_
          show Go _ _ _ _ _ _ _ T23 (mkF m 160 #[.val (.int p0), .val (.int p1), .val (.int p2), .val (.int p3), .val (.int p4), .val (.int (1 : Int32)), .val (.ref b19), .val (.ref b21), .val (.int w), .val (.double (FP.i2d p1)), .second] [(.ref b21)])
          refine Go.step (fun _ k => XS.iload X23.here hx rfl (hb hby at_160) rfl k) ?_
          show Go _ _ _ _ _ _ _ T23 (mkF m 162 #[.val (.int p0), .val (.int p1), .val (.int p2), .val (.int p3), .val (.int p4), .val (.int (1 : Int32)), .val (.ref b19), .val (.ref b21), .val (.int w), .val (.double (FP.i2d p1)), .second] [(.int w), (.ref b21)])
          refine Go.callV X23 hx hZ (by rw [hml]; rfl) (y := (⟨"com/example/leapwise/leapwise/polytope/HalfSpace", "coefficient", "(I)D"⟩ : MethodName)) (z := (⟨"com/example/leapwise/leapwise/polytope/HalfSpace", "coefficient", "(I)D"⟩ : MethodName)) (a := b21) (argsL := [(.int w)]) (rest := []) hown (hw _ (List.mem_of_getElem? (i := 32) rfl)) (hw _ (List.mem_of_getElem? (i := 33) rfl)) (notFace_of_selects (args := #[]) (mvT hZ (hw _ (List.mem_of_getElem? (i := 35) rfl)))) (hw _ (List.mem_of_getElem? (i := 35) rfl)) (hw _ (List.mem_of_getElem? (i := 34) rfl)) (hw _ (List.mem_of_getElem? (i := 3) rfl)) (hw _ (List.mem_of_getElem? (i := 36) rfl)) (by decide) (rm5 l Z a0 hw b21 w c22 (1 : Int32) (updN (fun _ => (0 : UInt64)) 0 (FP.i2d p1)) h23 n0 (Nat.le_trans Z0 (K23 : Keep h0 h23 []).1) Fc22_23 Vc22_23 hw0) e23 Ec22_23 (hb hby at_162) (lenOf pd_3 rfl) rfl rfl (W := 0) (Nat.le_of_eq rfl) (by decide) (by decide) (by decide) (by decide) ?_
          intro v34 T34 L34 X34 Q34
          obtain ⟨rfl, N34q, hh34⟩ := Q34
          have N34 := Fr.app N23 N34q
          show Go _ _ _ _ _ _ _ T34 (mkF m 165 #[.val (.int p0), .val (.int p1), .val (.int p2), .val (.int p3), .val (.int p4), .val (.int (1 : Int32)), .val (.ref b19), .val (.ref b21), .val (.int w), .val (.double (FP.i2d p1)), .second] [(.double (slopeW w (1 : Int32) (updN (fun _ => (0 : UInt64)) 0 (FP.i2d p1))))])
          refine Go.step (fun _ k => XS.dload X34.here hx rfl (hb hby at_165) rfl k) ?_
          show Go _ _ _ _ _ _ _ T34 (mkF m 167 #[.val (.int p0), .val (.int p1), .val (.int p2), .val (.int p3), .val (.int p4), .val (.int (1 : Int32)), .val (.ref b19), .val (.ref b21), .val (.int w), .val (.double (FP.i2d p1)), .second] [(.double (FP.i2d p1)), (.double (slopeW w (1 : Int32) (updN (fun _ => (0 : UInt64)) 0 (FP.i2d p1))))])
          refine Go.step (fun _ k => XS.dcmpS X34.here hx rfl (hb hby at_167) rfl rfl k) ?_
          show Go _ _ _ _ _ _ _ T34 (mkF m 168 #[.val (.int p0), .val (.int p1), .val (.int p2), .val (.int p3), .val (.int p4), .val (.int (1 : Int32)), .val (.ref b19), .val (.ref b21), .val (.int w), .val (.double (FP.i2d p1)), .second] [(.int (cmpValue (FP.dcmp (slopeW w (1 : Int32) (updN (fun _ => (0 : UInt64)) 0 (FP.i2d p1))) (FP.i2d p1)) .l))])
          refine Go.step (fun _ k => XS.ifNo X34.here hx rfl (hb hby at_168) rfl (eq_y .l (own_eqI (own_sw hc120_32 hc131_33 rfl))).1 k) ?_
          show Go _ _ _ _ _ _ _ T34 (mkF m 171 #[.val (.int p0), .val (.int p1), .val (.int p2), .val (.int p3), .val (.int p4), .val (.int (1 : Int32)), .val (.ref b19), .val (.ref b21), .val (.int w), .val (.double (FP.i2d p1)), .second] [])
          refine Go.step (fun _ k => XS.iconst X34.here hx rfl (hb hby at_171) k) ?_
          show Go _ _ _ _ _ _ _ T34 (mkF m 172 #[.val (.int p0), .val (.int p1), .val (.int p2), .val (.int p3), .val (.int p4), .val (.int (1 : Int32)), .val (.ref b19), .val (.ref b21), .val (.int w), .val (.double (FP.i2d p1)), .second] [(.int (1 : Int32))])
          refine Go.step (fun _ k => XS.goto X34.here hx rfl (pc0 := 172) (pc' := 176) rfl (hb hby at_172) (by decide) (by decide) k) ?_
          show Go _ _ _ _ _ _ _ T34 (mkF m 176 #[.val (.int p0), .val (.int p1), .val (.int p2), .val (.int p3), .val (.int p4), .val (.int (1 : Int32)), .val (.ref b19), .val (.ref b21), .val (.int w), .val (.double (FP.i2d p1)), .second] [(.int (1 : Int32))])
          refine Go.retZ X34 hx hlk hret (by decide) (hb hby at_176) (by decide) (by decide) ?_
          try rw [hh34]
          exact ⟨rfl, N34⟩
        · refine Go.step (fun _ k => XS.ifYes X23.here hx rfl (pc0 := 131) (pc' := 141) rfl (hb hby at_131) rfl ((if0 _ _).trans (feq hc131_33).2) (by decide) (by decide) k) ?_
          show Go _ _ _ _ _ _ _ T23 (mkF m 141 #[.val (.int p0), .val (.int p1), .val (.int p2), .val (.int p3), .val (.int p4), .val (.int (1 : Int32)), .val (.ref b19), .val (.ref b21), .val (.int w), .unset, .unset] [])
          refine Go.step (fun _ k => XS.iload X23.here hx rfl (hb hby at_141) rfl k) ?_
          show Go _ _ _ _ _ _ _ T23 (mkF m 143 #[.val (.int p0), .val (.int p1), .val (.int p2), .val (.int p3), .val (.int p4), .val (.int (1 : Int32)), .val (.ref b19), .val (.ref b21), .val (.int w), .unset, .unset] [(.int w)])
          refine Go.step (fun _ k => XS.iconst X23.here hx rfl (hb hby at_143) k) ?_
          show Go _ _ _ _ _ _ _ T23 (mkF m 144 #[.val (.int p0), .val (.int p1), .val (.int p2), .val (.int p3), .val (.int p4), .val (.int (1 : Int32)), .val (.ref b19), .val (.ref b21), .val (.int w), .unset, .unset] [(.int (1 : Int32)), (.int w)])
          by_cases hc144_35 : w = (1 : Int32)
          · refine Go.step (fun _ k => XS.icmpNo X23.here hx rfl (hb hby at_144) rfl (teq hc144_35).2 k) ?_
            show Go _ _ _ _ _ _ _ T23 (mkF m 147 #[.val (.int p0), .val (.int p1), .val (.int p2), .val (.int p3), .val (.int p4), .val (.int (1 : Int32)), .val (.ref b19), .val (.ref b21), .val (.int w), .unset, .unset] [])
            refine Go.step (fun _ k => XS.iloadN X23.here hx rfl (hb hby at_147) rfl k) ?_
            show Go _ _ _ _ _ _ _ T23 (mkF m 148 #[.val (.int p0), .val (.int p1), .val (.int p2), .val (.int p3), .val (.int p4), .val (.int (1 : Int32)), .val (.ref b19), .val (.ref b21), .val (.int w), .unset, .unset] [(.int p2)])
            refine Go.step (fun _ k => XS.i2dS X23.here hx rfl (hb hby at_148) rfl rfl k) ?_
            show Go _ _ _ _ _ _ _ T23 (mkF m 149 #[.val (.int p0), .val (.int p1), .val (.int p2), .val (.int p3), .val (.int p4), .val (.int (1 : Int32)), .val (.ref b19), .val (.ref b21), .val (.int w), .unset, .unset] [(.double (FP.i2d p2))])
            refine Go.step (fun _ k => XS.dstore X23.here hx rfl (hb hby at_149) rfl (l' := #[.val (.int p0), .val (.int p1), .val (.int p2), .val (.int p3), .val (.int p4), .val (.int (1 : Int32)), .val (.ref b19), .val (.ref b21), .val (.int w), .val (.double (FP.i2d p2)), .second]) rfl k) ?_
            show Go _ _ _ _ _ _ _ T23 (mkF m 151 #[.val (.int p0), .val (.int p1), .val (.int p2), .val (.int p3), .val (.int p4), .val (.int (1 : Int32)), .val (.ref b19), .val (.ref b21), .val (.int w), .val (.double (FP.i2d p2)), .second] [])
            refine Go.step (fun _ k => XS.goto X23.here hx rfl (pc0 := 151) (pc' := 158) rfl (hb hby at_151) (by decide) (by decide) k) ?_
            show Go _ _ _ _ _ _ _ T23 (mkF m 158 #[.val (.int p0), .val (.int p1), .val (.int p2), .val (.int p3), .val (.int p4), .val (.int (1 : Int32)), .val (.ref b19), .val (.ref b21), .val (.int w), .val (.double (FP.i2d p2)), .second] [])
            refine Go.step (fun _ k => XS.aload X23.here hx rfl (hb hby at_158) rfl rfl k) ?_
            show Go _ _ _ _ _ _ _ T23 (mkF m 160 #[.val (.int p0), .val (.int p1), .val (.int p2), .val (.int p3), .val (.int p4), .val (.int (1 : Int32)), .val (.ref b19), .val (.ref b21), .val (.int w), .val (.double (FP.i2d p2)), .second] [(.ref b21)])
            refine Go.step (fun _ k => XS.iload X23.here hx rfl (hb hby at_160) rfl k) ?_
            show Go _ _ _ _ _ _ _ T23 (mkF m 162 #[.val (.int p0), .val (.int p1), .val (.int p2), .val (.int p3), .val (.int p4), .val (.int (1 : Int32)), .val (.ref b19), .val (.ref b21), .val (.int w), .val (.double (FP.i2d p2)), .second] [(.int w), (.ref b21)])
            refine Go.callV X23 hx hZ (by rw [hml]; rfl) (y := (⟨"com/example/leapwise/leapwise/polytope/HalfSpace", "coefficient", "(I)D"⟩ : MethodName)) (z := (⟨"com/example/leapwise/leapwise/polytope/HalfSpace", "coefficient", "(I)D"⟩ : MethodName)) (a := b21) (argsL := [(.int w)]) (rest := []) hown (hw _ (List.mem_of_getElem? (i := 32) rfl)) (hw _ (List.mem_of_getElem? (i := 33) rfl)) (notFace_of_selects (args := #[]) (mvT hZ (hw _ (List.mem_of_getElem? (i := 35) rfl)))) (hw _ (List.mem_of_getElem? (i := 35) rfl)) (hw _ (List.mem_of_getElem? (i := 34) rfl)) (hw _ (List.mem_of_getElem? (i := 3) rfl)) (hw _ (List.mem_of_getElem? (i := 36) rfl)) (by decide) (rm5 l Z a0 hw b21 w c22 (1 : Int32) (updN (fun _ => (0 : UInt64)) 0 (FP.i2d p1)) h23 n0 (Nat.le_trans Z0 (K23 : Keep h0 h23 []).1) Fc22_23 Vc22_23 hw0) e23 Ec22_23 (hb hby at_162) (lenOf pd_3 rfl) rfl rfl (W := 0) (Nat.le_of_eq rfl) (by decide) (by decide) (by decide) (by decide) ?_
            intro v36 T36 L36 X36 Q36
            obtain ⟨rfl, N36q, hh36⟩ := Q36
            have N36 := Fr.app N23 N36q
            show Go _ _ _ _ _ _ _ T36 (mkF m 165 #[.val (.int p0), .val (.int p1), .val (.int p2), .val (.int p3), .val (.int p4), .val (.int (1 : Int32)), .val (.ref b19), .val (.ref b21), .val (.int w), .val (.double (FP.i2d p2)), .second] [(.double (slopeW w (1 : Int32) (updN (fun _ => (0 : UInt64)) 0 (FP.i2d p1))))])
            refine Go.step (fun _ k => XS.dload X36.here hx rfl (hb hby at_165) rfl k) ?_
            show Go _ _ _ _ _ _ _ T36 (mkF m 167 #[.val (.int p0), .val (.int p1), .val (.int p2), .val (.int p3), .val (.int p4), .val (.int (1 : Int32)), .val (.ref b19), .val (.ref b21), .val (.int w), .val (.double (FP.i2d p2)), .second] [(.double (FP.i2d p2)), (.double (slopeW w (1 : Int32) (updN (fun _ => (0 : UInt64)) 0 (FP.i2d p1))))])
            refine Go.step (fun _ k => XS.dcmpS X36.here hx rfl (hb hby at_167) rfl rfl k) ?_
            show Go _ _ _ _ _ _ _ T36 (mkF m 168 #[.val (.int p0), .val (.int p1), .val (.int p2), .val (.int p3), .val (.int p4), .val (.int (1 : Int32)), .val (.ref b19), .val (.ref b21), .val (.int w), .val (.double (FP.i2d p2)), .second] [(.int (cmpValue (FP.dcmp (slopeW w (1 : Int32) (updN (fun _ => (0 : UInt64)) 0 (FP.i2d p1))) (FP.i2d p2)) .l))])
            refine Go.step (fun _ k => XS.ifNo X36.here hx rfl (hb hby at_168) rfl (eq_y .l (own_i1 hw0 hc120_32 hc131_33).elim).1 k) ?_
            show Go _ _ _ _ _ _ _ T36 (mkF m 171 #[.val (.int p0), .val (.int p1), .val (.int p2), .val (.int p3), .val (.int p4), .val (.int (1 : Int32)), .val (.ref b19), .val (.ref b21), .val (.int w), .val (.double (FP.i2d p2)), .second] [])
            refine Go.step (fun _ k => XS.iconst X36.here hx rfl (hb hby at_171) k) ?_
            show Go _ _ _ _ _ _ _ T36 (mkF m 172 #[.val (.int p0), .val (.int p1), .val (.int p2), .val (.int p3), .val (.int p4), .val (.int (1 : Int32)), .val (.ref b19), .val (.ref b21), .val (.int w), .val (.double (FP.i2d p2)), .second] [(.int (1 : Int32))])
            refine Go.step (fun _ k => XS.goto X36.here hx rfl (pc0 := 172) (pc' := 176) rfl (hb hby at_172) (by decide) (by decide) k) ?_
            show Go _ _ _ _ _ _ _ T36 (mkF m 176 #[.val (.int p0), .val (.int p1), .val (.int p2), .val (.int p3), .val (.int p4), .val (.int (1 : Int32)), .val (.ref b19), .val (.ref b21), .val (.int w), .val (.double (FP.i2d p2)), .second] [(.int (1 : Int32))])
            refine Go.retZ X36 hx hlk hret (by decide) (hb hby at_176) (by decide) (by decide) ?_
            try rw [hh36]
            exact ⟨rfl, N36⟩
          · refine Go.step (fun _ k => XS.icmpYes X23.here hx rfl (pc0 := 144) (pc' := 154) rfl (hb hby at_144) rfl (feq hc144_35).2 (by decide) (by decide) k) ?_
            show Go _ _ _ _ _ _ _ T23 (mkF m 154 #[.val (.int p0), .val (.int p1), .val (.int p2), .val (.int p3), .val (.int p4), .val (.int (1 : Int32)), .val (.ref b19), .val (.ref b21), .val (.int w), .unset, .unset] [])
            refine Go.step (fun _ k => XS.iloadN X23.here hx rfl (hb hby at_154) rfl k) ?_
            show Go _ _ _ _ _ _ _ T23 (mkF m 155 #[.val (.int p0), .val (.int p1), .val (.int p2), .val (.int p3), .val (.int p4), .val (.int (1 : Int32)), .val (.ref b19), .val (.ref b21), .val (.int w), .unset, .unset] [(.int p3)])
            refine Go.step (fun _ k => XS.i2dS X23.here hx rfl (hb hby at_155) rfl rfl k) ?_
            show Go _ _ _ _ _ _ _ T23 (mkF m 156 #[.val (.int p0), .val (.int p1), .val (.int p2), .val (.int p3), .val (.int p4), .val (.int (1 : Int32)), .val (.ref b19), .val (.ref b21), .val (.int w), .unset, .unset] [(.double (FP.i2d p3))])
            refine Go.step (fun _ k => XS.dstore X23.here hx rfl (hb hby at_156) rfl (l' := #[.val (.int p0), .val (.int p1), .val (.int p2), .val (.int p3), .val (.int p4), .val (.int (1 : Int32)), .val (.ref b19), .val (.ref b21), .val (.int w), .val (.double (FP.i2d p3)), .second]) rfl k) ?_
            show Go _ _ _ _ _ _ _ T23 (mkF m 158 #[.val (.int p0), .val (.int p1), .val (.int p2), .val (.int p3), .val (.int p4), .val (.int (1 : Int32)), .val (.ref b19), .val (.ref b21), .val (.int w), .val (.double (FP.i2d p3)), .second] [])
            refine Go.step (fun _ k => XS.aload X23.here hx rfl (hb hby at_158) rfl rfl k) ?_
            show Go _ _ _ _ _ _ _ T23 (mkF m 160 #[.val (.int p0), .val (.int p1), .val (.int p2), .val (.int p3), .val (.int p4), .val (.int (1 : Int32)), .val (.ref b19), .val (.ref b21), .val (.int w), .val (.double (FP.i2d p3)), .second] [(.ref b21)])
            refine Go.step (fun _ k => XS.iload X23.here hx rfl (hb hby at_160) rfl k) ?_
            show Go _ _ _ _ _ _ _ T23 (mkF m 162 #[.val (.int p0), .val (.int p1), .val (.int p2), .val (.int p3), .val (.int p4), .val (.int (1 : Int32)), .val (.ref b19), .val (.ref b21), .val (.int w), .val (.double (FP.i2d p3)), .second] [(.int w), (.ref b21)])
            refine Go.callV X23 hx hZ (by rw [hml]; rfl) (y := (⟨"com/example/leapwise/leapwise/polytope/HalfSpace", "coefficient", "(I)D"⟩ : MethodName)) (z := (⟨"com/example/leapwise/leapwise/polytope/HalfSpace", "coefficient", "(I)D"⟩ : MethodName)) (a := b21) (argsL := [(.int w)]) (rest := []) hown (hw _ (List.mem_of_getElem? (i := 32) rfl)) (hw _ (List.mem_of_getElem? (i := 33) rfl)) (notFace_of_selects (args := #[]) (mvT hZ (hw _ (List.mem_of_getElem? (i := 35) rfl)))) (hw _ (List.mem_of_getElem? (i := 35) rfl)) (hw _ (List.mem_of_getElem? (i := 34) rfl)) (hw _ (List.mem_of_getElem? (i := 3) rfl)) (hw _ (List.mem_of_getElem? (i := 36) rfl)) (by decide) (rm5 l Z a0 hw b21 w c22 (1 : Int32) (updN (fun _ => (0 : UInt64)) 0 (FP.i2d p1)) h23 n0 (Nat.le_trans Z0 (K23 : Keep h0 h23 []).1) Fc22_23 Vc22_23 hw0) e23 Ec22_23 (hb hby at_162) (lenOf pd_3 rfl) rfl rfl (W := 0) (Nat.le_of_eq rfl) (by decide) (by decide) (by decide) (by decide) ?_
            intro v37 T37 L37 X37 Q37
            obtain ⟨rfl, N37q, hh37⟩ := Q37
            have N37 := Fr.app N23 N37q
            show Go _ _ _ _ _ _ _ T37 (mkF m 165 #[.val (.int p0), .val (.int p1), .val (.int p2), .val (.int p3), .val (.int p4), .val (.int (1 : Int32)), .val (.ref b19), .val (.ref b21), .val (.int w), .val (.double (FP.i2d p3)), .second] [(.double (slopeW w (1 : Int32) (updN (fun _ => (0 : UInt64)) 0 (FP.i2d p1))))])
            refine Go.step (fun _ k => XS.dload X37.here hx rfl (hb hby at_165) rfl k) ?_
            show Go _ _ _ _ _ _ _ T37 (mkF m 167 #[.val (.int p0), .val (.int p1), .val (.int p2), .val (.int p3), .val (.int p4), .val (.int (1 : Int32)), .val (.ref b19), .val (.ref b21), .val (.int w), .val (.double (FP.i2d p3)), .second] [(.double (FP.i2d p3)), (.double (slopeW w (1 : Int32) (updN (fun _ => (0 : UInt64)) 0 (FP.i2d p1))))])
            refine Go.step (fun _ k => XS.dcmpS X37.here hx rfl (hb hby at_167) rfl rfl k) ?_
            show Go _ _ _ _ _ _ _ T37 (mkF m 168 #[.val (.int p0), .val (.int p1), .val (.int p2), .val (.int p3), .val (.int p4), .val (.int (1 : Int32)), .val (.ref b19), .val (.ref b21), .val (.int w), .val (.double (FP.i2d p3)), .second] [(.int (cmpValue (FP.dcmp (slopeW w (1 : Int32) (updN (fun _ => (0 : UInt64)) 0 (FP.i2d p1))) (FP.i2d p3)) .l))])
            refine Go.step (fun _ k => XS.ifNo X37.here hx rfl (hb hby at_168) rfl (eq_y .l (own_i1 hw0 hc120_32 hc131_33).elim).1 k) ?_
            show Go _ _ _ _ _ _ _ T37 (mkF m 171 #[.val (.int p0), .val (.int p1), .val (.int p2), .val (.int p3), .val (.int p4), .val (.int (1 : Int32)), .val (.ref b19), .val (.ref b21), .val (.int w), .val (.double (FP.i2d p3)), .second] [])
            refine Go.step (fun _ k => XS.iconst X37.here hx rfl (hb hby at_171) k) ?_
            show Go _ _ _ _ _ _ _ T37 (mkF m 172 #[.val (.int p0), .val (.int p1), .val (.int p2), .val (.int p3), .val (.int p4), .val (.int (1 : Int32)), .val (.ref b19), .val (.ref b21), .val (.int w), .val (.double (FP.i2d p3)), .second] [(.int (1 : Int32))])
            refine Go.step (fun _ k => XS.goto X37.here hx rfl (pc0 := 172) (pc' := 176) rfl (hb hby at_172) (by decide) (by decide) k) ?_
            show Go _ _ _ _ _ _ _ T37 (mkF m 176 #[.val (.int p0), .val (.int p1), .val (.int p2), .val (.int p3), .val (.int p4), .val (.int (1 : Int32)), .val (.ref b19), .val (.ref b21), .val (.int w), .val (.double (FP.i2d p3)), .second] [(.int (1 : Int32))])
            refine Go.retZ X37 hx hlk hret (by decide) (hb hby at_176) (by decide) (by decide) ?_
            try rw [hh37]
            exact ⟨rfl, N37⟩
      · refine Go.step (fun _ k => XS.icmpNo X23.here hx rfl (hb hby at_120) rfl (flt hc120_32).1 k) ?_
        show Go _ _ _ _ _ _ _ T23 (mkF m 123 #[.val (.int p0), .val (.int p1), .val (.int p2), .val (.int p3), .val (.int p4), .val (.int (1 : Int32)), .val (.ref b19), .val (.ref b21), .val (.int w), .unset, .unset] [])
        refine Go.step (fun _ k => XS.dconst0 X23.here hx rfl (hb hby at_123) rfl k) ?_
        show Go _ _ _ _ _ _ _ T23 (mkF m 124 #[.val (.int p0), .val (.int p1), .val (.int p2), .val (.int p3), .val (.int p4), .val (.int (1 : Int32)), .val (.ref b19), .val (.ref b21), .val (.int w), .unset, .unset] [(.double (0 : UInt64))])
        refine Go.step (fun _ k => XS.dstore X23.here hx rfl (hb hby at_124) rfl (l' := #[.val (.int p0), .val (.int p1), .val (.int p2), .val (.int p3), .val (.int p4), .val (.int (1 : Int32)), .val (.ref b19), .val (.ref b21), .val (.int w), .val (.double (0 : UInt64)), .second]) rfl k) ?_
        show Go _ _ _ _ _ _ _ T23 (mkF m 126 #[.val (.int p0), .val (.int p1), .val (.int p2), .val (.int p3), .val (.int p4), .val (.int (1 : Int32)), .val (.ref b19), .val (.ref b21), .val (.int w), .val (.double (0 : UInt64)), .second] [])
        refine Go.step (fun _ k => XS.goto X23.here hx rfl (pc0 := 126) (pc' := 158) rfl (hb hby at_126) (by decide) (by decide) k) ?_
        show Go _ _ _ _ _ _ _ T23 (mkF m 158 #[.val (.int p0), .val (.int p1), .val (.int p2), .val (.int p3), .val (.int p4), .val (.int (1 : Int32)), .val (.ref b19), .val (.ref b21), .val (.int w), .val (.double (0 : UInt64)), .second] [])
        refine Go.step (fun _ k => XS.aload X23.here hx rfl (hb hby at_158) rfl rfl k) ?_
        show Go _ _ _ _ _ _ _ T23 (mkF m 160 #[.val (.int p0), .val (.int p1), .val (.int p2), .val (.int p3), .val (.int p4), .val (.int (1 : Int32)), .val (.ref b19), .val (.ref b21), .val (.int w), .val (.double (0 : UInt64)), .second] [(.ref b21)])
        refine Go.step (fun _ k => XS.iload X23.here hx rfl (hb hby at_160) rfl k) ?_
        show Go _ _ _ _ _ _ _ T23 (mkF m 162 #[.val (.int p0), .val (.int p1), .val (.int p2), .val (.int p3), .val (.int p4), .val (.int (1 : Int32)), .val (.ref b19), .val (.ref b21), .val (.int w), .val (.double (0 : UInt64)), .second] [(.int w), (.ref b21)])
        refine Go.callV X23 hx hZ (by rw [hml]; rfl) (y := (⟨"com/example/leapwise/leapwise/polytope/HalfSpace", "coefficient", "(I)D"⟩ : MethodName)) (z := (⟨"com/example/leapwise/leapwise/polytope/HalfSpace", "coefficient", "(I)D"⟩ : MethodName)) (a := b21) (argsL := [(.int w)]) (rest := []) hown (hw _ (List.mem_of_getElem? (i := 32) rfl)) (hw _ (List.mem_of_getElem? (i := 33) rfl)) (notFace_of_selects (args := #[]) (mvT hZ (hw _ (List.mem_of_getElem? (i := 35) rfl)))) (hw _ (List.mem_of_getElem? (i := 35) rfl)) (hw _ (List.mem_of_getElem? (i := 34) rfl)) (hw _ (List.mem_of_getElem? (i := 3) rfl)) (hw _ (List.mem_of_getElem? (i := 36) rfl)) (by decide) (rm5 l Z a0 hw b21 w c22 (1 : Int32) (updN (fun _ => (0 : UInt64)) 0 (FP.i2d p1)) h23 n0 (Nat.le_trans Z0 (K23 : Keep h0 h23 []).1) Fc22_23 Vc22_23 hw0) e23 Ec22_23 (hb hby at_162) (lenOf pd_3 rfl) rfl rfl (W := 0) (Nat.le_of_eq rfl) (by decide) (by decide) (by decide) (by decide) ?_
        intro v38 T38 L38 X38 Q38
        obtain ⟨rfl, N38q, hh38⟩ := Q38
        have N38 := Fr.app N23 N38q
        show Go _ _ _ _ _ _ _ T38 (mkF m 165 #[.val (.int p0), .val (.int p1), .val (.int p2), .val (.int p3), .val (.int p4), .val (.int (1 : Int32)), .val (.ref b19), .val (.ref b21), .val (.int w), .val (.double (0 : UInt64)), .second] [(.double (slopeW w (1 : Int32) (updN (fun _ => (0 : UInt64)) 0 (FP.i2d p1))))])
        refine Go.step (fun _ k => XS.dload X38.here hx rfl (hb hby at_165) rfl k) ?_
        show Go _ _ _ _ _ _ _ T38 (mkF m 167 #[.val (.int p0), .val (.int p1), .val (.int p2), .val (.int p3), .val (.int p4), .val (.int (1 : Int32)), .val (.ref b19), .val (.ref b21), .val (.int w), .val (.double (0 : UInt64)), .second] [(.double (0 : UInt64)), (.double (slopeW w (1 : Int32) (updN (fun _ => (0 : UInt64)) 0 (FP.i2d p1))))])
        refine Go.step (fun _ k => XS.dcmpS X38.here hx rfl (hb hby at_167) rfl rfl k) ?_
        show Go _ _ _ _ _ _ _ T38 (mkF m 168 #[.val (.int p0), .val (.int p1), .val (.int p2), .val (.int p3), .val (.int p4), .val (.int (1 : Int32)), .val (.ref b19), .val (.ref b21), .val (.int w), .val (.double (0 : UInt64)), .second] [(.int (cmpValue (FP.dcmp (slopeW w (1 : Int32) (updN (fun _ => (0 : UInt64)) 0 (FP.i2d p1))) (0 : UInt64)) .l))])
        refine Go.step (fun _ k => XS.ifNo X38.here hx rfl (hb hby at_168) rfl (eq_y .l (own_sw0 hc120_32)).1 k) ?_
        show Go _ _ _ _ _ _ _ T38 (mkF m 171 #[.val (.int p0), .val (.int p1), .val (.int p2), .val (.int p3), .val (.int p4), .val (.int (1 : Int32)), .val (.ref b19), .val (.ref b21), .val (.int w), .val (.double (0 : UInt64)), .second] [])
        refine Go.step (fun _ k => XS.iconst X38.here hx rfl (hb hby at_171) k) ?_
        show Go _ _ _ _ _ _ _ T38 (mkF m 172 #[.val (.int p0), .val (.int p1), .val (.int p2), .val (.int p3), .val (.int p4), .val (.int (1 : Int32)), .val (.ref b19), .val (.ref b21), .val (.int w), .val (.double (0 : UInt64)), .second] [(.int (1 : Int32))])
        refine Go.step (fun _ k => XS.goto X38.here hx rfl (pc0 := 172) (pc' := 176) rfl (hb hby at_172) (by decide) (by decide) k) ?_
        show Go _ _ _ _ _ _ _ T38 (mkF m 176 #[.val (.int p0), .val (.int p1), .val (.int p2), .val (.int p3), .val (.int p4), .val (.int (1 : Int32)), .val (.ref b19), .val (.ref b21), .val (.int w), .val (.double (0 : UInt64)), .second] [(.int (1 : Int32))])
        refine Go.retZ X38 hx hlk hret (by decide) (hb hby at_176) (by decide) (by decide) ?_
        try rw [hh38]
        exact ⟨rfl, N38⟩
  · show Go _ _ _ _ _ _ _ T0 (mkF m 5 #[.val (.int p0), .val (.int p1), .val (.int p2), .val (.int p3), .val (.int p4), .val (.int (2 : Int32)), .unset, .unset, .unset, .unset, .unset] [])
    refine Go.step (fun _ k => XS.iload X0.here hx rfl (hb hby at_5) rfl k) ?_
    show Go _ _ _ _ _ _ _ T0 (mkF m 7 #[.val (.int p0), .val (.int p1), .val (.int p2), .val (.int p3), .val (.int p4), .val (.int (2 : Int32)), .unset, .unset, .unset, .unset, .unset] [(.int (2 : Int32))])
    obtain ⟨T39, h39, k39, X39, e39, E39, A39, B39, st39⟩ := newPE X0 hx hZ (hw _ (List.mem_of_getElem? (i := 0) rfl)) e0 (g := (mkF m 7 #[.val (.int p0), .val (.int p1), .val (.int p2), .val (.int p3), .val (.int p4), .val (.int (2 : Int32)), .unset, .unset, .unset, .unset, .unset] [(.int (2 : Int32))])) rfl (hb hby at_7) rfl (by decide) (cap := 2) (by decide) (by decide) (by decide) (by decide) (ad := "[D") (by decide)
    obtain ⟨b39, g39⟩ : ∃ z, z = h0.size := ⟨_, rfl⟩
    rw [← g39] at A39 B39 st39
    refine Go.step st39 ?_
    have K39 : Keep h0 h39 [] := (Keep.refl h0 []).ext E39
    have sz_b39 : h0.size ≤ b39 := Nat.le_trans ((Keep.refl h0 []) : Keep h0 h0 []).1 (Nat.le_of_eq g39.symm)
    have ge_b39 : n0 ≤ b39 := Nat.le_trans Z0 sz_b39
    have V_b39 : Dv Z h39 b39 (2 : Int32) (fun _ => (0 : UInt64)) := Fv.new A39 (by decide)
    have E_b39 := B39
    show Go _ _ _ _ _ _ _ T39 (mkF m 9 #[.val (.int p0), .val (.int p1), .val (.int p2), .val (.int p3), .val (.int p4), .val (.int (2 : Int32)), .unset, .unset, .unset, .unset, .unset] [(.ref b39)])
    refine Go.step (fun _ k => XS.astore X39.here hx rfl (hb hby at_9) rfl rfl (l' := #[.val (.int p0), .val (.int p1), .val (.int p2), .val (.int p3), .val (.int p4), .val (.int (2 : Int32)), .val (.ref b39), .unset, .unset, .unset, .unset]) rfl k) ?_
    show Go _ _ _ _ _ _ _ T39 (mkF m 11 #[.val (.int p0), .val (.int p1), .val (.int p2), .val (.int p3), .val (.int p4), .val (.int (2 : Int32)), .val (.ref b39), .unset, .unset, .unset, .unset] [])
    refine Go.step (fun _ k => XS.iload X39.here hx rfl (hb hby at_11) rfl k) ?_
    show Go _ _ _ _ _ _ _ T39 (mkF m 13 #[.val (.int p0), .val (.int p1), .val (.int p2), .val (.int p3), .val (.int p4), .val (.int (2 : Int32)), .val (.ref b39), .unset, .unset, .unset, .unset] [(.int (2 : Int32))])
    refine Go.step (fun _ k => XS.ifNo X39.here hx rfl (hb hby at_13) rfl ((if0 _ _).trans (tlt (by decide : (0 : Int32) < (2 : Int32))).2.2.2) k) ?_
    show Go _ _ _ _ _ _ _ T39 (mkF m 16 #[.val (.int p0), .val (.int p1), .val (.int p2), .val (.int p3), .val (.int p4), .val (.int (2 : Int32)), .val (.ref b39), .unset, .unset, .unset, .unset] [])
    refine Go.step (fun _ k => XS.aload X39.here hx rfl (hb hby at_16) rfl rfl k) ?_
    show Go _ _ _ _ _ _ _ T39 (mkF m 18 #[.val (.int p0), .val (.int p1), .val (.int p2), .val (.int p3), .val (.int p4), .val (.int (2 : Int32)), .val (.ref b39), .unset, .unset, .unset, .unset] [(.ref b39)])
    refine Go.step (fun _ k => XS.iconst X39.here hx rfl (hb hby at_18) k) ?_
    show Go _ _ _ _ _ _ _ T39 (mkF m 19 #[.val (.int p0), .val (.int p1), .val (.int p2), .val (.int p3), .val (.int p4), .val (.int (2 : Int32)), .val (.ref b39), .unset, .unset, .unset, .unset] [(.int (0 : Int32)), (.ref b39)])
    refine Go.step (fun _ k => XS.iloadN X39.here hx rfl (hb hby at_19) rfl k) ?_
    show Go _ _ _ _ _ _ _ T39 (mkF m 20 #[.val (.int p0), .val (.int p1), .val (.int p2), .val (.int p3), .val (.int p4), .val (.int (2 : Int32)), .val (.ref b39), .unset, .unset, .unset, .unset] [(.int p1), (.int (0 : Int32)), (.ref b39)])
    refine Go.step (fun _ k => XS.i2dS X39.here hx rfl (hb hby at_20) rfl rfl k) ?_
    show Go _ _ _ _ _ _ _ T39 (mkF m 21 #[.val (.int p0), .val (.int p1), .val (.int p2), .val (.int p3), .val (.int p4), .val (.int (2 : Int32)), .val (.ref b39), .unset, .unset, .unset, .unset] [(.double (FP.i2d p1)), (.int (0 : Int32)), (.ref b39)])
    refine Go.dastore X39 hx hZ e39 V_b39 (j := (0 : Int32)) (x := (FP.i2d p1)) (by decide) (hb hby at_21) ?_
    intro T40 h40 X40 e40 W40 Vn40
    have V_b39_40 : Dv Z h40 b39 (2 : Int32) (updN (fun _ => (0 : UInt64)) 0 (FP.i2d p1)) := Vn40
    have N40 := Fr.snoc X40 N0 ge_b39
    have E_b39_40 := E_b39.wr W40
    have K40 : Keep h0 h40 [] := K39.wr W40 (Or.inr sz_b39)
    show Go _ _ _ _ _ _ _ T40 (mkF m 22 #[.val (.int p0), .val (.int p1), .val (.int p2), .val (.int p3), .val (.int p4), .val (.int (2 : Int32)), .val (.ref b39), .unset, .unset, .unset, .unset] [])
    refine Go.step (fun _ k => XS.iload X40.here hx rfl (hb hby at_22) rfl k) ?_
    show Go _ _ _ _ _ _ _ T40 (mkF m 24 #[.val (.int p0), .val (.int p1), .val (.int p2), .val (.int p3), .val (.int p4), .val (.int (2 : Int32)), .val (.ref b39), .unset, .unset, .unset, .unset] [(.int (2 : Int32))])
    refine Go.step (fun _ k => XS.iconst X40.here hx rfl (hb hby at_24) k) ?_
    show Go _ _ _ _ _ _ _ T40 (mkF m 25 #[.val (.int p0), .val (.int p1), .val (.int p2), .val (.int p3), .val (.int p4), .val (.int (2 : Int32)), .val (.ref b39), .unset, .unset, .unset, .unset] [(.int (1 : Int32)), (.int (2 : Int32))])
    refine Go.step (fun _ k => XS.icmpNo X40.here hx rfl (hb hby at_25) rfl (tlt (by decide : (1 : Int32) < (2 : Int32))).2.2.2 k) ?_
    show Go _ _ _ _ _ _ _ T40 (mkF m 28 #[.val (.int p0), .val (.int p1), .val (.int p2), .val (.int p3), .val (.int p4), .val (.int (2 : Int32)), .val (.ref b39), .unset, .unset, .unset, .unset] [])
    refine Go.step (fun _ k => XS.aload X40.here hx rfl (hb hby at_28) rfl rfl k) ?_
    show Go _ _ _ _ _ _ _ T40 (mkF m 30 #[.val (.int p0), .val (.int p1), .val (.int p2), .val (.int p3), .val (.int p4), .val (.int (2 : Int32)), .val (.ref b39), .unset, .unset, .unset, .unset] [(.ref b39)])
    refine Go.step (fun _ k => XS.iconst X40.here hx rfl (hb hby at_30) k) ?_
    show Go _ _ _ _ _ _ _ T40 (mkF m 31 #[.val (.int p0), .val (.int p1), .val (.int p2), .val (.int p3), .val (.int p4), .val (.int (2 : Int32)), .val (.ref b39), .unset, .unset, .unset, .unset] [(.int (1 : Int32)), (.ref b39)])
    refine Go.step (fun _ k => XS.iloadN X40.here hx rfl (hb hby at_31) rfl k) ?_
    show Go _ _ _ _ _ _ _ T40 (mkF m 32 #[.val (.int p0), .val (.int p1), .val (.int p2), .val (.int p3), .val (.int p4), .val (.int (2 : Int32)), .val (.ref b39), .unset, .unset, .unset, .unset] [(.int p2), (.int (1 : Int32)), (.ref b39)])
    refine Go.step (fun _ k => XS.i2dS X40.here hx rfl (hb hby at_32) rfl rfl k) ?_
    show Go _ _ _ _ _ _ _ T40 (mkF m 33 #[.val (.int p0), .val (.int p1), .val (.int p2), .val (.int p3), .val (.int p4), .val (.int (2 : Int32)), .val (.ref b39), .unset, .unset, .unset, .unset] [(.double (FP.i2d p2)), (.int (1 : Int32)), (.ref b39)])
    refine Go.dastore X40 hx hZ e40 V_b39_40 (j := (1 : Int32)) (x := (FP.i2d p2)) (by decide) (hb hby at_33) ?_
    intro T41 h41 X41 e41 W41 Vn41
    have V_b39_41 : Dv Z h41 b39 (2 : Int32) (updN (updN (fun _ => (0 : UInt64)) 0 (FP.i2d p1)) 1 (FP.i2d p2)) := Vn41
    have N41 := Fr.snoc X41 N40 ge_b39
    have E_b39_41 := E_b39_40.wr W41
    have K41 : Keep h0 h41 [] := K40.wr W41 (Or.inr sz_b39)
    show Go _ _ _ _ _ _ _ T41 (mkF m 34 #[.val (.int p0), .val (.int p1), .val (.int p2), .val (.int p3), .val (.int p4), .val (.int (2 : Int32)), .val (.ref b39), .unset, .unset, .unset, .unset] [])
    refine Go.step (fun _ k => XS.iload X41.here hx rfl (hb hby at_34) rfl k) ?_
    show Go _ _ _ _ _ _ _ T41 (mkF m 36 #[.val (.int p0), .val (.int p1), .val (.int p2), .val (.int p3), .val (.int p4), .val (.int (2 : Int32)), .val (.ref b39), .unset, .unset, .unset, .unset] [(.int (2 : Int32))])
    refine Go.step (fun _ k => XS.iconst X41.here hx rfl (hb hby at_36) k) ?_
    show Go _ _ _ _ _ _ _ T41 (mkF m 37 #[.val (.int p0), .val (.int p1), .val (.int p2), .val (.int p3), .val (.int p4), .val (.int (2 : Int32)), .val (.ref b39), .unset, .unset, .unset, .unset] [(.int (2 : Int32)), (.int (2 : Int32))])
    refine Go.step (fun _ k => XS.icmpYes X41.here hx rfl (pc0 := 37) (pc' := 46) rfl (hb hby at_37) rfl (flt (by decide : ¬ ((2 : Int32) < (2 : Int32)))).2.2.2 (by decide) (by decide) k) ?_
    show Go _ _ _ _ _ _ _ T41 (mkF m 46 #[.val (.int p0), .val (.int p1), .val (.int p2), .val (.int p3), .val (.int p4), .val (.int (2 : Int32)), .val (.ref b39), .unset, .unset, .unset, .unset] [])
    obtain ⟨T42, h42, X42, e42, E42, A42, D42, -, st42⟩ := newO X41 hx hZ hown (hw _ (List.mem_of_getElem? (i := 1) rfl)) (hw _ (List.mem_of_getElem? (i := 2) rfl)) (hw _ (List.mem_of_getElem? (i := 3) rfl)) e41 (g := (mkF m 46 #[.val (.int p0), .val (.int p1), .val (.int p2), .val (.int p3), .val (.int p4), .val (.int (2 : Int32)), .val (.ref b39), .unset, .unset, .unset, .unset] [])) rfl (hb hby at_46) (by decide) (by decide)
    obtain ⟨b42, g42⟩ : ∃ z, z = h41.size := ⟨_, rfl⟩
    rw [← g42] at A42 D42 st42
    refine Go.step st42 ?_
    have K42 : Keep h0 h42 [] := K41.ext E42
    have sz_b42 : h0.size ≤ b42 := Nat.le_trans (K41 : Keep h0 h41 []).1 (Nat.le_of_eq g42.symm)
    have ge_b42 : n0 ≤ b42 := Nat.le_trans Z0 sz_b42
    have ne_b39_b42 : b39 ≠ b42 := Nat.ne_of_lt (Nat.lt_of_lt_of_le V_b39_41.lt (Nat.le_of_eq g42.symm))
    have V_b39_42 := V_b39_41.ext E42
    have E_b39_42 := E_b39_41.ext E42
    have E_b42 := A42
    have F_coefficients_b42 : Fld Z h42 b42 "com/example/leapwise/leapwise/polytope/HalfSpace" "coefficients" "[D" .null := D42 (Or.inr (hw _ (List.mem_of_getElem? (i := 29) rfl))) (ty := (.array .double)) (by decide)
    have F_bound_b42 : Fld Z h42 b42 "com/example/leapwise/leapwise/polytope/HalfSpace" "bound" "D" (.double (0 : UInt64)) := D42 (Or.inr (hw _ (List.mem_of_getElem? (i := 31) rfl))) (ty := .double) (by decide)
    show Go _ _ _ _ _ _ _ T42 (mkF m 49 #[.val (.int p0), .val (.int p1), .val (.int p2), .val (.int p3), .val (.int p4), .val (.int (2 : Int32)), .val (.ref b39), .unset, .unset, .unset, .unset] [(.ref b42)])
    refine Go.step (fun _ k => XS.dup X42.here hx rfl (hb hby at_49) rfl rfl k) ?_
    show Go _ _ _ _ _ _ _ T42 (mkF m 50 #[.val (.int p0), .val (.int p1), .val (.int p2), .val (.int p3), .val (.int p4), .val (.int (2 : Int32)), .val (.ref b39), .unset, .unset, .unset, .unset] [(.ref b42), (.ref b42)])
    refine Go.step (fun _ k => XS.aload X42.here hx rfl (hb hby at_50) rfl rfl k) ?_
    show Go _ _ _ _ _ _ _ T42 (mkF m 52 #[.val (.int p0), .val (.int p1), .val (.int p2), .val (.int p3), .val (.int p4), .val (.int (2 : Int32)), .val (.ref b39), .unset, .unset, .unset, .unset] [(.ref b39), (.ref b42), (.ref b42)])
    refine Go.step (fun _ k => XS.dconst0 X42.here hx rfl (hb hby at_52) rfl k) ?_
    show Go _ _ _ _ _ _ _ T42 (mkF m 53 #[.val (.int p0), .val (.int p1), .val (.int p2), .val (.int p3), .val (.int p4), .val (.int (2 : Int32)), .val (.ref b39), .unset, .unset, .unset, .unset] [(.double (0 : UInt64)), (.ref b39), (.ref b42), (.ref b42)])
    refine Go.callI X42 hx hZ (by rw [hml]; rfl) (y := (⟨"com/example/leapwise/leapwise/polytope/HalfSpace", "<init>", "([DD)V"⟩ : MethodName)) (a := b42) (argsL := [(.ref b39), (.double (0 : UInt64))]) (rest := [(.ref b42)]) rfl hown (hw _ (List.mem_of_getElem? (i := 4) rfl)) (hw _ (List.mem_of_getElem? (i := 5) rfl)) (hw _ (List.mem_of_getElem? (i := 3) rfl)) (hw _ (List.mem_of_getElem? (i := 6) rfl)) (by decide) (rm1_2 l Z a0 hw b42 b39 (updN (updN (fun _ => (0 : UInt64)) 0 (FP.i2d p1)) 1 (FP.i2d p2)) h42 n0 (Nat.le_trans Z0 (K42 : Keep h0 h42 []).1) E_b42 F_coefficients_b42 F_bound_b42 E_b39_42 V_b39_42 ge_b42 (Ne.symm ne_b39_b42) (fun i hi' => by rcases (by omega : i = 0 ∨ i = 1) with rfl | rfl <;> exact Jvm.Free.Fl.i2d_fin _)) e42 (hb hby at_53) (lenOf pd_2 rfl) rfl rfl (W := 1) (Nat.le_of_eq rfl) (by decide) (by decide) (by decide) (by decide) ?_
    intro v43 T43 L43 X43 Q43
    obtain ⟨rfl, N43q, Kc43, Ec43, c43, Fc43, Vc43, sc43⟩ := Q43
    have N43 := Fr.app N41 N43q
    have ne_b39_c43 : b39 ≠ c43 := Nat.ne_of_lt (Nat.lt_of_lt_of_le V_b39_42.lt sc43)
    have V_b39_43 := V_b39_42.keep Kc43 (ninS ne_b39_b42 nin0)
    have E_b39_43 := E_b39_42.keep Kc43
    have E_b42_43 := E_b42.keep Kc43
    have KK43 : Keep h0 T43.heap [] := (K42 : Keep h0 h42 []).trans Kc43 (allS (Or.inr sz_b42) all0)
    show Go _ _ _ _ _ _ _ T43 (mkF m 56 #[.val (.int p0), .val (.int p1), .val (.int p2), .val (.int p3), .val (.int p4), .val (.int (2 : Int32)), .val (.ref b39), .unset, .unset, .unset, .unset] [(.ref b42)])
    refine Go.step (fun _ k => XS.astore X43.here hx rfl (hb hby at_56) rfl rfl (l' := #[.val (.int p0), .val (.int p1), .val (.int p2), .val (.int p3), .val (.int p4), .val (.int (2 : Int32)), .val (.ref b39), .val (.ref b42), .unset, .unset, .unset]) rfl k) ?_
    show Go _ _ _ _ _ _ _ T43 (mkF m 58 #[.val (.int p0), .val (.int p1), .val (.int p2), .val (.int p3), .val (.int p4), .val (.int (2 : Int32)), .val (.ref b39), .val (.ref b42), .unset, .unset, .unset] [])
    refine Go.step (fun _ k => XS.iload X43.here hx rfl (hb hby at_58) rfl k) ?_
    show Go _ _ _ _ _ _ _ T43 (mkF m 60 #[.val (.int p0), .val (.int p1), .val (.int p2), .val (.int p3), .val (.int p4), .val (.int (2 : Int32)), .val (.ref b39), .val (.ref b42), .unset, .unset, .unset] [(.int (2 : Int32))])
    refine Go.step (fun _ k => XS.ifNo X43.here hx rfl (hb hby at_60) rfl ((if0 _ _).trans (tlt (by decide : (0 : Int32) < (2 : Int32))).2.2.2) k) ?_
    show Go _ _ _ _ _ _ _ T43 (mkF m 63 #[.val (.int p0), .val (.int p1), .val (.int p2), .val (.int p3), .val (.int p4), .val (.int (2 : Int32)), .val (.ref b39), .val (.ref b42), .unset, .unset, .unset] [])
    refine Go.step (fun _ k => XS.aload X43.here hx rfl (hb hby at_63) rfl rfl k) ?_
    show Go _ _ _ _ _ _ _ T43 (mkF m 65 #[.val (.int p0), .val (.int p1), .val (.int p2), .val (.int p3), .val (.int p4), .val (.int (2 : Int32)), .val (.ref b39), .val (.ref b42), .unset, .unset, .unset] [(.ref b39)])
    refine Go.step (fun _ k => XS.iconst X43.here hx rfl (hb hby at_65) k) ?_
    show Go _ _ _ _ _ _ _ T43 (mkF m 66 #[.val (.int p0), .val (.int p1), .val (.int p2), .val (.int p3), .val (.int p4), .val (.int (2 : Int32)), .val (.ref b39), .val (.ref b42), .unset, .unset, .unset] [(.int (0 : Int32)), (.ref b39)])
    refine Go.step (X43.ldc2DoubleC hx hown (mvT hZ (hw _ (List.mem_of_getElem? (i := 37) rfl))) (g := (mkF m 66 #[.val (.int p0), .val (.int p1), .val (.int p2), .val (.int p3), .val (.int p4), .val (.int (2 : Int32)), .val (.ref b39), .val (.ref b42), .unset, .unset, .unset] [(.int (0 : Int32)), (.ref b39)])) rfl (hb hby at_66)) ?_
    show Go _ _ _ _ _ _ _ T43 (mkF m 69 #[.val (.int p0), .val (.int p1), .val (.int p2), .val (.int p3), .val (.int p4), .val (.int (2 : Int32)), .val (.ref b39), .val (.ref b42), .unset, .unset, .unset] [(.double (4602678819172646912 : UInt64)), (.int (0 : Int32)), (.ref b39)])
    refine Go.dastore X43 hx hZ rfl V_b39_43 (j := (0 : Int32)) (x := (4602678819172646912 : UInt64)) (by decide) (hb hby at_69) ?_
    intro T44 h44 X44 e44 W44 Vn44
    have V_b39_44 : Dv Z h44 b39 (2 : Int32) (updN (updN (updN (fun _ => (0 : UInt64)) 0 (FP.i2d p1)) 1 (FP.i2d p2)) 0 (4602678819172646912 : UInt64)) := Vn44
    have N44 := Fr.snoc X44 N43 ge_b39
    have E_b39_44 := E_b39_43.wr W44
    have Ec43_44 := Ec43.wr W44
    have Fc43_44 := Fc43.other W44 (Or.inl (Ne.symm ne_b39_b42))
    have Vc43_44 := Vc43.other W44 (Ne.symm ne_b39_c43)
    have K44 : Keep h0 h44 [] := KK43.wr W44 (Or.inr sz_b39)
    show Go _ _ _ _ _ _ _ T44 (mkF m 70 #[.val (.int p0), .val (.int p1), .val (.int p2), .val (.int p3), .val (.int p4), .val (.int (2 : Int32)), .val (.ref b39), .val (.ref b42), .unset, .unset, .unset] [])
    refine Go.step (fun _ k => XS.iload X44.here hx rfl (hb hby at_70) rfl k) ?_
    show Go _ _ _ _ _ _ _ T44 (mkF m 72 #[.val (.int p0), .val (.int p1), .val (.int p2), .val (.int p3), .val (.int p4), .val (.int (2 : Int32)), .val (.ref b39), .val (.ref b42), .unset, .unset, .unset] [(.int (2 : Int32))])
    refine Go.step (fun _ k => XS.iconst X44.here hx rfl (hb hby at_72) k) ?_
    show Go _ _ _ _ _ _ _ T44 (mkF m 73 #[.val (.int p0), .val (.int p1), .val (.int p2), .val (.int p3), .val (.int p4), .val (.int (2 : Int32)), .val (.ref b39), .val (.ref b42), .unset, .unset, .unset] [(.int (1 : Int32)), (.int (2 : Int32))])
    refine Go.step (fun _ k => XS.icmpNo X44.here hx rfl (hb hby at_73) rfl (tlt (by decide : (1 : Int32) < (2 : Int32))).2.2.2 k) ?_
    show Go _ _ _ _ _ _ _ T44 (mkF m 76 #[.val (.int p0), .val (.int p1), .val (.int p2), .val (.int p3), .val (.int p4), .val (.int (2 : Int32)), .val (.ref b39), .val (.ref b42), .unset, .unset, .unset] [])
    refine Go.step (fun _ k => XS.aload X44.here hx rfl (hb hby at_76) rfl rfl k) ?_
    show Go _ _ _ _ _ _ _ T44 (mkF m 78 #[.val (.int p0), .val (.int p1), .val (.int p2), .val (.int p3), .val (.int p4), .val (.int (2 : Int32)), .val (.ref b39), .val (.ref b42), .unset, .unset, .unset] [(.ref b39)])
    refine Go.step (fun _ k => XS.iconst X44.here hx rfl (hb hby at_78) k) ?_
    show Go _ _ _ _ _ _ _ T44 (mkF m 79 #[.val (.int p0), .val (.int p1), .val (.int p2), .val (.int p3), .val (.int p4), .val (.int (2 : Int32)), .val (.ref b39), .val (.ref b42), .unset, .unset, .unset] [(.int (1 : Int32)), (.ref b39)])
    refine Go.step (X44.ldc2DoubleC hx hown (mvT hZ (hw _ (List.mem_of_getElem? (i := 37) rfl))) (g := (mkF m 79 #[.val (.int p0), .val (.int p1), .val (.int p2), .val (.int p3), .val (.int p4), .val (.int (2 : Int32)), .val (.ref b39), .val (.ref b42), .unset, .unset, .unset] [(.int (1 : Int32)), (.ref b39)])) rfl (hb hby at_79)) ?_
    show Go _ _ _ _ _ _ _ T44 (mkF m 82 #[.val (.int p0), .val (.int p1), .val (.int p2), .val (.int p3), .val (.int p4), .val (.int (2 : Int32)), .val (.ref b39), .val (.ref b42), .unset, .unset, .unset] [(.double (4602678819172646912 : UInt64)), (.int (1 : Int32)), (.ref b39)])
    refine Go.dastore X44 hx hZ e44 V_b39_44 (j := (1 : Int32)) (x := (4602678819172646912 : UInt64)) (by decide) (hb hby at_82) ?_
    intro T45 h45 X45 e45 W45 Vn45
    have V_b39_45 : Dv Z h45 b39 (2 : Int32) (updN (updN (updN (updN (fun _ => (0 : UInt64)) 0 (FP.i2d p1)) 1 (FP.i2d p2)) 0 (4602678819172646912 : UInt64)) 1 (4602678819172646912 : UInt64)) := Vn45
    have N45 := Fr.snoc X45 N44 ge_b39
    have E_b39_45 := E_b39_44.wr W45
    have Ec43_45 := Ec43_44.wr W45
    have Fc43_45 := Fc43_44.other W45 (Or.inl (Ne.symm ne_b39_b42))
    have Vc43_45 := Vc43_44.other W45 (Ne.symm ne_b39_c43)
    have K45 : Keep h0 h45 [] := K44.wr W45 (Or.inr sz_b39)
    show Go _ _ _ _ _ _ _ T45 (mkF m 83 #[.val (.int p0), .val (.int p1), .val (.int p2), .val (.int p3), .val (.int p4), .val (.int (2 : Int32)), .val (.ref b39), .val (.ref b42), .unset, .unset, .unset] [])
    refine Go.step (fun _ k => XS.iload X45.here hx rfl (hb hby at_83) rfl k) ?_
    show Go _ _ _ _ _ _ _ T45 (mkF m 85 #[.val (.int p0), .val (.int p1), .val (.int p2), .val (.int p3), .val (.int p4), .val (.int (2 : Int32)), .val (.ref b39), .val (.ref b42), .unset, .unset, .unset] [(.int (2 : Int32))])
    refine Go.step (fun _ k => XS.iconst X45.here hx rfl (hb hby at_85) k) ?_
    show Go _ _ _ _ _ _ _ T45 (mkF m 86 #[.val (.int p0), .val (.int p1), .val (.int p2), .val (.int p3), .val (.int p4), .val (.int (2 : Int32)), .val (.ref b39), .val (.ref b42), .unset, .unset, .unset] [(.int (2 : Int32)), (.int (2 : Int32))])
    refine Go.step (fun _ k => XS.icmpYes X45.here hx rfl (pc0 := 86) (pc' := 96) rfl (hb hby at_86) rfl (flt (by decide : ¬ ((2 : Int32) < (2 : Int32)))).2.2.2 (by decide) (by decide) k) ?_
    show Go _ _ _ _ _ _ _ T45 (mkF m 96 #[.val (.int p0), .val (.int p1), .val (.int p2), .val (.int p3), .val (.int p4), .val (.int (2 : Int32)), .val (.ref b39), .val (.ref b42), .unset, .unset, .unset] [])
    refine Go.step (fun _ k => XS.iloadN X45.here hx rfl (hb hby at_96) rfl k) ?_
    show Go _ _ _ _ _ _ _ T45 (mkF m 97 #[.val (.int p0), .val (.int p1), .val (.int p2), .val (.int p3), .val (.int p4), .val (.int (2 : Int32)), .val (.ref b39), .val (.ref b42), .unset, .unset, .unset] [(.int p0)])
    refine Go.step (fun _ k => XS.iconst X45.here hx rfl (hb hby at_97) k) ?_
    show Go _ _ _ _ _ _ _ T45 (mkF m 98 #[.val (.int p0), .val (.int p1), .val (.int p2), .val (.int p3), .val (.int p4), .val (.int (2 : Int32)), .val (.ref b39), .val (.ref b42), .unset, .unset, .unset] [(.int (4 : Int32)), (.int p0)])
    refine Go.step (fun _ k => XS.iand X45.here hx rfl (hb hby at_98) rfl k) ?_
    show Go _ _ _ _ _ _ _ T45 (mkF m 99 #[.val (.int p0), .val (.int p1), .val (.int p2), .val (.int p3), .val (.int p4), .val (.int (2 : Int32)), .val (.ref b39), .val (.ref b42), .unset, .unset, .unset] [(.int (p0 &&& (4 : Int32)))])
    by_cases hc99_46 : (p0 &&& (4 : Int32)) = (0 : Int32)
    · refine Go.step (fun _ k => XS.ifYes X45.here hx rfl (pc0 := 99) (pc' := 110) rfl (hb hby at_99) rfl ((if0 _ _).trans (teq hc99_46).1) (by decide) (by decide) k) ?_
      show Go _ _ _ _ _ _ _ T45 (mkF m 110 #[.val (.int p0), .val (.int p1), .val (.int p2), .val (.int p3), .val (.int p4), .val (.int (2 : Int32)), .val (.ref b39), .val (.ref b42), .unset, .unset, .unset] [])
      refine Go.step (fun _ k => XS.iload X45.here hx rfl (hb hby at_110) rfl k) ?_
      show Go _ _ _ _ _ _ _ T45 (mkF m 112 #[.val (.int p0), .val (.int p1), .val (.int p2), .val (.int p3), .val (.int p4), .val (.int (2 : Int32)), .val (.ref b39), .val (.ref b42), .unset, .unset, .unset] [(.int p4)])
      refine Go.step (fun _ k => XS.iconst X45.here hx rfl (hb hby at_112) k) ?_
      show Go _ _ _ _ _ _ _ T45 (mkF m 113 #[.val (.int p0), .val (.int p1), .val (.int p2), .val (.int p3), .val (.int p4), .val (.int (2 : Int32)), .val (.ref b39), .val (.ref b42), .unset, .unset, .unset] [(.int (3 : Int32)), (.int p4)])
      refine Go.step (fun _ k => XS.iand X45.here hx rfl (hb hby at_113) rfl k) ?_
      show Go _ _ _ _ _ _ _ T45 (mkF m 114 #[.val (.int p0), .val (.int p1), .val (.int p2), .val (.int p3), .val (.int p4), .val (.int (2 : Int32)), .val (.ref b39), .val (.ref b42), .unset, .unset, .unset] [(.int (p4 &&& (3 : Int32)))])
      refine Go.step (fun _ k => XS.istore X45.here hx rfl (hb hby at_114) rfl (l' := #[.val (.int p0), .val (.int p1), .val (.int p2), .val (.int p3), .val (.int p4), .val (.int (2 : Int32)), .val (.ref b39), .val (.ref b42), .val (.int (p4 &&& (3 : Int32))), .unset, .unset]) rfl k) ?_
      have hw0 := own_v2 p4
      obtain ⟨w, h_w⟩ : ∃ z, z = (p4 &&& (3 : Int32)) := ⟨_, rfl⟩
      rw [← h_w]
      rw [← h_w] at hw0
      show Go _ _ _ _ _ _ _ T45 (mkF m 116 #[.val (.int p0), .val (.int p1), .val (.int p2), .val (.int p3), .val (.int p4), .val (.int (2 : Int32)), .val (.ref b39), .val (.ref b42), .val (.int w), .unset, .unset] [])
      refine Go.step (fun _ k => XS.iload X45.here hx rfl (hb hby at_116) rfl k) ?_
      show Go _ _ _ _ _ _ _ T45 (mkF m 118 #[.val (.int p0), .val (.int p1), .val (.int p2), .val (.int p3), .val (.int p4), .val (.int (2 : Int32)), .val (.ref b39), .val (.ref b42), .val (.int w), .unset, .unset] [(.int w)])
      refine Go.step (fun _ k => XS.iload X45.here hx rfl (hb hby at_118) rfl k) ?_
      show Go _ _ _ _ _ _ _ T45 (mkF m 120 #[.val (.int p0), .val (.int p1), .val (.int p2), .val (.int p3), .val (.int p4), .val (.int (2 : Int32)), .val (.ref b39), .val (.ref b42), .val (.int w), .unset, .unset] [(.int (2 : Int32)), (.int w)])
      by_cases hc120_47 : w < (2 : Int32)
      · refine Go.step (fun _ k => XS.icmpYes X45.here hx rfl (pc0 := 120) (pc' := 129) rfl (hb hby at_120) rfl (tlt hc120_47).1 (by decide) (by decide) k) ?_
        show Go _ _ _ _ _ _ _ T45 (mkF m 129 #[.val (.int p0), .val (.int p1), .val (.int p2), .val (.int p3), .val (.int p4), .val (.int (2 : Int32)), .val (.ref b39), .val (.ref b42), .val (.int w), .unset, .unset] [])
        refine Go.step (fun _ k => XS.iload X45.here hx rfl (hb hby at_129) rfl k) ?_
        show Go _ _ _ _ _ _ _ T45 (mkF m 131 #[.val (.int p0), .val (.int p1), .val (.int p2), .val (.int p3), .val (.int p4), .val (.int (2 : Int32)), .val (.ref b39), .val (.ref b42), .val (.int w), .unset, .unset] [(.int w)])
        by_cases hc131_48 : w = (0 : Int32)
        · refine Go.step (fun _ k => XS.ifNo X45.here hx rfl (hb hby at_131) rfl ((if0 _ _).trans (teq hc131_48).2) k) ?_
          show Go _ _ _ _ _ _ _ T45 (mkF m 134 #[.val (.int p0), .val (.int p1), .val (.int p2), .val (.int p3), .val (.int p4), .val (.int (2 : Int32)), .val (.ref b39), .val (.ref b42), .val (.int w), .unset, .unset] [])
          refine Go.step (fun _ k => XS.iloadN X45.here hx rfl (hb hby at_134) rfl k) ?_
          show Go _ _ _ _ _ _ _ T45 (mkF m 135 #[.val (.int p0), .val (.int p1), .val (.int p2), .val (.int p3), .val (.int p4), .val (.int (2 : Int32)), .val (.ref b39), .val (.ref b42), .val (.int w), .unset, .unset] [(.int p1)])
          refine Go.step (fun _ k => XS.i2dS X45.here hx rfl (hb hby at_135) rfl rfl k) ?_
          show Go _ _ _ _ _ _ _ T45 (mkF m 136 #[.val (.int p0), .val (.int p1), .val (.int p2), .val (.int p3), .val (.int p4), .val (.int (2 : Int32)), .val (.ref b39), .val (.ref b42), .val (.int w), .unset, .unset] [(.double (FP.i2d p1))])
          refine Go.step (fun _ k => XS.dstore X45.here hx rfl (hb hby at_136) rfl (l' := #[.val (.int p0), .val (.int p1), .val (.int p2), .val (.int p3), .val (.int p4), .val (.int (2 : Int32)), .val (.ref b39), .val (.ref b42), .val (.int w), .val (.double (FP.i2d p1)), .second]) rfl k) ?_
          show Go _ _ _ _ _ _ _ T45 (mkF m 138 #[.val (.int p0), .val (.int p1), .val (.int p2), .val (.int p3), .val (.int p4), .val (.int (2 : Int32)), .val (.ref b39), .val (.ref b42), .val (.int w), .val (.double (FP.i2d p1)), .second] [])
          refine Go.step (fun _ k => XS.goto X45.here hx rfl (pc0 := 138) (pc' := 158) rfl (hb hby at_138) (by decide) (by decide) k) ?_
          show Go _ _ _ _ _ _ _ T45 (mkF m 158 #[.val (.int p0), .val (.int p1), .val (.int p2), .val (.int p3), .val (.int p4), .val (.int (2 : Int32)), .val (.ref b39), .val (.ref b42), .val (.int w), .val (.double (FP.i2d p1)), .second] [])
          refine Go.step (fun _ k => XS.aload X45.here hx rfl (hb hby at_158) rfl rfl k) ?_
          show Go _ _ _ _ _ _ _ T45 (mkF m 160 #[.val (.int p0), .val (.int p1), .val (.int p2), .val (.int p3), .val (.int p4), .val (.int (2 : Int32)), .val (.ref b39), .val (.ref b42), .val (.int w), .val (.double (FP.i2d p1)), .second] [(.ref b42)])
          refine Go.step (fun _ k => XS.iload X45.here hx rfl (hb hby at_160) rfl k) ?_
          show Go _ _ _ _ _ _ _ T45 (mkF m 162 #[.val (.int p0), .val (.int p1), .val (.int p2), .val (.int p3), .val (.int p4), .val (.int (2 : Int32)), .val (.ref b39), .val (.ref b42), .val (.int w), .val (.double (FP.i2d p1)), .second] [(.int w), (.ref b42)])
          refine Go.callV X45 hx hZ (by rw [hml]; rfl) (y := (⟨"com/example/leapwise/leapwise/polytope/HalfSpace", "coefficient", "(I)D"⟩ : MethodName)) (z := (⟨"com/example/leapwise/leapwise/polytope/HalfSpace", "coefficient", "(I)D"⟩ : MethodName)) (a := b42) (argsL := [(.int w)]) (rest := []) hown (hw _ (List.mem_of_getElem? (i := 32) rfl)) (hw _ (List.mem_of_getElem? (i := 33) rfl)) (notFace_of_selects (args := #[]) (mvT hZ (hw _ (List.mem_of_getElem? (i := 35) rfl)))) (hw _ (List.mem_of_getElem? (i := 35) rfl)) (hw _ (List.mem_of_getElem? (i := 34) rfl)) (hw _ (List.mem_of_getElem? (i := 3) rfl)) (hw _ (List.mem_of_getElem? (i := 36) rfl)) (by decide) (rm5 l Z a0 hw b42 w c43 (2 : Int32) (updN (updN (fun _ => (0 : UInt64)) 0 (FP.i2d p1)) 1 (FP.i2d p2)) h45 n0 (Nat.le_trans Z0 (K45 : Keep h0 h45 []).1) Fc43_45 Vc43_45 hw0) e45 Ec43_45 (hb hby at_162) (lenOf pd_3 rfl) rfl rfl (W := 0) (Nat.le_of_eq rfl) (by decide) (by decide) (by decide) (by decide) ?_
          intro v49 T49 L49 X49 Q49
          obtain ⟨rfl, N49q, hh49⟩ := Q49
          have N49 := Fr.app N45 N49q
          show Go _ _ _ _ _ _ _ T49 (mkF m 165 #[.val (.int p0), .val (.int p1), .val (.int p2), .val (.int p3), .val (.int p4), .val (.int (2 : Int32)), .val (.ref b39), .val (.ref b42), .val (.int w), .val (.double (FP.i2d p1)), .second] [(.double (slopeW w (2 : Int32) (updN (updN (fun _ => (0 : UInt64)) 0 (FP.i2d p1)) 1 (FP.i2d p2))))])
          refine Go.step (fun _ k => XS.dload X49.here hx rfl (hb hby at_165) rfl k) ?_
          show Go _ _ _ _ _ _ _ T49 (mkF m 167 #[.val (.int p0), .val (.int p1), .val (.int p2), .val (.int p3), .val (.int p4), .val (.int (2 : Int32)), .val (.ref b39), .val (.ref b42), .val (.int w), .val (.double (FP.i2d p1)), .second] [(.double (FP.i2d p1)), (.double (slopeW w (2 : Int32) (updN (updN (fun _ => (0 : UInt64)) 0 (FP.i2d p1)) 1 (FP.i2d p2))))])
          refine Go.step (fun _ k => XS.dcmpS X49.here hx rfl (hb hby at_167) rfl rfl k) ?_
          show Go _ _ _ _ _ _ _ T49 (mkF m 168 #[.val (.int p0), .val (.int p1), .val (.int p2), .val (.int p3), .val (.int p4), .val (.int (2 : Int32)), .val (.ref b39), .val (.ref b42), .val (.int w), .val (.double (FP.i2d p1)), .second] [(.int (cmpValue (FP.dcmp (slopeW w (2 : Int32) (updN (updN (fun _ => (0 : UInt64)) 0 (FP.i2d p1)) 1 (FP.i2d p2))) (FP.i2d p1)) .l))])
          refine Go.step (fun _ k => XS.ifNo X49.here hx rfl (hb hby at_168) rfl (eq_y .l (own_eqI (own_sw hc120_47 hc131_48 rfl))).1 k) ?_
          show Go _ _ _ _ _ _ _ T49 (mkF m 171 #[.val (.int p0), .val (.int p1), .val (.int p2), .val (.int p3), .val (.int p4), .val (.int (2 : Int32)), .val (.ref b39), .val (.ref b42), .val (.int w), .val (.double (FP.i2d p1)), .second] [])
          refine Go.step (fun _ k => XS.iconst X49.here hx rfl (hb hby at_171) k) ?_
          show Go _ _ _ _ _ _ _ T49 (mkF m 172 #[.val (.int p0), .val (.int p1), .val (.int p2), .val (.int p3), .val (.int p4), .val (.int (2 : Int32)), .val (.ref b39), .val (.ref b42), .val (.int w), .val (.double (FP.i2d p1)), .second] [(.int (1 : Int32))])
          refine Go.step (fun _ k => XS.goto X49.here hx rfl (pc0 := 172) (pc' := 176) rfl (hb hby at_172) (by decide) (by decide) k) ?_
          show Go _ _ _ _ _ _ _ T49 (mkF m 176 #[.val (.int p0), .val (.int p1), .val (.int p2), .val (.int p3), .val (.int p4), .val (.int (2 : Int32)), .val (.ref b39), .val (.ref b42), .val (.int w), .val (.double (FP.i2d p1)), .second] [(.int (1 : Int32))])
          refine Go.retZ X49 hx hlk hret (by decide) (hb hby at_176) (by decide) (by decide) ?_
          try rw [hh49]
          exact ⟨rfl, N49⟩
        · refine Go.step (fun _ k => XS.ifYes X45.here hx rfl (pc0 := 131) (pc' := 141) rfl (hb hby at_131) rfl ((if0 _ _).trans (feq hc131_48).2) (by decide) (by decide) k) ?_
          show Go _ _ _ _ _ _ _ T45 (mkF m 141 #[.val (.int p0), .val (.int p1), .val (.int p2), .val (.int p3), .val (.int p4), .val (.int (2 : Int32)), .val (.ref b39), .val (.ref b42), .val (.int w), .unset, .unset] [])
          refine Go.step (fun _ k => XS.iload X45.here hx rfl (hb hby at_141) rfl k) ?_
          show Go _ _ _ _ _ _ _ T45 (mkF m 143 #[.val (.int p0), .val (.int p1), .val (.int p2), .val (.int p3), .val (.int p4), .val (.int (2 : Int32)), .val (.ref b39), .val (.ref b42), .val (.int w), .unset, .unset] [(.int w)])
          refine Go.step (fun _ k => XS.iconst X45.here hx rfl (hb hby at_143) k) ?_
          show Go _ _ _ _ _ _ _ T45 (mkF m 144 #[.val (.int p0), .val (.int p1), .val (.int p2), .val (.int p3), .val (.int p4), .val (.int (2 : Int32)), .val (.ref b39), .val (.ref b42), .val (.int w), .unset, .unset] [(.int (1 : Int32)), (.int w)])
          by_cases hc144_50 : w = (1 : Int32)
          · refine Go.step (fun _ k => XS.icmpNo X45.here hx rfl (hb hby at_144) rfl (teq hc144_50).2 k) ?_
            show Go _ _ _ _ _ _ _ T45 (mkF m 147 #[.val (.int p0), .val (.int p1), .val (.int p2), .val (.int p3), .val (.int p4), .val (.int (2 : Int32)), .val (.ref b39), .val (.ref b42), .val (.int w), .unset, .unset] [])
            refine Go.step (fun _ k => XS.iloadN X45.here hx rfl (hb hby at_147) rfl k) ?_
            show Go _ _ _ _ _ _ _ T45 (mkF m 148 #[.val (.int p0), .val (.int p1), .val (.int p2), .val (.int p3), .val (.int p4), .val (.int (2 : Int32)), .val (.ref b39), .val (.ref b42), .val (.int w), .unset, .unset] [(.int p2)])
            refine Go.step (fun _ k => XS.i2dS X45.here hx rfl (hb hby at_148) rfl rfl k) ?_
            show Go _ _ _ _ _ _ _ T45 (mkF m 149 #[.val (.int p0), .val (.int p1), .val (.int p2), .val (.int p3), .val (.int p4), .val (.int (2 : Int32)), .val (.ref b39), .val (.ref b42), .val (.int w), .unset, .unset] [(.double (FP.i2d p2))])
            refine Go.step (fun _ k => XS.dstore X45.here hx rfl (hb hby at_149) rfl (l' := #[.val (.int p0), .val (.int p1), .val (.int p2), .val (.int p3), .val (.int p4), .val (.int (2 : Int32)), .val (.ref b39), .val (.ref b42), .val (.int w), .val (.double (FP.i2d p2)), .second]) rfl k) ?_
            show Go _ _ _ _ _ _ _ T45 (mkF m 151 #[.val (.int p0), .val (.int p1), .val (.int p2), .val (.int p3), .val (.int p4), .val (.int (2 : Int32)), .val (.ref b39), .val (.ref b42), .val (.int w), .val (.double (FP.i2d p2)), .second] [])
            refine Go.step (fun _ k => XS.goto X45.here hx rfl (pc0 := 151) (pc' := 158) rfl (hb hby at_151) (by decide) (by decide) k) ?_
            show Go _ _ _ _ _ _ _ T45 (mkF m 158 #[.val (.int p0), .val (.int p1), .val (.int p2), .val (.int p3), .val (.int p4), .val (.int (2 : Int32)), .val (.ref b39), .val (.ref b42), .val (.int w), .val (.double (FP.i2d p2)), .second] [])
            refine Go.step (fun _ k => XS.aload X45.here hx rfl (hb hby at_158) rfl rfl k) ?_
            show Go _ _ _ _ _ _ _ T45 (mkF m 160 #[.val (.int p0), .val (.int p1), .val (.int p2), .val (.int p3), .val (.int p4), .val (.int (2 : Int32)), .val (.ref b39), .val (.ref b42), .val (.int w), .val (.double (FP.i2d p2)), .second] [(.ref b42)])
            refine Go.step (fun _ k => XS.iload X45.here hx rfl (hb hby at_160) rfl k) ?_
            show Go _ _ _ _ _ _ _ T45 (mkF m 162 #[.val (.int p0), .val (.int p1), .val (.int p2), .val (.int p3), .val (.int p4), .val (.int (2 : Int32)), .val (.ref b39), .val (.ref b42), .val (.int w), .val (.double (FP.i2d p2)), .second] [(.int w), (.ref b42)])
            refine Go.callV X45 hx hZ (by rw [hml]; rfl) (y := (⟨"com/example/leapwise/leapwise/polytope/HalfSpace", "coefficient", "(I)D"⟩ : MethodName)) (z := (⟨"com/example/leapwise/leapwise/polytope/HalfSpace", "coefficient", "(I)D"⟩ : MethodName)) (a := b42) (argsL := [(.int w)]) (rest := []) hown (hw _ (List.mem_of_getElem? (i := 32) rfl)) (hw _ (List.mem_of_getElem? (i := 33) rfl)) (notFace_of_selects (args := #[]) (mvT hZ (hw _ (List.mem_of_getElem? (i := 35) rfl)))) (hw _ (List.mem_of_getElem? (i := 35) rfl)) (hw _ (List.mem_of_getElem? (i := 34) rfl)) (hw _ (List.mem_of_getElem? (i := 3) rfl)) (hw _ (List.mem_of_getElem? (i := 36) rfl)) (by decide) (rm5 l Z a0 hw b42 w c43 (2 : Int32) (updN (updN (fun _ => (0 : UInt64)) 0 (FP.i2d p1)) 1 (FP.i2d p2)) h45 n0 (Nat.le_trans Z0 (K45 : Keep h0 h45 []).1) Fc43_45 Vc43_45 hw0) e45 Ec43_45 (hb hby at_162) (lenOf pd_3 rfl) rfl rfl (W := 0) (Nat.le_of_eq rfl) (by decide) (by decide) (by decide) (by decide) ?_
            intro v51 T51 L51 X51 Q51
            obtain ⟨rfl, N51q, hh51⟩ := Q51
            have N51 := Fr.app N45 N51q
            show Go _ _ _ _ _ _ _ T51 (mkF m 165 #[.val (.int p0), .val (.int p1), .val (.int p2), .val (.int p3), .val (.int p4), .val (.int (2 : Int32)), .val (.ref b39), .val (.ref b42), .val (.int w), .val (.double (FP.i2d p2)), .second] [(.double (slopeW w (2 : Int32) (updN (updN (fun _ => (0 : UInt64)) 0 (FP.i2d p1)) 1 (FP.i2d p2))))])
            refine Go.step (fun _ k => XS.dload X51.here hx rfl (hb hby at_165) rfl k) ?_
            show Go _ _ _ _ _ _ _ T51 (mkF m 167 #[.val (.int p0), .val (.int p1), .val (.int p2), .val (.int p3), .val (.int p4), .val (.int (2 : Int32)), .val (.ref b39), .val (.ref b42), .val (.int w), .val (.double (FP.i2d p2)), .second] [(.double (FP.i2d p2)), (.double (slopeW w (2 : Int32) (updN (updN (fun _ => (0 : UInt64)) 0 (FP.i2d p1)) 1 (FP.i2d p2))))])
            refine Go.step (fun _ k => XS.dcmpS X51.here hx rfl (hb hby at_167) rfl rfl k) ?_
            show Go _ _ _ _ _ _ _ T51 (mkF m 168 #[.val (.int p0), .val (.int p1), .val (.int p2), .val (.int p3), .val (.int p4), .val (.int (2 : Int32)), .val (.ref b39), .val (.ref b42), .val (.int w), .val (.double (FP.i2d p2)), .second] [(.int (cmpValue (FP.dcmp (slopeW w (2 : Int32) (updN (updN (fun _ => (0 : UInt64)) 0 (FP.i2d p1)) 1 (FP.i2d p2))) (FP.i2d p2)) .l))])
            refine Go.step (fun _ k => XS.ifNo X51.here hx rfl (hb hby at_168) rfl (eq_y .l (own_eqI (own_sw hc120_47 hc144_50 rfl))).1 k) ?_
            show Go _ _ _ _ _ _ _ T51 (mkF m 171 #[.val (.int p0), .val (.int p1), .val (.int p2), .val (.int p3), .val (.int p4), .val (.int (2 : Int32)), .val (.ref b39), .val (.ref b42), .val (.int w), .val (.double (FP.i2d p2)), .second] [])
            refine Go.step (fun _ k => XS.iconst X51.here hx rfl (hb hby at_171) k) ?_
            show Go _ _ _ _ _ _ _ T51 (mkF m 172 #[.val (.int p0), .val (.int p1), .val (.int p2), .val (.int p3), .val (.int p4), .val (.int (2 : Int32)), .val (.ref b39), .val (.ref b42), .val (.int w), .val (.double (FP.i2d p2)), .second] [(.int (1 : Int32))])
            refine Go.step (fun _ k => XS.goto X51.here hx rfl (pc0 := 172) (pc' := 176) rfl (hb hby at_172) (by decide) (by decide) k) ?_
            show Go _ _ _ _ _ _ _ T51 (mkF m 176 #[.val (.int p0), .val (.int p1), .val (.int p2), .val (.int p3), .val (.int p4), .val (.int (2 : Int32)), .val (.ref b39), .val (.ref b42), .val (.int w), .val (.double (FP.i2d p2)), .second] [(.int (1 : Int32))])
            refine Go.retZ X51 hx hlk hret (by decide) (hb hby at_176) (by decide) (by decide) ?_
            try rw [hh51]
            exact ⟨rfl, N51⟩
          · refine Go.step (fun _ k => XS.icmpYes X45.here hx rfl (pc0 := 144) (pc' := 154) rfl (hb hby at_144) rfl (feq hc144_50).2 (by decide) (by decide) k) ?_
            show Go _ _ _ _ _ _ _ T45 (mkF m 154 #[.val (.int p0), .val (.int p1), .val (.int p2), .val (.int p3), .val (.int p4), .val (.int (2 : Int32)), .val (.ref b39), .val (.ref b42), .val (.int w), .unset, .unset] [])
            refine Go.step (fun _ k => XS.iloadN X45.here hx rfl (hb hby at_154) rfl k) ?_
            show Go _ _ _ _ _ _ _ T45 (mkF m 155 #[.val (.int p0), .val (.int p1), .val (.int p2), .val (.int p3), .val (.int p4), .val (.int (2 : Int32)), .val (.ref b39), .val (.ref b42), .val (.int w), .unset, .unset] [(.int p3)])
            refine Go.step (fun _ k => XS.i2dS X45.here hx rfl (hb hby at_155) rfl rfl k) ?_
            show Go _ _ _ _ _ _ _ T45 (mkF m 156 #[.val (.int p0), .val (.int p1), .val (.int p2), .val (.int p3), .val (.int p4), .val (.int (2 : Int32)), .val (.ref b39), .val (.ref b42), .val (.int w), .unset, .unset] [(.double (FP.i2d p3))])
            refine Go.step (fun _ k => XS.dstore X45.here hx rfl (hb hby at_156) rfl (l' := #[.val (.int p0), .val (.int p1), .val (.int p2), .val (.int p3), .val (.int p4), .val (.int (2 : Int32)), .val (.ref b39), .val (.ref b42), .val (.int w), .val (.double (FP.i2d p3)), .second]) rfl k) ?_
            show Go _ _ _ _ _ _ _ T45 (mkF m 158 #[.val (.int p0), .val (.int p1), .val (.int p2), .val (.int p3), .val (.int p4), .val (.int (2 : Int32)), .val (.ref b39), .val (.ref b42), .val (.int w), .val (.double (FP.i2d p3)), .second] [])
            refine Go.step (fun _ k => XS.aload X45.here hx rfl (hb hby at_158) rfl rfl k) ?_
            show Go _ _ _ _ _ _ _ T45 (mkF m 160 #[.val (.int p0), .val (.int p1), .val (.int p2), .val (.int p3), .val (.int p4), .val (.int (2 : Int32)), .val (.ref b39), .val (.ref b42), .val (.int w), .val (.double (FP.i2d p3)), .second] [(.ref b42)])
            refine Go.step (fun _ k => XS.iload X45.here hx rfl (hb hby at_160) rfl k) ?_
            show Go _ _ _ _ _ _ _ T45 (mkF m 162 #[.val (.int p0), .val (.int p1), .val (.int p2), .val (.int p3), .val (.int p4), .val (.int (2 : Int32)), .val (.ref b39), .val (.ref b42), .val (.int w), .val (.double (FP.i2d p3)), .second] [(.int w), (.ref b42)])
            refine Go.callV X45 hx hZ (by rw [hml]; rfl) (y := (⟨"com/example/leapwise/leapwise/polytope/HalfSpace", "coefficient", "(I)D"⟩ : MethodName)) (z := (⟨"com/example/leapwise/leapwise/polytope/HalfSpace", "coefficient", "(I)D"⟩ : MethodName)) (a := b42) (argsL := [(.int w)]) (rest := []) hown (hw _ (List.mem_of_getElem? (i := 32) rfl)) (hw _ (List.mem_of_getElem? (i := 33) rfl)) (notFace_of_selects (args := #[]) (mvT hZ (hw _ (List.mem_of_getElem? (i := 35) rfl)))) (hw _ (List.mem_of_getElem? (i := 35) rfl)) (hw _ (List.mem_of_getElem? (i := 34) rfl)) (hw _ (List.mem_of_getElem? (i := 3) rfl)) (hw _ (List.mem_of_getElem? (i := 36) rfl)) (by decide) (rm5 l Z a0 hw b42 w c43 (2 : Int32) (updN (updN (fun _ => (0 : UInt64)) 0 (FP.i2d p1)) 1 (FP.i2d p2)) h45 n0 (Nat.le_trans Z0 (K45 : Keep h0 h45 []).1) Fc43_45 Vc43_45 hw0) e45 Ec43_45 (hb hby at_162) (lenOf pd_3 rfl) rfl rfl (W := 0) (Nat.le_of_eq rfl) (by decide) (by decide) (by decide) (by decide) ?_
            intro v52 T52 L52 X52 Q52
            obtain ⟨rfl, N52q, hh52⟩ := Q52
            have N52 := Fr.app N45 N52q
            show Go _ _ _ _ _ _ _ T52 (mkF m 165 #[.val (.int p0), .val (.int p1), .val (.int p2), .val (.int p3), .val (.int p4), .val (.int (2 : Int32)), .val (.ref b39), .val (.ref b42), .val (.int w), .val (.double (FP.i2d p3)), .second] [(.double (slopeW w (2 : Int32) (updN (updN (fun _ => (0 : UInt64)) 0 (FP.i2d p1)) 1 (FP.i2d p2))))])
            refine Go.step (fun _ k => XS.dload X52.here hx rfl (hb hby at_165) rfl k) ?_
            show Go _ _ _ _ _ _ _ T52 (mkF m 167 #[.val (.int p0), .val (.int p1), .val (.int p2), .val (.int p3), .val (.int p4), .val (.int (2 : Int32)), .val (.ref b39), .val (.ref b42), .val (.int w), .val (.double (FP.i2d p3)), .second] [(.double (FP.i2d p3)), (.double (slopeW w (2 : Int32) (updN (updN (fun _ => (0 : UInt64)) 0 (FP.i2d p1)) 1 (FP.i2d p2))))])
            refine Go.step (fun _ k => XS.dcmpS X52.here hx rfl (hb hby at_167) rfl rfl k) ?_
            show Go _ _ _ _ _ _ _ T52 (mkF m 168 #[.val (.int p0), .val (.int p1), .val (.int p2), .val (.int p3), .val (.int p4), .val (.int (2 : Int32)), .val (.ref b39), .val (.ref b42), .val (.int w), .val (.double (FP.i2d p3)), .second] [(.int (cmpValue (FP.dcmp (slopeW w (2 : Int32) (updN (updN (fun _ => (0 : UInt64)) 0 (FP.i2d p1)) 1 (FP.i2d p2))) (FP.i2d p3)) .l))])
            refine Go.step (fun _ k => XS.ifNo X52.here hx rfl (hb hby at_168) rfl (eq_y .l (own_i2 hw0 hc120_47 hc131_48 hc144_50).elim).1 k) ?_
            show Go _ _ _ _ _ _ _ T52 (mkF m 171 #[.val (.int p0), .val (.int p1), .val (.int p2), .val (.int p3), .val (.int p4), .val (.int (2 : Int32)), .val (.ref b39), .val (.ref b42), .val (.int w), .val (.double (FP.i2d p3)), .second] [])
            refine Go.step (fun _ k => XS.iconst X52.here hx rfl (hb hby at_171) k) ?_
            show Go _ _ _ _ _ _ _ T52 (mkF m 172 #[.val (.int p0), .val (.int p1), .val (.int p2), .val (.int p3), .val (.int p4), .val (.int (2 : Int32)), .val (.ref b39), .val (.ref b42), .val (.int w), .val (.double (FP.i2d p3)), .second] [(.int (1 : Int32))])
            refine Go.step (fun _ k => XS.goto X52.here hx rfl (pc0 := 172) (pc' := 176) rfl (hb hby at_172) (by decide) (by decide) k) ?_
            show Go _ _ _ _ _ _ _ T52 (mkF m 176 #[.val (.int p0), .val (.int p1), .val (.int p2), .val (.int p3), .val (.int p4), .val (.int (2 : Int32)), .val (.ref b39), .val (.ref b42), .val (.int w), .val (.double (FP.i2d p3)), .second] [(.int (1 : Int32))])
            refine Go.retZ X52 hx hlk hret (by decide) (hb hby at_176) (by decide) (by decide) ?_
            try rw [hh52]
            exact ⟨rfl, N52⟩
      · refine Go.step (fun _ k => XS.icmpNo X45.here hx rfl (hb hby at_120) rfl (flt hc120_47).1 k) ?_
        show Go _ _ _ _ _ _ _ T45 (mkF m 123 #[.val (.int p0), .val (.int p1), .val (.int p2), .val (.int p3), .val (.int p4), .val (.int (2 : Int32)), .val (.ref b39), .val (.ref b42), .val (.int w), .unset, .unset] [])
        refine Go.step (fun _ k => XS.dconst0 X45.here hx rfl (hb hby at_123) rfl k) ?_
        show Go _ _ _ _ _ _ _ T45 (mkF m 124 #[.val (.int p0), .val (.int p1), .val (.int p2), .val (.int p3), .val (.int p4), .val (.int (2 : Int32)), .val (.ref b39), .val (.ref b42), .val (.int w), .unset, .unset] [(.double (0 : UInt64))])
        refine Go.step (fun _ k => XS.dstore X45.here hx rfl (hb hby at_124) rfl (l' := #[.val (.int p0), .val (.int p1), .val (.int p2), .val (.int p3), .val (.int p4), .val (.int (2 : Int32)), .val (.ref b39), .val (.ref b42), .val (.int w), .val (.double (0 : UInt64)), .second]) rfl k) ?_
        show Go _ _ _ _ _ _ _ T45 (mkF m 126 #[.val (.int p0), .val (.int p1), .val (.int p2), .val (.int p3), .val (.int p4), .val (.int (2 : Int32)), .val (.ref b39), .val (.ref b42), .val (.int w), .val (.double (0 : UInt64)), .second] [])
        refine Go.step (fun _ k => XS.goto X45.here hx rfl (pc0 := 126) (pc' := 158) rfl (hb hby at_126) (by decide) (by decide) k) ?_
        show Go _ _ _ _ _ _ _ T45 (mkF m 158 #[.val (.int p0), .val (.int p1), .val (.int p2), .val (.int p3), .val (.int p4), .val (.int (2 : Int32)), .val (.ref b39), .val (.ref b42), .val (.int w), .val (.double (0 : UInt64)), .second] [])
        refine Go.step (fun _ k => XS.aload X45.here hx rfl (hb hby at_158) rfl rfl k) ?_
        show Go _ _ _ _ _ _ _ T45 (mkF m 160 #[.val (.int p0), .val (.int p1), .val (.int p2), .val (.int p3), .val (.int p4), .val (.int (2 : Int32)), .val (.ref b39), .val (.ref b42), .val (.int w), .val (.double (0 : UInt64)), .second] [(.ref b42)])
        refine Go.step (fun _ k => XS.iload X45.here hx rfl (hb hby at_160) rfl k) ?_
        show Go _ _ _ _ _ _ _ T45 (mkF m 162 #[.val (.int p0), .val (.int p1), .val (.int p2), .val (.int p3), .val (.int p4), .val (.int (2 : Int32)), .val (.ref b39), .val (.ref b42), .val (.int w), .val (.double (0 : UInt64)), .second] [(.int w), (.ref b42)])
        refine Go.callV X45 hx hZ (by rw [hml]; rfl) (y := (⟨"com/example/leapwise/leapwise/polytope/HalfSpace", "coefficient", "(I)D"⟩ : MethodName)) (z := (⟨"com/example/leapwise/leapwise/polytope/HalfSpace", "coefficient", "(I)D"⟩ : MethodName)) (a := b42) (argsL := [(.int w)]) (rest := []) hown (hw _ (List.mem_of_getElem? (i := 32) rfl)) (hw _ (List.mem_of_getElem? (i := 33) rfl)) (notFace_of_selects (args := #[]) (mvT hZ (hw _ (List.mem_of_getElem? (i := 35) rfl)))) (hw _ (List.mem_of_getElem? (i := 35) rfl)) (hw _ (List.mem_of_getElem? (i := 34) rfl)) (hw _ (List.mem_of_getElem? (i := 3) rfl)) (hw _ (List.mem_of_getElem? (i := 36) rfl)) (by decide) (rm5 l Z a0 hw b42 w c43 (2 : Int32) (updN (updN (fun _ => (0 : UInt64)) 0 (FP.i2d p1)) 1 (FP.i2d p2)) h45 n0 (Nat.le_trans Z0 (K45 : Keep h0 h45 []).1) Fc43_45 Vc43_45 hw0) e45 Ec43_45 (hb hby at_162) (lenOf pd_3 rfl) rfl rfl (W := 0) (Nat.le_of_eq rfl) (by decide) (by decide) (by decide) (by decide) ?_
        intro v53 T53 L53 X53 Q53
        obtain ⟨rfl, N53q, hh53⟩ := Q53
        have N53 := Fr.app N45 N53q
        show Go _ _ _ _ _ _ _ T53 (mkF m 165 #[.val (.int p0), .val (.int p1), .val (.int p2), .val (.int p3), .val (.int p4), .val (.int (2 : Int32)), .val (.ref b39), .val (.ref b42), .val (.int w), .val (.double (0 : UInt64)), .second] [(.double (slopeW w (2 : Int32) (updN (updN (fun _ => (0 : UInt64)) 0 (FP.i2d p1)) 1 (FP.i2d p2))))])
        refine Go.step (fun _ k => XS.dload X53.here hx rfl (hb hby at_165) rfl k) ?_
        show Go _ _ _ _ _ _ _ T53 (mkF m 167 #[.val (.int p0), .val (.int p1), .val (.int p2), .val (.int p3), .val (.int p4), .val (.int (2 : Int32)), .val (.ref b39), .val (.ref b42), .val (.int w), .val (.double (0 : UInt64)), .second] [(.double (0 : UInt64)), (.double (slopeW w (2 : Int32) (updN (updN (fun _ => (0 : UInt64)) 0 (FP.i2d p1)) 1 (FP.i2d p2))))])
        refine Go.step (fun _ k => XS.dcmpS X53.here hx rfl (hb hby at_167) rfl rfl k) ?_
        show Go _ _ _ _ _ _ _ T53 (mkF m 168 #[.val (.int p0), .val (.int p1), .val (.int p2), .val (.int p3), .val (.int p4), .val (.int (2 : Int32)), .val (.ref b39), .val (.ref b42), .val (.int w), .val (.double (0 : UInt64)), .second] [(.int (cmpValue (FP.dcmp (slopeW w (2 : Int32) (updN (updN (fun _ => (0 : UInt64)) 0 (FP.i2d p1)) 1 (FP.i2d p2))) (0 : UInt64)) .l))])
        refine Go.step (fun _ k => XS.ifNo X53.here hx rfl (hb hby at_168) rfl (eq_y .l (own_sw0 hc120_47)).1 k) ?_
        show Go _ _ _ _ _ _ _ T53 (mkF m 171 #[.val (.int p0), .val (.int p1), .val (.int p2), .val (.int p3), .val (.int p4), .val (.int (2 : Int32)), .val (.ref b39), .val (.ref b42), .val (.int w), .val (.double (0 : UInt64)), .second] [])
        refine Go.step (fun _ k => XS.iconst X53.here hx rfl (hb hby at_171) k) ?_
        show Go _ _ _ _ _ _ _ T53 (mkF m 172 #[.val (.int p0), .val (.int p1), .val (.int p2), .val (.int p3), .val (.int p4), .val (.int (2 : Int32)), .val (.ref b39), .val (.ref b42), .val (.int w), .val (.double (0 : UInt64)), .second] [(.int (1 : Int32))])
        refine Go.step (fun _ k => XS.goto X53.here hx rfl (pc0 := 172) (pc' := 176) rfl (hb hby at_172) (by decide) (by decide) k) ?_
        show Go _ _ _ _ _ _ _ T53 (mkF m 176 #[.val (.int p0), .val (.int p1), .val (.int p2), .val (.int p3), .val (.int p4), .val (.int (2 : Int32)), .val (.ref b39), .val (.ref b42), .val (.int w), .val (.double (0 : UInt64)), .second] [(.int (1 : Int32))])
        refine Go.retZ X53 hx hlk hret (by decide) (hb hby at_176) (by decide) (by decide) ?_
        try rw [hh53]
        exact ⟨rfl, N53⟩
    · refine Go.step (fun _ k => XS.ifNo X45.here hx rfl (hb hby at_99) rfl ((if0 _ _).trans (feq hc99_46).1) k) ?_
      show Go _ _ _ _ _ _ _ T45 (mkF m 102 #[.val (.int p0), .val (.int p1), .val (.int p2), .val (.int p3), .val (.int p4), .val (.int (2 : Int32)), .val (.ref b39), .val (.ref b42), .unset, .unset, .unset] [])
      refine Go.step (fun _ k => XS.iload X45.here hx rfl (hb hby at_102) rfl k) ?_
      show Go _ _ _ _ _ _ _ T45 (mkF m 104 #[.val (.int p0), .val (.int p1), .val (.int p2), .val (.int p3), .val (.int p4), .val (.int (2 : Int32)), .val (.ref b39), .val (.ref b42), .unset, .unset, .unset] [(.int p4)])
      refine Go.step (X45.ldcInt hx hown (mvT hZ (hw _ (List.mem_of_getElem? (i := 38) rfl))) (g := (mkF m 104 #[.val (.int p0), .val (.int p1), .val (.int p2), .val (.int p3), .val (.int p4), .val (.int (2 : Int32)), .val (.ref b39), .val (.ref b42), .unset, .unset, .unset] [(.int p4)])) rfl (hb hby at_104)) ?_
      show Go _ _ _ _ _ _ _ T45 (mkF m 106 #[.val (.int p0), .val (.int p1), .val (.int p2), .val (.int p3), .val (.int p4), .val (.int (2 : Int32)), .val (.ref b39), .val (.ref b42), .unset, .unset, .unset] [(.int (2147483647 : Int32)), (.int p4)])
      refine Go.step (fun _ k => XS.iand X45.here hx rfl (hb hby at_106) rfl k) ?_
      show Go _ _ _ _ _ _ _ T45 (mkF m 107 #[.val (.int p0), .val (.int p1), .val (.int p2), .val (.int p3), .val (.int p4), .val (.int (2 : Int32)), .val (.ref b39), .val (.ref b42), .unset, .unset, .unset] [(.int (p4 &&& (2147483647 : Int32)))])
      refine Go.step (fun _ k => XS.goto X45.here hx rfl (pc0 := 107) (pc' := 114) rfl (hb hby at_107) (by decide) (by decide) k) ?_
      show Go _ _ _ _ _ _ _ T45 (mkF m 114 #[.val (.int p0), .val (.int p1), .val (.int p2), .val (.int p3), .val (.int p4), .val (.int (2 : Int32)), .val (.ref b39), .val (.ref b42), .unset, .unset, .unset] [(.int (p4 &&& (2147483647 : Int32)))])
      refine Go.step (fun _ k => XS.istore X45.here hx rfl (hb hby at_114) rfl (l' := #[.val (.int p0), .val (.int p1), .val (.int p2), .val (.int p3), .val (.int p4), .val (.int (2 : Int32)), .val (.ref b39), .val (.ref b42), .val (.int (p4 &&& (2147483647 : Int32))), .unset, .unset]) rfl k) ?_
      have hw0 := own_v1 p4
      obtain ⟨w, h_w⟩ : ∃ z, z = (p4 &&& (2147483647 : Int32)) := ⟨_, rfl⟩
      rw [← h_w]
      rw [← h_w] at hw0
      show Go _ _ _ _ _ _ _ T45 (mkF m 116 #[.val (.int p0), .val (.int p1), .val (.int p2), .val (.int p3), .val (.int p4), .val (.int (2 : Int32)), .val (.ref b39), .val (.ref b42), .val (.int w), .unset, .unset] [])
      refine Go.step (fun _ k => XS.iload X45.here hx rfl (hb hby at_116) rfl k) ?_
      show Go _ _ _ _ _ _ _ T45 (mkF m 118 #[.val (.int p0), .val (.int p1), .val (.int p2), .val (.int p3), .val (.int p4), .val (.int (2 : Int32)), .val (.ref b39), .val (.ref b42), .val (.int w), .unset, .unset] [(.int w)])
      refine Go.step (fun _ k => XS.iload X45.here hx rfl (hb hby at_118) rfl k) ?_
      show Go _ _ _ _ _ _ _ T45 (mkF m 120 #[.val (.int p0), .val (.int p1), .val (.int p2), .val (.int p3), .val (.int p4), .val (.int (2 : Int32)), .val (.ref b39), .val (.ref b42), .val (.int w), .unset, .unset] [(.int (2 : Int32)), (.int w)])
      by_cases hc120_54 : w < (2 : Int32)
      · refine Go.step (fun _ k => XS.icmpYes X45.here hx rfl (pc0 := 120) (pc' := 129) rfl (hb hby at_120) rfl (tlt hc120_54).1 (by decide) (by decide) k) ?_
        show Go _ _ _ _ _ _ _ T45 (mkF m 129 #[.val (.int p0), .val (.int p1), .val (.int p2), .val (.int p3), .val (.int p4), .val (.int (2 : Int32)), .val (.ref b39), .val (.ref b42), .val (.int w), .unset, .unset] [])
        refine Go.step (fun _ k => XS.iload X45.here hx rfl (hb hby at_129) rfl k) ?_
        show Go _ _ _ _ _ _ _ T45 (mkF m 131 #[.val (.int p0), .val (.int p1), .val (.int p2), .val (.int p3), .val (.int p4), .val (.int (2 : Int32)), .val (.ref b39), .val (.ref b42), .val (.int w), .unset, .unset] [(.int w)])
        by_cases hc131_55 : w = (0 : Int32)
        · refine Go.step (fun _ k => XS.ifNo X45.here hx rfl (hb hby at_131) rfl ((if0 _ _).trans (teq hc131_55).2) k) ?_
          show Go _ _ _ _ _ _ _ T45 (mkF m 134 #[.val (.int p0), .val (.int p1), .val (.int p2), .val (.int p3), .val (.int p4), .val (.int (2 : Int32)), .val (.ref b39), .val (.ref b42), .val (.int w), .unset, .unset] [])
          refine Go.step (fun _ k => XS.iloadN X45.here hx rfl (hb hby at_134) rfl k) ?_
          show Go _ _ _ _ _ _ _ T45 (mkF m 135 #[.val (.int p0), .val (.int p1), .val (.int p2), .val (.int p3), .val (.int p4), .val (.int (2 : Int32)), .val (.ref b39), .val (.ref b42), .val (.int w), .unset, .unset] [(.int p1)])
          refine Go.step (fun _ k => XS.i2dS X45.here hx rfl (hb hby at_135) rfl rfl k) ?_
          show Go _ _ _ _ _ _ _ T45 (mkF m 136 #[.val (.int p0), .val (.int p1), .val (.int p2), .val (.int p3), .val (.int p4), .val (.int (2 : Int32)), .val (.ref b39), .val (.ref b42), .val (.int w), .unset, .unset] [(.double (FP.i2d p1))])
          refine Go.step (fun _ k => XS.dstore X45.here hx rfl (hb hby at_136) rfl (l' := #[.val (.int p0), .val (.int p1), .val (.int p2), .val (.int p3), .val (.int p4), .val (.int (2 : Int32)), .val (.ref b39), .val (.ref b42), .val (.int w), .val (.double (FP.i2d p1)), .second]) rfl k) ?_
          show Go _ _ _ _ _ _ _ T45 (mkF m 138 #[.val (.int p0), .val (.int p1), .val (.int p2), .val (.int p3), .val (.int p4), .val (.int (2 : Int32)), .val (.ref b39), .val (.ref b42), .val (.int w), .val (.double (FP.i2d p1)), .second] [])
          refine Go.step (fun _ k => XS.goto X45.here hx rfl (pc0 := 138) (pc' := 158) rfl (hb hby at_138) (by decide) (by decide) k) ?_
          show Go _ _ _ _ _ _ _ T45 (mkF m 158 #[.val (.int p0), .val (.int p1), .val (.int p2), .val (.int p3), .val (.int p4), .val (.int (2 : Int32)), .val (.ref b39), .val (.ref b42), .val (.int w), .val (.double (FP.i2d p1)), .second] [])
          refine Go.step (fun _ k => XS.aload X45.here hx rfl (hb hby at_158) rfl rfl k) ?_
          show Go _ _ _ _ _ _ _ T45 (mkF m 160 #[.val (.int p0), .val (.int p1), .val (.int p2), .val (.int p3), .val (.int p4), .val (.int (2 : Int32)), .val (.ref b39), .val (.ref b42), .val (.int w), .val (.double (FP.i2d p1)), .second] [(.ref b42)])
          refine Go.step (fun _ k => XS.iload X45.here hx rfl (hb hby at_160) rfl k) ?_
          show Go _ _ _ _ _ _ _ T45 (mkF m 162 #[.val (.int p0), .val (.int p1), .val (.int p2), .val (.int p3), .val (.int p4), .val (.int (2 : Int32)), .val (.ref b39), .val (.ref b42), .val (.int w), .val (.double (FP.i2d p1)), .second] [(.int w), (.ref b42)])
          refine Go.callV X45 hx hZ (by rw [hml]; rfl) (y := (⟨"com/example/leapwise/leapwise/polytope/HalfSpace", "coefficient", "(I)D"⟩ : MethodName)) (z := (⟨"com/example/leapwise/leapwise/polytope/HalfSpace", "coefficient", "(I)D"⟩ : MethodName)) (a := b42) (argsL := [(.int w)]) (rest := []) hown (hw _ (List.mem_of_getElem? (i := 32) rfl)) (hw _ (List.mem_of_getElem? (i := 33) rfl)) (notFace_of_selects (args := #[]) (mvT hZ (hw _ (List.mem_of_getElem? (i := 35) rfl)))) (hw _ (List.mem_of_getElem? (i := 35) rfl)) (hw _ (List.mem_of_getElem? (i := 34) rfl)) (hw _ (List.mem_of_getElem? (i := 3) rfl)) (hw _ (List.mem_of_getElem? (i := 36) rfl)) (by decide) (rm5 l Z a0 hw b42 w c43 (2 : Int32) (updN (updN (fun _ => (0 : UInt64)) 0 (FP.i2d p1)) 1 (FP.i2d p2)) h45 n0 (Nat.le_trans Z0 (K45 : Keep h0 h45 []).1) Fc43_45 Vc43_45 hw0) e45 Ec43_45 (hb hby at_162) (lenOf pd_3 rfl) rfl rfl (W := 0) (Nat.le_of_eq rfl) (by decide) (by decide) (by decide) (by decide) ?_
          intro v56 T56 L56 X56 Q56
          obtain ⟨rfl, N56q, hh56⟩ := Q56
          have N56 := Fr.app N45 N56q
          show Go _ _ _ _ _ _ _ T56 (mkF m 165 #[.val (.int p0), .val (.int p1), .val (.int p2), .val (.int p3), .val (.int p4), .val (.int (2 : Int32)), .val (.ref b39), .val (.ref b42), .val (.int w), .val (.double (FP.i2d p1)), .second] [(.double (slopeW w (2 : Int32) (updN (updN (fun _ => (0 : UInt64)) 0 (FP.i2d p1)) 1 (FP.i2d p2))))])
          refine Go.step (fun _ k => XS.dload X56.here hx rfl (hb hby at_165) rfl k) ?_
          show Go _ _ _ _ _ _ _ T56 (mkF m 167 #[.val (.int p0), .val (.int p1), .val (.int p2), .val (.int p3), .val (.int p4), .val (.int (2 : Int32)), .val (.ref b39), .val (.ref b42), .val (.int w), .val (.double (FP.i2d p1)), .second] [(.double (FP.i2d p1)), (.double (slopeW w (2 : Int32) (updN (updN (fun _ => (0 : UInt64)) 0 (FP.i2d p1)) 1 (FP.i2d p2))))])
          refine Go.step (fun _ k => XS.dcmpS X56.here hx rfl (hb hby at_167) rfl rfl k) ?_
          show Go _ _ _ _ _ _ _ T56 (mkF m 168 #[.val (.int p0), .val (.int p1), .val (.int p2), .val (.int p3), .val (.int p4), .val (.int (2 : Int32)), .val (.ref b39), .val (.ref b42), .val (.int w), .val (.double (FP.i2d p1)), .second] [(.int (cmpValue (FP.dcmp (slopeW w (2 : Int32) (updN (updN (fun _ => (0 : UInt64)) 0 (FP.i2d p1)) 1 (FP.i2d p2))) (FP.i2d p1)) .l))])
          refine Go.step (fun _ k => XS.ifNo X56.here hx rfl (hb hby at_168) rfl (eq_y .l (own_eqI (own_sw hc120_54 hc131_55 rfl))).1 k) ?_
          show Go _ _ _ _ _ _ _ T56 (mkF m 171 #[.val (.int p0), .val (.int p1), .val (.int p2), .val (.int p3), .val (.int p4), .val (.int (2 : Int32)), .val (.ref b39), .val (.ref b42), .val (.int w), .val (.double (FP.i2d p1)), .second] [])
          refine Go.step (fun _ k => XS.iconst X56.here hx rfl (hb hby at_171) k) ?_
          show Go _ _ _ _ _ _ _ T56 (mkF m 172 #[.val (.int p0), .val (.int p1), .val (.int p2), .val (.int p3), .val (.int p4), .val (.int (2 : Int32)), .val (.ref b39), .val (.ref b42), .val (.int w), .val (.double (FP.i2d p1)), .second] [(.int (1 : Int32))])
          refine Go.step (fun _ k => XS.goto X56.here hx rfl (pc0 := 172) (pc' := 176) rfl (hb hby at_172) (by decide) (by decide) k) ?_
          show Go _ _ _ _ _ _ _ T56 (mkF m 176 #[.val (.int p0), .val (.int p1), .val (.int p2), .val (.int p3), .val (.int p4), .val (.int (2 : Int32)), .val (.ref b39), .val (.ref b42), .val (.int w), .val (.double (FP.i2d p1)), .second] [(.int (1 : Int32))])
          refine Go.retZ X56 hx hlk hret (by decide) (hb hby at_176) (by decide) (by decide) ?_
          try rw [hh56]
          exact ⟨rfl, N56⟩
        · refine Go.step (fun _ k => XS.ifYes X45.here hx rfl (pc0 := 131) (pc' := 141) rfl (hb hby at_131) rfl ((if0 _ _).trans (feq hc131_55).2) (by decide) (by decide) k) ?_
          show Go _ _ _ _ _ _ _ T45 (mkF m 141 #[.val (.int p0), .val (.int p1), .val (.int p2), .val (.int p3), .val (.int p4), .val (.int (2 : Int32)), .val (.ref b39), .val (.ref b42), .val (.int w), .unset, .unset] [])
          refine Go.step (fun _ k => XS.iload X45.here hx rfl (hb hby at_141) rfl k) ?_
          show Go _ _ _ _ _ _ _ T45 (mkF m 143 #[.val (.int p0), .val (.int p1), .val (.int p2), .val (.int p3), .val (.int p4), .val (.int (2 : Int32)), .val (.ref b39), .val (.ref b42), .val (.int w), .unset, .unset] [(.int w)])
          refine Go.step (fun _ k => XS.iconst X45.here hx rfl (hb hby at_143) k) ?_
          show Go _ _ _ _ _ _ _ T45 (mkF m 144 #[.val (.int p0), .val (.int p1), .val (.int p2), .val (.int p3), .val (.int p4), .val (.int (2 : Int32)), .val (.ref b39), .val (.ref b42), .val (.int w), .unset, .unset] [(.int (1 : Int32)), (.int w)])
          by_cases hc144_57 : w = (1 : Int32)
          · refine Go.step (fun _ k => XS.icmpNo X45.here hx rfl (hb hby at_144) rfl (teq hc144_57).2 k) ?_
            show Go _ _ _ _ _ _ _ T45 (mkF m 147 #[.val (.int p0), .val (.int p1), .val (.int p2), .val (.int p3), .val (.int p4), .val (.int (2 : Int32)), .val (.ref b39), .val (.ref b42), .val (.int w), .unset, .unset] [])
            refine Go.step (fun _ k => XS.iloadN X45.here hx rfl (hb hby at_147) rfl k) ?_
            show Go _ _ _ _ _ _ _ T45 (mkF m 148 #[.val (.int p0), .val (.int p1), .val (.int p2), .val (.int p3), .val (.int p4), .val (.int (2 : Int32)), .val (.ref b39), .val (.ref b42), .val (.int w), .unset, .unset] [(.int p2)])
            refine Go.step (fun _ k => XS.i2dS X45.here hx rfl (hb hby at_148) rfl rfl k) ?_
            show Go _ _ _ _ _ _ _ T45 (mkF m 149 #[.val (.int p0), .val (.int p1), .val (.int p2), .val (.int p3), .val (.int p4), .val (.int (2 : Int32)), .val (.ref b39), .val (.ref b42), .val (.int w), .unset, .unset] [(.double (FP.i2d p2))])
            refine Go.step (fun _ k => XS.dstore X45.here hx rfl (hb hby at_149) rfl (l' := #[.val (.int p0), .val (.int p1), .val (.int p2), .val (.int p3), .val (.int p4), .val (.int (2 : Int32)), .val (.ref b39), .val (.ref b42), .val (.int w), .val (.double (FP.i2d p2)), .second]) rfl k) ?_
            show Go _ _ _ _ _ _ _ T45 (mkF m 151 #[.val (.int p0), .val (.int p1), .val (.int p2), .val (.int p3), .val (.int p4), .val (.int (2 : Int32)), .val (.ref b39), .val (.ref b42), .val (.int w), .val (.double (FP.i2d p2)), .second] [])
            refine Go.step (fun _ k => XS.goto X45.here hx rfl (pc0 := 151) (pc' := 158) rfl (hb hby at_151) (by decide) (by decide) k) ?_
            show Go _ _ _ _ _ _ _ T45 (mkF m 158 #[.val (.int p0), .val (.int p1), .val (.int p2), .val (.int p3), .val (.int p4), .val (.int (2 : Int32)), .val (.ref b39), .val (.ref b42), .val (.int w), .val (.double (FP.i2d p2)), .second] [])
            refine Go.step (fun _ k => XS.aload X45.here hx rfl (hb hby at_158) rfl rfl k) ?_
            show Go _ _ _ _ _ _ _ T45 (mkF m 160 #[.val (.int p0), .val (.int p1), .val (.int p2), .val (.int p3), .val (.int p4), .val (.int (2 : Int32)), .val (.ref b39), .val (.ref b42), .val (.int w), .val (.double (FP.i2d p2)), .second] [(.ref b42)])
            refine Go.step (fun _ k => XS.iload X45.here hx rfl (hb hby at_160) rfl k) ?_
            show Go _ _ _ _ _ _ _ T45 (mkF m 162 #[.val (.int p0), .val (.int p1), .val (.int p2), .val (.int p3), .val (.int p4), .val (.int (2 : Int32)), .val (.ref b39), .val (.ref b42), .val (.int w), .val (.double (FP.i2d p2)), .second] [(.int w), (.ref b42)])
            refine Go.callV X45 hx hZ (by rw [hml]; rfl) (y := (⟨"com/example/leapwise/leapwise/polytope/HalfSpace", "coefficient", "(I)D"⟩ : MethodName)) (z := (⟨"com/example/leapwise/leapwise/polytope/HalfSpace", "coefficient", "(I)D"⟩ : MethodName)) (a := b42) (argsL := [(.int w)]) (rest := []) hown (hw _ (List.mem_of_getElem? (i := 32) rfl)) (hw _ (List.mem_of_getElem? (i := 33) rfl)) (notFace_of_selects (args := #[]) (mvT hZ (hw _ (List.mem_of_getElem? (i := 35) rfl)))) (hw _ (List.mem_of_getElem? (i := 35) rfl)) (hw _ (List.mem_of_getElem? (i := 34) rfl)) (hw _ (List.mem_of_getElem? (i := 3) rfl)) (hw _ (List.mem_of_getElem? (i := 36) rfl)) (by decide) (rm5 l Z a0 hw b42 w c43 (2 : Int32) (updN (updN (fun _ => (0 : UInt64)) 0 (FP.i2d p1)) 1 (FP.i2d p2)) h45 n0 (Nat.le_trans Z0 (K45 : Keep h0 h45 []).1) Fc43_45 Vc43_45 hw0) e45 Ec43_45 (hb hby at_162) (lenOf pd_3 rfl) rfl rfl (W := 0) (Nat.le_of_eq rfl) (by decide) (by decide) (by decide) (by decide) ?_
            intro v58 T58 L58 X58 Q58
            obtain ⟨rfl, N58q, hh58⟩ := Q58
            have N58 := Fr.app N45 N58q
            show Go _ _ _ _ _ _ _ T58 (mkF m 165 #[.val (.int p0), .val (.int p1), .val (.int p2), .val (.int p3), .val (.int p4), .val (.int (2 : Int32)), .val (.ref b39), .val (.ref b42), .val (.int w), .val (.double (FP.i2d p2)), .second] [(.double (slopeW w (2 : Int32) (updN (updN (fun _ => (0 : UInt64)) 0 (FP.i2d p1)) 1 (FP.i2d p2))))])
            refine Go.step (fun _ k => XS.dload X58.here hx rfl (hb hby at_165) rfl k) ?_
            show Go _ _ _ _ _ _ _ T58 (mkF m 167 #[.val (.int p0), .val (.int p1), .val (.int p2), .val (.int p3), .val (.int p4), .val (.int (2 : Int32)), .val (.ref b39), .val (.ref b42), .val (.int w), .val (.double (FP.i2d p2)), .second] [(.double (FP.i2d p2)), (.double (slopeW w (2 : Int32) (updN (updN (fun _ => (0 : UInt64)) 0 (FP.i2d p1)) 1 (FP.i2d p2))))])
            refine Go.step (fun _ k => XS.dcmpS X58.here hx rfl (hb hby at_167) rfl rfl k) ?_
            show Go _ _ _ _ _ _ _ T58 (mkF m 168 #[.val (.int p0), .val (.int p1), .val (.int p2), .val (.int p3), .val (.int p4), .val (.int (2 : Int32)), .val (.ref b39), .val (.ref b42), .val (.int w), .val (.double (FP.i2d p2)), .second] [(.int (cmpValue (FP.dcmp (slopeW w (2 : Int32) (updN (updN (fun _ => (0 : UInt64)) 0 (FP.i2d p1)) 1 (FP.i2d p2))) (FP.i2d p2)) .l))])
            refine Go.step (fun _ k => XS.ifNo X58.here hx rfl (hb hby at_168) rfl (eq_y .l (own_eqI (own_sw hc120_54 hc144_57 rfl))).1 k) ?_
            show Go _ _ _ _ _ _ _ T58 (mkF m 171 #[.val (.int p0), .val (.int p1), .val (.int p2), .val (.int p3), .val (.int p4), .val (.int (2 : Int32)), .val (.ref b39), .val (.ref b42), .val (.int w), .val (.double (FP.i2d p2)), .second] [])
            refine Go.step (fun _ k => XS.iconst X58.here hx rfl (hb hby at_171) k) ?_
            show Go _ _ _ _ _ _ _ T58 (mkF m 172 #[.val (.int p0), .val (.int p1), .val (.int p2), .val (.int p3), .val (.int p4), .val (.int (2 : Int32)), .val (.ref b39), .val (.ref b42), .val (.int w), .val (.double (FP.i2d p2)), .second] [(.int (1 : Int32))])
            refine Go.step (fun _ k => XS.goto X58.here hx rfl (pc0 := 172) (pc' := 176) rfl (hb hby at_172) (by decide) (by decide) k) ?_
            show Go _ _ _ _ _ _ _ T58 (mkF m 176 #[.val (.int p0), .val (.int p1), .val (.int p2), .val (.int p3), .val (.int p4), .val (.int (2 : Int32)), .val (.ref b39), .val (.ref b42), .val (.int w), .val (.double (FP.i2d p2)), .second] [(.int (1 : Int32))])
            refine Go.retZ X58 hx hlk hret (by decide) (hb hby at_176) (by decide) (by decide) ?_
            try rw [hh58]
            exact ⟨rfl, N58⟩
          · refine Go.step (fun _ k => XS.icmpYes X45.here hx rfl (pc0 := 144) (pc' := 154) rfl (hb hby at_144) rfl (feq hc144_57).2 (by decide) (by decide) k) ?_
            show Go _ _ _ _ _ _ _ T45 (mkF m 154 #[.val (.int p0), .val (.int p1), .val (.int p2), .val (.int p3), .val (.int p4), .val (.int (2 : Int32)), .val (.ref b39), .val (.ref b42), .val (.int w), .unset, .unset] [])
            refine Go.step (fun _ k => XS.iloadN X45.here hx rfl (hb hby at_154) rfl k) ?_
            show Go _ _ _ _ _ _ _ T45 (mkF m 155 #[.val (.int p0), .val (.int p1), .val (.int p2), .val (.int p3), .val (.int p4), .val (.int (2 : Int32)), .val (.ref b39), .val (.ref b42), .val (.int w), .unset, .unset] [(.int p3)])
            refine Go.step (fun _ k => XS.i2dS X45.here hx rfl (hb hby at_155) rfl rfl k) ?_
            show Go _ _ _ _ _ _ _ T45 (mkF m 156 #[.val (.int p0), .val (.int p1), .val (.int p2), .val (.int p3), .val (.int p4), .val (.int (2 : Int32)), .val (.ref b39), .val (.ref b42), .val (.int w), .unset, .unset] [(.double (FP.i2d p3))])
            refine Go.step (fun _ k => XS.dstore X45.here hx rfl (hb hby at_156) rfl (l' := #[.val (.int p0), .val (.int p1), .val (.int p2), .val (.int p3), .val (.int p4), .val (.int (2 : Int32)), .val (.ref b39), .val (.ref b42), .val (.int w), .val (.double (FP.i2d p3)), .second]) rfl k) ?_
            show Go _ _ _ _ _ _ _ T45 (mkF m 158 #[.val (.int p0), .val (.int p1), .val (.int p2), .val (.int p3), .val (.int p4), .val (.int (2 : Int32)), .val (.ref b39), .val (.ref b42), .val (.int w), .val (.double (FP.i2d p3)), .second] [])
            refine Go.step (fun _ k => XS.aload X45.here hx rfl (hb hby at_158) rfl rfl k) ?_
            show Go _ _ _ _ _ _ _ T45 (mkF m 160 #[.val (.int p0), .val (.int p1), .val (.int p2), .val (.int p3), .val (.int p4), .val (.int (2 : Int32)), .val (.ref b39), .val (.ref b42), .val (.int w), .val (.double (FP.i2d p3)), .second] [(.ref b42)])
            refine Go.step (fun _ k => XS.iload X45.here hx rfl (hb hby at_160) rfl k) ?_
            show Go _ _ _ _ _ _ _ T45 (mkF m 162 #[.val (.int p0), .val (.int p1), .val (.int p2), .val (.int p3), .val (.int p4), .val (.int (2 : Int32)), .val (.ref b39), .val (.ref b42), .val (.int w), .val (.double (FP.i2d p3)), .second] [(.int w), (.ref b42)])
            refine Go.callV X45 hx hZ (by rw [hml]; rfl) (y := (⟨"com/example/leapwise/leapwise/polytope/HalfSpace", "coefficient", "(I)D"⟩ : MethodName)) (z := (⟨"com/example/leapwise/leapwise/polytope/HalfSpace", "coefficient", "(I)D"⟩ : MethodName)) (a := b42) (argsL := [(.int w)]) (rest := []) hown (hw _ (List.mem_of_getElem? (i := 32) rfl)) (hw _ (List.mem_of_getElem? (i := 33) rfl)) (notFace_of_selects (args := #[]) (mvT hZ (hw _ (List.mem_of_getElem? (i := 35) rfl)))) (hw _ (List.mem_of_getElem? (i := 35) rfl)) (hw _ (List.mem_of_getElem? (i := 34) rfl)) (hw _ (List.mem_of_getElem? (i := 3) rfl)) (hw _ (List.mem_of_getElem? (i := 36) rfl)) (by decide) (rm5 l Z a0 hw b42 w c43 (2 : Int32) (updN (updN (fun _ => (0 : UInt64)) 0 (FP.i2d p1)) 1 (FP.i2d p2)) h45 n0 (Nat.le_trans Z0 (K45 : Keep h0 h45 []).1) Fc43_45 Vc43_45 hw0) e45 Ec43_45 (hb hby at_162) (lenOf pd_3 rfl) rfl rfl (W := 0) (Nat.le_of_eq rfl) (by decide) (by decide) (by decide) (by decide) ?_
            intro v59 T59 L59 X59 Q59
            obtain ⟨rfl, N59q, hh59⟩ := Q59
            have N59 := Fr.app N45 N59q
            show Go _ _ _ _ _ _ _ T59 (mkF m 165 #[.val (.int p0), .val (.int p1), .val (.int p2), .val (.int p3), .val (.int p4), .val (.int (2 : Int32)), .val (.ref b39), .val (.ref b42), .val (.int w), .val (.double (FP.i2d p3)), .second] [(.double (slopeW w (2 : Int32) (updN (updN (fun _ => (0 : UInt64)) 0 (FP.i2d p1)) 1 (FP.i2d p2))))])
            refine Go.step (fun _ k => XS.dload X59.here hx rfl (hb hby at_165) rfl k) ?_
            show Go _ _ _ _ _ _ _ T59 (mkF m 167 #[.val (.int p0), .val (.int p1), .val (.int p2), .val (.int p3), .val (.int p4), .val (.int (2 : Int32)), .val (.ref b39), .val (.ref b42), .val (.int w), .val (.double (FP.i2d p3)), .second] [(.double (FP.i2d p3)), (.double (slopeW w (2 : Int32) (updN (updN (fun _ => (0 : UInt64)) 0 (FP.i2d p1)) 1 (FP.i2d p2))))])
            refine Go.step (fun _ k => XS.dcmpS X59.here hx rfl (hb hby at_167) rfl rfl k) ?_
            show Go _ _ _ _ _ _ _ T59 (mkF m 168 #[.val (.int p0), .val (.int p1), .val (.int p2), .val (.int p3), .val (.int p4), .val (.int (2 : Int32)), .val (.ref b39), .val (.ref b42), .val (.int w), .val (.double (FP.i2d p3)), .second] [(.int (cmpValue (FP.dcmp (slopeW w (2 : Int32) (updN (updN (fun _ => (0 : UInt64)) 0 (FP.i2d p1)) 1 (FP.i2d p2))) (FP.i2d p3)) .l))])
            refine Go.step (fun _ k => XS.ifNo X59.here hx rfl (hb hby at_168) rfl (eq_y .l (own_i2 hw0 hc120_54 hc131_55 hc144_57).elim).1 k) ?_
            show Go _ _ _ _ _ _ _ T59 (mkF m 171 #[.val (.int p0), .val (.int p1), .val (.int p2), .val (.int p3), .val (.int p4), .val (.int (2 : Int32)), .val (.ref b39), .val (.ref b42), .val (.int w), .val (.double (FP.i2d p3)), .second] [])
            refine Go.step (fun _ k => XS.iconst X59.here hx rfl (hb hby at_171) k) ?_
            show Go _ _ _ _ _ _ _ T59 (mkF m 172 #[.val (.int p0), .val (.int p1), .val (.int p2), .val (.int p3), .val (.int p4), .val (.int (2 : Int32)), .val (.ref b39), .val (.ref b42), .val (.int w), .val (.double (FP.i2d p3)), .second] [(.int (1 : Int32))])
            refine Go.step (fun _ k => XS.goto X59.here hx rfl (pc0 := 172) (pc' := 176) rfl (hb hby at_172) (by decide) (by decide) k) ?_
            show Go _ _ _ _ _ _ _ T59 (mkF m 176 #[.val (.int p0), .val (.int p1), .val (.int p2), .val (.int p3), .val (.int p4), .val (.int (2 : Int32)), .val (.ref b39), .val (.ref b42), .val (.int w), .val (.double (FP.i2d p3)), .second] [(.int (1 : Int32))])
            refine Go.retZ X59 hx hlk hret (by decide) (hb hby at_176) (by decide) (by decide) ?_
            try rw [hh59]
            exact ⟨rfl, N59⟩
      · refine Go.step (fun _ k => XS.icmpNo X45.here hx rfl (hb hby at_120) rfl (flt hc120_54).1 k) ?_
        show Go _ _ _ _ _ _ _ T45 (mkF m 123 #[.val (.int p0), .val (.int p1), .val (.int p2), .val (.int p3), .val (.int p4), .val (.int (2 : Int32)), .val (.ref b39), .val (.ref b42), .val (.int w), .unset, .unset] [])
        refine Go.step (fun _ k => XS.dconst0 X45.here hx rfl (hb hby at_123) rfl k) ?_
        show Go _ _ _ _ _ _ _ T45 (mkF m 124 #[.val (.int p0), .val (.int p1), .val (.int p2), .val (.int p3), .val (.int p4), .val (.int (2 : Int32)), .val (.ref b39), .val (.ref b42), .val (.int w), .unset, .unset] [(.double (0 : UInt64))])
        refine Go.step (fun _ k => XS.dstore X45.here hx rfl (hb hby at_124) rfl (l' := #[.val (.int p0), .val (.int p1), .val (.int p2), .val (.int p3), .val (.int p4), .val (.int (2 : Int32)), .val (.ref b39), .val (.ref b42), .val (.int w), .val (.double (0 : UInt64)), .second]) rfl k) ?_
        show Go _ _ _ _ _ _ _ T45 (mkF m 126 #[.val (.int p0), .val (.int p1), .val (.int p2), .val (.int p3), .val (.int p4), .val (.int (2 : Int32)), .val (.ref b39), .val (.ref b42), .val (.int w), .val (.double (0 : UInt64)), .second] [])
        refine Go.step (fun _ k => XS.goto X45.here hx rfl (pc0 := 126) (pc' := 158) rfl (hb hby at_126) (by decide) (by decide) k) ?_
        show Go _ _ _ _ _ _ _ T45 (mkF m 158 #[.val (.int p0), .val (.int p1), .val (.int p2), .val (.int p3), .val (.int p4), .val (.int (2 : Int32)), .val (.ref b39), .val (.ref b42), .val (.int w), .val (.double (0 : UInt64)), .second] [])
        refine Go.step (fun _ k => XS.aload X45.here hx rfl (hb hby at_158) rfl rfl k) ?_
        show Go _ _ _ _ _ _ _ T45 (mkF m 160 #[.val (.int p0), .val (.int p1), .val (.int p2), .val (.int p3), .val (.int p4), .val (.int (2 : Int32)), .val (.ref b39), .val (.ref b42), .val (.int w), .val (.double (0 : UInt64)), .second] [(.ref b42)])
        refine Go.step (fun _ k => XS.iload X45.here hx rfl (hb hby at_160) rfl k) ?_
        show Go _ _ _ _ _ _ _ T45 (mkF m 162 #[.val (.int p0), .val (.int p1), .val (.int p2), .val (.int p3), .val (.int p4), .val (.int (2 : Int32)), .val (.ref b39), .val (.ref b42), .val (.int w), .val (.double (0 : UInt64)), .second] [(.int w), (.ref b42)])
        refine Go.callV X45 hx hZ (by rw [hml]; rfl) (y := (⟨"com/example/leapwise/leapwise/polytope/HalfSpace", "coefficient", "(I)D"⟩ : MethodName)) (z := (⟨"com/example/leapwise/leapwise/polytope/HalfSpace", "coefficient", "(I)D"⟩ : MethodName)) (a := b42) (argsL := [(.int w)]) (rest := []) hown (hw _ (List.mem_of_getElem? (i := 32) rfl)) (hw _ (List.mem_of_getElem? (i := 33) rfl)) (notFace_of_selects (args := #[]) (mvT hZ (hw _ (List.mem_of_getElem? (i := 35) rfl)))) (hw _ (List.mem_of_getElem? (i := 35) rfl)) (hw _ (List.mem_of_getElem? (i := 34) rfl)) (hw _ (List.mem_of_getElem? (i := 3) rfl)) (hw _ (List.mem_of_getElem? (i := 36) rfl)) (by decide) (rm5 l Z a0 hw b42 w c43 (2 : Int32) (updN (updN (fun _ => (0 : UInt64)) 0 (FP.i2d p1)) 1 (FP.i2d p2)) h45 n0 (Nat.le_trans Z0 (K45 : Keep h0 h45 []).1) Fc43_45 Vc43_45 hw0) e45 Ec43_45 (hb hby at_162) (lenOf pd_3 rfl) rfl rfl (W := 0) (Nat.le_of_eq rfl) (by decide) (by decide) (by decide) (by decide) ?_
        intro v60 T60 L60 X60 Q60
        obtain ⟨rfl, N60q, hh60⟩ := Q60
        have N60 := Fr.app N45 N60q
        show Go _ _ _ _ _ _ _ T60 (mkF m 165 #[.val (.int p0), .val (.int p1), .val (.int p2), .val (.int p3), .val (.int p4), .val (.int (2 : Int32)), .val (.ref b39), .val (.ref b42), .val (.int w), .val (.double (0 : UInt64)), .second] [(.double (slopeW w (2 : Int32) (updN (updN (fun _ => (0 : UInt64)) 0 (FP.i2d p1)) 1 (FP.i2d p2))))])
        refine Go.step (fun _ k => XS.dload X60.here hx rfl (hb hby at_165) rfl k) ?_
        show Go _ _ _ _ _ _ _ T60 (mkF m 167 #[.val (.int p0), .val (.int p1), .val (.int p2), .val (.int p3), .val (.int p4), .val (.int (2 : Int32)), .val (.ref b39), .val (.ref b42), .val (.int w), .val (.double (0 : UInt64)), .second] [(.double (0 : UInt64)), (.double (slopeW w (2 : Int32) (updN (updN (fun _ => (0 : UInt64)) 0 (FP.i2d p1)) 1 (FP.i2d p2))))])
        refine Go.step (fun _ k => XS.dcmpS X60.here hx rfl (hb hby at_167) rfl rfl k) ?_
        show Go _ _ _ _ _ _ _ T60 (mkF m 168 #[.val (.int p0), .val (.int p1), .val (.int p2), .val (.int p3), .val (.int p4), .val (.int (2 : Int32)), .val (.ref b39), .val (.ref b42), .val (.int w), .val (.double (0 : UInt64)), .second] [(.int (cmpValue (FP.dcmp (slopeW w (2 : Int32) (updN (updN (fun _ => (0 : UInt64)) 0 (FP.i2d p1)) 1 (FP.i2d p2))) (0 : UInt64)) .l))])
        refine Go.step (fun _ k => XS.ifNo X60.here hx rfl (hb hby at_168) rfl (eq_y .l (own_sw0 hc120_54)).1 k) ?_
        show Go _ _ _ _ _ _ _ T60 (mkF m 171 #[.val (.int p0), .val (.int p1), .val (.int p2), .val (.int p3), .val (.int p4), .val (.int (2 : Int32)), .val (.ref b39), .val (.ref b42), .val (.int w), .val (.double (0 : UInt64)), .second] [])
        refine Go.step (fun _ k => XS.iconst X60.here hx rfl (hb hby at_171) k) ?_
        show Go _ _ _ _ _ _ _ T60 (mkF m 172 #[.val (.int p0), .val (.int p1), .val (.int p2), .val (.int p3), .val (.int p4), .val (.int (2 : Int32)), .val (.ref b39), .val (.ref b42), .val (.int w), .val (.double (0 : UInt64)), .second] [(.int (1 : Int32))])
        refine Go.step (fun _ k => XS.goto X60.here hx rfl (pc0 := 172) (pc' := 176) rfl (hb hby at_172) (by decide) (by decide) k) ?_
        show Go _ _ _ _ _ _ _ T60 (mkF m 176 #[.val (.int p0), .val (.int p1), .val (.int p2), .val (.int p3), .val (.int p4), .val (.int (2 : Int32)), .val (.ref b39), .val (.ref b42), .val (.int w), .val (.double (0 : UInt64)), .second] [(.int (1 : Int32))])
        refine Go.retZ X60 hx hlk hret (by decide) (hb hby at_176) (by decide) (by decide) ?_
        try rw [hh60]
        exact ⟨rfl, N60⟩
  · show Go _ _ _ _ _ _ _ T0 (mkF m 5 #[.val (.int p0), .val (.int p1), .val (.int p2), .val (.int p3), .val (.int p4), .val (.int (3 : Int32)), .unset, .unset, .unset, .unset, .unset] [])
    refine Go.step (fun _ k => XS.iload X0.here hx rfl (hb hby at_5) rfl k) ?_
    show Go _ _ _ _ _ _ _ T0 (mkF m 7 #[.val (.int p0), .val (.int p1), .val (.int p2), .val (.int p3), .val (.int p4), .val (.int (3 : Int32)), .unset, .unset, .unset, .unset, .unset] [(.int (3 : Int32))])
    obtain ⟨T61, h61, k61, X61, e61, E61, A61, B61, st61⟩ := newPE X0 hx hZ (hw _ (List.mem_of_getElem? (i := 0) rfl)) e0 (g := (mkF m 7 #[.val (.int p0), .val (.int p1), .val (.int p2), .val (.int p3), .val (.int p4), .val (.int (3 : Int32)), .unset, .unset, .unset, .unset, .unset] [(.int (3 : Int32))])) rfl (hb hby at_7) rfl (by decide) (cap := 3) (by decide) (by decide) (by decide) (by decide) (ad := "[D") (by decide)
    obtain ⟨b61, g61⟩ : ∃ z, z = h0.size := ⟨_, rfl⟩
    rw [← g61] at A61 B61 st61
    refine Go.step st61 ?_
    have K61 : Keep h0 h61 [] := (Keep.refl h0 []).ext E61
    have sz_b61 : h0.size ≤ b61 := Nat.le_trans ((Keep.refl h0 []) : Keep h0 h0 []).1 (Nat.le_of_eq g61.symm)
    have ge_b61 : n0 ≤ b61 := Nat.le_trans Z0 sz_b61
    have V_b61 : Dv Z h61 b61 (3 : Int32) (fun _ => (0 : UInt64)) := Fv.new A61 (by decide)
    have E_b61 := B61
    show Go _ _ _ _ _ _ _ T61 (mkF m 9 #[.val (.int p0), .val (.int p1), .val (.int p2), .val (.int p3), .val (.int p4), .val (.int (3 : Int32)), .unset, .unset, .unset, .unset, .unset] [(.ref b61)])
    refine Go.step (fun _ k => XS.astore X61.here hx rfl (hb hby at_9) rfl rfl (l' := #[.val (.int p0), .val (.int p1), .val (.int p2), .val (.int p3), .val (.int p4), .val (.int (3 : Int32)), .val (.ref b61), .unset, .unset, .unset, .unset]) rfl k) ?_
    show Go _ _ _ _ _ _ _ T61 (mkF m 11 #[.val (.int p0), .val (.int p1), .val (.int p2), .val (.int p3), .val (.int p4), .val (.int (3 : Int32)), .val (.ref b61), .unset, .unset, .unset, .unset] [])
    refine Go.step (fun _ k => XS.iload X61.here hx rfl (hb hby at_11) rfl k) ?_
    show Go _ _ _ _ _ _ _ T61 (mkF m 13 #[.val (.int p0), .val (.int p1), .val (.int p2), .val (.int p3), .val (.int p4), .val (.int (3 : Int32)), .val (.ref b61), .unset, .unset, .unset, .unset] [(.int (3 : Int32))])
    refine Go.step (fun _ k => XS.ifNo X61.here hx rfl (hb hby at_13) rfl ((if0 _ _).trans (tlt (by decide : (0 : Int32) < (3 : Int32))).2.2.2) k) ?_
    show Go _ _ _ _ _ _ _ T61 (mkF m 16 #[.val (.int p0), .val (.int p1), .val (.int p2), .val (.int p3), .val (.int p4), .val (.int (3 : Int32)), .val (.ref b61), .unset, .unset, .unset, .unset] [])
    refine Go.step (fun _ k => XS.aload X61.here hx rfl (hb hby at_16) rfl rfl k) ?_
    show Go _ _ _ _ _ _ _ T61 (mkF m 18 #[.val (.int p0), .val (.int p1), .val (.int p2), .val (.int p3), .val (.int p4), .val (.int (3 : Int32)), .val (.ref b61), .unset, .unset, .unset, .unset] [(.ref b61)])
    refine Go.step (fun _ k => XS.iconst X61.here hx rfl (hb hby at_18) k) ?_
    show Go _ _ _ _ _ _ _ T61 (mkF m 19 #[.val (.int p0), .val (.int p1), .val (.int p2), .val (.int p3), .val (.int p4), .val (.int (3 : Int32)), .val (.ref b61), .unset, .unset, .unset, .unset] [(.int (0 : Int32)), (.ref b61)])
    refine Go.step (fun _ k => XS.iloadN X61.here hx rfl (hb hby at_19) rfl k) ?_
    show Go _ _ _ _ _ _ _ T61 (mkF m 20 #[.val (.int p0), .val (.int p1), .val (.int p2), .val (.int p3), .val (.int p4), .val (.int (3 : Int32)), .val (.ref b61), .unset, .unset, .unset, .unset] [(.int p1), (.int (0 : Int32)), (.ref b61)])
    refine Go.step (fun _ k => XS.i2dS X61.here hx rfl (hb hby at_20) rfl rfl k) ?_
    show Go _ _ _ _ _ _ _ T61 (mkF m 21 #[.val (.int p0), .val (.int p1), .val (.int p2), .val (.int p3), .val (.int p4), .val (.int (3 : Int32)), .val (.ref b61), .unset, .unset, .unset, .unset] [(.double (FP.i2d p1)), (.int (0 : Int32)), (.ref b61)])
    refine Go.dastore X61 hx hZ e61 V_b61 (j := (0 : Int32)) (x := (FP.i2d p1)) (by decide) (hb hby at_21) ?_
    intro T62 h62 X62 e62 W62 Vn62
    have V_b61_62 : Dv Z h62 b61 (3 : Int32) (updN (fun _ => (0 : UInt64)) 0 (FP.i2d p1)) := Vn62
    have N62 := Fr.snoc X62 N0 ge_b61
    have E_b61_62 := E_b61.wr W62
    have K62 : Keep h0 h62 [] := K61.wr W62 (Or.inr sz_b61)
    show Go _ _ _ _ _ _ _ T62 (mkF m 22 #[.val (.int p0), .val (.int p1), .val (.int p2), .val (.int p3), .val (.int p4), .val (.int (3 : Int32)), .val (.ref b61), .unset, .unset, .unset, .unset] [])
    refine Go.step (fun _ k => XS.iload X62.here hx rfl (hb hby at_22) rfl k) ?_
    show Go _ _ _ _ _ _ _ T62 (mkF m 24 #[.val (.int p0), .val (.int p1), .val (.int p2), .val (.int p3), .val (.int p4), .val (.int (3 : Int32)), .val (.ref b61), .unset, .unset, .unset, .unset] [(.int (3 : Int32))])
    refine Go.step (fun _ k => XS.iconst X62.here hx rfl (hb hby at_24) k) ?_
    show Go _ _ _ _ _ _ _ T62 (mkF m 25 #[.val (.int p0), .val (.int p1), .val (.int p2), .val (.int p3), .val (.int p4), .val (.int (3 : Int32)), .val (.ref b61), .unset, .unset, .unset, .unset] [(.int (1 : Int32)), (.int (3 : Int32))])
    refine Go.step (fun _ k => XS.icmpNo X62.here hx rfl (hb hby at_25) rfl (tlt (by decide : (1 : Int32) < (3 : Int32))).2.2.2 k) ?_
    show Go _ _ _ _ _ _ _ T62 (mkF m 28 #[.val (.int p0), .val (.int p1), .val (.int p2), .val (.int p3), .val (.int p4), .val (.int (3 : Int32)), .val (.ref b61), .unset, .unset, .unset, .unset] [])
    refine Go.step (fun _ k => XS.aload X62.here hx rfl (hb hby at_28) rfl rfl k) ?_
    show Go _ _ _ _ _ _ _ T62 (mkF m 30 #[.val (.int p0), .val (.int p1), .val (.int p2), .val (.int p3), .val (.int p4), .val (.int (3 : Int32)), .val (.ref b61), .unset, .unset, .unset, .unset] [(.ref b61)])
    refine Go.step (fun _ k => XS.iconst X62.here hx rfl (hb hby at_30) k) ?_
    show Go _ _ _ _ _ _ _ T62 (mkF m 31 #[.val (.int p0), .val (.int p1), .val (.int p2), .val (.int p3), .val (.int p4), .val (.int (3 : Int32)), .val (.ref b61), .unset, .unset, .unset, .unset] [(.int (1 : Int32)), (.ref b61)])
    refine Go.step (fun _ k => XS.iloadN X62.here hx rfl (hb hby at_31) rfl k) ?_
    show Go _ _ _ _ _ _ _ T62 (mkF m 32 #[.val (.int p0), .val (.int p1), .val (.int p2), .val (.int p3), .val (.int p4), .val (.int (3 : Int32)), .val (.ref b61), .unset, .unset, .unset, .unset] [(.int p2), (.int (1 : Int32)), (.ref b61)])
    refine Go.step (fun _ k => XS.i2dS X62.here hx rfl (hb hby at_32) rfl rfl k) ?_
    show Go _ _ _ _ _ _ _ T62 (mkF m 33 #[.val (.int p0), .val (.int p1), .val (.int p2), .val (.int p3), .val (.int p4), .val (.int (3 : Int32)), .val (.ref b61), .unset, .unset, .unset, .unset] [(.double (FP.i2d p2)), (.int (1 : Int32)), (.ref b61)])
    refine Go.dastore X62 hx hZ e62 V_b61_62 (j := (1 : Int32)) (x := (FP.i2d p2)) (by decide) (hb hby at_33) ?_
    intro T63 h63 X63 e63 W63 Vn63
    have V_b61_63 : Dv Z h63 b61 (3 : Int32) (updN (updN (fun _ => (0 : UInt64)) 0 (FP.i2d p1)) 1 (FP.i2d p2)) := Vn63
    have N63 := Fr.snoc X63 N62 ge_b61
    have E_b61_63 := E_b61_62.wr W63
    have K63 : Keep h0 h63 [] := K62.wr W63 (Or.inr sz_b61)
    show Go _ _ _ _ _ _ _ T63 (mkF m 34 #[.val (.int p0), .val (.int p1), .val (.int p2), .val (.int p3), .val (.int p4), .val (.int (3 : Int32)), .val (.ref b61), .unset, .unset, .unset, .unset] [])
    refine Go.step (fun _ k => XS.iload X63.here hx rfl (hb hby at_34) rfl k) ?_
    show Go _ _ _ _ _ _ _ T63 (mkF m 36 #[.val (.int p0), .val (.int p1), .val (.int p2), .val (.int p3), .val (.int p4), .val (.int (3 : Int32)), .val (.ref b61), .unset, .unset, .unset, .unset] [(.int (3 : Int32))])
    refine Go.step (fun _ k => XS.iconst X63.here hx rfl (hb hby at_36) k) ?_
    show Go _ _ _ _ _ _ _ T63 (mkF m 37 #[.val (.int p0), .val (.int p1), .val (.int p2), .val (.int p3), .val (.int p4), .val (.int (3 : Int32)), .val (.ref b61), .unset, .unset, .unset, .unset] [(.int (2 : Int32)), (.int (3 : Int32))])
    refine Go.step (fun _ k => XS.icmpNo X63.here hx rfl (hb hby at_37) rfl (tlt (by decide : (2 : Int32) < (3 : Int32))).2.2.2 k) ?_
    show Go _ _ _ _ _ _ _ T63 (mkF m 40 #[.val (.int p0), .val (.int p1), .val (.int p2), .val (.int p3), .val (.int p4), .val (.int (3 : Int32)), .val (.ref b61), .unset, .unset, .unset, .unset] [])
    refine Go.step (fun _ k => XS.aload X63.here hx rfl (hb hby at_40) rfl rfl k) ?_
    show Go _ _ _ _ _ _ _ T63 (mkF m 42 #[.val (.int p0), .val (.int p1), .val (.int p2), .val (.int p3), .val (.int p4), .val (.int (3 : Int32)), .val (.ref b61), .unset, .unset, .unset, .unset] [(.ref b61)])
    refine Go.step (fun _ k => XS.iconst X63.here hx rfl (hb hby at_42) k) ?_
    show Go _ _ _ _ _ _ _ T63 (mkF m 43 #[.val (.int p0), .val (.int p1), .val (.int p2), .val (.int p3), .val (.int p4), .val (.int (3 : Int32)), .val (.ref b61), .unset, .unset, .unset, .unset] [(.int (2 : Int32)), (.ref b61)])
    refine Go.step (fun _ k => XS.iloadN X63.here hx rfl (hb hby at_43) rfl k) ?_
    show Go _ _ _ _ _ _ _ T63 (mkF m 44 #[.val (.int p0), .val (.int p1), .val (.int p2), .val (.int p3), .val (.int p4), .val (.int (3 : Int32)), .val (.ref b61), .unset, .unset, .unset, .unset] [(.int p3), (.int (2 : Int32)), (.ref b61)])
    refine Go.step (fun _ k => XS.i2dS X63.here hx rfl (hb hby at_44) rfl rfl k) ?_
    show Go _ _ _ _ _ _ _ T63 (mkF m 45 #[.val (.int p0), .val (.int p1), .val (.int p2), .val (.int p3), .val (.int p4), .val (.int (3 : Int32)), .val (.ref b61), .unset, .unset, .unset, .unset] [(.double (FP.i2d p3)), (.int (2 : Int32)), (.ref b61)])
    refine Go.dastore X63 hx hZ e63 V_b61_63 (j := (2 : Int32)) (x := (FP.i2d p3)) (by decide) (hb hby at_45) ?_
    intro T64 h64 X64 e64 W64 Vn64
    have V_b61_64 : Dv Z h64 b61 (3 : Int32) (updN (updN (updN (fun _ => (0 : UInt64)) 0 (FP.i2d p1)) 1 (FP.i2d p2)) 2 (FP.i2d p3)) := Vn64
    have N64 := Fr.snoc X64 N63 ge_b61
    have E_b61_64 := E_b61_63.wr W64
    have K64 : Keep h0 h64 [] := K63.wr W64 (Or.inr sz_b61)
    show Go _ _ _ _ _ _ _ T64 (mkF m 46 #[.val (.int p0), .val (.int p1), .val (.int p2), .val (.int p3), .val (.int p4), .val (.int (3 : Int32)), .val (.ref b61), .unset, .unset, .unset, .unset] [])
    obtain ⟨T65, h65, X65, e65, E65, A65, D65, -, st65⟩ := newO X64 hx hZ hown (hw _ (List.mem_of_getElem? (i := 1) rfl)) (hw _ (List.mem_of_getElem? (i := 2) rfl)) (hw _ (List.mem_of_getElem? (i := 3) rfl)) e64 (g := (mkF m 46 #[.val (.int p0), .val (.int p1), .val (.int p2), .val (.int p3), .val (.int p4), .val (.int (3 : Int32)), .val (.ref b61), .unset, .unset, .unset, .unset] [])) rfl (hb hby at_46) (by decide) (by decide)
    obtain ⟨b65, g65⟩ : ∃ z, z = h64.size := ⟨_, rfl⟩
    rw [← g65] at A65 D65 st65
    refine Go.step st65 ?_
    have K65 : Keep h0 h65 [] := K64.ext E65
    have sz_b65 : h0.size ≤ b65 := Nat.le_trans (K64 : Keep h0 h64 []).1 (Nat.le_of_eq g65.symm)
    have ge_b65 : n0 ≤ b65 := Nat.le_trans Z0 sz_b65
    have ne_b61_b65 : b61 ≠ b65 := Nat.ne_of_lt (Nat.lt_of_lt_of_le V_b61_64.lt (Nat.le_of_eq g65.symm))
    have V_b61_65 := V_b61_64.ext E65
    have E_b61_65 := E_b61_64.ext E65
    have E_b65 := A65
    have F_coefficients_b65 : Fld Z h65 b65 "com/example/leapwise/leapwise/polytope/HalfSpace" "coefficients" "[D" .null := D65 (Or.inr (hw _ (List.mem_of_getElem? (i := 29) rfl))) (ty := (.array .double)) (by decide)
    have F_bound_b65 : Fld Z h65 b65 "com/example/leapwise/leapwise/polytope/HalfSpace" "bound" "D" (.double (0 : UInt64)) := D65 (Or.inr (hw _ (List.mem_of_getElem? (i := 31) rfl))) (ty := .double) (by decide)
    show Go _ _ _ _ _ _ _ T65 (mkF m 49 #[.val (.int p0), .val (.int p1), .val (.int p2), .val (.int p3), .val (.int p4), .val (.int (3 : Int32)), .val (.ref b61), .unset, .unset, .unset, .unset] [(.ref b65)])
    refine Go.step (fun _ k => XS.dup X65.here hx rfl (hb hby at_49) rfl rfl k) ?_
    show Go _ _ _ _ _ _ _ T65 (mkF m 50 #[.val (.int p0), .val (.int p1), .val (.int p2), .val (.int p3), .val (.int p4), .val (.int (3 : Int32)), .val (.ref b61), .unset, .unset, .unset, .unset] [(.ref b65), (.ref b65)])
    refine Go.step (fun _ k => XS.aload X65.here hx rfl (hb hby at_50) rfl rfl k) ?_
    show Go _ _ _ _ _ _ _ T65 (mkF m 52 #[.val (.int p0), .val (.int p1), .val (.int p2), .val (.int p3), .val (.int p4), .val (.int (3 : Int32)), .val (.ref b61), .unset, .unset, .unset, .unset] [(.ref b61), (.ref b65), (.ref b65)])
    refine Go.step (fun _ k => XS.dconst0 X65.here hx rfl (hb hby at_52) rfl k) ?_
    show Go _ _ _ _ _ _ _ T65 (mkF m 53 #[.val (.int p0), .val (.int p1), .val (.int p2), .val (.int p3), .val (.int p4), .val (.int (3 : Int32)), .val (.ref b61), .unset, .unset, .unset, .unset] [(.double (0 : UInt64)), (.ref b61), (.ref b65), (.ref b65)])
    refine Go.callI X65 hx hZ (by rw [hml]; rfl) (y := (⟨"com/example/leapwise/leapwise/polytope/HalfSpace", "<init>", "([DD)V"⟩ : MethodName)) (a := b65) (argsL := [(.ref b61), (.double (0 : UInt64))]) (rest := [(.ref b65)]) rfl hown (hw _ (List.mem_of_getElem? (i := 4) rfl)) (hw _ (List.mem_of_getElem? (i := 5) rfl)) (hw _ (List.mem_of_getElem? (i := 3) rfl)) (hw _ (List.mem_of_getElem? (i := 6) rfl)) (by decide) (rm1_3 l Z a0 hw b65 b61 (updN (updN (updN (fun _ => (0 : UInt64)) 0 (FP.i2d p1)) 1 (FP.i2d p2)) 2 (FP.i2d p3)) h65 n0 (Nat.le_trans Z0 (K65 : Keep h0 h65 []).1) E_b65 F_coefficients_b65 F_bound_b65 E_b61_65 V_b61_65 ge_b65 (Ne.symm ne_b61_b65) (fun i hi' => by rcases (by omega : i = 0 ∨ i = 1 ∨ i = 2) with rfl | rfl | rfl <;> exact Jvm.Free.Fl.i2d_fin _)) e65 (hb hby at_53) (lenOf pd_2 rfl) rfl rfl (W := 1) (Nat.le_of_eq rfl) (by decide) (by decide) (by decide) (by decide) ?_
    intro v66 T66 L66 X66 Q66
    obtain ⟨rfl, N66q, Kc66, Ec66, c66, Fc66, Vc66, sc66⟩ := Q66
    have N66 := Fr.app N64 N66q
    have ne_b61_c66 : b61 ≠ c66 := Nat.ne_of_lt (Nat.lt_of_lt_of_le V_b61_65.lt sc66)
    have V_b61_66 := V_b61_65.keep Kc66 (ninS ne_b61_b65 nin0)
    have E_b61_66 := E_b61_65.keep Kc66
    have E_b65_66 := E_b65.keep Kc66
    have KK66 : Keep h0 T66.heap [] := (K65 : Keep h0 h65 []).trans Kc66 (allS (Or.inr sz_b65) all0)
    show Go _ _ _ _ _ _ _ T66 (mkF m 56 #[.val (.int p0), .val (.int p1), .val (.int p2), .val (.int p3), .val (.int p4), .val (.int (3 : Int32)), .val (.ref b61), .unset, .unset, .unset, .unset] [(.ref b65)])
    refine Go.step (fun _ k => XS.astore X66.here hx rfl (hb hby at_56) rfl rfl (l' := #[.val (.int p0), .val (.int p1), .val (.int p2), .val (.int p3), .val (.int p4), .val (.int (3 : Int32)), .val (.ref b61), .val (.ref b65), .unset, .unset, .unset]) rfl k) ?_
    show Go _ _ _ _ _ _ _ T66 (mkF m 58 #[.val (.int p0), .val (.int p1), .val (.int p2), .val (.int p3), .val (.int p4), .val (.int (3 : Int32)), .val (.ref b61), .val (.ref b65), .unset, .unset, .unset] [])
    refine Go.step (fun _ k => XS.iload X66.here hx rfl (hb hby at_58) rfl k) ?_
    show Go _ _ _ _ _ _ _ T66 (mkF m 60 #[.val (.int p0), .val (.int p1), .val (.int p2), .val (.int p3), .val (.int p4), .val (.int (3 : Int32)), .val (.ref b61), .val (.ref b65), .unset, .unset, .unset] [(.int (3 : Int32))])
    refine Go.step (fun _ k => XS.ifNo X66.here hx rfl (hb hby at_60) rfl ((if0 _ _).trans (tlt (by decide : (0 : Int32) < (3 : Int32))).2.2.2) k) ?_
    show Go _ _ _ _ _ _ _ T66 (mkF m 63 #[.val (.int p0), .val (.int p1), .val (.int p2), .val (.int p3), .val (.int p4), .val (.int (3 : Int32)), .val (.ref b61), .val (.ref b65), .unset, .unset, .unset] [])
    refine Go.step (fun _ k => XS.aload X66.here hx rfl (hb hby at_63) rfl rfl k) ?_
    show Go _ _ _ _ _ _ _ T66 (mkF m 65 #[.val (.int p0), .val (.int p1), .val (.int p2), .val (.int p3), .val (.int p4), .val (.int (3 : Int32)), .val (.ref b61), .val (.ref b65), .unset, .unset, .unset] [(.ref b61)])
    refine Go.step (fun _ k => XS.iconst X66.here hx rfl (hb hby at_65) k) ?_
    show Go _ _ _ _ _ _ _ T66 (mkF m 66 #[.val (.int p0), .val (.int p1), .val (.int p2), .val (.int p3), .val (.int p4), .val (.int (3 : Int32)), .val (.ref b61), .val (.ref b65), .unset, .unset, .unset] [(.int (0 : Int32)), (.ref b61)])
    refine Go.step (X66.ldc2DoubleC hx hown (mvT hZ (hw _ (List.mem_of_getElem? (i := 37) rfl))) (g := (mkF m 66 #[.val (.int p0), .val (.int p1), .val (.int p2), .val (.int p3), .val (.int p4), .val (.int (3 : Int32)), .val (.ref b61), .val (.ref b65), .unset, .unset, .unset] [(.int (0 : Int32)), (.ref b61)])) rfl (hb hby at_66)) ?_
    show Go _ _ _ _ _ _ _ T66 (mkF m 69 #[.val (.int p0), .val (.int p1), .val (.int p2), .val (.int p3), .val (.int p4), .val (.int (3 : Int32)), .val (.ref b61), .val (.ref b65), .unset, .unset, .unset] [(.double (4602678819172646912 : UInt64)), (.int (0 : Int32)), (.ref b61)])
    refine Go.dastore X66 hx hZ rfl V_b61_66 (j := (0 : Int32)) (x := (4602678819172646912 : UInt64)) (by decide) (hb hby at_69) ?_
    intro T67 h67 X67 e67 W67 Vn67
    have V_b61_67 : Dv Z h67 b61 (3 : Int32) (updN (updN (updN (updN (fun _ => (0 : UInt64)) 0 (FP.i2d p1)) 1 (FP.i2d p2)) 2 (FP.i2d p3)) 0 (4602678819172646912 : UInt64)) := Vn67
    have N67 := Fr.snoc X67 N66 ge_b61
    have E_b61_67 := E_b61_66.wr W67
    have Ec66_67 := Ec66.wr W67
    have Fc66_67 := Fc66.other W67 (Or.inl (Ne.symm ne_b61_b65))
    have Vc66_67 := Vc66.other W67 (Ne.symm ne_b61_c66)
    have K67 : Keep h0 h67 [] := KK66.wr W67 (Or.inr sz_b61)
    show Go _ _ _ _ _ _ _ T67 (mkF m 70 #[.val (.int p0), .val (.int p1), .val (.int p2), .val (.int p3), .val (.int p4), .val (.int (3 : Int32)), .val (.ref b61), .val (.ref b65), .unset, .unset, .unset] [])
    refine Go.step (fun _ k => XS.iload X67.here hx rfl (hb hby at_70) rfl k) ?_
    show Go _ _ _ _ _ _ _ T67 (mkF m 72 #[.val (.int p0), .val (.int p1), .val (.int p2), .val (.int p3), .val (.int p4), .val (.int (3 : Int32)), .val (.ref b61), .val (.ref b65), .unset, .unset, .unset] [(.int (3 : Int32))])
    refine Go.step (fun _ k => XS.iconst X67.here hx rfl (hb hby at_72) k) ?_
    show Go _ _ _ _ _ _ _ T67 (mkF m 73 #[.val (.int p0), .val (.int p1), .val (.int p2), .val (.int p3), .val (.int p4), .val (.int (3 : Int32)), .val (.ref b61), .val (.ref b65), .unset, .unset, .unset] [(.int (1 : Int32)), (.int (3 : Int32))])
    refine Go.step (fun _ k => XS.icmpNo X67.here hx rfl (hb hby at_73) rfl (tlt (by decide : (1 : Int32) < (3 : Int32))).2.2.2 k) ?_
    show Go _ _ _ _ _ _ _ T67 (mkF m 76 #[.val (.int p0), .val (.int p1), .val (.int p2), .val (.int p3), .val (.int p4), .val (.int (3 : Int32)), .val (.ref b61), .val (.ref b65), .unset, .unset, .unset] [])
    refine Go.step (fun _ k => XS.aload X67.here hx rfl (hb hby at_76) rfl rfl k) ?_
    show Go _ _ _ _ _ _ _ T67 (mkF m 78 #[.val (.int p0), .val (.int p1), .val (.int p2), .val (.int p3), .val (.int p4), .val (.int (3 : Int32)), .val (.ref b61), .val (.ref b65), .unset, .unset, .unset] [(.ref b61)])
    refine Go.step (fun _ k => XS.iconst X67.here hx rfl (hb hby at_78) k) ?_
    show Go _ _ _ _ _ _ _ T67 (mkF m 79 #[.val (.int p0), .val (.int p1), .val (.int p2), .val (.int p3), .val (.int p4), .val (.int (3 : Int32)), .val (.ref b61), .val (.ref b65), .unset, .unset, .unset] [(.int (1 : Int32)), (.ref b61)])
    refine Go.step (X67.ldc2DoubleC hx hown (mvT hZ (hw _ (List.mem_of_getElem? (i := 37) rfl))) (g := (mkF m 79 #[.val (.int p0), .val (.int p1), .val (.int p2), .val (.int p3), .val (.int p4), .val (.int (3 : Int32)), .val (.ref b61), .val (.ref b65), .unset, .unset, .unset] [(.int (1 : Int32)), (.ref b61)])) rfl (hb hby at_79)) ?_
    show Go _ _ _ _ _ _ _ T67 (mkF m 82 #[.val (.int p0), .val (.int p1), .val (.int p2), .val (.int p3), .val (.int p4), .val (.int (3 : Int32)), .val (.ref b61), .val (.ref b65), .unset, .unset, .unset] [(.double (4602678819172646912 : UInt64)), (.int (1 : Int32)), (.ref b61)])
    refine Go.dastore X67 hx hZ e67 V_b61_67 (j := (1 : Int32)) (x := (4602678819172646912 : UInt64)) (by decide) (hb hby at_82) ?_
    intro T68 h68 X68 e68 W68 Vn68
    have V_b61_68 : Dv Z h68 b61 (3 : Int32) (updN (updN (updN (updN (updN (fun _ => (0 : UInt64)) 0 (FP.i2d p1)) 1 (FP.i2d p2)) 2 (FP.i2d p3)) 0 (4602678819172646912 : UInt64)) 1 (4602678819172646912 : UInt64)) := Vn68
    have N68 := Fr.snoc X68 N67 ge_b61
    have E_b61_68 := E_b61_67.wr W68
    have Ec66_68 := Ec66_67.wr W68
    have Fc66_68 := Fc66_67.other W68 (Or.inl (Ne.symm ne_b61_b65))
    have Vc66_68 := Vc66_67.other W68 (Ne.symm ne_b61_c66)
    have K68 : Keep h0 h68 [] := K67.wr W68 (Or.inr sz_b61)
    show Go _ _ _ _ _ _ _ T68 (mkF m 83 #[.val (.int p0), .val (.int p1), .val (.int p2), .val (.int p3), .val (.int p4), .val (.int (3 : Int32)), .val (.ref b61), .val (.ref b65), .unset, .unset, .unset] [])
    refine Go.step (fun _ k => XS.iload X68.here hx rfl (hb hby at_83) rfl k) ?_
    show Go _ _ _ _ _ _ _ T68 (mkF m 85 #[.val (.int p0), .val (.int p1), .val (.int p2), .val (.int p3), .val (.int p4), .val (.int (3 : Int32)), .val (.ref b61), .val (.ref b65), .unset, .unset, .unset] [(.int (3 : Int32))])
    refine Go.step (fun _ k => XS.iconst X68.here hx rfl (hb hby at_85) k) ?_
    show Go _ _ _ _ _ _ _ T68 (mkF m 86 #[.val (.int p0), .val (.int p1), .val (.int p2), .val (.int p3), .val (.int p4), .val (.int (3 : Int32)), .val (.ref b61), .val (.ref b65), .unset, .unset, .unset] [(.int (2 : Int32)), (.int (3 : Int32))])
    refine Go.step (fun _ k => XS.icmpNo X68.here hx rfl (hb hby at_86) rfl (tlt (by decide : (2 : Int32) < (3 : Int32))).2.2.2 k) ?_
    show Go _ _ _ _ _ _ _ T68 (mkF m 89 #[.val (.int p0), .val (.int p1), .val (.int p2), .val (.int p3), .val (.int p4), .val (.int (3 : Int32)), .val (.ref b61), .val (.ref b65), .unset, .unset, .unset] [])
    refine Go.step (fun _ k => XS.aload X68.here hx rfl (hb hby at_89) rfl rfl k) ?_
    show Go _ _ _ _ _ _ _ T68 (mkF m 91 #[.val (.int p0), .val (.int p1), .val (.int p2), .val (.int p3), .val (.int p4), .val (.int (3 : Int32)), .val (.ref b61), .val (.ref b65), .unset, .unset, .unset] [(.ref b61)])
    refine Go.step (fun _ k => XS.iconst X68.here hx rfl (hb hby at_91) k) ?_
    show Go _ _ _ _ _ _ _ T68 (mkF m 92 #[.val (.int p0), .val (.int p1), .val (.int p2), .val (.int p3), .val (.int p4), .val (.int (3 : Int32)), .val (.ref b61), .val (.ref b65), .unset, .unset, .unset] [(.int (2 : Int32)), (.ref b61)])
    refine Go.step (X68.ldc2DoubleC hx hown (mvT hZ (hw _ (List.mem_of_getElem? (i := 37) rfl))) (g := (mkF m 92 #[.val (.int p0), .val (.int p1), .val (.int p2), .val (.int p3), .val (.int p4), .val (.int (3 : Int32)), .val (.ref b61), .val (.ref b65), .unset, .unset, .unset] [(.int (2 : Int32)), (.ref b61)])) rfl (hb hby at_92)) ?_
    show Go _ _ _ _ _ _ _ T68 (mkF m 95 #[.val (.int p0), .val (.int p1), .val (.int p2), .val (.int p3), .val (.int p4), .val (.int (3 : Int32)), .val (.ref b61), .val (.ref b65), .unset, .unset, .unset] [(.double (4602678819172646912 : UInt64)), (.int (2 : Int32)), (.ref b61)])
    refine Go.dastore X68 hx hZ e68 V_b61_68 (j := (2 : Int32)) (x := (4602678819172646912 : UInt64)) (by decide) (hb hby at_95) ?_
    intro T69 h69 X69 e69 W69 Vn69
    have V_b61_69 : Dv Z h69 b61 (3 : Int32) (updN (updN (updN (updN (updN (updN (fun _ => (0 : UInt64)) 0 (FP.i2d p1)) 1 (FP.i2d p2)) 2 (FP.i2d p3)) 0 (4602678819172646912 : UInt64)) 1 (4602678819172646912 : UInt64)) 2 (4602678819172646912 : UInt64)) := Vn69
    have N69 := Fr.snoc X69 N68 ge_b61
    have E_b61_69 := E_b61_68.wr W69
    have Ec66_69 := Ec66_68.wr W69
    have Fc66_69 := Fc66_68.other W69 (Or.inl (Ne.symm ne_b61_b65))
    have Vc66_69 := Vc66_68.other W69 (Ne.symm ne_b61_c66)
    have K69 : Keep h0 h69 [] := K68.wr W69 (Or.inr sz_b61)
    show Go _ _ _ _ _ _ _ T69 (mkF m 96 #[.val (.int p0), .val (.int p1), .val (.int p2), .val (.int p3), .val (.int p4), .val (.int (3 : Int32)), .val (.ref b61), .val (.ref b65), .unset, .unset, .unset] [])
    refine Go.step (fun _ k => XS.iloadN X69.here hx rfl (hb hby at_96) rfl k) ?_
    show Go _ _ _ _ _ _ _ T69 (mkF m 97 #[.val (.int p0), .val (.int p1), .val (.int p2), .val (.int p3), .val (.int p4), .val (.int (3 : Int32)), .val (.ref b61), .val (.ref b65), .unset, .unset, .unset] [(.int p0)])
    refine Go.step (fun _ k => XS.iconst X69.here hx rfl (hb hby at_97) k) ?_
    show Go _ _ _ _ _ _ _ T69 (mkF m 98 #[.val (.int p0), .val (.int p1), .val (.int p2), .val (.int p3), .val (.int p4), .val (.int (3 : Int32)), .val (.ref b61), .val (.ref b65), .unset, .unset, .unset] [(.int (4 : Int32)), (.int p0)])
    refine Go.step (fun _ k => XS.iand X69.here hx rfl (hb hby at_98) rfl k) ?_
    show Go _ _ _ _ _ _ _ T69 (mkF m 99 #[.val (.int p0), .val (.int p1), .val (.int p2), .val (.int p3), .val (.int p4), .val (.int (3 : Int32)), .val (.ref b61), .val (.ref b65), .unset, .unset, .unset] [(.int (p0 &&& (4 : Int32)))])
    by_cases hc99_70 : (p0 &&& (4 : Int32)) = (0 : Int32)
    · refine Go.step (fun _ k => XS.ifYes X69.here hx rfl (pc0 := 99) (pc' := 110) rfl (hb hby at_99) rfl ((if0 _ _).trans (teq hc99_70).1) (by decide) (by decide) k) ?_
      show Go _ _ _ _ _ _ _ T69 (mkF m 110 #[.val (.int p0), .val (.int p1), .val (.int p2), .val (.int p3), .val (.int p4), .val (.int (3 : Int32)), .val (.ref b61), .val (.ref b65), .unset, .unset, .unset] [])
      refine Go.step (fun _ k => XS.iload X69.here hx rfl (hb hby at_110) rfl k) ?_
      show Go _ _ _ _ _ _ _ T69 (mkF m 112 #[.val (.int p0), .val (.int p1), .val (.int p2), .val (.int p3), .val (.int p4), .val (.int (3 : Int32)), .val (.ref b61), .val (.ref b65), .unset, .unset, .unset] [(.int p4)])
      refine Go.step (fun _ k => XS.iconst X69.here hx rfl (hb hby at_112) k) ?_
      show Go _ _ _ _ _ _ _ T69 (mkF m 113 #[.val (.int p0), .val (.int p1), .val (.int p2), .val (.int p3), .val (.int p4), .val (.int (3 : Int32)), .val (.ref b61), .val (.ref b65), .unset, .unset, .unset] [(.int (3 : Int32)), (.int p4)])
      refine Go.step (fun _ k => XS.iand X69.here hx rfl (hb hby at_113) rfl k) ?_
      show Go _ _ _ _ _ _ _ T69 (mkF m 114 #[.val (.int p0), .val (.int p1), .val (.int p2), .val (.int p3), .val (.int p4), .val (.int (3 : Int32)), .val (.ref b61), .val (.ref b65), .unset, .unset, .unset] [(.int (p4 &&& (3 : Int32)))])
      refine Go.step (fun _ k => XS.istore X69.here hx rfl (hb hby at_114) rfl (l' := #[.val (.int p0), .val (.int p1), .val (.int p2), .val (.int p3), .val (.int p4), .val (.int (3 : Int32)), .val (.ref b61), .val (.ref b65), .val (.int (p4 &&& (3 : Int32))), .unset, .unset]) rfl k) ?_
      have hw0 := own_v2 p4
      obtain ⟨w, h_w⟩ : ∃ z, z = (p4 &&& (3 : Int32)) := ⟨_, rfl⟩
      rw [← h_w]
      rw [← h_w] at hw0
      show Go _ _ _ _ _ _ _ T69 (mkF m 116 #[.val (.int p0), .val (.int p1), .val (.int p2), .val (.int p3), .val (.int p4), .val (.int (3 : Int32)), .val (.ref b61), .val (.ref b65), .val (.int w), .unset, .unset] [])
      refine Go.step (fun _ k => XS.iload X69.here hx rfl (hb hby at_116) rfl k) ?_
      show Go _ _ _ _ _ _ _ T69 (mkF m 118 #[.val (.int p0), .val (.int p1), .val (.int p2), .val (.int p3), .val (.int p4), .val (.int (3 : Int32)), .val (.ref b61), .val (.ref b65), .val (.int w), .unset, .unset] [(.int w)])
      refine Go.step (fun _ k => XS.iload X69.here hx rfl (hb hby at_118) rfl k) ?_
      show Go _ _ _ _ _ _ _ T69 (mkF m 120 #[.val (.int p0), .val (.int p1), .val (.int p2), .val (.int p3), .val (.int p4), .val (.int (3 : Int32)), .val (.ref b61), .val (.ref b65), .val (.int w), .unset, .unset] [(.int (3 : Int32)), (.int w)])
      by_cases hc120_71 : w < (3 : Int32)
      · refine Go.step (fun _ k => XS.icmpYes X69.here hx rfl (pc0 := 120) (pc' := 129) rfl (hb hby at_120) rfl (tlt hc120_71).1 (by decide) (by decide) k) ?_
        show Go _ _ _ _ _ _ _ T69 (mkF m 129 #[.val (.int p0), .val (.int p1), .val (.int p2), .val (.int p3), .val (.int p4), .val (.int (3 : Int32)), .val (.ref b61), .val (.ref b65), .val (.int w), .unset, .unset] [])
        refine Go.step (fun _ k => XS.iload X69.here hx rfl (hb hby at_129) rfl k) ?_
        show Go _ _ _ _ _ _ _ T69 (mkF m 131 #[.val (.int p0), .val (.int p1), .val (.int p2), .val (.int p3), .val (.int p4), .val (.int (3 : Int32)), .val (.ref b61), .val (.ref b65), .val (.int w), .unset, .unset] [(.int w)])
        by_cases hc131_72 : w = (0 : Int32)
        · refine Go.step (fun _ k => XS.ifNo X69.here hx rfl (hb hby at_131) rfl ((if0 _ _).trans (teq hc131_72).2) k) ?_
          show Go _ _ _ _ _ _ _ T69 (mkF m 134 #[.val (.int p0), .val (.int p1), .val (.int p2), .val (.int p3), .val (.int p4), .val (.int (3 : Int32)), .val (.ref b61), .val (.ref b65), .val (.int w), .unset, .unset] [])
          refine Go.step (fun _ k => XS.iloadN X69.here hx rfl (hb hby at_134) rfl k) ?_
          show Go _ _ _ _ _ _ _ T69 (mkF m 135 #[.val (.int p0), .val (.int p1), .val (.int p2), .val (.int p3), .val (.int p4), .val (.int (3 : Int32)), .val (.ref b61), .val (.ref b65), .val (.int w), .unset, .unset] [(.int p1)])
          refine Go.step (fun _ k => XS.i2dS X69.here hx rfl (hb hby at_135) rfl rfl k) ?_
          show Go _ _ _ _ _ _ _ T69 (mkF m 136 #[.val (.int p0), .val (.int p1), .val (.int p2), .val (.int p3), .val (.int p4), .val (.int (3 : Int32)), .val (.ref b61), .val (.ref b65), .val (.int w), .unset, .unset] [(.double (FP.i2d p1))])
          refine Go.step (fun _ k => XS.dstore X69.here hx rfl (hb hby at_136) rfl (l' := #[.val (.int p0), .val (.int p1), .val (.int p2), .val (.int p3), .val (.int p4), .val (.int (3 : Int32)), .val (.ref b61), .val (.ref b65), .val (.int w), .val (.double (FP.i2d p1)), .second]) rfl k) ?_
          show Go _ _ _ _ _ _ _ T69 (mkF m 138 #[.val (.int p0), .val (.int p1), .val (.int p2), .val (.int p3), .val (.int p4), .val (.int (3 : Int32)), .val (.ref b61), .val (.ref b65), .val (.int w), .val (.double (FP.i2d p1)), .second] [])
          refine Go.step (fun _ k => XS.goto X69.here hx rfl (pc0 := 138) (pc' := 158) rfl (hb hby at_138) (by decide) (by decide) k) ?_
          show Go _ _ _ _ _ _ _ T69 (mkF m 158 #[.val (.int p0), .val (.int p1), .val (.int p2), .val (.int p3), .val (.int p4), .val (.int (3 : Int32)), .val (.ref b61), .val (.ref b65), .val (.int w), .val (.double (FP.i2d p1)), .second] [])
          refine Go.step (fun _ k => XS.aload X69.here hx rfl (hb hby at_158) rfl rfl k) ?_
          show Go _ _ _ _ _ _ _ T69 (mkF m 160 #[.val (.int p0), .val (.int p1), .val (.int p2), .val (.int p3), .val (.int p4), .val (.int (3 : Int32)), .val (.ref b61), .val (.ref b65), .val (.int w), .val (.double (FP.i2d p1)), .second] [(.ref b65)])
          refine Go.step (fun _ k => XS.iload X69.here hx rfl (hb hby at_160) rfl k) ?_
          show Go _ _ _ _ _ _ _ T69 (mkF m 162 #[.val (.int p0), .val (.int p1), .val (.int p2), .val (.int p3), .val (.int p4), .val (.int (3 : Int32)), .val (.ref b61), .val (.ref b65), .val (.int w), .val (.double (FP.i2d p1)), .second] [(.int w), (.ref b65)])
          refine Go.callV X69 hx hZ (by rw [hml]; rfl) (y := (⟨"com/example/leapwise/leapwise/polytope/HalfSpace", "coefficient", "(I)D"⟩ : MethodName)) (z := (⟨"com/example/leapwise/leapwise/polytope/HalfSpace", "coefficient", "(I)D"⟩ : MethodName)) (a := b65) (argsL := [(.int w)]) (rest := []) hown (hw _ (List.mem_of_getElem? (i := 32) rfl)) (hw _ (List.mem_of_getElem? (i := 33) rfl)) (notFace_of_selects (args := #[]) (mvT hZ (hw _ (List.mem_of_getElem? (i := 35) rfl)))) (hw _ (List.mem_of_getElem? (i := 35) rfl)) (hw _ (List.mem_of_getElem? (i := 34) rfl)) (hw _ (List.mem_of_getElem? (i := 3) rfl)) (hw _ (List.mem_of_getElem? (i := 36) rfl)) (by decide) (rm5 l Z a0 hw b65 w c66 (3 : Int32) (updN (updN (updN (fun _ => (0 : UInt64)) 0 (FP.i2d p1)) 1 (FP.i2d p2)) 2 (FP.i2d p3)) h69 n0 (Nat.le_trans Z0 (K69 : Keep h0 h69 []).1) Fc66_69 Vc66_69 hw0) e69 Ec66_69 (hb hby at_162) (lenOf pd_3 rfl) rfl rfl (W := 0) (Nat.le_of_eq rfl) (by decide) (by decide) (by decide) (by decide) ?_
          intro v73 T73 L73 X73 Q73
          obtain ⟨rfl, N73q, hh73⟩ := Q73
          have N73 := Fr.app N69 N73q
          show Go _ _ _ _ _ _ _ T73 (mkF m 165 #[.val (.int p0), .val (.int p1), .val (.int p2), .val (.int p3), .val (.int p4), .val (.int (3 : Int32)), .val (.ref b61), .val (.ref b65), .val (.int w), .val (.double (FP.i2d p1)), .second] [(.double (slopeW w (3 : Int32) (updN (updN (updN (fun _ => (0 : UInt64)) 0 (FP.i2d p1)) 1 (FP.i2d p2)) 2 (FP.i2d p3))))])
          refine Go.step (fun _ k => XS.dload X73.here hx rfl (hb hby at_165) rfl k) ?_
          show Go _ _ _ _ _ _ _ T73 (mkF m 167 #[.val (.int p0), .val (.int p1), .val (.int p2), .val (.int p3), .val (.int p4), .val (.int (3 : Int32)), .val (.ref b61), .val (.ref b65), .val (.int w), .val (.double (FP.i2d p1)), .second] [(.double (FP.i2d p1)), (.double (slopeW w (3 : Int32) (updN (updN (updN (fun _ => (0 : UInt64)) 0 (FP.i2d p1)) 1 (FP.i2d p2)) 2 (FP.i2d p3))))])
          refine Go.step (fun _ k => XS.dcmpS X73.here hx rfl (hb hby at_167) rfl rfl k) ?_
          show Go _ _ _ _ _ _ _ T73 (mkF m 168 #[.val (.int p0), .val (.int p1), .val (.int p2), .val (.int p3), .val (.int p4), .val (.int (3 : Int32)), .val (.ref b61), .val (.ref b65), .val (.int w), .val (.double (FP.i2d p1)), .second] [(.int (cmpValue (FP.dcmp (slopeW w (3 : Int32) (updN (updN (updN (fun _ => (0 : UInt64)) 0 (FP.i2d p1)) 1 (FP.i2d p2)) 2 (FP.i2d p3))) (FP.i2d p1)) .l))])
          refine Go.step (fun _ k => XS.ifNo X73.here hx rfl (hb hby at_168) rfl (eq_y .l (own_eqI (own_sw hc120_71 hc131_72 rfl))).1 k) ?_
          show Go _ _ _ _ _ _ _ T73 (mkF m 171 #[.val (.int p0), .val (.int p1), .val (.int p2), .val (.int p3), .val (.int p4), .val (.int (3 : Int32)), .val (.ref b61), .val (.ref b65), .val (.int w), .val (.double (FP.i2d p1)), .second] [])
          refine Go.step (fun _ k => XS.iconst X73.here hx rfl (hb hby at_171) k) ?_
          show Go _ _ _ _ _ _ _ T73 (mkF m 172 #[.val (.int p0), .val (.int p1), .val (.int p2), .val (.int p3), .val (.int p4), .val (.int (3 : Int32)), .val (.ref b61), .val (.ref b65), .val (.int w), .val (.double (FP.i2d p1)), .second] [(.int (1 : Int32))])
          refine Go.step (fun _ k => XS.goto X73.here hx rfl (pc0 := 172) (pc' := 176) rfl (hb hby at_172) (by decide) (by decide) k) ?_
          show Go _ _ _ _ _ _ _ T73 (mkF m 176 #[.val (.int p0), .val (.int p1), .val (.int p2), .val (.int p3), .val (.int p4), .val (.int (3 : Int32)), .val (.ref b61), .val (.ref b65), .val (.int w), .val (.double (FP.i2d p1)), .second] [(.int (1 : Int32))])
          refine Go.retZ X73 hx hlk hret (by decide) (hb hby at_176) (by decide) (by decide) ?_
          try rw [hh73]
          exact ⟨rfl, N73⟩
        · refine Go.step (fun _ k => XS.ifYes X69.here hx rfl (pc0 := 131) (pc' := 141) rfl (hb hby at_131) rfl ((if0 _ _).trans (feq hc131_72).2) (by decide) (by decide) k) ?_
          show Go _ _ _ _ _ _ _ T69 (mkF m 141 #[.val (.int p0), .val (.int p1), .val (.int p2), .val (.int p3), .val (.int p4), .val (.int (3 : Int32)), .val (.ref b61), .val (.ref b65), .val (.int w), .unset, .unset] [])
          refine Go.step (fun _ k => XS.iload X69.here hx rfl (hb hby at_141) rfl k) ?_
          show Go _ _ _ _ _ _ _ T69 (mkF m 143 #[.val (.int p0), .val (.int p1), .val (.int p2), .val (.int p3), .val (.int p4), .val (.int (3 : Int32)), .val (.ref b61), .val (.ref b65), .val (.int w), .unset, .unset] [(.int w)])
          refine Go.step (fun _ k => XS.iconst X69.here hx rfl (hb hby at_143) k) ?_
          show Go _ _ _ _ _ _ _ T69 (mkF m 144 #[.val (.int p0), .val (.int p1), .val (.int p2), .val (.int p3), .val (.int p4), .val (.int (3 : Int32)), .val (.ref b61), .val (.ref b65), .val (.int w), .unset, .unset] [(.int (1 : Int32)), (.int w)])
          by_cases hc144_74 : w = (1 : Int32)
          · refine Go.step (fun _ k => XS.icmpNo X69.here hx rfl (hb hby at_144) rfl (teq hc144_74).2 k) ?_
            show Go _ _ _ _ _ _ _ T69 (mkF m 147 #[.val (.int p0), .val (.int p1), .val (.int p2), .val (.int p3), .val (.int p4), .val (.int (3 : Int32)), .val (.ref b61), .val (.ref b65), .val (.int w), .unset, .unset] [])
            refine Go.step (fun _ k => XS.iloadN X69.here hx rfl (hb hby at_147) rfl k) ?_
            show Go _ _ _ _ _ _ _ T69 (mkF m 148 #[.val (.int p0), .val (.int p1), .val (.int p2), .val (.int p3), .val (.int p4), .val (.int (3 : Int32)), .val (.ref b61), .val (.ref b65), .val (.int w), .unset, .unset] [(.int p2)])
            refine Go.step (fun _ k => XS.i2dS X69.here hx rfl (hb hby at_148) rfl rfl k) ?_
            show Go _ _ _ _ _ _ _ T69 (mkF m 149 #[.val (.int p0), .val (.int p1), .val (.int p2), .val (.int p3), .val (.int p4), .val (.int (3 : Int32)), .val (.ref b61), .val (.ref b65), .val (.int w), .unset, .unset] [(.double (FP.i2d p2))])
            refine Go.step (fun _ k => XS.dstore X69.here hx rfl (hb hby at_149) rfl (l' := #[.val (.int p0), .val (.int p1), .val (.int p2), .val (.int p3), .val (.int p4), .val (.int (3 : Int32)), .val (.ref b61), .val (.ref b65), .val (.int w), .val (.double (FP.i2d p2)), .second]) rfl k) ?_
            show Go _ _ _ _ _ _ _ T69 (mkF m 151 #[.val (.int p0), .val (.int p1), .val (.int p2), .val (.int p3), .val (.int p4), .val (.int (3 : Int32)), .val (.ref b61), .val (.ref b65), .val (.int w), .val (.double (FP.i2d p2)), .second] [])
            refine Go.step (fun _ k => XS.goto X69.here hx rfl (pc0 := 151) (pc' := 158) rfl (hb hby at_151) (by decide) (by decide) k) ?_
            show Go _ _ _ _ _ _ _ T69 (mkF m 158 #[.val (.int p0), .val (.int p1), .val (.int p2), .val (.int p3), .val (.int p4), .val (.int (3 : Int32)), .val (.ref b61), .val (.ref b65), .val (.int w), .val (.double (FP.i2d p2)), .second] [])
            refine Go.step (fun _ k => XS.aload X69.here hx rfl (hb hby at_158) rfl rfl k) ?_
            show Go _ _ _ _ _ _ _ T69 (mkF m 160 #[.val (.int p0), .val (.int p1), .val (.int p2), .val (.int p3), .val (.int p4), .val (.int (3 : Int32)), .val (.ref b61), .val (.ref b65), .val (.int w), .val (.double (FP.i2d p2)), .second] [(.ref b65)])
            refine Go.step (fun _ k => XS.iload X69.here hx rfl (hb hby at_160) rfl k) ?_
            show Go _ _ _ _ _ _ _ T69 (mkF m 162 #[.val (.int p0), .val (.int p1), .val (.int p2), .val (.int p3), .val (.int p4), .val (.int (3 : Int32)), .val (.ref b61), .val (.ref b65), .val (.int w), .val (.double (FP.i2d p2)), .second] [(.int w), (.ref b65)])
            refine Go.callV X69 hx hZ (by rw [hml]; rfl) (y := (⟨"com/example/leapwise/leapwise/polytope/HalfSpace", "coefficient", "(I)D"⟩ : MethodName)) (z := (⟨"com/example/leapwise/leapwise/polytope/HalfSpace", "coefficient", "(I)D"⟩ : MethodName)) (a := b65) (argsL := [(.int w)]) (rest := []) hown (hw _ (List.mem_of_getElem? (i := 32) rfl)) (hw _ (List.mem_of_getElem? (i := 33) rfl)) (notFace_of_selects (args := #[]) (mvT hZ (hw _ (List.mem_of_getElem? (i := 35) rfl)))) (hw _ (List.mem_of_getElem? (i := 35) rfl)) (hw _ (List.mem_of_getElem? (i := 34) rfl)) (hw _ (List.mem_of_getElem? (i := 3) rfl)) (hw _ (List.mem_of_getElem? (i := 36) rfl)) (by decide) (rm5 l Z a0 hw b65 w c66 (3 : Int32) (updN (updN (updN (fun _ => (0 : UInt64)) 0 (FP.i2d p1)) 1 (FP.i2d p2)) 2 (FP.i2d p3)) h69 n0 (Nat.le_trans Z0 (K69 : Keep h0 h69 []).1) Fc66_69 Vc66_69 hw0) e69 Ec66_69 (hb hby at_162) (lenOf pd_3 rfl) rfl rfl (W := 0) (Nat.le_of_eq rfl) (by decide) (by decide) (by decide) (by decide) ?_
            intro v75 T75 L75 X75 Q75
            obtain ⟨rfl, N75q, hh75⟩ := Q75
            have N75 := Fr.app N69 N75q
            show Go _ _ _ _ _ _ _ T75 (mkF m 165 #[.val (.int p0), .val (.int p1), .val (.int p2), .val (.int p3), .val (.int p4), .val (.int (3 : Int32)), .val (.ref b61), .val (.ref b65), .val (.int w), .val (.double (FP.i2d p2)), .second] [(.double (slopeW w (3 : Int32) (updN (updN (updN (fun _ => (0 : UInt64)) 0 (FP.i2d p1)) 1 (FP.i2d p2)) 2 (FP.i2d p3))))])
            refine Go.step (fun _ k => XS.dload X75.here hx rfl (hb hby at_165) rfl k) ?_
            show Go _ _ _ _ _ _ _ T75 (mkF m 167 #[.val (.int p0), .val (.int p1), .val (.int p2), .val (.int p3), .val (.int p4), .val (.int (3 : Int32)), .val (.ref b61), .val (.ref b65), .val (.int w), .val (.double (FP.i2d p2)), .second] [(.double (FP.i2d p2)), (.double (slopeW w (3 : Int32) (updN (updN (updN (fun _ => (0 : UInt64)) 0 (FP.i2d p1)) 1 (FP.i2d p2)) 2 (FP.i2d p3))))])
            refine Go.step (fun _ k => XS.dcmpS X75.here hx rfl (hb hby at_167) rfl rfl k) ?_
            show Go _ _ _ _ _ _ _ T75 (mkF m 168 #[.val (.int p0), .val (.int p1), .val (.int p2), .val (.int p3), .val (.int p4), .val (.int (3 : Int32)), .val (.ref b61), .val (.ref b65), .val (.int w), .val (.double (FP.i2d p2)), .second] [(.int (cmpValue (FP.dcmp (slopeW w (3 : Int32) (updN (updN (updN (fun _ => (0 : UInt64)) 0 (FP.i2d p1)) 1 (FP.i2d p2)) 2 (FP.i2d p3))) (FP.i2d p2)) .l))])
            refine Go.step (fun _ k => XS.ifNo X75.here hx rfl (hb hby at_168) rfl (eq_y .l (own_eqI (own_sw hc120_71 hc144_74 rfl))).1 k) ?_
            show Go _ _ _ _ _ _ _ T75 (mkF m 171 #[.val (.int p0), .val (.int p1), .val (.int p2), .val (.int p3), .val (.int p4), .val (.int (3 : Int32)), .val (.ref b61), .val (.ref b65), .val (.int w), .val (.double (FP.i2d p2)), .second] [])
            refine Go.step (fun _ k => XS.iconst X75.here hx rfl (hb hby at_171) k) ?_
            show Go _ _ _ _ _ _ _ T75 (mkF m 172 #[.val (.int p0), .val (.int p1), .val (.int p2), .val (.int p3), .val (.int p4), .val (.int (3 : Int32)), .val (.ref b61), .val (.ref b65), .val (.int w), .val (.double (FP.i2d p2)), .second] [(.int (1 : Int32))])
            refine Go.step (fun _ k => XS.goto X75.here hx rfl (pc0 := 172) (pc' := 176) rfl (hb hby at_172) (by decide) (by decide) k) ?_
            show Go _ _ _ _ _ _ _ T75 (mkF m 176 #[.val (.int p0), .val (.int p1), .val (.int p2), .val (.int p3), .val (.int p4), .val (.int (3 : Int32)), .val (.ref b61), .val (.ref b65), .val (.int w), .val (.double (FP.i2d p2)), .second] [(.int (1 : Int32))])
            refine Go.retZ X75 hx hlk hret (by decide) (hb hby at_176) (by decide) (by decide) ?_
            try rw [hh75]
            exact ⟨rfl, N75⟩
          · refine Go.step (fun _ k => XS.icmpYes X69.here hx rfl (pc0 := 144) (pc' := 154) rfl (hb hby at_144) rfl (feq hc144_74).2 (by decide) (by decide) k) ?_
            show Go _ _ _ _ _ _ _ T69 (mkF m 154 #[.val (.int p0), .val (.int p1), .val (.int p2), .val (.int p3), .val (.int p4), .val (.int (3 : Int32)), .val (.ref b61), .val (.ref b65), .val (.int w), .unset, .unset] [])
            refine Go.step (fun _ k => XS.iloadN X69.here hx rfl (hb hby at_154) rfl k) ?_
            show Go _ _ _ _ _ _ _ T69 (mkF m 155 #[.val (.int p0), .val (.int p1), .val (.int p2), .val (.int p3), .val (.int p4), .val (.int (3 : Int32)), .val (.ref b61), .val (.ref b65), .val (.int w), .unset, .unset] [(.int p3)])
            refine Go.step (fun _ k => XS.i2dS X69.here hx rfl (hb hby at_155) rfl rfl k) ?_
            show Go _ _ _ _ _ _ _ T69 (mkF m 156 #[.val (.int p0), .val (.int p1), .val (.int p2), .val (.int p3), .val (.int p4), .val (.int (3 : Int32)), .val (.ref b61), .val (.ref b65), .val (.int w), .unset, .unset] [(.double (FP.i2d p3))])
            refine Go.step (fun _ k => XS.dstore X69.here hx rfl (hb hby at_156) rfl (l' := #[.val (.int p0), .val (.int p1), .val (.int p2), .val (.int p3), .val (.int p4), .val (.int (3 : Int32)), .val (.ref b61), .val (.ref b65), .val (.int w), .val (.double (FP.i2d p3)), .second]) rfl k) ?_
            show Go _ _ _ _ _ _ _ T69 (mkF m 158 #[.val (.int p0), .val (.int p1), .val (.int p2), .val (.int p3), .val (.int p4), .val (.int (3 : Int32)), .val (.ref b61), .val (.ref b65), .val (.int w), .val (.double (FP.i2d p3)), .second] [])
            refine Go.step (fun _ k => XS.aload X69.here hx rfl (hb hby at_158) rfl rfl k) ?_
            show Go _ _ _ _ _ _ _ T69 (mkF m 160 #[.val (.int p0), .val (.int p1), .val (.int p2), .val (.int p3), .val (.int p4), .val (.int (3 : Int32)), .val (.ref b61), .val (.ref b65), .val (.int w), .val (.double (FP.i2d p3)), .second] [(.ref b65)])
            refine Go.step (fun _ k => XS.iload X69.here hx rfl (hb hby at_160) rfl k) ?_
            show Go _ _ _ _ _ _ _ T69 (mkF m 162 #[.val (.int p0), .val (.int p1), .val (.int p2), .val (.int p3), .val (.int p4), .val (.int (3 : Int32)), .val (.ref b61), .val (.ref b65), .val (.int w), .val (.double (FP.i2d p3)), .second] [(.int w), (.ref b65)])
            refine Go.callV X69 hx hZ (by rw [hml]; rfl) (y := (⟨"com/example/leapwise/leapwise/polytope/HalfSpace", "coefficient", "(I)D"⟩ : MethodName)) (z := (⟨"com/example/leapwise/leapwise/polytope/HalfSpace", "coefficient", "(I)D"⟩ : MethodName)) (a := b65) (argsL := [(.int w)]) (rest := []) hown (hw _ (List.mem_of_getElem? (i := 32) rfl)) (hw _ (List.mem_of_getElem? (i := 33) rfl)) (notFace_of_selects (args := #[]) (mvT hZ (hw _ (List.mem_of_getElem? (i := 35) rfl)))) (hw _ (List.mem_of_getElem? (i := 35) rfl)) (hw _ (List.mem_of_getElem? (i := 34) rfl)) (hw _ (List.mem_of_getElem? (i := 3) rfl)) (hw _ (List.mem_of_getElem? (i := 36) rfl)) (by decide) (rm5 l Z a0 hw b65 w c66 (3 : Int32) (updN (updN (updN (fun _ => (0 : UInt64)) 0 (FP.i2d p1)) 1 (FP.i2d p2)) 2 (FP.i2d p3)) h69 n0 (Nat.le_trans Z0 (K69 : Keep h0 h69 []).1) Fc66_69 Vc66_69 hw0) e69 Ec66_69 (hb hby at_162) (lenOf pd_3 rfl) rfl rfl (W := 0) (Nat.le_of_eq rfl) (by decide) (by decide) (by decide) (by decide) ?_
            intro v76 T76 L76 X76 Q76
            obtain ⟨rfl, N76q, hh76⟩ := Q76
            have N76 := Fr.app N69 N76q
            show Go _ _ _ _ _ _ _ T76 (mkF m 165 #[.val (.int p0), .val (.int p1), .val (.int p2), .val (.int p3), .val (.int p4), .val (.int (3 : Int32)), .val (.ref b61), .val (.ref b65), .val (.int w), .val (.double (FP.i2d p3)), .second] [(.double (slopeW w (3 : Int32) (updN (updN (updN (fun _ => (0 : UInt64)) 0 (FP.i2d p1)) 1 (FP.i2d p2)) 2 (FP.i2d p3))))])
            refine Go.step (fun _ k => XS.dload X76.here hx rfl (hb hby at_165) rfl k) ?_
            show Go _ _ _ _ _ _ _ T76 (mkF m 167 #[.val (.int p0), .val (.int p1), .val (.int p2), .val (.int p3), .val (.int p4), .val (.int (3 : Int32)), .val (.ref b61), .val (.ref b65), .val (.int w), .val (.double (FP.i2d p3)), .second] [(.double (FP.i2d p3)), (.double (slopeW w (3 : Int32) (updN (updN (updN (fun _ => (0 : UInt64)) 0 (FP.i2d p1)) 1 (FP.i2d p2)) 2 (FP.i2d p3))))])
            refine Go.step (fun _ k => XS.dcmpS X76.here hx rfl (hb hby at_167) rfl rfl k) ?_
            show Go _ _ _ _ _ _ _ T76 (mkF m 168 #[.val (.int p0), .val (.int p1), .val (.int p2), .val (.int p3), .val (.int p4), .val (.int (3 : Int32)), .val (.ref b61), .val (.ref b65), .val (.int w), .val (.double (FP.i2d p3)), .second] [(.int (cmpValue (FP.dcmp (slopeW w (3 : Int32) (updN (updN (updN (fun _ => (0 : UInt64)) 0 (FP.i2d p1)) 1 (FP.i2d p2)) 2 (FP.i2d p3))) (FP.i2d p3)) .l))])
            refine Go.step (fun _ k => XS.ifNo X76.here hx rfl (hb hby at_168) rfl (eq_y .l (own_eqI (own_sw hc120_71 (own_i3 hw0 hc120_71 hc131_72 hc144_74) rfl))).1 k) ?_
            show Go _ _ _ _ _ _ _ T76 (mkF m 171 #[.val (.int p0), .val (.int p1), .val (.int p2), .val (.int p3), .val (.int p4), .val (.int (3 : Int32)), .val (.ref b61), .val (.ref b65), .val (.int w), .val (.double (FP.i2d p3)), .second] [])
            refine Go.step (fun _ k => XS.iconst X76.here hx rfl (hb hby at_171) k) ?_
            show Go _ _ _ _ _ _ _ T76 (mkF m 172 #[.val (.int p0), .val (.int p1), .val (.int p2), .val (.int p3), .val (.int p4), .val (.int (3 : Int32)), .val (.ref b61), .val (.ref b65), .val (.int w), .val (.double (FP.i2d p3)), .second] [(.int (1 : Int32))])
            refine Go.step (fun _ k => XS.goto X76.here hx rfl (pc0 := 172) (pc' := 176) rfl (hb hby at_172) (by decide) (by decide) k) ?_
            show Go _ _ _ _ _ _ _ T76 (mkF m 176 #[.val (.int p0), .val (.int p1), .val (.int p2), .val (.int p3), .val (.int p4), .val (.int (3 : Int32)), .val (.ref b61), .val (.ref b65), .val (.int w), .val (.double (FP.i2d p3)), .second] [(.int (1 : Int32))])
            refine Go.retZ X76 hx hlk hret (by decide) (hb hby at_176) (by decide) (by decide) ?_
            try rw [hh76]
            exact ⟨rfl, N76⟩
      · refine Go.step (fun _ k => XS.icmpNo X69.here hx rfl (hb hby at_120) rfl (flt hc120_71).1 k) ?_
        show Go _ _ _ _ _ _ _ T69 (mkF m 123 #[.val (.int p0), .val (.int p1), .val (.int p2), .val (.int p3), .val (.int p4), .val (.int (3 : Int32)), .val (.ref b61), .val (.ref b65), .val (.int w), .unset, .unset] [])
        refine Go.step (fun _ k => XS.dconst0 X69.here hx rfl (hb hby at_123) rfl k) ?_
        show Go _ _ _ _ _ _ _ T69 (mkF m 124 #[.val (.int p0), .val (.int p1), .val (.int p2), .val (.int p3), .val (.int p4), .val (.int (3 : Int32)), .val (.ref b61), .val (.ref b65), .val (.int w), .unset, .unset] [(.double (0 : UInt64))])
        refine Go.step (fun _ k => XS.dstore X69.here hx rfl (hb hby at_124) rfl (l' := #[.val (.int p0), .val (.int p1), .val (.int p2), .val (.int p3), .val (.int p4), .val (.int (3 : Int32)), .val (.ref b61), .val (.ref b65), .val (.int w), .val (.double (0 : UInt64)), .second]) rfl k) ?_
        show Go _ _ _ _ _ _ _ T69 (mkF m 126 #[.val (.int p0), .val (.int p1), .val (.int p2), .val (.int p3), .val (.int p4), .val (.int (3 : Int32)), .val (.ref b61), .val (.ref b65), .val (.int w), .val (.double (0 : UInt64)), .second] [])
        refine Go.step (fun _ k => XS.goto X69.here hx rfl (pc0 := 126) (pc' := 158) rfl (hb hby at_126) (by decide) (by decide) k) ?_
        show Go _ _ _ _ _ _ _ T69 (mkF m 158 #[.val (.int p0), .val (.int p1), .val (.int p2), .val (.int p3), .val (.int p4), .val (.int (3 : Int32)), .val (.ref b61), .val (.ref b65), .val (.int w), .val (.double (0 : UInt64)), .second] [])
        refine Go.step (fun _ k => XS.aload X69.here hx rfl (hb hby at_158) rfl rfl k) ?_
        show Go _ _ _ _ _ _ _ T69 (mkF m 160 #[.val (.int p0), .val (.int p1), .val (.int p2), .val (.int p3), .val (.int p4), .val (.int (3 : Int32)), .val (.ref b61), .val (.ref b65), .val (.int w), .val (.double (0 : UInt64)), .second] [(.ref b65)])
        refine Go.step (fun _ k => XS.iload X69.here hx rfl (hb hby at_160) rfl k) ?_
        show Go _ _ _ _ _ _ _ T69 (mkF m 162 #[.val (.int p0), .val (.int p1), .val (.int p2), .val (.int p3), .val (.int p4), .val (.int (3 : Int32)), .val (.ref b61), .val (.ref b65), .val (.int w), .val (.double (0 : UInt64)), .second] [(.int w), (.ref b65)])
        refine Go.callV X69 hx hZ (by rw [hml]; rfl) (y := (⟨"com/example/leapwise/leapwise/polytope/HalfSpace", "coefficient", "(I)D"⟩ : MethodName)) (z := (⟨"com/example/leapwise/leapwise/polytope/HalfSpace", "coefficient", "(I)D"⟩ : MethodName)) (a := b65) (argsL := [(.int w)]) (rest := []) hown (hw _ (List.mem_of_getElem? (i := 32) rfl)) (hw _ (List.mem_of_getElem? (i := 33) rfl)) (notFace_of_selects (args := #[]) (mvT hZ (hw _ (List.mem_of_getElem? (i := 35) rfl)))) (hw _ (List.mem_of_getElem? (i := 35) rfl)) (hw _ (List.mem_of_getElem? (i := 34) rfl)) (hw _ (List.mem_of_getElem? (i := 3) rfl)) (hw _ (List.mem_of_getElem? (i := 36) rfl)) (by decide) (rm5 l Z a0 hw b65 w c66 (3 : Int32) (updN (updN (updN (fun _ => (0 : UInt64)) 0 (FP.i2d p1)) 1 (FP.i2d p2)) 2 (FP.i2d p3)) h69 n0 (Nat.le_trans Z0 (K69 : Keep h0 h69 []).1) Fc66_69 Vc66_69 hw0) e69 Ec66_69 (hb hby at_162) (lenOf pd_3 rfl) rfl rfl (W := 0) (Nat.le_of_eq rfl) (by decide) (by decide) (by decide) (by decide) ?_
        intro v77 T77 L77 X77 Q77
        obtain ⟨rfl, N77q, hh77⟩ := Q77
        have N77 := Fr.app N69 N77q
        show Go _ _ _ _ _ _ _ T77 (mkF m 165 #[.val (.int p0), .val (.int p1), .val (.int p2), .val (.int p3), .val (.int p4), .val (.int (3 : Int32)), .val (.ref b61), .val (.ref b65), .val (.int w), .val (.double (0 : UInt64)), .second] [(.double (slopeW w (3 : Int32) (updN (updN (updN (fun _ => (0 : UInt64)) 0 (FP.i2d p1)) 1 (FP.i2d p2)) 2 (FP.i2d p3))))])
        refine Go.step (fun _ k => XS.dload X77.here hx rfl (hb hby at_165) rfl k) ?_
        show Go _ _ _ _ _ _ _ T77 (mkF m 167 #[.val (.int p0), .val (.int p1), .val (.int p2), .val (.int p3), .val (.int p4), .val (.int (3 : Int32)), .val (.ref b61), .val (.ref b65), .val (.int w), .val (.double (0 : UInt64)), .second] [(.double (0 : UInt64)), (.double (slopeW w (3 : Int32) (updN (updN (updN (fun _ => (0 : UInt64)) 0 (FP.i2d p1)) 1 (FP.i2d p2)) 2 (FP.i2d p3))))])
        refine Go.step (fun _ k => XS.dcmpS X77.here hx rfl (hb hby at_167) rfl rfl k) ?_
        show Go _ _ _ _ _ _ _ T77 (mkF m 168 #[.val (.int p0), .val (.int p1), .val (.int p2), .val (.int p3), .val (.int p4), .val (.int (3 : Int32)), .val (.ref b61), .val (.ref b65), .val (.int w), .val (.double (0 : UInt64)), .second] [(.int (cmpValue (FP.dcmp (slopeW w (3 : Int32) (updN (updN (updN (fun _ => (0 : UInt64)) 0 (FP.i2d p1)) 1 (FP.i2d p2)) 2 (FP.i2d p3))) (0 : UInt64)) .l))])
        refine Go.step (fun _ k => XS.ifNo X77.here hx rfl (hb hby at_168) rfl (eq_y .l (own_sw0 hc120_71)).1 k) ?_
        show Go _ _ _ _ _ _ _ T77 (mkF m 171 #[.val (.int p0), .val (.int p1), .val (.int p2), .val (.int p3), .val (.int p4), .val (.int (3 : Int32)), .val (.ref b61), .val (.ref b65), .val (.int w), .val (.double (0 : UInt64)), .second] [])
        refine Go.step (fun _ k => XS.iconst X77.here hx rfl (hb hby at_171) k) ?_
        show Go _ _ _ _ _ _ _ T77 (mkF m 172 #[.val (.int p0), .val (.int p1), .val (.int p2), .val (.int p3), .val (.int p4), .val (.int (3 : Int32)), .val (.ref b61), .val (.ref b65), .val (.int w), .val (.double (0 : UInt64)), .second] [(.int (1 : Int32))])
        refine Go.step (fun _ k => XS.goto X77.here hx rfl (pc0 := 172) (pc' := 176) rfl (hb hby at_172) (by decide) (by decide) k) ?_
        show Go _ _ _ _ _ _ _ T77 (mkF m 176 #[.val (.int p0), .val (.int p1), .val (.int p2), .val (.int p3), .val (.int p4), .val (.int (3 : Int32)), .val (.ref b61), .val (.ref b65), .val (.int w), .val (.double (0 : UInt64)), .second] [(.int (1 : Int32))])
        refine Go.retZ X77 hx hlk hret (by decide) (hb hby at_176) (by decide) (by decide) ?_
        try rw [hh77]
        exact ⟨rfl, N77⟩
    · refine Go.step (fun _ k => XS.ifNo X69.here hx rfl (hb hby at_99) rfl ((if0 _ _).trans (feq hc99_70).1) k) ?_
      show Go _ _ _ _ _ _ _ T69 (mkF m 102 #[.val (.int p0), .val (.int p1), .val (.int p2), .val (.int p3), .val (.int p4), .val (.int (3 : Int32)), .val (.ref b61), .val (.ref b65), .unset, .unset, .unset] [])
      refine Go.step (fun _ k => XS.iload X69.here hx rfl (hb hby at_102) rfl k) ?_
      show Go _ _ _ _ _ _ _ T69 (mkF m 104 #[.val (.int p0), .val (.int p1), .val (.int p2), .val (.int p3), .val (.int p4), .val (.int (3 : Int32)), .val (.ref b61), .val (.ref b65), .unset, .unset, .unset] [(.int p4)])
      refine Go.step (X69.ldcInt hx hown (mvT hZ (hw _ (List.mem_of_getElem? (i := 38) rfl))) (g := (mkF m 104 #[.val (.int p0), .val (.int p1), .val (.int p2), .val (.int p3), .val (.int p4), .val (.int (3 : Int32)), .val (.ref b61), .val (.ref b65), .unset, .unset, .unset] [(.int p4)])) rfl (hb hby at_104)) ?_
      show Go _ _ _ _ _ _ _ T69 (mkF m 106 #[.val (.int p0), .val (.int p1), .val (.int p2), .val (.int p3), .val (.int p4), .val (.int (3 : Int32)), .val (.ref b61), .val (.ref b65), .unset, .unset, .unset] [(.int (2147483647 : Int32)), (.int p4)])
      refine Go.step (fun _ k => XS.iand X69.here hx rfl (hb hby at_106) rfl k) ?_
      show Go _ _ _ _ _ _ _ T69 (mkF m 107 #[.val (.int p0), .val (.int p1), .val (.int p2), .val (.int p3), .val (.int p4), .val (.int (3 : Int32)), .val (.ref b61), .val (.ref b65), .unset, .unset, .unset] [(.int (p4 &&& (2147483647 : Int32)))])
      refine Go.step (fun _ k => XS.goto X69.here hx rfl (pc0 := 107) (pc' := 114) rfl (hb hby at_107) (by decide) (by decide) k) ?_
      show Go _ _ _ _ _ _ _ T69 (mkF m 114 #[.val (.int p0), .val (.int p1), .val (.int p2), .val (.int p3), .val (.int p4), .val (.int (3 : Int32)), .val (.ref b61), .val (.ref b65), .unset, .unset, .unset] [(.int (p4 &&& (2147483647 : Int32)))])
      refine Go.step (fun _ k => XS.istore X69.here hx rfl (hb hby at_114) rfl (l' := #[.val (.int p0), .val (.int p1), .val (.int p2), .val (.int p3), .val (.int p4), .val (.int (3 : Int32)), .val (.ref b61), .val (.ref b65), .val (.int (p4 &&& (2147483647 : Int32))), .unset, .unset]) rfl k) ?_
      have hw0 := own_v1 p4
      obtain ⟨w, h_w⟩ : ∃ z, z = (p4 &&& (2147483647 : Int32)) := ⟨_, rfl⟩
      rw [← h_w]
      rw [← h_w] at hw0
      show Go _ _ _ _ _ _ _ T69 (mkF m 116 #[.val (.int p0), .val (.int p1), .val (.int p2), .val (.int p3), .val (.int p4), .val (.int (3 : Int32)), .val (.ref b61), .val (.ref b65), .val (.int w), .unset, .unset] [])
      refine Go.step (fun _ k => XS.iload X69.here hx rfl (hb hby at_116) rfl k) ?_
      show Go _ _ _ _ _ _ _ T69 (mkF m 118 #[.val (.int p0), .val (.int p1), .val (.int p2), .val (.int p3), .val (.int p4), .val (.int (3 : Int32)), .val (.ref b61), .val (.ref b65), .val (.int w), .unset, .unset] [(.int w)])
      refine Go.step (fun _ k => XS.iload X69.here hx rfl (hb hby at_118) rfl k) ?_
      show Go _ _ _ _ _ _ _ T69 (mkF m 120 #[.val (.int p0), .val (.int p1), .val (.int p2), .val (.int p3), .val (.int p4), .val (.int (3 : Int32)), .val (.ref b61), .val (.ref b65), .val (.int w), .unset, .unset] [(.int (3 : Int32)), (.int w)])
      by_cases hc120_78 : w < (3 : Int32)
      · refine Go.step (fun _ k => XS.icmpYes X69.here hx rfl (pc0 := 120) (pc' := 129) rfl (hb hby at_120) rfl (tlt hc120_78).1 (by decide) (by decide) k) ?_
        show Go _ _ _ _ _ _ _ T69 (mkF m 129 #[.val (.int p0), .val (.int p1), .val (.int p2), .val (.int p3), .val (.int p4), .val (.int (3 : Int32)), .val (.ref b61), .val (.ref b65), .val (.int w), .unset, .unset] [])
        refine Go.step (fun _ k => XS.iload X69.here hx rfl (hb hby at_129) rfl k) ?_
        show Go _ _ _ _ _ _ _ T69 (mkF m 131 #[.val (.int p0), .val (.int p1), .val (.int p2), .val (.int p3), .val (.int p4), .val (.int (3 : Int32)), .val (.ref b61), .val (.ref b65), .val (.int w), .unset, .unset] [(.int w)])
        by_cases hc131_79 : w = (0 : Int32)
        · refine Go.step (fun _ k => XS.ifNo X69.here hx rfl (hb hby at_131) rfl ((if0 _ _).trans (teq hc131_79).2) k) ?_
          show Go _ _ _ _ _ _ _ T69 (mkF m 134 #[.val (.int p0), .val (.int p1), .val (.int p2), .val (.int p3), .val (.int p4), .val (.int (3 : Int32)), .val (.ref b61), .val (.ref b65), .val (.int w), .unset, .unset] [])
          refine Go.step (fun _ k => XS.iloadN X69.here hx rfl (hb hby at_134) rfl k) ?_
          show Go _ _ _ _ _ _ _ T69 (mkF m 135 #[.val (.int p0), .val (.int p1), .val (.int p2), .val (.int p3), .val (.int p4), .val (.int (3 : Int32)), .val (.ref b61), .val (.ref b65), .val (.int w), .unset, .unset] [(.int p1)])
          refine Go.step (fun _ k => XS.i2dS X69.here hx rfl (hb hby at_135) rfl rfl k) ?_
          show Go _ _ _ _ _ _ _ T69 (mkF m 136 #[.val (.int p0), .val (.int p1), .val (.int p2), .val (.int p3), .val (.int p4), .val (.int (3 : Int32)), .val (.ref b61), .val (.ref b65), .val (.int w), .unset, .unset] [(.double (FP.i2d p1))])
          refine Go.step (fun _ k => XS.dstore X69.here hx rfl (hb hby at_136) rfl (l' := #[.val (.int p0), .val (.int p1), .val (.int p2), .val (.int p3), .val (.int p4), .val (.int (3 : Int32)), .val (.ref b61), .val (.ref b65), .val (.int w), .val (.double (FP.i2d p1)), .second]) rfl k) ?_
          show Go _ _ _ _ _ _ _ T69 (mkF m 138 #[.val (.int p0), .val (.int p1), .val (.int p2), .val (.int p3), .val (.int p4), .val (.int (3 : Int32)), .val (.ref b61), .val (.ref b65), .val (.int w), .val (.double (FP.i2d p1)), .second] [])
          refine Go.step (fun _ k => XS.goto X69.here hx rfl (pc0 := 138) (pc' := 158) rfl (hb hby at_138) (by decide) (by decide) k) ?_
          show Go _ _ _ _ _ _ _ T69 (mkF m 158 #[.val (.int p0), .val (.int p1), .val (.int p2), .val (.int p3), .val (.int p4), .val (.int (3 : Int32)), .val (.ref b61), .val (.ref b65), .val (.int w), .val (.double (FP.i2d p1)), .second] [])
          refine Go.step (fun _ k => XS.aload X69.here hx rfl (hb hby at_158) rfl rfl k) ?_
          show Go _ _ _ _ _ _ _ T69 (mkF m 160 #[.val (.int p0), .val (.int p1), .val (.int p2), .val (.int p3), .val (.int p4), .val (.int (3 : Int32)), .val (.ref b61), .val (.ref b65), .val (.int w), .val (.double (FP.i2d p1)), .second] [(.ref b65)])
          refine Go.step (fun _ k => XS.iload X69.here hx rfl (hb hby at_160) rfl k) ?_
          show Go _ _ _ _ _ _ _ T69 (mkF m 162 #[.val (.int p0), .val (.int p1), .val (.int p2), .val (.int p3), .val (.int p4), .val (.int (3 : Int32)), .val (.ref b61), .val (.ref b65), .val (.int w), .val (.double (FP.i2d p1)), .second] [(.int w), (.ref b65)])
          refine Go.callV X69 hx hZ (by rw [hml]; rfl) (y := (⟨"com/example/leapwise/leapwise/polytope/HalfSpace", "coefficient", "(I)D"⟩ : MethodName)) (z := (⟨"com/example/leapwise/leapwise/polytope/HalfSpace", "coefficient", "(I)D"⟩ : MethodName)) (a := b65) (argsL := [(.int w)]) (rest := []) hown (hw _ (List.mem_of_getElem? (i := 32) rfl)) (hw _ (List.mem_of_getElem? (i := 33) rfl)) (notFace_of_selects (args := #[]) (mvT hZ (hw _ (List.mem_of_getElem? (i := 35) rfl)))) (hw _ (List.mem_of_getElem? (i := 35) rfl)) (hw _ (List.mem_of_getElem? (i := 34) rfl)) (hw _ (List.mem_of_getElem? (i := 3) rfl)) (hw _ (List.mem_of_getElem? (i := 36) rfl)) (by decide) (rm5 l Z a0 hw b65 w c66 (3 : Int32) (updN (updN (updN (fun _ => (0 : UInt64)) 0 (FP.i2d p1)) 1 (FP.i2d p2)) 2 (FP.i2d p3)) h69 n0 (Nat.le_trans Z0 (K69 : Keep h0 h69 []).1) Fc66_69 Vc66_69 hw0) e69 Ec66_69 (hb hby at_162) (lenOf pd_3 rfl) rfl rfl (W := 0) (Nat.le_of_eq rfl) (by decide) (by decide) (by decide) (by decide) ?_
          intro v80 T80 L80 X80 Q80
          obtain ⟨rfl, N80q, hh80⟩ := Q80
          have N80 := Fr.app N69 N80q
          show Go _ _ _ _ _ _ _ T80 (mkF m 165 #[.val (.int p0), .val (.int p1), .val (.int p2), .val (.int p3), .val (.int p4), .val (.int (3 : Int32)), .val (.ref b61), .val (.ref b65), .val (.int w), .val (.double (FP.i2d p1)), .second] [(.double (slopeW w (3 : Int32) (updN (updN (updN (fun _ => (0 : UInt64)) 0 (FP.i2d p1)) 1 (FP.i2d p2)) 2 (FP.i2d p3))))])
          refine Go.step (fun _ k => XS.dload X80.here hx rfl (hb hby at_165) rfl k) ?_
          show Go _ _ _ _ _ _ _ T80 (mkF m 167 #[.val (.int p0), .val (.int p1), .val (.int p2), .val (.int p3), .val (.int p4), .val (.int (3 : Int32)), .val (.ref b61), .val (.ref b65), .val (.int w), .val (.double (FP.i2d p1)), .second] [(.double (FP.i2d p1)), (.double (slopeW w (3 : Int32) (updN (updN (updN (fun _ => (0 : UInt64)) 0 (FP.i2d p1)) 1 (FP.i2d p2)) 2 (FP.i2d p3))))])
          refine Go.step (fun _ k => XS.dcmpS X80.here hx rfl (hb hby at_167) rfl rfl k) ?_
          show Go _ _ _ _ _ _ _ T80 (mkF m 168 #[.val (.int p0), .val (.int p1), .val (.int p2), .val (.int p3), .val (.int p4), .val (.int (3 : Int32)), .val (.ref b61), .val (.ref b65), .val (.int w), .val (.double (FP.i2d p1)), .second] [(.int (cmpValue (FP.dcmp (slopeW w (3 : Int32) (updN (updN (updN (fun _ => (0 : UInt64)) 0 (FP.i2d p1)) 1 (FP.i2d p2)) 2 (FP.i2d p3))) (FP.i2d p1)) .l))])
          refine Go.step (fun _ k => XS.ifNo X80.here hx rfl (hb hby at_168) rfl (eq_y .l (own_eqI (own_sw hc120_78 hc131_79 rfl))).1 k) ?_
          show Go _ _ _ _ _ _ _ T80 (mkF m 171 #[.val (.int p0), .val (.int p1), .val (.int p2), .val (.int p3), .val (.int p4), .val (.int (3 : Int32)), .val (.ref b61), .val (.ref b65), .val (.int w), .val (.double (FP.i2d p1)), .second] [])
          refine Go.step (fun _ k => XS.iconst X80.here hx rfl (hb hby at_171) k) ?_
          show Go _ _ _ _ _ _ _ T80 (mkF m 172 #[.val (.int p0), .val (.int p1), .val (.int p2), .val (.int p3), .val (.int p4), .val (.int (3 : Int32)), .val (.ref b61), .val (.ref b65), .val (.int w), .val (.double (FP.i2d p1)), .second] [(.int (1 : Int32))])
          refine Go.step (fun _ k => XS.goto X80.here hx rfl (pc0 := 172) (pc' := 176) rfl (hb hby at_172) (by decide) (by decide) k) ?_
          show Go _ _ _ _ _ _ _ T80 (mkF m 176 #[.val (.int p0), .val (.int p1), .val (.int p2), .val (.int p3), .val (.int p4), .val (.int (3 : Int32)), .val (.ref b61), .val (.ref b65), .val (.int w), .val (.double (FP.i2d p1)), .second] [(.int (1 : Int32))])
          refine Go.retZ X80 hx hlk hret (by decide) (hb hby at_176) (by decide) (by decide) ?_
          try rw [hh80]
          exact ⟨rfl, N80⟩
        · refine Go.step (fun _ k => XS.ifYes X69.here hx rfl (pc0 := 131) (pc' := 141) rfl (hb hby at_131) rfl ((if0 _ _).trans (feq hc131_79).2) (by decide) (by decide) k) ?_
          show Go _ _ _ _ _ _ _ T69 (mkF m 141 #[.val (.int p0), .val (.int p1), .val (.int p2), .val (.int p3), .val (.int p4), .val (.int (3 : Int32)), .val (.ref b61), .val (.ref b65), .val (.int w), .unset, .unset] [])
          refine Go.step (fun _ k => XS.iload X69.here hx rfl (hb hby at_141) rfl k) ?_
          show Go _ _ _ _ _ _ _ T69 (mkF m 143 #[.val (.int p0), .val (.int p1), .val (.int p2), .val (.int p3), .val (.int p4), .val (.int (3 : Int32)), .val (.ref b61), .val (.ref b65), .val (.int w), .unset, .unset] [(.int w)])
          refine Go.step (fun _ k => XS.iconst X69.here hx rfl (hb hby at_143) k) ?_
          show Go _ _ _ _ _ _ _ T69 (mkF m 144 #[.val (.int p0), .val (.int p1), .val (.int p2), .val (.int p3), .val (.int p4), .val (.int (3 : Int32)), .val (.ref b61), .val (.ref b65), .val (.int w), .unset, .unset] [(.int (1 : Int32)), (.int w)])
          by_cases hc144_81 : w = (1 : Int32)
          · refine Go.step (fun _ k => XS.icmpNo X69.here hx rfl (hb hby at_144) rfl (teq hc144_81).2 k) ?_
            show Go _ _ _ _ _ _ _ T69 (mkF m 147 #[.val (.int p0), .val (.int p1), .val (.int p2), .val (.int p3), .val (.int p4), .val (.int (3 : Int32)), .val (.ref b61), .val (.ref b65), .val (.int w), .unset, .unset] [])
            refine Go.step (fun _ k => XS.iloadN X69.here hx rfl (hb hby at_147) rfl k) ?_
            show Go _ _ _ _ _ _ _ T69 (mkF m 148 #[.val (.int p0), .val (.int p1), .val (.int p2), .val (.int p3), .val (.int p4), .val (.int (3 : Int32)), .val (.ref b61), .val (.ref b65), .val (.int w), .unset, .unset] [(.int p2)])
            refine Go.step (fun _ k => XS.i2dS X69.here hx rfl (hb hby at_148) rfl rfl k) ?_
            show Go _ _ _ _ _ _ _ T69 (mkF m 149 #[.val (.int p0), .val (.int p1), .val (.int p2), .val (.int p3), .val (.int p4), .val (.int (3 : Int32)), .val (.ref b61), .val (.ref b65), .val (.int w), .unset, .unset] [(.double (FP.i2d p2))])
            refine Go.step (fun _ k => XS.dstore X69.here hx rfl (hb hby at_149) rfl (l' := #[.val (.int p0), .val (.int p1), .val (.int p2), .val (.int p3), .val (.int p4), .val (.int (3 : Int32)), .val (.ref b61), .val (.ref b65), .val (.int w), .val (.double (FP.i2d p2)), .second]) rfl k) ?_
            show Go _ _ _ _ _ _ _ T69 (mkF m 151 #[.val (.int p0), .val (.int p1), .val (.int p2), .val (.int p3), .val (.int p4), .val (.int (3 : Int32)), .val (.ref b61), .val (.ref b65), .val (.int w), .val (.double (FP.i2d p2)), .second] [])
            refine Go.step (fun _ k => XS.goto X69.here hx rfl (pc0 := 151) (pc' := 158) rfl (hb hby at_151) (by decide) (by decide) k) ?_
            show Go _ _ _ _ _ _ _ T69 (mkF m 158 #[.val (.int p0), .val (.int p1), .val (.int p2), .val (.int p3), .val (.int p4), .val (.int (3 : Int32)), .val (.ref b61), .val (.ref b65), .val (.int w), .val (.double (FP.i2d p2)), .second] [])
            refine Go.step (fun _ k => XS.aload X69.here hx rfl (hb hby at_158) rfl rfl k) ?_
            show Go _ _ _ _ _ _ _ T69 (mkF m 160 #[.val (.int p0), .val (.int p1), .val (.int p2), .val (.int p3), .val (.int p4), .val (.int (3 : Int32)), .val (.ref b61), .val (.ref b65), .val (.int w), .val (.double (FP.i2d p2)), .second] [(.ref b65)])
            refine Go.step (fun _ k => XS.iload X69.here hx rfl (hb hby at_160) rfl k) ?_
            show Go _ _ _ _ _ _ _ T69 (mkF m 162 #[.val (.int p0), .val (.int p1), .val (.int p2), .val (.int p3), .val (.int p4), .val (.int (3 : Int32)), .val (.ref b61), .val (.ref b65), .val (.int w), .val (.double (FP.i2d p2)), .second] [(.int w), (.ref b65)])
            refine Go.callV X69 hx hZ (by rw [hml]; rfl) (y := (⟨"com/example/leapwise/leapwise/polytope/HalfSpace", "coefficient", "(I)D"⟩ : MethodName)) (z := (⟨"com/example/leapwise/leapwise/polytope/HalfSpace", "coefficient", "(I)D"⟩ : MethodName)) (a := b65) (argsL := [(.int w)]) (rest := []) hown (hw _ (List.mem_of_getElem? (i := 32) rfl)) (hw _ (List.mem_of_getElem? (i := 33) rfl)) (notFace_of_selects (args := #[]) (mvT hZ (hw _ (List.mem_of_getElem? (i := 35) rfl)))) (hw _ (List.mem_of_getElem? (i := 35) rfl)) (hw _ (List.mem_of_getElem? (i := 34) rfl)) (hw _ (List.mem_of_getElem? (i := 3) rfl)) (hw _ (List.mem_of_getElem? (i := 36) rfl)) (by decide) (rm5 l Z a0 hw b65 w c66 (3 : Int32) (updN (updN (updN (fun _ => (0 : UInt64)) 0 (FP.i2d p1)) 1 (FP.i2d p2)) 2 (FP.i2d p3)) h69 n0 (Nat.le_trans Z0 (K69 : Keep h0 h69 []).1) Fc66_69 Vc66_69 hw0) e69 Ec66_69 (hb hby at_162) (lenOf pd_3 rfl) rfl rfl (W := 0) (Nat.le_of_eq rfl) (by decide) (by decide) (by decide) (by decide) ?_
            intro v82 T82 L82 X82 Q82
            obtain ⟨rfl, N82q, hh82⟩ := Q82
            have N82 := Fr.app N69 N82q
            show Go _ _ _ _ _ _ _ T82 (mkF m 165 #[.val (.int p0), .val (.int p1), .val (.int p2), .val (.int p3), .val (.int p4), .val (.int (3 : Int32)), .val (.ref b61), .val (.ref b65), .val (.int w), .val (.double (FP.i2d p2)), .second] [(.double (slopeW w (3 : Int32) (updN (updN (updN (fun _ => (0 : UInt64)) 0 (FP.i2d p1)) 1 (FP.i2d p2)) 2 (FP.i2d p3))))])
            refine Go.step (fun _ k => XS.dload X82.here hx rfl (hb hby at_165) rfl k) ?_
            show Go _ _ _ _ _ _ _ T82 (mkF m 167 #[.val (.int p0), .val (.int p1), .val (.int p2), .val (.int p3), .val (.int p4), .val (.int (3 : Int32)), .val (.ref b61), .val (.ref b65), .val (.int w), .val (.double (FP.i2d p2)), .second] [(.double (FP.i2d p2)), (.double (slopeW w (3 : Int32) (updN (updN (updN (fun _ => (0 : UInt64)) 0 (FP.i2d p1)) 1 (FP.i2d p2)) 2 (FP.i2d p3))))])
            refine Go.step (fun _ k => XS.dcmpS X82.here hx rfl (hb hby at_167) rfl rfl k) ?_
            show Go _ _ _ _ _ _ _ T82 (mkF m 168 #[.val (.int p0), .val (.int p1), .val (.int p2), .val (.int p3), .val (.int p4), .val (.int (3 : Int32)), .val (.ref b61), .val (.ref b65), .val (.int w), .val (.double (FP.i2d p2)), .second] [(.int (cmpValue (FP.dcmp (slopeW w (3 : Int32) (updN (updN (updN (fun _ => (0 : UInt64)) 0 (FP.i2d p1)) 1 (FP.i2d p2)) 2 (FP.i2d p3))) (FP.i2d p2)) .l))])
            refine Go.step (fun _ k => XS.ifNo X82.here hx rfl (hb hby at_168) rfl (eq_y .l (own_eqI (own_sw hc120_78 hc144_81 rfl))).1 k) ?_
            show Go _ _ _ _ _ _ _ T82 (mkF m 171 #[.val (.int p0), .val (.int p1), .val (.int p2), .val (.int p3), .val (.int p4), .val (.int (3 : Int32)), .val (.ref b61), .val (.ref b65), .val (.int w), .val (.double (FP.i2d p2)), .second] [])
            refine Go.step (fun _ k => XS.iconst X82.here hx rfl (hb hby at_171) k) ?_
            show Go _ _ _ _ _ _ _ T82 (mkF m 172 #[.val (.int p0), .val (.int p1), .val (.int p2), .val (.int p3), .val (.int p4), .val (.int (3 : Int32)), .val (.ref b61), .val (.ref b65), .val (.int w), .val (.double (FP.i2d p2)), .second] [(.int (1 : Int32))])
            refine Go.step (fun _ k => XS.goto X82.here hx rfl (pc0 := 172) (pc' := 176) rfl (hb hby at_172) (by decide) (by decide) k) ?_
            show Go _ _ _ _ _ _ _ T82 (mkF m 176 #[.val (.int p0), .val (.int p1), .val (.int p2), .val (.int p3), .val (.int p4), .val (.int (3 : Int32)), .val (.ref b61), .val (.ref b65), .val (.int w), .val (.double (FP.i2d p2)), .second] [(.int (1 : Int32))])
            refine Go.retZ X82 hx hlk hret (by decide) (hb hby at_176) (by decide) (by decide) ?_
            try rw [hh82]
            exact ⟨rfl, N82⟩
          · refine Go.step (fun _ k => XS.icmpYes X69.here hx rfl (pc0 := 144) (pc' := 154) rfl (hb hby at_144) rfl (feq hc144_81).2 (by decide) (by decide) k) ?_
            show Go _ _ _ _ _ _ _ T69 (mkF m 154 #[.val (.int p0), .val (.int p1), .val (.int p2), .val (.int p3), .val (.int p4), .val (.int (3 : Int32)), .val (.ref b61), .val (.ref b65), .val (.int w), .unset, .unset] [])
            refine Go.step (fun _ k => XS.iloadN X69.here hx rfl (hb hby at_154) rfl k) ?_
            show Go _ _ _ _ _ _ _ T69 (mkF m 155 #[.val (.int p0), .val (.int p1), .val (.int p2), .val (.int p3), .val (.int p4), .val (.int (3 : Int32)), .val (.ref b61), .val (.ref b65), .val (.int w), .unset, .unset] [(.int p3)])
            refine Go.step (fun _ k => XS.i2dS X69.here hx rfl (hb hby at_155) rfl rfl k) ?_
            show Go _ _ _ _ _ _ _ T69 (mkF m 156 #[.val (.int p0), .val (.int p1), .val (.int p2), .val (.int p3), .val (.int p4), .val (.int (3 : Int32)), .val (.ref b61), .val (.ref b65), .val (.int w), .unset, .unset] [(.double (FP.i2d p3))])
            refine Go.step (fun _ k => XS.dstore X69.here hx rfl (hb hby at_156) rfl (l' := #[.val (.int p0), .val (.int p1), .val (.int p2), .val (.int p3), .val (.int p4), .val (.int (3 : Int32)), .val (.ref b61), .val (.ref b65), .val (.int w), .val (.double (FP.i2d p3)), .second]) rfl k) ?_
            show Go _ _ _ _ _ _ _ T69 (mkF m 158 #[.val (.int p0), .val (.int p1), .val (.int p2), .val (.int p3), .val (.int p4), .val (.int (3 : Int32)), .val (.ref b61), .val (.ref b65), .val (.int w), .val (.double (FP.i2d p3)), .second] [])
            refine Go.step (fun _ k => XS.aload X69.here hx rfl (hb hby at_158) rfl rfl k) ?_
            show Go _ _ _ _ _ _ _ T69 (mkF m 160 #[.val (.int p0), .val (.int p1), .val (.int p2), .val (.int p3), .val (.int p4), .val (.int (3 : Int32)), .val (.ref b61), .val (.ref b65), .val (.int w), .val (.double (FP.i2d p3)), .second] [(.ref b65)])
            refine Go.step (fun _ k => XS.iload X69.here hx rfl (hb hby at_160) rfl k) ?_
            show Go _ _ _ _ _ _ _ T69 (mkF m 162 #[.val (.int p0), .val (.int p1), .val (.int p2), .val (.int p3), .val (.int p4), .val (.int (3 : Int32)), .val (.ref b61), .val (.ref b65), .val (.int w), .val (.double (FP.i2d p3)), .second] [(.int w), (.ref b65)])
            refine Go.callV X69 hx hZ (by rw [hml]; rfl) (y := (⟨"com/example/leapwise/leapwise/polytope/HalfSpace", "coefficient", "(I)D"⟩ : MethodName)) (z := (⟨"com/example/leapwise/leapwise/polytope/HalfSpace", "coefficient", "(I)D"⟩ : MethodName)) (a := b65) (argsL := [(.int w)]) (rest := []) hown (hw _ (List.mem_of_getElem? (i := 32) rfl)) (hw _ (List.mem_of_getElem? (i := 33) rfl)) (notFace_of_selects (args := #[]) (mvT hZ (hw _ (List.mem_of_getElem? (i := 35) rfl)))) (hw _ (List.mem_of_getElem? (i := 35) rfl)) (hw _ (List.mem_of_getElem? (i := 34) rfl)) (hw _ (List.mem_of_getElem? (i := 3) rfl)) (hw _ (List.mem_of_getElem? (i := 36) rfl)) (by decide) (rm5 l Z a0 hw b65 w c66 (3 : Int32) (updN (updN (updN (fun _ => (0 : UInt64)) 0 (FP.i2d p1)) 1 (FP.i2d p2)) 2 (FP.i2d p3)) h69 n0 (Nat.le_trans Z0 (K69 : Keep h0 h69 []).1) Fc66_69 Vc66_69 hw0) e69 Ec66_69 (hb hby at_162) (lenOf pd_3 rfl) rfl rfl (W := 0) (Nat.le_of_eq rfl) (by decide) (by decide) (by decide) (by decide) ?_
            intro v83 T83 L83 X83 Q83
            obtain ⟨rfl, N83q, hh83⟩ := Q83
            have N83 := Fr.app N69 N83q
            show Go _ _ _ _ _ _ _ T83 (mkF m 165 #[.val (.int p0), .val (.int p1), .val (.int p2), .val (.int p3), .val (.int p4), .val (.int (3 : Int32)), .val (.ref b61), .val (.ref b65), .val (.int w), .val (.double (FP.i2d p3)), .second] [(.double (slopeW w (3 : Int32) (updN (updN (updN (fun _ => (0 : UInt64)) 0 (FP.i2d p1)) 1 (FP.i2d p2)) 2 (FP.i2d p3))))])
            refine Go.step (fun _ k => XS.dload X83.here hx rfl (hb hby at_165) rfl k) ?_
            show Go _ _ _ _ _ _ _ T83 (mkF m 167 #[.val (.int p0), .val (.int p1), .val (.int p2), .val (.int p3), .val (.int p4), .val (.int (3 : Int32)), .val (.ref b61), .val (.ref b65), .val (.int w), .val (.double (FP.i2d p3)), .second] [(.double (FP.i2d p3)), (.double (slopeW w (3 : Int32) (updN (updN (updN (fun _ => (0 : UInt64)) 0 (FP.i2d p1)) 1 (FP.i2d p2)) 2 (FP.i2d p3))))])
            refine Go.step (fun _ k => XS.dcmpS X83.here hx rfl (hb hby at_167) rfl rfl k) ?_
            show Go _ _ _ _ _ _ _ T83 (mkF m 168 #[.val (.int p0), .val (.int p1), .val (.int p2), .val (.int p3), .val (.int p4), .val (.int (3 : Int32)), .val (.ref b61), .val (.ref b65), .val (.int w), .val (.double (FP.i2d p3)), .second] [(.int (cmpValue (FP.dcmp (slopeW w (3 : Int32) (updN (updN (updN (fun _ => (0 : UInt64)) 0 (FP.i2d p1)) 1 (FP.i2d p2)) 2 (FP.i2d p3))) (FP.i2d p3)) .l))])
            refine Go.step (fun _ k => XS.ifNo X83.here hx rfl (hb hby at_168) rfl (eq_y .l (own_eqI (own_sw hc120_78 (own_i3 hw0 hc120_78 hc131_79 hc144_81) rfl))).1 k) ?_
            show Go _ _ _ _ _ _ _ T83 (mkF m 171 #[.val (.int p0), .val (.int p1), .val (.int p2), .val (.int p3), .val (.int p4), .val (.int (3 : Int32)), .val (.ref b61), .val (.ref b65), .val (.int w), .val (.double (FP.i2d p3)), .second] [])
            refine Go.step (fun _ k => XS.iconst X83.here hx rfl (hb hby at_171) k) ?_
            show Go _ _ _ _ _ _ _ T83 (mkF m 172 #[.val (.int p0), .val (.int p1), .val (.int p2), .val (.int p3), .val (.int p4), .val (.int (3 : Int32)), .val (.ref b61), .val (.ref b65), .val (.int w), .val (.double (FP.i2d p3)), .second] [(.int (1 : Int32))])
            refine Go.step (fun _ k => XS.goto X83.here hx rfl (pc0 := 172) (pc' := 176) rfl (hb hby at_172) (by decide) (by decide) k) ?_
            show Go _ _ _ _ _ _ _ T83 (mkF m 176 #[.val (.int p0), .val (.int p1), .val (.int p2), .val (.int p3), .val (.int p4), .val (.int (3 : Int32)), .val (.ref b61), .val (.ref b65), .val (.int w), .val (.double (FP.i2d p3)), .second] [(.int (1 : Int32))])
            refine Go.retZ X83 hx hlk hret (by decide) (hb hby at_176) (by decide) (by decide) ?_
            try rw [hh83]
            exact ⟨rfl, N83⟩
      · refine Go.step (fun _ k => XS.icmpNo X69.here hx rfl (hb hby at_120) rfl (flt hc120_78).1 k) ?_
        show Go _ _ _ _ _ _ _ T69 (mkF m 123 #[.val (.int p0), .val (.int p1), .val (.int p2), .val (.int p3), .val (.int p4), .val (.int (3 : Int32)), .val (.ref b61), .val (.ref b65), .val (.int w), .unset, .unset] [])
        refine Go.step (fun _ k => XS.dconst0 X69.here hx rfl (hb hby at_123) rfl k) ?_
        show Go _ _ _ _ _ _ _ T69 (mkF m 124 #[.val (.int p0), .val (.int p1), .val (.int p2), .val (.int p3), .val (.int p4), .val (.int (3 : Int32)), .val (.ref b61), .val (.ref b65), .val (.int w), .unset, .unset] [(.double (0 : UInt64))])
        refine Go.step (fun _ k => XS.dstore X69.here hx rfl (hb hby at_124) rfl (l' := #[.val (.int p0), .val (.int p1), .val (.int p2), .val (.int p3), .val (.int p4), .val (.int (3 : Int32)), .val (.ref b61), .val (.ref b65), .val (.int w), .val (.double (0 : UInt64)), .second]) rfl k) ?_
        show Go _ _ _ _ _ _ _ T69 (mkF m 126 #[.val (.int p0), .val (.int p1), .val (.int p2), .val (.int p3), .val (.int p4), .val (.int (3 : Int32)), .val (.ref b61), .val (.ref b65), .val (.int w), .val (.double (0 : UInt64)), .second] [])
        refine Go.step (fun _ k => XS.goto X69.here hx rfl (pc0 := 126) (pc' := 158) rfl (hb hby at_126) (by decide) (by decide) k) ?_
        show Go _ _ _ _ _ _ _ T69 (mkF m 158 #[.val (.int p0), .val (.int p1), .val (.int p2), .val (.int p3), .val (.int p4), .val (.int (3 : Int32)), .val (.ref b61), .val (.ref b65), .val (.int w), .val (.double (0 : UInt64)), .second] [])
        refine Go.step (fun _ k => XS.aload X69.here hx rfl (hb hby at_158) rfl rfl k) ?_
        show Go _ _ _ _ _ _ _ T69 (mkF m 160 #[.val (.int p0), .val (.int p1), .val (.int p2), .val (.int p3), .val (.int p4), .val (.int (3 : Int32)), .val (.ref b61), .val (.ref b65), .val (.int w), .val (.double (0 : UInt64)), .second] [(.ref b65)])
        refine Go.step (fun _ k => XS.iload X69.here hx rfl (hb hby at_160) rfl k) ?_
        show Go _ _ _ _ _ _ _ T69 (mkF m 162 #[.val (.int p0), .val (.int p1), .val (.int p2), .val (.int p3), .val (.int p4), .val (.int (3 : Int32)), .val (.ref b61), .val (.ref b65), .val (.int w), .val (.double (0 : UInt64)), .second] [(.int w), (.ref b65)])
        refine Go.callV X69 hx hZ (by rw [hml]; rfl) (y := (⟨"com/example/leapwise/leapwise/polytope/HalfSpace", "coefficient", "(I)D"⟩ : MethodName)) (z := (⟨"com/example/leapwise/leapwise/polytope/HalfSpace", "coefficient", "(I)D"⟩ : MethodName)) (a := b65) (argsL := [(.int w)]) (rest := []) hown (hw _ (List.mem_of_getElem? (i := 32) rfl)) (hw _ (List.mem_of_getElem? (i := 33) rfl)) (notFace_of_selects (args := #[]) (mvT hZ (hw _ (List.mem_of_getElem? (i := 35) rfl)))) (hw _ (List.mem_of_getElem? (i := 35) rfl)) (hw _ (List.mem_of_getElem? (i := 34) rfl)) (hw _ (List.mem_of_getElem? (i := 3) rfl)) (hw _ (List.mem_of_getElem? (i := 36) rfl)) (by decide) (rm5 l Z a0 hw b65 w c66 (3 : Int32) (updN (updN (updN (fun _ => (0 : UInt64)) 0 (FP.i2d p1)) 1 (FP.i2d p2)) 2 (FP.i2d p3)) h69 n0 (Nat.le_trans Z0 (K69 : Keep h0 h69 []).1) Fc66_69 Vc66_69 hw0) e69 Ec66_69 (hb hby at_162) (lenOf pd_3 rfl) rfl rfl (W := 0) (Nat.le_of_eq rfl) (by decide) (by decide) (by decide) (by decide) ?_
        intro v84 T84 L84 X84 Q84
        obtain ⟨rfl, N84q, hh84⟩ := Q84
        have N84 := Fr.app N69 N84q
        show Go _ _ _ _ _ _ _ T84 (mkF m 165 #[.val (.int p0), .val (.int p1), .val (.int p2), .val (.int p3), .val (.int p4), .val (.int (3 : Int32)), .val (.ref b61), .val (.ref b65), .val (.int w), .val (.double (0 : UInt64)), .second] [(.double (slopeW w (3 : Int32) (updN (updN (updN (fun _ => (0 : UInt64)) 0 (FP.i2d p1)) 1 (FP.i2d p2)) 2 (FP.i2d p3))))])
        refine Go.step (fun _ k => XS.dload X84.here hx rfl (hb hby at_165) rfl k) ?_
        show Go _ _ _ _ _ _ _ T84 (mkF m 167 #[.val (.int p0), .val (.int p1), .val (.int p2), .val (.int p3), .val (.int p4), .val (.int (3 : Int32)), .val (.ref b61), .val (.ref b65), .val (.int w), .val (.double (0 : UInt64)), .second] [(.double (0 : UInt64)), (.double (slopeW w (3 : Int32) (updN (updN (updN (fun _ => (0 : UInt64)) 0 (FP.i2d p1)) 1 (FP.i2d p2)) 2 (FP.i2d p3))))])
        refine Go.step (fun _ k => XS.dcmpS X84.here hx rfl (hb hby at_167) rfl rfl k) ?_
        show Go _ _ _ _ _ _ _ T84 (mkF m 168 #[.val (.int p0), .val (.int p1), .val (.int p2), .val (.int p3), .val (.int p4), .val (.int (3 : Int32)), .val (.ref b61), .val (.ref b65), .val (.int w), .val (.double (0 : UInt64)), .second] [(.int (cmpValue (FP.dcmp (slopeW w (3 : Int32) (updN (updN (updN (fun _ => (0 : UInt64)) 0 (FP.i2d p1)) 1 (FP.i2d p2)) 2 (FP.i2d p3))) (0 : UInt64)) .l))])
        refine Go.step (fun _ k => XS.ifNo X84.here hx rfl (hb hby at_168) rfl (eq_y .l (own_sw0 hc120_78)).1 k) ?_
        show Go _ _ _ _ _ _ _ T84 (mkF m 171 #[.val (.int p0), .val (.int p1), .val (.int p2), .val (.int p3), .val (.int p4), .val (.int (3 : Int32)), .val (.ref b61), .val (.ref b65), .val (.int w), .val (.double (0 : UInt64)), .second] [])
        refine Go.step (fun _ k => XS.iconst X84.here hx rfl (hb hby at_171) k) ?_
        show Go _ _ _ _ _ _ _ T84 (mkF m 172 #[.val (.int p0), .val (.int p1), .val (.int p2), .val (.int p3), .val (.int p4), .val (.int (3 : Int32)), .val (.ref b61), .val (.ref b65), .val (.int w), .val (.double (0 : UInt64)), .second] [(.int (1 : Int32))])
        refine Go.step (fun _ k => XS.goto X84.here hx rfl (pc0 := 172) (pc' := 176) rfl (hb hby at_172) (by decide) (by decide) k) ?_
        show Go _ _ _ _ _ _ _ T84 (mkF m 176 #[.val (.int p0), .val (.int p1), .val (.int p2), .val (.int p3), .val (.int p4), .val (.int (3 : Int32)), .val (.ref b61), .val (.ref b65), .val (.int w), .val (.double (0 : UInt64)), .second] [(.int (1 : Int32))])
        refine Go.retZ X84 hx hlk hret (by decide) (hb hby at_176) (by decide) (by decide) ?_
        try rw [hh84]
        exact ⟨rfl, N84⟩
theorem pn_0 : plainName "com/example/leapwise/leapwise/polytope/HalfSpaceCoefficientPinLaw" = true := by first | (simp [plainName, overriddenIn]; done) | decide +kernel
theorem ef_rm0 (m : MethodId) (p0 : Int32) (p1 : Int32) (p2 : Int32) (p3 : Int32) (p4 : Int32) : entryFrame m #[(.int p0), (.int p1), (.int p2), (.int p3), (.int p4)] maxLocals = mkF m 0 #[.val (.int p0), .val (.int p1), .val (.int p2), .val (.int p3), .val (.int p4), .unset, .unset, .unset, .unset, .unset, .unset] [] := by first | (simp [entryFrame, mkF, argsToLocals, Value.category, maxLocals]; done) | rfl
theorem rm0 (l : Launch) (Z : State) (a0 : Array Value) (hw : ∀ d ∈ tables_1, d.before a0 Z = true) (ws : List Jvm.Cond) (p0 p1 p2 p3 p4 : Int32) (h0 : Heap) (n0 : Nat) (Z0 : n0 ≤ h0.size)  :
    MetFree l x (head1 (Jvm.Cond.code x code maxLocals ret :: ws) room_1) (fun a U => a = #[(.int p0), (.int p1), (.int p2), (.int p3), (.int p4)] ∧ Z.Warmed39 U.vm ∧ U.heap = h0) (fun _ _ _ _ _ => True) (fun _ U o U' => ∃ v L, o = .returned v ∧ (fun r h L => r = some (.int 1) ∧ Fr n0 L) v U'.heap L ∧ FrameEnd U o U' L room_1.cells room_1.slots) :=
  con_of (plainFor_of_name pn_0) (fun p_ e_ s_ m_ b_ meth_ c_ T_ X_ hx hZ hby hml hown hnm hret hlk e0 => Go.cast (ef_rm0 m_ p0 p1 p2 p3 p4) (w0 p0 p1 p2 p3 p4 X_ hx hZ hw hby hml hown hnm hret hlk e0 Z0 (Fr.nil n0) ))
set_option maxRecDepth 65536 in
set_option maxHeartbeats 40000000 in
theorem comes_1 {Post : Tables → Env → Array Value → State → Outcome → State → Prop} (hpost : ∀ tb e args s v u, (limb_1_1.after args s (.returned v) u = true ∧ limb_1_2.after args s (.returned v) u = true ∧ True) → FrameEnd s (.returned v) u (Jvm.fieldLocs frame_1_writes args s ++ Jvm.arrayLocs frame_1_arrays args s ++ Jvm.staticLocs frame_1_statics s) 16 128 → Post tb e args s (.returned v) u) :
    ArmFor flags0 classFile x code maxLocals ret World_1 tables_1 room_1 Calls_1 rest_1 Pre_1 Post := by
  intro l hfl _ _ p e ha hc hk s m args below hf hA hF happ hP
  obtain ⟨hcalls, hrest, hpre⟩ := hP
  obtain ⟨-, -, -, hnamed, -, -, -, hat⟩ := (Spec.applies_iff hf).mp happ
  obtain ⟨hg, hn⟩ := and_e (Cond.before_iff.mp (show (Jvm.Cond.and given_1 narrow_1).before args s = true from hpre))
  obtain ⟨g1, g2⟩ := and_e hg
  obtain ⟨g3, g4⟩ := and_e g2
  obtain ⟨g5, g6⟩ := and_e g4
  obtain ⟨g7, g8⟩ := and_e g6
  obtain ⟨g9, g10⟩ := and_e g8
  obtain ⟨w0, w1, w2, w3, w4, rfl⟩ : ∃ w0 w1 w2 w3 w4 : Value, args = #[w0, w1, w2, w3, w4] := by
    have hs : args.size = 5 := by simpa [Cond.value, given_1] using g1
    obtain ⟨L⟩ := args
    match L, hs with
    | [w0, w1, w2, w3, w4], _ => exact ⟨w0, w1, w2, w3, w4, rfl⟩
  have hw := fun d (hd : d ∈ tables_1) => atoms_spec (ws := Jvm.Cond.code x code maxLocals ret :: tables_1) hat d (List.mem_cons_of_mem _ hd)
  have hfit : Fit s := fun {y c} hc i hi => by
    obtain ⟨ha, rfl⟩ := Array.getElem?_eq_some_iff.mp hc
    have q := List.all_eq_true.mp ((Array.all_eq_true_iff_forall_mem.mp hF) _ (Array.getElem_mem ha)) i (List.mem_range.mpr hi)
    simpa [Array.getElem?_eq_getElem hi] using q
  obtain ⟨i0, ei0⟩ := is_v g3
  obtain rfl : w0 = (.int i0) := Option.some.inj ei0
  obtain ⟨i1, ei1⟩ := is_v g5
  obtain rfl : w1 = (.int i1) := Option.some.inj ei1
  obtain ⟨i2, ei2⟩ := is_v g7
  obtain rfl : w2 = (.int i2) := Option.some.inj ei2
  obtain ⟨i3, ei3⟩ := is_v g9
  obtain rfl : w3 = (.int i3) := Option.some.inj ei3
  obtain ⟨i4, ei4⟩ := is_v g10
  obtain rfl : w4 = (.int i4) := Option.some.inj ei4
  obtain ⟨n, o, h1, h2, h3, _, L, rfl, ⟨rfl, N⟩, hq⟩ := rm0 l s _ hw tables_1 i0 i1 i2 i3 i4 s.heap s.heap.size (Nat.le_refl _)  p e ha hc hk s m _ below hf ((Spec.applies_iff_loose hf).mp happ).1 ⟨rfl, State.Warmed39.refl s, rfl⟩ trivial
  refine ⟨n, _, h1, h2, h3, hpost _ _ _ _ _ _ ⟨Cond.after_iff.mpr rfl, Cond.after_iff.mpr (eq_i res_at (Term.int_eval (1)) rfl), trivial⟩ ⟨hq.1, hq.2.1, (hq.2.2.sift fun y hy => Or.inr (N y hy)).mono (by decide) (by decide)⟩⟩
theorem main_1_1 : Claimed_1_1 := comes_1 fun _ _ _ _ _ _ h hF => ⟨h.1, hF⟩
theorem main_1_2 : Claimed_1_2 := comes_1 fun _ _ _ _ _ _ h hF => ⟨h.2.1, hF⟩
end Jvm.Pilot.@@N@@
namespace Jvm.Pilot.@@N@@
open Jvm Jvm.ClassFile Sem Op Lib Jvm.Free Jvm.Stand Jvm.Pilot.@@N@@.Jvm.D
/-! MADE BY PROGRAM (witnessworld.py) out of the Statement's table words and the real class files: 17 classes; the members and pool entries that the words name. The judged class is class 1, her method 1. -/
namespace start1
open Jvm.ClassFile
def u (s : String) : CpInfo := .utf8 (stringToUtf16 s)
/-- a pool by its gaps: so many unusable entries, then the entry; so many at the end -/
def gap : Nat → List CpInfo → List CpInfo
  | 0, r => r
  | n + 1, r => .unusable :: gap n r
def poolList (es : List (Nat × CpInfo)) (last : Nat) : List CpInfo := es.foldr (fun e r => gap e.1 (e.2 :: r)) (gap last [])
def pool (es : List (Nat × CpInfo)) (last : Nat) : Array CpInfo := ⟨poolList es last⟩
def fileOf (pool : Array CpInfo) (this : Nat) (attrs : Array Attribute := #[]) (ms : Array MethodInfo := #[]) (fl : Nat := 33) (sup : Nat := 0) (ifs : Array Nat := #[]) (fds : Array FieldInfo := #[]) : ClassFile where
  minorVersion := 0
  majorVersion := 65
  constantPool := pool
  accessFlags := fl
  thisClass := this
  superClass := sup
  interfaces := ifs
  fields := fds
  methods := ms
  attributes := attrs
def plain (name : String) (sup : Option ClassId) : Class where
  name := name
  kind := .ordinary
  loader := none
  accessFlags := 33
  super := sup
  interfaces := #[]
  cf := none
  fields := #[]
  methods := #[]
  instanceTypes := #[]
  staticTypes := #[]
  resolved := #[]
  callSites := []
  init := .initialized
  statics := none
  mirror := none

def pool0 : Array CpInfo := pool [(5, u "<init>"), (0, u "()V"), (1, .class_ 10), (1, u "java/lang/Object"), (85, u "clone"), (0, u "()Ljava/lang/Object;")] 26

def k0c0 : Code := { maxStack := 0, maxLocals := 1, code := object_method_1_code, exceptionTable := #[], attributes := #[] }
def k0m0 : Method := { name := "<init>", desc := "()V", sig := { parameters := [], returnType := none }, accessFlags := 1, code := some k0c0 }
def k0m1 : Method := { name := "clone", desc := "()Ljava/lang/Object;", sig := { parameters := [], returnType := some (.object "java/lang/Object") }, accessFlags := 260, code := none }
/-- java/lang/Object -/
def k0 : Class := { plain "java/lang/Object" none with
  accessFlags := 33
  interfaces := #[]
  cf := some (fileOf pool0 8 #[] #[{ accessFlags := 1, nameIndex := 5, descriptorIndex := 6, attributes := #[] }, { accessFlags := 260, nameIndex := 96, descriptorIndex := 97, attributes := #[] }] 33 0 #[] #[])
  fields := #[]
  methods := #[k0m0, k0m1]
  instanceTypes := #[]
  staticTypes := #[]
  resolved := Array.replicate 124 none
  statics := none }

def pool1 : Array CpInfo := pool [(2, .class_ 4), (1, u "java/lang/Object"), (0, u "<init>"), (0, u "()V"), (0, .class_ 8), (0, u "com/example/leapwise/leapwise/polytope/HalfSpace"), (0, .methodref 7 10), (0, .nameAndType 5 11), (0, u "([DD)V"), (0, .double 4602678819172646912), (1, .integer 2147483647), (0, .methodref 7 16), (0, .nameAndType 17 18), (0, u "coefficient"), (0, u "(I)D"), (0, .class_ 20), (0, u "com/example/leapwise/leapwise/polytope/HalfSpaceCoefficientPinLaw"), (2, u "law"), (0, u "(IIIII)Z")] 5

def k1m0 : Method := { name := "<init>", desc := "()V", sig := { parameters := [], returnType := none }, accessFlags := 1, code := none }
def k1c1 : Code := { maxStack := 5, maxLocals := 11, code := code, exceptionTable := #[], attributes := #[] }
def k1m1 : Method := { name := "law", desc := "(IIIII)Z", sig := { parameters := [.int, .int, .int, .int, .int], returnType := some .boolean }, accessFlags := 9, code := some k1c1 }
/-- com/example/leapwise/leapwise/polytope/HalfSpaceCoefficientPinLaw -/
def k1 : Class := { plain "com/example/leapwise/leapwise/polytope/HalfSpaceCoefficientPinLaw" (some 0) with
  accessFlags := 49
  interfaces := #[]
  cf := some (fileOf pool1 19 #[] #[{ accessFlags := 1, nameIndex := 5, descriptorIndex := 6, attributes := #[] }, { accessFlags := 9, nameIndex := 23, descriptorIndex := 24, attributes := #[] }] 49 2 #[] #[])
  fields := #[]
  methods := #[k1m0, k1m1]
  instanceTypes := #[]
  staticTypes := #[]
  resolved := Array.replicate 30 none
  statics := none }

def pool2 : Array CpInfo := pool [(1, .methodref 2 3), (0, .class_ 4), (0, .nameAndType 5 6), (0, u "java/lang/Object"), (0, u "<init>"), (0, u "()V"), (0, .methodref 8 9), (0, .class_ 10), (0, .nameAndType 11 12), (0, u "java/lang/Double"), (0, u "isFinite"), (0, u "(D)Z"), (10, .methodref 24 25), (0, .class_ 26), (0, .nameAndType 27 28), (0, u "[D"), (0, u "clone"), (0, u "()Ljava/lang/Object;"), (0, .fieldref 30 31), (0, .class_ 32), (0, .nameAndType 33 26), (0, u "com/example/leapwise/leapwise/polytope/HalfSpace"), (0, u "coefficients"), (0, .fieldref 30 35), (0, .nameAndType 36 37), (0, u "bound"), (0, u "D"), (19, u "([DD)V"), (3, u "coefficient"), (0, u "(I)D")] 26

def k2c0 : Code := { maxStack := 4, maxLocals := 9, code := prog_28_method_1_code, exceptionTable := #[], attributes := #[] }
def k2m0 : Method := { name := "<init>", desc := "([DD)V", sig := { parameters := [(.array .double), .double], returnType := none }, accessFlags := 1, code := some k2c0 }
def k2c1 : Code := { maxStack := 2, maxLocals := 2, code := prog_28_method_2_code, exceptionTable := #[], attributes := #[] }
def k2m1 : Method := { name := "coefficient", desc := "(I)D", sig := { parameters := [.int], returnType := some .double }, accessFlags := 1, code := some k2c1 }
/-- com/example/leapwise/leapwise/polytope/HalfSpace -/
def k2 : Class := { plain "com/example/leapwise/leapwise/polytope/HalfSpace" (some 0) with
  accessFlags := 49
  interfaces := #[]
  cf := some (fileOf pool2 30 #[] #[{ accessFlags := 1, nameIndex := 5, descriptorIndex := 57, attributes := #[] }, { accessFlags := 1, nameIndex := 61, descriptorIndex := 62, attributes := #[] }] 49 2 #[] #[{ accessFlags := 18, nameIndex := 33, descriptorIndex := 26, attributes := #[] }, { accessFlags := 18, nameIndex := 36, descriptorIndex := 37, attributes := #[] }])
  fields := #[{ name := "coefficients", type := (.array .double), accessFlags := 18, slot := 0, constantValue := 0 }, { name := "bound", type := .double, accessFlags := 18, slot := 1, constantValue := 0 }]
  methods := #[k2m0, k2m1]
  instanceTypes := #[(.array .double), .double]
  staticTypes := #[]
  resolved := Array.replicate 89 none
  statics := none }

def pool3 : Array CpInfo := pool [(1, .class_ 2), (0, u "java/io/Serializable"), (0, .class_ 4), (0, u "java/lang/Object")] 2

/-- java/io/Serializable -/
def k3 : Class := { plain "java/io/Serializable" (some 0) with
  accessFlags := 1537
  interfaces := #[]
  cf := some (fileOf pool3 1 #[] #[] 1537 3 #[] #[])
  fields := #[]
  methods := #[]
  instanceTypes := #[]
  staticTypes := #[]
  resolved := Array.replicate 7 none
  statics := none }

def pool4 : Array CpInfo := pool [(2, .class_ 4), (1, u "java/lang/Object"), (0, u "<init>"), (0, u "()V"), (1, .class_ 10), (1, u "java/lang/Number"), (2, .class_ 14), (0, u "java/io/Serializable"), (0, u "serialVersionUID"), (0, u "J")] 20

def k4m0 : Method := { name := "<init>", desc := "()V", sig := { parameters := [], returnType := none }, accessFlags := 1, code := none }
/-- java/lang/Number -/
def k4 : Class := { plain "java/lang/Number" (some 0) with
  accessFlags := 1057
  interfaces := #[3]
  cf := some (fileOf pool4 8 #[] #[{ accessFlags := 1, nameIndex := 5, descriptorIndex := 6, attributes := #[] }] 1057 2 #[13] #[{ accessFlags := 26, nameIndex := 15, descriptorIndex := 16, attributes := #[] }])
  fields := #[{ name := "serialVersionUID", type := .long, accessFlags := 26, slot := 0, constantValue := 0 }]
  methods := #[k4m0]
  instanceTypes := #[]
  staticTypes := #[.long]
  resolved := Array.replicate 37 none
  statics := none }

def pool5 : Array CpInfo := pool [(1, .class_ 2), (0, u "java/lang/Comparable"), (0, .class_ 4), (0, u "java/lang/Object")] 7

/-- java/lang/Comparable -/
def k5 : Class := { plain "java/lang/Comparable" (some 0) with
  accessFlags := 1537
  interfaces := #[]
  cf := some (fileOf pool5 1 #[] #[] 1537 3 #[] #[])
  fields := #[]
  methods := #[]
  instanceTypes := #[]
  staticTypes := #[]
  resolved := Array.replicate 12 none
  statics := none }

def pool6 : Array CpInfo := pool [(1, .class_ 2), (0, u "java/lang/constant/Constable"), (0, .class_ 4), (0, u "java/lang/Object")] 6

/-- java/lang/constant/Constable -/
def k6 : Class := { plain "java/lang/constant/Constable" (some 0) with
  accessFlags := 1537
  interfaces := #[]
  cf := some (fileOf pool6 1 #[] #[] 1537 3 #[] #[])
  fields := #[]
  methods := #[]
  instanceTypes := #[]
  staticTypes := #[]
  resolved := Array.replicate 11 none
  statics := none }

def pool7 : Array CpInfo := pool [(1, .class_ 2), (0, u "java/lang/constant/ConstantDesc"), (0, .class_ 4), (0, u "java/lang/Object")] 32

/-- java/lang/constant/ConstantDesc -/
def k7 : Class := { plain "java/lang/constant/ConstantDesc" (some 0) with
  accessFlags := 1537
  interfaces := #[]
  cf := some (fileOf pool7 1 #[] #[] 1537 3 #[] #[])
  fields := #[]
  methods := #[]
  instanceTypes := #[]
  staticTypes := #[]
  resolved := Array.replicate 37 none
  statics := none }

def pool8 : Array CpInfo := pool [(1, .class_ 2), (0, u "java/lang/Double"), (10, u "isFinite"), (0, u "(D)Z"), (8, .class_ 25), (1, u "java/lang/Math"), (12, .methodref 23 39), (0, .nameAndType 40 41), (0, u "abs"), (0, u "(D)D"), (69, .double 9218868437227405311), (2, .class_ 116), (1, u "java/lang/Number"), (3, u "value"), (0, u "D"), (51, u "TYPE"), (0, u "Ljava/lang/Class;"), (0, .class_ 176), (0, u "java/lang/Comparable"), (0, .class_ 178), (0, u "java/lang/constant/Constable"), (0, .class_ 180), (0, u "java/lang/constant/ConstantDesc"), (0, u "POSITIVE_INFINITY"), (3, u "NEGATIVE_INFINITY"), (2, u "NaN"), (2, u "MAX_VALUE"), (0, u "MIN_NORMAL"), (0, u "MIN_VALUE"), (2, u "SIZE"), (0, u "I"), (1, u "PRECISION"), (1, u "MAX_EXPONENT"), (1, u "MIN_EXPONENT"), (1, u "BYTES"), (3, u "serialVersionUID"), (0, u "J")] 79

def k8c0 : Code := { maxStack := 4, maxLocals := 2, code := jdk_117_method_8_code, exceptionTable := #[], attributes := #[] }
def k8m0 : Method := { name := "isFinite", desc := "(D)Z", sig := { parameters := [.double], returnType := some .boolean }, accessFlags := 9, code := some k8c0 }
/-- java/lang/Double -/
def k8 : Class := { plain "java/lang/Double" (some 4) with
  accessFlags := 49
  interfaces := #[5, 6, 7]
  cf := some (fileOf pool8 1 #[] #[{ accessFlags := 9, nameIndex := 13, descriptorIndex := 14, attributes := #[] }] 49 114 #[175, 177, 179] #[{ accessFlags := 25, nameIndex := 181, descriptorIndex := 121, attributes := #[] }, { accessFlags := 25, nameIndex := 185, descriptorIndex := 121, attributes := #[] }, { accessFlags := 25, nameIndex := 188, descriptorIndex := 121, attributes := #[] }, { accessFlags := 25, nameIndex := 191, descriptorIndex := 121, attributes := #[] }, { accessFlags := 25, nameIndex := 192, descriptorIndex := 121, attributes := #[] }, { accessFlags := 25, nameIndex := 193, descriptorIndex := 121, attributes := #[] }, { accessFlags := 25, nameIndex := 196, descriptorIndex := 197, attributes := #[] }, { accessFlags := 25, nameIndex := 199, descriptorIndex := 197, attributes := #[] }, { accessFlags := 25, nameIndex := 201, descriptorIndex := 197, attributes := #[] }, { accessFlags := 25, nameIndex := 203, descriptorIndex := 197, attributes := #[] }, { accessFlags := 25, nameIndex := 205, descriptorIndex := 197, attributes := #[] }, { accessFlags := 25, nameIndex := 173, descriptorIndex := 174, attributes := #[] }, { accessFlags := 18, nameIndex := 120, descriptorIndex := 121, attributes := #[] }, { accessFlags := 26, nameIndex := 209, descriptorIndex := 210, attributes := #[] }])
  fields := #[{ name := "POSITIVE_INFINITY", type := .double, accessFlags := 25, slot := 0, constantValue := 0 }, { name := "NEGATIVE_INFINITY", type := .double, accessFlags := 25, slot := 1, constantValue := 0 }, { name := "NaN", type := .double, accessFlags := 25, slot := 2, constantValue := 0 }, { name := "MAX_VALUE", type := .double, accessFlags := 25, slot := 3, constantValue := 0 }, { name := "MIN_NORMAL", type := .double, accessFlags := 25, slot := 4, constantValue := 0 }, { name := "MIN_VALUE", type := .double, accessFlags := 25, slot := 5, constantValue := 0 }, { name := "SIZE", type := .int, accessFlags := 25, slot := 6, constantValue := 0 }, { name := "PRECISION", type := .int, accessFlags := 25, slot := 7, constantValue := 0 }, { name := "MAX_EXPONENT", type := .int, accessFlags := 25, slot := 8, constantValue := 0 }, { name := "MIN_EXPONENT", type := .int, accessFlags := 25, slot := 9, constantValue := 0 }, { name := "BYTES", type := .int, accessFlags := 25, slot := 10, constantValue := 0 }, { name := "TYPE", type := (.object "java/lang/Class"), accessFlags := 25, slot := 11, constantValue := 0 }, { name := "value", type := .double, accessFlags := 18, slot := 0, constantValue := 0 }, { name := "serialVersionUID", type := .long, accessFlags := 26, slot := 12, constantValue := 0 }]
  methods := #[k8m0]
  instanceTypes := #[.double]
  staticTypes := #[.double, .double, .double, .double, .double, .double, .int, .int, .int, .int, .int, (.object "java/lang/Class"), .long]
  resolved := Array.replicate 290 none
  statics := none }

def pool9 : Array CpInfo := pool [(1, .class_ 2), (0, u "java/lang/Math"), (1, .class_ 6), (1, u "java/lang/Object"), (0, u "<init>"), (0, u "()V"), (5, u "(D)D"), (83, .class_ 100), (1, u "java/lang/Math$RandomNumberGeneratorHolder"), (23, u "abs"), (47, u "negativeZeroFloatBits"), (0, u "J"), (2, u "negativeZeroDoubleBits"), (68, u "$assertionsDisabled"), (0, u "Z"), (91, u "twoToTheDoubleScaleDown"), (0, u "D"), (4, u "twoToTheDoubleScaleUp"), (9, u "E"), (3, u "PI"), (2, u "TAU"), (2, u "DEGREES_TO_RADIANS"), (0, u "RADIANS_TO_DEGREES")] 94

def k9m0 : Method := { name := "<init>", desc := "()V", sig := { parameters := [], returnType := none }, accessFlags := 2, code := none }
def k9c1 : Code := { maxStack := 4, maxLocals := 2, code := jdk_29_method_64_code, exceptionTable := #[], attributes := #[] }
def k9m1 : Method := { name := "abs", desc := "(D)D", sig := { parameters := [.double], returnType := some .double }, accessFlags := 9, code := some k9c1 }
/-- java/lang/Math -/
def k9 : Class := { plain "java/lang/Math" (some 0) with
  accessFlags := 49
  interfaces := #[]
  cf := some (fileOf pool9 1 #[.nestMembers #[98]] #[{ accessFlags := 2, nameIndex := 7, descriptorIndex := 8, attributes := #[] }, { accessFlags := 9, nameIndex := 124, descriptorIndex := 14, attributes := #[] }] 49 4 #[] #[{ accessFlags := 25, nameIndex := 354, descriptorIndex := 339, attributes := #[] }, { accessFlags := 25, nameIndex := 358, descriptorIndex := 339, attributes := #[] }, { accessFlags := 25, nameIndex := 361, descriptorIndex := 339, attributes := #[] }, { accessFlags := 26, nameIndex := 364, descriptorIndex := 339, attributes := #[] }, { accessFlags := 26, nameIndex := 365, descriptorIndex := 339, attributes := #[] }, { accessFlags := 26, nameIndex := 172, descriptorIndex := 173, attributes := #[] }, { accessFlags := 26, nameIndex := 176, descriptorIndex := 173, attributes := #[] }, { accessFlags := 8, nameIndex := 344, descriptorIndex := 339, attributes := #[] }, { accessFlags := 8, nameIndex := 338, descriptorIndex := 339, attributes := #[] }, { accessFlags := 4120, nameIndex := 245, descriptorIndex := 246, attributes := #[] }])
  fields := #[{ name := "E", type := .double, accessFlags := 25, slot := 0, constantValue := 0 }, { name := "PI", type := .double, accessFlags := 25, slot := 1, constantValue := 0 }, { name := "TAU", type := .double, accessFlags := 25, slot := 2, constantValue := 0 }, { name := "DEGREES_TO_RADIANS", type := .double, accessFlags := 26, slot := 3, constantValue := 0 }, { name := "RADIANS_TO_DEGREES", type := .double, accessFlags := 26, slot := 4, constantValue := 0 }, { name := "negativeZeroFloatBits", type := .long, accessFlags := 26, slot := 5, constantValue := 0 }, { name := "negativeZeroDoubleBits", type := .long, accessFlags := 26, slot := 6, constantValue := 0 }, { name := "twoToTheDoubleScaleUp", type := .double, accessFlags := 8, slot := 7, constantValue := 0 }, { name := "twoToTheDoubleScaleDown", type := .double, accessFlags := 8, slot := 8, constantValue := 0 }, { name := "$assertionsDisabled", type := .boolean, accessFlags := 4120, slot := 9, constantValue := 0 }]
  methods := #[k9m0, k9m1]
  instanceTypes := #[]
  staticTypes := #[.double, .double, .double, .double, .double, .long, .long, .double, .double, .boolean]
  resolved := Array.replicate 460 none
  statics := none }

def pool10 : Array CpInfo := pool [(1, .class_ 2), (0, u "java/lang/Cloneable"), (0, .class_ 4), (0, u "java/lang/Object")] 2

/-- java/lang/Cloneable -/
def k10 : Class := { plain "java/lang/Cloneable" (some 0) with
  accessFlags := 1537
  interfaces := #[]
  cf := some (fileOf pool10 1 #[] #[] 1537 3 #[] #[])
  fields := #[]
  methods := #[]
  instanceTypes := #[]
  staticTypes := #[]
  resolved := Array.replicate 7 none
  statics := none }

/-- the primitive byte -/
def k11 : Class := { plain "byte" none with kind := .primitive 'B', accessFlags := 0x411 }
/-- [B -/
def k12 : Class := { plain "[B" (some 0) with kind := .array 11 .byte, interfaces := #[10, 3], accessFlags := 1041 }

/-- the primitive double -/
def k13 : Class := { plain "double" none with kind := .primitive 'D', accessFlags := 0x411 }
/-- [D -/
def k14 : Class := { plain "[D" (some 0) with kind := .array 13 .double, interfaces := #[10, 3], accessFlags := 1041 }

/-- the primitive int -/
def k15 : Class := { plain "int" none with kind := .primitive 'I', accessFlags := 0x411 }
/-- [I -/
def k16 : Class := { plain "[I" (some 0) with kind := .array 15 .int, interfaces := #[10, 3], accessFlags := 1041 }

def heap : Heap := #[]
def classes : Array Class := #[k0, k1, k2, k3, k4, k5, k6, k7, k8, k9, k10, k11, k12, k13, k14, k15, k16]
def interned : List (Array UInt16 × Addr) := []
def slotsUsed : Nat := 0
def theMethod : MethodId := ⟨1, 1⟩
def args0 : Array Value := #[.int 3, .int 2, .int 5, .int 6, .int 1]
def aboutOver (below : List Frame) : State where
  vm := { classes := classes, interned := interned.toArray }
  heap := heap
  slotsUsed := slotsUsed
  threads := #[{ frames := .invoking theMethod args0 :: below }]
def below0 : List Frame := [.native { method := ⟨0, 0⟩, args := #[] }]
def about1 : State := aboutOver below0
def p0 : Program := .bare "" "" ""
def e0 : Env := launch0.env 0 0 0
theorem w_frames : about1.frames = Frame.invoking theMethod args0 :: below0 := rfl
set_option maxRecDepth 65536 in
theorem w_args : argsFit about1.vm theMethod args0 = true := by decide +kernel
set_option maxRecDepth 65536 in
theorem w_heap : heapFits about1 = true := by decide +kernel
set_option maxRecDepth 65536 in
theorem w_runnable : about1.curStatus? = some .runnable := by decide +kernel
set_option maxRecDepth 65536 in
theorem w_alone : about1.alone = true := by decide +kernel
set_option maxRecDepth 65536 in
theorem w_named : about1.methodNamed? x = some theMethod := by decide +kernel
set_option maxRecDepth 65536 in
theorem w_hears : about1.hears theMethod below0 = true := by decide +kernel
set_option maxRecDepth 65536 in
theorem w_ripe : about1.ripe theMethod args0 below0 = true := by decide +kernel
theorem w_running : about1.status = .running := rfl
set_option maxRecDepth 65536 in
theorem w_room : about1.hasRoom e0.platform room_1 = true :=
  launch0.hasRoom_least _ room_1 (by decide +kernel) (by decide +kernel) (by decide +kernel) (by decide +kernel) (by decide +kernel) (by decide +kernel)
theorem allAtoms_all (ts : List Jvm.Cond) (a : Array Jvm.Value) (st : Jvm.State) : (allAtoms ts).before a st = ts.all (fun c => c.before a st) := by
  induction ts with
  | nil => rfl
  | cons c t ih =>
    show (Jvm.Cond.and c (allAtoms t)).before a st = _
    rw [Jvm.Cond.before_and, ih, List.all_cons]
def words1 : List Jvm.Cond := Jvm.Cond.code x code maxLocals ret :: tables_1
/-- a 'code' word, met by the world's own term for the bytes: nothing is compared byte by byte -/
theorem code_word {y : MethodName} {bytes : ByteArray} {mx : Nat} {rt : Option FieldType} {a : Array Value} {s : State} {m : MethodId} {meth : Method} {c : Code} (h1 : s.methodNamed? y = some m) (h2 : s.vm.method? m = some meth) (h3 : meth.code = some c) (h4 : c.code = bytes)
    (h5 : (c.maxLocals == mx && c.exceptionTable.isEmpty && decide (c.maxStack ≤ mostOperands) && decide (meth.sig.returnType = rt) && !meth.locks && decide (parseMethodDescriptor y.desc = some meth.sig)) = true) : (Jvm.Cond.code y bytes mx rt).before a s = true := by
  simp only [Bool.and_eq_true, beq_iff_eq, Bool.not_eq_true', decide_eq_true_eq] at h5
  obtain ⟨⟨⟨⟨⟨g1, g2⟩, g3⟩, g4⟩, g5⟩, g6⟩ := h5
  simp [Cond.before, Cond.holds, Cond.value, h1, h2, h3, h4, g1, g2, g3, g4, g5, g6]
def isCode : Jvm.Cond → Bool
  | .code _ _ _ _ => true
  | _ => false
theorem all_split {L : List Jvm.Cond} {P : Jvm.Cond → Bool} (h1 : L.all (fun c => isCode c || P c) = true) (h2 : ∀ c ∈ L.filter isCode, P c = true) : L.all P = true := by
  refine List.all_eq_true.mpr fun c hc => ?_
  have h := List.all_eq_true.mp h1 c hc
  rcases Bool.eq_false_or_eq_true (isCode c) with hi | hi
  · exact h2 c (List.mem_filter.mpr ⟨hc, hi⟩)
  · simpa [hi] using h
set_option maxRecDepth 65536 in
theorem w_c0 : (Jvm.Cond.code x code maxLocals ret).before args0 about1 = true := code_word (m := ⟨1, 1⟩) (meth := k1m1) (c := k1c1) (by decide +kernel) rfl rfl rfl (by decide +kernel)
set_option maxRecDepth 65536 in
theorem w_c1 : (Jvm.Cond.code ({ cls := "com/example/leapwise/leapwise/polytope/HalfSpace", name := "<init>", desc := "([DD)V" } : Jvm.MethodName) prog_28_method_1_code (9 : Nat) (Option.none : Option Jvm.ClassFile.FieldType)).before args0 about1 = true := code_word (m := ⟨2, 0⟩) (meth := k2m0) (c := k2c0) (by decide +kernel) rfl rfl rfl (by decide +kernel)
set_option maxRecDepth 65536 in
theorem w_c2 : (Jvm.Cond.code ({ cls := "java/lang/Object", name := "<init>", desc := "()V" } : Jvm.MethodName) object_method_1_code (1 : Nat) (Option.none : Option Jvm.ClassFile.FieldType)).before args0 about1 = true := code_word (m := ⟨0, 0⟩) (meth := k0m0) (c := k0c0) (by decide +kernel) rfl rfl rfl (by decide +kernel)
set_option maxRecDepth 65536 in
theorem w_c3 : (Jvm.Cond.code ({ cls := "java/lang/Double", name := "isFinite", desc := "(D)Z" } : Jvm.MethodName) jdk_117_method_8_code (2 : Nat) (Option.some Jvm.ClassFile.FieldType.boolean)).before args0 about1 = true := code_word (m := ⟨8, 0⟩) (meth := k8m0) (c := k8c0) (by decide +kernel) rfl rfl rfl (by decide +kernel)
set_option maxRecDepth 65536 in
theorem w_c4 : (Jvm.Cond.code ({ cls := "java/lang/Math", name := "abs", desc := "(D)D" } : Jvm.MethodName) jdk_29_method_64_code (2 : Nat) (Option.some Jvm.ClassFile.FieldType.double)).before args0 about1 = true := code_word (m := ⟨9, 1⟩) (meth := k9m1) (c := k9c1) (by decide +kernel) rfl rfl rfl (by decide +kernel)
set_option maxRecDepth 65536 in
theorem w_c5 : (Jvm.Cond.code ({ cls := "com/example/leapwise/leapwise/polytope/HalfSpace", name := "coefficient", desc := "(I)D" } : Jvm.MethodName) prog_28_method_2_code (2 : Nat) (Option.some Jvm.ClassFile.FieldType.double)).before args0 about1 = true := code_word (m := ⟨2, 1⟩) (meth := k2m1) (c := k2c1) (by decide +kernel) rfl rfl rfl (by decide +kernel)
def codes1 : List Jvm.Cond := [Jvm.Cond.code x code maxLocals ret, Jvm.Cond.code ({ cls := "com/example/leapwise/leapwise/polytope/HalfSpace", name := "<init>", desc := "([DD)V" } : Jvm.MethodName) prog_28_method_1_code (9 : Nat) (Option.none : Option Jvm.ClassFile.FieldType), Jvm.Cond.code ({ cls := "java/lang/Object", name := "<init>", desc := "()V" } : Jvm.MethodName) object_method_1_code (1 : Nat) (Option.none : Option Jvm.ClassFile.FieldType), Jvm.Cond.code ({ cls := "java/lang/Double", name := "isFinite", desc := "(D)Z" } : Jvm.MethodName) jdk_117_method_8_code (2 : Nat) (Option.some Jvm.ClassFile.FieldType.boolean), Jvm.Cond.code ({ cls := "java/lang/Math", name := "abs", desc := "(D)D" } : Jvm.MethodName) jdk_29_method_64_code (2 : Nat) (Option.some Jvm.ClassFile.FieldType.double), Jvm.Cond.code ({ cls := "com/example/leapwise/leapwise/polytope/HalfSpace", name := "coefficient", desc := "(I)D" } : Jvm.MethodName) prog_28_method_2_code (2 : Nat) (Option.some Jvm.ClassFile.FieldType.double)]
set_option maxRecDepth 65536 in
theorem codes_eq : words1.filter isCode = codes1 := rfl
theorem w_codes : ∀ c ∈ words1.filter isCode, c.before args0 about1 = true := by
  rw [codes_eq]
  intro c hc
  simp only [codes1, List.mem_cons, List.not_mem_nil, or_false] at hc
  rcases hc with rfl | rfl | rfl | rfl | rfl | rfl
  · exact w_c0
  · exact w_c1
  · exact w_c2
  · exact w_c3
  · exact w_c4
  · exact w_c5
set_option maxRecDepth 65536 in
theorem w_t1 : (words1.take 24).all (fun c => isCode c || c.before args0 about1) = true := by decide +kernel
set_option maxRecDepth 65536 in
theorem w_t2 : (words1.drop 24).all (fun c => isCode c || c.before args0 about1) = true := by decide +kernel
theorem w_tables : (allAtoms (Jvm.Cond.code x code maxLocals ret :: tables_1)).before args0 about1 = true := by
  rw [allAtoms_all]
  show words1.all (fun c => c.before args0 about1) = true
  refine all_split ?_ w_codes
  rw [← List.take_append_drop 24 words1, List.all_append, w_t1, w_t2]
  rfl
set_option maxRecDepth 65536 in
theorem w_case : (Jvm.Cond.and given_1 narrow_1).before args0 about1 = true := by decide +kernel
theorem w_applies : (headSpec (Jvm.Cond.code x code maxLocals ret :: tables_1) room_1).applies x e0.platform about1 = true :=
  (Spec.applies_iff w_frames).mpr ⟨w_running, w_runnable, w_alone, w_named, w_hears, w_ripe, w_room, w_tables⟩
theorem atStart : AtStart classFile x code maxLocals ret World_1 tables_1 room_1 Calls_1 rest_1 Pre_1 launch0 p0 e0 about1 theMethod args0 below0 :=
  ⟨lists_1, trivial, launch0.admits_env _ _ _, launch0.least_env, fairChoices_fair.cas, fairChoices_fair.clock, w_frames, w_args, w_heap, w_applies, trivial, trivial, w_case⟩
end start1
theorem witness_1 : WitnessClaimed_1 := ⟨start1.p0, start1.e0, start1.about1, start1.theMethod, start1.args0, start1.below0, start1.atStart⟩
end Jvm.Pilot.@@N@@
