import JvmDerived
import JvmDerived.Pilot.@@N@@Statement
import JvmDerived.Pilot.@@N@@Code
set_option linter.unusedVariables false
set_option linter.unusedSimpArgs false
namespace Jvm.Pilot.@@N@@
open Jvm Jvm.ClassFile Sem Op Lib Jvm.Free Jvm.Stand Jvm.LawKit Jvm.RoadKit Bundle Jvm.Pilot.@@N@@.Jvm.D
/-! OWN: the walk as a tree. Go: from here the run comes to a return that Q allows. -/
def Go (p : Program) (e : Env) (below : List Frame) (s : State) (C S : Nat) (Q : Option Value → Heap → List Loc → Prop) (T : State) (g : JFrame) : Prop :=
  ∃ s₂ o, Steps p.tables e below (T.setTop g) s₂ ∧ s₂.status = .running ∧ Ended s₂ below o ∧ ∃ v L, o = .returned v ∧ Q v s₂.heap L ∧ FrameEnd s o s₂ L C S
section OwnGo
variable {p : Program} {l : Launch} {e : Env} {R : Room} {s : State} {m : MethodId} {args : Array Value} {below : List Frame} {meth : Method} {c : Code} {T T' : State} {locs : List Loc} {cells slots : Nat} {Z : State} {a0 : Array Value} {h : Heap} {C S : Nat} {Q : Option Value → Heap → List Loc → Prop} {g g' : JFrame}
theorem Go.step (st : ∀ target, Steps p.tables e below (T'.setTop g') target → Steps p.tables e below (T.setTop g) target) (h : Go p e below s C S Q T' g') : Go p e below s C S Q T g := by
  obtain ⟨s₂, o, h1, r⟩ := h; exact ⟨s₂, o, st _ h1, r⟩
theorem Go.cast (q : g = g') (h : Go p e below s C S Q T g') : Go p e below s C S Q T g := q ▸ h
theorem Go.ret (X : Stand p l e R s m args below meth c T locs cells slots) (hlk : meth.locks = false) {v : Option Value} (hv : meth.sig.returnType = none → v = none)
    (st : ∀ fs, (∀ (f : JFrame) (acts : List Action), f.method = m → f.locked = none → f.entered = [] → (doReturn e (T.setTop f) acts v).1 = T.setFrames fs) → Steps p.tables e below (T.setTop g) (T.setFrames fs))
    (hq : Q v T.heap locs) (hc : cells ≤ C) (hs : slots ≤ S) : Go p e below s C S Q T g := by
  obtain ⟨fs, hr, hrun, hended, hW, hsame⟩ := X.leave (v := v) hv hlk
  exact ⟨_, _, st fs hr, hrun, hended, v, locs, rfl, hq, ⟨_, rfl⟩, hW, hsame.mono hc hs⟩
theorem Go.retV (X : Stand p l e R s m args below meth c T locs cells slots) (hx : p.tables.exec = Jvm.exec) (hlk : meth.locks = false) (hret : meth.sig.returnType = none) {pc : Nat} {Ls : Array Slot} (hd : decode c.code pc = .ok (.return_, 1))
    (hc : cells ≤ C) (hs : slots ≤ S) (hq : Q none T.heap locs) : Go p e below s C S Q T (mkF m pc Ls []) :=
  Go.ret X hlk (fun _ => rfl) (fun fs hr => X.returnOut hx hret hd hr) hq hc hs
theorem Go.retW (X : Stand p l e R s m args below meth c T locs cells slots) (hx : p.tables.exec = Jvm.exec) (hlk : meth.locks = false) {t : FieldType} (hret : meth.sig.returnType = some t) {pc : Nat} {Ls : Array Slot} {w : Value} {i : Instr} {rest : List Value} (hn : narrow t w = w)
    (hi : (i = .ireturn ∧ (t = .int ∨ t = .boolean ∨ t = .byte ∨ t = .char ∨ t = .short) ∧ ∃ z, w = .int z) ∨ (i = .lreturn ∧ t = .long ∧ ∃ z, w = .long z) ∨ (i = .dreturn ∧ t = .double ∧ ∃ z, w = .double z) ∨ (i = .freturn ∧ t = .float ∧ ∃ z, w = .float z) ∨ (i = .areturn ∧ t.isReference = true ∧ w.isRef = true))
    (hd : decode c.code pc = .ok (i, 1)) (hc : cells ≤ C) (hs : slots ≤ S) (hq : Q (some w) T.heap locs) : Go p e below s C S Q T (mkF m pc Ls (w :: rest)) :=
  Go.ret X hlk (fun h => by rw [hret] at h; cases h) (fun fs hr => retOut X hx hret hn hi hd hr) hq hc hs
theorem Go.retI (X : Stand p l e R s m args below meth c T locs cells slots) (hx : p.tables.exec = Jvm.exec) (hlk : meth.locks = false) (hret : meth.sig.returnType = some .int) {pc : Nat} {Ls : Array Slot} {z : Int32} {rest : List Value}
    (hd : decode c.code pc = .ok (.ireturn, 1)) (hc : cells ≤ C) (hs : slots ≤ S) (hq : Q (some (.int z)) T.heap locs) : Go p e below s C S Q T (mkF m pc Ls (.int z :: rest)) :=
  Go.retW X hx hlk hret rfl (Or.inl ⟨rfl, Or.inl rfl, z, rfl⟩) hd hc hs hq
theorem Go.retZ (X : Stand p l e R s m args below meth c T locs cells slots) (hx : p.tables.exec = Jvm.exec) (hlk : meth.locks = false) (hret : meth.sig.returnType = some .boolean) {pc : Nat} {Ls : Array Slot} {z : Int32} {rest : List Value} (hz : z = 0 ∨ z = 1)
    (hd : decode c.code pc = .ok (.ireturn, 1)) (hc : cells ≤ C) (hs : slots ≤ S) (hq : Q (some (.int z)) T.heap locs) : Go p e below s C S Q T (mkF m pc Ls (.int z :: rest)) :=
  Go.retW X hx hlk hret (by rcases hz with rfl | rfl <;> rfl) (Or.inl ⟨rfl, Or.inr (Or.inl rfl), z, rfl⟩) hd hc hs hq
theorem Go.retJ (X : Stand p l e R s m args below meth c T locs cells slots) (hx : p.tables.exec = Jvm.exec) (hlk : meth.locks = false) (hret : meth.sig.returnType = some .long) {pc : Nat} {Ls : Array Slot} {z : Int64} {rest : List Value}
    (hd : decode c.code pc = .ok (.lreturn, 1)) (hc : cells ≤ C) (hs : slots ≤ S) (hq : Q (some (.long z)) T.heap locs) : Go p e below s C S Q T (mkF m pc Ls (.long z :: rest)) :=
  Go.retW X hx hlk hret rfl (Or.inr (Or.inl ⟨rfl, rfl, z, rfl⟩)) hd hc hs hq
theorem Go.retD (X : Stand p l e R s m args below meth c T locs cells slots) (hx : p.tables.exec = Jvm.exec) (hlk : meth.locks = false) (hret : meth.sig.returnType = some .double) {pc : Nat} {Ls : Array Slot} {z : UInt64} {rest : List Value}
    (hd : decode c.code pc = .ok (.dreturn, 1)) (hc : cells ≤ C) (hs : slots ≤ S) (hq : Q (some (.double z)) T.heap locs) : Go p e below s C S Q T (mkF m pc Ls (.double z :: rest)) :=
  Go.retW X hx hlk hret rfl (Or.inr (Or.inr (Or.inl ⟨rfl, rfl, z, rfl⟩))) hd hc hs hq
theorem Go.retR (X : Stand p l e R s m args below meth c T locs cells slots) (hx : p.tables.exec = Jvm.exec) (hlk : meth.locks = false) {t : FieldType} (hret : meth.sig.returnType = some t) (ht : t.isReference = true) {pc : Nat} {Ls : Array Slot} {w : Value} {rest : List Value} (hn : narrow t w = w) (hw : w.isRef = true)
    (hd : decode c.code pc = .ok (.areturn, 1)) (hc : cells ≤ C) (hs : slots ≤ S) (hq : Q (some w) T.heap locs) : Go p e below s C S Q T (mkF m pc Ls (w :: rest)) :=
  Go.retW X hx hlk hret hn (Or.inr (Or.inr (Or.inr (Or.inr ⟨rfl, ht, hw⟩)))) hd hc hs hq
/-- a method's contract out of its walk -/
theorem con_of {y : MethodName} {bytes : ByteArray} {ml : Nat} {rt : Option FieldType} {ws : List Jvm.Cond} {rm : Room} {as' : Array Value} {h0 : Heap} (hpl : plainFor y = true)
    (body : ∀ (p : Program) (e : Env) (s : State) (m : MethodId) (below : List Frame) (meth : Method) (c : Code) (T : State), Stand p l e rm s m as' below meth c T [] 0 0 → p.tables.exec = Jvm.exec → Z.Warmed39 s.vm → c.code = bytes → c.maxLocals = ml → s.vm.findClass y.cls = some m.cls → meth.name = y.name →
      meth.sig.returnType = rt → meth.locks = false → T.heap = h0 → Go p e below s rm.cells rm.slots Q T (entryFrame m as' ml)) :
    MetFree l y (head1 (Jvm.Cond.code y bytes ml rt :: ws) rm) (fun a U => a = as' ∧ Z.Warmed39 U.vm ∧ U.heap = h0) (fun _ _ _ _ _ => True) (fun _ U o U' => ∃ v L, o = .returned v ∧ Q v U'.heap L ∧ FrameEnd U o U' L rm.cells rm.slots) := by
  refine MetFree.of_bodySF hpl hisR ?_
  intro p e s m args below meth c s₁ Bd hml0 hP hK
  obtain ⟨rfl, hZ, hh⟩ := hP
  exact body p e s m below meth c s₁ (Stand.of_body Bd) Bd.exec hZ Bd.bytes hml0 (findClass_of_methodNamed Bd.named) (name_of_methodNamed Bd.named Bd.method).1 Bd.returns (BodyLoose.notSynchronized Bd) (by rw [← hh, Bd.state]; rfl)
abbrev Con (l : Launch) (Z : State) (y : MethodName) (bytes : ByteArray) (ml : Nat) (rt : Option FieldType) (rm : Room) (as' : Array Value) (h0 : Heap) (Q : Option Value → Heap → List Loc → Prop) : Prop :=
  MetFree l y (head1 [Jvm.Cond.code y bytes ml rt] rm) (fun a U => a = as' ∧ Z.Warmed39 U.vm ∧ U.heap = h0) (fun _ _ _ _ _ => True) (fun _ U o U' => ∃ v L, o = .returned v ∧ Q v U'.heap L ∧ FrameEnd U o U' L rm.cells rm.slots)
theorem Go.callS (X : Stand p l e R s m args below meth c T locs cells slots) (hx : p.tables.exec = Jvm.exec) (hZ : Z.Warmed39 s.vm) {own : String} {index : Nat} {y : MethodName} {bytes : ByteArray} {maxL : Nat} {ret : Option FieldType} {rm : Room} {as' : Array Value} {Qc : Option Value → Heap → List Loc → Prop} {W pc : Nat} {Ls : Array Slot} {st : List Value} {argsL rest : List Value} (hml : Ls.size = c.maxLocals)
    (hown : s.vm.findClass own = some m.cls) (w1 : (Jvm.Cond.methodLink own index y).before a0 Z = true) (w2 : (Jvm.Cond.static y).before a0 Z = true) (w3 : (Jvm.Cond.initialized y.cls).before a0 Z = true) (w4 : (Jvm.Cond.code y bytes maxL ret).before a0 Z = true) (hy : y.cls ≠ "java/lang/invoke/MethodHandle" ∧ y.cls ≠ "java/lang/invoke/VarHandle")
    (hM : Con l Z y bytes maxL ret rm as' h Qc) (eT : T.heap = h) (hd : decode c.code pc = .ok (.invokestatic index, 3)) (hlen : ∀ sig, parseMethodDescriptor y.desc = some sig → argsL.length = sig.parameters.length) (hst : st = argsL.reverse ++ rest) (has : argsL.toArray = as')
    (hW : (rest.map fun v => v.category).sum ≤ W) (hf : rm.frames + 1 ≤ R.frames) (hl : W + (maxL + 11) + rm.locals ≤ R.locals) (hc : cells + rm.cells ≤ R.cells) (hs : slots + rm.slots ≤ R.slots)
    (k : ∀ (v : Option Value) (T' : State) (L : List Loc), Stand p l e R s m args below meth c T' (locs ++ L) (cells + rm.cells) (slots + rm.slots) → Qc v T'.heap L → Go p e below s C S Q T' (mkF m (pc + 3) Ls (v.toList ++ rest))) :
    Go p e below s C S Q T (mkF m pc Ls st) := by
  obtain ⟨v, _, ⟨T', L', k', n'⟩, -, X', ⟨Lc, hQ, l1, y1, z1⟩, stp⟩ := Jvm.LawKit.callS X hx (y := y) hown (mvT hZ w1) (mvT hZ w2) (mvT hZ w3) (mvT hZ w4) hy (backOf (W := W) hM hZ w4 w3 hf hl) (g := mkF m pc Ls st) rfl hml (argsL := argsL) (rest := rest) hlen hst (by show 2 * 0 + _ ≤ _; omega) hd (fun _ _ => ⟨has, eT, hc, hs⟩)
  dsimp only [Pt.U, Pt.locs, Pt.cells, Pt.slots] at X' l1 y1 z1 stp hQ
  subst l1 y1 z1
  exact Go.step stp (k v T' Lc X' hQ)
theorem Go.callI (X : Stand p l e R s m args below meth c T locs cells slots) (hx : p.tables.exec = Jvm.exec) (hZ : Z.Warmed39 s.vm) {own : String} {index : Nat} {y : MethodName} {bytes : ByteArray} {maxL : Nat} {rm : Room} {as' : Array Value} {Qc : Option Value → Heap → List Loc → Prop} {W pc : Nat} {Ls : Array Slot} {st : List Value} {a : Addr} {argsL rest : List Value} (hml : Ls.size = c.maxLocals)
    (hy1 : y.name = "<init>") (hown : s.vm.findClass own = some m.cls) (w1 : (Jvm.Cond.methodLink own index y).before a0 Z = true) (w2 : (Jvm.Cond.instanceMethod y).before a0 Z = true) (w3 : (Jvm.Cond.initialized y.cls).before a0 Z = true) (w4 : (Jvm.Cond.code y bytes maxL none).before a0 Z = true) (hy : y.cls ≠ "java/lang/invoke/MethodHandle" ∧ y.cls ≠ "java/lang/invoke/VarHandle")
    (hM : Con l Z y bytes maxL none rm as' h Qc) (eT : T.heap = h) (hd : decode c.code pc = .ok (.invokespecial index, 3)) (hlen : ∀ sig, parseMethodDescriptor y.desc = some sig → argsL.length = sig.parameters.length) (hst : st = argsL.reverse ++ .ref a :: rest) (has : (Value.ref a :: argsL).toArray = as')
    (hW : (rest.map fun v => v.category).sum ≤ W) (hf : rm.frames + 1 ≤ R.frames) (hl : W + (maxL + 11) + rm.locals ≤ R.locals) (hc : cells + rm.cells ≤ R.cells) (hs : slots + rm.slots ≤ R.slots)
    (k : ∀ (v : Option Value) (T' : State) (L : List Loc), Stand p l e R s m args below meth c T' (locs ++ L) (cells + rm.cells) (slots + rm.slots) → Qc v T'.heap L → Go p e below s C S Q T' (mkF m (pc + 3) Ls (v.toList ++ rest))) :
    Go p e below s C S Q T (mkF m pc Ls st) := by
  obtain ⟨v, _, ⟨T', L', k', n'⟩, -, X', ⟨Lc, hQ, l1, y1, z1⟩, stp⟩ := X.specialBack hx (y := y) hy1 hown (mvT hZ w1) (mvT hZ w2) (mvT hZ w4) hy (backOf (W := W) hM hZ w4 w3 hf hl) (g := mkF m pc Ls st) rfl hml (Steps.refl _) (a := a) (argsL := argsL) (rest := rest) hlen hst (by show 2 * 0 + _ ≤ _; omega) hd (fun _ _ => ⟨has, eT, hc, hs⟩)
  dsimp only [Pt.U, Pt.locs, Pt.cells, Pt.slots] at X' l1 y1 z1 stp hQ
  subst l1 y1 z1
  exact Go.step (fun _ q => stp.trans q) (k v T' Lc X' hQ)
theorem Go.callV (X : Stand p l e R s m args below meth c T locs cells slots) (hx : p.tables.exec = Jvm.exec) (hZ : Z.Warmed39 s.vm) {own K : String} {index : Nat} {y z : MethodName} {bytes : ByteArray} {maxL : Nat} {ret : Option FieldType} {rm : Room} {as' : Array Value} {Qc : Option Value → Heap → List Loc → Prop} {W pc : Nat} {Ls : Array Slot} {st : List Value} {a : Addr} {argsL rest : List Value} (hml : Ls.size = c.maxLocals)
    (hown : s.vm.findClass own = some m.cls) (w1 : (Jvm.Cond.methodLink own index y).before a0 Z = true) (w2 : (Jvm.Cond.declares y).before a0 Z = true) (hnf : NotFace s y) (w5 : (Jvm.Cond.selects K y z).before a0 Z = true) (w6 : (Jvm.Cond.instanceMethod z).before a0 Z = true) (w3 : (Jvm.Cond.initialized z.cls).before a0 Z = true) (w4 : (Jvm.Cond.code z bytes maxL ret).before a0 Z = true) (hy : y.cls ≠ "java/lang/invoke/MethodHandle" ∧ y.cls ≠ "java/lang/invoke/VarHandle")
    (hM : Con l Z z bytes maxL ret rm as' h Qc) (eT : T.heap = h) (E : Exa Z h a K) (hd : decode c.code pc = .ok (.invokevirtual index, 3)) (hlen : ∀ sig, parseMethodDescriptor y.desc = some sig → argsL.length = sig.parameters.length) (hst : st = argsL.reverse ++ .ref a :: rest) (has : (Value.ref a :: argsL).toArray = as')
    (hW : (rest.map fun v => v.category).sum ≤ W) (hf : rm.frames + 1 ≤ R.frames) (hl : W + (maxL + 11) + rm.locals ≤ R.locals) (hc : cells + rm.cells ≤ R.cells) (hs : slots + rm.slots ≤ R.slots)
    (k : ∀ (v : Option Value) (T' : State) (L : List Loc), Stand p l e R s m args below meth c T' (locs ++ L) (cells + rm.cells) (slots + rm.slots) → Qc v T'.heap L → Go p e below s C S Q T' (mkF m (pc + 3) Ls (v.toList ++ rest))) :
    Go p e below s C S Q T (mkF m pc Ls st) := by
  obtain ⟨cq, kq, qa, qb, qc⟩ := isOf hZ eT E
  obtain ⟨v, _, ⟨T', L', k', n'⟩, -, X', ⟨Lc, hQ, l1, y1, z1⟩, stp⟩ := X.virtualBack hx (y := y) (z := z) hown (mvT hZ w1) (mvT hZ w2) hnf (mvT hZ w5) (mvT hZ w6) hy (backOf (W := W) hM hZ w4 w3 hf hl) qa qc (g := mkF m pc Ls st) rfl hml (Steps.refl _) (argsL := argsL) (rest := rest) hlen hst (by show 2 * 0 + _ ≤ _; omega) hd (fun _ _ => ⟨has, eT, hc, hs⟩)
  dsimp only [Pt.U, Pt.locs, Pt.cells, Pt.slots] at X' l1 y1 z1 stp hQ
  subst l1 y1 z1
  exact Go.step (fun _ q => stp.trans q) (k v T' Lc X' hQ)
theorem Go.callP (X : Stand p l e R s m args below meth c T locs cells slots) (hx : p.tables.exec = Jvm.exec) (hZ : Z.Warmed39 s.vm) {own : String} {index : Nat} {y : MethodName} {bytes : ByteArray} {maxL : Nat} {ret : Option FieldType} {rm : Room} {as' : Array Value} {Qc : Option Value → Heap → List Loc → Prop} {W pc : Nat} {Ls : Array Slot} {st : List Value} {a : Addr} {argsL rest : List Value} (hml : Ls.size = c.maxLocals)
    (hown : s.vm.findClass own = some m.cls) (w1 : (Jvm.Cond.methodLink own index y).before a0 Z = true) (w6 : (Jvm.Cond.instanceMethod y).before a0 Z = true) {kk : Nat} (w5 : (Jvm.Cond.instantiable y.cls kk).before a0 Z = true) (w7 : (Jvm.Cond.privateMethod y).before a0 Z = true) (w3 : (Jvm.Cond.initialized y.cls).before a0 Z = true) (w4 : (Jvm.Cond.code y bytes maxL ret).before a0 Z = true) (hy : y.cls ≠ "java/lang/invoke/MethodHandle" ∧ y.cls ≠ "java/lang/invoke/VarHandle")
    (hM : Con l Z y bytes maxL ret rm as' h Qc) (eT : T.heap = h) {K : String} (E : Exa Z h a K) (hd : decode c.code pc = .ok (.invokevirtual index, 3)) (hlen : ∀ sig, parseMethodDescriptor y.desc = some sig → argsL.length = sig.parameters.length) (hst : st = argsL.reverse ++ .ref a :: rest) (has : (Value.ref a :: argsL).toArray = as')
    (hW : (rest.map fun v => v.category).sum ≤ W) (hf : rm.frames + 1 ≤ R.frames) (hl : W + (maxL + 11) + rm.locals ≤ R.locals) (hc : cells + rm.cells ≤ R.cells) (hs : slots + rm.slots ≤ R.slots)
    (k : ∀ (v : Option Value) (T' : State) (L : List Loc), Stand p l e R s m args below meth c T' (locs ++ L) (cells + rm.cells) (slots + rm.slots) → Qc v T'.heap L → Go p e below s C S Q T' (mkF m (pc + 3) Ls (v.toList ++ rest))) :
    Go p e below s C S Q T (mkF m pc Ls st) := by
  obtain ⟨cq, q1, q2⟩ := E.cell
  have hpriv : s.PrivateAt y := Cond.privateMethod_at (mvP hZ w7 (args := #[]))
  have w5' : (Jvm.Cond.instantiable y.cls kk).before args s = true := mvT hZ w5
  obtain ⟨c1, k1, i1, i2, -, i4, -⟩ := Cond.instantiable_spec w5'
  have hsel : (Jvm.Cond.selects y.cls y y).before args s = true := selects_self_of_private i1 i2 (by simp only [Bool.or_eq_false_iff] at i4; exact i4.1) hpriv (mvT hZ w6) hy
  obtain ⟨v, _, ⟨T', L', k', n'⟩, -, X', ⟨Lc, hQ, l1, y1, z1⟩, stp⟩ := X.privateBack hx (y := y) hown (mvT hZ w1) (mvT hZ w6) hsel hpriv (mvT hZ w4) hy (backOf (W := W) hM hZ w4 w3 hf hl) (g := mkF m pc Ls st) rfl hml (Steps.refl _) (a := a) (by rw [eT]; exact q1) q2 (argsL := argsL) (rest := rest) hlen hst (by show 2 * 0 + _ ≤ _; omega) hd (fun _ _ => ⟨has, eT, hc, hs⟩)
  dsimp only [Pt.U, Pt.locs, Pt.cells, Pt.slots] at X' l1 y1 z1 stp hQ
  subst l1 y1 z1
  exact Go.step (fun _ q => stp.trans q) (k v T' Lc X' hQ)
end OwnGo
/-! OWN: branches on a comparison of doubles, as javac writes them -/
section OwnCmp
variable {x y : UInt64}
theorem cv_none (o : CmpOp) (h : FP.dcmp x y = none) : cmpValue (FP.dcmp x y) o = (match o with | .l => -1 | .g => 1) := by rw [h]; cases o <;> rfl
theorem gt_y (h : FP.dcmp x y = some .gt) : ifCond.holds .le (cmpValue (FP.dcmp x y) .l) = false := by rw [h]; rfl
theorem gt_n (h : ¬ FP.dcmp x y = some .gt) : ifCond.holds .le (cmpValue (FP.dcmp x y) .l) = true := by
  rcases q : FP.dcmp x y with _ | (_ | _ | _) <;> first | rfl | exact absurd q h
theorem ge_y (h : FP.dcmp x y = some .gt ∨ FP.dcmp x y = some .eq) : ifCond.holds .lt (cmpValue (FP.dcmp x y) .l) = false := by rcases h with h | h <;> rw [h] <;> rfl
theorem ge_n (h : ¬ (FP.dcmp x y = some .gt ∨ FP.dcmp x y = some .eq)) : ifCond.holds .lt (cmpValue (FP.dcmp x y) .l) = true := by
  rcases q : FP.dcmp x y with _ | (_ | _ | _) <;> first | rfl | exact absurd (Or.inl q) h | exact absurd (Or.inr q) h
theorem lt_y (h : FP.dcmp x y = some .lt) : ifCond.holds .ge (cmpValue (FP.dcmp x y) .g) = false := by rw [h]; rfl
theorem lt_n (h : ¬ FP.dcmp x y = some .lt) : ifCond.holds .ge (cmpValue (FP.dcmp x y) .g) = true := by
  rcases q : FP.dcmp x y with _ | (_ | _ | _) <;> first | rfl | exact absurd q h
theorem le_y (h : FP.dcmp x y = some .lt ∨ FP.dcmp x y = some .eq) : ifCond.holds .gt (cmpValue (FP.dcmp x y) .g) = false := by rcases h with h | h <;> rw [h] <;> rfl
theorem le_n (h : ¬ (FP.dcmp x y = some .lt ∨ FP.dcmp x y = some .eq)) : ifCond.holds .gt (cmpValue (FP.dcmp x y) .g) = true := by
  rcases q : FP.dcmp x y with _ | (_ | _ | _) <;> first | rfl | exact absurd (Or.inl q) h | exact absurd (Or.inr q) h
theorem eq_y (o : CmpOp) (h : FP.dcmp x y = some .eq) : ifCond.holds .ne (cmpValue (FP.dcmp x y) o) = false ∧ ifCond.holds .eq (cmpValue (FP.dcmp x y) o) = true := by rw [h]; cases o <;> exact ⟨rfl, rfl⟩
theorem eq_n (o : CmpOp) (h : ¬ FP.dcmp x y = some .eq) : ifCond.holds .ne (cmpValue (FP.dcmp x y) o) = true ∧ ifCond.holds .eq (cmpValue (FP.dcmp x y) o) = false := by
  rcases q : FP.dcmp x y with _ | (_ | _ | _) <;> cases o <;> first | exact ⟨rfl, rfl⟩ | exact absurd q h
/-- x > y, by a taken 'ifgt' over dcmpl -/
theorem gtT_y (h : FP.dcmp x y = some .gt) : ifCond.holds .gt (cmpValue (FP.dcmp x y) .l) = true := by rw [h]; rfl
theorem gtT_n (h : ¬ FP.dcmp x y = some .gt) : ifCond.holds .gt (cmpValue (FP.dcmp x y) .l) = false := by
  rcases q : FP.dcmp x y with _ | (_ | _ | _) <;> first | rfl | exact absurd q h
theorem geT_y (h : FP.dcmp x y = some .gt ∨ FP.dcmp x y = some .eq) : ifCond.holds .ge (cmpValue (FP.dcmp x y) .l) = true := by rcases h with h | h <;> rw [h] <;> rfl
theorem geT_n (h : ¬ (FP.dcmp x y = some .gt ∨ FP.dcmp x y = some .eq)) : ifCond.holds .ge (cmpValue (FP.dcmp x y) .l) = false := by
  rcases q : FP.dcmp x y with _ | (_ | _ | _) <;> first | rfl | exact absurd (Or.inl q) h | exact absurd (Or.inr q) h
theorem ltT_y (h : FP.dcmp x y = some .lt) : ifCond.holds .lt (cmpValue (FP.dcmp x y) .g) = true := by rw [h]; rfl
theorem ltT_n (h : ¬ FP.dcmp x y = some .lt) : ifCond.holds .lt (cmpValue (FP.dcmp x y) .g) = false := by
  rcases q : FP.dcmp x y with _ | (_ | _ | _) <;> first | rfl | exact absurd q h
theorem leT_y (h : FP.dcmp x y = some .lt ∨ FP.dcmp x y = some .eq) : ifCond.holds .le (cmpValue (FP.dcmp x y) .g) = true := by rcases h with h | h <;> rw [h] <;> rfl
theorem leT_n (h : ¬ (FP.dcmp x y = some .lt ∨ FP.dcmp x y = some .eq)) : ifCond.holds .le (cmpValue (FP.dcmp x y) .g) = false := by
  rcases q : FP.dcmp x y with _ | (_ | _ | _) <;> first | rfl | exact absurd (Or.inl q) h | exact absurd (Or.inr q) h
end OwnCmp
theorem mI {α : Type} {l : List α} {a : α} (i : Nat) (h : l[i]? = some a) : a ∈ l := List.mem_of_getElem? h

/-! OWN: arrays by a function of the place -/
def updN {α : Type} (g : Nat → α) (j : Nat) (x : α) : Nat → α := fun i => if i = j then x else g i
theorem updN_same {α : Type} (g : Nat → α) (j : Nat) (x : α) : updN g j x j = x := by simp [updN]
theorem updN_ne {α : Type} {g : Nat → α} {i j : Nat} {x : α} (h : i ≠ j) : updN g j x i = g i := by simp [updN, h]
def Fv (Z : State) (h : Heap) (a : Addr) (ty : FieldType) (n : Int32) (f : Nat → Value) : Prop :=
  ∃ c : Cell, Arr Z h a c ty ∧ c.slots.size = n.toNatClampNeg ∧ ¬ n < 0 ∧ (∀ i, fits ty (f i) = true) ∧ ∀ i, i < c.slots.size → c.slots[i]? = some (f i)
abbrev Dv (Z : State) (h : Heap) (a : Addr) (n : Int32) (g : Nat → UInt64) : Prop := Fv Z h a .double n (fun i => .double (g i))
abbrev Iv (Z : State) (h : Heap) (a : Addr) (n : Int32) (g : Nat → Int32) : Prop := Fv Z h a .int n (fun i => .int (g i))
section OwnFv
variable {Z : State} {h h' : Heap} {a b : Addr} {ty : FieldType} {n j : Int32} {f : Nat → Value} {v : Value} {sl : Nat} {ws : List Addr}
theorem Fv.lt (F : Fv Z h a ty n f) : a < h.size := by obtain ⟨c, A, -⟩ := F; exact A.lt
theorem Fv.ext (F : Fv Z h a ty n f) (E : Ext h h') : Fv Z h' a ty n f := by obtain ⟨c, A, r⟩ := F; exact ⟨c, A.ext E, r⟩
theorem Fv.other (F : Fv Z h b ty n f) (W : Wr h h' a sl v) (q : b ≠ a) : Fv Z h' b ty n f := by obtain ⟨c, A, r⟩ := F; exact ⟨c, A.other W q, r⟩
theorem Fv.keep (F : Fv Z h a ty n f) (K : Keep h h' ws) (q : a ∉ ws) : Fv Z h' a ty n f := by obtain ⟨c, A, r⟩ := F; exact ⟨c, ⟨K.2.1 a c A.1 q, A.2⟩, r⟩
theorem Fv.new {k : ClassId} (A : Arr Z h a (newA k ty n) ty) (q : ¬ n < 0) : Fv Z h a ty n (fun _ => defaultValue ty) := ⟨_, A, sz_new _ _ _, q, fun i => by cases ty <;> rfl, fun i hi => by
  rw [sz_new] at hi; simp [newA, hi]⟩
theorem own_nat_of {j : Int32} (h : ¬ j < 0) : (j.toNatClampNeg : Int) = j.toInt := by
  rw [Int32.lt_iff_toInt_lt] at h; have e0 : (0 : Int32).toInt = 0 := rfl
  rw [Int32.toNatClampNeg]; omega
theorem Fv.set (F : Fv Z h a ty n f) (W : Wr h h' a j.toNatClampNeg v) (hv : fits ty v = true) : Fv Z h' a ty n (updN f j.toNatClampNeg v) := by
  obtain ⟨c, A, S, P, G, H⟩ := F
  refine ⟨_, A.same W, by rw [sz_set]; exact S, P, fun i => ?_, fun i hi => ?_⟩
  · unfold updN; split
    · exact hv
    · exact G i
  · rw [sz_set] at hi
    unfold updN
    by_cases u : i = j.toNatClampNeg
    · rw [if_pos u, u]; rw [u] at hi; simp [Cell.setSlot, hi]
    · rw [if_neg u]; simp only [Cell.setSlot]; rw [Array.getElem?_setIfInBounds_ne (Ne.symm u)]; exact H i hi
theorem Dv.set {g : Nat → UInt64} {x : UInt64} (F : Dv Z h a n g) (W : Wr h h' a j.toNatClampNeg (.double x)) : Dv Z h' a n (updN g j.toNatClampNeg x) := by
  have := Fv.set F W rfl
  have e : (updN (fun i => Value.double (g i)) j.toNatClampNeg (.double x)) = fun i => Value.double (updN g j.toNatClampNeg x i) := by
    funext i; unfold updN; split <;> rfl
  rw [e] at this; exact this
theorem Iv.set {g : Nat → Int32} {x : Int32} (F : Iv Z h a n g) (W : Wr h h' a j.toNatClampNeg (.int x)) : Iv Z h' a n (updN g j.toNatClampNeg x) := by
  have := Fv.set F W rfl
  have e : (updN (fun i => Value.int (g i)) j.toNatClampNeg (.int x)) = fun i => Value.int (updN g j.toNatClampNeg x i) := by
    funext i; unfold updN; split <;> rfl
  rw [e] at this; exact this
theorem Fv.congr {f' : Nat → Value} (F : Fv Z h a ty n f) (q : ∀ i, f i = f' i) : Fv Z h a ty n f' := by rw [← (funext q : f = f')]; exact F
theorem Fv.inb {c : Cell} (S : c.slots.size = n.toNatClampNeg) (q : ¬ j < 0 ∧ j < n) : ¬ (j < 0 ∨ c.slots.size ≤ j.toNatClampNeg) := inb_of S q
variable {p : Program} {l : Launch} {e : Env} {R : Room} {s : State} {m : MethodId} {args : Array Value} {below : List Frame} {meth : Method} {c : Code} {T : State} {locs : List Loc} {cells slots : Nat} {C S : Nat} {Q : Option Value → Heap → List Loc → Prop} {pc : Nat} {Ls : Array Slot} {rest : List Value}
theorem Go.alen (X : Stand p l e R s m args below meth c T locs cells slots) (hx : p.tables.exec = Jvm.exec) (hZ : Z.Warmed39 s.vm) (eT : T.heap = h) (F : Fv Z h a ty n f) (hd : decode c.code pc = .ok (.arraylength, 1))
    (k : Go p e below s C S Q T (mkF m (pc + 1) Ls (.int n :: rest))) : Go p e below s C S Q T (mkF m pc Ls (.ref a :: rest)) := by
  obtain ⟨cl, A, S', P, -, -⟩ := F
  refine Go.step (X.arraylength hx (cell := cl) (by rw [eT]; exact A.1) (State.isArrayOf_alike hZ.alike A.2.1) (g := mkF m pc Ls (.ref a :: rest)) rfl rfl hd) ?_
  rw [len_of S' P]; exact k
theorem Go.iaload {g : Nat → Int32} {v : Int32} (X : Stand p l e R s m args below meth c T locs cells slots) (hx : p.tables.exec = Jvm.exec) (hZ : Z.Warmed39 s.vm) (eT : T.heap = h) (F : Iv Z h a n g) (hj : ¬ j < 0 ∧ j < n) (hv : g j.toNatClampNeg = v) (hd : decode c.code pc = .ok (.iaload, 1))
    (k : Go p e below s C S Q T (mkF m (pc + 1) Ls (.int v :: rest))) : Go p e below s C S Q T (mkF m pc Ls (.int j :: .ref a :: rest)) := by
  obtain ⟨cl, A, S', P, G, H⟩ := F
  have q := inb_of S' hj
  exact Go.step (fun t r => X.iaload hx (j := j) (v := .int v) (by rw [eT]; exact A.1) (State.isArrayOf_alike hZ.alike A.2.1) A.2.2 q (by rw [← hv]; exact H _ (Nat.lt_of_not_le fun z => q (Or.inr z))) (g := mkF m pc Ls (.int j :: .ref a :: rest)) rfl rfl hd t r) k
theorem Go.daload {g : Nat → UInt64} {v : UInt64} (X : Stand p l e R s m args below meth c T locs cells slots) (hx : p.tables.exec = Jvm.exec) (hZ : Z.Warmed39 s.vm) (eT : T.heap = h) (F : Dv Z h a n g) (hj : ¬ j < 0 ∧ j < n) (hv : g j.toNatClampNeg = v) (hd : decode c.code pc = .ok (.daload, 1))
    (k : Go p e below s C S Q T (mkF m (pc + 1) Ls (.double v :: rest))) : Go p e below s C S Q T (mkF m pc Ls (.int j :: .ref a :: rest)) := by
  obtain ⟨cl, A, S', P, G, H⟩ := F
  have q := inb_of S' hj
  exact Go.step (fun t r => X.daload hx (j := j) (v := .double v) (by rw [eT]; exact A.1) (State.isArrayOf_alike hZ.alike A.2.1) A.2.2 q (by rw [← hv]; exact H _ (Nat.lt_of_not_le fun z => q (Or.inr z))) (g := mkF m pc Ls (.int j :: .ref a :: rest)) rfl rfl hd t r) k
theorem Go.iastore {g : Nat → Int32} {x : Int32} (X : Stand p l e R s m args below meth c T locs cells slots) (hx : p.tables.exec = Jvm.exec) (hZ : Z.Warmed39 s.vm) (eT : T.heap = h) (F : Iv Z h a n g) (hj : ¬ j < 0 ∧ j < n) (hd : decode c.code pc = .ok (.iastore, 1))
    (k : ∀ T' h', Stand p l e R s m args below meth c T' (locs ++ [⟨a, j.toNatClampNeg⟩]) cells slots → T'.heap = h' → Wr h h' a j.toNatClampNeg (.int x) → Iv Z h' a n (updN g j.toNatClampNeg x) → Go p e below s C S Q T' (mkF m (pc + 1) Ls rest)) : Go p e below s C S Q T (mkF m pc Ls (.int x :: .int j :: .ref a :: rest)) := by
  have F0 := F
  obtain ⟨cl, A, S', P, G, H⟩ := F
  obtain ⟨T', h', X', e', W, st⟩ := stI X hx hZ eT A (j := j) (x := x) (inb_of S' hj) (g := mkF m pc Ls (.int x :: .int j :: .ref a :: rest)) rfl rfl hd
  exact Go.step st (k T' h' X' e' W (Iv.set F0 W))
theorem Go.dastore {g : Nat → UInt64} {x : UInt64} (X : Stand p l e R s m args below meth c T locs cells slots) (hx : p.tables.exec = Jvm.exec) (hZ : Z.Warmed39 s.vm) (eT : T.heap = h) (F : Dv Z h a n g) (hj : ¬ j < 0 ∧ j < n) (hd : decode c.code pc = .ok (.dastore, 1))
    (k : ∀ T' h', Stand p l e R s m args below meth c T' (locs ++ [⟨a, j.toNatClampNeg⟩]) cells slots → T'.heap = h' → Wr h h' a j.toNatClampNeg (.double x) → Dv Z h' a n (updN g j.toNatClampNeg x) → Go p e below s C S Q T' (mkF m (pc + 1) Ls rest)) : Go p e below s C S Q T (mkF m pc Ls (.double x :: .int j :: .ref a :: rest)) := by
  have F0 := F
  obtain ⟨cl, A, S', P, G, H⟩ := F
  obtain ⟨T', h', X', e', W, st⟩ := stD X hx hZ eT A (j := j) (x := x) (inb_of S' hj) (g := mkF m pc Ls (.double x :: .int j :: .ref a :: rest)) rfl rfl hd
  exact Go.step st (k T' h' X' e' W (Dv.set F0 W))
abbrev Zv (Z : State) (h : Heap) (a : Addr) (n : Int32) (g : Nat → Int32) : Prop := Fv Z h a .boolean n (fun i => .int (g i))
theorem Zv.set {g : Nat → Int32} {x : Int32} (F : Zv Z h a n g) (W : Wr h h' a j.toNatClampNeg (.int x)) (hb : fits .boolean (.int x) = true) : Zv Z h' a n (updN g j.toNatClampNeg x) := by
  have := Fv.set F W hb
  have e : (updN (fun i => Value.int (g i)) j.toNatClampNeg (.int x)) = fun i => Value.int (updN g j.toNatClampNeg x i) := by
    funext i; unfold updN; split <;> rfl
  rw [e] at this; exact this
theorem Go.zaload {g : Nat → Int32} {v : Int32} (X : Stand p l e R s m args below meth c T locs cells slots) (hx : p.tables.exec = Jvm.exec) (hZ : Z.Warmed39 s.vm) (eT : T.heap = h) (F : Zv Z h a n g) (hj : ¬ j < 0 ∧ j < n) (hv : g j.toNatClampNeg = v) (hd : decode c.code pc = .ok (.baload, 1))
    (k : Go p e below s C S Q T (mkF m (pc + 1) Ls (.int v :: rest))) : Go p e below s C S Q T (mkF m pc Ls (.int j :: .ref a :: rest)) := by
  obtain ⟨cl, A, S', P, G, H⟩ := F
  have q := inb_of S' hj
  exact Go.step (fun t r => X.baloadBooleans hx (j := j) (v := .int v) (by rw [eT]; exact A.1) (State.isArrayOf_alike hZ.alike A.2.1) A.2.2 q (by rw [← hv]; exact H _ (Nat.lt_of_not_le fun z => q (Or.inr z))) (g := mkF m pc Ls (.int j :: .ref a :: rest)) rfl rfl hd t r) k
theorem Go.zastore {g : Nat → Int32} {x : Int32} (X : Stand p l e R s m args below meth c T locs cells slots) (hx : p.tables.exec = Jvm.exec) (hZ : Z.Warmed39 s.vm) (eT : T.heap = h) (F : Zv Z h a n g) (hj : ¬ j < 0 ∧ j < n) (hn : nar .boolean x = x) (hd : decode c.code pc = .ok (.bastore, 1))
    (k : ∀ T' h', Stand p l e R s m args below meth c T' (locs ++ [⟨a, j.toNatClampNeg⟩]) cells slots → T'.heap = h' → Wr h h' a j.toNatClampNeg (.int x) → Zv Z h' a n (updN g j.toNatClampNeg x) → Go p e below s C S Q T' (mkF m (pc + 1) Ls rest)) : Go p e below s C S Q T (mkF m pc Ls (.int x :: .int j :: .ref a :: rest)) := by
  have F0 := F
  obtain ⟨cl, A, S', P, G, H⟩ := F
  have hj' := inb_of S' hj
  obtain ⟨X', st⟩ := bastoreZ X hx (by rw [eT]; exact A.1) (State.isArrayOf_alike hZ.alike A.2.1) A.2.2 hj' (g := mkF m pc Ls (.int x :: .int j :: .ref a :: rest)) rfl rfl hd
  rw [hn] at X' st
  have W : Wr h (T.setCell a (cl.setSlot j.toNatClampNeg (.int x))).heap a j.toNatClampNeg (.int x) := ⟨cl, A.1, A.plain, Nat.lt_of_not_le fun q => hj' (Or.inr q), by rw [← eT]; rfl⟩
  exact Go.step st (k _ _ X' rfl W (Zv.set F0 W (by rw [← hn]; exact fits_nar_bool x)))
/-- clone() of an array -/
theorem Go.clone {a0 : Array Value} {own ad : String} {index W cap : Nat} (X : Stand p l e R s m args below meth c T locs cells slots) (hx : p.tables.exec = Jvm.exec) (hZ : Z.Warmed39 s.vm) (hml : Ls.size = c.maxLocals) (hown : s.vm.findClass own = some m.cls)
    (w1 : (Jvm.Cond.methodLink own index ⟨ad, "clone", "()Ljava/lang/Object;"⟩).before a0 Z = true) (w2 : (Jvm.Cond.sameMethod ad "java/lang/Object" "clone" "()Ljava/lang/Object;").before a0 Z = true) (w3 : (Jvm.Cond.native ⟨"java/lang/Object", "clone", "()Ljava/lang/Object;"⟩).before a0 Z = true)
    (w4 : (Jvm.Cond.instanceMethod ⟨"java/lang/Object", "clone", "()Ljava/lang/Object;"⟩).before a0 Z = true) (w5 : (Jvm.Cond.selects ad ⟨ad, "clone", "()Ljava/lang/Object;"⟩ ⟨"java/lang/Object", "clone", "()Ljava/lang/Object;"⟩).before a0 Z = true) (w6 : (Jvm.Cond.castable ad "java/lang/Cloneable").before a0 Z = true)
    (eT : T.heap = h) (F : Fv Z h a ty n f) (E : Exa Z h a ad) (hd : decode c.code pc = .ok (.invokevirtual index, 3)) (hf : 1 ≤ R.frames) (hW : (rest.map fun v => v.category).sum ≤ W) (hl : W + 14 ≤ R.locals) (hcap : n.toNatClampNeg ≤ cap) (hc : cells + 1 ≤ R.cells) (hsl : slots + cap ≤ R.slots)
    (k : ∀ T' h' b, b = h.size → Stand p l e R s m args below meth c T' locs (cells + 1) (slots + cap) → T'.heap = h' → Ext h h' → Fv Z h' b ty n f → Exa Z h' b ad → Go p e below s C S Q T' (mkF m (pc + 3) Ls (.ref b :: rest))) : Go p e below s C S Q T (mkF m pc Ls (.ref a :: rest)) := by
  obtain ⟨cl, A, S', P, G, H⟩ := F
  have FC : FitC Z cl := fitC_of A fun i hi v hv => by rw [H i hi] at hv; cases hv; exact G i
  obtain ⟨T', h', X', e', ex, A', E', st⟩ := cloneA X hx hZ hown w1 w2 w3 w4 w5 w6 eT A E FC (g := mkF m pc Ls (.ref a :: rest)) rfl hml rfl hd hf (by show 2 * 0 + _ ≤ _; omega) hl (by rw [S']; exact hcap) hc hsl
  exact Go.step st (k T' h' _ rfl X' e' ex ⟨cloneOf cl, A', S', P, G, H⟩ E')
end OwnFv

section OwnGoW
def Szk (k : Nat) (h : Heap) : Prop := k ≤ h.size
theorem Szk.ext {k : Nat} {h h' : Heap} (q : Szk k h) (E : Ext h h') : Szk k h' := Nat.le_trans q E.1
theorem Szk.keep {k : Nat} {h h' : Heap} {ws : List Addr} (q : Szk k h) (K : Keep h h' ws) : Szk k h' := Nat.le_trans q K.1
theorem Szk.wr {k : Nat} {h h' : Heap} {a : Addr} {i : Nat} {v : Value} (q : Szk k h) (W : Wr h h' a i v) : Szk k h' := Nat.le_trans q ((Keep.refl h [a]).wr W (Or.inl (List.mem_singleton.mpr rfl))).1
def GoW (p : Program) (e : Env) (below : List Frame) (s : State) (C S : Nat) (Q : Option Value → Heap → List Loc → Prop) (T : State) (g : JFrame) : Prop :=
  ∃ s₂ o, Steps p.tables e below (T.setTop g) s₂ ∧ s₂.status = .running ∧ Ended s₂ below o ∧ ∃ v L, o = .returned v ∧ Q v s₂.heap L ∧ ReturnedEndW s o s₂ L C S
variable {p : Program} {l : Launch} {e : Env} {R : Room} {s : State} {m : MethodId} {args : Array Value} {below : List Frame} {meth : Method} {c : Code} {T T' : State} {locs : List Loc} {cells slots : Nat} {Z : State} {a0 : Array Value} {h : Heap} {C S : Nat} {Q : Option Value → Heap → List Loc → Prop} {g g' : JFrame} {s0 : State} {vm0 : Vm} {k0 : Nat}
theorem GoW.step (st : ∀ target, Steps p.tables e below (T'.setTop g') target → Steps p.tables e below (T.setTop g) target) (h : GoW p e below s0 C S Q T' g') : GoW p e below s0 C S Q T g := by
  obtain ⟨s₂, o, h1, r⟩ := h; exact ⟨s₂, o, st _ h1, r⟩
theorem GoW.cast (q : g = g') (h : GoW p e below s0 C S Q T g') : GoW p e below s0 C S Q T g := q ▸ h
theorem GoW.ret (X : Stand p l e R (s0.setVm vm0) m args below meth c T locs cells slots) (hS : s0.Since vm0 k0) (hk : Szk k0 h) (eT : T.heap = h) (hlk : meth.locks = false) {v : Option Value} (hv : meth.sig.returnType = none → v = none)
    (st : ∀ fs, (∀ (f : JFrame) (acts : List Action), f.method = m → f.locked = none → f.entered = [] → (doReturn e (T.setTop f) acts v).1 = T.setFrames fs) → Steps p.tables e below (T.setTop g) (T.setFrames fs))
    (hq : Q v T.heap locs) (hc : cells ≤ C) (hs : slots ≤ S) : GoW p e below s0 C S Q T g := by
  obtain ⟨fs, hr, hrun, hended, h1, h2, h3, hsame⟩ := X.leaveW hS (by rw [eT]; exact hk) (v := v) hv hlk
  exact ⟨_, _, st fs hr, hrun, hended, v, locs, rfl, hq, h1, h2, h3, hsame.mono hc hs⟩
theorem GoW.retV (X : Stand p l e R (s0.setVm vm0) m args below meth c T locs cells slots) (hS : s0.Since vm0 k0) (hk : Szk k0 h) (eT : T.heap = h) (hx : p.tables.exec = Jvm.exec) (hlk : meth.locks = false) (hret : meth.sig.returnType = none) {pc : Nat} {Ls : Array Slot} (hd : decode c.code pc = .ok (.return_, 1))
    (hc : cells ≤ C) (hs : slots ≤ S) (hq : Q none T.heap locs) : GoW p e below s0 C S Q T (mkF m pc Ls []) :=
  GoW.ret X hS hk eT hlk (fun _ => rfl) (fun fs hr => X.returnOut hx hret hd hr) hq hc hs
theorem GoW.retW (X : Stand p l e R (s0.setVm vm0) m args below meth c T locs cells slots) (hS : s0.Since vm0 k0) (hk : Szk k0 h) (eT : T.heap = h) (hx : p.tables.exec = Jvm.exec) (hlk : meth.locks = false) {t : FieldType} (hret : meth.sig.returnType = some t) {pc : Nat} {Ls : Array Slot} {w : Value} {i : Instr} {rest : List Value} (hn : narrow t w = w)
    (hi : (i = .ireturn ∧ (t = .int ∨ t = .boolean ∨ t = .byte ∨ t = .char ∨ t = .short) ∧ ∃ z, w = .int z) ∨ (i = .lreturn ∧ t = .long ∧ ∃ z, w = .long z) ∨ (i = .dreturn ∧ t = .double ∧ ∃ z, w = .double z) ∨ (i = .freturn ∧ t = .float ∧ ∃ z, w = .float z) ∨ (i = .areturn ∧ t.isReference = true ∧ w.isRef = true))
    (hd : decode c.code pc = .ok (i, 1)) (hc : cells ≤ C) (hs : slots ≤ S) (hq : Q (some w) T.heap locs) : GoW p e below s0 C S Q T (mkF m pc Ls (w :: rest)) :=
  GoW.ret X hS hk eT hlk (fun h => by rw [hret] at h; cases h) (fun fs hr => retOut X hx hret hn hi hd hr) hq hc hs
theorem GoW.retZ (X : Stand p l e R (s0.setVm vm0) m args below meth c T locs cells slots) (hS : s0.Since vm0 k0) (hk : Szk k0 h) (eT : T.heap = h) (hx : p.tables.exec = Jvm.exec) (hlk : meth.locks = false) (hret : meth.sig.returnType = some .boolean) {pc : Nat} {Ls : Array Slot} {z : Int32} {rest : List Value} (hz : z = 0 ∨ z = 1)
    (hd : decode c.code pc = .ok (.ireturn, 1)) (hc : cells ≤ C) (hs : slots ≤ S) (hq : Q (some (.int z)) T.heap locs) : GoW p e below s0 C S Q T (mkF m pc Ls (.int z :: rest)) :=
  GoW.retW X hS hk eT hx hlk hret (by rcases hz with rfl | rfl <;> rfl) (Or.inl ⟨rfl, Or.inr (Or.inl rfl), z, rfl⟩) hd hc hs hq
abbrev ConW (l : Launch) (Z : State) (y : MethodName) (bytes : ByteArray) (ml : Nat) (rt : Option FieldType) (rm : Room) (as' : Array Value) (h0 : Heap) (Q : Option Value → Heap → List Loc → Prop) : Prop :=
  MetFree l y (head1 [Jvm.Cond.code y bytes ml rt] rm) (fun a U => a = as' ∧ Z.Warmed39 U.vm ∧ U.heap = h0) (fun _ _ _ _ _ => True) (fun _ U o U' => ∃ v L, o = .returned v ∧ Q v U'.heap L ∧ ReturnedEndW U o U' L rm.cells rm.slots)
theorem con_ofW {y : MethodName} {bytes : ByteArray} {ml : Nat} {rt : Option FieldType} {ws : List Jvm.Cond} {rm : Room} {as' : Array Value} {h0 : Heap} (hpl : plainFor y = true)
    (body : ∀ (p : Program) (e : Env) (s : State) (m : MethodId) (below : List Frame) (meth : Method) (c : Code) (T : State), Stand p l e rm s m as' below meth c T [] 0 0 → p.tables.exec = Jvm.exec → Z.Warmed39 s.vm → c.code = bytes → c.maxLocals = ml → s.vm.findClass y.cls = some m.cls → meth.name = y.name →
      meth.sig.returnType = rt → meth.locks = false → T.heap = h0 → GoW p e below s rm.cells rm.slots Q T (entryFrame m as' ml)) :
    MetFree l y (head1 (Jvm.Cond.code y bytes ml rt :: ws) rm) (fun a U => a = as' ∧ Z.Warmed39 U.vm ∧ U.heap = h0) (fun _ _ _ _ _ => True) (fun _ U o U' => ∃ v L, o = .returned v ∧ Q v U'.heap L ∧ ReturnedEndW U o U' L rm.cells rm.slots) := by
  refine MetFree.of_bodySF hpl hisR ?_
  intro p e s m args below meth c s₁ Bd hml0 hP hK
  obtain ⟨rfl, hZ, hh⟩ := hP
  exact body p e s m below meth c s₁ (Stand.of_body Bd) Bd.exec hZ Bd.bytes hml0 (findClass_of_methodNamed Bd.named) (name_of_methodNamed Bd.named Bd.method).1 Bd.returns (BodyLoose.notSynchronized Bd) (by rw [← hh, Bd.state]; rfl)
/-- a constructor that may intern -/
theorem GoW.callIW (X : Stand p l e R (s0.setVm vm0) m args below meth c T locs cells slots) (hS : s0.Since vm0 k0) (hk : Szk k0 h) (hx : p.tables.exec = Jvm.exec) (hZ : Z.Warmed39 (s0.setVm vm0).vm) {own : String} {index : Nat} {y : MethodName} {bytes : ByteArray} {maxL : Nat} {rm : Room} {as' : Array Value} {Qc : Option Value → Heap → List Loc → Prop} {W pc : Nat} {Ls : Array Slot} {st : List Value} {a : Addr} {argsL rest : List Value} (hml : Ls.size = c.maxLocals)
    (hy1 : y.name = "<init>") (hown : (s0.setVm vm0).vm.findClass own = some m.cls) (w1 : (Jvm.Cond.methodLink own index y).before a0 Z = true) (w2 : (Jvm.Cond.instanceMethod y).before a0 Z = true) (w3 : (Jvm.Cond.initialized y.cls).before a0 Z = true) (w4 : (Jvm.Cond.code y bytes maxL none).before a0 Z = true) (hy : y.cls ≠ "java/lang/invoke/MethodHandle" ∧ y.cls ≠ "java/lang/invoke/VarHandle")
    (hM : ConW l Z y bytes maxL none rm as' h Qc) (eT : T.heap = h) (hd : decode c.code pc = .ok (.invokespecial index, 3)) (hlen : ∀ sig, parseMethodDescriptor y.desc = some sig → argsL.length = sig.parameters.length) (hst : st = argsL.reverse ++ .ref a :: rest) (has : (Value.ref a :: argsL).toArray = as')
    (hW : (rest.map fun v => v.category).sum ≤ W) (hf : rm.frames + 1 ≤ R.frames) (hl : W + (maxL + 11) + rm.locals ≤ R.locals) (hc : cells + rm.cells ≤ R.cells) (hs : slots + rm.slots ≤ R.slots)
    (k : ∀ (v : Option Value) (T' : State) (L : List Loc), Stand p l e R (s0.setVm T'.vm) m args below meth c T' (locs ++ L) (cells + rm.cells) (slots + rm.slots) → Qc v T'.heap L → s0.Since T'.vm T'.heap.size → Z.Warmed39 (s0.setVm T'.vm).vm → (s0.setVm T'.vm).vm.findClass own = some m.cls → GoW p e below s0 C S Q T' (mkF m (pc + 3) Ls (v.toList ++ rest))) :
    GoW p e below s0 C S Q T (mkF m pc Ls st) := by
  obtain ⟨v, _, ⟨T', L', k', n'⟩, -, X', hS2, hgr, ⟨Lc, hQ, l1, y1, z1⟩, stp⟩ := X.specialBackS hx (y := y) hy1 hown (mvT hZ w1) (mvT hZ w2) (mvT hZ w4) hy (backOfS (W := W) hM hZ w4 w3 hf hl) (g := mkF m pc Ls st) rfl hml (Steps.refl _) (a := a) (argsL := argsL) (rest := rest) hlen hst (by show 2 * 0 + _ ≤ _; omega) hd (fun _ _ => ⟨has, eT, hc, hs⟩)
  dsimp only [Pt.U, Pt.locs, Pt.cells, Pt.slots] at X' l1 y1 z1 stp hQ hS2 hgr
  subst l1 y1 z1
  obtain ⟨X2, q2, q3, q4⟩ := rebS hS (show k0 ≤ T.heap.size by rw [eT]; exact hk) X' hS2 hgr hZ hown
  exact GoW.step (fun _ q => stp.trans q) (k v T' Lc X2 hQ q2 q3 q4)
theorem GoW.callS (X : Stand p l e R s m args below meth c T locs cells slots) (hx : p.tables.exec = Jvm.exec) (hZ : Z.Warmed39 s.vm) {own : String} {index : Nat} {y : MethodName} {bytes : ByteArray} {maxL : Nat} {ret : Option FieldType} {rm : Room} {as' : Array Value} {Qc : Option Value → Heap → List Loc → Prop} {W pc : Nat} {Ls : Array Slot} {st : List Value} {argsL rest : List Value} (hml : Ls.size = c.maxLocals)
    (hown : s.vm.findClass own = some m.cls) (w1 : (Jvm.Cond.methodLink own index y).before a0 Z = true) (w2 : (Jvm.Cond.static y).before a0 Z = true) (w3 : (Jvm.Cond.initialized y.cls).before a0 Z = true) (w4 : (Jvm.Cond.code y bytes maxL ret).before a0 Z = true) (hy : y.cls ≠ "java/lang/invoke/MethodHandle" ∧ y.cls ≠ "java/lang/invoke/VarHandle")
    (hM : Con l Z y bytes maxL ret rm as' h Qc) (eT : T.heap = h) (hd : decode c.code pc = .ok (.invokestatic index, 3)) (hlen : ∀ sig, parseMethodDescriptor y.desc = some sig → argsL.length = sig.parameters.length) (hst : st = argsL.reverse ++ rest) (has : argsL.toArray = as')
    (hW : (rest.map fun v => v.category).sum ≤ W) (hf : rm.frames + 1 ≤ R.frames) (hl : W + (maxL + 11) + rm.locals ≤ R.locals) (hc : cells + rm.cells ≤ R.cells) (hs : slots + rm.slots ≤ R.slots)
    (k : ∀ (v : Option Value) (T' : State) (L : List Loc), Stand p l e R s m args below meth c T' (locs ++ L) (cells + rm.cells) (slots + rm.slots) → Qc v T'.heap L → GoW p e below s0 C S Q T' (mkF m (pc + 3) Ls (v.toList ++ rest))) :
    GoW p e below s0 C S Q T (mkF m pc Ls st) := by
  obtain ⟨v, _, ⟨T', L', k', n'⟩, -, X', ⟨Lc, hQ, l1, y1, z1⟩, stp⟩ := Jvm.LawKit.callS X hx (y := y) hown (mvT hZ w1) (mvT hZ w2) (mvT hZ w3) (mvT hZ w4) hy (backOf (W := W) hM hZ w4 w3 hf hl) (g := mkF m pc Ls st) rfl hml (argsL := argsL) (rest := rest) hlen hst (by show 2 * 0 + _ ≤ _; omega) hd (fun _ _ => ⟨has, eT, hc, hs⟩)
  dsimp only [Pt.U, Pt.locs, Pt.cells, Pt.slots] at X' l1 y1 z1 stp hQ
  subst l1 y1 z1
  exact GoW.step stp (k v T' Lc X' hQ)
theorem GoW.callI (X : Stand p l e R s m args below meth c T locs cells slots) (hx : p.tables.exec = Jvm.exec) (hZ : Z.Warmed39 s.vm) {own : String} {index : Nat} {y : MethodName} {bytes : ByteArray} {maxL : Nat} {rm : Room} {as' : Array Value} {Qc : Option Value → Heap → List Loc → Prop} {W pc : Nat} {Ls : Array Slot} {st : List Value} {a : Addr} {argsL rest : List Value} (hml : Ls.size = c.maxLocals)
    (hy1 : y.name = "<init>") (hown : s.vm.findClass own = some m.cls) (w1 : (Jvm.Cond.methodLink own index y).before a0 Z = true) (w2 : (Jvm.Cond.instanceMethod y).before a0 Z = true) (w3 : (Jvm.Cond.initialized y.cls).before a0 Z = true) (w4 : (Jvm.Cond.code y bytes maxL none).before a0 Z = true) (hy : y.cls ≠ "java/lang/invoke/MethodHandle" ∧ y.cls ≠ "java/lang/invoke/VarHandle")
    (hM : Con l Z y bytes maxL none rm as' h Qc) (eT : T.heap = h) (hd : decode c.code pc = .ok (.invokespecial index, 3)) (hlen : ∀ sig, parseMethodDescriptor y.desc = some sig → argsL.length = sig.parameters.length) (hst : st = argsL.reverse ++ .ref a :: rest) (has : (Value.ref a :: argsL).toArray = as')
    (hW : (rest.map fun v => v.category).sum ≤ W) (hf : rm.frames + 1 ≤ R.frames) (hl : W + (maxL + 11) + rm.locals ≤ R.locals) (hc : cells + rm.cells ≤ R.cells) (hs : slots + rm.slots ≤ R.slots)
    (k : ∀ (v : Option Value) (T' : State) (L : List Loc), Stand p l e R s m args below meth c T' (locs ++ L) (cells + rm.cells) (slots + rm.slots) → Qc v T'.heap L → GoW p e below s0 C S Q T' (mkF m (pc + 3) Ls (v.toList ++ rest))) :
    GoW p e below s0 C S Q T (mkF m pc Ls st) := by
  obtain ⟨v, _, ⟨T', L', k', n'⟩, -, X', ⟨Lc, hQ, l1, y1, z1⟩, stp⟩ := X.specialBack hx (y := y) hy1 hown (mvT hZ w1) (mvT hZ w2) (mvT hZ w4) hy (backOf (W := W) hM hZ w4 w3 hf hl) (g := mkF m pc Ls st) rfl hml (Steps.refl _) (a := a) (argsL := argsL) (rest := rest) hlen hst (by show 2 * 0 + _ ≤ _; omega) hd (fun _ _ => ⟨has, eT, hc, hs⟩)
  dsimp only [Pt.U, Pt.locs, Pt.cells, Pt.slots] at X' l1 y1 z1 stp hQ
  subst l1 y1 z1
  exact GoW.step (fun _ q => stp.trans q) (k v T' Lc X' hQ)
theorem GoW.callV (X : Stand p l e R s m args below meth c T locs cells slots) (hx : p.tables.exec = Jvm.exec) (hZ : Z.Warmed39 s.vm) {own K : String} {index : Nat} {y z : MethodName} {bytes : ByteArray} {maxL : Nat} {ret : Option FieldType} {rm : Room} {as' : Array Value} {Qc : Option Value → Heap → List Loc → Prop} {W pc : Nat} {Ls : Array Slot} {st : List Value} {a : Addr} {argsL rest : List Value} (hml : Ls.size = c.maxLocals)
    (hown : s.vm.findClass own = some m.cls) (w1 : (Jvm.Cond.methodLink own index y).before a0 Z = true) (w2 : (Jvm.Cond.declares y).before a0 Z = true) (hnf : NotFace s y) (w5 : (Jvm.Cond.selects K y z).before a0 Z = true) (w6 : (Jvm.Cond.instanceMethod z).before a0 Z = true) (w3 : (Jvm.Cond.initialized z.cls).before a0 Z = true) (w4 : (Jvm.Cond.code z bytes maxL ret).before a0 Z = true) (hy : y.cls ≠ "java/lang/invoke/MethodHandle" ∧ y.cls ≠ "java/lang/invoke/VarHandle")
    (hM : Con l Z z bytes maxL ret rm as' h Qc) (eT : T.heap = h) (E : Exa Z h a K) (hd : decode c.code pc = .ok (.invokevirtual index, 3)) (hlen : ∀ sig, parseMethodDescriptor y.desc = some sig → argsL.length = sig.parameters.length) (hst : st = argsL.reverse ++ .ref a :: rest) (has : (Value.ref a :: argsL).toArray = as')
    (hW : (rest.map fun v => v.category).sum ≤ W) (hf : rm.frames + 1 ≤ R.frames) (hl : W + (maxL + 11) + rm.locals ≤ R.locals) (hc : cells + rm.cells ≤ R.cells) (hs : slots + rm.slots ≤ R.slots)
    (k : ∀ (v : Option Value) (T' : State) (L : List Loc), Stand p l e R s m args below meth c T' (locs ++ L) (cells + rm.cells) (slots + rm.slots) → Qc v T'.heap L → GoW p e below s0 C S Q T' (mkF m (pc + 3) Ls (v.toList ++ rest))) :
    GoW p e below s0 C S Q T (mkF m pc Ls st) := by
  obtain ⟨cq, kq, qa, qb, qc⟩ := isOf hZ eT E
  obtain ⟨v, _, ⟨T', L', k', n'⟩, -, X', ⟨Lc, hQ, l1, y1, z1⟩, stp⟩ := X.virtualBack hx (y := y) (z := z) hown (mvT hZ w1) (mvT hZ w2) hnf (mvT hZ w5) (mvT hZ w6) hy (backOf (W := W) hM hZ w4 w3 hf hl) qa qc (g := mkF m pc Ls st) rfl hml (Steps.refl _) (argsL := argsL) (rest := rest) hlen hst (by show 2 * 0 + _ ≤ _; omega) hd (fun _ _ => ⟨has, eT, hc, hs⟩)
  dsimp only [Pt.U, Pt.locs, Pt.cells, Pt.slots] at X' l1 y1 z1 stp hQ
  subst l1 y1 z1
  exact GoW.step (fun _ q => stp.trans q) (k v T' Lc X' hQ)
theorem GoW.callP (X : Stand p l e R s m args below meth c T locs cells slots) (hx : p.tables.exec = Jvm.exec) (hZ : Z.Warmed39 s.vm) {own : String} {index : Nat} {y : MethodName} {bytes : ByteArray} {maxL : Nat} {ret : Option FieldType} {rm : Room} {as' : Array Value} {Qc : Option Value → Heap → List Loc → Prop} {W pc : Nat} {Ls : Array Slot} {st : List Value} {a : Addr} {argsL rest : List Value} (hml : Ls.size = c.maxLocals)
    (hown : s.vm.findClass own = some m.cls) (w1 : (Jvm.Cond.methodLink own index y).before a0 Z = true) (w6 : (Jvm.Cond.instanceMethod y).before a0 Z = true) {kk : Nat} (w5 : (Jvm.Cond.instantiable y.cls kk).before a0 Z = true) (w7 : (Jvm.Cond.privateMethod y).before a0 Z = true) (w3 : (Jvm.Cond.initialized y.cls).before a0 Z = true) (w4 : (Jvm.Cond.code y bytes maxL ret).before a0 Z = true) (hy : y.cls ≠ "java/lang/invoke/MethodHandle" ∧ y.cls ≠ "java/lang/invoke/VarHandle")
    (hM : Con l Z y bytes maxL ret rm as' h Qc) (eT : T.heap = h) {K : String} (E : Exa Z h a K) (hd : decode c.code pc = .ok (.invokevirtual index, 3)) (hlen : ∀ sig, parseMethodDescriptor y.desc = some sig → argsL.length = sig.parameters.length) (hst : st = argsL.reverse ++ .ref a :: rest) (has : (Value.ref a :: argsL).toArray = as')
    (hW : (rest.map fun v => v.category).sum ≤ W) (hf : rm.frames + 1 ≤ R.frames) (hl : W + (maxL + 11) + rm.locals ≤ R.locals) (hc : cells + rm.cells ≤ R.cells) (hs : slots + rm.slots ≤ R.slots)
    (k : ∀ (v : Option Value) (T' : State) (L : List Loc), Stand p l e R s m args below meth c T' (locs ++ L) (cells + rm.cells) (slots + rm.slots) → Qc v T'.heap L → GoW p e below s0 C S Q T' (mkF m (pc + 3) Ls (v.toList ++ rest))) :
    GoW p e below s0 C S Q T (mkF m pc Ls st) := by
  obtain ⟨cq, q1, q2⟩ := E.cell
  have hpriv : s.PrivateAt y := Cond.privateMethod_at (mvP hZ w7 (args := #[]))
  have w5' : (Jvm.Cond.instantiable y.cls kk).before args s = true := mvT hZ w5
  obtain ⟨c1, k1, i1, i2, -, i4, -⟩ := Cond.instantiable_spec w5'
  have hsel : (Jvm.Cond.selects y.cls y y).before args s = true := selects_self_of_private i1 i2 (by simp only [Bool.or_eq_false_iff] at i4; exact i4.1) hpriv (mvT hZ w6) hy
  obtain ⟨v, _, ⟨T', L', k', n'⟩, -, X', ⟨Lc, hQ, l1, y1, z1⟩, stp⟩ := X.privateBack hx (y := y) hown (mvT hZ w1) (mvT hZ w6) hsel hpriv (mvT hZ w4) hy (backOf (W := W) hM hZ w4 w3 hf hl) (g := mkF m pc Ls st) rfl hml (Steps.refl _) (a := a) (by rw [eT]; exact q1) q2 (argsL := argsL) (rest := rest) hlen hst (by show 2 * 0 + _ ≤ _; omega) hd (fun _ _ => ⟨has, eT, hc, hs⟩)
  dsimp only [Pt.U, Pt.locs, Pt.cells, Pt.slots] at X' l1 y1 z1 stp hQ
  subst l1 y1 z1
  exact GoW.step (fun _ q => stp.trans q) (k v T' Lc X' hQ)
end OwnGoW
theorem own_wS {Z : State} {a0 : Array Value} (hw : ∀ d ∈ tables_1, d.before a0 Z = true) : ∀ a ∈ Bundle.stringAtoms, a.before a0 Z = true := by
  intro a ha
  simp only [Bundle.stringAtoms, List.mem_cons, List.not_mem_nil, or_false] at ha
  rcases ha with rfl | rfl | rfl | rfl | rfl | rfl | rfl
  · exact (hw _ (mI 9 rfl))
  · exact (hw _ (mI 10 rfl))
  · exact (hw _ (mI 11 rfl))
  · exact (hw _ (mI 12 rfl))
  · exact (hw _ (mI 13 rfl))
  · exact (hw _ (mI 14 rfl))
  · exact (hw _ (mI 15 rfl))
theorem own_pop2 {tb : Tables} [Ours tb] {e : Env} {below : List Frame} {T target : State} {m : MethodId} {c : Code} {g : JFrame} (h : At T m c below) (hx : tb.exec = Jvm.exec) (hg : g.method = m) {x : Value} {rest : List Value} (hd : decode c.code g.pc = .ok (.pop2, 1)) (hs : g.stack = x :: rest) (hc : x.category = 2)
    (hr : Steps tb e below (T.setTop { g with pc := g.pc + 1, stack := rest }) target) : Steps tb e below (T.setTop g) target := by
  subst hg
  jvm_step h [h.top, hx, hd, hs, Op.pop2.wp_sem, hc]
  exact hr
abbrev Bv (Z : State) (h : Heap) (a : Addr) (n : Int32) (g : Nat → Int32) : Prop := Fv Z h a .byte n (fun i => .int (g i))
section OwnB
variable {Z : State} {h : Heap} {a : Addr} {n j : Int32} {p : Program} {l : Launch} {e : Env} {R : Room} {s : State} {m : MethodId} {args : Array Value} {below : List Frame} {meth : Method} {c : Code} {T : State} {locs : List Loc} {cells slots : Nat} {C S : Nat} {Q : Option Value → Heap → List Loc → Prop} {pc : Nat} {Ls : Array Slot} {rest : List Value}
theorem Go.baloadB {g : Nat → Int32} {v : Int32} (X : Stand p l e R s m args below meth c T locs cells slots) (hx : p.tables.exec = Jvm.exec) (hZ : Z.Warmed39 s.vm) (eT : T.heap = h) (F : Bv Z h a n g) (hj : ¬ j < 0 ∧ j < n) (hv : g j.toNatClampNeg = v) (hd : decode c.code pc = .ok (.baload, 1))
    (k : Go p e below s C S Q T (mkF m (pc + 1) Ls (.int v :: rest))) : Go p e below s C S Q T (mkF m pc Ls (.int j :: .ref a :: rest)) := by
  obtain ⟨cl, A, S', P, G, H⟩ := F
  have q := inb_of S' hj
  exact Go.step (fun t r => X.baloadBytes hx (j := j) (v := .int v) (by rw [eT]; exact A.1) (State.isArrayOf_alike hZ.alike A.2.1) A.2.2 q (by rw [← hv]; exact H _ (Nat.lt_of_not_le fun z => q (Or.inr z))) (g := mkF m pc Ls (.int j :: .ref a :: rest)) rfl rfl hd t r) k
/-- one place of an int[] -/
def At112 (Z : State) (h : Heap) (a : Addr) : Prop := ∃ c : Cell, Arr Z h a c .int ∧ ¬ ((112 : Int32) < 0 ∨ c.slots.size ≤ (112 : Int32).toNatClampNeg) ∧ c.slots[(112 : Int32).toNatClampNeg]? = some (.int (8486882 : Int32))
theorem Go.ial1 (X : Stand p l e R s m args below meth c T locs cells slots) (hx : p.tables.exec = Jvm.exec) (hZ : Z.Warmed39 s.vm) (eT : T.heap = h) (F : At112 Z h a) (hd : decode c.code pc = .ok (.iaload, 1))
    (k : Go p e below s C S Q T (mkF m (pc + 1) Ls (.int (8486882 : Int32) :: rest))) : Go p e below s C S Q T (mkF m pc Ls (.int (112 : Int32) :: .ref a :: rest)) := by
  obtain ⟨cl, A, q, H⟩ := F
  exact Go.step (fun t r => X.iaload hx (j := 112) (v := .int (8486882 : Int32)) (by rw [eT]; exact A.1) (State.isArrayOf_alike hZ.alike A.2.1) A.2.2 q H (g := mkF m pc Ls (.int (112 : Int32) :: .ref a :: rest)) rfl rfl hd t r) k
theorem own_bv {k : ClassId} (A : Arv Z h a k .byte (1 : Int32) [.int 112] (.int 0)) : Bv Z h a (1 : Int32) (fun _ => (112 : Int32)) := by
  obtain ⟨c, A, -, S', P, H, G⟩ := A
  refine ⟨c, A, S', P, fun i => by show fits .byte (.int 112) = true; decide, fun i hi => ?_⟩
  rw [H i hi]
  have : i = 0 := by have e : (1 : Int32).toNatClampNeg = 1 := rfl; rw [S', e] at hi; omega
  subst this; rfl
end OwnB
theorem own_eqv {t : Term} {k : Int32} {args : Array Value} {first s : State} {o : Option Outcome} {idx : List Nat} (h : (Jvm.Cond.eq t (.int k)).value args first o s idx = some true) : t.eval args first o idx s = some (.int k) := by
  simp only [Cond.value, Term.eval] at h
  cases ht : t.eval args first o idx s with
  | none => simp [ht] at h
  | some x => cases x <;> simp [ht] at h ⊢; exact h
theorem own_cs {args : Array Value} {s : State} {cs : Int32} (ecs : (Term.static "java/lang/String" "COMPACT_STRINGS" "Z").eval args s none [] s = some (.int cs)) (hcw : Jvm.Lit.compactW.before args s = true) : ¬ cs = (0 : Int32) := fun q => by
  have e2 := eq_i (b := .int 0) ecs (Term.int_eval (0)) (by rw [q])
  have z := Cond.before_iff.mp hcw
  unfold Jvm.Lit.compactW at z
  rw [Cond.value, e2] at z
  exact absurd z (by decide)
/-- what the JDK's statics hold -/
def JS (Z : State) (cs : Int32) (sf : Value) (xi xa : Addr) : Prop := Sta Z Z.heap "java/lang/String" "COMPACT_STRINGS" "Z" (.int cs) ∧ ¬ cs = (0 : Int32) ∧ Sta Z Z.heap "jdk/internal/util/Preconditions" "SIOOBE_FORMATTER" "Ljava/util/function/BiFunction;" sf ∧ sf.isRef = true ∧ Sta Z Z.heap "java/lang/CharacterDataLatin1" "instance" "Ljava/lang/CharacterDataLatin1;" (.ref xi) ∧ Exa Z Z.heap xi "java/lang/CharacterDataLatin1" ∧ Sta Z Z.heap "java/lang/CharacterDataLatin1" "A" "[I" (.ref xa) ∧ At112 Z Z.heap xa
theorem con_ofWZ {l : Launch} {Z : State} {Q : Option Value → Heap → List Loc → Prop} {y : MethodName} {bytes : ByteArray} {ml : Nat} {rt : Option FieldType} {ws : List Jvm.Cond} {rm : Room} {as' : Array Value} {h0 : Heap} (hpl : plainFor y = true)
    (body : ∀ (p : Program) (e : Env) (s : State) (m : MethodId) (below : List Frame) (meth : Method) (c : Code) (T : State), Stand p l e rm s m as' below meth c T [] 0 0 → p.tables.exec = Jvm.exec → s = Z → c.code = bytes → c.maxLocals = ml → s.vm.findClass y.cls = some m.cls → meth.name = y.name →
      meth.sig.returnType = rt → meth.locks = false → T.heap = h0 → s.heap = h0 → GoW p e below s rm.cells rm.slots Q T (entryFrame m as' ml)) :
    MetFree l y (head1 (Jvm.Cond.code y bytes ml rt :: ws) rm) (fun a U => a = as' ∧ U = Z ∧ U.heap = h0) (fun _ _ _ _ _ => True) (fun _ U o U' => ∃ v L, o = .returned v ∧ Q v U'.heap L ∧ ReturnedEndW U o U' L rm.cells rm.slots) := by
  refine MetFree.of_bodySF hpl hisR ?_
  intro p e s m args below meth c s₁ Bd hml0 hP hK
  obtain ⟨rfl, hZ, hh⟩ := hP
  exact body p e s m below meth c s₁ (Stand.of_body Bd) Bd.exec hZ Bd.bytes hml0 (findClass_of_methodNamed Bd.named) (name_of_methodNamed Bd.named Bd.method).1 Bd.returns (BodyLoose.notSynchronized Bd) (by rw [← hh, Bd.state]; rfl) hh
section OwnConv
open Jvm.FP.Core
theorem own_nnN {a : UInt64} (h : val64 a ≠ .nan) : Jvm.Free.Fl.NoNaN64 a := Jvm.Free.Fl.noNaN64_no.mpr ((notNaN_iff a).mpr h)
theorem own_Nnn {a : UInt64} (h : Jvm.Free.Fl.NoNaN64 a) : val64 a ≠ .nan := (notNaN_iff a).mp (Jvm.Free.Fl.noNaN64_no.mp h)
theorem own_finF {a : UInt64} (h : DFin a) : Jvm.Free.Fl.Fin64 a := Jvm.Free.Fl.fin64_core.mpr h
theorem own_Ffin {a : UInt64} (h : Jvm.Free.Fl.Fin64 a) : DFin a := Jvm.Free.Fl.fin64_core.mp h
theorem own_nnF {a : UInt64} (h : DFin a) : Jvm.Free.Fl.NoNaN64 a := own_nnN h.ne_nan
theorem own_nz {x : Int64} (h : x ≠ 0) : Jvm.Free.Fl.Nz64 (FP.l2d x) := Jvm.Free.Fl.nz64_core.mpr (fun z => l2d_ne_zero h ((zero_bits2 _).mp z))
theorem own_eqD {a b : UInt64} (h : a = b) (n : Jvm.Free.Fl.NoNaN64 a) : FP.dcmp a b = some .eq := by subst h; exact dcmp_self (own_Nnn n)
end OwnConv

section OwnFP
open Jvm.FP.Core
theorem own_d0 : DInt 0 (0 : UInt64) := by
  have h : DInt (0 : Int32).toInt (FP.i2d 0) := i2d_int 0
  rw [show FP.i2d 0 = 0 from by decide +kernel] at h; exact h
theorem own_dge {x : Int32} (h : 0 ≤ x.toInt) : FP.dcmp (FP.i2d x) (0 : UInt64) = some .gt ∨ FP.dcmp (FP.i2d x) (0 : UInt64) = some .eq := by
  have e : FP.dcmp (FP.i2d x) 0 = some (compare x.toInt 0) := dcmp_int (i2d_int x) own_d0
  rw [e]
  rcases Int.lt_or_eq_of_le h with q | q
  · left; rw [(compare_gt_iff _ _).mpr q]
  · right; rw [(compare_eq_iff _ _).mpr q.symm]
theorem own_m31 (x : Int32) : 0 ≤ (x &&& (2147483647 : Int32)).toInt := by have := c_mask x 2147483647 31 (by decide) (by decide); omega
def minW (a b : Int32) : Int32 := if b < a then b else a
theorem own_min (a b : Int32) : (minW a b).toInt = min a.toInt b.toInt := by
  unfold minW; split <;> rename_i h <;> rw [Int32.lt_iff_toInt_lt] at h <;> omega
theorem own_min0 {a b : Int32} (h1 : 0 ≤ a.toInt) (h2 : 0 ≤ b.toInt) : 0 ≤ (minW a b).toInt := by rw [own_min]; omega
theorem own_ngt (a b : Int32) : ¬ FP.dcmp (FP.i2d (minW a b)) (FP.i2d b) = some .gt := by
  have e : FP.dcmp (FP.i2d (minW a b)) (FP.i2d b) = some (compare (minW a b).toInt b.toInt) := dcmp_int (i2d_int _) (i2d_int b)
  rw [e]; intro q
  have := (compare_gt_iff _ _).mp (Option.some.inj q)
  rw [own_min] at this; omega
theorem own_fi {v : UInt64} (h : Jvm.Free.Fl.Fin64 v) : FP.dcmp v (9218868437227405312 : UInt64) = some .lt := (fin_lt_inf (own_Ffin h)).1
theorem own_fie {v : UInt64} (h : Jvm.Free.Fl.Fin64 v) : ¬ FP.dcmp v (9218868437227405312 : UInt64) = some .eq := by rw [own_fi h]; decide
theorem own_fig {v : UInt64} (h : Jvm.Free.Fl.Fin64 v) : ¬ FP.dcmp v (9218868437227405312 : UInt64) = some .gt := by rw [own_fi h]; decide
theorem own_ii : FP.dcmp (9218868437227405312 : UInt64) (9218868437227405312 : UInt64) = some .eq := by decide +kernel
end OwnFP
theorem d8_0 : decode jdk_42_method_154_code 0 = .ok (.getstatic 38, 3) := by decide +kernel
theorem d8_3 : decode jdk_42_method_154_code 3 = .ok (.ifCond .eq 14, 3) := by decide +kernel
theorem d8_6 : decode jdk_42_method_154_code 6 = .ok (.aload_n 0, 1) := by decide +kernel
theorem d8_7 : decode jdk_42_method_154_code 7 = .ok (.getfield 15, 3) := by decide +kernel
theorem d8_10 : decode jdk_42_method_154_code 10 = .ok (.ifCond .ne 7, 3) := by decide +kernel
theorem d8_13 : decode jdk_42_method_154_code 13 = .ok (.iconst 1, 1) := by decide +kernel
theorem d8_14 : decode jdk_42_method_154_code 14 = .ok (.goto 4, 3) := by decide +kernel
theorem d8_18 : decode jdk_42_method_154_code 18 = .ok (.ireturn, 1) := by decide +kernel
set_option maxRecDepth 65536 in
set_option maxHeartbeats 40000000 in
theorem w8 {p : Program} {l : Launch} {e : Env} {s : State} {m : MethodId} {args : Array Value} {below : List Frame} {meth : Method} {c_ : Code} {T0 : State} {locs : List Loc} {Z : State} {a0 : Array Value} {h0 : Heap} {n0 : Nat} (b xb : Addr) (cs : Int32) (sf : Value) (xi xa : Addr)
    (X0 : Stand p l e ({ frames := 0, cells := 0, slots := 0, locals := 0 } : Room) s m args below meth c_ T0 locs 0 0) (hx : p.tables.exec = Jvm.exec) (hZ : Z.Warmed39 s.vm) (hw : ∀ d ∈ tables_1, d.before a0 Z = true) (hby : c_.code = jdk_42_method_154_code) (hml : c_.maxLocals = 1) (hown : s.vm.findClass "java/lang/String" = some m.cls) (hnm : meth.name = "isLatin1") (hret : meth.sig.returnType = some .boolean) (hlk : meth.locks = false) (e0 : T0.heap = h0) (Z0 : n0 ≤ h0.size) (N0 : Fr n0 locs) (E_b : Exa Z h0 b "java/lang/String") (F_value_b : Fld Z h0 b "java/lang/String" "value" "[B" (.ref xb)) (F_coder_b : Fld Z h0 b "java/lang/String" "coder" "B" (.int (0 : Int32))) (V_xb : Bv Z h0 xb (1 : Int32) (fun _ => (112 : Int32))) (hO : Ext Z.heap h0) (hJ : JS Z cs sf xi xa) :
    Go p e below s ({ frames := 0, cells := 0, slots := 0, locals := 0 } : Room).cells ({ frames := 0, cells := 0, slots := 0, locals := 0 } : Room).slots (fun r h L => r = (some (.int (1 : Int32))) ∧ Fr n0 L ∧ h = h0) T0 (mkF m 0 #[.val (.ref b)] []) := by
  have hJq := hJ
  obtain ⟨hCS, hcs, hSF, hsf, hIN, hXI, hAA, hA⟩ := hJq
  have S_CS := Sta.ext hO hCS
  show Go _ _ _ _ _ _ _ T0 (mkF m 0 #[.val (.ref b)] [])
  obtain ⟨T1, X1, e1, st1⟩ := getS (host := "") X0 hx hZ hown (hw _ (mI 46 rfl)) Via.refl e0 S_CS (g := (mkF m 0 #[.val (.ref b)] [])) rfl (hb hby d8_0)
  refine Go.step st1 ?_
  show Go _ _ _ _ _ _ _ T1 (mkF m 3 #[.val (.ref b)] [(.int cs)])
  refine Go.step (fun _ k => XS.ifNo X1.here hx rfl (hb hby d8_3) rfl ((if0 _ _).trans (feq hcs).1) k) ?_
  show Go _ _ _ _ _ _ _ T1 (mkF m 6 #[.val (.ref b)] [])
  refine Go.step (fun _ k => XS.aloadN X1.here hx rfl (hb hby d8_6) rfl rfl k) ?_
  show Go _ _ _ _ _ _ _ T1 (mkF m 7 #[.val (.ref b)] [(.ref b)])
  obtain ⟨T2, X2, e2, st2⟩ := getF X1 hx hZ hown (host := "") (Or.inl (hw _ (mI 47 rfl))) Via.refl e1 F_coder_b (g := (mkF m 7 #[.val (.ref b)] [(.ref b)])) rfl rfl (hb hby d8_7)
  refine Go.step st2 ?_
  show Go _ _ _ _ _ _ _ T2 (mkF m 10 #[.val (.ref b)] [(.int (0 : Int32))])
  refine Go.step (fun _ k => XS.ifNo X2.here hx rfl (hb hby d8_10) rfl ((if0 _ _).trans (teq (by decide : (0 : Int32) = (0 : Int32))).2) k) ?_
  show Go _ _ _ _ _ _ _ T2 (mkF m 13 #[.val (.ref b)] [])
  refine Go.step (fun _ k => XS.iconst X2.here hx rfl (hb hby d8_13) k) ?_
  show Go _ _ _ _ _ _ _ T2 (mkF m 14 #[.val (.ref b)] [(.int (1 : Int32))])
  refine Go.step (fun _ k => XS.goto X2.here hx rfl (pc0 := 14) (pc' := 18) rfl (hb hby d8_14) (by decide) (by decide) k) ?_
  show Go _ _ _ _ _ _ _ T2 (mkF m 18 #[.val (.ref b)] [(.int (1 : Int32))])
  refine Go.retZ X2 hx hlk hret (by decide) (hb hby d8_18) (by decide) (by decide) ?_
  try rw [e2]
  exact ⟨rfl, N0, rfl⟩
theorem pn_8 : plainFor (⟨"java/lang/String", "isLatin1", "()Z"⟩ : MethodName) = true := by decide +kernel
theorem ef_rm8 (m : MethodId) (b : Addr) : entryFrame m #[(.ref b)] 1 = mkF m 0 #[.val (.ref b)] [] := by first | (simp [entryFrame, mkF, argsToLocals, Value.category]; done) | rfl
theorem rm8 (l : Launch) (Z : State) (a0 : Array Value) (hw : ∀ d ∈ tables_1, d.before a0 Z = true) (b xb : Addr) (cs : Int32) (sf : Value) (xi xa : Addr) (h0 : Heap) (n0 : Nat) (Z0 : n0 ≤ h0.size) (E_b : Exa Z h0 b "java/lang/String") (F_value_b : Fld Z h0 b "java/lang/String" "value" "[B" (.ref xb)) (F_coder_b : Fld Z h0 b "java/lang/String" "coder" "B" (.int (0 : Int32))) (V_xb : Bv Z h0 xb (1 : Int32) (fun _ => (112 : Int32))) (hO : Ext Z.heap h0) (hJ : JS Z cs sf xi xa) :
    Con l Z (⟨"java/lang/String", "isLatin1", "()Z"⟩ : MethodName) jdk_42_method_154_code 1 (some .boolean) ({ frames := 0, cells := 0, slots := 0, locals := 0 } : Room) #[(.ref b)] h0 (fun r h L => r = (some (.int (1 : Int32))) ∧ Fr n0 L ∧ h = h0) :=
  con_of pn_8 (fun p_ e_ s_ m_ b_ meth_ c_ T_ X_ hx hZ hby hml hown hnm hret hlk e0 => Go.cast (ef_rm8 m_ b) (w8 b xb cs sf xi xa X_ hx hZ hw hby hml hown hnm hret hlk e0 Z0 (Fr.nil n0) E_b F_value_b F_coder_b V_xb hO hJ))
theorem d14_0 : decode jdk_42_method_152_code 0 = .ok (.getstatic 38, 3) := by decide +kernel
theorem d14_3 : decode jdk_42_method_152_code 3 = .ok (.ifCond .eq 10, 3) := by decide +kernel
theorem d14_6 : decode jdk_42_method_152_code 6 = .ok (.aload_n 0, 1) := by decide +kernel
theorem d14_7 : decode jdk_42_method_152_code 7 = .ok (.getfield 15, 3) := by decide +kernel
theorem d14_10 : decode jdk_42_method_152_code 10 = .ok (.goto 4, 3) := by decide +kernel
theorem d14_14 : decode jdk_42_method_152_code 14 = .ok (.ireturn, 1) := by decide +kernel
set_option maxRecDepth 65536 in
set_option maxHeartbeats 40000000 in
theorem w14 {p : Program} {l : Launch} {e : Env} {s : State} {m : MethodId} {args : Array Value} {below : List Frame} {meth : Method} {c_ : Code} {T0 : State} {locs : List Loc} {Z : State} {a0 : Array Value} {h0 : Heap} {n0 : Nat} (b xb : Addr) (cs : Int32) (sf : Value) (xi xa : Addr)
    (X0 : Stand p l e ({ frames := 0, cells := 0, slots := 0, locals := 0 } : Room) s m args below meth c_ T0 locs 0 0) (hx : p.tables.exec = Jvm.exec) (hZ : Z.Warmed39 s.vm) (hw : ∀ d ∈ tables_1, d.before a0 Z = true) (hby : c_.code = jdk_42_method_152_code) (hml : c_.maxLocals = 1) (hown : s.vm.findClass "java/lang/String" = some m.cls) (hnm : meth.name = "coder") (hret : meth.sig.returnType = some .byte) (hlk : meth.locks = false) (e0 : T0.heap = h0) (Z0 : n0 ≤ h0.size) (N0 : Fr n0 locs) (E_b : Exa Z h0 b "java/lang/String") (F_value_b : Fld Z h0 b "java/lang/String" "value" "[B" (.ref xb)) (F_coder_b : Fld Z h0 b "java/lang/String" "coder" "B" (.int (0 : Int32))) (V_xb : Bv Z h0 xb (1 : Int32) (fun _ => (112 : Int32))) (hO : Ext Z.heap h0) (hJ : JS Z cs sf xi xa) :
    Go p e below s ({ frames := 0, cells := 0, slots := 0, locals := 0 } : Room).cells ({ frames := 0, cells := 0, slots := 0, locals := 0 } : Room).slots (fun r h L => r = (some (.int (0 : Int32))) ∧ Fr n0 L ∧ h = h0) T0 (mkF m 0 #[.val (.ref b)] []) := by
  have hJq := hJ
  obtain ⟨hCS, hcs, hSF, hsf, hIN, hXI, hAA, hA⟩ := hJq
  have S_CS := Sta.ext hO hCS
  show Go _ _ _ _ _ _ _ T0 (mkF m 0 #[.val (.ref b)] [])
  obtain ⟨T1, X1, e1, st1⟩ := getS (host := "") X0 hx hZ hown (hw _ (mI 46 rfl)) Via.refl e0 S_CS (g := (mkF m 0 #[.val (.ref b)] [])) rfl (hb hby d14_0)
  refine Go.step st1 ?_
  show Go _ _ _ _ _ _ _ T1 (mkF m 3 #[.val (.ref b)] [(.int cs)])
  refine Go.step (fun _ k => XS.ifNo X1.here hx rfl (hb hby d14_3) rfl ((if0 _ _).trans (feq hcs).1) k) ?_
  show Go _ _ _ _ _ _ _ T1 (mkF m 6 #[.val (.ref b)] [])
  refine Go.step (fun _ k => XS.aloadN X1.here hx rfl (hb hby d14_6) rfl rfl k) ?_
  show Go _ _ _ _ _ _ _ T1 (mkF m 7 #[.val (.ref b)] [(.ref b)])
  obtain ⟨T2, X2, e2, st2⟩ := getF X1 hx hZ hown (host := "") (Or.inl (hw _ (mI 47 rfl))) Via.refl e1 F_coder_b (g := (mkF m 7 #[.val (.ref b)] [(.ref b)])) rfl rfl (hb hby d14_7)
  refine Go.step st2 ?_
  show Go _ _ _ _ _ _ _ T2 (mkF m 10 #[.val (.ref b)] [(.int (0 : Int32))])
  refine Go.step (fun _ k => XS.goto X2.here hx rfl (pc0 := 10) (pc' := 14) rfl (hb hby d14_10) (by decide) (by decide) k) ?_
  show Go _ _ _ _ _ _ _ T2 (mkF m 14 #[.val (.ref b)] [(.int (0 : Int32))])
  refine Go.retW X2 hx hlk hret rfl (Or.inl ⟨rfl, Or.inr (Or.inr (Or.inl rfl)), _, rfl⟩) (hb hby d14_14) (by decide) (by decide) ?_
  try rw [e2]
  exact ⟨rfl, N0, rfl⟩
theorem pn_14 : plainFor (⟨"java/lang/String", "coder", "()B"⟩ : MethodName) = true := by decide +kernel
theorem ef_rm14 (m : MethodId) (b : Addr) : entryFrame m #[(.ref b)] 1 = mkF m 0 #[.val (.ref b)] [] := by first | (simp [entryFrame, mkF, argsToLocals, Value.category]; done) | rfl
theorem rm14 (l : Launch) (Z : State) (a0 : Array Value) (hw : ∀ d ∈ tables_1, d.before a0 Z = true) (b xb : Addr) (cs : Int32) (sf : Value) (xi xa : Addr) (h0 : Heap) (n0 : Nat) (Z0 : n0 ≤ h0.size) (E_b : Exa Z h0 b "java/lang/String") (F_value_b : Fld Z h0 b "java/lang/String" "value" "[B" (.ref xb)) (F_coder_b : Fld Z h0 b "java/lang/String" "coder" "B" (.int (0 : Int32))) (V_xb : Bv Z h0 xb (1 : Int32) (fun _ => (112 : Int32))) (hO : Ext Z.heap h0) (hJ : JS Z cs sf xi xa) :
    Con l Z (⟨"java/lang/String", "coder", "()B"⟩ : MethodName) jdk_42_method_152_code 1 (some .byte) ({ frames := 0, cells := 0, slots := 0, locals := 0 } : Room) #[(.ref b)] h0 (fun r h L => r = (some (.int (0 : Int32))) ∧ Fr n0 L ∧ h = h0) :=
  con_of pn_14 (fun p_ e_ s_ m_ b_ meth_ c_ T_ X_ hx hZ hby hml hown hnm hret hlk e0 => Go.cast (ef_rm14 m_ b) (w14 b xb cs sf xi xa X_ hx hZ hw hby hml hown hnm hret hlk e0 Z0 (Fr.nil n0) E_b F_value_b F_coder_b V_xb hO hJ))
theorem d13_0 : decode jdk_42_method_54_code 0 = .ok (.aload_n 0, 1) := by decide +kernel
theorem d13_1 : decode jdk_42_method_54_code 1 = .ok (.getfield 9, 3) := by decide +kernel
theorem d13_4 : decode jdk_42_method_54_code 4 = .ok (.arraylength, 1) := by decide +kernel
theorem d13_5 : decode jdk_42_method_54_code 5 = .ok (.aload_n 0, 1) := by decide +kernel
theorem d13_6 : decode jdk_42_method_54_code 6 = .ok (.invokevirtual 335, 3) := by decide +kernel
theorem pd_0 : parseMethodDescriptor "()B" = some ⟨[], some .byte⟩ := by decide +kernel
theorem d13_9 : decode jdk_42_method_54_code 9 = .ok (.ishr, 1) := by decide +kernel
theorem d13_10 : decode jdk_42_method_54_code 10 = .ok (.ireturn, 1) := by decide +kernel
set_option maxRecDepth 65536 in
set_option maxHeartbeats 40000000 in
theorem w13 {p : Program} {l : Launch} {e : Env} {s : State} {m : MethodId} {args : Array Value} {below : List Frame} {meth : Method} {c_ : Code} {T0 : State} {locs : List Loc} {Z : State} {a0 : Array Value} {h0 : Heap} {n0 : Nat} (b xb : Addr) (cs : Int32) (sf : Value) (xi xa : Addr)
    (X0 : Stand p l e ({ frames := 1, cells := 0, slots := 0, locals := 20 } : Room) s m args below meth c_ T0 locs 0 0) (hx : p.tables.exec = Jvm.exec) (hZ : Z.Warmed39 s.vm) (hw : ∀ d ∈ tables_1, d.before a0 Z = true) (hby : c_.code = jdk_42_method_54_code) (hml : c_.maxLocals = 1) (hown : s.vm.findClass "java/lang/String" = some m.cls) (hnm : meth.name = "length") (hret : meth.sig.returnType = some .int) (hlk : meth.locks = false) (e0 : T0.heap = h0) (Z0 : n0 ≤ h0.size) (N0 : Fr n0 locs) (E_b : Exa Z h0 b "java/lang/String") (F_value_b : Fld Z h0 b "java/lang/String" "value" "[B" (.ref xb)) (F_coder_b : Fld Z h0 b "java/lang/String" "coder" "B" (.int (0 : Int32))) (V_xb : Bv Z h0 xb (1 : Int32) (fun _ => (112 : Int32))) (hO : Ext Z.heap h0) (hJ : JS Z cs sf xi xa) :
    Go p e below s ({ frames := 1, cells := 0, slots := 0, locals := 20 } : Room).cells ({ frames := 1, cells := 0, slots := 0, locals := 20 } : Room).slots (fun r h L => r = (some (.int (1 : Int32))) ∧ Fr n0 L ∧ h = h0) T0 (mkF m 0 #[.val (.ref b)] []) := by
  show Go _ _ _ _ _ _ _ T0 (mkF m 0 #[.val (.ref b)] [])
  refine Go.step (fun _ k => XS.aloadN X0.here hx rfl (hb hby d13_0) rfl rfl k) ?_
  show Go _ _ _ _ _ _ _ T0 (mkF m 1 #[.val (.ref b)] [(.ref b)])
  obtain ⟨T1, X1, e1, st1⟩ := getF X0 hx hZ hown (host := "") (Or.inl (hw _ (mI 48 rfl))) Via.refl e0 F_value_b (g := (mkF m 1 #[.val (.ref b)] [(.ref b)])) rfl rfl (hb hby d13_1)
  refine Go.step st1 ?_
  show Go _ _ _ _ _ _ _ T1 (mkF m 4 #[.val (.ref b)] [(.ref xb)])
  refine Go.alen X1 hx hZ e1 V_xb (hb hby d13_4) ?_
  show Go _ _ _ _ _ _ _ T1 (mkF m 5 #[.val (.ref b)] [(.int (1 : Int32))])
  refine Go.step (fun _ k => XS.aloadN X1.here hx rfl (hb hby d13_5) rfl rfl k) ?_
  show Go _ _ _ _ _ _ _ T1 (mkF m 6 #[.val (.ref b)] [(.ref b), (.int (1 : Int32))])
  refine Go.callV X1 hx hZ (by rw [hml]; rfl) (y := (⟨"java/lang/String", "coder", "()B"⟩ : MethodName)) (z := (⟨"java/lang/String", "coder", "()B"⟩ : MethodName)) (a := b) (argsL := []) (rest := [(.int (1 : Int32))]) hown (hw _ (mI 74 rfl)) (hw _ (mI 75 rfl)) (notFace_of_selects (args := #[]) (mvT hZ (hw _ (mI 77 rfl)))) (hw _ (mI 77 rfl)) (hw _ (mI 76 rfl)) (hw _ (mI 9 rfl)) (hw _ (mI 78 rfl)) (by decide) (rm14 l Z a0 hw b xb cs sf xi xa h0 n0 Z0 E_b F_value_b F_coder_b V_xb hO hJ) e1 E_b (hb hby d13_6) (lenOf pd_0 rfl) rfl rfl (W := 1) (Nat.le_of_eq rfl) (by decide) (by decide) (by decide) (by decide) ?_
  intro v2 T2 L2 X2 Q2
  obtain ⟨rfl, N2q, hh2⟩ := Q2
  have N2 := Fr.app N0 N2q
  show Go _ _ _ _ _ _ _ T2 (mkF m 9 #[.val (.ref b)] [(.int (0 : Int32)), (.int (1 : Int32))])
  refine Go.step (fun _ k => XS.ishr X2.here hx rfl (hb hby d13_9) rfl k) ?_
  show Go _ _ _ _ _ _ _ T2 (mkF m 10 #[.val (.ref b)] [(.int (1 : Int32))])
  refine Go.retI X2 hx hlk hret (hb hby d13_10) (by decide) (by decide) ?_
  try rw [hh2]
  exact ⟨rfl, N2, rfl⟩
theorem pn_13 : plainFor (⟨"java/lang/String", "length", "()I"⟩ : MethodName) = true := by decide +kernel
theorem ef_rm13 (m : MethodId) (b : Addr) : entryFrame m #[(.ref b)] 1 = mkF m 0 #[.val (.ref b)] [] := by first | (simp [entryFrame, mkF, argsToLocals, Value.category]; done) | rfl
theorem rm13 (l : Launch) (Z : State) (a0 : Array Value) (hw : ∀ d ∈ tables_1, d.before a0 Z = true) (b xb : Addr) (cs : Int32) (sf : Value) (xi xa : Addr) (h0 : Heap) (n0 : Nat) (Z0 : n0 ≤ h0.size) (E_b : Exa Z h0 b "java/lang/String") (F_value_b : Fld Z h0 b "java/lang/String" "value" "[B" (.ref xb)) (F_coder_b : Fld Z h0 b "java/lang/String" "coder" "B" (.int (0 : Int32))) (V_xb : Bv Z h0 xb (1 : Int32) (fun _ => (112 : Int32))) (hO : Ext Z.heap h0) (hJ : JS Z cs sf xi xa) :
    Con l Z (⟨"java/lang/String", "length", "()I"⟩ : MethodName) jdk_42_method_54_code 1 (some .int) ({ frames := 1, cells := 0, slots := 0, locals := 20 } : Room) #[(.ref b)] h0 (fun r h L => r = (some (.int (1 : Int32))) ∧ Fr n0 L ∧ h = h0) :=
  con_of pn_13 (fun p_ e_ s_ m_ b_ meth_ c_ T_ X_ hx hZ hby hml hown hnm hret hlk e0 => Go.cast (ef_rm13 m_ b) (w13 b xb cs sf xi xa X_ hx hZ hw hby hml hown hnm hret hlk e0 Z0 (Fr.nil n0) E_b F_value_b F_coder_b V_xb hO hJ))
theorem d10_0 : decode jdk_43_method_44_code 0 = .ok (.aload_n 0, 1) := by decide +kernel
theorem d10_1 : decode jdk_43_method_44_code 1 = .ok (.iload_n 1, 1) := by decide +kernel
theorem d10_2 : decode jdk_43_method_44_code 2 = .ok (.baload, 1) := by decide +kernel
theorem d10_3 : decode jdk_43_method_44_code 3 = .ok (.sipush 255, 3) := by decide +kernel
theorem d10_6 : decode jdk_43_method_44_code 6 = .ok (.iand, 1) := by decide +kernel
theorem d10_7 : decode jdk_43_method_44_code 7 = .ok (.i2c, 1) := by decide +kernel
theorem d10_8 : decode jdk_43_method_44_code 8 = .ok (.ireturn, 1) := by decide +kernel
set_option maxRecDepth 65536 in
set_option maxHeartbeats 40000000 in
theorem w10 {p : Program} {l : Launch} {e : Env} {s : State} {m : MethodId} {args : Array Value} {below : List Frame} {meth : Method} {c_ : Code} {T0 : State} {locs : List Loc} {Z : State} {a0 : Array Value} {h0 : Heap} {n0 : Nat} (xb : Addr)
    (X0 : Stand p l e ({ frames := 0, cells := 0, slots := 0, locals := 0 } : Room) s m args below meth c_ T0 locs 0 0) (hx : p.tables.exec = Jvm.exec) (hZ : Z.Warmed39 s.vm) (hw : ∀ d ∈ tables_1, d.before a0 Z = true) (hby : c_.code = jdk_43_method_44_code) (hml : c_.maxLocals = 2) (hown : s.vm.findClass "java/lang/StringLatin1" = some m.cls) (hnm : meth.name = "getChar") (hret : meth.sig.returnType = some .char) (hlk : meth.locks = false) (e0 : T0.heap = h0) (Z0 : n0 ≤ h0.size) (N0 : Fr n0 locs) (V_xb : Bv Z h0 xb (1 : Int32) (fun _ => (112 : Int32))) :
    Go p e below s ({ frames := 0, cells := 0, slots := 0, locals := 0 } : Room).cells ({ frames := 0, cells := 0, slots := 0, locals := 0 } : Room).slots (fun r h L => r = (some (.int (112 : Int32))) ∧ Fr n0 L ∧ h = h0) T0 (mkF m 0 #[.val (.ref xb), .val (.int (0 : Int32))] []) := by
  show Go _ _ _ _ _ _ _ T0 (mkF m 0 #[.val (.ref xb), .val (.int (0 : Int32))] [])
  refine Go.step (fun _ k => XS.aloadN X0.here hx rfl (hb hby d10_0) rfl rfl k) ?_
  show Go _ _ _ _ _ _ _ T0 (mkF m 1 #[.val (.ref xb), .val (.int (0 : Int32))] [(.ref xb)])
  refine Go.step (fun _ k => XS.iloadN X0.here hx rfl (hb hby d10_1) rfl k) ?_
  show Go _ _ _ _ _ _ _ T0 (mkF m 2 #[.val (.ref xb), .val (.int (0 : Int32))] [(.int (0 : Int32)), (.ref xb)])
  refine Go.baloadB X0 hx hZ e0 V_xb (j := (0 : Int32)) (v := (112 : Int32)) (by decide) rfl (hb hby d10_2) ?_
  show Go _ _ _ _ _ _ _ T0 (mkF m 3 #[.val (.ref xb), .val (.int (0 : Int32))] [(.int (112 : Int32))])
  refine Go.step (fun _ k => XS.sipush X0.here hx rfl (hb hby d10_3) k) ?_
  show Go _ _ _ _ _ _ _ T0 (mkF m 6 #[.val (.ref xb), .val (.int (0 : Int32))] [(.int (255 : Int32)), (.int (112 : Int32))])
  refine Go.step (fun _ k => XS.iand X0.here hx rfl (hb hby d10_6) rfl k) ?_
  show Go _ _ _ _ _ _ _ T0 (mkF m 7 #[.val (.ref xb), .val (.int (0 : Int32))] [(.int (112 : Int32))])
  refine Go.step (fun _ k => XS.i2c X0.here hx rfl (hb hby d10_7) rfl k) ?_
  show Go _ _ _ _ _ _ _ T0 (mkF m 8 #[.val (.ref xb), .val (.int (0 : Int32))] [(.int (112 : Int32))])
  refine Go.retW X0 hx hlk hret rfl (Or.inl ⟨rfl, Or.inr (Or.inr (Or.inr (Or.inl rfl))), _, rfl⟩) (hb hby d10_8) (by decide) (by decide) ?_
  try rw [e0]
  exact ⟨rfl, N0, rfl⟩
theorem pn_10 : plainFor (⟨"java/lang/StringLatin1", "getChar", "([BI)C"⟩ : MethodName) = true := by decide +kernel
theorem ef_rm10 (m : MethodId) (xb : Addr) : entryFrame m #[(.ref xb), (.int (0 : Int32))] 2 = mkF m 0 #[.val (.ref xb), .val (.int (0 : Int32))] [] := by first | (simp [entryFrame, mkF, argsToLocals, Value.category]; done) | rfl
theorem rm10 (l : Launch) (Z : State) (a0 : Array Value) (hw : ∀ d ∈ tables_1, d.before a0 Z = true) (xb : Addr) (h0 : Heap) (n0 : Nat) (Z0 : n0 ≤ h0.size) (V_xb : Bv Z h0 xb (1 : Int32) (fun _ => (112 : Int32))) :
    Con l Z (⟨"java/lang/StringLatin1", "getChar", "([BI)C"⟩ : MethodName) jdk_43_method_44_code 2 (some .char) ({ frames := 0, cells := 0, slots := 0, locals := 0 } : Room) #[(.ref xb), (.int (0 : Int32))] h0 (fun r h L => r = (some (.int (112 : Int32))) ∧ Fr n0 L ∧ h = h0) :=
  con_of pn_10 (fun p_ e_ s_ m_ b_ meth_ c_ T_ X_ hx hZ hby hml hown hnm hret hlk e0 => Go.cast (ef_rm10 m_ xb) (w10 xb X_ hx hZ hw hby hml hown hnm hret hlk e0 Z0 (Fr.nil n0) V_xb))
theorem d12_0 : decode jdk_116_method_1_code 0 = .ok (.iload_n 1, 1) := by decide +kernel
theorem d12_1 : decode jdk_116_method_1_code 1 = .ok (.i2c, 1) := by decide +kernel
theorem d12_2 : decode jdk_116_method_1_code 2 = .ok (.istore_n 2, 1) := by decide +kernel
theorem d12_3 : decode jdk_116_method_1_code 3 = .ok (.getstatic 1, 3) := by decide +kernel
theorem d12_6 : decode jdk_116_method_1_code 6 = .ok (.iload_n 2, 1) := by decide +kernel
theorem d12_7 : decode jdk_116_method_1_code 7 = .ok (.iaload, 1) := by decide +kernel
theorem d12_8 : decode jdk_116_method_1_code 8 = .ok (.istore_n 3, 1) := by decide +kernel
theorem d12_9 : decode jdk_116_method_1_code 9 = .ok (.iload_n 3, 1) := by decide +kernel
theorem d12_10 : decode jdk_116_method_1_code 10 = .ok (.ireturn, 1) := by decide +kernel
set_option maxRecDepth 65536 in
set_option maxHeartbeats 40000000 in
theorem w12 {p : Program} {l : Launch} {e : Env} {s : State} {m : MethodId} {args : Array Value} {below : List Frame} {meth : Method} {c_ : Code} {T0 : State} {locs : List Loc} {Z : State} {a0 : Array Value} {h0 : Heap} {n0 : Nat} (xi : Addr) (cs : Int32) (sf : Value) (xa : Addr)
    (X0 : Stand p l e ({ frames := 0, cells := 0, slots := 0, locals := 0 } : Room) s m args below meth c_ T0 locs 0 0) (hx : p.tables.exec = Jvm.exec) (hZ : Z.Warmed39 s.vm) (hw : ∀ d ∈ tables_1, d.before a0 Z = true) (hby : c_.code = jdk_116_method_1_code) (hml : c_.maxLocals = 4) (hown : s.vm.findClass "java/lang/CharacterDataLatin1" = some m.cls) (hnm : meth.name = "getProperties") (hret : meth.sig.returnType = some .int) (hlk : meth.locks = false) (e0 : T0.heap = h0) (Z0 : n0 ≤ h0.size) (N0 : Fr n0 locs) (hO : Ext Z.heap h0) (hJ : JS Z cs sf xi xa) :
    Go p e below s ({ frames := 0, cells := 0, slots := 0, locals := 0 } : Room).cells ({ frames := 0, cells := 0, slots := 0, locals := 0 } : Room).slots (fun r h L => r = (some (.int (8486882 : Int32))) ∧ Fr n0 L ∧ h = h0) T0 (mkF m 0 #[.val (.ref xi), .val (.int (112 : Int32)), .unset, .unset] []) := by
  have hJq := hJ
  obtain ⟨hCS, hcs, hSF, hsf, hIN, hXI, hAA, hA⟩ := hJq
  have S_A := Sta.ext hO hAA
  have A_x : At112 Z h0 xa := by obtain ⟨c, A, r⟩ := hA; exact ⟨c, Arr.ext hO A, r⟩
  show Go _ _ _ _ _ _ _ T0 (mkF m 0 #[.val (.ref xi), .val (.int (112 : Int32)), .unset, .unset] [])
  refine Go.step (fun _ k => XS.iloadN X0.here hx rfl (hb hby d12_0) rfl k) ?_
  show Go _ _ _ _ _ _ _ T0 (mkF m 1 #[.val (.ref xi), .val (.int (112 : Int32)), .unset, .unset] [(.int (112 : Int32))])
  refine Go.step (fun _ k => XS.i2c X0.here hx rfl (hb hby d12_1) rfl k) ?_
  show Go _ _ _ _ _ _ _ T0 (mkF m 2 #[.val (.ref xi), .val (.int (112 : Int32)), .unset, .unset] [(.int (112 : Int32))])
  refine Go.step (fun _ k => XS.istoreN X0.here hx rfl (hb hby d12_2) rfl (l' := #[.val (.ref xi), .val (.int (112 : Int32)), .val (.int (112 : Int32)), .unset]) rfl k) ?_
  show Go _ _ _ _ _ _ _ T0 (mkF m 3 #[.val (.ref xi), .val (.int (112 : Int32)), .val (.int (112 : Int32)), .unset] [])
  obtain ⟨T1, X1, e1, st1⟩ := getS (host := "") X0 hx hZ hown (hw _ (mI 68 rfl)) Via.refl e0 S_A (g := (mkF m 3 #[.val (.ref xi), .val (.int (112 : Int32)), .val (.int (112 : Int32)), .unset] [])) rfl (hb hby d12_3)
  refine Go.step st1 ?_
  show Go _ _ _ _ _ _ _ T1 (mkF m 6 #[.val (.ref xi), .val (.int (112 : Int32)), .val (.int (112 : Int32)), .unset] [(.ref xa)])
  refine Go.step (fun _ k => XS.iloadN X1.here hx rfl (hb hby d12_6) rfl k) ?_
  show Go _ _ _ _ _ _ _ T1 (mkF m 7 #[.val (.ref xi), .val (.int (112 : Int32)), .val (.int (112 : Int32)), .unset] [(.int (112 : Int32)), (.ref xa)])
  refine Go.ial1 X1 hx hZ e1 A_x (hb hby d12_7) ?_
  show Go _ _ _ _ _ _ _ T1 (mkF m 8 #[.val (.ref xi), .val (.int (112 : Int32)), .val (.int (112 : Int32)), .unset] [(.int (8486882 : Int32))])
  refine Go.step (fun _ k => XS.istoreN X1.here hx rfl (hb hby d12_8) rfl (l' := #[.val (.ref xi), .val (.int (112 : Int32)), .val (.int (112 : Int32)), .val (.int (8486882 : Int32))]) rfl k) ?_
  show Go _ _ _ _ _ _ _ T1 (mkF m 9 #[.val (.ref xi), .val (.int (112 : Int32)), .val (.int (112 : Int32)), .val (.int (8486882 : Int32))] [])
  refine Go.step (fun _ k => XS.iloadN X1.here hx rfl (hb hby d12_9) rfl k) ?_
  show Go _ _ _ _ _ _ _ T1 (mkF m 10 #[.val (.ref xi), .val (.int (112 : Int32)), .val (.int (112 : Int32)), .val (.int (8486882 : Int32))] [(.int (8486882 : Int32))])
  refine Go.retI X1 hx hlk hret (hb hby d12_10) (by decide) (by decide) ?_
  try rw [e1]
  exact ⟨rfl, N0, rfl⟩
theorem pn_12 : plainFor (⟨"java/lang/CharacterDataLatin1", "getProperties", "(I)I"⟩ : MethodName) = true := by decide +kernel
theorem ef_rm12 (m : MethodId) (xi : Addr) : entryFrame m #[(.ref xi), (.int (112 : Int32))] 4 = mkF m 0 #[.val (.ref xi), .val (.int (112 : Int32)), .unset, .unset] [] := by first | (simp [entryFrame, mkF, argsToLocals, Value.category]; done) | rfl
theorem rm12 (l : Launch) (Z : State) (a0 : Array Value) (hw : ∀ d ∈ tables_1, d.before a0 Z = true) (xi : Addr) (cs : Int32) (sf : Value) (xa : Addr) (h0 : Heap) (n0 : Nat) (Z0 : n0 ≤ h0.size) (hO : Ext Z.heap h0) (hJ : JS Z cs sf xi xa) :
    Con l Z (⟨"java/lang/CharacterDataLatin1", "getProperties", "(I)I"⟩ : MethodName) jdk_116_method_1_code 4 (some .int) ({ frames := 0, cells := 0, slots := 0, locals := 0 } : Room) #[(.ref xi), (.int (112 : Int32))] h0 (fun r h L => r = (some (.int (8486882 : Int32))) ∧ Fr n0 L ∧ h = h0) :=
  con_of pn_12 (fun p_ e_ s_ m_ b_ meth_ c_ T_ X_ hx hZ hby hml hown hnm hret hlk e0 => Go.cast (ef_rm12 m_ xi) (w12 xi cs sf xa X_ hx hZ hw hby hml hown hnm hret hlk e0 Z0 (Fr.nil n0) hO hJ))
theorem d11_0 : decode jdk_116_method_26_code 0 = .ok (.aload_n 0, 1) := by decide +kernel
theorem d11_1 : decode jdk_116_method_26_code 1 = .ok (.iload_n 1, 1) := by decide +kernel
theorem d11_2 : decode jdk_116_method_26_code 2 = .ok (.invokevirtual 15, 3) := by decide +kernel
theorem pd_1 : parseMethodDescriptor "(I)I" = some ⟨[.int], some .int⟩ := by decide +kernel
theorem d11_5 : decode jdk_116_method_26_code 5 = .ok (.istore_n 2, 1) := by decide +kernel
theorem d11_6 : decode jdk_116_method_26_code 6 = .ok (.iload_n 2, 1) := by decide +kernel
theorem d11_7 : decode jdk_116_method_26_code 7 = .ok (.sipush 28672, 3) := by decide +kernel
theorem d11_10 : decode jdk_116_method_26_code 10 = .ok (.iand, 1) := by decide +kernel
theorem d11_11 : decode jdk_116_method_26_code 11 = .ok (.sipush 16384, 3) := by decide +kernel
theorem d11_14 : decode jdk_116_method_26_code 14 = .ok (.if_icmp .ne 7, 3) := by decide +kernel
theorem d11_21 : decode jdk_116_method_26_code 21 = .ok (.iconst 0, 1) := by decide +kernel
theorem d11_22 : decode jdk_116_method_26_code 22 = .ok (.ireturn, 1) := by decide +kernel
set_option maxRecDepth 65536 in
set_option maxHeartbeats 40000000 in
theorem w11 {p : Program} {l : Launch} {e : Env} {s : State} {m : MethodId} {args : Array Value} {below : List Frame} {meth : Method} {c_ : Code} {T0 : State} {locs : List Loc} {Z : State} {a0 : Array Value} {h0 : Heap} {n0 : Nat} (xi : Addr) (cs : Int32) (sf : Value) (xa : Addr)
    (X0 : Stand p l e ({ frames := 1, cells := 0, slots := 0, locals := 20 } : Room) s m args below meth c_ T0 locs 0 0) (hx : p.tables.exec = Jvm.exec) (hZ : Z.Warmed39 s.vm) (hw : ∀ d ∈ tables_1, d.before a0 Z = true) (hby : c_.code = jdk_116_method_26_code) (hml : c_.maxLocals = 3) (hown : s.vm.findClass "java/lang/CharacterDataLatin1" = some m.cls) (hnm : meth.name = "isWhitespace") (hret : meth.sig.returnType = some .boolean) (hlk : meth.locks = false) (e0 : T0.heap = h0) (Z0 : n0 ≤ h0.size) (N0 : Fr n0 locs) (hO : Ext Z.heap h0) (hJ : JS Z cs sf xi xa) :
    Go p e below s ({ frames := 1, cells := 0, slots := 0, locals := 20 } : Room).cells ({ frames := 1, cells := 0, slots := 0, locals := 20 } : Room).slots (fun r h L => r = (some (.int (0 : Int32))) ∧ Fr n0 L ∧ h = h0) T0 (mkF m 0 #[.val (.ref xi), .val (.int (112 : Int32)), .unset] []) := by
  have hJq := hJ
  obtain ⟨hCS, hcs, hSF, hsf, hIN, hXI, hAA, hA⟩ := hJq
  have E_xi := Exa.ext hO hXI
  show Go _ _ _ _ _ _ _ T0 (mkF m 0 #[.val (.ref xi), .val (.int (112 : Int32)), .unset] [])
  refine Go.step (fun _ k => XS.aloadN X0.here hx rfl (hb hby d11_0) rfl rfl k) ?_
  show Go _ _ _ _ _ _ _ T0 (mkF m 1 #[.val (.ref xi), .val (.int (112 : Int32)), .unset] [(.ref xi)])
  refine Go.step (fun _ k => XS.iloadN X0.here hx rfl (hb hby d11_1) rfl k) ?_
  show Go _ _ _ _ _ _ _ T0 (mkF m 2 #[.val (.ref xi), .val (.int (112 : Int32)), .unset] [(.int (112 : Int32)), (.ref xi)])
  refine Go.callV X0 hx hZ (by rw [hml]; rfl) (y := (⟨"java/lang/CharacterDataLatin1", "getProperties", "(I)I"⟩ : MethodName)) (z := (⟨"java/lang/CharacterDataLatin1", "getProperties", "(I)I"⟩ : MethodName)) (a := xi) (argsL := [(.int (112 : Int32))]) (rest := []) hown (hw _ (mI 63 rfl)) (hw _ (mI 64 rfl)) (notFace_of_selects (args := #[]) (mvT hZ (hw _ (mI 66 rfl)))) (hw _ (mI 66 rfl)) (hw _ (mI 65 rfl)) (hw _ (mI 57 rfl)) (hw _ (mI 67 rfl)) (by decide) (rm12 l Z a0 hw xi cs sf xa h0 n0 Z0 hO hJ) e0 E_xi (hb hby d11_2) (lenOf pd_1 rfl) rfl rfl (W := 0) (Nat.le_of_eq rfl) (by decide) (by decide) (by decide) (by decide) ?_
  intro v1 T1 L1 X1 Q1
  obtain ⟨rfl, N1q, hh1⟩ := Q1
  have N1 := Fr.app N0 N1q
  show Go _ _ _ _ _ _ _ T1 (mkF m 5 #[.val (.ref xi), .val (.int (112 : Int32)), .unset] [(.int (8486882 : Int32))])
  refine Go.step (fun _ k => XS.istoreN X1.here hx rfl (hb hby d11_5) rfl (l' := #[.val (.ref xi), .val (.int (112 : Int32)), .val (.int (8486882 : Int32))]) rfl k) ?_
  show Go _ _ _ _ _ _ _ T1 (mkF m 6 #[.val (.ref xi), .val (.int (112 : Int32)), .val (.int (8486882 : Int32))] [])
  refine Go.step (fun _ k => XS.iloadN X1.here hx rfl (hb hby d11_6) rfl k) ?_
  show Go _ _ _ _ _ _ _ T1 (mkF m 7 #[.val (.ref xi), .val (.int (112 : Int32)), .val (.int (8486882 : Int32))] [(.int (8486882 : Int32))])
  refine Go.step (fun _ k => XS.sipush X1.here hx rfl (hb hby d11_7) k) ?_
  show Go _ _ _ _ _ _ _ T1 (mkF m 10 #[.val (.ref xi), .val (.int (112 : Int32)), .val (.int (8486882 : Int32))] [(.int (28672 : Int32)), (.int (8486882 : Int32))])
  refine Go.step (fun _ k => XS.iand X1.here hx rfl (hb hby d11_10) rfl k) ?_
  show Go _ _ _ _ _ _ _ T1 (mkF m 11 #[.val (.ref xi), .val (.int (112 : Int32)), .val (.int (8486882 : Int32))] [(.int (28672 : Int32))])
  refine Go.step (fun _ k => XS.sipush X1.here hx rfl (hb hby d11_11) k) ?_
  show Go _ _ _ _ _ _ _ T1 (mkF m 14 #[.val (.ref xi), .val (.int (112 : Int32)), .val (.int (8486882 : Int32))] [(.int (16384 : Int32)), (.int (28672 : Int32))])
  refine Go.step (fun _ k => XS.icmpYes X1.here hx rfl (pc0 := 14) (pc' := 21) rfl (hb hby d11_14) rfl (feq (by decide : ¬ ((28672 : Int32) = (16384 : Int32)))).2 (by decide) (by decide) k) ?_
  show Go _ _ _ _ _ _ _ T1 (mkF m 21 #[.val (.ref xi), .val (.int (112 : Int32)), .val (.int (8486882 : Int32))] [])
  refine Go.step (fun _ k => XS.iconst X1.here hx rfl (hb hby d11_21) k) ?_
  show Go _ _ _ _ _ _ _ T1 (mkF m 22 #[.val (.ref xi), .val (.int (112 : Int32)), .val (.int (8486882 : Int32))] [(.int (0 : Int32))])
  refine Go.retZ X1 hx hlk hret (by decide) (hb hby d11_22) (by decide) (by decide) ?_
  try rw [hh1]
  exact ⟨rfl, N1, rfl⟩
theorem pn_11 : plainFor (⟨"java/lang/CharacterDataLatin1", "isWhitespace", "(I)Z"⟩ : MethodName) = true := by decide +kernel
theorem ef_rm11 (m : MethodId) (xi : Addr) : entryFrame m #[(.ref xi), (.int (112 : Int32))] 3 = mkF m 0 #[.val (.ref xi), .val (.int (112 : Int32)), .unset] [] := by first | (simp [entryFrame, mkF, argsToLocals, Value.category]; done) | rfl
theorem rm11 (l : Launch) (Z : State) (a0 : Array Value) (hw : ∀ d ∈ tables_1, d.before a0 Z = true) (xi : Addr) (cs : Int32) (sf : Value) (xa : Addr) (h0 : Heap) (n0 : Nat) (Z0 : n0 ≤ h0.size) (hO : Ext Z.heap h0) (hJ : JS Z cs sf xi xa) :
    Con l Z (⟨"java/lang/CharacterDataLatin1", "isWhitespace", "(I)Z"⟩ : MethodName) jdk_116_method_26_code 3 (some .boolean) ({ frames := 1, cells := 0, slots := 0, locals := 20 } : Room) #[(.ref xi), (.int (112 : Int32))] h0 (fun r h L => r = (some (.int (0 : Int32))) ∧ Fr n0 L ∧ h = h0) :=
  con_of pn_11 (fun p_ e_ s_ m_ b_ meth_ c_ T_ X_ hx hZ hby hml hown hnm hret hlk e0 => Go.cast (ef_rm11 m_ xi) (w11 xi cs sf xa X_ hx hZ hw hby hml hown hnm hret hlk e0 Z0 (Fr.nil n0) hO hJ))
theorem d9_0 : decode jdk_43_method_37_code 0 = .ok (.aload_n 0, 1) := by decide +kernel
theorem d9_1 : decode jdk_43_method_37_code 1 = .ok (.arraylength, 1) := by decide +kernel
theorem d9_2 : decode jdk_43_method_37_code 2 = .ok (.istore_n 1, 1) := by decide +kernel
theorem d9_3 : decode jdk_43_method_37_code 3 = .ok (.iconst 0, 1) := by decide +kernel
theorem d9_4 : decode jdk_43_method_37_code 4 = .ok (.istore_n 2, 1) := by decide +kernel
theorem d9_5 : decode jdk_43_method_37_code 5 = .ok (.iload_n 2, 1) := by decide +kernel
theorem d9_6 : decode jdk_43_method_37_code 6 = .ok (.iload_n 1, 1) := by decide +kernel
theorem d9_7 : decode jdk_43_method_37_code 7 = .ok (.if_icmp .ge 40, 3) := by decide +kernel
theorem d9_10 : decode jdk_43_method_37_code 10 = .ok (.aload_n 0, 1) := by decide +kernel
theorem d9_11 : decode jdk_43_method_37_code 11 = .ok (.iload_n 2, 1) := by decide +kernel
theorem d9_12 : decode jdk_43_method_37_code 12 = .ok (.invokestatic 50, 3) := by decide +kernel
theorem pd_2 : parseMethodDescriptor "([BI)C" = some ⟨[(.array .byte), .int], some .char⟩ := by decide +kernel
theorem d9_15 : decode jdk_43_method_37_code 15 = .ok (.istore_n 3, 1) := by decide +kernel
theorem d9_16 : decode jdk_43_method_37_code 16 = .ok (.iload_n 3, 1) := by decide +kernel
theorem d9_17 : decode jdk_43_method_37_code 17 = .ok (.bipush 32, 2) := by decide +kernel
theorem d9_19 : decode jdk_43_method_37_code 19 = .ok (.if_icmp .eq 22, 3) := by decide +kernel
theorem d9_22 : decode jdk_43_method_37_code 22 = .ok (.iload_n 3, 1) := by decide +kernel
theorem d9_23 : decode jdk_43_method_37_code 23 = .ok (.bipush 9, 2) := by decide +kernel
theorem d9_25 : decode jdk_43_method_37_code 25 = .ok (.if_icmp .eq 16, 3) := by decide +kernel
theorem d9_28 : decode jdk_43_method_37_code 28 = .ok (.getstatic 66, 3) := by decide +kernel
theorem d9_31 : decode jdk_43_method_37_code 31 = .ok (.iload_n 3, 1) := by decide +kernel
theorem d9_32 : decode jdk_43_method_37_code 32 = .ok (.invokevirtual 211, 3) := by decide +kernel
theorem pd_3 : parseMethodDescriptor "(I)Z" = some ⟨[.int], some .boolean⟩ := by decide +kernel
theorem d9_35 : decode jdk_43_method_37_code 35 = .ok (.ifCond .ne 6, 3) := by decide +kernel
theorem d9_38 : decode jdk_43_method_37_code 38 = .ok (.goto 9, 3) := by decide +kernel
theorem d9_47 : decode jdk_43_method_37_code 47 = .ok (.iload_n 2, 1) := by decide +kernel
theorem d9_48 : decode jdk_43_method_37_code 48 = .ok (.ireturn, 1) := by decide +kernel
set_option maxRecDepth 65536 in
set_option maxHeartbeats 40000000 in
theorem w9 {p : Program} {l : Launch} {e : Env} {s : State} {m : MethodId} {args : Array Value} {below : List Frame} {meth : Method} {c_ : Code} {T0 : State} {locs : List Loc} {Z : State} {a0 : Array Value} {h0 : Heap} {n0 : Nat} (xb : Addr) (cs : Int32) (sf : Value) (xi xa : Addr)
    (X0 : Stand p l e ({ frames := 2, cells := 0, slots := 0, locals := 40 } : Room) s m args below meth c_ T0 locs 0 0) (hx : p.tables.exec = Jvm.exec) (hZ : Z.Warmed39 s.vm) (hw : ∀ d ∈ tables_1, d.before a0 Z = true) (hby : c_.code = jdk_43_method_37_code) (hml : c_.maxLocals = 4) (hown : s.vm.findClass "java/lang/StringLatin1" = some m.cls) (hnm : meth.name = "indexOfNonWhitespace") (hret : meth.sig.returnType = some .int) (hlk : meth.locks = false) (e0 : T0.heap = h0) (Z0 : n0 ≤ h0.size) (N0 : Fr n0 locs) (V_xb : Bv Z h0 xb (1 : Int32) (fun _ => (112 : Int32))) (hO : Ext Z.heap h0) (hJ : JS Z cs sf xi xa) :
    Go p e below s ({ frames := 2, cells := 0, slots := 0, locals := 40 } : Room).cells ({ frames := 2, cells := 0, slots := 0, locals := 40 } : Room).slots (fun r h L => r = (some (.int (0 : Int32))) ∧ Fr n0 L ∧ h = h0) T0 (mkF m 0 #[.val (.ref xb), .unset, .unset, .unset] []) := by
  have hJq := hJ
  obtain ⟨hCS, hcs, hSF, hsf, hIN, hXI, hAA, hA⟩ := hJq
  have E_xi := Exa.ext hO hXI
  have S_IN := Sta.ext hO hIN
  show Go _ _ _ _ _ _ _ T0 (mkF m 0 #[.val (.ref xb), .unset, .unset, .unset] [])
  refine Go.step (fun _ k => XS.aloadN X0.here hx rfl (hb hby d9_0) rfl rfl k) ?_
  show Go _ _ _ _ _ _ _ T0 (mkF m 1 #[.val (.ref xb), .unset, .unset, .unset] [(.ref xb)])
  refine Go.alen X0 hx hZ e0 V_xb (hb hby d9_1) ?_
  show Go _ _ _ _ _ _ _ T0 (mkF m 2 #[.val (.ref xb), .unset, .unset, .unset] [(.int (1 : Int32))])
  refine Go.step (fun _ k => XS.istoreN X0.here hx rfl (hb hby d9_2) rfl (l' := #[.val (.ref xb), .val (.int (1 : Int32)), .unset, .unset]) rfl k) ?_
  show Go _ _ _ _ _ _ _ T0 (mkF m 3 #[.val (.ref xb), .val (.int (1 : Int32)), .unset, .unset] [])
  refine Go.step (fun _ k => XS.iconst X0.here hx rfl (hb hby d9_3) k) ?_
  show Go _ _ _ _ _ _ _ T0 (mkF m 4 #[.val (.ref xb), .val (.int (1 : Int32)), .unset, .unset] [(.int (0 : Int32))])
  refine Go.step (fun _ k => XS.istoreN X0.here hx rfl (hb hby d9_4) rfl (l' := #[.val (.ref xb), .val (.int (1 : Int32)), .val (.int (0 : Int32)), .unset]) rfl k) ?_
  show Go _ _ _ _ _ _ _ T0 (mkF m 5 #[.val (.ref xb), .val (.int (1 : Int32)), .val (.int (0 : Int32)), .unset] [])
  refine Go.step (fun _ k => XS.iloadN X0.here hx rfl (hb hby d9_5) rfl k) ?_
  show Go _ _ _ _ _ _ _ T0 (mkF m 6 #[.val (.ref xb), .val (.int (1 : Int32)), .val (.int (0 : Int32)), .unset] [(.int (0 : Int32))])
  refine Go.step (fun _ k => XS.iloadN X0.here hx rfl (hb hby d9_6) rfl k) ?_
  show Go _ _ _ _ _ _ _ T0 (mkF m 7 #[.val (.ref xb), .val (.int (1 : Int32)), .val (.int (0 : Int32)), .unset] [(.int (1 : Int32)), (.int (0 : Int32))])
  refine Go.step (fun _ k => XS.icmpNo X0.here hx rfl (hb hby d9_7) rfl (tlt (by decide : (0 : Int32) < (1 : Int32))).2.1 k) ?_
  show Go _ _ _ _ _ _ _ T0 (mkF m 10 #[.val (.ref xb), .val (.int (1 : Int32)), .val (.int (0 : Int32)), .unset] [])
  refine Go.step (fun _ k => XS.aloadN X0.here hx rfl (hb hby d9_10) rfl rfl k) ?_
  show Go _ _ _ _ _ _ _ T0 (mkF m 11 #[.val (.ref xb), .val (.int (1 : Int32)), .val (.int (0 : Int32)), .unset] [(.ref xb)])
  refine Go.step (fun _ k => XS.iloadN X0.here hx rfl (hb hby d9_11) rfl k) ?_
  show Go _ _ _ _ _ _ _ T0 (mkF m 12 #[.val (.ref xb), .val (.int (1 : Int32)), .val (.int (0 : Int32)), .unset] [(.int (0 : Int32)), (.ref xb)])
  refine Go.callS X0 hx hZ (by rw [hml]; rfl) (y := (⟨"java/lang/StringLatin1", "getChar", "([BI)C"⟩ : MethodName)) (argsL := [(.ref xb), (.int (0 : Int32))]) (rest := []) hown (hw _ (mI 53 rfl)) (hw _ (mI 54 rfl)) (hw _ (mI 51 rfl)) (hw _ (mI 55 rfl)) (by decide) (rm10 l Z a0 hw xb h0 n0 Z0 V_xb) e0 (hb hby d9_12) (lenOf pd_2 rfl) rfl rfl (W := 0) (Nat.le_of_eq rfl) (by decide) (by decide) (by decide) (by decide) ?_
  intro v1 T1 L1 X1 Q1
  obtain ⟨rfl, N1q, hh1⟩ := Q1
  have N1 := Fr.app N0 N1q
  show Go _ _ _ _ _ _ _ T1 (mkF m 15 #[.val (.ref xb), .val (.int (1 : Int32)), .val (.int (0 : Int32)), .unset] [(.int (112 : Int32))])
  refine Go.step (fun _ k => XS.istoreN X1.here hx rfl (hb hby d9_15) rfl (l' := #[.val (.ref xb), .val (.int (1 : Int32)), .val (.int (0 : Int32)), .val (.int (112 : Int32))]) rfl k) ?_
  show Go _ _ _ _ _ _ _ T1 (mkF m 16 #[.val (.ref xb), .val (.int (1 : Int32)), .val (.int (0 : Int32)), .val (.int (112 : Int32))] [])
  refine Go.step (fun _ k => XS.iloadN X1.here hx rfl (hb hby d9_16) rfl k) ?_
  show Go _ _ _ _ _ _ _ T1 (mkF m 17 #[.val (.ref xb), .val (.int (1 : Int32)), .val (.int (0 : Int32)), .val (.int (112 : Int32))] [(.int (112 : Int32))])
  refine Go.step (fun _ k => XS.bipush X1.here hx rfl (hb hby d9_17) k) ?_
  show Go _ _ _ _ _ _ _ T1 (mkF m 19 #[.val (.ref xb), .val (.int (1 : Int32)), .val (.int (0 : Int32)), .val (.int (112 : Int32))] [(.int (32 : Int32)), (.int (112 : Int32))])
  refine Go.step (fun _ k => XS.icmpNo X1.here hx rfl (hb hby d9_19) rfl (feq (by decide : ¬ ((112 : Int32) = (32 : Int32)))).1 k) ?_
  show Go _ _ _ _ _ _ _ T1 (mkF m 22 #[.val (.ref xb), .val (.int (1 : Int32)), .val (.int (0 : Int32)), .val (.int (112 : Int32))] [])
  refine Go.step (fun _ k => XS.iloadN X1.here hx rfl (hb hby d9_22) rfl k) ?_
  show Go _ _ _ _ _ _ _ T1 (mkF m 23 #[.val (.ref xb), .val (.int (1 : Int32)), .val (.int (0 : Int32)), .val (.int (112 : Int32))] [(.int (112 : Int32))])
  refine Go.step (fun _ k => XS.bipush X1.here hx rfl (hb hby d9_23) k) ?_
  show Go _ _ _ _ _ _ _ T1 (mkF m 25 #[.val (.ref xb), .val (.int (1 : Int32)), .val (.int (0 : Int32)), .val (.int (112 : Int32))] [(.int (9 : Int32)), (.int (112 : Int32))])
  refine Go.step (fun _ k => XS.icmpNo X1.here hx rfl (hb hby d9_25) rfl (feq (by decide : ¬ ((112 : Int32) = (9 : Int32)))).1 k) ?_
  show Go _ _ _ _ _ _ _ T1 (mkF m 28 #[.val (.ref xb), .val (.int (1 : Int32)), .val (.int (0 : Int32)), .val (.int (112 : Int32))] [])
  obtain ⟨T2, X2, e2, st2⟩ := getS (host := "") X1 hx hZ hown (hw _ (mI 56 rfl)) Via.refl hh1 S_IN (g := (mkF m 28 #[.val (.ref xb), .val (.int (1 : Int32)), .val (.int (0 : Int32)), .val (.int (112 : Int32))] [])) rfl (hb hby d9_28)
  refine Go.step st2 ?_
  show Go _ _ _ _ _ _ _ T2 (mkF m 31 #[.val (.ref xb), .val (.int (1 : Int32)), .val (.int (0 : Int32)), .val (.int (112 : Int32))] [(.ref xi)])
  refine Go.step (fun _ k => XS.iloadN X2.here hx rfl (hb hby d9_31) rfl k) ?_
  show Go _ _ _ _ _ _ _ T2 (mkF m 32 #[.val (.ref xb), .val (.int (1 : Int32)), .val (.int (0 : Int32)), .val (.int (112 : Int32))] [(.int (112 : Int32)), (.ref xi)])
  refine Go.callV X2 hx hZ (by rw [hml]; rfl) (y := (⟨"java/lang/CharacterDataLatin1", "isWhitespace", "(I)Z"⟩ : MethodName)) (z := (⟨"java/lang/CharacterDataLatin1", "isWhitespace", "(I)Z"⟩ : MethodName)) (a := xi) (argsL := [(.int (112 : Int32))]) (rest := []) hown (hw _ (mI 58 rfl)) (hw _ (mI 59 rfl)) (notFace_of_selects (args := #[]) (mvT hZ (hw _ (mI 61 rfl)))) (hw _ (mI 61 rfl)) (hw _ (mI 60 rfl)) (hw _ (mI 57 rfl)) (hw _ (mI 62 rfl)) (by decide) (rm11 l Z a0 hw xi cs sf xa h0 n0 Z0 hO hJ) e2 E_xi (hb hby d9_32) (lenOf pd_3 rfl) rfl rfl (W := 0) (Nat.le_of_eq rfl) (by decide) (by decide) (by decide) (by decide) ?_
  intro v3 T3 L3 X3 Q3
  obtain ⟨rfl, N3q, hh3⟩ := Q3
  have N3 := Fr.app N1 N3q
  show Go _ _ _ _ _ _ _ T3 (mkF m 35 #[.val (.ref xb), .val (.int (1 : Int32)), .val (.int (0 : Int32)), .val (.int (112 : Int32))] [(.int (0 : Int32))])
  refine Go.step (fun _ k => XS.ifNo X3.here hx rfl (hb hby d9_35) rfl ((if0 _ _).trans (teq (by decide : (0 : Int32) = (0 : Int32))).2) k) ?_
  show Go _ _ _ _ _ _ _ T3 (mkF m 38 #[.val (.ref xb), .val (.int (1 : Int32)), .val (.int (0 : Int32)), .val (.int (112 : Int32))] [])
  refine Go.step (fun _ k => XS.goto X3.here hx rfl (pc0 := 38) (pc' := 47) rfl (hb hby d9_38) (by decide) (by decide) k) ?_
  show Go _ _ _ _ _ _ _ T3 (mkF m 47 #[.val (.ref xb), .val (.int (1 : Int32)), .val (.int (0 : Int32)), .val (.int (112 : Int32))] [])
  refine Go.step (fun _ k => XS.iloadN X3.here hx rfl (hb hby d9_47) rfl k) ?_
  show Go _ _ _ _ _ _ _ T3 (mkF m 48 #[.val (.ref xb), .val (.int (1 : Int32)), .val (.int (0 : Int32)), .val (.int (112 : Int32))] [(.int (0 : Int32))])
  refine Go.retI X3 hx hlk hret (hb hby d9_48) (by decide) (by decide) ?_
  try rw [hh3]
  exact ⟨rfl, N3, rfl⟩
theorem pn_9 : plainFor (⟨"java/lang/StringLatin1", "indexOfNonWhitespace", "([B)I"⟩ : MethodName) = true := by decide +kernel
theorem ef_rm9 (m : MethodId) (xb : Addr) : entryFrame m #[(.ref xb)] 4 = mkF m 0 #[.val (.ref xb), .unset, .unset, .unset] [] := by first | (simp [entryFrame, mkF, argsToLocals, Value.category]; done) | rfl
theorem rm9 (l : Launch) (Z : State) (a0 : Array Value) (hw : ∀ d ∈ tables_1, d.before a0 Z = true) (xb : Addr) (cs : Int32) (sf : Value) (xi xa : Addr) (h0 : Heap) (n0 : Nat) (Z0 : n0 ≤ h0.size) (V_xb : Bv Z h0 xb (1 : Int32) (fun _ => (112 : Int32))) (hO : Ext Z.heap h0) (hJ : JS Z cs sf xi xa) :
    Con l Z (⟨"java/lang/StringLatin1", "indexOfNonWhitespace", "([B)I"⟩ : MethodName) jdk_43_method_37_code 4 (some .int) ({ frames := 2, cells := 0, slots := 0, locals := 40 } : Room) #[(.ref xb)] h0 (fun r h L => r = (some (.int (0 : Int32))) ∧ Fr n0 L ∧ h = h0) :=
  con_of pn_9 (fun p_ e_ s_ m_ b_ meth_ c_ T_ X_ hx hZ hby hml hown hnm hret hlk e0 => Go.cast (ef_rm9 m_ xb) (w9 xb cs sf xi xa X_ hx hZ hw hby hml hown hnm hret hlk e0 Z0 (Fr.nil n0) V_xb hO hJ))
theorem d7_0 : decode jdk_42_method_120_code 0 = .ok (.aload_n 0, 1) := by decide +kernel
theorem d7_1 : decode jdk_42_method_120_code 1 = .ok (.invokevirtual 492, 3) := by decide +kernel
theorem pd_4 : parseMethodDescriptor "()Z" = some ⟨[], some .boolean⟩ := by decide +kernel
theorem d7_4 : decode jdk_42_method_120_code 4 = .ok (.ifCond .eq 13, 3) := by decide +kernel
theorem d7_7 : decode jdk_42_method_120_code 7 = .ok (.aload_n 0, 1) := by decide +kernel
theorem d7_8 : decode jdk_42_method_120_code 8 = .ok (.getfield 9, 3) := by decide +kernel
theorem d7_11 : decode jdk_42_method_120_code 11 = .ok (.invokestatic 924, 3) := by decide +kernel
theorem pd_5 : parseMethodDescriptor "([B)I" = some ⟨[(.array .byte)], some .int⟩ := by decide +kernel
theorem d7_14 : decode jdk_42_method_120_code 14 = .ok (.goto 10, 3) := by decide +kernel
theorem d7_24 : decode jdk_42_method_120_code 24 = .ok (.ireturn, 1) := by decide +kernel
set_option maxRecDepth 65536 in
set_option maxHeartbeats 40000000 in
theorem w7 {p : Program} {l : Launch} {e : Env} {s : State} {m : MethodId} {args : Array Value} {below : List Frame} {meth : Method} {c_ : Code} {T0 : State} {locs : List Loc} {Z : State} {a0 : Array Value} {h0 : Heap} {n0 : Nat} (b xb : Addr) (cs : Int32) (sf : Value) (xi xa : Addr)
    (X0 : Stand p l e ({ frames := 3, cells := 0, slots := 0, locals := 60 } : Room) s m args below meth c_ T0 locs 0 0) (hx : p.tables.exec = Jvm.exec) (hZ : Z.Warmed39 s.vm) (hw : ∀ d ∈ tables_1, d.before a0 Z = true) (hby : c_.code = jdk_42_method_120_code) (hml : c_.maxLocals = 1) (hown : s.vm.findClass "java/lang/String" = some m.cls) (hnm : meth.name = "indexOfNonWhitespace") (hret : meth.sig.returnType = some .int) (hlk : meth.locks = false) (e0 : T0.heap = h0) (Z0 : n0 ≤ h0.size) (N0 : Fr n0 locs) (E_b : Exa Z h0 b "java/lang/String") (F_value_b : Fld Z h0 b "java/lang/String" "value" "[B" (.ref xb)) (F_coder_b : Fld Z h0 b "java/lang/String" "coder" "B" (.int (0 : Int32))) (V_xb : Bv Z h0 xb (1 : Int32) (fun _ => (112 : Int32))) (hO : Ext Z.heap h0) (hJ : JS Z cs sf xi xa) :
    Go p e below s ({ frames := 3, cells := 0, slots := 0, locals := 60 } : Room).cells ({ frames := 3, cells := 0, slots := 0, locals := 60 } : Room).slots (fun r h L => r = (some (.int (0 : Int32))) ∧ Fr n0 L ∧ h = h0) T0 (mkF m 0 #[.val (.ref b)] []) := by
  show Go _ _ _ _ _ _ _ T0 (mkF m 0 #[.val (.ref b)] [])
  refine Go.step (fun _ k => XS.aloadN X0.here hx rfl (hb hby d7_0) rfl rfl k) ?_
  show Go _ _ _ _ _ _ _ T0 (mkF m 1 #[.val (.ref b)] [(.ref b)])
  refine Go.callV X0 hx hZ (by rw [hml]; rfl) (y := (⟨"java/lang/String", "isLatin1", "()Z"⟩ : MethodName)) (z := (⟨"java/lang/String", "isLatin1", "()Z"⟩ : MethodName)) (a := b) (argsL := []) (rest := []) hown (hw _ (mI 41 rfl)) (hw _ (mI 42 rfl)) (notFace_of_selects (args := #[]) (mvT hZ (hw _ (mI 44 rfl)))) (hw _ (mI 44 rfl)) (hw _ (mI 43 rfl)) (hw _ (mI 9 rfl)) (hw _ (mI 45 rfl)) (by decide) (rm8 l Z a0 hw b xb cs sf xi xa h0 n0 Z0 E_b F_value_b F_coder_b V_xb hO hJ) e0 E_b (hb hby d7_1) (lenOf pd_4 rfl) rfl rfl (W := 0) (Nat.le_of_eq rfl) (by decide) (by decide) (by decide) (by decide) ?_
  intro v1 T1 L1 X1 Q1
  obtain ⟨rfl, N1q, hh1⟩ := Q1
  have N1 := Fr.app N0 N1q
  show Go _ _ _ _ _ _ _ T1 (mkF m 4 #[.val (.ref b)] [(.int (1 : Int32))])
  refine Go.step (fun _ k => XS.ifNo X1.here hx rfl (hb hby d7_4) rfl ((if0 _ _).trans (feq (by decide : ¬ ((1 : Int32) = (0 : Int32)))).1) k) ?_
  show Go _ _ _ _ _ _ _ T1 (mkF m 7 #[.val (.ref b)] [])
  refine Go.step (fun _ k => XS.aloadN X1.here hx rfl (hb hby d7_7) rfl rfl k) ?_
  show Go _ _ _ _ _ _ _ T1 (mkF m 8 #[.val (.ref b)] [(.ref b)])
  obtain ⟨T2, X2, e2, st2⟩ := getF X1 hx hZ hown (host := "") (Or.inl (hw _ (mI 48 rfl))) Via.refl hh1 F_value_b (g := (mkF m 8 #[.val (.ref b)] [(.ref b)])) rfl rfl (hb hby d7_8)
  refine Go.step st2 ?_
  show Go _ _ _ _ _ _ _ T2 (mkF m 11 #[.val (.ref b)] [(.ref xb)])
  refine Go.callS X2 hx hZ (by rw [hml]; rfl) (y := (⟨"java/lang/StringLatin1", "indexOfNonWhitespace", "([B)I"⟩ : MethodName)) (argsL := [(.ref xb)]) (rest := []) hown (hw _ (mI 49 rfl)) (hw _ (mI 50 rfl)) (hw _ (mI 51 rfl)) (hw _ (mI 52 rfl)) (by decide) (rm9 l Z a0 hw xb cs sf xi xa h0 n0 Z0 V_xb hO hJ) e2 (hb hby d7_11) (lenOf pd_5 rfl) rfl rfl (W := 0) (Nat.le_of_eq rfl) (by decide) (by decide) (by decide) (by decide) ?_
  intro v3 T3 L3 X3 Q3
  obtain ⟨rfl, N3q, hh3⟩ := Q3
  have N3 := Fr.app N1 N3q
  show Go _ _ _ _ _ _ _ T3 (mkF m 14 #[.val (.ref b)] [(.int (0 : Int32))])
  refine Go.step (fun _ k => XS.goto X3.here hx rfl (pc0 := 14) (pc' := 24) rfl (hb hby d7_14) (by decide) (by decide) k) ?_
  show Go _ _ _ _ _ _ _ T3 (mkF m 24 #[.val (.ref b)] [(.int (0 : Int32))])
  refine Go.retI X3 hx hlk hret (hb hby d7_24) (by decide) (by decide) ?_
  try rw [hh3]
  exact ⟨rfl, N3, rfl⟩
theorem pn_7 : plainFor (⟨"java/lang/String", "indexOfNonWhitespace", "()I"⟩ : MethodName) = true := by decide +kernel
theorem ef_rm7 (m : MethodId) (b : Addr) : entryFrame m #[(.ref b)] 1 = mkF m 0 #[.val (.ref b)] [] := by first | (simp [entryFrame, mkF, argsToLocals, Value.category]; done) | rfl
theorem rm7 (l : Launch) (Z : State) (a0 : Array Value) (hw : ∀ d ∈ tables_1, d.before a0 Z = true) (b xb : Addr) (cs : Int32) (sf : Value) (xi xa : Addr) (h0 : Heap) (n0 : Nat) (Z0 : n0 ≤ h0.size) (E_b : Exa Z h0 b "java/lang/String") (F_value_b : Fld Z h0 b "java/lang/String" "value" "[B" (.ref xb)) (F_coder_b : Fld Z h0 b "java/lang/String" "coder" "B" (.int (0 : Int32))) (V_xb : Bv Z h0 xb (1 : Int32) (fun _ => (112 : Int32))) (hO : Ext Z.heap h0) (hJ : JS Z cs sf xi xa) :
    Con l Z (⟨"java/lang/String", "indexOfNonWhitespace", "()I"⟩ : MethodName) jdk_42_method_120_code 1 (some .int) ({ frames := 3, cells := 0, slots := 0, locals := 60 } : Room) #[(.ref b)] h0 (fun r h L => r = (some (.int (0 : Int32))) ∧ Fr n0 L ∧ h = h0) :=
  con_of pn_7 (fun p_ e_ s_ m_ b_ meth_ c_ T_ X_ hx hZ hby hml hown hnm hret hlk e0 => Go.cast (ef_rm7 m_ b) (w7 b xb cs sf xi xa X_ hx hZ hw hby hml hown hnm hret hlk e0 Z0 (Fr.nil n0) E_b F_value_b F_coder_b V_xb hO hJ))
theorem d6_0 : decode jdk_42_method_117_code 0 = .ok (.aload_n 0, 1) := by decide +kernel
theorem d6_1 : decode jdk_42_method_117_code 1 = .ok (.invokevirtual 876, 3) := by decide +kernel
theorem pd_6 : parseMethodDescriptor "()I" = some ⟨[], some .int⟩ := by decide +kernel
theorem d6_4 : decode jdk_42_method_117_code 4 = .ok (.aload_n 0, 1) := by decide +kernel
theorem d6_5 : decode jdk_42_method_117_code 5 = .ok (.invokevirtual 505, 3) := by decide +kernel
theorem d6_8 : decode jdk_42_method_117_code 8 = .ok (.if_icmp .ne 7, 3) := by decide +kernel
theorem d6_15 : decode jdk_42_method_117_code 15 = .ok (.iconst 0, 1) := by decide +kernel
theorem d6_16 : decode jdk_42_method_117_code 16 = .ok (.ireturn, 1) := by decide +kernel
set_option maxRecDepth 65536 in
set_option maxHeartbeats 40000000 in
theorem w6 {p : Program} {l : Launch} {e : Env} {s : State} {m : MethodId} {args : Array Value} {below : List Frame} {meth : Method} {c_ : Code} {T0 : State} {locs : List Loc} {Z : State} {a0 : Array Value} {h0 : Heap} {n0 : Nat} (b xb : Addr) (cs : Int32) (sf : Value) (xi xa : Addr)
    (X0 : Stand p l e ({ frames := 4, cells := 0, slots := 0, locals := 80 } : Room) s m args below meth c_ T0 locs 0 0) (hx : p.tables.exec = Jvm.exec) (hZ : Z.Warmed39 s.vm) (hw : ∀ d ∈ tables_1, d.before a0 Z = true) (hby : c_.code = jdk_42_method_117_code) (hml : c_.maxLocals = 1) (hown : s.vm.findClass "java/lang/String" = some m.cls) (hnm : meth.name = "isBlank") (hret : meth.sig.returnType = some .boolean) (hlk : meth.locks = false) (e0 : T0.heap = h0) (Z0 : n0 ≤ h0.size) (N0 : Fr n0 locs) (E_b : Exa Z h0 b "java/lang/String") (F_value_b : Fld Z h0 b "java/lang/String" "value" "[B" (.ref xb)) (F_coder_b : Fld Z h0 b "java/lang/String" "coder" "B" (.int (0 : Int32))) (V_xb : Bv Z h0 xb (1 : Int32) (fun _ => (112 : Int32))) (hO : Ext Z.heap h0) (hJ : JS Z cs sf xi xa) :
    Go p e below s ({ frames := 4, cells := 0, slots := 0, locals := 80 } : Room).cells ({ frames := 4, cells := 0, slots := 0, locals := 80 } : Room).slots (fun r h L => r = (some (.int (0 : Int32))) ∧ Fr n0 L ∧ h = h0) T0 (mkF m 0 #[.val (.ref b)] []) := by
  show Go _ _ _ _ _ _ _ T0 (mkF m 0 #[.val (.ref b)] [])
  refine Go.step (fun _ k => XS.aloadN X0.here hx rfl (hb hby d6_0) rfl rfl k) ?_
  show Go _ _ _ _ _ _ _ T0 (mkF m 1 #[.val (.ref b)] [(.ref b)])
  refine Go.callP X0 hx hZ (by rw [hml]; rfl) (y := (⟨"java/lang/String", "indexOfNonWhitespace", "()I"⟩ : MethodName)) (a := b) (argsL := []) (rest := []) hown (hw _ (mI 36 rfl)) (hw _ (mI 37 rfl)) (hw _ (mI 10 rfl)) (hw _ (mI 38 rfl)) (hw _ (mI 9 rfl)) (hw _ (mI 40 rfl)) (by decide) (rm7 l Z a0 hw b xb cs sf xi xa h0 n0 Z0 E_b F_value_b F_coder_b V_xb hO hJ) e0 E_b (hb hby d6_1) (lenOf pd_6 rfl) rfl rfl (W := 0) (Nat.le_of_eq rfl) (by decide) (by decide) (by decide) (by decide) ?_
  intro v1 T1 L1 X1 Q1
  obtain ⟨rfl, N1q, hh1⟩ := Q1
  have N1 := Fr.app N0 N1q
  show Go _ _ _ _ _ _ _ T1 (mkF m 4 #[.val (.ref b)] [(.int (0 : Int32))])
  refine Go.step (fun _ k => XS.aloadN X1.here hx rfl (hb hby d6_4) rfl rfl k) ?_
  show Go _ _ _ _ _ _ _ T1 (mkF m 5 #[.val (.ref b)] [(.ref b), (.int (0 : Int32))])
  refine Go.callV X1 hx hZ (by rw [hml]; rfl) (y := (⟨"java/lang/String", "length", "()I"⟩ : MethodName)) (z := (⟨"java/lang/String", "length", "()I"⟩ : MethodName)) (a := b) (argsL := []) (rest := [(.int (0 : Int32))]) hown (hw _ (mI 69 rfl)) (hw _ (mI 70 rfl)) (notFace_of_selects (args := #[]) (mvT hZ (hw _ (mI 72 rfl)))) (hw _ (mI 72 rfl)) (hw _ (mI 71 rfl)) (hw _ (mI 9 rfl)) (hw _ (mI 73 rfl)) (by decide) (rm13 l Z a0 hw b xb cs sf xi xa h0 n0 Z0 E_b F_value_b F_coder_b V_xb hO hJ) hh1 E_b (hb hby d6_5) (lenOf pd_6 rfl) rfl rfl (W := 1) (Nat.le_of_eq rfl) (by decide) (by decide) (by decide) (by decide) ?_
  intro v2 T2 L2 X2 Q2
  obtain ⟨rfl, N2q, hh2⟩ := Q2
  have N2 := Fr.app N1 N2q
  show Go _ _ _ _ _ _ _ T2 (mkF m 8 #[.val (.ref b)] [(.int (1 : Int32)), (.int (0 : Int32))])
  refine Go.step (fun _ k => XS.icmpYes X2.here hx rfl (pc0 := 8) (pc' := 15) rfl (hb hby d6_8) rfl (feq (by decide : ¬ ((0 : Int32) = (1 : Int32)))).2 (by decide) (by decide) k) ?_
  show Go _ _ _ _ _ _ _ T2 (mkF m 15 #[.val (.ref b)] [])
  refine Go.step (fun _ k => XS.iconst X2.here hx rfl (hb hby d6_15) k) ?_
  show Go _ _ _ _ _ _ _ T2 (mkF m 16 #[.val (.ref b)] [(.int (0 : Int32))])
  refine Go.retZ X2 hx hlk hret (by decide) (hb hby d6_16) (by decide) (by decide) ?_
  try rw [hh2]
  exact ⟨rfl, N2, rfl⟩
theorem pn_6 : plainFor (⟨"java/lang/String", "isBlank", "()Z"⟩ : MethodName) = true := by decide +kernel
theorem ef_rm6 (m : MethodId) (b : Addr) : entryFrame m #[(.ref b)] 1 = mkF m 0 #[.val (.ref b)] [] := by first | (simp [entryFrame, mkF, argsToLocals, Value.category]; done) | rfl
theorem rm6 (l : Launch) (Z : State) (a0 : Array Value) (hw : ∀ d ∈ tables_1, d.before a0 Z = true) (b xb : Addr) (cs : Int32) (sf : Value) (xi xa : Addr) (h0 : Heap) (n0 : Nat) (Z0 : n0 ≤ h0.size) (E_b : Exa Z h0 b "java/lang/String") (F_value_b : Fld Z h0 b "java/lang/String" "value" "[B" (.ref xb)) (F_coder_b : Fld Z h0 b "java/lang/String" "coder" "B" (.int (0 : Int32))) (V_xb : Bv Z h0 xb (1 : Int32) (fun _ => (112 : Int32))) (hO : Ext Z.heap h0) (hJ : JS Z cs sf xi xa) :
    Con l Z (⟨"java/lang/String", "isBlank", "()Z"⟩ : MethodName) jdk_42_method_117_code 1 (some .boolean) ({ frames := 4, cells := 0, slots := 0, locals := 80 } : Room) #[(.ref b)] h0 (fun r h L => r = (some (.int (0 : Int32))) ∧ Fr n0 L ∧ h = h0) :=
  con_of pn_6 (fun p_ e_ s_ m_ b_ meth_ c_ T_ X_ hx hZ hby hml hown hnm hret hlk e0 => Go.cast (ef_rm6 m_ b) (w6 b xb cs sf xi xa X_ hx hZ hw hby hml hown hnm hret hlk e0 Z0 (Fr.nil n0) E_b F_value_b F_coder_b V_xb hO hJ))
theorem d18_0 : decode jdk_41_method_11_code 0 = .ok (.iload_n 0, 1) := by decide +kernel
theorem d18_1 : decode jdk_41_method_11_code 1 = .ok (.ifCond .lt 8, 3) := by decide +kernel
theorem d18_4 : decode jdk_41_method_11_code 4 = .ok (.iload_n 0, 1) := by decide +kernel
theorem d18_5 : decode jdk_41_method_11_code 5 = .ok (.iload_n 1, 1) := by decide +kernel
theorem d18_6 : decode jdk_41_method_11_code 6 = .ok (.if_icmp .lt 10, 3) := by decide +kernel
theorem d18_16 : decode jdk_41_method_11_code 16 = .ok (.iload_n 0, 1) := by decide +kernel
theorem d18_17 : decode jdk_41_method_11_code 17 = .ok (.ireturn, 1) := by decide +kernel
set_option maxRecDepth 65536 in
set_option maxHeartbeats 40000000 in
theorem w18n {p : Program} {l : Launch} {e : Env} {s : State} {m : MethodId} {args : Array Value} {below : List Frame} {meth : Method} {c_ : Code} {T0 : State} {locs : List Loc} {Z : State} {a0 : Array Value} {h0 : Heap} {n0 : Nat} 
    (X0 : Stand p l e ({ frames := 0, cells := 0, slots := 0, locals := 0 } : Room) s m args below meth c_ T0 locs 0 0) (hx : p.tables.exec = Jvm.exec) (hZ : Z.Warmed39 s.vm) (hw : ∀ d ∈ tables_1, d.before a0 Z = true) (hby : c_.code = jdk_41_method_11_code) (hml : c_.maxLocals = 3) (hown : s.vm.findClass "jdk/internal/util/Preconditions" = some m.cls) (hnm : meth.name = "checkIndex") (hret : meth.sig.returnType = some .int) (hlk : meth.locks = false) (e0 : T0.heap = h0) (Z0 : n0 ≤ h0.size) (N0 : Fr n0 locs)  :
    Go p e below s ({ frames := 0, cells := 0, slots := 0, locals := 0 } : Room).cells ({ frames := 0, cells := 0, slots := 0, locals := 0 } : Room).slots (fun r h L => r = (some (.int (0 : Int32))) ∧ Fr n0 L ∧ h = h0) T0 (mkF m 0 #[.val (.int (0 : Int32)), .val (.int (1 : Int32)), .val .null] []) := by
  show Go _ _ _ _ _ _ _ T0 (mkF m 0 #[.val (.int (0 : Int32)), .val (.int (1 : Int32)), .val .null] [])
  refine Go.step (fun _ k => XS.iloadN X0.here hx rfl (hb hby d18_0) rfl k) ?_
  show Go _ _ _ _ _ _ _ T0 (mkF m 1 #[.val (.int (0 : Int32)), .val (.int (1 : Int32)), .val .null] [(.int (0 : Int32))])
  refine Go.step (fun _ k => XS.ifNo X0.here hx rfl (hb hby d18_1) rfl ((if0 _ _).trans (flt (by decide : ¬ ((0 : Int32) < (0 : Int32)))).1) k) ?_
  show Go _ _ _ _ _ _ _ T0 (mkF m 4 #[.val (.int (0 : Int32)), .val (.int (1 : Int32)), .val .null] [])
  refine Go.step (fun _ k => XS.iloadN X0.here hx rfl (hb hby d18_4) rfl k) ?_
  show Go _ _ _ _ _ _ _ T0 (mkF m 5 #[.val (.int (0 : Int32)), .val (.int (1 : Int32)), .val .null] [(.int (0 : Int32))])
  refine Go.step (fun _ k => XS.iloadN X0.here hx rfl (hb hby d18_5) rfl k) ?_
  show Go _ _ _ _ _ _ _ T0 (mkF m 6 #[.val (.int (0 : Int32)), .val (.int (1 : Int32)), .val .null] [(.int (1 : Int32)), (.int (0 : Int32))])
  refine Go.step (fun _ k => XS.icmpYes X0.here hx rfl (pc0 := 6) (pc' := 16) rfl (hb hby d18_6) rfl (tlt (by decide : (0 : Int32) < (1 : Int32))).1 (by decide) (by decide) k) ?_
  show Go _ _ _ _ _ _ _ T0 (mkF m 16 #[.val (.int (0 : Int32)), .val (.int (1 : Int32)), .val .null] [])
  refine Go.step (fun _ k => XS.iloadN X0.here hx rfl (hb hby d18_16) rfl k) ?_
  show Go _ _ _ _ _ _ _ T0 (mkF m 17 #[.val (.int (0 : Int32)), .val (.int (1 : Int32)), .val .null] [(.int (0 : Int32))])
  refine Go.retI X0 hx hlk hret (hb hby d18_17) (by decide) (by decide) ?_
  try rw [e0]
  exact ⟨rfl, N0, rfl⟩
theorem pn_18 : plainFor (⟨"jdk/internal/util/Preconditions", "checkIndex", "(IILjava/util/function/BiFunction;)I"⟩ : MethodName) = true := by decide +kernel
theorem ef_rm18n (m : MethodId)  : entryFrame m #[(.int (0 : Int32)), (.int (1 : Int32)), .null] 3 = mkF m 0 #[.val (.int (0 : Int32)), .val (.int (1 : Int32)), .val .null] [] := by first | (simp [entryFrame, mkF, argsToLocals, Value.category]; done) | rfl
theorem rm18n (l : Launch) (Z : State) (a0 : Array Value) (hw : ∀ d ∈ tables_1, d.before a0 Z = true)  (h0 : Heap) (n0 : Nat) (Z0 : n0 ≤ h0.size)  :
    Con l Z (⟨"jdk/internal/util/Preconditions", "checkIndex", "(IILjava/util/function/BiFunction;)I"⟩ : MethodName) jdk_41_method_11_code 3 (some .int) ({ frames := 0, cells := 0, slots := 0, locals := 0 } : Room) #[(.int (0 : Int32)), (.int (1 : Int32)), .null] h0 (fun r h L => r = (some (.int (0 : Int32))) ∧ Fr n0 L ∧ h = h0) :=
  con_of pn_18 (fun p_ e_ s_ m_ b_ meth_ c_ T_ X_ hx hZ hby hml hown hnm hret hlk e0 => Go.cast (ef_rm18n m_ ) (w18n  X_ hx hZ hw hby hml hown hnm hret hlk e0 Z0 (Fr.nil n0) ))
theorem d17_0 : decode jdk_42_method_155_code 0 = .ok (.iload_n 0, 1) := by decide +kernel
theorem d17_1 : decode jdk_42_method_155_code 1 = .ok (.iload_n 1, 1) := by decide +kernel
theorem d17_2 : decode jdk_42_method_155_code 2 = .ok (.getstatic 1053, 3) := by decide +kernel
theorem d17_5 : decode jdk_42_method_155_code 5 = .ok (.invokestatic 1059, 3) := by decide +kernel
theorem pd_7 : parseMethodDescriptor "(IILjava/util/function/BiFunction;)I" = some ⟨[.int, .int, (.object "java/util/function/BiFunction")], some .int⟩ := by decide +kernel
theorem d17_8 : decode jdk_42_method_155_code 8 = .ok (.pop, 1) := by decide +kernel
theorem d17_9 : decode jdk_42_method_155_code 9 = .ok (.return_, 1) := by decide +kernel
set_option maxRecDepth 65536 in
set_option maxHeartbeats 40000000 in
theorem w17n {p : Program} {l : Launch} {e : Env} {s : State} {m : MethodId} {args : Array Value} {below : List Frame} {meth : Method} {c_ : Code} {T0 : State} {locs : List Loc} {Z : State} {a0 : Array Value} {h0 : Heap} {n0 : Nat} 
    (X0 : Stand p l e ({ frames := 1, cells := 0, slots := 0, locals := 20 } : Room) s m args below meth c_ T0 locs 0 0) (hx : p.tables.exec = Jvm.exec) (hZ : Z.Warmed39 s.vm) (hw : ∀ d ∈ tables_1, d.before a0 Z = true) (hby : c_.code = jdk_42_method_155_code) (hml : c_.maxLocals = 2) (hown : s.vm.findClass "java/lang/String" = some m.cls) (hnm : meth.name = "checkIndex") (hret : meth.sig.returnType = none) (hlk : meth.locks = false) (e0 : T0.heap = h0) (Z0 : n0 ≤ h0.size) (N0 : Fr n0 locs) (S_SF : Sta Z h0 "jdk/internal/util/Preconditions" "SIOOBE_FORMATTER" "Ljava/util/function/BiFunction;" .null) :
    Go p e below s ({ frames := 1, cells := 0, slots := 0, locals := 20 } : Room).cells ({ frames := 1, cells := 0, slots := 0, locals := 20 } : Room).slots (fun r h L => r = none ∧ Fr n0 L ∧ h = h0) T0 (mkF m 0 #[.val (.int (0 : Int32)), .val (.int (1 : Int32))] []) := by
  show Go _ _ _ _ _ _ _ T0 (mkF m 0 #[.val (.int (0 : Int32)), .val (.int (1 : Int32))] [])
  refine Go.step (fun _ k => XS.iloadN X0.here hx rfl (hb hby d17_0) rfl k) ?_
  show Go _ _ _ _ _ _ _ T0 (mkF m 1 #[.val (.int (0 : Int32)), .val (.int (1 : Int32))] [(.int (0 : Int32))])
  refine Go.step (fun _ k => XS.iloadN X0.here hx rfl (hb hby d17_1) rfl k) ?_
  show Go _ _ _ _ _ _ _ T0 (mkF m 2 #[.val (.int (0 : Int32)), .val (.int (1 : Int32))] [(.int (1 : Int32)), (.int (0 : Int32))])
  obtain ⟨T1, X1, e1, st1⟩ := getS (host := "") X0 hx hZ hown (hw _ (mI 91 rfl)) Via.refl e0 S_SF (g := (mkF m 2 #[.val (.int (0 : Int32)), .val (.int (1 : Int32))] [(.int (1 : Int32)), (.int (0 : Int32))])) rfl (hb hby d17_2)
  refine Go.step st1 ?_
  show Go _ _ _ _ _ _ _ T1 (mkF m 5 #[.val (.int (0 : Int32)), .val (.int (1 : Int32))] [.null, (.int (1 : Int32)), (.int (0 : Int32))])
  refine Go.callS X1 hx hZ (by rw [hml]; rfl) (y := (⟨"jdk/internal/util/Preconditions", "checkIndex", "(IILjava/util/function/BiFunction;)I"⟩ : MethodName)) (argsL := [(.int (0 : Int32)), (.int (1 : Int32)), .null]) (rest := []) hown (hw _ (mI 93 rfl)) (hw _ (mI 94 rfl)) (hw _ (mI 92 rfl)) (hw _ (mI 95 rfl)) (by decide) (rm18n l Z a0 hw  h0 n0 Z0 ) e1 (hb hby d17_5) (lenOf pd_7 rfl) rfl rfl (W := 0) (Nat.le_of_eq rfl) (by decide) (by decide) (by decide) (by decide) ?_
  intro v2 T2 L2 X2 Q2
  obtain ⟨rfl, N2q, hh2⟩ := Q2
  have N2 := Fr.app N0 N2q
  show Go _ _ _ _ _ _ _ T2 (mkF m 8 #[.val (.int (0 : Int32)), .val (.int (1 : Int32))] [(.int (0 : Int32))])
  refine Go.step (fun _ k => XS.pop X2.here hx rfl (hb hby d17_8) rfl rfl k) ?_
  show Go _ _ _ _ _ _ _ T2 (mkF m 9 #[.val (.int (0 : Int32)), .val (.int (1 : Int32))] [])
  refine Go.retV X2 hx hlk hret (hb hby d17_9) (by decide) (by decide) ?_
  try rw [hh2]
  exact ⟨rfl, N2, rfl⟩
theorem pn_17 : plainFor (⟨"java/lang/String", "checkIndex", "(II)V"⟩ : MethodName) = true := by decide +kernel
theorem ef_rm17n (m : MethodId)  : entryFrame m #[(.int (0 : Int32)), (.int (1 : Int32))] 2 = mkF m 0 #[.val (.int (0 : Int32)), .val (.int (1 : Int32))] [] := by first | (simp [entryFrame, mkF, argsToLocals, Value.category]; done) | rfl
theorem rm17n (l : Launch) (Z : State) (a0 : Array Value) (hw : ∀ d ∈ tables_1, d.before a0 Z = true)  (h0 : Heap) (n0 : Nat) (Z0 : n0 ≤ h0.size) (S_SF : Sta Z h0 "jdk/internal/util/Preconditions" "SIOOBE_FORMATTER" "Ljava/util/function/BiFunction;" .null) :
    Con l Z (⟨"java/lang/String", "checkIndex", "(II)V"⟩ : MethodName) jdk_42_method_155_code 2 none ({ frames := 1, cells := 0, slots := 0, locals := 20 } : Room) #[(.int (0 : Int32)), (.int (1 : Int32))] h0 (fun r h L => r = none ∧ Fr n0 L ∧ h = h0) :=
  con_of pn_17 (fun p_ e_ s_ m_ b_ meth_ c_ T_ X_ hx hZ hby hml hown hnm hret hlk e0 => Go.cast (ef_rm17n m_ ) (w17n  X_ hx hZ hw hby hml hown hnm hret hlk e0 Z0 (Fr.nil n0) S_SF))
set_option maxRecDepth 65536 in
set_option maxHeartbeats 40000000 in
theorem w18r {p : Program} {l : Launch} {e : Env} {s : State} {m : MethodId} {args : Array Value} {below : List Frame} {meth : Method} {c_ : Code} {T0 : State} {locs : List Loc} {Z : State} {a0 : Array Value} {h0 : Heap} {n0 : Nat} (xf : Addr)
    (X0 : Stand p l e ({ frames := 0, cells := 0, slots := 0, locals := 0 } : Room) s m args below meth c_ T0 locs 0 0) (hx : p.tables.exec = Jvm.exec) (hZ : Z.Warmed39 s.vm) (hw : ∀ d ∈ tables_1, d.before a0 Z = true) (hby : c_.code = jdk_41_method_11_code) (hml : c_.maxLocals = 3) (hown : s.vm.findClass "jdk/internal/util/Preconditions" = some m.cls) (hnm : meth.name = "checkIndex") (hret : meth.sig.returnType = some .int) (hlk : meth.locks = false) (e0 : T0.heap = h0) (Z0 : n0 ≤ h0.size) (N0 : Fr n0 locs)  :
    Go p e below s ({ frames := 0, cells := 0, slots := 0, locals := 0 } : Room).cells ({ frames := 0, cells := 0, slots := 0, locals := 0 } : Room).slots (fun r h L => r = (some (.int (0 : Int32))) ∧ Fr n0 L ∧ h = h0) T0 (mkF m 0 #[.val (.int (0 : Int32)), .val (.int (1 : Int32)), .val (.ref xf)] []) := by
  show Go _ _ _ _ _ _ _ T0 (mkF m 0 #[.val (.int (0 : Int32)), .val (.int (1 : Int32)), .val (.ref xf)] [])
  refine Go.step (fun _ k => XS.iloadN X0.here hx rfl (hb hby d18_0) rfl k) ?_
  show Go _ _ _ _ _ _ _ T0 (mkF m 1 #[.val (.int (0 : Int32)), .val (.int (1 : Int32)), .val (.ref xf)] [(.int (0 : Int32))])
  refine Go.step (fun _ k => XS.ifNo X0.here hx rfl (hb hby d18_1) rfl ((if0 _ _).trans (flt (by decide : ¬ ((0 : Int32) < (0 : Int32)))).1) k) ?_
  show Go _ _ _ _ _ _ _ T0 (mkF m 4 #[.val (.int (0 : Int32)), .val (.int (1 : Int32)), .val (.ref xf)] [])
  refine Go.step (fun _ k => XS.iloadN X0.here hx rfl (hb hby d18_4) rfl k) ?_
  show Go _ _ _ _ _ _ _ T0 (mkF m 5 #[.val (.int (0 : Int32)), .val (.int (1 : Int32)), .val (.ref xf)] [(.int (0 : Int32))])
  refine Go.step (fun _ k => XS.iloadN X0.here hx rfl (hb hby d18_5) rfl k) ?_
  show Go _ _ _ _ _ _ _ T0 (mkF m 6 #[.val (.int (0 : Int32)), .val (.int (1 : Int32)), .val (.ref xf)] [(.int (1 : Int32)), (.int (0 : Int32))])
  refine Go.step (fun _ k => XS.icmpYes X0.here hx rfl (pc0 := 6) (pc' := 16) rfl (hb hby d18_6) rfl (tlt (by decide : (0 : Int32) < (1 : Int32))).1 (by decide) (by decide) k) ?_
  show Go _ _ _ _ _ _ _ T0 (mkF m 16 #[.val (.int (0 : Int32)), .val (.int (1 : Int32)), .val (.ref xf)] [])
  refine Go.step (fun _ k => XS.iloadN X0.here hx rfl (hb hby d18_16) rfl k) ?_
  show Go _ _ _ _ _ _ _ T0 (mkF m 17 #[.val (.int (0 : Int32)), .val (.int (1 : Int32)), .val (.ref xf)] [(.int (0 : Int32))])
  refine Go.retI X0 hx hlk hret (hb hby d18_17) (by decide) (by decide) ?_
  try rw [e0]
  exact ⟨rfl, N0, rfl⟩
theorem ef_rm18r (m : MethodId) (xf : Addr) : entryFrame m #[(.int (0 : Int32)), (.int (1 : Int32)), (.ref xf)] 3 = mkF m 0 #[.val (.int (0 : Int32)), .val (.int (1 : Int32)), .val (.ref xf)] [] := by first | (simp [entryFrame, mkF, argsToLocals, Value.category]; done) | rfl
theorem rm18r (l : Launch) (Z : State) (a0 : Array Value) (hw : ∀ d ∈ tables_1, d.before a0 Z = true) (xf : Addr) (h0 : Heap) (n0 : Nat) (Z0 : n0 ≤ h0.size)  :
    Con l Z (⟨"jdk/internal/util/Preconditions", "checkIndex", "(IILjava/util/function/BiFunction;)I"⟩ : MethodName) jdk_41_method_11_code 3 (some .int) ({ frames := 0, cells := 0, slots := 0, locals := 0 } : Room) #[(.int (0 : Int32)), (.int (1 : Int32)), (.ref xf)] h0 (fun r h L => r = (some (.int (0 : Int32))) ∧ Fr n0 L ∧ h = h0) :=
  con_of pn_18 (fun p_ e_ s_ m_ b_ meth_ c_ T_ X_ hx hZ hby hml hown hnm hret hlk e0 => Go.cast (ef_rm18r m_ xf) (w18r xf X_ hx hZ hw hby hml hown hnm hret hlk e0 Z0 (Fr.nil n0) ))
set_option maxRecDepth 65536 in
set_option maxHeartbeats 40000000 in
theorem w17r {p : Program} {l : Launch} {e : Env} {s : State} {m : MethodId} {args : Array Value} {below : List Frame} {meth : Method} {c_ : Code} {T0 : State} {locs : List Loc} {Z : State} {a0 : Array Value} {h0 : Heap} {n0 : Nat} (xf : Addr)
    (X0 : Stand p l e ({ frames := 1, cells := 0, slots := 0, locals := 20 } : Room) s m args below meth c_ T0 locs 0 0) (hx : p.tables.exec = Jvm.exec) (hZ : Z.Warmed39 s.vm) (hw : ∀ d ∈ tables_1, d.before a0 Z = true) (hby : c_.code = jdk_42_method_155_code) (hml : c_.maxLocals = 2) (hown : s.vm.findClass "java/lang/String" = some m.cls) (hnm : meth.name = "checkIndex") (hret : meth.sig.returnType = none) (hlk : meth.locks = false) (e0 : T0.heap = h0) (Z0 : n0 ≤ h0.size) (N0 : Fr n0 locs) (S_SF : Sta Z h0 "jdk/internal/util/Preconditions" "SIOOBE_FORMATTER" "Ljava/util/function/BiFunction;" (.ref xf)) :
    Go p e below s ({ frames := 1, cells := 0, slots := 0, locals := 20 } : Room).cells ({ frames := 1, cells := 0, slots := 0, locals := 20 } : Room).slots (fun r h L => r = none ∧ Fr n0 L ∧ h = h0) T0 (mkF m 0 #[.val (.int (0 : Int32)), .val (.int (1 : Int32))] []) := by
  show Go _ _ _ _ _ _ _ T0 (mkF m 0 #[.val (.int (0 : Int32)), .val (.int (1 : Int32))] [])
  refine Go.step (fun _ k => XS.iloadN X0.here hx rfl (hb hby d17_0) rfl k) ?_
  show Go _ _ _ _ _ _ _ T0 (mkF m 1 #[.val (.int (0 : Int32)), .val (.int (1 : Int32))] [(.int (0 : Int32))])
  refine Go.step (fun _ k => XS.iloadN X0.here hx rfl (hb hby d17_1) rfl k) ?_
  show Go _ _ _ _ _ _ _ T0 (mkF m 2 #[.val (.int (0 : Int32)), .val (.int (1 : Int32))] [(.int (1 : Int32)), (.int (0 : Int32))])
  obtain ⟨T1, X1, e1, st1⟩ := getS (host := "") X0 hx hZ hown (hw _ (mI 91 rfl)) Via.refl e0 S_SF (g := (mkF m 2 #[.val (.int (0 : Int32)), .val (.int (1 : Int32))] [(.int (1 : Int32)), (.int (0 : Int32))])) rfl (hb hby d17_2)
  refine Go.step st1 ?_
  show Go _ _ _ _ _ _ _ T1 (mkF m 5 #[.val (.int (0 : Int32)), .val (.int (1 : Int32))] [(.ref xf), (.int (1 : Int32)), (.int (0 : Int32))])
  refine Go.callS X1 hx hZ (by rw [hml]; rfl) (y := (⟨"jdk/internal/util/Preconditions", "checkIndex", "(IILjava/util/function/BiFunction;)I"⟩ : MethodName)) (argsL := [(.int (0 : Int32)), (.int (1 : Int32)), (.ref xf)]) (rest := []) hown (hw _ (mI 93 rfl)) (hw _ (mI 94 rfl)) (hw _ (mI 92 rfl)) (hw _ (mI 95 rfl)) (by decide) (rm18r l Z a0 hw xf h0 n0 Z0 ) e1 (hb hby d17_5) (lenOf pd_7 rfl) rfl rfl (W := 0) (Nat.le_of_eq rfl) (by decide) (by decide) (by decide) (by decide) ?_
  intro v2 T2 L2 X2 Q2
  obtain ⟨rfl, N2q, hh2⟩ := Q2
  have N2 := Fr.app N0 N2q
  show Go _ _ _ _ _ _ _ T2 (mkF m 8 #[.val (.int (0 : Int32)), .val (.int (1 : Int32))] [(.int (0 : Int32))])
  refine Go.step (fun _ k => XS.pop X2.here hx rfl (hb hby d17_8) rfl rfl k) ?_
  show Go _ _ _ _ _ _ _ T2 (mkF m 9 #[.val (.int (0 : Int32)), .val (.int (1 : Int32))] [])
  refine Go.retV X2 hx hlk hret (hb hby d17_9) (by decide) (by decide) ?_
  try rw [hh2]
  exact ⟨rfl, N2, rfl⟩
theorem ef_rm17r (m : MethodId)  : entryFrame m #[(.int (0 : Int32)), (.int (1 : Int32))] 2 = mkF m 0 #[.val (.int (0 : Int32)), .val (.int (1 : Int32))] [] := by first | (simp [entryFrame, mkF, argsToLocals, Value.category]; done) | rfl
theorem rm17r (l : Launch) (Z : State) (a0 : Array Value) (hw : ∀ d ∈ tables_1, d.before a0 Z = true) (xf : Addr) (h0 : Heap) (n0 : Nat) (Z0 : n0 ≤ h0.size) (S_SF : Sta Z h0 "jdk/internal/util/Preconditions" "SIOOBE_FORMATTER" "Ljava/util/function/BiFunction;" (.ref xf)) :
    Con l Z (⟨"java/lang/String", "checkIndex", "(II)V"⟩ : MethodName) jdk_42_method_155_code 2 none ({ frames := 1, cells := 0, slots := 0, locals := 20 } : Room) #[(.int (0 : Int32)), (.int (1 : Int32))] h0 (fun r h L => r = none ∧ Fr n0 L ∧ h = h0) :=
  con_of pn_17 (fun p_ e_ s_ m_ b_ meth_ c_ T_ X_ hx hZ hby hml hown hnm hret hlk e0 => Go.cast (ef_rm17r m_ ) (w17r xf X_ hx hZ hw hby hml hown hnm hret hlk e0 Z0 (Fr.nil n0) S_SF))
theorem rm17 (l : Launch) (Z : State) (a0 : Array Value) (hw : ∀ d ∈ tables_1, d.before a0 Z = true) (cs : Int32) (sf : Value) (xi xa : Addr) (h0 : Heap) (n0 : Nat) (Z0 : n0 ≤ h0.size) (hO : Ext Z.heap h0) (hJ : JS Z cs sf xi xa) :
    Con l Z (⟨"java/lang/String", "checkIndex", "(II)V"⟩ : MethodName) jdk_42_method_155_code 2 none ({ frames := 1, cells := 0, slots := 0, locals := 20 } : Room) #[(.int (0 : Int32)), (.int (1 : Int32))] h0 (fun r h L => r = none ∧ Fr n0 L ∧ h = h0) := by
  obtain ⟨hCS, hcs, hSF, hsf, hIN, hXI, hAA, hA⟩ := hJ
  rcases ref_cases hsf with rfl | ⟨xf, rfl⟩
  · exact rm17n l Z a0 hw h0 n0 Z0 (Sta.ext hO hSF)
  · exact rm17r l Z a0 hw xf h0 n0 Z0 (Sta.ext hO hSF)
theorem d16_0 : decode jdk_43_method_2_code 0 = .ok (.iload_n 1, 1) := by decide +kernel
theorem d16_1 : decode jdk_43_method_2_code 1 = .ok (.aload_n 0, 1) := by decide +kernel
theorem d16_2 : decode jdk_43_method_2_code 2 = .ok (.arraylength, 1) := by decide +kernel
theorem d16_3 : decode jdk_43_method_2_code 3 = .ok (.invokestatic 9, 3) := by decide +kernel
theorem pd_8 : parseMethodDescriptor "(II)V" = some ⟨[.int, .int], none⟩ := by decide +kernel
theorem d16_6 : decode jdk_43_method_2_code 6 = .ok (.aload_n 0, 1) := by decide +kernel
theorem d16_7 : decode jdk_43_method_2_code 7 = .ok (.iload_n 1, 1) := by decide +kernel
theorem d16_8 : decode jdk_43_method_2_code 8 = .ok (.baload, 1) := by decide +kernel
theorem d16_9 : decode jdk_43_method_2_code 9 = .ok (.sipush 255, 3) := by decide +kernel
theorem d16_12 : decode jdk_43_method_2_code 12 = .ok (.iand, 1) := by decide +kernel
theorem d16_13 : decode jdk_43_method_2_code 13 = .ok (.i2c, 1) := by decide +kernel
theorem d16_14 : decode jdk_43_method_2_code 14 = .ok (.ireturn, 1) := by decide +kernel
set_option maxRecDepth 65536 in
set_option maxHeartbeats 40000000 in
theorem w16 {p : Program} {l : Launch} {e : Env} {s : State} {m : MethodId} {args : Array Value} {below : List Frame} {meth : Method} {c_ : Code} {T0 : State} {locs : List Loc} {Z : State} {a0 : Array Value} {h0 : Heap} {n0 : Nat} (xb : Addr) (cs : Int32) (sf : Value) (xi xa : Addr)
    (X0 : Stand p l e ({ frames := 2, cells := 0, slots := 0, locals := 40 } : Room) s m args below meth c_ T0 locs 0 0) (hx : p.tables.exec = Jvm.exec) (hZ : Z.Warmed39 s.vm) (hw : ∀ d ∈ tables_1, d.before a0 Z = true) (hby : c_.code = jdk_43_method_2_code) (hml : c_.maxLocals = 2) (hown : s.vm.findClass "java/lang/StringLatin1" = some m.cls) (hnm : meth.name = "charAt") (hret : meth.sig.returnType = some .char) (hlk : meth.locks = false) (e0 : T0.heap = h0) (Z0 : n0 ≤ h0.size) (N0 : Fr n0 locs) (V_xb : Bv Z h0 xb (1 : Int32) (fun _ => (112 : Int32))) (hO : Ext Z.heap h0) (hJ : JS Z cs sf xi xa) :
    Go p e below s ({ frames := 2, cells := 0, slots := 0, locals := 40 } : Room).cells ({ frames := 2, cells := 0, slots := 0, locals := 40 } : Room).slots (fun r h L => r = (some (.int (112 : Int32))) ∧ Fr n0 L ∧ h = h0) T0 (mkF m 0 #[.val (.ref xb), .val (.int (0 : Int32))] []) := by
  show Go _ _ _ _ _ _ _ T0 (mkF m 0 #[.val (.ref xb), .val (.int (0 : Int32))] [])
  refine Go.step (fun _ k => XS.iloadN X0.here hx rfl (hb hby d16_0) rfl k) ?_
  show Go _ _ _ _ _ _ _ T0 (mkF m 1 #[.val (.ref xb), .val (.int (0 : Int32))] [(.int (0 : Int32))])
  refine Go.step (fun _ k => XS.aloadN X0.here hx rfl (hb hby d16_1) rfl rfl k) ?_
  show Go _ _ _ _ _ _ _ T0 (mkF m 2 #[.val (.ref xb), .val (.int (0 : Int32))] [(.ref xb), (.int (0 : Int32))])
  refine Go.alen X0 hx hZ e0 V_xb (hb hby d16_2) ?_
  show Go _ _ _ _ _ _ _ T0 (mkF m 3 #[.val (.ref xb), .val (.int (0 : Int32))] [(.int (1 : Int32)), (.int (0 : Int32))])
  refine Go.callS X0 hx hZ (by rw [hml]; rfl) (y := (⟨"java/lang/String", "checkIndex", "(II)V"⟩ : MethodName)) (argsL := [(.int (0 : Int32)), (.int (1 : Int32))]) (rest := []) hown (hw _ (mI 88 rfl)) (hw _ (mI 89 rfl)) (hw _ (mI 9 rfl)) (hw _ (mI 90 rfl)) (by decide) (rm17 l Z a0 hw cs sf xi xa h0 n0 Z0 hO hJ) e0 (hb hby d16_3) (lenOf pd_8 rfl) rfl rfl (W := 0) (Nat.le_of_eq rfl) (by decide) (by decide) (by decide) (by decide) ?_
  intro v1 T1 L1 X1 Q1
  obtain ⟨rfl, N1q, hh1⟩ := Q1
  have N1 := Fr.app N0 N1q
  show Go _ _ _ _ _ _ _ T1 (mkF m 6 #[.val (.ref xb), .val (.int (0 : Int32))] [])
  refine Go.step (fun _ k => XS.aloadN X1.here hx rfl (hb hby d16_6) rfl rfl k) ?_
  show Go _ _ _ _ _ _ _ T1 (mkF m 7 #[.val (.ref xb), .val (.int (0 : Int32))] [(.ref xb)])
  refine Go.step (fun _ k => XS.iloadN X1.here hx rfl (hb hby d16_7) rfl k) ?_
  show Go _ _ _ _ _ _ _ T1 (mkF m 8 #[.val (.ref xb), .val (.int (0 : Int32))] [(.int (0 : Int32)), (.ref xb)])
  refine Go.baloadB X1 hx hZ hh1 V_xb (j := (0 : Int32)) (v := (112 : Int32)) (by decide) rfl (hb hby d16_8) ?_
  show Go _ _ _ _ _ _ _ T1 (mkF m 9 #[.val (.ref xb), .val (.int (0 : Int32))] [(.int (112 : Int32))])
  refine Go.step (fun _ k => XS.sipush X1.here hx rfl (hb hby d16_9) k) ?_
  show Go _ _ _ _ _ _ _ T1 (mkF m 12 #[.val (.ref xb), .val (.int (0 : Int32))] [(.int (255 : Int32)), (.int (112 : Int32))])
  refine Go.step (fun _ k => XS.iand X1.here hx rfl (hb hby d16_12) rfl k) ?_
  show Go _ _ _ _ _ _ _ T1 (mkF m 13 #[.val (.ref xb), .val (.int (0 : Int32))] [(.int (112 : Int32))])
  refine Go.step (fun _ k => XS.i2c X1.here hx rfl (hb hby d16_13) rfl k) ?_
  show Go _ _ _ _ _ _ _ T1 (mkF m 14 #[.val (.ref xb), .val (.int (0 : Int32))] [(.int (112 : Int32))])
  refine Go.retW X1 hx hlk hret rfl (Or.inl ⟨rfl, Or.inr (Or.inr (Or.inr (Or.inl rfl))), _, rfl⟩) (hb hby d16_14) (by decide) (by decide) ?_
  try rw [hh1]
  exact ⟨rfl, N1, rfl⟩
theorem pn_16 : plainFor (⟨"java/lang/StringLatin1", "charAt", "([BI)C"⟩ : MethodName) = true := by decide +kernel
theorem ef_rm16 (m : MethodId) (xb : Addr) : entryFrame m #[(.ref xb), (.int (0 : Int32))] 2 = mkF m 0 #[.val (.ref xb), .val (.int (0 : Int32))] [] := by first | (simp [entryFrame, mkF, argsToLocals, Value.category]; done) | rfl
theorem rm16 (l : Launch) (Z : State) (a0 : Array Value) (hw : ∀ d ∈ tables_1, d.before a0 Z = true) (xb : Addr) (cs : Int32) (sf : Value) (xi xa : Addr) (h0 : Heap) (n0 : Nat) (Z0 : n0 ≤ h0.size) (V_xb : Bv Z h0 xb (1 : Int32) (fun _ => (112 : Int32))) (hO : Ext Z.heap h0) (hJ : JS Z cs sf xi xa) :
    Con l Z (⟨"java/lang/StringLatin1", "charAt", "([BI)C"⟩ : MethodName) jdk_43_method_2_code 2 (some .char) ({ frames := 2, cells := 0, slots := 0, locals := 40 } : Room) #[(.ref xb), (.int (0 : Int32))] h0 (fun r h L => r = (some (.int (112 : Int32))) ∧ Fr n0 L ∧ h = h0) :=
  con_of pn_16 (fun p_ e_ s_ m_ b_ meth_ c_ T_ X_ hx hZ hby hml hown hnm hret hlk e0 => Go.cast (ef_rm16 m_ xb) (w16 xb cs sf xi xa X_ hx hZ hw hby hml hown hnm hret hlk e0 Z0 (Fr.nil n0) V_xb hO hJ))
theorem d15_0 : decode jdk_42_method_56_code 0 = .ok (.aload_n 0, 1) := by decide +kernel
theorem d15_1 : decode jdk_42_method_56_code 1 = .ok (.invokevirtual 492, 3) := by decide +kernel
theorem d15_4 : decode jdk_42_method_56_code 4 = .ok (.ifCond .eq 12, 3) := by decide +kernel
theorem d15_7 : decode jdk_42_method_56_code 7 = .ok (.aload_n 0, 1) := by decide +kernel
theorem d15_8 : decode jdk_42_method_56_code 8 = .ok (.getfield 9, 3) := by decide +kernel
theorem d15_11 : decode jdk_42_method_56_code 11 = .ok (.iload_n 1, 1) := by decide +kernel
theorem d15_12 : decode jdk_42_method_56_code 12 = .ok (.invokestatic 495, 3) := by decide +kernel
theorem d15_15 : decode jdk_42_method_56_code 15 = .ok (.ireturn, 1) := by decide +kernel
set_option maxRecDepth 65536 in
set_option maxHeartbeats 40000000 in
theorem w15 {p : Program} {l : Launch} {e : Env} {s : State} {m : MethodId} {args : Array Value} {below : List Frame} {meth : Method} {c_ : Code} {T0 : State} {locs : List Loc} {Z : State} {a0 : Array Value} {h0 : Heap} {n0 : Nat} (b xb : Addr) (cs : Int32) (sf : Value) (xi xa : Addr)
    (X0 : Stand p l e ({ frames := 3, cells := 0, slots := 0, locals := 60 } : Room) s m args below meth c_ T0 locs 0 0) (hx : p.tables.exec = Jvm.exec) (hZ : Z.Warmed39 s.vm) (hw : ∀ d ∈ tables_1, d.before a0 Z = true) (hby : c_.code = jdk_42_method_56_code) (hml : c_.maxLocals = 2) (hown : s.vm.findClass "java/lang/String" = some m.cls) (hnm : meth.name = "charAt") (hret : meth.sig.returnType = some .char) (hlk : meth.locks = false) (e0 : T0.heap = h0) (Z0 : n0 ≤ h0.size) (N0 : Fr n0 locs) (E_b : Exa Z h0 b "java/lang/String") (F_value_b : Fld Z h0 b "java/lang/String" "value" "[B" (.ref xb)) (F_coder_b : Fld Z h0 b "java/lang/String" "coder" "B" (.int (0 : Int32))) (V_xb : Bv Z h0 xb (1 : Int32) (fun _ => (112 : Int32))) (hO : Ext Z.heap h0) (hJ : JS Z cs sf xi xa) :
    Go p e below s ({ frames := 3, cells := 0, slots := 0, locals := 60 } : Room).cells ({ frames := 3, cells := 0, slots := 0, locals := 60 } : Room).slots (fun r h L => r = (some (.int (112 : Int32))) ∧ Fr n0 L ∧ h = h0) T0 (mkF m 0 #[.val (.ref b), .val (.int (0 : Int32))] []) := by
  show Go _ _ _ _ _ _ _ T0 (mkF m 0 #[.val (.ref b), .val (.int (0 : Int32))] [])
  refine Go.step (fun _ k => XS.aloadN X0.here hx rfl (hb hby d15_0) rfl rfl k) ?_
  show Go _ _ _ _ _ _ _ T0 (mkF m 1 #[.val (.ref b), .val (.int (0 : Int32))] [(.ref b)])
  refine Go.callV X0 hx hZ (by rw [hml]; rfl) (y := (⟨"java/lang/String", "isLatin1", "()Z"⟩ : MethodName)) (z := (⟨"java/lang/String", "isLatin1", "()Z"⟩ : MethodName)) (a := b) (argsL := []) (rest := []) hown (hw _ (mI 41 rfl)) (hw _ (mI 42 rfl)) (notFace_of_selects (args := #[]) (mvT hZ (hw _ (mI 44 rfl)))) (hw _ (mI 44 rfl)) (hw _ (mI 43 rfl)) (hw _ (mI 9 rfl)) (hw _ (mI 45 rfl)) (by decide) (rm8 l Z a0 hw b xb cs sf xi xa h0 n0 Z0 E_b F_value_b F_coder_b V_xb hO hJ) e0 E_b (hb hby d15_1) (lenOf pd_4 rfl) rfl rfl (W := 0) (Nat.le_of_eq rfl) (by decide) (by decide) (by decide) (by decide) ?_
  intro v1 T1 L1 X1 Q1
  obtain ⟨rfl, N1q, hh1⟩ := Q1
  have N1 := Fr.app N0 N1q
  show Go _ _ _ _ _ _ _ T1 (mkF m 4 #[.val (.ref b), .val (.int (0 : Int32))] [(.int (1 : Int32))])
  refine Go.step (fun _ k => XS.ifNo X1.here hx rfl (hb hby d15_4) rfl ((if0 _ _).trans (feq (by decide : ¬ ((1 : Int32) = (0 : Int32)))).1) k) ?_
  show Go _ _ _ _ _ _ _ T1 (mkF m 7 #[.val (.ref b), .val (.int (0 : Int32))] [])
  refine Go.step (fun _ k => XS.aloadN X1.here hx rfl (hb hby d15_7) rfl rfl k) ?_
  show Go _ _ _ _ _ _ _ T1 (mkF m 8 #[.val (.ref b), .val (.int (0 : Int32))] [(.ref b)])
  obtain ⟨T2, X2, e2, st2⟩ := getF X1 hx hZ hown (host := "") (Or.inl (hw _ (mI 48 rfl))) Via.refl hh1 F_value_b (g := (mkF m 8 #[.val (.ref b), .val (.int (0 : Int32))] [(.ref b)])) rfl rfl (hb hby d15_8)
  refine Go.step st2 ?_
  show Go _ _ _ _ _ _ _ T2 (mkF m 11 #[.val (.ref b), .val (.int (0 : Int32))] [(.ref xb)])
  refine Go.step (fun _ k => XS.iloadN X2.here hx rfl (hb hby d15_11) rfl k) ?_
  show Go _ _ _ _ _ _ _ T2 (mkF m 12 #[.val (.ref b), .val (.int (0 : Int32))] [(.int (0 : Int32)), (.ref xb)])
  refine Go.callS X2 hx hZ (by rw [hml]; rfl) (y := (⟨"java/lang/StringLatin1", "charAt", "([BI)C"⟩ : MethodName)) (argsL := [(.ref xb), (.int (0 : Int32))]) (rest := []) hown (hw _ (mI 85 rfl)) (hw _ (mI 86 rfl)) (hw _ (mI 51 rfl)) (hw _ (mI 87 rfl)) (by decide) (rm16 l Z a0 hw xb cs sf xi xa h0 n0 Z0 V_xb hO hJ) e2 (hb hby d15_12) (lenOf pd_2 rfl) rfl rfl (W := 0) (Nat.le_of_eq rfl) (by decide) (by decide) (by decide) (by decide) ?_
  intro v3 T3 L3 X3 Q3
  obtain ⟨rfl, N3q, hh3⟩ := Q3
  have N3 := Fr.app N1 N3q
  show Go _ _ _ _ _ _ _ T3 (mkF m 15 #[.val (.ref b), .val (.int (0 : Int32))] [(.int (112 : Int32))])
  refine Go.retW X3 hx hlk hret rfl (Or.inl ⟨rfl, Or.inr (Or.inr (Or.inr (Or.inl rfl))), _, rfl⟩) (hb hby d15_15) (by decide) (by decide) ?_
  try rw [hh3]
  exact ⟨rfl, N3, rfl⟩
theorem pn_15 : plainFor (⟨"java/lang/String", "charAt", "(I)C"⟩ : MethodName) = true := by decide +kernel
theorem ef_rm15 (m : MethodId) (b : Addr) : entryFrame m #[(.ref b), (.int (0 : Int32))] 2 = mkF m 0 #[.val (.ref b), .val (.int (0 : Int32))] [] := by first | (simp [entryFrame, mkF, argsToLocals, Value.category]; done) | rfl
theorem rm15 (l : Launch) (Z : State) (a0 : Array Value) (hw : ∀ d ∈ tables_1, d.before a0 Z = true) (b xb : Addr) (cs : Int32) (sf : Value) (xi xa : Addr) (h0 : Heap) (n0 : Nat) (Z0 : n0 ≤ h0.size) (E_b : Exa Z h0 b "java/lang/String") (F_value_b : Fld Z h0 b "java/lang/String" "value" "[B" (.ref xb)) (F_coder_b : Fld Z h0 b "java/lang/String" "coder" "B" (.int (0 : Int32))) (V_xb : Bv Z h0 xb (1 : Int32) (fun _ => (112 : Int32))) (hO : Ext Z.heap h0) (hJ : JS Z cs sf xi xa) :
    Con l Z (⟨"java/lang/String", "charAt", "(I)C"⟩ : MethodName) jdk_42_method_56_code 2 (some .char) ({ frames := 3, cells := 0, slots := 0, locals := 60 } : Room) #[(.ref b), (.int (0 : Int32))] h0 (fun r h L => r = (some (.int (112 : Int32))) ∧ Fr n0 L ∧ h = h0) :=
  con_of pn_15 (fun p_ e_ s_ m_ b_ meth_ c_ T_ X_ hx hZ hby hml hown hnm hret hlk e0 => Go.cast (ef_rm15 m_ b) (w15 b xb cs sf xi xa X_ hx hZ hw hby hml hown hnm hret hlk e0 Z0 (Fr.nil n0) E_b F_value_b F_coder_b V_xb hO hJ))
theorem d20_0 : decode jdk_89_method_89_code 0 = .ok (.iload_n 0, 1) := by decide +kernel
theorem d20_1 : decode jdk_89_method_89_code 1 = .ok (.sipush 159, 3) := by decide +kernel
theorem d20_4 : decode jdk_89_method_89_code 4 = .ok (.if_icmp .gt 19, 3) := by decide +kernel
theorem d20_7 : decode jdk_89_method_89_code 7 = .ok (.iload_n 0, 1) := by decide +kernel
theorem d20_8 : decode jdk_89_method_89_code 8 = .ok (.bipush 127, 2) := by decide +kernel
theorem d20_10 : decode jdk_89_method_89_code 10 = .ok (.if_icmp .ge 9, 3) := by decide +kernel
theorem d20_13 : decode jdk_89_method_89_code 13 = .ok (.iload_n 0, 1) := by decide +kernel
theorem d20_14 : decode jdk_89_method_89_code 14 = .ok (.iconst 5, 1) := by decide +kernel
theorem d20_15 : decode jdk_89_method_89_code 15 = .ok (.iushr, 1) := by decide +kernel
theorem d20_16 : decode jdk_89_method_89_code 16 = .ok (.ifCond .ne 7, 3) := by decide +kernel
theorem d20_23 : decode jdk_89_method_89_code 23 = .ok (.iconst 0, 1) := by decide +kernel
theorem d20_24 : decode jdk_89_method_89_code 24 = .ok (.ireturn, 1) := by decide +kernel
set_option maxRecDepth 65536 in
set_option maxHeartbeats 40000000 in
theorem w20 {p : Program} {l : Launch} {e : Env} {s : State} {m : MethodId} {args : Array Value} {below : List Frame} {meth : Method} {c_ : Code} {T0 : State} {locs : List Loc} {Z : State} {a0 : Array Value} {h0 : Heap} {n0 : Nat} 
    (X0 : Stand p l e ({ frames := 0, cells := 0, slots := 0, locals := 0 } : Room) s m args below meth c_ T0 locs 0 0) (hx : p.tables.exec = Jvm.exec) (hZ : Z.Warmed39 s.vm) (hw : ∀ d ∈ tables_1, d.before a0 Z = true) (hby : c_.code = jdk_89_method_89_code) (hml : c_.maxLocals = 1) (hown : s.vm.findClass "java/lang/Character" = some m.cls) (hnm : meth.name = "isISOControl") (hret : meth.sig.returnType = some .boolean) (hlk : meth.locks = false) (e0 : T0.heap = h0) (Z0 : n0 ≤ h0.size) (N0 : Fr n0 locs)  :
    Go p e below s ({ frames := 0, cells := 0, slots := 0, locals := 0 } : Room).cells ({ frames := 0, cells := 0, slots := 0, locals := 0 } : Room).slots (fun r h L => r = (some (.int (0 : Int32))) ∧ Fr n0 L ∧ h = h0) T0 (mkF m 0 #[.val (.int (112 : Int32))] []) := by
  show Go _ _ _ _ _ _ _ T0 (mkF m 0 #[.val (.int (112 : Int32))] [])
  refine Go.step (fun _ k => XS.iloadN X0.here hx rfl (hb hby d20_0) rfl k) ?_
  show Go _ _ _ _ _ _ _ T0 (mkF m 1 #[.val (.int (112 : Int32))] [(.int (112 : Int32))])
  refine Go.step (fun _ k => XS.sipush X0.here hx rfl (hb hby d20_1) k) ?_
  show Go _ _ _ _ _ _ _ T0 (mkF m 4 #[.val (.int (112 : Int32))] [(.int (159 : Int32)), (.int (112 : Int32))])
  refine Go.step (fun _ k => XS.icmpNo X0.here hx rfl (hb hby d20_4) rfl (flt (by decide : ¬ ((159 : Int32) < (112 : Int32)))).2.2.1 k) ?_
  show Go _ _ _ _ _ _ _ T0 (mkF m 7 #[.val (.int (112 : Int32))] [])
  refine Go.step (fun _ k => XS.iloadN X0.here hx rfl (hb hby d20_7) rfl k) ?_
  show Go _ _ _ _ _ _ _ T0 (mkF m 8 #[.val (.int (112 : Int32))] [(.int (112 : Int32))])
  refine Go.step (fun _ k => XS.bipush X0.here hx rfl (hb hby d20_8) k) ?_
  show Go _ _ _ _ _ _ _ T0 (mkF m 10 #[.val (.int (112 : Int32))] [(.int (127 : Int32)), (.int (112 : Int32))])
  refine Go.step (fun _ k => XS.icmpNo X0.here hx rfl (hb hby d20_10) rfl (tlt (by decide : (112 : Int32) < (127 : Int32))).2.1 k) ?_
  show Go _ _ _ _ _ _ _ T0 (mkF m 13 #[.val (.int (112 : Int32))] [])
  refine Go.step (fun _ k => XS.iloadN X0.here hx rfl (hb hby d20_13) rfl k) ?_
  show Go _ _ _ _ _ _ _ T0 (mkF m 14 #[.val (.int (112 : Int32))] [(.int (112 : Int32))])
  refine Go.step (fun _ k => XS.iconst X0.here hx rfl (hb hby d20_14) k) ?_
  show Go _ _ _ _ _ _ _ T0 (mkF m 15 #[.val (.int (112 : Int32))] [(.int (5 : Int32)), (.int (112 : Int32))])
  refine Go.step (fun _ k => XS.iushr X0.here hx rfl (hb hby d20_15) rfl k) ?_
  show Go _ _ _ _ _ _ _ T0 (mkF m 16 #[.val (.int (112 : Int32))] [(.int (3 : Int32))])
  refine Go.step (fun _ k => XS.ifYes X0.here hx rfl (pc0 := 16) (pc' := 23) rfl (hb hby d20_16) rfl ((if0 _ _).trans (feq (by decide : ¬ ((3 : Int32) = (0 : Int32)))).2) (by decide) (by decide) k) ?_
  show Go _ _ _ _ _ _ _ T0 (mkF m 23 #[.val (.int (112 : Int32))] [])
  refine Go.step (fun _ k => XS.iconst X0.here hx rfl (hb hby d20_23) k) ?_
  show Go _ _ _ _ _ _ _ T0 (mkF m 24 #[.val (.int (112 : Int32))] [(.int (0 : Int32))])
  refine Go.retZ X0 hx hlk hret (by decide) (hb hby d20_24) (by decide) (by decide) ?_
  try rw [e0]
  exact ⟨rfl, N0, rfl⟩
theorem pn_20 : plainFor (⟨"java/lang/Character", "isISOControl", "(I)Z"⟩ : MethodName) = true := by decide +kernel
theorem ef_rm20 (m : MethodId)  : entryFrame m #[(.int (112 : Int32))] 1 = mkF m 0 #[.val (.int (112 : Int32))] [] := by first | (simp [entryFrame, mkF, argsToLocals, Value.category]; done) | rfl
theorem rm20 (l : Launch) (Z : State) (a0 : Array Value) (hw : ∀ d ∈ tables_1, d.before a0 Z = true)  (h0 : Heap) (n0 : Nat) (Z0 : n0 ≤ h0.size)  :
    Con l Z (⟨"java/lang/Character", "isISOControl", "(I)Z"⟩ : MethodName) jdk_89_method_89_code 1 (some .boolean) ({ frames := 0, cells := 0, slots := 0, locals := 0 } : Room) #[(.int (112 : Int32))] h0 (fun r h L => r = (some (.int (0 : Int32))) ∧ Fr n0 L ∧ h = h0) :=
  con_of pn_20 (fun p_ e_ s_ m_ b_ meth_ c_ T_ X_ hx hZ hby hml hown hnm hret hlk e0 => Go.cast (ef_rm20 m_ ) (w20  X_ hx hZ hw hby hml hown hnm hret hlk e0 Z0 (Fr.nil n0) ))
theorem d19_0 : decode jdk_89_method_88_code 0 = .ok (.iload_n 0, 1) := by decide +kernel
theorem d19_1 : decode jdk_89_method_88_code 1 = .ok (.invokestatic 266, 3) := by decide +kernel
theorem d19_4 : decode jdk_89_method_88_code 4 = .ok (.ireturn, 1) := by decide +kernel
set_option maxRecDepth 65536 in
set_option maxHeartbeats 40000000 in
theorem w19 {p : Program} {l : Launch} {e : Env} {s : State} {m : MethodId} {args : Array Value} {below : List Frame} {meth : Method} {c_ : Code} {T0 : State} {locs : List Loc} {Z : State} {a0 : Array Value} {h0 : Heap} {n0 : Nat} 
    (X0 : Stand p l e ({ frames := 1, cells := 0, slots := 0, locals := 20 } : Room) s m args below meth c_ T0 locs 0 0) (hx : p.tables.exec = Jvm.exec) (hZ : Z.Warmed39 s.vm) (hw : ∀ d ∈ tables_1, d.before a0 Z = true) (hby : c_.code = jdk_89_method_88_code) (hml : c_.maxLocals = 1) (hown : s.vm.findClass "java/lang/Character" = some m.cls) (hnm : meth.name = "isISOControl") (hret : meth.sig.returnType = some .boolean) (hlk : meth.locks = false) (e0 : T0.heap = h0) (Z0 : n0 ≤ h0.size) (N0 : Fr n0 locs)  :
    Go p e below s ({ frames := 1, cells := 0, slots := 0, locals := 20 } : Room).cells ({ frames := 1, cells := 0, slots := 0, locals := 20 } : Room).slots (fun r h L => r = (some (.int (0 : Int32))) ∧ Fr n0 L ∧ h = h0) T0 (mkF m 0 #[.val (.int (112 : Int32))] []) := by
  show Go _ _ _ _ _ _ _ T0 (mkF m 0 #[.val (.int (112 : Int32))] [])
  refine Go.step (fun _ k => XS.iloadN X0.here hx rfl (hb hby d19_0) rfl k) ?_
  show Go _ _ _ _ _ _ _ T0 (mkF m 1 #[.val (.int (112 : Int32))] [(.int (112 : Int32))])
  refine Go.callS X0 hx hZ (by rw [hml]; rfl) (y := (⟨"java/lang/Character", "isISOControl", "(I)Z"⟩ : MethodName)) (argsL := [(.int (112 : Int32))]) (rest := []) hown (hw _ (mI 100 rfl)) (hw _ (mI 101 rfl)) (hw _ (mI 98 rfl)) (hw _ (mI 102 rfl)) (by decide) (rm20 l Z a0 hw  h0 n0 Z0 ) e0 (hb hby d19_1) (lenOf pd_3 rfl) rfl rfl (W := 0) (Nat.le_of_eq rfl) (by decide) (by decide) (by decide) (by decide) ?_
  intro v1 T1 L1 X1 Q1
  obtain ⟨rfl, N1q, hh1⟩ := Q1
  have N1 := Fr.app N0 N1q
  show Go _ _ _ _ _ _ _ T1 (mkF m 4 #[.val (.int (112 : Int32))] [(.int (0 : Int32))])
  refine Go.retZ X1 hx hlk hret (by decide) (hb hby d19_4) (by decide) (by decide) ?_
  try rw [hh1]
  exact ⟨rfl, N1, rfl⟩
theorem pn_19 : plainFor (⟨"java/lang/Character", "isISOControl", "(C)Z"⟩ : MethodName) = true := by decide +kernel
theorem ef_rm19 (m : MethodId)  : entryFrame m #[(.int (112 : Int32))] 1 = mkF m 0 #[.val (.int (112 : Int32))] [] := by first | (simp [entryFrame, mkF, argsToLocals, Value.category]; done) | rfl
theorem rm19 (l : Launch) (Z : State) (a0 : Array Value) (hw : ∀ d ∈ tables_1, d.before a0 Z = true)  (h0 : Heap) (n0 : Nat) (Z0 : n0 ≤ h0.size)  :
    Con l Z (⟨"java/lang/Character", "isISOControl", "(C)Z"⟩ : MethodName) jdk_89_method_88_code 1 (some .boolean) ({ frames := 1, cells := 0, slots := 0, locals := 20 } : Room) #[(.int (112 : Int32))] h0 (fun r h L => r = (some (.int (0 : Int32))) ∧ Fr n0 L ∧ h = h0) :=
  con_of pn_19 (fun p_ e_ s_ m_ b_ meth_ c_ T_ X_ hx hZ hby hml hown hnm hret hlk e0 => Go.cast (ef_rm19 m_ ) (w19  X_ hx hZ hw hby hml hown hnm hret hlk e0 Z0 (Fr.nil n0) ))
theorem d5_0 : decode prog_25_method_2_code 0 = .ok (.aload_n 0, 1) := by decide +kernel
theorem d5_1 : decode prog_25_method_2_code 1 = .ok (.ifnull 10, 3) := by decide +kernel
theorem d5_4 : decode prog_25_method_2_code 4 = .ok (.aload_n 0, 1) := by decide +kernel
theorem d5_5 : decode prog_25_method_2_code 5 = .ok (.invokevirtual 7, 3) := by decide +kernel
theorem d5_8 : decode prog_25_method_2_code 8 = .ok (.ifCond .eq 13, 3) := by decide +kernel
theorem d5_21 : decode prog_25_method_2_code 21 = .ok (.iconst 0, 1) := by decide +kernel
theorem d5_22 : decode prog_25_method_2_code 22 = .ok (.istore_n 1, 1) := by decide +kernel
theorem d5_23 : decode prog_25_method_2_code 23 = .ok (.iload_n 1, 1) := by decide +kernel
theorem d5_24 : decode prog_25_method_2_code 24 = .ok (.aload_n 0, 1) := by decide +kernel
theorem d5_25 : decode prog_25_method_2_code 25 = .ok (.invokevirtual 20, 3) := by decide +kernel
theorem d5_28 : decode prog_25_method_2_code 28 = .ok (.if_icmp .ge 30, 3) := by decide +kernel
theorem d5_31 : decode prog_25_method_2_code 31 = .ok (.aload_n 0, 1) := by decide +kernel
theorem d5_32 : decode prog_25_method_2_code 32 = .ok (.iload_n 1, 1) := by decide +kernel
theorem d5_33 : decode prog_25_method_2_code 33 = .ok (.invokevirtual 24, 3) := by decide +kernel
theorem pd_9 : parseMethodDescriptor "(I)C" = some ⟨[.int], some .char⟩ := by decide +kernel
theorem d5_36 : decode prog_25_method_2_code 36 = .ok (.invokestatic 28, 3) := by decide +kernel
theorem pd_10 : parseMethodDescriptor "(C)Z" = some ⟨[.char], some .boolean⟩ := by decide +kernel
theorem d5_39 : decode prog_25_method_2_code 39 = .ok (.ifCond .eq 13, 3) := by decide +kernel
theorem d5_52 : decode prog_25_method_2_code 52 = .ok (.iinc 1 1, 3) := by decide +kernel
theorem d5_55 : decode prog_25_method_2_code 55 = .ok (.goto (-32), 3) := by decide +kernel
theorem d5_58 : decode prog_25_method_2_code 58 = .ok (.aload_n 0, 1) := by decide +kernel
theorem d5_59 : decode prog_25_method_2_code 59 = .ok (.areturn, 1) := by decide +kernel
set_option maxRecDepth 65536 in
set_option maxHeartbeats 40000000 in
theorem w5 {p : Program} {l : Launch} {e : Env} {s : State} {m : MethodId} {args : Array Value} {below : List Frame} {meth : Method} {c_ : Code} {T0 : State} {locs : List Loc} {Z : State} {a0 : Array Value} {h0 : Heap} {n0 : Nat} (b xb : Addr) (cs : Int32) (sf : Value) (xi xa : Addr)
    (X0 : Stand p l e ({ frames := 5, cells := 0, slots := 0, locals := 100 } : Room) s m args below meth c_ T0 locs 0 0) (hx : p.tables.exec = Jvm.exec) (hZ : Z.Warmed39 s.vm) (hw : ∀ d ∈ tables_1, d.before a0 Z = true) (hby : c_.code = prog_25_method_2_code) (hml : c_.maxLocals = 2) (hown : s.vm.findClass "com/example/leapwise/leapwise/model/Require" = some m.cls) (hnm : meth.name = "id") (hret : meth.sig.returnType = some (.object "java/lang/String")) (hlk : meth.locks = false) (e0 : T0.heap = h0) (Z0 : n0 ≤ h0.size) (N0 : Fr n0 locs) (E_b : Exa Z h0 b "java/lang/String") (F_value_b : Fld Z h0 b "java/lang/String" "value" "[B" (.ref xb)) (F_coder_b : Fld Z h0 b "java/lang/String" "coder" "B" (.int (0 : Int32))) (V_xb : Bv Z h0 xb (1 : Int32) (fun _ => (112 : Int32))) (hO : Ext Z.heap h0) (hJ : JS Z cs sf xi xa) :
    Go p e below s ({ frames := 5, cells := 0, slots := 0, locals := 100 } : Room).cells ({ frames := 5, cells := 0, slots := 0, locals := 100 } : Room).slots (fun r h L => r = (some (.ref b)) ∧ Fr n0 L ∧ h = h0) T0 (mkF m 0 #[.val (.ref b), .unset] []) := by
  show Go _ _ _ _ _ _ _ T0 (mkF m 0 #[.val (.ref b), .unset] [])
  refine Go.step (fun _ k => XS.aloadN X0.here hx rfl (hb hby d5_0) rfl rfl k) ?_
  show Go _ _ _ _ _ _ _ T0 (mkF m 1 #[.val (.ref b), .unset] [(.ref b)])
  refine Go.step (fun _ k => XS.ifnullNo X0.here hx rfl (hb hby d5_1) rfl k) ?_
  show Go _ _ _ _ _ _ _ T0 (mkF m 4 #[.val (.ref b), .unset] [])
  refine Go.step (fun _ k => XS.aloadN X0.here hx rfl (hb hby d5_4) rfl rfl k) ?_
  show Go _ _ _ _ _ _ _ T0 (mkF m 5 #[.val (.ref b), .unset] [(.ref b)])
  refine Go.callV X0 hx hZ (by rw [hml]; rfl) (y := (⟨"java/lang/String", "isBlank", "()Z"⟩ : MethodName)) (z := (⟨"java/lang/String", "isBlank", "()Z"⟩ : MethodName)) (a := b) (argsL := []) (rest := []) hown (hw _ (mI 31 rfl)) (hw _ (mI 32 rfl)) (notFace_of_selects (args := #[]) (mvT hZ (hw _ (mI 34 rfl)))) (hw _ (mI 34 rfl)) (hw _ (mI 33 rfl)) (hw _ (mI 9 rfl)) (hw _ (mI 35 rfl)) (by decide) (rm6 l Z a0 hw b xb cs sf xi xa h0 n0 Z0 E_b F_value_b F_coder_b V_xb hO hJ) e0 E_b (hb hby d5_5) (lenOf pd_4 rfl) rfl rfl (W := 0) (Nat.le_of_eq rfl) (by decide) (by decide) (by decide) (by decide) ?_
  intro v1 T1 L1 X1 Q1
  obtain ⟨rfl, N1q, hh1⟩ := Q1
  have N1 := Fr.app N0 N1q
  show Go _ _ _ _ _ _ _ T1 (mkF m 8 #[.val (.ref b), .unset] [(.int (0 : Int32))])
  refine Go.step (fun _ k => XS.ifYes X1.here hx rfl (pc0 := 8) (pc' := 21) rfl (hb hby d5_8) rfl ((if0 _ _).trans (teq (by decide : (0 : Int32) = (0 : Int32))).1) (by decide) (by decide) k) ?_
  show Go _ _ _ _ _ _ _ T1 (mkF m 21 #[.val (.ref b), .unset] [])
  refine Go.step (fun _ k => XS.iconst X1.here hx rfl (hb hby d5_21) k) ?_
  show Go _ _ _ _ _ _ _ T1 (mkF m 22 #[.val (.ref b), .unset] [(.int (0 : Int32))])
  refine Go.step (fun _ k => XS.istoreN X1.here hx rfl (hb hby d5_22) rfl (l' := #[.val (.ref b), .val (.int (0 : Int32))]) rfl k) ?_
  show Go _ _ _ _ _ _ _ T1 (mkF m 23 #[.val (.ref b), .val (.int (0 : Int32))] [])
  refine Go.step (fun _ k => XS.iloadN X1.here hx rfl (hb hby d5_23) rfl k) ?_
  show Go _ _ _ _ _ _ _ T1 (mkF m 24 #[.val (.ref b), .val (.int (0 : Int32))] [(.int (0 : Int32))])
  refine Go.step (fun _ k => XS.aloadN X1.here hx rfl (hb hby d5_24) rfl rfl k) ?_
  show Go _ _ _ _ _ _ _ T1 (mkF m 25 #[.val (.ref b), .val (.int (0 : Int32))] [(.ref b), (.int (0 : Int32))])
  refine Go.callV X1 hx hZ (by rw [hml]; rfl) (y := (⟨"java/lang/String", "length", "()I"⟩ : MethodName)) (z := (⟨"java/lang/String", "length", "()I"⟩ : MethodName)) (a := b) (argsL := []) (rest := [(.int (0 : Int32))]) hown (hw _ (mI 79 rfl)) (hw _ (mI 70 rfl)) (notFace_of_selects (args := #[]) (mvT hZ (hw _ (mI 72 rfl)))) (hw _ (mI 72 rfl)) (hw _ (mI 71 rfl)) (hw _ (mI 9 rfl)) (hw _ (mI 73 rfl)) (by decide) (rm13 l Z a0 hw b xb cs sf xi xa h0 n0 Z0 E_b F_value_b F_coder_b V_xb hO hJ) hh1 E_b (hb hby d5_25) (lenOf pd_6 rfl) rfl rfl (W := 1) (Nat.le_of_eq rfl) (by decide) (by decide) (by decide) (by decide) ?_
  intro v2 T2 L2 X2 Q2
  obtain ⟨rfl, N2q, hh2⟩ := Q2
  have N2 := Fr.app N1 N2q
  show Go _ _ _ _ _ _ _ T2 (mkF m 28 #[.val (.ref b), .val (.int (0 : Int32))] [(.int (1 : Int32)), (.int (0 : Int32))])
  refine Go.step (fun _ k => XS.icmpNo X2.here hx rfl (hb hby d5_28) rfl (tlt (by decide : (0 : Int32) < (1 : Int32))).2.1 k) ?_
  show Go _ _ _ _ _ _ _ T2 (mkF m 31 #[.val (.ref b), .val (.int (0 : Int32))] [])
  refine Go.step (fun _ k => XS.aloadN X2.here hx rfl (hb hby d5_31) rfl rfl k) ?_
  show Go _ _ _ _ _ _ _ T2 (mkF m 32 #[.val (.ref b), .val (.int (0 : Int32))] [(.ref b)])
  refine Go.step (fun _ k => XS.iloadN X2.here hx rfl (hb hby d5_32) rfl k) ?_
  show Go _ _ _ _ _ _ _ T2 (mkF m 33 #[.val (.ref b), .val (.int (0 : Int32))] [(.int (0 : Int32)), (.ref b)])
  refine Go.callV X2 hx hZ (by rw [hml]; rfl) (y := (⟨"java/lang/String", "charAt", "(I)C"⟩ : MethodName)) (z := (⟨"java/lang/String", "charAt", "(I)C"⟩ : MethodName)) (a := b) (argsL := [(.int (0 : Int32))]) (rest := []) hown (hw _ (mI 80 rfl)) (hw _ (mI 81 rfl)) (notFace_of_selects (args := #[]) (mvT hZ (hw _ (mI 83 rfl)))) (hw _ (mI 83 rfl)) (hw _ (mI 82 rfl)) (hw _ (mI 9 rfl)) (hw _ (mI 84 rfl)) (by decide) (rm15 l Z a0 hw b xb cs sf xi xa h0 n0 Z0 E_b F_value_b F_coder_b V_xb hO hJ) hh2 E_b (hb hby d5_33) (lenOf pd_9 rfl) rfl rfl (W := 0) (Nat.le_of_eq rfl) (by decide) (by decide) (by decide) (by decide) ?_
  intro v3 T3 L3 X3 Q3
  obtain ⟨rfl, N3q, hh3⟩ := Q3
  have N3 := Fr.app N2 N3q
  show Go _ _ _ _ _ _ _ T3 (mkF m 36 #[.val (.ref b), .val (.int (0 : Int32))] [(.int (112 : Int32))])
  refine Go.callS X3 hx hZ (by rw [hml]; rfl) (y := (⟨"java/lang/Character", "isISOControl", "(C)Z"⟩ : MethodName)) (argsL := [(.int (112 : Int32))]) (rest := []) hown (hw _ (mI 96 rfl)) (hw _ (mI 97 rfl)) (hw _ (mI 98 rfl)) (hw _ (mI 99 rfl)) (by decide) (rm19 l Z a0 hw  h0 n0 Z0 ) hh3 (hb hby d5_36) (lenOf pd_10 rfl) rfl rfl (W := 0) (Nat.le_of_eq rfl) (by decide) (by decide) (by decide) (by decide) ?_
  intro v4 T4 L4 X4 Q4
  obtain ⟨rfl, N4q, hh4⟩ := Q4
  have N4 := Fr.app N3 N4q
  show Go _ _ _ _ _ _ _ T4 (mkF m 39 #[.val (.ref b), .val (.int (0 : Int32))] [(.int (0 : Int32))])
  refine Go.step (fun _ k => XS.ifYes X4.here hx rfl (pc0 := 39) (pc' := 52) rfl (hb hby d5_39) rfl ((if0 _ _).trans (teq (by decide : (0 : Int32) = (0 : Int32))).1) (by decide) (by decide) k) ?_
  show Go _ _ _ _ _ _ _ T4 (mkF m 52 #[.val (.ref b), .val (.int (0 : Int32))] [])
  refine Go.step (fun _ k => XS.iinc X4.here hx rfl (hb hby d5_52) rfl (l' := #[.val (.ref b), .val (.int (1 : Int32))]) rfl k) ?_
  show Go _ _ _ _ _ _ _ T4 (mkF m 55 #[.val (.ref b), .val (.int (1 : Int32))] [])
  refine Go.step (fun _ k => XS.goto X4.here hx rfl (pc0 := 55) (pc' := 23) rfl (hb hby d5_55) (by decide) (by decide) k) ?_
  show Go _ _ _ _ _ _ _ T4 (mkF m 23 #[.val (.ref b), .val (.int (1 : Int32))] [])
  refine Go.step (fun _ k => XS.iloadN X4.here hx rfl (hb hby d5_23) rfl k) ?_
  show Go _ _ _ _ _ _ _ T4 (mkF m 24 #[.val (.ref b), .val (.int (1 : Int32))] [(.int (1 : Int32))])
  refine Go.step (fun _ k => XS.aloadN X4.here hx rfl (hb hby d5_24) rfl rfl k) ?_
  show Go _ _ _ _ _ _ _ T4 (mkF m 25 #[.val (.ref b), .val (.int (1 : Int32))] [(.ref b), (.int (1 : Int32))])
  refine Go.callV X4 hx hZ (by rw [hml]; rfl) (y := (⟨"java/lang/String", "length", "()I"⟩ : MethodName)) (z := (⟨"java/lang/String", "length", "()I"⟩ : MethodName)) (a := b) (argsL := []) (rest := [(.int (1 : Int32))]) hown (hw _ (mI 79 rfl)) (hw _ (mI 70 rfl)) (notFace_of_selects (args := #[]) (mvT hZ (hw _ (mI 72 rfl)))) (hw _ (mI 72 rfl)) (hw _ (mI 71 rfl)) (hw _ (mI 9 rfl)) (hw _ (mI 73 rfl)) (by decide) (rm13 l Z a0 hw b xb cs sf xi xa h0 n0 Z0 E_b F_value_b F_coder_b V_xb hO hJ) hh4 E_b (hb hby d5_25) (lenOf pd_6 rfl) rfl rfl (W := 1) (Nat.le_of_eq rfl) (by decide) (by decide) (by decide) (by decide) ?_
  intro v5 T5 L5 X5 Q5
  obtain ⟨rfl, N5q, hh5⟩ := Q5
  have N5 := Fr.app N4 N5q
  show Go _ _ _ _ _ _ _ T5 (mkF m 28 #[.val (.ref b), .val (.int (1 : Int32))] [(.int (1 : Int32)), (.int (1 : Int32))])
  refine Go.step (fun _ k => XS.icmpYes X5.here hx rfl (pc0 := 28) (pc' := 58) rfl (hb hby d5_28) rfl (flt (by decide : ¬ ((1 : Int32) < (1 : Int32)))).2.1 (by decide) (by decide) k) ?_
  show Go _ _ _ _ _ _ _ T5 (mkF m 58 #[.val (.ref b), .val (.int (1 : Int32))] [])
  refine Go.step (fun _ k => XS.aloadN X5.here hx rfl (hb hby d5_58) rfl rfl k) ?_
  show Go _ _ _ _ _ _ _ T5 (mkF m 59 #[.val (.ref b), .val (.int (1 : Int32))] [(.ref b)])
  refine Go.retR X5 hx hlk hret rfl rfl rfl (hb hby d5_59) (by decide) (by decide) ?_
  try rw [hh5]
  exact ⟨rfl, N5, rfl⟩
theorem pn_5 : plainName "com/example/leapwise/leapwise/model/Require" = true := by first | (simp [plainName, overriddenIn]; done) | decide +kernel
theorem ef_rm5 (m : MethodId) (b : Addr) : entryFrame m #[(.ref b)] 2 = mkF m 0 #[.val (.ref b), .unset] [] := by first | (simp [entryFrame, mkF, argsToLocals, Value.category]; done) | rfl
theorem rm5 (l : Launch) (Z : State) (a0 : Array Value) (hw : ∀ d ∈ tables_1, d.before a0 Z = true) (b xb : Addr) (cs : Int32) (sf : Value) (xi xa : Addr) (h0 : Heap) (n0 : Nat) (Z0 : n0 ≤ h0.size) (E_b : Exa Z h0 b "java/lang/String") (F_value_b : Fld Z h0 b "java/lang/String" "value" "[B" (.ref xb)) (F_coder_b : Fld Z h0 b "java/lang/String" "coder" "B" (.int (0 : Int32))) (V_xb : Bv Z h0 xb (1 : Int32) (fun _ => (112 : Int32))) (hO : Ext Z.heap h0) (hJ : JS Z cs sf xi xa) :
    Con l Z (⟨"com/example/leapwise/leapwise/model/Require", "id", "(Ljava/lang/String;)Ljava/lang/String;"⟩ : MethodName) prog_25_method_2_code 2 (some (.object "java/lang/String")) ({ frames := 5, cells := 0, slots := 0, locals := 100 } : Room) #[(.ref b)] h0 (fun r h L => r = (some (.ref b)) ∧ Fr n0 L ∧ h = h0) :=
  con_of (plainFor_of_name pn_5) (fun p_ e_ s_ m_ b_ meth_ c_ T_ X_ hx hZ hby hml hown hnm hret hlk e0 => Go.cast (ef_rm5 m_ b) (w5 b xb cs sf xi xa X_ hx hZ hw hby hml hown hnm hret hlk e0 Z0 (Fr.nil n0) E_b F_value_b F_coder_b V_xb hO hJ))
theorem d3_0 : decode jdk_30_method_1_code 0 = .ok (.aload_n 0, 1) := by decide +kernel
theorem d3_1 : decode jdk_30_method_1_code 1 = .ok (.invokespecial 1, 3) := by decide +kernel
theorem d3_4 : decode jdk_30_method_1_code 4 = .ok (.return_, 1) := by decide +kernel
set_option maxRecDepth 65536 in
set_option maxHeartbeats 40000000 in
theorem w3 {p : Program} {l : Launch} {e : Env} {s : State} {m : MethodId} {args : Array Value} {below : List Frame} {meth : Method} {c_ : Code} {T0 : State} {locs : List Loc} {Z : State} {a0 : Array Value} {h0 : Heap} {n0 : Nat} (a : Addr)
    (X0 : Stand p l e ({ frames := 1, cells := 0, slots := 0, locals := 12 } : Room) s m args below meth c_ T0 locs 0 0) (hx : p.tables.exec = Jvm.exec) (hZ : Z.Warmed39 s.vm) (hw : ∀ d ∈ tables_1, d.before a0 Z = true) (hby : c_.code = jdk_30_method_1_code) (hml : c_.maxLocals = 1) (hown : s.vm.findClass "java/lang/Record" = some m.cls) (hnm : meth.name = "<init>") (hret : meth.sig.returnType = none) (hlk : meth.locks = false) (e0 : T0.heap = h0) (Z0 : n0 ≤ h0.size) (N0 : Fr n0 locs)  :
    Go p e below s ({ frames := 1, cells := 0, slots := 0, locals := 12 } : Room).cells ({ frames := 1, cells := 0, slots := 0, locals := 12 } : Room).slots (fun r h L => r = none ∧ Fr n0 L ∧ h = h0) T0 (mkF m 0 #[.val (.ref a)] []) := by
  show Go _ _ _ _ _ _ _ T0 (mkF m 0 #[.val (.ref a)] [])
  refine Go.step (fun _ k => XS.aloadN X0.here hx rfl (hb hby d3_0) rfl rfl k) ?_
  show Go _ _ _ _ _ _ _ T0 (mkF m 1 #[.val (.ref a)] [(.ref a)])
  obtain ⟨T1, X1, e1, st1⟩ := initO X0 hx hZ hown (hw _ (mI 24 rfl)) (hw _ (mI 25 rfl)) (hw _ (mI 26 rfl)) e0 (g := (mkF m 1 #[.val (.ref a)] [(.ref a)])) rfl (by rw [hml]; rfl) rfl (hb hby d3_1) (by decide) (W := 0) (by show 2 * 0 + _ ≤ _; exact Nat.le_of_eq rfl) (by decide)
  refine Go.step st1 ?_
  show Go _ _ _ _ _ _ _ T1 (mkF m 4 #[.val (.ref a)] [])
  refine Go.retV X1 hx hlk hret (hb hby d3_4) (by decide) (by decide) ?_
  try rw [e1]
  exact ⟨rfl, N0, rfl⟩
theorem pn_3 : plainName "java/lang/Record" = true := by first | (simp [plainName, overriddenIn]; done) | decide +kernel
theorem ef_rm3 (m : MethodId) (a : Addr) : entryFrame m #[(.ref a)] 1 = mkF m 0 #[.val (.ref a)] [] := by first | (simp [entryFrame, mkF, argsToLocals, Value.category]; done) | rfl
theorem rm3 (l : Launch) (Z : State) (a0 : Array Value) (hw : ∀ d ∈ tables_1, d.before a0 Z = true) (a : Addr) (h0 : Heap) (n0 : Nat) (Z0 : n0 ≤ h0.size)  :
    Con l Z (⟨"java/lang/Record", "<init>", "()V"⟩ : MethodName) jdk_30_method_1_code 1 none ({ frames := 1, cells := 0, slots := 0, locals := 12 } : Room) #[(.ref a)] h0 (fun r h L => r = none ∧ Fr n0 L ∧ h = h0) :=
  con_of (plainFor_of_name pn_3) (fun p_ e_ s_ m_ b_ meth_ c_ T_ X_ hx hZ hby hml hown hnm hret hlk e0 => Go.cast (ef_rm3 m_ a) (w3 a X_ hx hZ hw hby hml hown hnm hret hlk e0 Z0 (Fr.nil n0) ))
theorem d23_0 : decode jdk_117_method_8_code 0 = .ok (.dload_n 0, 1) := by decide +kernel
theorem pd_11 : parseMethodDescriptor "(D)D" = some ⟨[.double], some .double⟩ := by decide +kernel
theorem d23_1 : decode jdk_117_method_8_code 1 = .ok (.invokestatic 38, 3) := by decide +kernel
theorem d23_4 : decode jdk_117_method_8_code 4 = .ok (.ldc2_w 111, 3) := by decide +kernel
theorem d23_7 : decode jdk_117_method_8_code 7 = .ok (.dcmp .g, 1) := by decide +kernel
theorem d23_8 : decode jdk_117_method_8_code 8 = .ok (.ifCond .gt 7, 3) := by decide +kernel
theorem d23_11 : decode jdk_117_method_8_code 11 = .ok (.iconst 1, 1) := by decide +kernel
theorem d23_12 : decode jdk_117_method_8_code 12 = .ok (.goto 4, 3) := by decide +kernel
theorem d23_16 : decode jdk_117_method_8_code 16 = .ok (.ireturn, 1) := by decide +kernel
set_option maxRecDepth 65536 in
set_option maxHeartbeats 40000000 in
theorem w23 {p : Program} {l : Launch} {e : Env} {s : State} {m : MethodId} {args : Array Value} {below : List Frame} {meth : Method} {c_ : Code} {T0 : State} {locs : List Loc} {Z : State} {a0 : Array Value} {h0 : Heap} {n0 : Nat} (v : UInt64)
    (X0 : Stand p l e ({ frames := 1, cells := 0, slots := 0, locals := 13 } : Room) s m args below meth c_ T0 locs 0 0) (hx : p.tables.exec = Jvm.exec) (hZ : Z.Warmed39 s.vm) (hw : ∀ d ∈ tables_1, d.before a0 Z = true) (hby : c_.code = jdk_117_method_8_code) (hml : c_.maxLocals = 2) (hown : s.vm.findClass "java/lang/Double" = some m.cls) (hnm : meth.name = "isFinite") (hret : meth.sig.returnType = some .boolean) (hlk : meth.locks = false) (e0 : T0.heap = h0) (Z0 : n0 ≤ h0.size) (N0 : Fr n0 locs) (hf : Jvm.Free.Fl.Fin64 v) :
    Go p e below s ({ frames := 1, cells := 0, slots := 0, locals := 13 } : Room).cells ({ frames := 1, cells := 0, slots := 0, locals := 13 } : Room).slots (fun r h L => r = some (.int 1) ∧ Fr n0 L ∧ h = h0) T0 (mkF m 0 #[.val (.double v), .second] []) := by
  show Go _ _ _ _ _ _ _ T0 (mkF m 0 #[.val (.double v), .second] [])
  refine Go.step (fun _ k => XS.dloadN X0.here hx rfl (hb hby d23_0) rfl k) ?_
  show Go _ _ _ _ _ _ _ T0 (mkF m 1 #[.val (.double v), .second] [(.double v)])
  obtain ⟨T1, X1, e1, st1⟩ := natS X0 hx hZ (y := (⟨"java/lang/Math", "abs", "(D)D"⟩ : MethodName)) hown (hw _ (mI 115 rfl)) (hw _ (mI 116 rfl)) (hw _ (mI 3 rfl)) (hw _ (mI 117 rfl)) (by decide) e0 (W := 0) (F := fun a' => a' = #[.double v] ∧ Jvm.Free.Fl.NoNaN64 v) (val' := (.double (v &&& 0x7fffffffffffffff))) (fun hc => Jvm.Free.Fl.Abs.absD_pays v hc (by decide) (by decide)) (g := (mkF m 1 #[.val (.double v), .second] [(.double v)])) rfl (by rw [hml]; rfl) (argsL := [(.double v)]) (rest := []) (lenOf pd_11 rfl) rfl (by show 2 * 0 + _ ≤ _; exact Nat.le_of_eq rfl) (hb hby d23_1) (by decide) (by decide) ⟨rfl, hf.noNaN⟩ rfl
  refine Go.step st1 ?_
  show Go _ _ _ _ _ _ _ T1 (mkF m 4 #[.val (.double v), .second] [(.double (v &&& 0x7fffffffffffffff))])
  refine Go.step (X1.ldc2DoubleC hx hown (mvT hZ (hw _ (mI 118 rfl))) (g := (mkF m 4 #[.val (.double v), .second] [(.double (v &&& 0x7fffffffffffffff))])) rfl (hb hby d23_4)) ?_
  show Go _ _ _ _ _ _ _ T1 (mkF m 7 #[.val (.double v), .second] [(.double (9218868437227405311 : UInt64)), (.double (v &&& 0x7fffffffffffffff))])
  refine Go.step (fun _ k => XS.dcmpS X1.here hx rfl (hb hby d23_7) rfl rfl k) ?_
  show Go _ _ _ _ _ _ _ T1 (mkF m 8 #[.val (.double v), .second] [(.int (cmpValue (FP.dcmp (v &&& 0x7fffffffffffffff) (9218868437227405311 : UInt64)) .g))])
  refine Go.step (fun _ k => XS.ifNo X1.here hx rfl (hb hby d23_8) rfl (le_y ((Jvm.FP.Core.le_max (own_Ffin hf).notNaN).mpr (own_Ffin hf))) k) ?_
  show Go _ _ _ _ _ _ _ T1 (mkF m 11 #[.val (.double v), .second] [])
  refine Go.step (fun _ k => XS.iconst X1.here hx rfl (hb hby d23_11) k) ?_
  show Go _ _ _ _ _ _ _ T1 (mkF m 12 #[.val (.double v), .second] [(.int (1 : Int32))])
  refine Go.step (fun _ k => XS.goto X1.here hx rfl (pc0 := 12) (pc' := 16) rfl (hb hby d23_12) (by decide) (by decide) k) ?_
  show Go _ _ _ _ _ _ _ T1 (mkF m 16 #[.val (.double v), .second] [(.int (1 : Int32))])
  refine Go.retZ X1 hx hlk hret (by decide) (hb hby d23_16) (by decide) (by decide) ?_
  try rw [e1]
  exact ⟨rfl, N0, rfl⟩
theorem pn_23 : plainName "java/lang/Double" = true := by first | (simp [plainName, overriddenIn]; done) | decide +kernel
theorem ef_rm23 (m : MethodId) (v : UInt64) : entryFrame m #[(.double v)] 2 = mkF m 0 #[.val (.double v), .second] [] := by first | (simp [entryFrame, mkF, argsToLocals, Value.category]; done) | rfl
theorem rm23 (l : Launch) (Z : State) (a0 : Array Value) (hw : ∀ d ∈ tables_1, d.before a0 Z = true) (v : UInt64) (h0 : Heap) (n0 : Nat) (Z0 : n0 ≤ h0.size) (hf : Jvm.Free.Fl.Fin64 v) :
    Con l Z (⟨"java/lang/Double", "isFinite", "(D)Z"⟩ : MethodName) jdk_117_method_8_code 2 (some .boolean) ({ frames := 1, cells := 0, slots := 0, locals := 13 } : Room) #[(.double v)] h0 (fun r h L => r = some (.int 1) ∧ Fr n0 L ∧ h = h0) :=
  con_of (plainFor_of_name pn_23) (fun p_ e_ s_ m_ b_ meth_ c_ T_ X_ hx hZ hby hml hown hnm hret hlk e0 => Go.cast (ef_rm23 m_ v) (w23 v X_ hx hZ hw hby hml hown hnm hret hlk e0 Z0 (Fr.nil n0) hf))
theorem d22_0 : decode prog_25_method_3_code 0 = .ok (.dload_n 1, 1) := by decide +kernel
theorem d22_1 : decode prog_25_method_3_code 1 = .ok (.invokestatic 36, 3) := by decide +kernel
theorem pd_12 : parseMethodDescriptor "(D)Z" = some ⟨[.double], some .boolean⟩ := by decide +kernel
theorem d22_4 : decode prog_25_method_3_code 4 = .ok (.ifCond .ne 18, 3) := by decide +kernel
theorem d22_22 : decode prog_25_method_3_code 22 = .ok (.dload_n 1, 1) := by decide +kernel
theorem d22_23 : decode prog_25_method_3_code 23 = .ok (.dreturn, 1) := by decide +kernel
set_option maxRecDepth 65536 in
set_option maxHeartbeats 40000000 in
theorem w22 {p : Program} {l : Launch} {e : Env} {s : State} {m : MethodId} {args : Array Value} {below : List Frame} {meth : Method} {c_ : Code} {T0 : State} {locs : List Loc} {Z : State} {a0 : Array Value} {h0 : Heap} {n0 : Nat} (a : Addr) (v : UInt64)
    (X0 : Stand p l e ({ frames := 2, cells := 0, slots := 0, locals := 40 } : Room) s m args below meth c_ T0 locs 0 0) (hx : p.tables.exec = Jvm.exec) (hZ : Z.Warmed39 s.vm) (hw : ∀ d ∈ tables_1, d.before a0 Z = true) (hby : c_.code = prog_25_method_3_code) (hml : c_.maxLocals = 3) (hown : s.vm.findClass "com/example/leapwise/leapwise/model/Require" = some m.cls) (hnm : meth.name = "finite") (hret : meth.sig.returnType = some .double) (hlk : meth.locks = false) (e0 : T0.heap = h0) (Z0 : n0 ≤ h0.size) (N0 : Fr n0 locs) (hf : Jvm.Free.Fl.Fin64 v) :
    Go p e below s ({ frames := 2, cells := 0, slots := 0, locals := 40 } : Room).cells ({ frames := 2, cells := 0, slots := 0, locals := 40 } : Room).slots (fun r h L => r = some (.double v) ∧ Fr n0 L ∧ h = h0) T0 (mkF m 0 #[.val (.ref a), .val (.double v), .second] []) := by
  show Go _ _ _ _ _ _ _ T0 (mkF m 0 #[.val (.ref a), .val (.double v), .second] [])
  refine Go.step (fun _ k => XS.dloadN X0.here hx rfl (hb hby d22_0) rfl k) ?_
  show Go _ _ _ _ _ _ _ T0 (mkF m 1 #[.val (.ref a), .val (.double v), .second] [(.double v)])
  refine Go.callS X0 hx hZ (by rw [hml]; rfl) (y := (⟨"java/lang/Double", "isFinite", "(D)Z"⟩ : MethodName)) (argsL := [(.double v)]) (rest := []) hown (hw _ (mI 111 rfl)) (hw _ (mI 112 rfl)) (hw _ (mI 113 rfl)) (hw _ (mI 114 rfl)) (by decide) (rm23 l Z a0 hw v h0 n0 Z0 hf) e0 (hb hby d22_1) (lenOf pd_12 rfl) rfl rfl (W := 0) (Nat.le_of_eq rfl) (by decide) (by decide) (by decide) (by decide) ?_
  intro v1 T1 L1 X1 Q1
  obtain ⟨rfl, N1q, hh1⟩ := Q1
  have N1 := Fr.app N0 N1q
  show Go _ _ _ _ _ _ _ T1 (mkF m 4 #[.val (.ref a), .val (.double v), .second] [(.int (1 : Int32))])
  refine Go.step (fun _ k => XS.ifYes X1.here hx rfl (pc0 := 4) (pc' := 22) rfl (hb hby d22_4) rfl ((if0 _ _).trans (feq (by decide : ¬ ((1 : Int32) = (0 : Int32)))).2) (by decide) (by decide) k) ?_
  show Go _ _ _ _ _ _ _ T1 (mkF m 22 #[.val (.ref a), .val (.double v), .second] [])
  refine Go.step (fun _ k => XS.dloadN X1.here hx rfl (hb hby d22_22) rfl k) ?_
  show Go _ _ _ _ _ _ _ T1 (mkF m 23 #[.val (.ref a), .val (.double v), .second] [(.double v)])
  refine Go.retD X1 hx hlk hret (hb hby d22_23) (by decide) (by decide) ?_
  try rw [hh1]
  exact ⟨rfl, N1, rfl⟩
theorem ef_rm22 (m : MethodId) (a : Addr) (v : UInt64) : entryFrame m #[(.ref a), (.double v)] 3 = mkF m 0 #[.val (.ref a), .val (.double v), .second] [] := by first | (simp [entryFrame, mkF, argsToLocals, Value.category]; done) | rfl
theorem rm22 (l : Launch) (Z : State) (a0 : Array Value) (hw : ∀ d ∈ tables_1, d.before a0 Z = true) (a : Addr) (v : UInt64) (h0 : Heap) (n0 : Nat) (Z0 : n0 ≤ h0.size) (hf : Jvm.Free.Fl.Fin64 v) :
    Con l Z (⟨"com/example/leapwise/leapwise/model/Require", "finite", "(Ljava/lang/String;D)D"⟩ : MethodName) prog_25_method_3_code 3 (some .double) ({ frames := 2, cells := 0, slots := 0, locals := 40 } : Room) #[(.ref a), (.double v)] h0 (fun r h L => r = some (.double v) ∧ Fr n0 L ∧ h = h0) :=
  con_of (plainFor_of_name pn_5) (fun p_ e_ s_ m_ b_ meth_ c_ T_ X_ hx hZ hby hml hown hnm hret hlk e0 => Go.cast (ef_rm22 m_ a v) (w22 a v X_ hx hZ hw hby hml hown hnm hret hlk e0 Z0 (Fr.nil n0) hf))
theorem d21_0 : decode prog_25_method_4_code 0 = .ok (.aload_n 0, 1) := by decide +kernel
theorem d21_1 : decode prog_25_method_4_code 1 = .ok (.dload_n 1, 1) := by decide +kernel
theorem d21_2 : decode prog_25_method_4_code 2 = .ok (.invokestatic 46, 3) := by decide +kernel
theorem pd_13 : parseMethodDescriptor "(Ljava/lang/String;D)D" = some ⟨[(.object "java/lang/String"), .double], some .double⟩ := by decide +kernel
theorem d21_5 : decode prog_25_method_4_code 5 = .ok (.dconst 0, 1) := by decide +kernel
theorem d21_6 : decode prog_25_method_4_code 6 = .ok (.dcmp .l, 1) := by decide +kernel
theorem d21_7 : decode prog_25_method_4_code 7 = .ok (.ifCond .ge 18, 3) := by decide +kernel
theorem d21_25 : decode prog_25_method_4_code 25 = .ok (.dload_n 1, 1) := by decide +kernel
theorem d21_26 : decode prog_25_method_4_code 26 = .ok (.dreturn, 1) := by decide +kernel
set_option maxRecDepth 65536 in
set_option maxHeartbeats 40000000 in
theorem w21 {p : Program} {l : Launch} {e : Env} {s : State} {m : MethodId} {args : Array Value} {below : List Frame} {meth : Method} {c_ : Code} {T0 : State} {locs : List Loc} {Z : State} {a0 : Array Value} {h0 : Heap} {n0 : Nat} (a : Addr) (v : UInt64)
    (X0 : Stand p l e ({ frames := 3, cells := 0, slots := 0, locals := 60 } : Room) s m args below meth c_ T0 locs 0 0) (hx : p.tables.exec = Jvm.exec) (hZ : Z.Warmed39 s.vm) (hw : ∀ d ∈ tables_1, d.before a0 Z = true) (hby : c_.code = prog_25_method_4_code) (hml : c_.maxLocals = 3) (hown : s.vm.findClass "com/example/leapwise/leapwise/model/Require" = some m.cls) (hnm : meth.name = "atLeastZero") (hret : meth.sig.returnType = some .double) (hlk : meth.locks = false) (e0 : T0.heap = h0) (Z0 : n0 ≤ h0.size) (N0 : Fr n0 locs) (hf : Jvm.Free.Fl.Fin64 v) (hge : (FP.dcmp v (0 : UInt64) = some .gt ∨ FP.dcmp v (0 : UInt64) = some .eq)) :
    Go p e below s ({ frames := 3, cells := 0, slots := 0, locals := 60 } : Room).cells ({ frames := 3, cells := 0, slots := 0, locals := 60 } : Room).slots (fun r h L => r = some (.double v) ∧ Fr n0 L ∧ h = h0) T0 (mkF m 0 #[.val (.ref a), .val (.double v), .second] []) := by
  show Go _ _ _ _ _ _ _ T0 (mkF m 0 #[.val (.ref a), .val (.double v), .second] [])
  refine Go.step (fun _ k => XS.aloadN X0.here hx rfl (hb hby d21_0) rfl rfl k) ?_
  show Go _ _ _ _ _ _ _ T0 (mkF m 1 #[.val (.ref a), .val (.double v), .second] [(.ref a)])
  refine Go.step (fun _ k => XS.dloadN X0.here hx rfl (hb hby d21_1) rfl k) ?_
  show Go _ _ _ _ _ _ _ T0 (mkF m 2 #[.val (.ref a), .val (.double v), .second] [(.double v), (.ref a)])
  refine Go.callS X0 hx hZ (by rw [hml]; rfl) (y := (⟨"com/example/leapwise/leapwise/model/Require", "finite", "(Ljava/lang/String;D)D"⟩ : MethodName)) (argsL := [(.ref a), (.double v)]) (rest := []) hown (hw _ (mI 108 rfl)) (hw _ (mI 109 rfl)) (hw _ (mI 29 rfl)) (hw _ (mI 110 rfl)) (by decide) (rm22 l Z a0 hw a v h0 n0 Z0 hf) e0 (hb hby d21_2) (lenOf pd_13 rfl) rfl rfl (W := 0) (Nat.le_of_eq rfl) (by decide) (by decide) (by decide) (by decide) ?_
  intro v1 T1 L1 X1 Q1
  obtain ⟨rfl, N1q, hh1⟩ := Q1
  have N1 := Fr.app N0 N1q
  show Go _ _ _ _ _ _ _ T1 (mkF m 5 #[.val (.ref a), .val (.double v), .second] [(.double v)])
  refine Go.step (fun _ k => XS.dconst0 X1.here hx rfl (hb hby d21_5) rfl k) ?_
  show Go _ _ _ _ _ _ _ T1 (mkF m 6 #[.val (.ref a), .val (.double v), .second] [(.double (0 : UInt64)), (.double v)])
  refine Go.step (fun _ k => XS.dcmpS X1.here hx rfl (hb hby d21_6) rfl rfl k) ?_
  show Go _ _ _ _ _ _ _ T1 (mkF m 7 #[.val (.ref a), .val (.double v), .second] [(.int (cmpValue (FP.dcmp v (0 : UInt64)) .l))])
  refine Go.step (fun _ k => XS.ifYes X1.here hx rfl (pc0 := 7) (pc' := 25) rfl (hb hby d21_7) rfl (geT_y hge) (by decide) (by decide) k) ?_
  show Go _ _ _ _ _ _ _ T1 (mkF m 25 #[.val (.ref a), .val (.double v), .second] [])
  refine Go.step (fun _ k => XS.dloadN X1.here hx rfl (hb hby d21_25) rfl k) ?_
  show Go _ _ _ _ _ _ _ T1 (mkF m 26 #[.val (.ref a), .val (.double v), .second] [(.double v)])
  refine Go.retD X1 hx hlk hret (hb hby d21_26) (by decide) (by decide) ?_
  try rw [hh1]
  exact ⟨rfl, N1, rfl⟩
theorem ef_rm21 (m : MethodId) (a : Addr) (v : UInt64) : entryFrame m #[(.ref a), (.double v)] 3 = mkF m 0 #[.val (.ref a), .val (.double v), .second] [] := by first | (simp [entryFrame, mkF, argsToLocals, Value.category]; done) | rfl
theorem rm21 (l : Launch) (Z : State) (a0 : Array Value) (hw : ∀ d ∈ tables_1, d.before a0 Z = true) (a : Addr) (v : UInt64) (h0 : Heap) (n0 : Nat) (Z0 : n0 ≤ h0.size) (hf : Jvm.Free.Fl.Fin64 v) (hge : (FP.dcmp v (0 : UInt64) = some .gt ∨ FP.dcmp v (0 : UInt64) = some .eq)) :
    Con l Z (⟨"com/example/leapwise/leapwise/model/Require", "atLeastZero", "(Ljava/lang/String;D)D"⟩ : MethodName) prog_25_method_4_code 3 (some .double) ({ frames := 3, cells := 0, slots := 0, locals := 60 } : Room) #[(.ref a), (.double v)] h0 (fun r h L => r = some (.double v) ∧ Fr n0 L ∧ h = h0) :=
  con_of (plainFor_of_name pn_5) (fun p_ e_ s_ m_ b_ meth_ c_ T_ X_ hx hZ hby hml hown hnm hret hlk e0 => Go.cast (ef_rm21 m_ a v) (w21 a v X_ hx hZ hw hby hml hown hnm hret hlk e0 Z0 (Fr.nil n0) hf hge))
theorem d1_0 : decode jdk_29_method_69_code 0 = .ok (.iload_n 0, 1) := by decide +kernel
theorem d1_1 : decode jdk_29_method_69_code 1 = .ok (.iload_n 1, 1) := by decide +kernel
theorem d1_2 : decode jdk_29_method_69_code 2 = .ok (.if_icmp .gt 7, 3) := by decide +kernel
theorem d1_9 : decode jdk_29_method_69_code 9 = .ok (.iload_n 1, 1) := by decide +kernel
theorem d1_10 : decode jdk_29_method_69_code 10 = .ok (.ireturn, 1) := by decide +kernel
theorem d1_5 : decode jdk_29_method_69_code 5 = .ok (.iload_n 0, 1) := by decide +kernel
theorem d1_6 : decode jdk_29_method_69_code 6 = .ok (.goto 4, 3) := by decide +kernel
set_option maxRecDepth 65536 in
set_option maxHeartbeats 40000000 in
theorem w1 {p : Program} {l : Launch} {e : Env} {s : State} {m : MethodId} {args : Array Value} {below : List Frame} {meth : Method} {c_ : Code} {T0 : State} {locs : List Loc} {Z : State} {a0 : Array Value} {h0 : Heap} {n0 : Nat} (a b : Int32)
    (X0 : Stand p l e ({ frames := 0, cells := 0, slots := 0, locals := 0 } : Room) s m args below meth c_ T0 locs 0 0) (hx : p.tables.exec = Jvm.exec) (hZ : Z.Warmed39 s.vm) (hw : ∀ d ∈ tables_1, d.before a0 Z = true) (hby : c_.code = jdk_29_method_69_code) (hml : c_.maxLocals = 2) (hown : s.vm.findClass "java/lang/Math" = some m.cls) (hnm : meth.name = "min") (hret : meth.sig.returnType = some .int) (hlk : meth.locks = false) (e0 : T0.heap = h0) (Z0 : n0 ≤ h0.size) (N0 : Fr n0 locs)  :
    Go p e below s ({ frames := 0, cells := 0, slots := 0, locals := 0 } : Room).cells ({ frames := 0, cells := 0, slots := 0, locals := 0 } : Room).slots (fun r h L => r = some (.int (minW a b)) ∧ Fr n0 L ∧ h = h0) T0 (mkF m 0 #[.val (.int a), .val (.int b)] []) := by
  show Go _ _ _ _ _ _ _ T0 (mkF m 0 #[.val (.int a), .val (.int b)] [])
  refine Go.step (fun _ k => XS.iloadN X0.here hx rfl (hb hby d1_0) rfl k) ?_
  show Go _ _ _ _ _ _ _ T0 (mkF m 1 #[.val (.int a), .val (.int b)] [(.int a)])
  refine Go.step (fun _ k => XS.iloadN X0.here hx rfl (hb hby d1_1) rfl k) ?_
  show Go _ _ _ _ _ _ _ T0 (mkF m 2 #[.val (.int a), .val (.int b)] [(.int b), (.int a)])
  by_cases hc2_1 : b < a
  · refine Go.step (fun _ k => XS.icmpYes X0.here hx rfl (pc0 := 2) (pc' := 9) rfl (hb hby d1_2) rfl (tlt hc2_1).2.2.1 (by decide) (by decide) k) ?_
    show Go _ _ _ _ _ _ _ T0 (mkF m 9 #[.val (.int a), .val (.int b)] [])
    refine Go.step (fun _ k => XS.iloadN X0.here hx rfl (hb hby d1_9) rfl k) ?_
    show Go _ _ _ _ _ _ _ T0 (mkF m 10 #[.val (.int a), .val (.int b)] [(.int b)])
    refine Go.retI X0 hx hlk hret (hb hby d1_10) (by decide) (by decide) ?_
    try rw [e0]
    exact ⟨congrArg (fun z => some (Value.int z)) (show b = minW a b from (if_pos hc2_1).symm), N0, rfl⟩
  · refine Go.step (fun _ k => XS.icmpNo X0.here hx rfl (hb hby d1_2) rfl (flt hc2_1).2.2.1 k) ?_
    show Go _ _ _ _ _ _ _ T0 (mkF m 5 #[.val (.int a), .val (.int b)] [])
    refine Go.step (fun _ k => XS.iloadN X0.here hx rfl (hb hby d1_5) rfl k) ?_
    show Go _ _ _ _ _ _ _ T0 (mkF m 6 #[.val (.int a), .val (.int b)] [(.int a)])
    refine Go.step (fun _ k => XS.goto X0.here hx rfl (pc0 := 6) (pc' := 10) rfl (hb hby d1_6) (by decide) (by decide) k) ?_
    show Go _ _ _ _ _ _ _ T0 (mkF m 10 #[.val (.int a), .val (.int b)] [(.int a)])
    refine Go.retI X0 hx hlk hret (hb hby d1_10) (by decide) (by decide) ?_
    try rw [e0]
    exact ⟨congrArg (fun z => some (Value.int z)) (show a = minW a b from (if_neg hc2_1).symm), N0, rfl⟩
theorem ef_rm1 (m : MethodId) (a : Int32) (b : Int32) : entryFrame m #[(.int a), (.int b)] 2 = mkF m 0 #[.val (.int a), .val (.int b)] [] := by first | (simp [entryFrame, mkF, argsToLocals, Value.category]; done) | rfl
theorem rm1 (l : Launch) (Z : State) (a0 : Array Value) (hw : ∀ d ∈ tables_1, d.before a0 Z = true) (a b : Int32) (h0 : Heap) (n0 : Nat) (Z0 : n0 ≤ h0.size)  :
    Con l Z (⟨"java/lang/Math", "min", "(II)I"⟩ : MethodName) jdk_29_method_69_code 2 (some .int) ({ frames := 0, cells := 0, slots := 0, locals := 0 } : Room) #[(.int a), (.int b)] h0 (fun r h L => r = some (.int (minW a b)) ∧ Fr n0 L ∧ h = h0) :=
  con_of (Jvm.Free.JP.mathPlain rfl (by decide +kernel)) (fun p_ e_ s_ m_ b_ meth_ c_ T_ X_ hx hZ hby hml hown hnm hret hlk e0 => Go.cast (ef_rm1 m_ a b) (w1 a b X_ hx hZ hw hby hml hown hnm hret hlk e0 Z0 (Fr.nil n0) ))
theorem d2_0 : decode prog_18_method_1_code 0 = .ok (.aload_n 0, 1) := by decide +kernel
theorem d2_1 : decode prog_18_method_1_code 1 = .ok (.invokespecial 1, 3) := by decide +kernel
theorem pd_14 : parseMethodDescriptor "()V" = some ⟨[], none⟩ := by decide +kernel
theorem d2_4 : decode prog_18_method_1_code 4 = .ok (.aload_n 1, 1) := by decide +kernel
theorem d2_5 : decode prog_18_method_1_code 5 = .ok (.invokestatic 7, 3) := by decide +kernel
theorem pd_15 : parseMethodDescriptor "(Ljava/lang/String;)Ljava/lang/String;" = some ⟨[(.object "java/lang/String")], some (.object "java/lang/String")⟩ := by decide +kernel
theorem d2_8 : decode prog_18_method_1_code 8 = .ok (.pop, 1) := by decide +kernel
theorem d2_9 : decode prog_18_method_1_code 9 = .ok (.dload_n 2, 1) := by decide +kernel
theorem d2_10 : decode prog_18_method_1_code 10 = .ok (.ldc2_w 15, 3) := by decide +kernel
theorem d2_13 : decode prog_18_method_1_code 13 = .ok (.dcmp .l, 1) := by decide +kernel
theorem d2_14 : decode prog_18_method_1_code 14 = .ok (.ifCond .eq 10, 3) := by decide +kernel
theorem d2_24 : decode prog_18_method_1_code 24 = .ok (.ldc 23, 2) := by decide +kernel
theorem d2_26 : decode prog_18_method_1_code 26 = .ok (.dload 4, 2) := by decide +kernel
theorem d2_28 : decode prog_18_method_1_code 28 = .ok (.invokestatic 19, 3) := by decide +kernel
theorem d2_31 : decode prog_18_method_1_code 31 = .ok (.pop2, 1) := by decide +kernel
theorem d2_32 : decode prog_18_method_1_code 32 = .ok (.dload 4, 2) := by decide +kernel
theorem d2_34 : decode prog_18_method_1_code 34 = .ok (.dload_n 2, 1) := by decide +kernel
theorem d2_35 : decode prog_18_method_1_code 35 = .ok (.dcmp .l, 1) := by decide +kernel
theorem d2_36 : decode prog_18_method_1_code 36 = .ok (.ifCond .le 19, 3) := by decide +kernel
theorem d2_55 : decode prog_18_method_1_code 55 = .ok (.aload_n 0, 1) := by decide +kernel
theorem d2_56 : decode prog_18_method_1_code 56 = .ok (.aload_n 1, 1) := by decide +kernel
theorem d2_57 : decode prog_18_method_1_code 57 = .ok (.putfield 34, 3) := by decide +kernel
theorem d2_60 : decode prog_18_method_1_code 60 = .ok (.aload_n 0, 1) := by decide +kernel
theorem d2_61 : decode prog_18_method_1_code 61 = .ok (.dload_n 2, 1) := by decide +kernel
theorem d2_62 : decode prog_18_method_1_code 62 = .ok (.putfield 39, 3) := by decide +kernel
theorem d2_65 : decode prog_18_method_1_code 65 = .ok (.aload_n 0, 1) := by decide +kernel
theorem d2_66 : decode prog_18_method_1_code 66 = .ok (.dload 4, 2) := by decide +kernel
theorem d2_68 : decode prog_18_method_1_code 68 = .ok (.putfield 42, 3) := by decide +kernel
theorem d2_71 : decode prog_18_method_1_code 71 = .ok (.return_, 1) := by decide +kernel
theorem d2_17 : decode prog_18_method_1_code 17 = .ok (.ldc 17, 2) := by decide +kernel
theorem d2_19 : decode prog_18_method_1_code 19 = .ok (.dload_n 2, 1) := by decide +kernel
theorem d2_20 : decode prog_18_method_1_code 20 = .ok (.invokestatic 19, 3) := by decide +kernel
theorem d2_23 : decode prog_18_method_1_code 23 = .ok (.pop2, 1) := by decide +kernel
set_option maxRecDepth 65536 in
set_option maxHeartbeats 40000000 in
theorem w2 {p : Program} {l : Launch} {e : Env} {s : State} {m : MethodId} {args : Array Value} {below : List Frame} {meth : Method} {c_ : Code} {T0 : State} {locs : List Loc} {Z : State} {a0 : Array Value} {h0 : Heap} {n0 : Nat} (a b xb : Addr) (x1 x2 : UInt64) (cs : Int32) (sf : Value) (xi xa : Addr)
    (X0 : Stand p l e ({ frames := 6, cells := 4, slots := 64, locals := 120 } : Room) s m args below meth c_ T0 locs 0 0) (hx : p.tables.exec = Jvm.exec) (hZ : Z.Warmed39 s.vm) (hw : ∀ d ∈ tables_1, d.before a0 Z = true) (hby : c_.code = prog_18_method_1_code) (hml : c_.maxLocals = 6) (hown : s.vm.findClass "com/example/leapwise/leapwise/model/ContinuousPlace" = some m.cls) (hnm : meth.name = "<init>") (hret : meth.sig.returnType = none) (hlk : meth.locks = false) (e0 : T0.heap = h0) (Z0 : n0 ≤ h0.size) (N0 : Fr n0 locs) (E_a : Exa Z h0 a "com/example/leapwise/leapwise/model/ContinuousPlace") (F_id_a : Fld Z h0 a "com/example/leapwise/leapwise/model/ContinuousPlace" "id" "Ljava/lang/String;" .null) (F_capacity_a : Fld Z h0 a "com/example/leapwise/leapwise/model/ContinuousPlace" "capacity" "D" (.double (0 : UInt64))) (F_level_a : Fld Z h0 a "com/example/leapwise/leapwise/model/ContinuousPlace" "level" "D" (.double (0 : UInt64))) (ge_a : n0 ≤ a) (E_b : Exa Z h0 b "java/lang/String") (F_value_b : Fld Z h0 b "java/lang/String" "value" "[B" (.ref xb)) (F_coder_b : Fld Z h0 b "java/lang/String" "coder" "B" (.int (0 : Int32))) (V_xb : Bv Z h0 xb (1 : Int32) (fun _ => (112 : Int32))) (hO : Ext Z.heap h0) (hJ : JS Z cs sf xi xa) (hc : FP.dcmp x1 (9218868437227405312 : UInt64) = some .eq ∨ (¬ FP.dcmp x1 (9218868437227405312 : UInt64) = some .eq ∧ Jvm.Free.Fl.Fin64 x1 ∧ (FP.dcmp x1 (0 : UInt64) = some .gt ∨ FP.dcmp x1 (0 : UInt64) = some .eq))) (hf2 : Jvm.Free.Fl.Fin64 x2) (hg2 : (FP.dcmp x2 (0 : UInt64) = some .gt ∨ FP.dcmp x2 (0 : UInt64) = some .eq)) (hle : ¬ FP.dcmp x2 x1 = some .gt) :
    GoW p e below s ({ frames := 6, cells := 4, slots := 64, locals := 120 } : Room).cells ({ frames := 6, cells := 4, slots := 64, locals := 120 } : Room).slots (fun r h L => r = none ∧ Fr n0 L ∧ Keep h0 h [a] ∧ Exa Z h a "com/example/leapwise/leapwise/model/ContinuousPlace" ∧ Fld Z h a "com/example/leapwise/leapwise/model/ContinuousPlace" "id" "Ljava/lang/String;" (.ref b) ∧ Fld Z h a "com/example/leapwise/leapwise/model/ContinuousPlace" "capacity" "D" (.double x1) ∧ Fld Z h a "com/example/leapwise/leapwise/model/ContinuousPlace" "level" "D" (.double x2)) T0 (mkF m 0 #[.val (.ref a), .val (.ref b), .val (.double x1), .second, .val (.double x2), .second] []) := by
  have X0 : Stand p l e ({ frames := 6, cells := 4, slots := 64, locals := 120 } : Room) (s.setVm s.vm) m args below meth c_ T0 locs 0 0 := X0
  have hS : s.Since s.vm h0.size := (State.WarmedH.refl s).since _
  have hk : Szk h0.size h0 := Nat.le_refl _
  have hZ : Z.Warmed39 (s.setVm s.vm).vm := hZ
  have hown : (s.setVm s.vm).vm.findClass "com/example/leapwise/leapwise/model/ContinuousPlace" = some m.cls := hown
  show GoW _ _ _ _ _ _ _ T0 (mkF m 0 #[.val (.ref a), .val (.ref b), .val (.double x1), .second, .val (.double x2), .second] [])
  refine GoW.step (fun _ k => XS.aloadN X0.here hx rfl (hb hby d2_0) rfl rfl k) ?_
  show GoW _ _ _ _ _ _ _ T0 (mkF m 1 #[.val (.ref a), .val (.ref b), .val (.double x1), .second, .val (.double x2), .second] [(.ref a)])
  refine GoW.callI X0 hx hZ (by rw [hml]; rfl) (y := (⟨"java/lang/Record", "<init>", "()V"⟩ : MethodName)) (a := a) (argsL := []) (rest := []) rfl hown (hw _ (mI 19 rfl)) (hw _ (mI 20 rfl)) (hw _ (mI 22 rfl)) (hw _ (mI 23 rfl)) (by decide) (rm3 l Z a0 hw a h0 n0 Z0) e0 (hb hby d2_1) (lenOf pd_14 rfl) rfl rfl (W := 0) (Nat.le_of_eq rfl) (by decide) (by decide) (by decide) (by decide) ?_
  intro v1 T1 L1 X1 Q1
  obtain ⟨rfl, N1q, hh1⟩ := Q1
  have N1 := Fr.app N0 N1q
  show GoW _ _ _ _ _ _ _ T1 (mkF m 4 #[.val (.ref a), .val (.ref b), .val (.double x1), .second, .val (.double x2), .second] [])
  refine GoW.step (fun _ k => XS.aloadN X1.here hx rfl (hb hby d2_4) rfl rfl k) ?_
  show GoW _ _ _ _ _ _ _ T1 (mkF m 5 #[.val (.ref a), .val (.ref b), .val (.double x1), .second, .val (.double x2), .second] [(.ref b)])
  refine GoW.callS X1 hx hZ (by rw [hml]; rfl) (y := (⟨"com/example/leapwise/leapwise/model/Require", "id", "(Ljava/lang/String;)Ljava/lang/String;"⟩ : MethodName)) (argsL := [(.ref b)]) (rest := []) hown (hw _ (mI 27 rfl)) (hw _ (mI 28 rfl)) (hw _ (mI 29 rfl)) (hw _ (mI 30 rfl)) (by decide) (rm5 l Z a0 hw b xb cs sf xi xa h0 n0 Z0 E_b F_value_b F_coder_b V_xb hO hJ) hh1 (hb hby d2_5) (lenOf pd_15 rfl) rfl rfl (W := 0) (Nat.le_of_eq rfl) (by decide) (by decide) (by decide) (by decide) ?_
  intro v2 T2 L2 X2 Q2
  obtain ⟨rfl, N2q, hh2⟩ := Q2
  have N2 := Fr.app N1 N2q
  show GoW _ _ _ _ _ _ _ T2 (mkF m 8 #[.val (.ref a), .val (.ref b), .val (.double x1), .second, .val (.double x2), .second] [(.ref b)])
  refine GoW.step (fun _ k => XS.pop X2.here hx rfl (hb hby d2_8) rfl rfl k) ?_
  show GoW _ _ _ _ _ _ _ T2 (mkF m 9 #[.val (.ref a), .val (.ref b), .val (.double x1), .second, .val (.double x2), .second] [])
  refine GoW.step (fun _ k => XS.dloadN X2.here hx rfl (hb hby d2_9) rfl k) ?_
  show GoW _ _ _ _ _ _ _ T2 (mkF m 10 #[.val (.ref a), .val (.ref b), .val (.double x1), .second, .val (.double x2), .second] [(.double x1)])
  refine GoW.step (X2.ldc2DoubleC hx hown (mvT hZ (hw _ (mI 103 rfl))) (g := (mkF m 10 #[.val (.ref a), .val (.ref b), .val (.double x1), .second, .val (.double x2), .second] [(.double x1)])) rfl (hb hby d2_10)) ?_
  show GoW _ _ _ _ _ _ _ T2 (mkF m 13 #[.val (.ref a), .val (.ref b), .val (.double x1), .second, .val (.double x2), .second] [(.double (9218868437227405312 : UInt64)), (.double x1)])
  refine GoW.step (fun _ k => XS.dcmpS X2.here hx rfl (hb hby d2_13) rfl rfl k) ?_
  show GoW _ _ _ _ _ _ _ T2 (mkF m 14 #[.val (.ref a), .val (.ref b), .val (.double x1), .second, .val (.double x2), .second] [(.int (cmpValue (FP.dcmp x1 (9218868437227405312 : UInt64)) .l))])
  by_cases hd14_3 : FP.dcmp x1 (9218868437227405312 : UInt64) = some .eq
  · refine GoW.step (fun _ k => XS.ifYes X2.here hx rfl (pc0 := 14) (pc' := 24) rfl (hb hby d2_14) rfl (eq_y .l hd14_3).2 (by decide) (by decide) k) ?_
    show GoW _ _ _ _ _ _ _ T2 (mkF m 24 #[.val (.ref a), .val (.ref b), .val (.double x1), .second, .val (.double x2), .second] [])
    obtain ⟨b4, T4, h4, kk4, X4, e4, E4, hS, hk_4, hZ, hown, st4⟩ := ldcS X2 hx hZ hown (hw _ (mI 119 rfl)) (own_wS hw) hh2 hS hk (g := (mkF m 24 #[.val (.ref a), .val (.ref b), .val (.double x1), .second, .val (.double x2), .second] [])) rfl (hb hby d2_24) (n := 20) (by decide) (by decide) (by decide) (by decide)
    have hk_4 : Szk kk4 h4 := hk_4
    refine GoW.step st4 ?_
    have K4 : Keep h0 h4 [a] := (Keep.refl h0 [a]).ext E4
    have E_a_4 := E_a.ext E4
    have F_id_a_4 := F_id_a.ext E4
    have F_capacity_a_4 := F_capacity_a.ext E4
    have F_level_a_4 := F_level_a.ext E4
    show GoW _ _ _ _ _ _ _ T4 (mkF m 26 #[.val (.ref a), .val (.ref b), .val (.double x1), .second, .val (.double x2), .second] [(.ref b4)])
    refine GoW.step (fun _ k => XS.dload X4.here hx rfl (hb hby d2_26) rfl k) ?_
    show GoW _ _ _ _ _ _ _ T4 (mkF m 28 #[.val (.ref a), .val (.ref b), .val (.double x1), .second, .val (.double x2), .second] [(.double x2), (.ref b4)])
    refine GoW.callS X4 hx hZ (by rw [hml]; rfl) (y := (⟨"com/example/leapwise/leapwise/model/Require", "atLeastZero", "(Ljava/lang/String;D)D"⟩ : MethodName)) (argsL := [(.ref b4), (.double x2)]) (rest := []) hown (hw _ (mI 105 rfl)) (hw _ (mI 106 rfl)) (hw _ (mI 29 rfl)) (hw _ (mI 107 rfl)) (by decide) (rm21 l Z a0 hw b4 x2 h4 n0 (Nat.le_trans Z0 (K4 : Keep h0 h4 [a]).1) hf2 hg2) e4 (hb hby d2_28) (lenOf pd_13 rfl) rfl rfl (W := 0) (Nat.le_of_eq rfl) (by decide) (by decide) (by decide) (by decide) ?_
    intro v5 T5 L5 X5 Q5
    obtain ⟨rfl, N5q, hh5⟩ := Q5
    have N5 := Fr.app N2 N5q
    show GoW _ _ _ _ _ _ _ T5 (mkF m 31 #[.val (.ref a), .val (.ref b), .val (.double x1), .second, .val (.double x2), .second] [(.double x2)])
    refine GoW.step (fun _ k => own_pop2 X5.here hx rfl (hb hby d2_31) rfl rfl k) ?_
    show GoW _ _ _ _ _ _ _ T5 (mkF m 32 #[.val (.ref a), .val (.ref b), .val (.double x1), .second, .val (.double x2), .second] [])
    refine GoW.step (fun _ k => XS.dload X5.here hx rfl (hb hby d2_32) rfl k) ?_
    show GoW _ _ _ _ _ _ _ T5 (mkF m 34 #[.val (.ref a), .val (.ref b), .val (.double x1), .second, .val (.double x2), .second] [(.double x2)])
    refine GoW.step (fun _ k => XS.dloadN X5.here hx rfl (hb hby d2_34) rfl k) ?_
    show GoW _ _ _ _ _ _ _ T5 (mkF m 35 #[.val (.ref a), .val (.ref b), .val (.double x1), .second, .val (.double x2), .second] [(.double x1), (.double x2)])
    refine GoW.step (fun _ k => XS.dcmpS X5.here hx rfl (hb hby d2_35) rfl rfl k) ?_
    show GoW _ _ _ _ _ _ _ T5 (mkF m 36 #[.val (.ref a), .val (.ref b), .val (.double x1), .second, .val (.double x2), .second] [(.int (cmpValue (FP.dcmp x2 x1) .l))])
    refine GoW.step (fun _ k => XS.ifYes X5.here hx rfl (pc0 := 36) (pc' := 55) rfl (hb hby d2_36) rfl (gt_n hle) (by decide) (by decide) k) ?_
    show GoW _ _ _ _ _ _ _ T5 (mkF m 55 #[.val (.ref a), .val (.ref b), .val (.double x1), .second, .val (.double x2), .second] [])
    refine GoW.step (fun _ k => XS.aloadN X5.here hx rfl (hb hby d2_55) rfl rfl k) ?_
    show GoW _ _ _ _ _ _ _ T5 (mkF m 56 #[.val (.ref a), .val (.ref b), .val (.double x1), .second, .val (.double x2), .second] [(.ref a)])
    refine GoW.step (fun _ k => XS.aloadN X5.here hx rfl (hb hby d2_56) rfl rfl k) ?_
    show GoW _ _ _ _ _ _ _ T5 (mkF m 57 #[.val (.ref a), .val (.ref b), .val (.double x1), .second, .val (.double x2), .second] [(.ref b), (.ref a)])
    obtain ⟨T6, h6, X6, e6, W6, st6⟩ := putF X5 hx hZ hown (host := "") (Or.inl (hw _ (mI 120 rfl))) Via.refl hh5 F_id_a_4 E_a_4 (Or.inr ⟨(hw _ (mI 121 rfl)), rfl, hnm⟩) (hw _ (mI 6 rfl)) (ty := (.object "java/lang/String")) (by decide) rfl rfl (g := (mkF m 57 #[.val (.ref a), .val (.ref b), .val (.double x1), .second, .val (.double x2), .second] [(.ref b), (.ref a)])) rfl rfl (hb hby d2_57)
    refine GoW.step st6 ?_
    have N6 := Fr.snoc X6 N5 ge_a
    have F_id_a_6 := F_id_a_4.same W6
    have E_a_6 := E_a_4.wr W6
    have F_capacity_a_6 := F_capacity_a_4.other W6 (Or.inr (slot_ne (Or.inr (hw _ (mI 123 rfl))) (Or.inr (hw _ (mI 121 rfl))) (by decide) (t := .double) (t' := (.object "java/lang/String")) (by decide) (by decide)))
    have F_level_a_6 := F_level_a_4.other W6 (Or.inr (slot_ne (Or.inr (hw _ (mI 125 rfl))) (Or.inr (hw _ (mI 121 rfl))) (by decide) (t := .double) (t' := (.object "java/lang/String")) (by decide) (by decide)))
    have hk_6 := hk_4.wr W6
    have K6 : Keep h0 h6 [a] := K4.wr W6 (Or.inl (List.mem_of_getElem? (i := 0) rfl))
    show GoW _ _ _ _ _ _ _ T6 (mkF m 60 #[.val (.ref a), .val (.ref b), .val (.double x1), .second, .val (.double x2), .second] [])
    refine GoW.step (fun _ k => XS.aloadN X6.here hx rfl (hb hby d2_60) rfl rfl k) ?_
    show GoW _ _ _ _ _ _ _ T6 (mkF m 61 #[.val (.ref a), .val (.ref b), .val (.double x1), .second, .val (.double x2), .second] [(.ref a)])
    refine GoW.step (fun _ k => XS.dloadN X6.here hx rfl (hb hby d2_61) rfl k) ?_
    show GoW _ _ _ _ _ _ _ T6 (mkF m 62 #[.val (.ref a), .val (.ref b), .val (.double x1), .second, .val (.double x2), .second] [(.double x1), (.ref a)])
    obtain ⟨T7, h7, X7, e7, W7, st7⟩ := putF X6 hx hZ hown (host := "") (Or.inl (hw _ (mI 122 rfl))) Via.refl e6 F_capacity_a_6 E_a_6 (Or.inr ⟨(hw _ (mI 123 rfl)), rfl, hnm⟩) (hw _ (mI 6 rfl)) (ty := .double) (by decide) rfl rfl (g := (mkF m 62 #[.val (.ref a), .val (.ref b), .val (.double x1), .second, .val (.double x2), .second] [(.double x1), (.ref a)])) rfl rfl (hb hby d2_62)
    refine GoW.step st7 ?_
    have N7 := Fr.snoc X7 N6 ge_a
    have F_capacity_a_7 := F_capacity_a_6.same W7
    have E_a_7 := E_a_6.wr W7
    have F_id_a_7 := F_id_a_6.other W7 (Or.inr (slot_ne (Or.inr (hw _ (mI 121 rfl))) (Or.inr (hw _ (mI 123 rfl))) (by decide) (t := (.object "java/lang/String")) (t' := .double) (by decide) (by decide)))
    have F_level_a_7 := F_level_a_6.other W7 (Or.inr (slot_ne (Or.inr (hw _ (mI 125 rfl))) (Or.inr (hw _ (mI 123 rfl))) (by decide) (t := .double) (t' := .double) (by decide) (by decide)))
    have hk_7 := hk_6.wr W7
    have K7 : Keep h0 h7 [a] := K6.wr W7 (Or.inl (List.mem_of_getElem? (i := 0) rfl))
    show GoW _ _ _ _ _ _ _ T7 (mkF m 65 #[.val (.ref a), .val (.ref b), .val (.double x1), .second, .val (.double x2), .second] [])
    refine GoW.step (fun _ k => XS.aloadN X7.here hx rfl (hb hby d2_65) rfl rfl k) ?_
    show GoW _ _ _ _ _ _ _ T7 (mkF m 66 #[.val (.ref a), .val (.ref b), .val (.double x1), .second, .val (.double x2), .second] [(.ref a)])
    refine GoW.step (fun _ k => XS.dload X7.here hx rfl (hb hby d2_66) rfl k) ?_
    show GoW _ _ _ _ _ _ _ T7 (mkF m 68 #[.val (.ref a), .val (.ref b), .val (.double x1), .second, .val (.double x2), .second] [(.double x2), (.ref a)])
    obtain ⟨T8, h8, X8, e8, W8, st8⟩ := putF X7 hx hZ hown (host := "") (Or.inl (hw _ (mI 124 rfl))) Via.refl e7 F_level_a_7 E_a_7 (Or.inr ⟨(hw _ (mI 125 rfl)), rfl, hnm⟩) (hw _ (mI 6 rfl)) (ty := .double) (by decide) rfl rfl (g := (mkF m 68 #[.val (.ref a), .val (.ref b), .val (.double x1), .second, .val (.double x2), .second] [(.double x2), (.ref a)])) rfl rfl (hb hby d2_68)
    refine GoW.step st8 ?_
    have N8 := Fr.snoc X8 N7 ge_a
    have F_level_a_8 := F_level_a_7.same W8
    have E_a_8 := E_a_7.wr W8
    have F_id_a_8 := F_id_a_7.other W8 (Or.inr (slot_ne (Or.inr (hw _ (mI 121 rfl))) (Or.inr (hw _ (mI 125 rfl))) (by decide) (t := (.object "java/lang/String")) (t' := .double) (by decide) (by decide)))
    have F_capacity_a_8 := F_capacity_a_7.other W8 (Or.inr (slot_ne (Or.inr (hw _ (mI 123 rfl))) (Or.inr (hw _ (mI 125 rfl))) (by decide) (t := .double) (t' := .double) (by decide) (by decide)))
    have hk_8 := hk_7.wr W8
    have K8 : Keep h0 h8 [a] := K7.wr W8 (Or.inl (List.mem_of_getElem? (i := 0) rfl))
    show GoW _ _ _ _ _ _ _ T8 (mkF m 71 #[.val (.ref a), .val (.ref b), .val (.double x1), .second, .val (.double x2), .second] [])
    refine GoW.retV X8 hS hk_8 e8 hx hlk hret (hb hby d2_71) (by decide) (by decide) ?_
    try rw [e8]
    exact ⟨rfl, N8, K8, E_a_8, F_id_a_8, F_capacity_a_8, F_level_a_8⟩
  · refine GoW.step (fun _ k => XS.ifNo X2.here hx rfl (hb hby d2_14) rfl (eq_n .l hd14_3).2 k) ?_
    show GoW _ _ _ _ _ _ _ T2 (mkF m 17 #[.val (.ref a), .val (.ref b), .val (.double x1), .second, .val (.double x2), .second] [])
    obtain ⟨b9, T9, h9, kk9, X9, e9, E9, hS, hk_9, hZ, hown, st9⟩ := ldcS X2 hx hZ hown (hw _ (mI 104 rfl)) (own_wS hw) hh2 hS hk (g := (mkF m 17 #[.val (.ref a), .val (.ref b), .val (.double x1), .second, .val (.double x2), .second] [])) rfl (hb hby d2_17) (n := 32) (by decide) (by decide) (by decide) (by decide)
    have hk_9 : Szk kk9 h9 := hk_9
    refine GoW.step st9 ?_
    have K9 : Keep h0 h9 [a] := (Keep.refl h0 [a]).ext E9
    have E_a_9 := E_a.ext E9
    have F_id_a_9 := F_id_a.ext E9
    have F_capacity_a_9 := F_capacity_a.ext E9
    have F_level_a_9 := F_level_a.ext E9
    show GoW _ _ _ _ _ _ _ T9 (mkF m 19 #[.val (.ref a), .val (.ref b), .val (.double x1), .second, .val (.double x2), .second] [(.ref b9)])
    refine GoW.step (fun _ k => XS.dloadN X9.here hx rfl (hb hby d2_19) rfl k) ?_
    show GoW _ _ _ _ _ _ _ T9 (mkF m 20 #[.val (.ref a), .val (.ref b), .val (.double x1), .second, .val (.double x2), .second] [(.double x1), (.ref b9)])
    refine GoW.callS X9 hx hZ (by rw [hml]; rfl) (y := (⟨"com/example/leapwise/leapwise/model/Require", "atLeastZero", "(Ljava/lang/String;D)D"⟩ : MethodName)) (argsL := [(.ref b9), (.double x1)]) (rest := []) hown (hw _ (mI 105 rfl)) (hw _ (mI 106 rfl)) (hw _ (mI 29 rfl)) (hw _ (mI 107 rfl)) (by decide) (rm21 l Z a0 hw b9 x1 h9 n0 (Nat.le_trans Z0 (K9 : Keep h0 h9 [a]).1) (hc.resolve_left hd14_3).2.1 (hc.resolve_left hd14_3).2.2) e9 (hb hby d2_20) (lenOf pd_13 rfl) rfl rfl (W := 0) (Nat.le_of_eq rfl) (by decide) (by decide) (by decide) (by decide) ?_
    intro v10 T10 L10 X10 Q10
    obtain ⟨rfl, N10q, hh10⟩ := Q10
    have N10 := Fr.app N2 N10q
    show GoW _ _ _ _ _ _ _ T10 (mkF m 23 #[.val (.ref a), .val (.ref b), .val (.double x1), .second, .val (.double x2), .second] [(.double x1)])
    refine GoW.step (fun _ k => own_pop2 X10.here hx rfl (hb hby d2_23) rfl rfl k) ?_
    show GoW _ _ _ _ _ _ _ T10 (mkF m 24 #[.val (.ref a), .val (.ref b), .val (.double x1), .second, .val (.double x2), .second] [])
    obtain ⟨b11, T11, h11, kk11, X11, e11, E11, hS, hk_11, hZ, hown, st11⟩ := ldcS X10 hx hZ hown (hw _ (mI 119 rfl)) (own_wS hw) hh10 hS hk_9 (g := (mkF m 24 #[.val (.ref a), .val (.ref b), .val (.double x1), .second, .val (.double x2), .second] [])) rfl (hb hby d2_24) (n := 20) (by decide) (by decide) (by decide) (by decide)
    have hk_11 : Szk kk11 h11 := hk_11
    refine GoW.step st11 ?_
    have K11 : Keep h0 h11 [a] := K9.ext E11
    have E_a_11 := E_a_9.ext E11
    have F_id_a_11 := F_id_a_9.ext E11
    have F_capacity_a_11 := F_capacity_a_9.ext E11
    have F_level_a_11 := F_level_a_9.ext E11
    show GoW _ _ _ _ _ _ _ T11 (mkF m 26 #[.val (.ref a), .val (.ref b), .val (.double x1), .second, .val (.double x2), .second] [(.ref b11)])
    refine GoW.step (fun _ k => XS.dload X11.here hx rfl (hb hby d2_26) rfl k) ?_
    show GoW _ _ _ _ _ _ _ T11 (mkF m 28 #[.val (.ref a), .val (.ref b), .val (.double x1), .second, .val (.double x2), .second] [(.double x2), (.ref b11)])
    refine GoW.callS X11 hx hZ (by rw [hml]; rfl) (y := (⟨"com/example/leapwise/leapwise/model/Require", "atLeastZero", "(Ljava/lang/String;D)D"⟩ : MethodName)) (argsL := [(.ref b11), (.double x2)]) (rest := []) hown (hw _ (mI 105 rfl)) (hw _ (mI 106 rfl)) (hw _ (mI 29 rfl)) (hw _ (mI 107 rfl)) (by decide) (rm21 l Z a0 hw b11 x2 h11 n0 (Nat.le_trans Z0 (K11 : Keep h0 h11 [a]).1) hf2 hg2) e11 (hb hby d2_28) (lenOf pd_13 rfl) rfl rfl (W := 0) (Nat.le_of_eq rfl) (by decide) (by decide) (by decide) (by decide) ?_
    intro v12 T12 L12 X12 Q12
    obtain ⟨rfl, N12q, hh12⟩ := Q12
    have N12 := Fr.app N10 N12q
    show GoW _ _ _ _ _ _ _ T12 (mkF m 31 #[.val (.ref a), .val (.ref b), .val (.double x1), .second, .val (.double x2), .second] [(.double x2)])
    refine GoW.step (fun _ k => own_pop2 X12.here hx rfl (hb hby d2_31) rfl rfl k) ?_
    show GoW _ _ _ _ _ _ _ T12 (mkF m 32 #[.val (.ref a), .val (.ref b), .val (.double x1), .second, .val (.double x2), .second] [])
    refine GoW.step (fun _ k => XS.dload X12.here hx rfl (hb hby d2_32) rfl k) ?_
    show GoW _ _ _ _ _ _ _ T12 (mkF m 34 #[.val (.ref a), .val (.ref b), .val (.double x1), .second, .val (.double x2), .second] [(.double x2)])
    refine GoW.step (fun _ k => XS.dloadN X12.here hx rfl (hb hby d2_34) rfl k) ?_
    show GoW _ _ _ _ _ _ _ T12 (mkF m 35 #[.val (.ref a), .val (.ref b), .val (.double x1), .second, .val (.double x2), .second] [(.double x1), (.double x2)])
    refine GoW.step (fun _ k => XS.dcmpS X12.here hx rfl (hb hby d2_35) rfl rfl k) ?_
    show GoW _ _ _ _ _ _ _ T12 (mkF m 36 #[.val (.ref a), .val (.ref b), .val (.double x1), .second, .val (.double x2), .second] [(.int (cmpValue (FP.dcmp x2 x1) .l))])
    refine GoW.step (fun _ k => XS.ifYes X12.here hx rfl (pc0 := 36) (pc' := 55) rfl (hb hby d2_36) rfl (gt_n hle) (by decide) (by decide) k) ?_
    show GoW _ _ _ _ _ _ _ T12 (mkF m 55 #[.val (.ref a), .val (.ref b), .val (.double x1), .second, .val (.double x2), .second] [])
    refine GoW.step (fun _ k => XS.aloadN X12.here hx rfl (hb hby d2_55) rfl rfl k) ?_
    show GoW _ _ _ _ _ _ _ T12 (mkF m 56 #[.val (.ref a), .val (.ref b), .val (.double x1), .second, .val (.double x2), .second] [(.ref a)])
    refine GoW.step (fun _ k => XS.aloadN X12.here hx rfl (hb hby d2_56) rfl rfl k) ?_
    show GoW _ _ _ _ _ _ _ T12 (mkF m 57 #[.val (.ref a), .val (.ref b), .val (.double x1), .second, .val (.double x2), .second] [(.ref b), (.ref a)])
    obtain ⟨T13, h13, X13, e13, W13, st13⟩ := putF X12 hx hZ hown (host := "") (Or.inl (hw _ (mI 120 rfl))) Via.refl hh12 F_id_a_11 E_a_11 (Or.inr ⟨(hw _ (mI 121 rfl)), rfl, hnm⟩) (hw _ (mI 6 rfl)) (ty := (.object "java/lang/String")) (by decide) rfl rfl (g := (mkF m 57 #[.val (.ref a), .val (.ref b), .val (.double x1), .second, .val (.double x2), .second] [(.ref b), (.ref a)])) rfl rfl (hb hby d2_57)
    refine GoW.step st13 ?_
    have N13 := Fr.snoc X13 N12 ge_a
    have F_id_a_13 := F_id_a_11.same W13
    have E_a_13 := E_a_11.wr W13
    have F_capacity_a_13 := F_capacity_a_11.other W13 (Or.inr (slot_ne (Or.inr (hw _ (mI 123 rfl))) (Or.inr (hw _ (mI 121 rfl))) (by decide) (t := .double) (t' := (.object "java/lang/String")) (by decide) (by decide)))
    have F_level_a_13 := F_level_a_11.other W13 (Or.inr (slot_ne (Or.inr (hw _ (mI 125 rfl))) (Or.inr (hw _ (mI 121 rfl))) (by decide) (t := .double) (t' := (.object "java/lang/String")) (by decide) (by decide)))
    have hk_13 := hk_11.wr W13
    have K13 : Keep h0 h13 [a] := K11.wr W13 (Or.inl (List.mem_of_getElem? (i := 0) rfl))
    show GoW _ _ _ _ _ _ _ T13 (mkF m 60 #[.val (.ref a), .val (.ref b), .val (.double x1), .second, .val (.double x2), .second] [])
    refine GoW.step (fun _ k => XS.aloadN X13.here hx rfl (hb hby d2_60) rfl rfl k) ?_
    show GoW _ _ _ _ _ _ _ T13 (mkF m 61 #[.val (.ref a), .val (.ref b), .val (.double x1), .second, .val (.double x2), .second] [(.ref a)])
    refine GoW.step (fun _ k => XS.dloadN X13.here hx rfl (hb hby d2_61) rfl k) ?_
    show GoW _ _ _ _ _ _ _ T13 (mkF m 62 #[.val (.ref a), .val (.ref b), .val (.double x1), .second, .val (.double x2), .second] [(.double x1), (.ref a)])
    obtain ⟨T14, h14, X14, e14, W14, st14⟩ := putF X13 hx hZ hown (host := "") (Or.inl (hw _ (mI 122 rfl))) Via.refl e13 F_capacity_a_13 E_a_13 (Or.inr ⟨(hw _ (mI 123 rfl)), rfl, hnm⟩) (hw _ (mI 6 rfl)) (ty := .double) (by decide) rfl rfl (g := (mkF m 62 #[.val (.ref a), .val (.ref b), .val (.double x1), .second, .val (.double x2), .second] [(.double x1), (.ref a)])) rfl rfl (hb hby d2_62)
    refine GoW.step st14 ?_
    have N14 := Fr.snoc X14 N13 ge_a
    have F_capacity_a_14 := F_capacity_a_13.same W14
    have E_a_14 := E_a_13.wr W14
    have F_id_a_14 := F_id_a_13.other W14 (Or.inr (slot_ne (Or.inr (hw _ (mI 121 rfl))) (Or.inr (hw _ (mI 123 rfl))) (by decide) (t := (.object "java/lang/String")) (t' := .double) (by decide) (by decide)))
    have F_level_a_14 := F_level_a_13.other W14 (Or.inr (slot_ne (Or.inr (hw _ (mI 125 rfl))) (Or.inr (hw _ (mI 123 rfl))) (by decide) (t := .double) (t' := .double) (by decide) (by decide)))
    have hk_14 := hk_13.wr W14
    have K14 : Keep h0 h14 [a] := K13.wr W14 (Or.inl (List.mem_of_getElem? (i := 0) rfl))
    show GoW _ _ _ _ _ _ _ T14 (mkF m 65 #[.val (.ref a), .val (.ref b), .val (.double x1), .second, .val (.double x2), .second] [])
    refine GoW.step (fun _ k => XS.aloadN X14.here hx rfl (hb hby d2_65) rfl rfl k) ?_
    show GoW _ _ _ _ _ _ _ T14 (mkF m 66 #[.val (.ref a), .val (.ref b), .val (.double x1), .second, .val (.double x2), .second] [(.ref a)])
    refine GoW.step (fun _ k => XS.dload X14.here hx rfl (hb hby d2_66) rfl k) ?_
    show GoW _ _ _ _ _ _ _ T14 (mkF m 68 #[.val (.ref a), .val (.ref b), .val (.double x1), .second, .val (.double x2), .second] [(.double x2), (.ref a)])
    obtain ⟨T15, h15, X15, e15, W15, st15⟩ := putF X14 hx hZ hown (host := "") (Or.inl (hw _ (mI 124 rfl))) Via.refl e14 F_level_a_14 E_a_14 (Or.inr ⟨(hw _ (mI 125 rfl)), rfl, hnm⟩) (hw _ (mI 6 rfl)) (ty := .double) (by decide) rfl rfl (g := (mkF m 68 #[.val (.ref a), .val (.ref b), .val (.double x1), .second, .val (.double x2), .second] [(.double x2), (.ref a)])) rfl rfl (hb hby d2_68)
    refine GoW.step st15 ?_
    have N15 := Fr.snoc X15 N14 ge_a
    have F_level_a_15 := F_level_a_14.same W15
    have E_a_15 := E_a_14.wr W15
    have F_id_a_15 := F_id_a_14.other W15 (Or.inr (slot_ne (Or.inr (hw _ (mI 121 rfl))) (Or.inr (hw _ (mI 125 rfl))) (by decide) (t := (.object "java/lang/String")) (t' := .double) (by decide) (by decide)))
    have F_capacity_a_15 := F_capacity_a_14.other W15 (Or.inr (slot_ne (Or.inr (hw _ (mI 123 rfl))) (Or.inr (hw _ (mI 125 rfl))) (by decide) (t := .double) (t' := .double) (by decide) (by decide)))
    have hk_15 := hk_14.wr W15
    have K15 : Keep h0 h15 [a] := K14.wr W15 (Or.inl (List.mem_of_getElem? (i := 0) rfl))
    show GoW _ _ _ _ _ _ _ T15 (mkF m 71 #[.val (.ref a), .val (.ref b), .val (.double x1), .second, .val (.double x2), .second] [])
    refine GoW.retV X15 hS hk_15 e15 hx hlk hret (hb hby d2_71) (by decide) (by decide) ?_
    try rw [e15]
    exact ⟨rfl, N15, K15, E_a_15, F_id_a_15, F_capacity_a_15, F_level_a_15⟩
theorem pn_2 : plainName "com/example/leapwise/leapwise/model/ContinuousPlace" = true := by first | (simp [plainName, overriddenIn]; done) | decide +kernel
theorem ef_rm2 (m : MethodId) (a : Addr) (b : Addr) (x1 : UInt64) (x2 : UInt64) : entryFrame m #[(.ref a), (.ref b), (.double x1), (.double x2)] 6 = mkF m 0 #[.val (.ref a), .val (.ref b), .val (.double x1), .second, .val (.double x2), .second] [] := by first | (simp [entryFrame, mkF, argsToLocals, Value.category]; done) | rfl
theorem rm2 (l : Launch) (Z : State) (a0 : Array Value) (hw : ∀ d ∈ tables_1, d.before a0 Z = true) (a b xb : Addr) (x1 x2 : UInt64) (cs : Int32) (sf : Value) (xi xa : Addr) (h0 : Heap) (n0 : Nat) (Z0 : n0 ≤ h0.size) (E_a : Exa Z h0 a "com/example/leapwise/leapwise/model/ContinuousPlace") (F_id_a : Fld Z h0 a "com/example/leapwise/leapwise/model/ContinuousPlace" "id" "Ljava/lang/String;" .null) (F_capacity_a : Fld Z h0 a "com/example/leapwise/leapwise/model/ContinuousPlace" "capacity" "D" (.double (0 : UInt64))) (F_level_a : Fld Z h0 a "com/example/leapwise/leapwise/model/ContinuousPlace" "level" "D" (.double (0 : UInt64))) (ge_a : n0 ≤ a) (E_b : Exa Z h0 b "java/lang/String") (F_value_b : Fld Z h0 b "java/lang/String" "value" "[B" (.ref xb)) (F_coder_b : Fld Z h0 b "java/lang/String" "coder" "B" (.int (0 : Int32))) (V_xb : Bv Z h0 xb (1 : Int32) (fun _ => (112 : Int32))) (hO : Ext Z.heap h0) (hJ : JS Z cs sf xi xa) (hc : FP.dcmp x1 (9218868437227405312 : UInt64) = some .eq ∨ (¬ FP.dcmp x1 (9218868437227405312 : UInt64) = some .eq ∧ Jvm.Free.Fl.Fin64 x1 ∧ (FP.dcmp x1 (0 : UInt64) = some .gt ∨ FP.dcmp x1 (0 : UInt64) = some .eq))) (hf2 : Jvm.Free.Fl.Fin64 x2) (hg2 : (FP.dcmp x2 (0 : UInt64) = some .gt ∨ FP.dcmp x2 (0 : UInt64) = some .eq)) (hle : ¬ FP.dcmp x2 x1 = some .gt) :
    ConW l Z (⟨"com/example/leapwise/leapwise/model/ContinuousPlace", "<init>", "(Ljava/lang/String;DD)V"⟩ : MethodName) prog_18_method_1_code 6 none ({ frames := 6, cells := 4, slots := 64, locals := 120 } : Room) #[(.ref a), (.ref b), (.double x1), (.double x2)] h0 (fun r h L => r = none ∧ Fr n0 L ∧ Keep h0 h [a] ∧ Exa Z h a "com/example/leapwise/leapwise/model/ContinuousPlace" ∧ Fld Z h a "com/example/leapwise/leapwise/model/ContinuousPlace" "id" "Ljava/lang/String;" (.ref b) ∧ Fld Z h a "com/example/leapwise/leapwise/model/ContinuousPlace" "capacity" "D" (.double x1) ∧ Fld Z h a "com/example/leapwise/leapwise/model/ContinuousPlace" "level" "D" (.double x2)) :=
  con_ofW (plainFor_of_name pn_2) (fun p_ e_ s_ m_ b_ meth_ c_ T_ X_ hx hZ hby hml hown hnm hret hlk e0 => GoW.cast (ef_rm2 m_ a b x1 x2) (w2 a b xb x1 x2 cs sf xi xa X_ hx hZ hw hby hml hown hnm hret hlk e0 Z0 (Fr.nil n0) E_a F_id_a F_capacity_a F_level_a ge_a E_b F_value_b F_coder_b V_xb hO hJ hc hf2 hg2 hle))
theorem d25_0 : decode prog_18_method_2_code 0 = .ok (.aload_n 0, 1) := by decide +kernel
theorem d25_1 : decode prog_18_method_2_code 1 = .ok (.getfield 39, 3) := by decide +kernel
theorem d25_4 : decode prog_18_method_2_code 4 = .ok (.ldc2_w 15, 3) := by decide +kernel
theorem d25_7 : decode prog_18_method_2_code 7 = .ok (.dcmp .l, 1) := by decide +kernel
theorem d25_8 : decode prog_18_method_2_code 8 = .ok (.ifCond .eq 7, 3) := by decide +kernel
theorem d25_15 : decode prog_18_method_2_code 15 = .ok (.iconst 0, 1) := by decide +kernel
theorem d25_16 : decode prog_18_method_2_code 16 = .ok (.ireturn, 1) := by decide +kernel
theorem d25_11 : decode prog_18_method_2_code 11 = .ok (.iconst 1, 1) := by decide +kernel
theorem d25_12 : decode prog_18_method_2_code 12 = .ok (.goto 4, 3) := by decide +kernel
set_option maxRecDepth 65536 in
set_option maxHeartbeats 40000000 in
theorem w25 {p : Program} {l : Launch} {e : Env} {s : State} {m : MethodId} {args : Array Value} {below : List Frame} {meth : Method} {c_ : Code} {T0 : State} {locs : List Loc} {Z : State} {a0 : Array Value} {h0 : Heap} {n0 : Nat} (a : Addr) (x1 : UInt64)
    (X0 : Stand p l e ({ frames := 0, cells := 0, slots := 0, locals := 0 } : Room) s m args below meth c_ T0 locs 0 0) (hx : p.tables.exec = Jvm.exec) (hZ : Z.Warmed39 s.vm) (hw : ∀ d ∈ tables_1, d.before a0 Z = true) (hby : c_.code = prog_18_method_2_code) (hml : c_.maxLocals = 1) (hown : s.vm.findClass "com/example/leapwise/leapwise/model/ContinuousPlace" = some m.cls) (hnm : meth.name = "bounded") (hret : meth.sig.returnType = some .boolean) (hlk : meth.locks = false) (e0 : T0.heap = h0) (Z0 : n0 ≤ h0.size) (N0 : Fr n0 locs) (F_capacity_a : Fld Z h0 a "com/example/leapwise/leapwise/model/ContinuousPlace" "capacity" "D" (.double x1)) :
    Go p e below s ({ frames := 0, cells := 0, slots := 0, locals := 0 } : Room).cells ({ frames := 0, cells := 0, slots := 0, locals := 0 } : Room).slots (fun r h L => ∃ z : Int32, r = some (.int z) ∧ Fr n0 L ∧ h = h0 ∧ ((z = 1 ∧ ¬ FP.dcmp x1 (9218868437227405312 : UInt64) = some .eq) ∨ (z = 0 ∧ FP.dcmp x1 (9218868437227405312 : UInt64) = some .eq))) T0 (mkF m 0 #[.val (.ref a)] []) := by
  show Go _ _ _ _ _ _ _ T0 (mkF m 0 #[.val (.ref a)] [])
  refine Go.step (fun _ k => XS.aloadN X0.here hx rfl (hb hby d25_0) rfl rfl k) ?_
  show Go _ _ _ _ _ _ _ T0 (mkF m 1 #[.val (.ref a)] [(.ref a)])
  obtain ⟨T1, X1, e1, st1⟩ := getF X0 hx hZ hown (host := "") (Or.inl (hw _ (mI 122 rfl))) Via.refl e0 F_capacity_a (g := (mkF m 1 #[.val (.ref a)] [(.ref a)])) rfl rfl (hb hby d25_1)
  refine Go.step st1 ?_
  show Go _ _ _ _ _ _ _ T1 (mkF m 4 #[.val (.ref a)] [(.double x1)])
  refine Go.step (X1.ldc2DoubleC hx hown (mvT hZ (hw _ (mI 103 rfl))) (g := (mkF m 4 #[.val (.ref a)] [(.double x1)])) rfl (hb hby d25_4)) ?_
  show Go _ _ _ _ _ _ _ T1 (mkF m 7 #[.val (.ref a)] [(.double (9218868437227405312 : UInt64)), (.double x1)])
  refine Go.step (fun _ k => XS.dcmpS X1.here hx rfl (hb hby d25_7) rfl rfl k) ?_
  show Go _ _ _ _ _ _ _ T1 (mkF m 8 #[.val (.ref a)] [(.int (cmpValue (FP.dcmp x1 (9218868437227405312 : UInt64)) .l))])
  by_cases hd8_2 : FP.dcmp x1 (9218868437227405312 : UInt64) = some .eq
  · refine Go.step (fun _ k => XS.ifYes X1.here hx rfl (pc0 := 8) (pc' := 15) rfl (hb hby d25_8) rfl (eq_y .l hd8_2).2 (by decide) (by decide) k) ?_
    show Go _ _ _ _ _ _ _ T1 (mkF m 15 #[.val (.ref a)] [])
    refine Go.step (fun _ k => XS.iconst X1.here hx rfl (hb hby d25_15) k) ?_
    show Go _ _ _ _ _ _ _ T1 (mkF m 16 #[.val (.ref a)] [(.int (0 : Int32))])
    refine Go.retZ X1 hx hlk hret (by decide) (hb hby d25_16) (by decide) (by decide) ?_
    try rw [e1]
    exact ⟨_, rfl, N0, rfl, Or.inr ⟨rfl, hd8_2⟩⟩
  · refine Go.step (fun _ k => XS.ifNo X1.here hx rfl (hb hby d25_8) rfl (eq_n .l hd8_2).2 k) ?_
    show Go _ _ _ _ _ _ _ T1 (mkF m 11 #[.val (.ref a)] [])
    refine Go.step (fun _ k => XS.iconst X1.here hx rfl (hb hby d25_11) k) ?_
    show Go _ _ _ _ _ _ _ T1 (mkF m 12 #[.val (.ref a)] [(.int (1 : Int32))])
    refine Go.step (fun _ k => XS.goto X1.here hx rfl (pc0 := 12) (pc' := 16) rfl (hb hby d25_12) (by decide) (by decide) k) ?_
    show Go _ _ _ _ _ _ _ T1 (mkF m 16 #[.val (.ref a)] [(.int (1 : Int32))])
    refine Go.retZ X1 hx hlk hret (by decide) (hb hby d25_16) (by decide) (by decide) ?_
    try rw [e1]
    exact ⟨_, rfl, N0, rfl, Or.inl ⟨rfl, hd8_2⟩⟩
theorem ef_rm25 (m : MethodId) (a : Addr) : entryFrame m #[(.ref a)] 1 = mkF m 0 #[.val (.ref a)] [] := by first | (simp [entryFrame, mkF, argsToLocals, Value.category]; done) | rfl
theorem rm25 (l : Launch) (Z : State) (a0 : Array Value) (hw : ∀ d ∈ tables_1, d.before a0 Z = true) (a : Addr) (x1 : UInt64) (h0 : Heap) (n0 : Nat) (Z0 : n0 ≤ h0.size) (F_capacity_a : Fld Z h0 a "com/example/leapwise/leapwise/model/ContinuousPlace" "capacity" "D" (.double x1)) :
    Con l Z (⟨"com/example/leapwise/leapwise/model/ContinuousPlace", "bounded", "()Z"⟩ : MethodName) prog_18_method_2_code 1 (some .boolean) ({ frames := 0, cells := 0, slots := 0, locals := 0 } : Room) #[(.ref a)] h0 (fun r h L => ∃ z : Int32, r = some (.int z) ∧ Fr n0 L ∧ h = h0 ∧ ((z = 1 ∧ ¬ FP.dcmp x1 (9218868437227405312 : UInt64) = some .eq) ∨ (z = 0 ∧ FP.dcmp x1 (9218868437227405312 : UInt64) = some .eq))) :=
  con_of (plainFor_of_name pn_2) (fun p_ e_ s_ m_ b_ meth_ c_ T_ X_ hx hZ hby hml hown hnm hret hlk e0 => Go.cast (ef_rm25 m_ a) (w25 a x1 X_ hx hZ hw hby hml hown hnm hret hlk e0 Z0 (Fr.nil n0) F_capacity_a))
theorem pd_16 : parseMethodDescriptor "(II)I" = some ⟨[.int, .int], some .int⟩ := by decide +kernel
theorem pd_17 : parseMethodDescriptor "(Ljava/lang/String;DD)V" = some ⟨[(.object "java/lang/String"), .double, .double], none⟩ := by decide +kernel
set_option maxRecDepth 65536 in
set_option maxHeartbeats 40000000 in
theorem w0 {p : Program} {l : Launch} {e : Env} {s : State} {m : MethodId} {args : Array Value} {below : List Frame} {meth : Method} {c_ : Code} {T0 : State} {locs : List Loc} {Z : State} {a0 : Array Value} {h0 : Heap} {n0 : Nat} (p0 p1 p2 : Int32) (cs : Int32) (sf : Value) (xi xa : Addr)
    (X0 : Stand p l e room_1 s m args below meth c_ T0 locs 0 0) (hx : p.tables.exec = Jvm.exec) (hZ : Z.Warmed39 s.vm) (hw : ∀ d ∈ tables_1, d.before a0 Z = true) (hby : c_.code = code) (hml : c_.maxLocals = maxLocals) (hown : s.vm.findClass "com/example/leapwise/leapwise/model/ContinuousPlaceBoundedPinLaw" = some m.cls) (hnm : meth.name = "law") (hret : meth.sig.returnType = ret) (hlk : meth.locks = false) (e0 : T0.heap = h0) (Z0 : n0 ≤ h0.size) (N0 : Fr n0 locs) (hZs : s = Z) (hsh : s.heap = h0) (hn0 : n0 = s.heap.size) (hJ : JS Z cs sf xi xa) (hh0 : Jvm.Lit.constHeld Z "com/example/leapwise/leapwise/model/ContinuousPlaceBoundedPinLaw" 20) (hcw : Jvm.Lit.compactW.before a0 Z = true) :
    GoW p e below s room_1.cells room_1.slots (fun r h L => r = some (.int 1) ∧ Fr n0 L) T0 (mkF m 0 #[.val (.int p0), .val (.int p1), .val (.int p2), .unset, .unset, .unset, .unset, .unset, .unset, .unset, .unset] []) := by
  have hret : meth.sig.returnType = some .boolean := hret
  have X0 : Stand p l e room_1 (s.setVm s.vm) m args below meth c_ T0 locs 0 0 := X0
  have hS : s.Since s.vm h0.size := (State.WarmedH.refl s).since _
  have hk : Szk h0.size h0 := Nat.le_refl _
  have hZ : Z.Warmed39 (s.setVm s.vm).vm := hZ
  have hown : (s.setVm s.vm).vm.findClass "com/example/leapwise/leapwise/model/ContinuousPlaceBoundedPinLaw" = some m.cls := hown
  have hI : IB Z s.vm [] := by rw [hZs]; exact IB.start
  have hZh : Z.heap = h0 := by rw [← hZs]; exact hsh
  have hkeep : ∀ (b : Addr) (cl : Cell), Z.heap[b]? = some cl → s.heap[b]? = some cl := fun b c q => by rw [hZs]; exact q
  show GoW _ _ _ _ _ _ _ T0 (mkF m 0 #[.val (.int p0), .val (.int p1), .val (.int p2), .unset, .unset, .unset, .unset, .unset, .unset, .unset, .unset] [])
  refine GoW.step (fun _ k => XS.iloadN X0.here hx rfl (hb hby at_0) rfl k) ?_
  show GoW _ _ _ _ _ _ _ T0 (mkF m 1 #[.val (.int p0), .val (.int p1), .val (.int p2), .unset, .unset, .unset, .unset, .unset, .unset, .unset, .unset] [(.int p2)])
  refine GoW.step (fun _ k => XS.iconst X0.here hx rfl (hb hby at_1) k) ?_
  show GoW _ _ _ _ _ _ _ T0 (mkF m 2 #[.val (.int p0), .val (.int p1), .val (.int p2), .unset, .unset, .unset, .unset, .unset, .unset, .unset, .unset] [(.int (1 : Int32)), (.int p2)])
  refine GoW.step (fun _ k => XS.iand X0.here hx rfl (hb hby at_2) rfl k) ?_
  show GoW _ _ _ _ _ _ _ T0 (mkF m 3 #[.val (.int p0), .val (.int p1), .val (.int p2), .unset, .unset, .unset, .unset, .unset, .unset, .unset, .unset] [(.int (p2 &&& (1 : Int32)))])
  by_cases hc3_1 : (p2 &&& (1 : Int32)) = (0 : Int32)
  · refine GoW.step (fun _ k => XS.ifYes X0.here hx rfl (pc0 := 3) (pc' := 10) rfl (hb hby at_3) rfl ((if0 _ _).trans (teq hc3_1).1) (by decide) (by decide) k) ?_
    show GoW _ _ _ _ _ _ _ T0 (mkF m 10 #[.val (.int p0), .val (.int p1), .val (.int p2), .unset, .unset, .unset, .unset, .unset, .unset, .unset, .unset] [])
    refine GoW.step (fun _ k => XS.iconst X0.here hx rfl (hb hby at_10) k) ?_
    show GoW _ _ _ _ _ _ _ T0 (mkF m 11 #[.val (.int p0), .val (.int p1), .val (.int p2), .unset, .unset, .unset, .unset, .unset, .unset, .unset, .unset] [(.int (0 : Int32))])
    refine GoW.step (fun _ k => XS.istoreN X0.here hx rfl (hb hby at_11) rfl (l' := #[.val (.int p0), .val (.int p1), .val (.int p2), .val (.int (0 : Int32)), .unset, .unset, .unset, .unset, .unset, .unset, .unset]) rfl k) ?_
    show GoW _ _ _ _ _ _ _ T0 (mkF m 12 #[.val (.int p0), .val (.int p1), .val (.int p2), .val (.int (0 : Int32)), .unset, .unset, .unset, .unset, .unset, .unset, .unset] [])
    refine GoW.step (fun _ k => XS.iloadN X0.here hx rfl (hb hby at_12) rfl k) ?_
    show GoW _ _ _ _ _ _ _ T0 (mkF m 13 #[.val (.int p0), .val (.int p1), .val (.int p2), .val (.int (0 : Int32)), .unset, .unset, .unset, .unset, .unset, .unset, .unset] [(.int p0)])
    refine GoW.step (X0.ldcInt hx hown (mvT hZ (hw _ (mI 0 rfl))) (g := (mkF m 13 #[.val (.int p0), .val (.int p1), .val (.int p2), .val (.int (0 : Int32)), .unset, .unset, .unset, .unset, .unset, .unset, .unset] [(.int p0)])) rfl (hb hby at_13)) ?_
    show GoW _ _ _ _ _ _ _ T0 (mkF m 15 #[.val (.int p0), .val (.int p1), .val (.int p2), .val (.int (0 : Int32)), .unset, .unset, .unset, .unset, .unset, .unset, .unset] [(.int (2147483647 : Int32)), (.int p0)])
    refine GoW.step (fun _ k => XS.iand X0.here hx rfl (hb hby at_15) rfl k) ?_
    show GoW _ _ _ _ _ _ _ T0 (mkF m 16 #[.val (.int p0), .val (.int p1), .val (.int p2), .val (.int (0 : Int32)), .unset, .unset, .unset, .unset, .unset, .unset, .unset] [(.int (p0 &&& (2147483647 : Int32)))])
    refine GoW.step (fun _ k => XS.istore X0.here hx rfl (hb hby at_16) rfl (l' := #[.val (.int p0), .val (.int p1), .val (.int p2), .val (.int (0 : Int32)), .val (.int (p0 &&& (2147483647 : Int32))), .unset, .unset, .unset, .unset, .unset, .unset]) rfl k) ?_
    show GoW _ _ _ _ _ _ _ T0 (mkF m 18 #[.val (.int p0), .val (.int p1), .val (.int p2), .val (.int (0 : Int32)), .val (.int (p0 &&& (2147483647 : Int32))), .unset, .unset, .unset, .unset, .unset, .unset] [])
    refine GoW.step (fun _ k => XS.iloadN X0.here hx rfl (hb hby at_18) rfl k) ?_
    show GoW _ _ _ _ _ _ _ T0 (mkF m 19 #[.val (.int p0), .val (.int p1), .val (.int p2), .val (.int (0 : Int32)), .val (.int (p0 &&& (2147483647 : Int32))), .unset, .unset, .unset, .unset, .unset, .unset] [(.int p1)])
    refine GoW.step (X0.ldcInt hx hown (mvT hZ (hw _ (mI 0 rfl))) (g := (mkF m 19 #[.val (.int p0), .val (.int p1), .val (.int p2), .val (.int (0 : Int32)), .val (.int (p0 &&& (2147483647 : Int32))), .unset, .unset, .unset, .unset, .unset, .unset] [(.int p1)])) rfl (hb hby at_19)) ?_
    show GoW _ _ _ _ _ _ _ T0 (mkF m 21 #[.val (.int p0), .val (.int p1), .val (.int p2), .val (.int (0 : Int32)), .val (.int (p0 &&& (2147483647 : Int32))), .unset, .unset, .unset, .unset, .unset, .unset] [(.int (2147483647 : Int32)), (.int p1)])
    refine GoW.step (fun _ k => XS.iand X0.here hx rfl (hb hby at_21) rfl k) ?_
    show GoW _ _ _ _ _ _ _ T0 (mkF m 22 #[.val (.int p0), .val (.int p1), .val (.int p2), .val (.int (0 : Int32)), .val (.int (p0 &&& (2147483647 : Int32))), .unset, .unset, .unset, .unset, .unset, .unset] [(.int (p1 &&& (2147483647 : Int32)))])
    refine GoW.step (fun _ k => XS.istore X0.here hx rfl (hb hby at_22) rfl (l' := #[.val (.int p0), .val (.int p1), .val (.int p2), .val (.int (0 : Int32)), .val (.int (p0 &&& (2147483647 : Int32))), .val (.int (p1 &&& (2147483647 : Int32))), .unset, .unset, .unset, .unset, .unset]) rfl k) ?_
    show GoW _ _ _ _ _ _ _ T0 (mkF m 24 #[.val (.int p0), .val (.int p1), .val (.int p2), .val (.int (0 : Int32)), .val (.int (p0 &&& (2147483647 : Int32))), .val (.int (p1 &&& (2147483647 : Int32))), .unset, .unset, .unset, .unset, .unset] [])
    refine GoW.step (fun _ k => XS.iloadN X0.here hx rfl (hb hby at_24) rfl k) ?_
    show GoW _ _ _ _ _ _ _ T0 (mkF m 25 #[.val (.int p0), .val (.int p1), .val (.int p2), .val (.int (0 : Int32)), .val (.int (p0 &&& (2147483647 : Int32))), .val (.int (p1 &&& (2147483647 : Int32))), .unset, .unset, .unset, .unset, .unset] [(.int (0 : Int32))])
    refine GoW.step (fun _ k => XS.ifYes X0.here hx rfl (pc0 := 25) (pc' := 41) rfl (hb hby at_25) rfl ((if0 _ _).trans (teq (by decide : (0 : Int32) = (0 : Int32))).1) (by decide) (by decide) k) ?_
    show GoW _ _ _ _ _ _ _ T0 (mkF m 41 #[.val (.int p0), .val (.int p1), .val (.int p2), .val (.int (0 : Int32)), .val (.int (p0 &&& (2147483647 : Int32))), .val (.int (p1 &&& (2147483647 : Int32))), .unset, .unset, .unset, .unset, .unset] [])
    refine GoW.step (fun _ k => XS.iload X0.here hx rfl (hb hby at_41) rfl k) ?_
    show GoW _ _ _ _ _ _ _ T0 (mkF m 43 #[.val (.int p0), .val (.int p1), .val (.int p2), .val (.int (0 : Int32)), .val (.int (p0 &&& (2147483647 : Int32))), .val (.int (p1 &&& (2147483647 : Int32))), .unset, .unset, .unset, .unset, .unset] [(.int (p0 &&& (2147483647 : Int32)))])
    refine GoW.step (fun _ k => XS.i2dS X0.here hx rfl (hb hby at_43) rfl rfl k) ?_
    show GoW _ _ _ _ _ _ _ T0 (mkF m 44 #[.val (.int p0), .val (.int p1), .val (.int p2), .val (.int (0 : Int32)), .val (.int (p0 &&& (2147483647 : Int32))), .val (.int (p1 &&& (2147483647 : Int32))), .unset, .unset, .unset, .unset, .unset] [(.double (FP.i2d (p0 &&& (2147483647 : Int32))))])
    refine GoW.step (fun _ k => XS.dstore X0.here hx rfl (hb hby at_44) rfl (l' := #[.val (.int p0), .val (.int p1), .val (.int p2), .val (.int (0 : Int32)), .val (.int (p0 &&& (2147483647 : Int32))), .val (.int (p1 &&& (2147483647 : Int32))), .val (.double (FP.i2d (p0 &&& (2147483647 : Int32)))), .second, .unset, .unset, .unset]) rfl k) ?_
    show GoW _ _ _ _ _ _ _ T0 (mkF m 46 #[.val (.int p0), .val (.int p1), .val (.int p2), .val (.int (0 : Int32)), .val (.int (p0 &&& (2147483647 : Int32))), .val (.int (p1 &&& (2147483647 : Int32))), .val (.double (FP.i2d (p0 &&& (2147483647 : Int32)))), .second, .unset, .unset, .unset] [])
    refine GoW.step (fun _ k => XS.iload X0.here hx rfl (hb hby at_46) rfl k) ?_
    show GoW _ _ _ _ _ _ _ T0 (mkF m 48 #[.val (.int p0), .val (.int p1), .val (.int p2), .val (.int (0 : Int32)), .val (.int (p0 &&& (2147483647 : Int32))), .val (.int (p1 &&& (2147483647 : Int32))), .val (.double (FP.i2d (p0 &&& (2147483647 : Int32)))), .second, .unset, .unset, .unset] [(.int (p1 &&& (2147483647 : Int32)))])
    refine GoW.step (fun _ k => XS.iload X0.here hx rfl (hb hby at_48) rfl k) ?_
    show GoW _ _ _ _ _ _ _ T0 (mkF m 50 #[.val (.int p0), .val (.int p1), .val (.int p2), .val (.int (0 : Int32)), .val (.int (p0 &&& (2147483647 : Int32))), .val (.int (p1 &&& (2147483647 : Int32))), .val (.double (FP.i2d (p0 &&& (2147483647 : Int32)))), .second, .unset, .unset, .unset] [(.int (p0 &&& (2147483647 : Int32))), (.int (p1 &&& (2147483647 : Int32)))])
    refine GoW.callS X0 hx hZ (by rw [hml]; rfl) (y := (⟨"java/lang/Math", "min", "(II)I"⟩ : MethodName)) (argsL := [(.int (p1 &&& (2147483647 : Int32))), (.int (p0 &&& (2147483647 : Int32)))]) (rest := []) hown (hw _ (mI 1 rfl)) (hw _ (mI 2 rfl)) (hw _ (mI 3 rfl)) (hw _ (mI 4 rfl)) (by decide) (rm1 l Z a0 hw (p1 &&& (2147483647 : Int32)) (p0 &&& (2147483647 : Int32)) h0 n0 Z0) e0 (hb hby at_50) (lenOf pd_16 rfl) rfl rfl (W := 0) (Nat.le_of_eq rfl) (by decide) (by decide) (by decide) (by decide) ?_
    intro v2 T2 L2 X2 Q2
    obtain ⟨rfl, N2q, hh2⟩ := Q2
    have N2 := Fr.app N0 N2q
    show GoW _ _ _ _ _ _ _ T2 (mkF m 53 #[.val (.int p0), .val (.int p1), .val (.int p2), .val (.int (0 : Int32)), .val (.int (p0 &&& (2147483647 : Int32))), .val (.int (p1 &&& (2147483647 : Int32))), .val (.double (FP.i2d (p0 &&& (2147483647 : Int32)))), .second, .unset, .unset, .unset] [(.int (minW (p1 &&& (2147483647 : Int32)) (p0 &&& (2147483647 : Int32))))])
    refine GoW.step (fun _ k => XS.i2dS X2.here hx rfl (hb hby at_53) rfl rfl k) ?_
    show GoW _ _ _ _ _ _ _ T2 (mkF m 54 #[.val (.int p0), .val (.int p1), .val (.int p2), .val (.int (0 : Int32)), .val (.int (p0 &&& (2147483647 : Int32))), .val (.int (p1 &&& (2147483647 : Int32))), .val (.double (FP.i2d (p0 &&& (2147483647 : Int32)))), .second, .unset, .unset, .unset] [(.double (FP.i2d (minW (p1 &&& (2147483647 : Int32)) (p0 &&& (2147483647 : Int32)))))])
    refine GoW.step (fun _ k => XS.dstore X2.here hx rfl (hb hby at_54) rfl (l' := #[.val (.int p0), .val (.int p1), .val (.int p2), .val (.int (0 : Int32)), .val (.int (p0 &&& (2147483647 : Int32))), .val (.int (p1 &&& (2147483647 : Int32))), .val (.double (FP.i2d (p0 &&& (2147483647 : Int32)))), .second, .val (.double (FP.i2d (minW (p1 &&& (2147483647 : Int32)) (p0 &&& (2147483647 : Int32))))), .second, .unset]) rfl k) ?_
    show GoW _ _ _ _ _ _ _ T2 (mkF m 56 #[.val (.int p0), .val (.int p1), .val (.int p2), .val (.int (0 : Int32)), .val (.int (p0 &&& (2147483647 : Int32))), .val (.int (p1 &&& (2147483647 : Int32))), .val (.double (FP.i2d (p0 &&& (2147483647 : Int32)))), .second, .val (.double (FP.i2d (minW (p1 &&& (2147483647 : Int32)) (p0 &&& (2147483647 : Int32))))), .second, .unset] [])
    obtain ⟨T3, h3, X3, e3, E3, A3, D3, -, st3⟩ := newO X2 hx hZ hown (hw _ (mI 5 rfl)) (hw _ (mI 6 rfl)) (hw _ (mI 7 rfl)) hh2 (g := (mkF m 56 #[.val (.int p0), .val (.int p1), .val (.int p2), .val (.int (0 : Int32)), .val (.int (p0 &&& (2147483647 : Int32))), .val (.int (p1 &&& (2147483647 : Int32))), .val (.double (FP.i2d (p0 &&& (2147483647 : Int32)))), .second, .val (.double (FP.i2d (minW (p1 &&& (2147483647 : Int32)) (p0 &&& (2147483647 : Int32))))), .second, .unset] [])) rfl (hb hby at_56) (by decide) (by decide)
    obtain ⟨b3, g3⟩ : ∃ z, z = h0.size := ⟨_, rfl⟩
    rw [← g3] at A3 D3 st3
    refine GoW.step st3 ?_
    have K3 : Keep h0 h3 [] := (Keep.refl h0 []).ext E3
    have sz_b3 : h0.size ≤ b3 := Nat.le_trans ((Keep.refl h0 []) : Keep h0 h0 []).1 (Nat.le_of_eq g3.symm)
    have ge_b3 : n0 ≤ b3 := Nat.le_trans Z0 sz_b3
    have hk_3 := hk.ext E3
    have E_b3 := A3
    have F_id_b3 : Fld Z h3 b3 "com/example/leapwise/leapwise/model/ContinuousPlace" "id" "Ljava/lang/String;" .null := D3 (Or.inr (hw _ (mI 121 rfl))) (ty := (.object "java/lang/String")) (by decide)
    have F_capacity_b3 : Fld Z h3 b3 "com/example/leapwise/leapwise/model/ContinuousPlace" "capacity" "D" (.double (0 : UInt64)) := D3 (Or.inr (hw _ (mI 123 rfl))) (ty := .double) (by decide)
    have F_level_b3 : Fld Z h3 b3 "com/example/leapwise/leapwise/model/ContinuousPlace" "level" "D" (.double (0 : UInt64)) := D3 (Or.inr (hw _ (mI 125 rfl))) (ty := .double) (by decide)
    show GoW _ _ _ _ _ _ _ T3 (mkF m 59 #[.val (.int p0), .val (.int p1), .val (.int p2), .val (.int (0 : Int32)), .val (.int (p0 &&& (2147483647 : Int32))), .val (.int (p1 &&& (2147483647 : Int32))), .val (.double (FP.i2d (p0 &&& (2147483647 : Int32)))), .second, .val (.double (FP.i2d (minW (p1 &&& (2147483647 : Int32)) (p0 &&& (2147483647 : Int32))))), .second, .unset] [(.ref b3)])
    refine GoW.step (fun _ k => XS.dup X3.here hx rfl (hb hby at_59) rfl rfl k) ?_
    show GoW _ _ _ _ _ _ _ T3 (mkF m 60 #[.val (.int p0), .val (.int p1), .val (.int p2), .val (.int (0 : Int32)), .val (.int (p0 &&& (2147483647 : Int32))), .val (.int (p1 &&& (2147483647 : Int32))), .val (.double (FP.i2d (p0 &&& (2147483647 : Int32)))), .second, .val (.double (FP.i2d (minW (p1 &&& (2147483647 : Int32)) (p0 &&& (2147483647 : Int32))))), .second, .unset] [(.ref b3), (.ref b3)])
    obtain ⟨b4, T4, h4, kk4, xb, kb, X4, e4, E4, hS, hk_4, hZ, hown, Eb, Cb, Vb, Ab, -, -, -, st4⟩ := ldcSV X3 hx hZ hown (hw _ (mI 8 rfl)) (own_wS hw) e3 hS hk_3 (by rw [← hn0]; exact N2) hkeep hI (by simp) hh0 hcw (z := (1 : Int32)) (vs := [.int 112]) ⟨by decide, by decide⟩ (by decide) rfl (g := (mkF m 60 #[.val (.int p0), .val (.int p1), .val (.int p2), .val (.int (0 : Int32)), .val (.int (p0 &&& (2147483647 : Int32))), .val (.int (p1 &&& (2147483647 : Int32))), .val (.double (FP.i2d (p0 &&& (2147483647 : Int32)))), .second, .val (.double (FP.i2d (minW (p1 &&& (2147483647 : Int32)) (p0 &&& (2147483647 : Int32))))), .second, .unset] [(.ref b3), (.ref b3)])) rfl (hb hby at_60) (n := 4) (by decide) (by decide) (by decide) (by decide)
    have hk_4 : Szk kk4 h4 := hk_4
    refine GoW.step st4 ?_
    have K4 : Keep h0 h4 [] := K3.ext E4
    have E_b3_4 := E_b3.ext E4
    have F_id_b3_4 := F_id_b3.ext E4
    have F_capacity_b3_4 := F_capacity_b3.ext E4
    have F_level_b3_4 := F_level_b3.ext E4
    have hO : Ext Z.heap h4 := ⟨by rw [hZh]; exact (K4 : Keep h0 h4 []).1, fun x c q => by rw [hZh] at q; exact (K4 : Keep h0 h4 []).2.1 x c q nin0⟩
    show GoW _ _ _ _ _ _ _ T4 (mkF m 62 #[.val (.int p0), .val (.int p1), .val (.int p2), .val (.int (0 : Int32)), .val (.int (p0 &&& (2147483647 : Int32))), .val (.int (p1 &&& (2147483647 : Int32))), .val (.double (FP.i2d (p0 &&& (2147483647 : Int32)))), .second, .val (.double (FP.i2d (minW (p1 &&& (2147483647 : Int32)) (p0 &&& (2147483647 : Int32))))), .second, .unset] [(.ref b4), (.ref b3), (.ref b3)])
    refine GoW.step (fun _ k => XS.dload X4.here hx rfl (hb hby at_62) rfl k) ?_
    show GoW _ _ _ _ _ _ _ T4 (mkF m 64 #[.val (.int p0), .val (.int p1), .val (.int p2), .val (.int (0 : Int32)), .val (.int (p0 &&& (2147483647 : Int32))), .val (.int (p1 &&& (2147483647 : Int32))), .val (.double (FP.i2d (p0 &&& (2147483647 : Int32)))), .second, .val (.double (FP.i2d (minW (p1 &&& (2147483647 : Int32)) (p0 &&& (2147483647 : Int32))))), .second, .unset] [(.double (FP.i2d (p0 &&& (2147483647 : Int32)))), (.ref b4), (.ref b3), (.ref b3)])
    refine GoW.step (fun _ k => XS.dload X4.here hx rfl (hb hby at_64) rfl k) ?_
    show GoW _ _ _ _ _ _ _ T4 (mkF m 66 #[.val (.int p0), .val (.int p1), .val (.int p2), .val (.int (0 : Int32)), .val (.int (p0 &&& (2147483647 : Int32))), .val (.int (p1 &&& (2147483647 : Int32))), .val (.double (FP.i2d (p0 &&& (2147483647 : Int32)))), .second, .val (.double (FP.i2d (minW (p1 &&& (2147483647 : Int32)) (p0 &&& (2147483647 : Int32))))), .second, .unset] [(.double (FP.i2d (minW (p1 &&& (2147483647 : Int32)) (p0 &&& (2147483647 : Int32))))), (.double (FP.i2d (p0 &&& (2147483647 : Int32)))), (.ref b4), (.ref b3), (.ref b3)])
    refine GoW.callIW X4 hS hk_4 hx hZ (by rw [hml]; rfl) (y := (⟨"com/example/leapwise/leapwise/model/ContinuousPlace", "<init>", "(Ljava/lang/String;DD)V"⟩ : MethodName)) (a := b3) (argsL := [(.ref b4), (.double (FP.i2d (p0 &&& (2147483647 : Int32)))), (.double (FP.i2d (minW (p1 &&& (2147483647 : Int32)) (p0 &&& (2147483647 : Int32)))))]) (rest := [(.ref b3)]) rfl hown (hw _ (mI 16 rfl)) (hw _ (mI 17 rfl)) (hw _ (mI 7 rfl)) (hw _ (mI 18 rfl)) (by decide) (rm2 l Z a0 hw b3 b4 xb (FP.i2d (p0 &&& (2147483647 : Int32))) (FP.i2d (minW (p1 &&& (2147483647 : Int32)) (p0 &&& (2147483647 : Int32)))) cs sf xi xa h4 n0 (Nat.le_trans Z0 (K4 : Keep h0 h4 []).1) E_b3_4 F_id_b3_4 F_capacity_b3_4 F_level_b3_4 ge_b3 Eb Vb Cb (own_bv Ab) hO hJ (Or.inr ⟨own_fie (Jvm.Free.Fl.i2d_fin _), Jvm.Free.Fl.i2d_fin _, own_dge (own_m31 _)⟩) (Jvm.Free.Fl.i2d_fin _) (own_dge (own_min0 (own_m31 _) (own_m31 _))) (own_ngt _ _)) e4 (hb hby at_66) (lenOf pd_17 rfl) rfl rfl (W := 1) (Nat.le_of_eq rfl) (by decide) (by decide) (by decide) (by decide) ?_
    intro v5 T5 L5 X5 Q5 hS hZ hown
    obtain ⟨rfl, N5q, Kc5, Ec5, F5_id, F5_capacity, F5_level⟩ := Q5
    have N5 := Fr.app N2 N5q
    have E_b3_5 := E_b3_4.keep Kc5
    have KK5 : Keep h0 T5.heap [] := (K4 : Keep h0 h4 []).trans Kc5 (allS (Or.inr sz_b3) all0)
    have hk_5 : Szk T5.heap.size T5.heap := Nat.le_refl _
    show GoW _ _ _ _ _ _ _ T5 (mkF m 69 #[.val (.int p0), .val (.int p1), .val (.int p2), .val (.int (0 : Int32)), .val (.int (p0 &&& (2147483647 : Int32))), .val (.int (p1 &&& (2147483647 : Int32))), .val (.double (FP.i2d (p0 &&& (2147483647 : Int32)))), .second, .val (.double (FP.i2d (minW (p1 &&& (2147483647 : Int32)) (p0 &&& (2147483647 : Int32))))), .second, .unset] [(.ref b3)])
    refine GoW.step (fun _ k => XS.astore X5.here hx rfl (hb hby at_69) rfl rfl (l' := #[.val (.int p0), .val (.int p1), .val (.int p2), .val (.int (0 : Int32)), .val (.int (p0 &&& (2147483647 : Int32))), .val (.int (p1 &&& (2147483647 : Int32))), .val (.double (FP.i2d (p0 &&& (2147483647 : Int32)))), .second, .val (.double (FP.i2d (minW (p1 &&& (2147483647 : Int32)) (p0 &&& (2147483647 : Int32))))), .second, .val (.ref b3)]) rfl k) ?_
    show GoW _ _ _ _ _ _ _ T5 (mkF m 71 #[.val (.int p0), .val (.int p1), .val (.int p2), .val (.int (0 : Int32)), .val (.int (p0 &&& (2147483647 : Int32))), .val (.int (p1 &&& (2147483647 : Int32))), .val (.double (FP.i2d (p0 &&& (2147483647 : Int32)))), .second, .val (.double (FP.i2d (minW (p1 &&& (2147483647 : Int32)) (p0 &&& (2147483647 : Int32))))), .second, .val (.ref b3)] [])
    refine GoW.step (fun _ k => XS.aload X5.here hx rfl (hb hby at_71) rfl rfl k) ?_
    show GoW _ _ _ _ _ _ _ T5 (mkF m 73 #[.val (.int p0), .val (.int p1), .val (.int p2), .val (.int (0 : Int32)), .val (.int (p0 &&& (2147483647 : Int32))), .val (.int (p1 &&& (2147483647 : Int32))), .val (.double (FP.i2d (p0 &&& (2147483647 : Int32)))), .second, .val (.double (FP.i2d (minW (p1 &&& (2147483647 : Int32)) (p0 &&& (2147483647 : Int32))))), .second, .val (.ref b3)] [(.ref b3)])
    refine GoW.callV X5 hx hZ (by rw [hml]; rfl) (y := (⟨"com/example/leapwise/leapwise/model/ContinuousPlace", "bounded", "()Z"⟩ : MethodName)) (z := (⟨"com/example/leapwise/leapwise/model/ContinuousPlace", "bounded", "()Z"⟩ : MethodName)) (a := b3) (argsL := []) (rest := []) hown (hw _ (mI 126 rfl)) (hw _ (mI 127 rfl)) (notFace_of_selects (args := #[]) (mvT hZ (hw _ (mI 129 rfl)))) (hw _ (mI 129 rfl)) (hw _ (mI 128 rfl)) (hw _ (mI 7 rfl)) (hw _ (mI 130 rfl)) (by decide) (rm25 l Z a0 hw b3 (FP.i2d (p0 &&& (2147483647 : Int32))) T5.heap n0 (Nat.le_trans Z0 (KK5 : Keep h0 T5.heap []).1) F5_capacity) rfl E_b3_5 (hb hby at_73) (lenOf pd_4 rfl) rfl rfl (W := 0) (Nat.le_of_eq rfl) (by decide) (by decide) (by decide) (by decide) ?_
    intro v6 T6 L6 X6 Q6
    obtain ⟨zb, rfl, N6q, hh6, hzb⟩ := Q6
    have N6 := Fr.app N5 N6q
    show GoW _ _ _ _ _ _ _ T6 (mkF m 76 #[.val (.int p0), .val (.int p1), .val (.int p2), .val (.int (0 : Int32)), .val (.int (p0 &&& (2147483647 : Int32))), .val (.int (p1 &&& (2147483647 : Int32))), .val (.double (FP.i2d (p0 &&& (2147483647 : Int32)))), .second, .val (.double (FP.i2d (minW (p1 &&& (2147483647 : Int32)) (p0 &&& (2147483647 : Int32))))), .second, .val (.ref b3)] [(.int zb)])
    refine GoW.step (fun _ k => XS.iloadN X6.here hx rfl (hb hby at_76) rfl k) ?_
    show GoW _ _ _ _ _ _ _ T6 (mkF m 77 #[.val (.int p0), .val (.int p1), .val (.int p2), .val (.int (0 : Int32)), .val (.int (p0 &&& (2147483647 : Int32))), .val (.int (p1 &&& (2147483647 : Int32))), .val (.double (FP.i2d (p0 &&& (2147483647 : Int32)))), .second, .val (.double (FP.i2d (minW (p1 &&& (2147483647 : Int32)) (p0 &&& (2147483647 : Int32))))), .second, .val (.ref b3)] [(.int (0 : Int32)), (.int zb)])
    refine GoW.step (fun _ k => XS.ifNo X6.here hx rfl (hb hby at_77) rfl ((if0 _ _).trans (teq (by decide : (0 : Int32) = (0 : Int32))).2) k) ?_
    show GoW _ _ _ _ _ _ _ T6 (mkF m 80 #[.val (.int p0), .val (.int p1), .val (.int p2), .val (.int (0 : Int32)), .val (.int (p0 &&& (2147483647 : Int32))), .val (.int (p1 &&& (2147483647 : Int32))), .val (.double (FP.i2d (p0 &&& (2147483647 : Int32)))), .second, .val (.double (FP.i2d (minW (p1 &&& (2147483647 : Int32)) (p0 &&& (2147483647 : Int32))))), .second, .val (.ref b3)] [(.int zb)])
    refine GoW.step (fun _ k => XS.iconst X6.here hx rfl (hb hby at_80) k) ?_
    show GoW _ _ _ _ _ _ _ T6 (mkF m 81 #[.val (.int p0), .val (.int p1), .val (.int p2), .val (.int (0 : Int32)), .val (.int (p0 &&& (2147483647 : Int32))), .val (.int (p1 &&& (2147483647 : Int32))), .val (.double (FP.i2d (p0 &&& (2147483647 : Int32)))), .second, .val (.double (FP.i2d (minW (p1 &&& (2147483647 : Int32)) (p0 &&& (2147483647 : Int32))))), .second, .val (.ref b3)] [(.int (1 : Int32)), (.int zb)])
    refine GoW.step (fun _ k => XS.goto X6.here hx rfl (pc0 := 81) (pc' := 85) rfl (hb hby at_81) (by decide) (by decide) k) ?_
    show GoW _ _ _ _ _ _ _ T6 (mkF m 85 #[.val (.int p0), .val (.int p1), .val (.int p2), .val (.int (0 : Int32)), .val (.int (p0 &&& (2147483647 : Int32))), .val (.int (p1 &&& (2147483647 : Int32))), .val (.double (FP.i2d (p0 &&& (2147483647 : Int32)))), .second, .val (.double (FP.i2d (minW (p1 &&& (2147483647 : Int32)) (p0 &&& (2147483647 : Int32))))), .second, .val (.ref b3)] [(.int (1 : Int32)), (.int zb)])
    refine GoW.step (fun _ k => XS.icmpNo X6.here hx rfl (hb hby at_85) rfl (teq (hzb.resolve_right fun z => absurd z.2 (own_fie (Jvm.Free.Fl.i2d_fin _))).1).2 k) ?_
    show GoW _ _ _ _ _ _ _ T6 (mkF m 88 #[.val (.int p0), .val (.int p1), .val (.int p2), .val (.int (0 : Int32)), .val (.int (p0 &&& (2147483647 : Int32))), .val (.int (p1 &&& (2147483647 : Int32))), .val (.double (FP.i2d (p0 &&& (2147483647 : Int32)))), .second, .val (.double (FP.i2d (minW (p1 &&& (2147483647 : Int32)) (p0 &&& (2147483647 : Int32))))), .second, .val (.ref b3)] [])
    refine GoW.step (fun _ k => XS.iconst X6.here hx rfl (hb hby at_88) k) ?_
    show GoW _ _ _ _ _ _ _ T6 (mkF m 89 #[.val (.int p0), .val (.int p1), .val (.int p2), .val (.int (0 : Int32)), .val (.int (p0 &&& (2147483647 : Int32))), .val (.int (p1 &&& (2147483647 : Int32))), .val (.double (FP.i2d (p0 &&& (2147483647 : Int32)))), .second, .val (.double (FP.i2d (minW (p1 &&& (2147483647 : Int32)) (p0 &&& (2147483647 : Int32))))), .second, .val (.ref b3)] [(.int (1 : Int32))])
    refine GoW.step (fun _ k => XS.goto X6.here hx rfl (pc0 := 89) (pc' := 93) rfl (hb hby at_89) (by decide) (by decide) k) ?_
    show GoW _ _ _ _ _ _ _ T6 (mkF m 93 #[.val (.int p0), .val (.int p1), .val (.int p2), .val (.int (0 : Int32)), .val (.int (p0 &&& (2147483647 : Int32))), .val (.int (p1 &&& (2147483647 : Int32))), .val (.double (FP.i2d (p0 &&& (2147483647 : Int32)))), .second, .val (.double (FP.i2d (minW (p1 &&& (2147483647 : Int32)) (p0 &&& (2147483647 : Int32))))), .second, .val (.ref b3)] [(.int (1 : Int32))])
    refine GoW.retZ X6 hS hk_5 hh6 hx hlk hret (by decide) (hb hby at_93) (by decide) (by decide) ?_
    try rw [hh6]
    exact ⟨rfl, N6⟩
  · refine GoW.step (fun _ k => XS.ifNo X0.here hx rfl (hb hby at_3) rfl ((if0 _ _).trans (feq hc3_1).1) k) ?_
    show GoW _ _ _ _ _ _ _ T0 (mkF m 6 #[.val (.int p0), .val (.int p1), .val (.int p2), .unset, .unset, .unset, .unset, .unset, .unset, .unset, .unset] [])
    refine GoW.step (fun _ k => XS.iconst X0.here hx rfl (hb hby at_6) k) ?_
    show GoW _ _ _ _ _ _ _ T0 (mkF m 7 #[.val (.int p0), .val (.int p1), .val (.int p2), .unset, .unset, .unset, .unset, .unset, .unset, .unset, .unset] [(.int (1 : Int32))])
    refine GoW.step (fun _ k => XS.goto X0.here hx rfl (pc0 := 7) (pc' := 11) rfl (hb hby at_7) (by decide) (by decide) k) ?_
    show GoW _ _ _ _ _ _ _ T0 (mkF m 11 #[.val (.int p0), .val (.int p1), .val (.int p2), .unset, .unset, .unset, .unset, .unset, .unset, .unset, .unset] [(.int (1 : Int32))])
    refine GoW.step (fun _ k => XS.istoreN X0.here hx rfl (hb hby at_11) rfl (l' := #[.val (.int p0), .val (.int p1), .val (.int p2), .val (.int (1 : Int32)), .unset, .unset, .unset, .unset, .unset, .unset, .unset]) rfl k) ?_
    show GoW _ _ _ _ _ _ _ T0 (mkF m 12 #[.val (.int p0), .val (.int p1), .val (.int p2), .val (.int (1 : Int32)), .unset, .unset, .unset, .unset, .unset, .unset, .unset] [])
    refine GoW.step (fun _ k => XS.iloadN X0.here hx rfl (hb hby at_12) rfl k) ?_
    show GoW _ _ _ _ _ _ _ T0 (mkF m 13 #[.val (.int p0), .val (.int p1), .val (.int p2), .val (.int (1 : Int32)), .unset, .unset, .unset, .unset, .unset, .unset, .unset] [(.int p0)])
    refine GoW.step (X0.ldcInt hx hown (mvT hZ (hw _ (mI 0 rfl))) (g := (mkF m 13 #[.val (.int p0), .val (.int p1), .val (.int p2), .val (.int (1 : Int32)), .unset, .unset, .unset, .unset, .unset, .unset, .unset] [(.int p0)])) rfl (hb hby at_13)) ?_
    show GoW _ _ _ _ _ _ _ T0 (mkF m 15 #[.val (.int p0), .val (.int p1), .val (.int p2), .val (.int (1 : Int32)), .unset, .unset, .unset, .unset, .unset, .unset, .unset] [(.int (2147483647 : Int32)), (.int p0)])
    refine GoW.step (fun _ k => XS.iand X0.here hx rfl (hb hby at_15) rfl k) ?_
    show GoW _ _ _ _ _ _ _ T0 (mkF m 16 #[.val (.int p0), .val (.int p1), .val (.int p2), .val (.int (1 : Int32)), .unset, .unset, .unset, .unset, .unset, .unset, .unset] [(.int (p0 &&& (2147483647 : Int32)))])
    refine GoW.step (fun _ k => XS.istore X0.here hx rfl (hb hby at_16) rfl (l' := #[.val (.int p0), .val (.int p1), .val (.int p2), .val (.int (1 : Int32)), .val (.int (p0 &&& (2147483647 : Int32))), .unset, .unset, .unset, .unset, .unset, .unset]) rfl k) ?_
    show GoW _ _ _ _ _ _ _ T0 (mkF m 18 #[.val (.int p0), .val (.int p1), .val (.int p2), .val (.int (1 : Int32)), .val (.int (p0 &&& (2147483647 : Int32))), .unset, .unset, .unset, .unset, .unset, .unset] [])
    refine GoW.step (fun _ k => XS.iloadN X0.here hx rfl (hb hby at_18) rfl k) ?_
    show GoW _ _ _ _ _ _ _ T0 (mkF m 19 #[.val (.int p0), .val (.int p1), .val (.int p2), .val (.int (1 : Int32)), .val (.int (p0 &&& (2147483647 : Int32))), .unset, .unset, .unset, .unset, .unset, .unset] [(.int p1)])
    refine GoW.step (X0.ldcInt hx hown (mvT hZ (hw _ (mI 0 rfl))) (g := (mkF m 19 #[.val (.int p0), .val (.int p1), .val (.int p2), .val (.int (1 : Int32)), .val (.int (p0 &&& (2147483647 : Int32))), .unset, .unset, .unset, .unset, .unset, .unset] [(.int p1)])) rfl (hb hby at_19)) ?_
    show GoW _ _ _ _ _ _ _ T0 (mkF m 21 #[.val (.int p0), .val (.int p1), .val (.int p2), .val (.int (1 : Int32)), .val (.int (p0 &&& (2147483647 : Int32))), .unset, .unset, .unset, .unset, .unset, .unset] [(.int (2147483647 : Int32)), (.int p1)])
    refine GoW.step (fun _ k => XS.iand X0.here hx rfl (hb hby at_21) rfl k) ?_
    show GoW _ _ _ _ _ _ _ T0 (mkF m 22 #[.val (.int p0), .val (.int p1), .val (.int p2), .val (.int (1 : Int32)), .val (.int (p0 &&& (2147483647 : Int32))), .unset, .unset, .unset, .unset, .unset, .unset] [(.int (p1 &&& (2147483647 : Int32)))])
    refine GoW.step (fun _ k => XS.istore X0.here hx rfl (hb hby at_22) rfl (l' := #[.val (.int p0), .val (.int p1), .val (.int p2), .val (.int (1 : Int32)), .val (.int (p0 &&& (2147483647 : Int32))), .val (.int (p1 &&& (2147483647 : Int32))), .unset, .unset, .unset, .unset, .unset]) rfl k) ?_
    show GoW _ _ _ _ _ _ _ T0 (mkF m 24 #[.val (.int p0), .val (.int p1), .val (.int p2), .val (.int (1 : Int32)), .val (.int (p0 &&& (2147483647 : Int32))), .val (.int (p1 &&& (2147483647 : Int32))), .unset, .unset, .unset, .unset, .unset] [])
    refine GoW.step (fun _ k => XS.iloadN X0.here hx rfl (hb hby at_24) rfl k) ?_
    show GoW _ _ _ _ _ _ _ T0 (mkF m 25 #[.val (.int p0), .val (.int p1), .val (.int p2), .val (.int (1 : Int32)), .val (.int (p0 &&& (2147483647 : Int32))), .val (.int (p1 &&& (2147483647 : Int32))), .unset, .unset, .unset, .unset, .unset] [(.int (1 : Int32))])
    refine GoW.step (fun _ k => XS.ifNo X0.here hx rfl (hb hby at_25) rfl ((if0 _ _).trans (feq (by decide : ¬ ((1 : Int32) = (0 : Int32)))).1) k) ?_
    show GoW _ _ _ _ _ _ _ T0 (mkF m 28 #[.val (.int p0), .val (.int p1), .val (.int p2), .val (.int (1 : Int32)), .val (.int (p0 &&& (2147483647 : Int32))), .val (.int (p1 &&& (2147483647 : Int32))), .unset, .unset, .unset, .unset, .unset] [])
    refine GoW.step (X0.ldc2DoubleC hx hown (mvT hZ (hw _ (mI 131 rfl))) (g := (mkF m 28 #[.val (.int p0), .val (.int p1), .val (.int p2), .val (.int (1 : Int32)), .val (.int (p0 &&& (2147483647 : Int32))), .val (.int (p1 &&& (2147483647 : Int32))), .unset, .unset, .unset, .unset, .unset] [])) rfl (hb hby at_28)) ?_
    show GoW _ _ _ _ _ _ _ T0 (mkF m 31 #[.val (.int p0), .val (.int p1), .val (.int p2), .val (.int (1 : Int32)), .val (.int (p0 &&& (2147483647 : Int32))), .val (.int (p1 &&& (2147483647 : Int32))), .unset, .unset, .unset, .unset, .unset] [(.double (9218868437227405312 : UInt64))])
    refine GoW.step (fun _ k => XS.dstore X0.here hx rfl (hb hby at_31) rfl (l' := #[.val (.int p0), .val (.int p1), .val (.int p2), .val (.int (1 : Int32)), .val (.int (p0 &&& (2147483647 : Int32))), .val (.int (p1 &&& (2147483647 : Int32))), .val (.double (9218868437227405312 : UInt64)), .second, .unset, .unset, .unset]) rfl k) ?_
    show GoW _ _ _ _ _ _ _ T0 (mkF m 33 #[.val (.int p0), .val (.int p1), .val (.int p2), .val (.int (1 : Int32)), .val (.int (p0 &&& (2147483647 : Int32))), .val (.int (p1 &&& (2147483647 : Int32))), .val (.double (9218868437227405312 : UInt64)), .second, .unset, .unset, .unset] [])
    refine GoW.step (fun _ k => XS.iload X0.here hx rfl (hb hby at_33) rfl k) ?_
    show GoW _ _ _ _ _ _ _ T0 (mkF m 35 #[.val (.int p0), .val (.int p1), .val (.int p2), .val (.int (1 : Int32)), .val (.int (p0 &&& (2147483647 : Int32))), .val (.int (p1 &&& (2147483647 : Int32))), .val (.double (9218868437227405312 : UInt64)), .second, .unset, .unset, .unset] [(.int (p1 &&& (2147483647 : Int32)))])
    refine GoW.step (fun _ k => XS.i2dS X0.here hx rfl (hb hby at_35) rfl rfl k) ?_
    show GoW _ _ _ _ _ _ _ T0 (mkF m 36 #[.val (.int p0), .val (.int p1), .val (.int p2), .val (.int (1 : Int32)), .val (.int (p0 &&& (2147483647 : Int32))), .val (.int (p1 &&& (2147483647 : Int32))), .val (.double (9218868437227405312 : UInt64)), .second, .unset, .unset, .unset] [(.double (FP.i2d (p1 &&& (2147483647 : Int32))))])
    refine GoW.step (fun _ k => XS.dstore X0.here hx rfl (hb hby at_36) rfl (l' := #[.val (.int p0), .val (.int p1), .val (.int p2), .val (.int (1 : Int32)), .val (.int (p0 &&& (2147483647 : Int32))), .val (.int (p1 &&& (2147483647 : Int32))), .val (.double (9218868437227405312 : UInt64)), .second, .val (.double (FP.i2d (p1 &&& (2147483647 : Int32)))), .second, .unset]) rfl k) ?_
    show GoW _ _ _ _ _ _ _ T0 (mkF m 38 #[.val (.int p0), .val (.int p1), .val (.int p2), .val (.int (1 : Int32)), .val (.int (p0 &&& (2147483647 : Int32))), .val (.int (p1 &&& (2147483647 : Int32))), .val (.double (9218868437227405312 : UInt64)), .second, .val (.double (FP.i2d (p1 &&& (2147483647 : Int32)))), .second, .unset] [])
    refine GoW.step (fun _ k => XS.goto X0.here hx rfl (pc0 := 38) (pc' := 56) rfl (hb hby at_38) (by decide) (by decide) k) ?_
    show GoW _ _ _ _ _ _ _ T0 (mkF m 56 #[.val (.int p0), .val (.int p1), .val (.int p2), .val (.int (1 : Int32)), .val (.int (p0 &&& (2147483647 : Int32))), .val (.int (p1 &&& (2147483647 : Int32))), .val (.double (9218868437227405312 : UInt64)), .second, .val (.double (FP.i2d (p1 &&& (2147483647 : Int32)))), .second, .unset] [])
    obtain ⟨T7, h7, X7, e7, E7, A7, D7, -, st7⟩ := newO X0 hx hZ hown (hw _ (mI 5 rfl)) (hw _ (mI 6 rfl)) (hw _ (mI 7 rfl)) e0 (g := (mkF m 56 #[.val (.int p0), .val (.int p1), .val (.int p2), .val (.int (1 : Int32)), .val (.int (p0 &&& (2147483647 : Int32))), .val (.int (p1 &&& (2147483647 : Int32))), .val (.double (9218868437227405312 : UInt64)), .second, .val (.double (FP.i2d (p1 &&& (2147483647 : Int32)))), .second, .unset] [])) rfl (hb hby at_56) (by decide) (by decide)
    obtain ⟨b7, g7⟩ : ∃ z, z = h0.size := ⟨_, rfl⟩
    rw [← g7] at A7 D7 st7
    refine GoW.step st7 ?_
    have K7 : Keep h0 h7 [] := (Keep.refl h0 []).ext E7
    have sz_b7 : h0.size ≤ b7 := Nat.le_trans ((Keep.refl h0 []) : Keep h0 h0 []).1 (Nat.le_of_eq g7.symm)
    have ge_b7 : n0 ≤ b7 := Nat.le_trans Z0 sz_b7
    have hk_7 := hk.ext E7
    have E_b7 := A7
    have F_id_b7 : Fld Z h7 b7 "com/example/leapwise/leapwise/model/ContinuousPlace" "id" "Ljava/lang/String;" .null := D7 (Or.inr (hw _ (mI 121 rfl))) (ty := (.object "java/lang/String")) (by decide)
    have F_capacity_b7 : Fld Z h7 b7 "com/example/leapwise/leapwise/model/ContinuousPlace" "capacity" "D" (.double (0 : UInt64)) := D7 (Or.inr (hw _ (mI 123 rfl))) (ty := .double) (by decide)
    have F_level_b7 : Fld Z h7 b7 "com/example/leapwise/leapwise/model/ContinuousPlace" "level" "D" (.double (0 : UInt64)) := D7 (Or.inr (hw _ (mI 125 rfl))) (ty := .double) (by decide)
    show GoW _ _ _ _ _ _ _ T7 (mkF m 59 #[.val (.int p0), .val (.int p1), .val (.int p2), .val (.int (1 : Int32)), .val (.int (p0 &&& (2147483647 : Int32))), .val (.int (p1 &&& (2147483647 : Int32))), .val (.double (9218868437227405312 : UInt64)), .second, .val (.double (FP.i2d (p1 &&& (2147483647 : Int32)))), .second, .unset] [(.ref b7)])
    refine GoW.step (fun _ k => XS.dup X7.here hx rfl (hb hby at_59) rfl rfl k) ?_
    show GoW _ _ _ _ _ _ _ T7 (mkF m 60 #[.val (.int p0), .val (.int p1), .val (.int p2), .val (.int (1 : Int32)), .val (.int (p0 &&& (2147483647 : Int32))), .val (.int (p1 &&& (2147483647 : Int32))), .val (.double (9218868437227405312 : UInt64)), .second, .val (.double (FP.i2d (p1 &&& (2147483647 : Int32)))), .second, .unset] [(.ref b7), (.ref b7)])
    obtain ⟨b8, T8, h8, kk8, xb, kb, X8, e8, E8, hS, hk_8, hZ, hown, Eb, Cb, Vb, Ab, -, -, -, st8⟩ := ldcSV X7 hx hZ hown (hw _ (mI 8 rfl)) (own_wS hw) e7 hS hk_7 (by rw [← hn0]; exact N0) hkeep hI (by simp) hh0 hcw (z := (1 : Int32)) (vs := [.int 112]) ⟨by decide, by decide⟩ (by decide) rfl (g := (mkF m 60 #[.val (.int p0), .val (.int p1), .val (.int p2), .val (.int (1 : Int32)), .val (.int (p0 &&& (2147483647 : Int32))), .val (.int (p1 &&& (2147483647 : Int32))), .val (.double (9218868437227405312 : UInt64)), .second, .val (.double (FP.i2d (p1 &&& (2147483647 : Int32)))), .second, .unset] [(.ref b7), (.ref b7)])) rfl (hb hby at_60) (n := 4) (by decide) (by decide) (by decide) (by decide)
    have hk_8 : Szk kk8 h8 := hk_8
    refine GoW.step st8 ?_
    have K8 : Keep h0 h8 [] := K7.ext E8
    have E_b7_8 := E_b7.ext E8
    have F_id_b7_8 := F_id_b7.ext E8
    have F_capacity_b7_8 := F_capacity_b7.ext E8
    have F_level_b7_8 := F_level_b7.ext E8
    have hO : Ext Z.heap h8 := ⟨by rw [hZh]; exact (K8 : Keep h0 h8 []).1, fun x c q => by rw [hZh] at q; exact (K8 : Keep h0 h8 []).2.1 x c q nin0⟩
    show GoW _ _ _ _ _ _ _ T8 (mkF m 62 #[.val (.int p0), .val (.int p1), .val (.int p2), .val (.int (1 : Int32)), .val (.int (p0 &&& (2147483647 : Int32))), .val (.int (p1 &&& (2147483647 : Int32))), .val (.double (9218868437227405312 : UInt64)), .second, .val (.double (FP.i2d (p1 &&& (2147483647 : Int32)))), .second, .unset] [(.ref b8), (.ref b7), (.ref b7)])
    refine GoW.step (fun _ k => XS.dload X8.here hx rfl (hb hby at_62) rfl k) ?_
    show GoW _ _ _ _ _ _ _ T8 (mkF m 64 #[.val (.int p0), .val (.int p1), .val (.int p2), .val (.int (1 : Int32)), .val (.int (p0 &&& (2147483647 : Int32))), .val (.int (p1 &&& (2147483647 : Int32))), .val (.double (9218868437227405312 : UInt64)), .second, .val (.double (FP.i2d (p1 &&& (2147483647 : Int32)))), .second, .unset] [(.double (9218868437227405312 : UInt64)), (.ref b8), (.ref b7), (.ref b7)])
    refine GoW.step (fun _ k => XS.dload X8.here hx rfl (hb hby at_64) rfl k) ?_
    show GoW _ _ _ _ _ _ _ T8 (mkF m 66 #[.val (.int p0), .val (.int p1), .val (.int p2), .val (.int (1 : Int32)), .val (.int (p0 &&& (2147483647 : Int32))), .val (.int (p1 &&& (2147483647 : Int32))), .val (.double (9218868437227405312 : UInt64)), .second, .val (.double (FP.i2d (p1 &&& (2147483647 : Int32)))), .second, .unset] [(.double (FP.i2d (p1 &&& (2147483647 : Int32)))), (.double (9218868437227405312 : UInt64)), (.ref b8), (.ref b7), (.ref b7)])
    refine GoW.callIW X8 hS hk_8 hx hZ (by rw [hml]; rfl) (y := (⟨"com/example/leapwise/leapwise/model/ContinuousPlace", "<init>", "(Ljava/lang/String;DD)V"⟩ : MethodName)) (a := b7) (argsL := [(.ref b8), (.double (9218868437227405312 : UInt64)), (.double (FP.i2d (p1 &&& (2147483647 : Int32))))]) (rest := [(.ref b7)]) rfl hown (hw _ (mI 16 rfl)) (hw _ (mI 17 rfl)) (hw _ (mI 7 rfl)) (hw _ (mI 18 rfl)) (by decide) (rm2 l Z a0 hw b7 b8 xb (9218868437227405312 : UInt64) (FP.i2d (p1 &&& (2147483647 : Int32))) cs sf xi xa h8 n0 (Nat.le_trans Z0 (K8 : Keep h0 h8 []).1) E_b7_8 F_id_b7_8 F_capacity_b7_8 F_level_b7_8 ge_b7 Eb Vb Cb (own_bv Ab) hO hJ (Or.inl own_ii) (Jvm.Free.Fl.i2d_fin _) (own_dge (own_m31 _)) (own_fig (Jvm.Free.Fl.i2d_fin _))) e8 (hb hby at_66) (lenOf pd_17 rfl) rfl rfl (W := 1) (Nat.le_of_eq rfl) (by decide) (by decide) (by decide) (by decide) ?_
    intro v9 T9 L9 X9 Q9 hS hZ hown
    obtain ⟨rfl, N9q, Kc9, Ec9, F9_id, F9_capacity, F9_level⟩ := Q9
    have N9 := Fr.app N0 N9q
    have E_b7_9 := E_b7_8.keep Kc9
    have KK9 : Keep h0 T9.heap [] := (K8 : Keep h0 h8 []).trans Kc9 (allS (Or.inr sz_b7) all0)
    have hk_9 : Szk T9.heap.size T9.heap := Nat.le_refl _
    show GoW _ _ _ _ _ _ _ T9 (mkF m 69 #[.val (.int p0), .val (.int p1), .val (.int p2), .val (.int (1 : Int32)), .val (.int (p0 &&& (2147483647 : Int32))), .val (.int (p1 &&& (2147483647 : Int32))), .val (.double (9218868437227405312 : UInt64)), .second, .val (.double (FP.i2d (p1 &&& (2147483647 : Int32)))), .second, .unset] [(.ref b7)])
    refine GoW.step (fun _ k => XS.astore X9.here hx rfl (hb hby at_69) rfl rfl (l' := #[.val (.int p0), .val (.int p1), .val (.int p2), .val (.int (1 : Int32)), .val (.int (p0 &&& (2147483647 : Int32))), .val (.int (p1 &&& (2147483647 : Int32))), .val (.double (9218868437227405312 : UInt64)), .second, .val (.double (FP.i2d (p1 &&& (2147483647 : Int32)))), .second, .val (.ref b7)]) rfl k) ?_
    show GoW _ _ _ _ _ _ _ T9 (mkF m 71 #[.val (.int p0), .val (.int p1), .val (.int p2), .val (.int (1 : Int32)), .val (.int (p0 &&& (2147483647 : Int32))), .val (.int (p1 &&& (2147483647 : Int32))), .val (.double (9218868437227405312 : UInt64)), .second, .val (.double (FP.i2d (p1 &&& (2147483647 : Int32)))), .second, .val (.ref b7)] [])
    refine GoW.step (fun _ k => XS.aload X9.here hx rfl (hb hby at_71) rfl rfl k) ?_
    show GoW _ _ _ _ _ _ _ T9 (mkF m 73 #[.val (.int p0), .val (.int p1), .val (.int p2), .val (.int (1 : Int32)), .val (.int (p0 &&& (2147483647 : Int32))), .val (.int (p1 &&& (2147483647 : Int32))), .val (.double (9218868437227405312 : UInt64)), .second, .val (.double (FP.i2d (p1 &&& (2147483647 : Int32)))), .second, .val (.ref b7)] [(.ref b7)])
    refine GoW.callV X9 hx hZ (by rw [hml]; rfl) (y := (⟨"com/example/leapwise/leapwise/model/ContinuousPlace", "bounded", "()Z"⟩ : MethodName)) (z := (⟨"com/example/leapwise/leapwise/model/ContinuousPlace", "bounded", "()Z"⟩ : MethodName)) (a := b7) (argsL := []) (rest := []) hown (hw _ (mI 126 rfl)) (hw _ (mI 127 rfl)) (notFace_of_selects (args := #[]) (mvT hZ (hw _ (mI 129 rfl)))) (hw _ (mI 129 rfl)) (hw _ (mI 128 rfl)) (hw _ (mI 7 rfl)) (hw _ (mI 130 rfl)) (by decide) (rm25 l Z a0 hw b7 (9218868437227405312 : UInt64) T9.heap n0 (Nat.le_trans Z0 (KK9 : Keep h0 T9.heap []).1) F9_capacity) rfl E_b7_9 (hb hby at_73) (lenOf pd_4 rfl) rfl rfl (W := 0) (Nat.le_of_eq rfl) (by decide) (by decide) (by decide) (by decide) ?_
    intro v10 T10 L10 X10 Q10
    obtain ⟨zb, rfl, N10q, hh10, hzb⟩ := Q10
    have N10 := Fr.app N9 N10q
    show GoW _ _ _ _ _ _ _ T10 (mkF m 76 #[.val (.int p0), .val (.int p1), .val (.int p2), .val (.int (1 : Int32)), .val (.int (p0 &&& (2147483647 : Int32))), .val (.int (p1 &&& (2147483647 : Int32))), .val (.double (9218868437227405312 : UInt64)), .second, .val (.double (FP.i2d (p1 &&& (2147483647 : Int32)))), .second, .val (.ref b7)] [(.int zb)])
    refine GoW.step (fun _ k => XS.iloadN X10.here hx rfl (hb hby at_76) rfl k) ?_
    show GoW _ _ _ _ _ _ _ T10 (mkF m 77 #[.val (.int p0), .val (.int p1), .val (.int p2), .val (.int (1 : Int32)), .val (.int (p0 &&& (2147483647 : Int32))), .val (.int (p1 &&& (2147483647 : Int32))), .val (.double (9218868437227405312 : UInt64)), .second, .val (.double (FP.i2d (p1 &&& (2147483647 : Int32)))), .second, .val (.ref b7)] [(.int (1 : Int32)), (.int zb)])
    refine GoW.step (fun _ k => XS.ifYes X10.here hx rfl (pc0 := 77) (pc' := 84) rfl (hb hby at_77) rfl ((if0 _ _).trans (feq (by decide : ¬ ((1 : Int32) = (0 : Int32)))).2) (by decide) (by decide) k) ?_
    show GoW _ _ _ _ _ _ _ T10 (mkF m 84 #[.val (.int p0), .val (.int p1), .val (.int p2), .val (.int (1 : Int32)), .val (.int (p0 &&& (2147483647 : Int32))), .val (.int (p1 &&& (2147483647 : Int32))), .val (.double (9218868437227405312 : UInt64)), .second, .val (.double (FP.i2d (p1 &&& (2147483647 : Int32)))), .second, .val (.ref b7)] [(.int zb)])
    refine GoW.step (fun _ k => XS.iconst X10.here hx rfl (hb hby at_84) k) ?_
    show GoW _ _ _ _ _ _ _ T10 (mkF m 85 #[.val (.int p0), .val (.int p1), .val (.int p2), .val (.int (1 : Int32)), .val (.int (p0 &&& (2147483647 : Int32))), .val (.int (p1 &&& (2147483647 : Int32))), .val (.double (9218868437227405312 : UInt64)), .second, .val (.double (FP.i2d (p1 &&& (2147483647 : Int32)))), .second, .val (.ref b7)] [(.int (0 : Int32)), (.int zb)])
    refine GoW.step (fun _ k => XS.icmpNo X10.here hx rfl (hb hby at_85) rfl (teq (hzb.resolve_left fun z => z.2 own_ii).1).2 k) ?_
    show GoW _ _ _ _ _ _ _ T10 (mkF m 88 #[.val (.int p0), .val (.int p1), .val (.int p2), .val (.int (1 : Int32)), .val (.int (p0 &&& (2147483647 : Int32))), .val (.int (p1 &&& (2147483647 : Int32))), .val (.double (9218868437227405312 : UInt64)), .second, .val (.double (FP.i2d (p1 &&& (2147483647 : Int32)))), .second, .val (.ref b7)] [])
    refine GoW.step (fun _ k => XS.iconst X10.here hx rfl (hb hby at_88) k) ?_
    show GoW _ _ _ _ _ _ _ T10 (mkF m 89 #[.val (.int p0), .val (.int p1), .val (.int p2), .val (.int (1 : Int32)), .val (.int (p0 &&& (2147483647 : Int32))), .val (.int (p1 &&& (2147483647 : Int32))), .val (.double (9218868437227405312 : UInt64)), .second, .val (.double (FP.i2d (p1 &&& (2147483647 : Int32)))), .second, .val (.ref b7)] [(.int (1 : Int32))])
    refine GoW.step (fun _ k => XS.goto X10.here hx rfl (pc0 := 89) (pc' := 93) rfl (hb hby at_89) (by decide) (by decide) k) ?_
    show GoW _ _ _ _ _ _ _ T10 (mkF m 93 #[.val (.int p0), .val (.int p1), .val (.int p2), .val (.int (1 : Int32)), .val (.int (p0 &&& (2147483647 : Int32))), .val (.int (p1 &&& (2147483647 : Int32))), .val (.double (9218868437227405312 : UInt64)), .second, .val (.double (FP.i2d (p1 &&& (2147483647 : Int32)))), .second, .val (.ref b7)] [(.int (1 : Int32))])
    refine GoW.retZ X10 hS hk_9 hh10 hx hlk hret (by decide) (hb hby at_93) (by decide) (by decide) ?_
    try rw [hh10]
    exact ⟨rfl, N10⟩
theorem pn_0 : plainName "com/example/leapwise/leapwise/model/ContinuousPlaceBoundedPinLaw" = true := by first | (simp [plainName, overriddenIn]; done) | decide +kernel
theorem ef_rm0 (m : MethodId) (p0 : Int32) (p1 : Int32) (p2 : Int32) : entryFrame m #[(.int p0), (.int p1), (.int p2)] maxLocals = mkF m 0 #[.val (.int p0), .val (.int p1), .val (.int p2), .unset, .unset, .unset, .unset, .unset, .unset, .unset, .unset] [] := by first | (simp [entryFrame, mkF, argsToLocals, Value.category, maxLocals]; done) | rfl
theorem rm0 (l : Launch) (Z : State) (a0 : Array Value) (hw : ∀ d ∈ tables_1, d.before a0 Z = true) (ws : List Jvm.Cond) (p0 p1 p2 : Int32) (cs : Int32) (sf : Value) (xi xa : Addr) (h0 : Heap) (n0 : Nat) (Z0 : n0 ≤ h0.size) (hn0 : n0 = h0.size) (hJ : JS Z cs sf xi xa) (hh0 : Jvm.Lit.constHeld Z "com/example/leapwise/leapwise/model/ContinuousPlaceBoundedPinLaw" 20) (hcw : Jvm.Lit.compactW.before a0 Z = true) :
    MetFree l x (head1 (Jvm.Cond.code x code maxLocals ret :: ws) room_1) (fun a U => a = #[(.int p0), (.int p1), (.int p2)] ∧ U = Z ∧ U.heap = h0) (fun _ _ _ _ _ => True) (fun _ U o U' => ∃ v L, o = .returned v ∧ (fun r h L => r = some (.int 1) ∧ Fr n0 L) v U'.heap L ∧ ReturnedEndW U o U' L room_1.cells room_1.slots) :=
  con_ofWZ (plainFor_of_name pn_0) (fun p_ e_ s_ m_ b_ meth_ c_ T_ X_ hx hZs hby hml hown hnm hret hlk e0 hsh => GoW.cast (ef_rm0 m_ p0 p1 p2) (w0 p0 p1 p2 cs sf xi xa X_ hx (by rw [hZs]; exact State.Warmed39.refl _) hw hby hml hown hnm hret hlk e0 Z0 (Fr.nil n0) hZs hsh (by rw [hn0, hsh]) hJ hh0 hcw))
set_option maxRecDepth 65536 in
set_option maxHeartbeats 40000000 in
theorem comes_1 {Post : Tables → Env → Array Value → State → Outcome → State → Prop} (hpost : ∀ tb e args s v u, (limb_1_1.after args s (.returned v) u = true ∧ limb_1_2.after args s (.returned v) u = true ∧ True) → ReturnedEndW s (.returned v) u (Jvm.fieldLocs frame_1_writes args s ++ Jvm.arrayLocs frame_1_arrays args s ++ Jvm.staticLocs frame_1_statics s) 16 3200 → Post tb e args s (.returned v) u) :
    ArmFor flags0 classFile x code maxLocals ret World_1 tables_1 room_1 Calls_1 rest_1 Pre_1 Post := by
  intro l hfl _ _ p e ha hc hk s m args below hf hA hF happ hP
  obtain ⟨hcalls, hrest, hpre⟩ := hP
  obtain ⟨-, -, -, hnamed, -, -, -, hat⟩ := (Spec.applies_iff hf).mp happ
  obtain ⟨hg, hn⟩ := and_e (Cond.before_iff.mp (show (Jvm.Cond.and given_1 narrow_1).before args s = true from hpre))
  obtain ⟨g1, g2⟩ := and_e hg
  obtain ⟨g3, g4⟩ := and_e g2
  obtain ⟨g5, g6⟩ := and_e g4
  obtain ⟨w0, w1, w2, rfl⟩ : ∃ w0 w1 w2 : Value, args = #[w0, w1, w2] := by
    have hs : args.size = 3 := by simpa [Cond.value, given_1] using g1
    obtain ⟨L⟩ := args
    match L, hs with
    | [w0, w1, w2], _ => exact ⟨w0, w1, w2, rfl⟩
  have hw := fun d (hd : d ∈ tables_1) => atoms_spec (ws := Jvm.Cond.code x code maxLocals ret :: tables_1) hat d (List.mem_cons_of_mem _ hd)
  have hfit : Fit s := fun {y c} hc i hi => by
    obtain ⟨ha, rfl⟩ := Array.getElem?_eq_some_iff.mp hc
    have q := List.all_eq_true.mp ((Array.all_eq_true_iff_forall_mem.mp hF) _ (Array.getElem_mem ha)) i (List.mem_range.mpr hi)
    simpa [Array.getElem?_eq_getElem hi] using q
  obtain ⟨hsets, hown0⟩ := atoms_of _ (rest_1_c_eq ▸ (show rest_1_c.before _ s = true from hrest))
  have hr0 := Cond.before_iff.mp hown0
  obtain ⟨i0, ei0⟩ := is_v g3
  obtain rfl : w0 = (.int i0) := Option.some.inj ei0
  obtain ⟨i1, ei1⟩ := is_v g5
  obtain rfl : w1 = (.int i1) := Option.some.inj ei1
  obtain ⟨i2, ei2⟩ := is_v g6
  obtain rfl : w2 = (.int i2) := Option.some.inj ei2
  have hb := fun (d : Jvm.Cond) (h : d.before #[(.int i0), (.int i1), (.int i2)] s = true) => Cond.before_iff.mp h
  obtain ⟨cs, ecs⟩ := is_v (hb _ (hsets _ (mI 1 rfl)))
  have S1 := Sta.start ecs (Or.inl (hsets _ (mI 0 rfl)))
  have hcw : Jvm.Lit.compactW.before #[(.int i0), (.int i1), (.int i2)] s = true := (hsets _ (mI 2 rfl))
  have hcs : ¬ cs = (0 : Int32) := own_cs ecs hcw
  obtain ⟨sf, esf, hsf⟩ := isR_v (hb _ (hsets _ (mI 8 rfl)))
  have S2 := Sta.start esf (Or.inl (hsets _ (mI 7 rfl)))
  obtain ⟨xi, exi⟩ := exa_v (hb _ (hsets _ (mI 11 rfl)))
  have S3 := Sta.start exi (Or.inl (hsets _ (mI 10 rfl)))
  have E3 := Exa.start exi (hb _ (hsets _ (mI 11 rfl)))
  obtain ⟨xa, exa⟩ := arr_v (hb _ (hsets _ (mI 14 rfl)))
  have S4 := Sta.start exa (Or.inl (hsets _ (mI 13 rfl)))
  obtain ⟨ca, Aa⟩ := Arr.start exa (hb _ (hsets _ (mI 14 rfl)))
  have A4 : At112 s s.heap xa := ⟨ca, Aa, elem_in (own_eqv (hb _ (hsets _ (mI 129 rfl)))) exa rfl Aa.1⟩
  have hJ : JS s cs sf xi xa := ⟨S1, hcs, S2, hsf, S3, E3, S4, A4⟩
  have hh0 : Jvm.Lit.constHeld s "com/example/leapwise/leapwise/model/ContinuousPlaceBoundedPinLaw" 20 := hcalls.1 _ (mI 2 rfl)
  obtain ⟨n, o, h1, h2, h3, _, L, rfl, ⟨rfl, N⟩, hq⟩ := rm0 l s _ hw tables_1 i0 i1 i2 cs sf xi xa s.heap s.heap.size (Nat.le_refl _) rfl hJ hh0 hcw p e ha hc hk s m _ below hf ((Spec.applies_iff_loose hf).mp happ).1 ⟨rfl, rfl, rfl⟩ trivial
  refine ⟨n, _, h1, h2, h3, hpost _ _ _ _ _ _ ⟨Cond.after_iff.mpr rfl, Cond.after_iff.mpr (eq_i res_at (Term.int_eval (1)) rfl), trivial⟩ ⟨hq.1, hq.2.1, hq.2.2.1, (hq.2.2.2.sift fun y hy => Or.inr (N y hy)).mono (by decide) (by decide)⟩⟩
theorem main_1_1 : Claimed_1_1 := comes_1 fun _ _ _ _ _ _ h hF => ⟨h.1, hF⟩
theorem main_1_2 : Claimed_1_2 := comes_1 fun _ _ _ _ _ _ h hF => ⟨h.2.1, hF⟩
end Jvm.Pilot.@@N@@
namespace Jvm.Pilot.@@N@@
open Jvm Jvm.ClassFile Sem Op Lib Jvm.Free Jvm.Stand Jvm.Pilot.@@N@@.Jvm.D
/-! MADE BY PROGRAM (witnessworld.py) out of the Statement's table words and the real class files: 26 classes; the members and pool entries that the words name. The judged class is class 1, her method 1. -/
namespace start1
open Jvm.ClassFile
def u (s : String) : CpInfo := .utf8 (stringToUtf16 s)
/-- a pool by its gaps: so many unusable entries, then the entry; so many at the end -/
def gap : Nat → List CpInfo → List CpInfo
  | 0, r => r
  | n + 1, r => .unusable :: gap n r
def poolList (es : List (Nat × CpInfo)) (last : Nat) : List CpInfo := es.foldr (fun e r => gap e.1 (e.2 :: r)) (gap last [])
def pool (es : List (Nat × CpInfo)) (last : Nat) : Array CpInfo := ⟨poolList es last⟩
def fileOf (pool : Array CpInfo) (this : Nat) (attrs : Array Attribute := #[]) (ms : Array MethodInfo := #[]) (fl : Nat := 33) (sup : Nat := 0) (ifs : Array Nat := #[]) (fds : Array FieldInfo := #[]) : ClassFile where
  minorVersion := 0
  majorVersion := 65
  constantPool := pool
  accessFlags := fl
  thisClass := this
  superClass := sup
  interfaces := ifs
  fields := fds
  methods := ms
  attributes := attrs
def plain (name : String) (sup : Option ClassId) : Class where
  name := name
  kind := .ordinary
  loader := none
  accessFlags := 33
  super := sup
  interfaces := #[]
  cf := none
  fields := #[]
  methods := #[]
  instanceTypes := #[]
  staticTypes := #[]
  resolved := #[]
  callSites := []
  init := .initialized
  statics := none
  mirror := none

def pool0 : Array CpInfo := pool [(5, u "<init>"), (0, u "()V"), (1, .class_ 10), (1, u "java/lang/Object")] 113

def k0c0 : Code := { maxStack := 0, maxLocals := 1, code := object_method_1_code, exceptionTable := #[], attributes := #[] }
def k0m0 : Method := { name := "<init>", desc := "()V", sig := { parameters := [], returnType := none }, accessFlags := 1, code := some k0c0 }
/-- java/lang/Object -/
def k0 : Class := { plain "java/lang/Object" none with
  accessFlags := 33
  interfaces := #[]
  cf := some (fileOf pool0 8 #[] #[{ accessFlags := 1, nameIndex := 5, descriptorIndex := 6, attributes := #[] }] 33 0 #[] #[])
  fields := #[]
  methods := #[k0m0]
  instanceTypes := #[]
  staticTypes := #[]
  resolved := Array.replicate 124 none
  statics := none }

def pool1 : Array CpInfo := pool [(2, .class_ 4), (1, u "java/lang/Object"), (0, u "<init>"), (0, u "()V"), (0, .integer 2147483647), (2, .double 9218868437227405312), (1, .methodref 13 14), (0, .class_ 15), (0, .nameAndType 16 17), (0, u "java/lang/Math"), (0, u "min"), (0, u "(II)I"), (0, .class_ 19), (0, u "com/example/leapwise/leapwise/model/ContinuousPlace"), (0, .string 21), (0, u "p"), (0, .methodref 18 23), (0, .nameAndType 5 24), (0, u "(Ljava/lang/String;DD)V"), (0, .methodref 18 26), (0, .nameAndType 27 28), (0, u "bounded"), (0, u "()Z"), (0, .class_ 30), (0, u "com/example/leapwise/leapwise/model/ContinuousPlaceBoundedPinLaw"), (2, u "law"), (0, u "(III)Z")] 3

def k1m0 : Method := { name := "<init>", desc := "()V", sig := { parameters := [], returnType := none }, accessFlags := 2, code := none }
def k1c1 : Code := { maxStack := 7, maxLocals := 11, code := code, exceptionTable := #[], attributes := #[] }
def k1m1 : Method := { name := "law", desc := "(III)Z", sig := { parameters := [.int, .int, .int], returnType := some .boolean }, accessFlags := 9, code := some k1c1 }
/-- com/example/leapwise/leapwise/model/ContinuousPlaceBoundedPinLaw -/
def k1 : Class := { plain "com/example/leapwise/leapwise/model/ContinuousPlaceBoundedPinLaw" (some 0) with
  accessFlags := 49
  interfaces := #[]
  cf := some (fileOf pool1 29 #[] #[{ accessFlags := 2, nameIndex := 5, descriptorIndex := 6, attributes := #[] }, { accessFlags := 9, nameIndex := 33, descriptorIndex := 34, attributes := #[] }] 49 2 #[] #[])
  fields := #[]
  methods := #[k1m0, k1m1]
  instanceTypes := #[]
  staticTypes := #[]
  resolved := Array.replicate 38 none
  statics := none }

def pool2 : Array CpInfo := pool [(1, .class_ 2), (0, u "java/lang/Math"), (1, .class_ 6), (1, u "java/lang/Object"), (0, u "<init>"), (0, u "()V"), (5, u "(D)D"), (83, .class_ 100), (1, u "java/lang/Math$RandomNumberGeneratorHolder"), (23, u "abs"), (47, u "negativeZeroFloatBits"), (0, u "J"), (2, u "negativeZeroDoubleBits"), (24, u "min"), (43, u "$assertionsDisabled"), (0, u "Z"), (88, u "(II)I"), (2, u "twoToTheDoubleScaleDown"), (0, u "D"), (4, u "twoToTheDoubleScaleUp"), (9, u "E"), (3, u "PI"), (2, u "TAU"), (2, u "DEGREES_TO_RADIANS"), (0, u "RADIANS_TO_DEGREES")] 94

def k2m0 : Method := { name := "<init>", desc := "()V", sig := { parameters := [], returnType := none }, accessFlags := 2, code := none }
def k2c1 : Code := { maxStack := 4, maxLocals := 2, code := jdk_29_method_64_code, exceptionTable := #[], attributes := #[] }
def k2m1 : Method := { name := "abs", desc := "(D)D", sig := { parameters := [.double], returnType := some .double }, accessFlags := 9, code := some k2c1 }
def k2c2 : Code := { maxStack := 2, maxLocals := 2, code := jdk_29_method_69_code, exceptionTable := #[], attributes := #[] }
def k2m2 : Method := { name := "min", desc := "(II)I", sig := { parameters := [.int, .int], returnType := some .int }, accessFlags := 9, code := some k2c2 }
/-- java/lang/Math -/
def k2 : Class := { plain "java/lang/Math" (some 0) with
  accessFlags := 49
  interfaces := #[]
  cf := some (fileOf pool2 1 #[.nestMembers #[98]] #[{ accessFlags := 2, nameIndex := 7, descriptorIndex := 8, attributes := #[] }, { accessFlags := 9, nameIndex := 124, descriptorIndex := 14, attributes := #[] }, { accessFlags := 9, nameIndex := 201, descriptorIndex := 335, attributes := #[] }] 49 4 #[] #[{ accessFlags := 25, nameIndex := 354, descriptorIndex := 339, attributes := #[] }, { accessFlags := 25, nameIndex := 358, descriptorIndex := 339, attributes := #[] }, { accessFlags := 25, nameIndex := 361, descriptorIndex := 339, attributes := #[] }, { accessFlags := 26, nameIndex := 364, descriptorIndex := 339, attributes := #[] }, { accessFlags := 26, nameIndex := 365, descriptorIndex := 339, attributes := #[] }, { accessFlags := 26, nameIndex := 172, descriptorIndex := 173, attributes := #[] }, { accessFlags := 26, nameIndex := 176, descriptorIndex := 173, attributes := #[] }, { accessFlags := 8, nameIndex := 344, descriptorIndex := 339, attributes := #[] }, { accessFlags := 8, nameIndex := 338, descriptorIndex := 339, attributes := #[] }, { accessFlags := 4120, nameIndex := 245, descriptorIndex := 246, attributes := #[] }])
  fields := #[{ name := "E", type := .double, accessFlags := 25, slot := 0, constantValue := 0 }, { name := "PI", type := .double, accessFlags := 25, slot := 1, constantValue := 0 }, { name := "TAU", type := .double, accessFlags := 25, slot := 2, constantValue := 0 }, { name := "DEGREES_TO_RADIANS", type := .double, accessFlags := 26, slot := 3, constantValue := 0 }, { name := "RADIANS_TO_DEGREES", type := .double, accessFlags := 26, slot := 4, constantValue := 0 }, { name := "negativeZeroFloatBits", type := .long, accessFlags := 26, slot := 5, constantValue := 0 }, { name := "negativeZeroDoubleBits", type := .long, accessFlags := 26, slot := 6, constantValue := 0 }, { name := "twoToTheDoubleScaleUp", type := .double, accessFlags := 8, slot := 7, constantValue := 0 }, { name := "twoToTheDoubleScaleDown", type := .double, accessFlags := 8, slot := 8, constantValue := 0 }, { name := "$assertionsDisabled", type := .boolean, accessFlags := 4120, slot := 9, constantValue := 0 }]
  methods := #[k2m0, k2m1, k2m2]
  instanceTypes := #[]
  staticTypes := #[.double, .double, .double, .double, .double, .long, .long, .double, .double, .boolean]
  resolved := Array.replicate 460 none
  statics := none }

def pool3 : Array CpInfo := pool [(1, .methodref 2 3), (0, .class_ 4), (0, .nameAndType 5 6), (0, u "java/lang/Object"), (0, u "<init>"), (0, u "()V"), (0, .class_ 8), (0, u "java/lang/Record")] 13

def k3c0 : Code := { maxStack := 1, maxLocals := 1, code := jdk_30_method_1_code, exceptionTable := #[], attributes := #[] }
def k3m0 : Method := { name := "<init>", desc := "()V", sig := { parameters := [], returnType := none }, accessFlags := 4, code := some k3c0 }
/-- java/lang/Record -/
def k3 : Class := { plain "java/lang/Record" (some 0) with
  accessFlags := 1057
  interfaces := #[]
  cf := some (fileOf pool3 7 #[] #[{ accessFlags := 4, nameIndex := 5, descriptorIndex := 6, attributes := #[] }] 1057 2 #[] #[])
  fields := #[]
  methods := #[k3m0]
  instanceTypes := #[]
  staticTypes := #[]
  resolved := Array.replicate 22 none
  statics := none }

def pool4 : Array CpInfo := pool [(1, .class_ 2), (0, u "com/example/leapwise/leapwise/model/Place"), (0, .class_ 4), (0, u "java/lang/Object")] 9

/-- com/example/leapwise/leapwise/model/Place -/
def k4 : Class := { plain "com/example/leapwise/leapwise/model/Place" (some 0) with
  accessFlags := 1537
  interfaces := #[]
  cf := some (fileOf pool4 1 #[] #[] 1537 3 #[] #[])
  fields := #[]
  methods := #[]
  instanceTypes := #[]
  staticTypes := #[]
  resolved := Array.replicate 14 none
  statics := none }

def pool5 : Array CpInfo := pool [(1, .methodref 2 3), (0, .class_ 4), (0, .nameAndType 5 6), (0, u "java/lang/Record"), (0, u "<init>"), (0, u "()V"), (0, .methodref 8 9), (0, .class_ 10), (0, .nameAndType 11 12), (0, u "com/example/leapwise/leapwise/model/Require"), (0, u "id"), (0, u "(Ljava/lang/String;)Ljava/lang/String;"), (2, .double 9218868437227405312), (1, .string 18), (0, u "capacity"), (0, .methodref 8 20), (0, .nameAndType 21 22), (0, u "atLeastZero"), (0, u "(Ljava/lang/String;D)D"), (0, .string 24), (0, u "level"), (9, .fieldref 35 36), (0, .class_ 37), (0, .nameAndType 11 38), (0, u "com/example/leapwise/leapwise/model/ContinuousPlace"), (0, u "Ljava/lang/String;"), (0, .fieldref 35 40), (0, .nameAndType 18 41), (0, u "D"), (0, .fieldref 35 43), (0, .nameAndType 24 41), (12, .class_ 57), (0, u "com/example/leapwise/leapwise/model/Place"), (0, u "(Ljava/lang/String;DD)V"), (6, u "bounded"), (0, u "()Z")] 34

def k5c0 : Code := { maxStack := 6, maxLocals := 6, code := prog_18_method_1_code, exceptionTable := #[], attributes := #[] }
def k5m0 : Method := { name := "<init>", desc := "(Ljava/lang/String;DD)V", sig := { parameters := [(.object "java/lang/String"), .double, .double], returnType := none }, accessFlags := 1, code := some k5c0 }
def k5c1 : Code := { maxStack := 4, maxLocals := 1, code := prog_18_method_2_code, exceptionTable := #[], attributes := #[] }
def k5m1 : Method := { name := "bounded", desc := "()Z", sig := { parameters := [], returnType := some .boolean }, accessFlags := 1, code := some k5c1 }
/-- com/example/leapwise/leapwise/model/ContinuousPlace -/
def k5 : Class := { plain "com/example/leapwise/leapwise/model/ContinuousPlace" (some 3) with
  accessFlags := 49
  interfaces := #[4]
  cf := some (fileOf pool5 35 #[] #[{ accessFlags := 1, nameIndex := 5, descriptorIndex := 58, attributes := #[] }, { accessFlags := 1, nameIndex := 65, descriptorIndex := 66, attributes := #[] }] 49 2 #[56] #[{ accessFlags := 18, nameIndex := 11, descriptorIndex := 38, attributes := #[] }, { accessFlags := 18, nameIndex := 18, descriptorIndex := 41, attributes := #[] }, { accessFlags := 18, nameIndex := 24, descriptorIndex := 41, attributes := #[] }])
  fields := #[{ name := "id", type := (.object "java/lang/String"), accessFlags := 18, slot := 0, constantValue := 0 }, { name := "capacity", type := .double, accessFlags := 18, slot := 1, constantValue := 0 }, { name := "level", type := .double, accessFlags := 18, slot := 2, constantValue := 0 }]
  methods := #[k5m0, k5m1]
  instanceTypes := #[(.object "java/lang/String"), .double, .double]
  staticTypes := #[]
  resolved := Array.replicate 101 none
  statics := none }

def pool6 : Array CpInfo := pool [(1, .class_ 2), (0, u "java/io/Serializable"), (0, .class_ 4), (0, u "java/lang/Object")] 2

/-- java/io/Serializable -/
def k6 : Class := { plain "java/io/Serializable" (some 0) with
  accessFlags := 1537
  interfaces := #[]
  cf := some (fileOf pool6 1 #[] #[] 1537 3 #[] #[])
  fields := #[]
  methods := #[]
  instanceTypes := #[]
  staticTypes := #[]
  resolved := Array.replicate 7 none
  statics := none }

def pool7 : Array CpInfo := pool [(1, .class_ 2), (0, u "java/lang/Comparable"), (0, .class_ 4), (0, u "java/lang/Object")] 7

/-- java/lang/Comparable -/
def k7 : Class := { plain "java/lang/Comparable" (some 0) with
  accessFlags := 1537
  interfaces := #[]
  cf := some (fileOf pool7 1 #[] #[] 1537 3 #[] #[])
  fields := #[]
  methods := #[]
  instanceTypes := #[]
  staticTypes := #[]
  resolved := Array.replicate 12 none
  statics := none }

def pool8 : Array CpInfo := pool [(2, .class_ 4), (1, u "java/lang/CharSequence"), (42, .class_ 48), (0, u "java/lang/CharSequence$1CodePointIterator"), (10, .class_ 60), (0, u "java/lang/CharSequence$1CharIterator"), (5, .class_ 67), (0, u "java/lang/Object")] 63

/-- java/lang/CharSequence -/
def k8 : Class := { plain "java/lang/CharSequence" (some 0) with
  accessFlags := 1537
  interfaces := #[]
  cf := some (fileOf pool8 2 #[.nestMembers #[47, 59]] #[] 1537 66 #[] #[])
  fields := #[]
  methods := #[]
  instanceTypes := #[]
  staticTypes := #[]
  resolved := Array.replicate 131 none
  statics := none }

def pool9 : Array CpInfo := pool [(1, .class_ 2), (0, u "java/lang/constant/Constable"), (0, .class_ 4), (0, u "java/lang/Object")] 6

/-- java/lang/constant/Constable -/
def k9 : Class := { plain "java/lang/constant/Constable" (some 0) with
  accessFlags := 1537
  interfaces := #[]
  cf := some (fileOf pool9 1 #[] #[] 1537 3 #[] #[])
  fields := #[]
  methods := #[]
  instanceTypes := #[]
  staticTypes := #[]
  resolved := Array.replicate 11 none
  statics := none }

def pool10 : Array CpInfo := pool [(1, .class_ 2), (0, u "java/lang/constant/ConstantDesc"), (0, .class_ 4), (0, u "java/lang/Object")] 32

/-- java/lang/constant/ConstantDesc -/
def k10 : Class := { plain "java/lang/constant/ConstantDesc" (some 0) with
  accessFlags := 1537
  interfaces := #[]
  cf := some (fileOf pool10 1 #[] #[] 1537 3 #[] #[])
  fields := #[]
  methods := #[]
  instanceTypes := #[]
  staticTypes := #[]
  resolved := Array.replicate 37 none
  statics := none }

def pool11 : Array CpInfo := pool [(2, .class_ 4), (1, u "java/lang/Object"), (0, u "<init>"), (0, u "()V"), (2, .fieldref 10 11), (0, .class_ 12), (0, .nameAndType 13 14), (0, u "java/lang/String"), (0, u "value"), (0, u "[B"), (0, .fieldref 10 16), (0, .nameAndType 17 18), (0, u "coder"), (0, u "B"), (2, u "hash"), (0, u "I"), (2, u "hashIsZero"), (0, u "Z"), (11, .fieldref 10 39), (0, .nameAndType 40 26), (0, u "COMPACT_STRINGS"), (66, .class_ 109), (1, u "java/lang/StringLatin1"), (32, u "()Z"), (191, u "()I"), (0, .methodref 10 336), (0, .nameAndType 17 337), (0, u "()B"), (25, u "([BI)C"), (27, u "(II)V"), (35, u "(I)C"), (64, .methodref 10 493), (0, .nameAndType 494 142), (0, u "isLatin1"), (0, .methodref 107 496), (0, .nameAndType 497 363), (0, u "charAt"), (3, u "checkIndex"), (3, .methodref 10 506), (0, .nameAndType 507 334), (0, u "length"), (67, .class_ 576), (0, u "java/lang/CharSequence"), (22, u "CASE_INSENSITIVE_ORDER"), (0, u "Ljava/util/Comparator;"), (30, u "([B)I"), (244, .methodref 10 877), (0, .nameAndType 878 334), (0, u "indexOfNonWhitespace"), (45, .methodref 107 925), (0, .nameAndType 878 631), (26, u "isBlank"), (100, .fieldref 1054 1055), (0, .class_ 1056), (0, .nameAndType 1057 1058), (0, u "jdk/internal/util/Preconditions"), (0, u "SIOOBE_FORMATTER"), (0, u "Ljava/util/function/BiFunction;"), (0, .methodref 1054 1060), (0, .nameAndType 501 1061), (0, u "(IILjava/util/function/BiFunction;)I"), (39, u "serialPersistentFields"), (0, u "[Ljava/io/ObjectStreamField;"), (0, .class_ 1104), (0, u "java/lang/String$CaseInsensitiveComparator"), (1, .class_ 1107), (0, u "java/io/Serializable"), (0, .class_ 1109), (0, u "java/lang/Comparable"), (0, .class_ 1111), (0, u "java/lang/constant/Constable"), (0, .class_ 1113), (0, u "java/lang/constant/ConstantDesc"), (2, u "serialVersionUID"), (0, u "J"), (3, u "REPL"), (0, u "C"), (2, u "LATIN1"), (1, u "UTF16")] 323

def k11m0 : Method := { name := "<init>", desc := "()V", sig := { parameters := [], returnType := none }, accessFlags := 1, code := none }
def k11c1 : Code := { maxStack := 2, maxLocals := 1, code := jdk_42_method_54_code, exceptionTable := #[], attributes := #[] }
def k11m1 : Method := { name := "length", desc := "()I", sig := { parameters := [], returnType := some .int }, accessFlags := 1, code := some k11c1 }
def k11c2 : Code := { maxStack := 2, maxLocals := 2, code := jdk_42_method_56_code, exceptionTable := #[], attributes := #[] }
def k11m2 : Method := { name := "charAt", desc := "(I)C", sig := { parameters := [.int], returnType := some .char }, accessFlags := 1, code := some k11c2 }
def k11c3 : Code := { maxStack := 2, maxLocals := 1, code := jdk_42_method_117_code, exceptionTable := #[], attributes := #[] }
def k11m3 : Method := { name := "isBlank", desc := "()Z", sig := { parameters := [], returnType := some .boolean }, accessFlags := 1, code := some k11c3 }
def k11c4 : Code := { maxStack := 1, maxLocals := 1, code := jdk_42_method_120_code, exceptionTable := #[], attributes := #[] }
def k11m4 : Method := { name := "indexOfNonWhitespace", desc := "()I", sig := { parameters := [], returnType := some .int }, accessFlags := 2, code := some k11c4 }
def k11c5 : Code := { maxStack := 1, maxLocals := 1, code := jdk_42_method_152_code, exceptionTable := #[], attributes := #[] }
def k11m5 : Method := { name := "coder", desc := "()B", sig := { parameters := [], returnType := some .byte }, accessFlags := 0, code := some k11c5 }
def k11c6 : Code := { maxStack := 1, maxLocals := 1, code := jdk_42_method_154_code, exceptionTable := #[], attributes := #[] }
def k11m6 : Method := { name := "isLatin1", desc := "()Z", sig := { parameters := [], returnType := some .boolean }, accessFlags := 0, code := some k11c6 }
def k11c7 : Code := { maxStack := 3, maxLocals := 2, code := jdk_42_method_155_code, exceptionTable := #[], attributes := #[] }
def k11m7 : Method := { name := "checkIndex", desc := "(II)V", sig := { parameters := [.int, .int], returnType := none }, accessFlags := 8, code := some k11c7 }
/-- java/lang/String -/
def k11 : Class := { plain "java/lang/String" (some 0) with
  accessFlags := 49
  interfaces := #[6, 7, 8, 9, 10]
  cf := some (fileOf pool11 10 #[.nestMembers #[1103]] #[{ accessFlags := 1, nameIndex := 5, descriptorIndex := 6, attributes := #[] }, { accessFlags := 1, nameIndex := 507, descriptorIndex := 334, attributes := #[] }, { accessFlags := 1, nameIndex := 497, descriptorIndex := 427, attributes := #[] }, { accessFlags := 1, nameIndex := 952, descriptorIndex := 142, attributes := #[] }, { accessFlags := 2, nameIndex := 878, descriptorIndex := 334, attributes := #[] }, { accessFlags := 0, nameIndex := 17, descriptorIndex := 337, attributes := #[] }, { accessFlags := 0, nameIndex := 494, descriptorIndex := 142, attributes := #[] }, { accessFlags := 8, nameIndex := 501, descriptorIndex := 391, attributes := #[] }] 49 2 #[1106, 1108, 575, 1110, 1112] #[{ accessFlags := 18, nameIndex := 13, descriptorIndex := 14, attributes := #[] }, { accessFlags := 18, nameIndex := 17, descriptorIndex := 18, attributes := #[] }, { accessFlags := 2, nameIndex := 21, descriptorIndex := 22, attributes := #[] }, { accessFlags := 2, nameIndex := 25, descriptorIndex := 26, attributes := #[] }, { accessFlags := 26, nameIndex := 1116, descriptorIndex := 1117, attributes := #[] }, { accessFlags := 24, nameIndex := 40, descriptorIndex := 26, attributes := #[] }, { accessFlags := 26, nameIndex := 1101, descriptorIndex := 1102, attributes := #[] }, { accessFlags := 26, nameIndex := 1121, descriptorIndex := 1122, attributes := #[] }, { accessFlags := 25, nameIndex := 599, descriptorIndex := 600, attributes := #[] }, { accessFlags := 24, nameIndex := 1125, descriptorIndex := 18, attributes := #[] }, { accessFlags := 24, nameIndex := 1127, descriptorIndex := 18, attributes := #[] }])
  fields := #[{ name := "value", type := (.array .byte), accessFlags := 18, slot := 0, constantValue := 0 }, { name := "coder", type := .byte, accessFlags := 18, slot := 1, constantValue := 0 }, { name := "hash", type := .int, accessFlags := 2, slot := 2, constantValue := 0 }, { name := "hashIsZero", type := .boolean, accessFlags := 2, slot := 3, constantValue := 0 }, { name := "serialVersionUID", type := .long, accessFlags := 26, slot := 0, constantValue := 0 }, { name := "COMPACT_STRINGS", type := .boolean, accessFlags := 24, slot := 1, constantValue := 0 }, { name := "serialPersistentFields", type := (.array (.object "java/io/ObjectStreamField")), accessFlags := 26, slot := 2, constantValue := 0 }, { name := "REPL", type := .char, accessFlags := 26, slot := 3, constantValue := 0 }, { name := "CASE_INSENSITIVE_ORDER", type := (.object "java/util/Comparator"), accessFlags := 25, slot := 4, constantValue := 0 }, { name := "LATIN1", type := .byte, accessFlags := 24, slot := 5, constantValue := 0 }, { name := "UTF16", type := .byte, accessFlags := 24, slot := 6, constantValue := 0 }]
  methods := #[k11m0, k11m1, k11m2, k11m3, k11m4, k11m5, k11m6, k11m7]
  instanceTypes := #[(.array .byte), .byte, .int, .boolean]
  staticTypes := #[.long, .boolean, (.array (.object "java/io/ObjectStreamField")), .char, (.object "java/util/Comparator"), .byte, .byte]
  resolved := Array.replicate 1451 none
  statics := some 0 }

def pool12 : Array CpInfo := pool [(2, .class_ 4), (1, u "java/lang/Object"), (0, u "<init>"), (0, u "()V"), (0, .methodref 8 9), (0, .class_ 10), (0, .nameAndType 11 12), (0, u "java/lang/String"), (0, u "isBlank"), (0, u "()Z"), (7, .methodref 8 21), (0, .nameAndType 22 23), (0, u "length"), (0, u "()I"), (0, .methodref 8 25), (0, .nameAndType 26 27), (0, u "charAt"), (0, u "(I)C"), (0, .methodref 29 30), (0, .class_ 31), (0, .nameAndType 32 33), (0, u "java/lang/Character"), (0, u "isISOControl"), (0, u "(C)Z"), (2, .methodref 37 38), (0, .class_ 39), (0, .nameAndType 40 41), (0, u "java/lang/Double"), (0, u "isFinite"), (0, u "(D)Z"), (4, .methodref 47 48), (0, .class_ 49), (0, .nameAndType 50 51), (0, u "com/example/leapwise/leapwise/model/Require"), (0, u "finite"), (0, u "(Ljava/lang/String;D)D"), (4, u "id"), (0, u "(Ljava/lang/String;)Ljava/lang/String;"), (1, u "atLeastZero")] 22

def k12m0 : Method := { name := "<init>", desc := "()V", sig := { parameters := [], returnType := none }, accessFlags := 2, code := none }
def k12c1 : Code := { maxStack := 3, maxLocals := 2, code := prog_25_method_2_code, exceptionTable := #[], attributes := #[] }
def k12m1 : Method := { name := "id", desc := "(Ljava/lang/String;)Ljava/lang/String;", sig := { parameters := [(.object "java/lang/String")], returnType := some (.object "java/lang/String") }, accessFlags := 8, code := some k12c1 }
def k12c2 : Code := { maxStack := 5, maxLocals := 3, code := prog_25_method_3_code, exceptionTable := #[], attributes := #[] }
def k12m2 : Method := { name := "finite", desc := "(Ljava/lang/String;D)D", sig := { parameters := [(.object "java/lang/String"), .double], returnType := some .double }, accessFlags := 8, code := some k12c2 }
def k12c3 : Code := { maxStack := 5, maxLocals := 3, code := prog_25_method_4_code, exceptionTable := #[], attributes := #[] }
def k12m3 : Method := { name := "atLeastZero", desc := "(Ljava/lang/String;D)D", sig := { parameters := [(.object "java/lang/String"), .double], returnType := some .double }, accessFlags := 8, code := some k12c3 }
/-- com/example/leapwise/leapwise/model/Require -/
def k12 : Class := { plain "com/example/leapwise/leapwise/model/Require" (some 0) with
  accessFlags := 48
  interfaces := #[]
  cf := some (fileOf pool12 47 #[] #[{ accessFlags := 2, nameIndex := 5, descriptorIndex := 6, attributes := #[] }, { accessFlags := 8, nameIndex := 56, descriptorIndex := 57, attributes := #[] }, { accessFlags := 8, nameIndex := 50, descriptorIndex := 51, attributes := #[] }, { accessFlags := 8, nameIndex := 59, descriptorIndex := 51, attributes := #[] }] 48 2 #[] #[])
  fields := #[]
  methods := #[k12m0, k12m1, k12m2, k12m3]
  instanceTypes := #[]
  staticTypes := #[]
  resolved := Array.replicate 82 none
  statics := none }

def pool13 : Array CpInfo := pool [(1, .class_ 2), (0, u "java/lang/String"), (1, .class_ 6), (1, u "java/lang/Object"), (0, u "<init>"), (0, u "()V"), (0, .methodref 1 10), (0, .nameAndType 11 12), (0, u "checkIndex"), (0, u "(II)V"), (1, .class_ 16), (1, u "java/lang/StringLatin1"), (33, .methodref 14 51), (0, .nameAndType 52 53), (0, u "getChar"), (0, u "([BI)C"), (3, u "([B)I"), (8, .fieldref 67 68), (0, .class_ 69), (0, .nameAndType 70 71), (0, u "java/lang/CharacterDataLatin1"), (0, u "instance"), (0, u "Ljava/lang/CharacterDataLatin1;"), (19, u "(I)Z"), (29, u "$assertionsDisabled"), (0, u "Z"), (88, .methodref 67 212), (0, .nameAndType 213 91), (0, u "isWhitespace"), (2, u "indexOfNonWhitespace"), (4, .class_ 223), (1, u "java/lang/StringLatin1$LinesSpliterator"), (28, u "charAt"), (137, .class_ 391), (0, u "java/lang/StringLatin1$CharsSpliterator")] 3

def k13m0 : Method := { name := "<init>", desc := "()V", sig := { parameters := [], returnType := none }, accessFlags := 0, code := none }
def k13c1 : Code := { maxStack := 2, maxLocals := 2, code := jdk_43_method_2_code, exceptionTable := #[], attributes := #[] }
def k13m1 : Method := { name := "charAt", desc := "([BI)C", sig := { parameters := [(.array .byte), .int], returnType := some .char }, accessFlags := 9, code := some k13c1 }
def k13c2 : Code := { maxStack := 2, maxLocals := 4, code := jdk_43_method_37_code, exceptionTable := #[], attributes := #[] }
def k13m2 : Method := { name := "indexOfNonWhitespace", desc := "([B)I", sig := { parameters := [(.array .byte)], returnType := some .int }, accessFlags := 9, code := some k13c2 }
def k13c3 : Code := { maxStack := 2, maxLocals := 2, code := jdk_43_method_44_code, exceptionTable := #[], attributes := #[] }
def k13m3 : Method := { name := "getChar", desc := "([BI)C", sig := { parameters := [(.array .byte), .int], returnType := some .char }, accessFlags := 9, code := some k13c3 }
/-- java/lang/StringLatin1 -/
def k13 : Class := { plain "java/lang/StringLatin1" (some 0) with
  accessFlags := 48
  interfaces := #[]
  cf := some (fileOf pool13 14 #[.nestMembers #[390, 221]] #[{ accessFlags := 0, nameIndex := 7, descriptorIndex := 8, attributes := #[] }, { accessFlags := 9, nameIndex := 252, descriptorIndex := 53, attributes := #[] }, { accessFlags := 9, nameIndex := 216, descriptorIndex := 57, attributes := #[] }, { accessFlags := 9, nameIndex := 52, descriptorIndex := 53, attributes := #[] }] 48 4 #[] #[{ accessFlags := 4120, nameIndex := 121, descriptorIndex := 122, attributes := #[] }])
  fields := #[{ name := "$assertionsDisabled", type := .boolean, accessFlags := 4120, slot := 0, constantValue := 0 }]
  methods := #[k13m0, k13m1, k13m2, k13m3]
  instanceTypes := #[]
  staticTypes := #[.boolean]
  resolved := Array.replicate 395 none
  statics := none }

def pool14 : Array CpInfo := pool [(2, .class_ 4), (1, u "java/lang/Object"), (0, u "<init>"), (0, u "()V"), (1, .class_ 10), (1, u "java/lang/CharacterData")] 75

def k14m0 : Method := { name := "<init>", desc := "()V", sig := { parameters := [], returnType := none }, accessFlags := 0, code := none }
/-- java/lang/CharacterData -/
def k14 : Class := { plain "java/lang/CharacterData" (some 0) with
  accessFlags := 1056
  interfaces := #[]
  cf := some (fileOf pool14 8 #[] #[{ accessFlags := 0, nameIndex := 5, descriptorIndex := 6, attributes := #[] }] 1056 2 #[] #[])
  fields := #[]
  methods := #[k14m0]
  instanceTypes := #[]
  staticTypes := #[]
  resolved := Array.replicate 86 none
  statics := none }

def pool15 : Array CpInfo := pool [(1, .fieldref 2 3), (0, .class_ 4), (0, .nameAndType 5 6), (0, u "java/lang/CharacterDataLatin1"), (0, u "A"), (0, u "[I"), (2, u "B"), (0, u "[C"), (3, u "(I)I"), (0, .methodref 2 16), (0, .nameAndType 17 14), (0, u "getProperties"), (3, u "(I)Z"), (5, u "DIGITS"), (0, u "[B"), (8, u "sharpsMap"), (1, .class_ 41), (1, u "java/lang/CharacterData"), (0, u "<init>"), (0, u "()V"), (3, u "instance"), (0, u "Ljava/lang/CharacterDataLatin1;"), (78, u "isWhitespace")] 13

def k15c0 : Code := { maxStack := 2, maxLocals := 4, code := jdk_116_method_1_code, exceptionTable := #[], attributes := #[] }
def k15m0 : Method := { name := "getProperties", desc := "(I)I", sig := { parameters := [.int], returnType := some .int }, accessFlags := 0, code := some k15c0 }
def k15c1 : Code := { maxStack := 2, maxLocals := 3, code := jdk_116_method_26_code, exceptionTable := #[], attributes := #[] }
def k15m1 : Method := { name := "isWhitespace", desc := "(I)Z", sig := { parameters := [.int], returnType := some .boolean }, accessFlags := 0, code := some k15c1 }
def k15m2 : Method := { name := "<init>", desc := "()V", sig := { parameters := [], returnType := none }, accessFlags := 2, code := none }
/-- java/lang/CharacterDataLatin1 -/
def k15 : Class := { plain "java/lang/CharacterDataLatin1" (some 14) with
  accessFlags := 32
  interfaces := #[]
  cf := some (fileOf pool15 2 #[] #[{ accessFlags := 0, nameIndex := 17, descriptorIndex := 14, attributes := #[] }, { accessFlags := 0, nameIndex := 127, descriptorIndex := 21, attributes := #[] }, { accessFlags := 2, nameIndex := 42, descriptorIndex := 43, attributes := #[] }] 32 39 #[] #[{ accessFlags := 26, nameIndex := 27, descriptorIndex := 28, attributes := #[] }, { accessFlags := 8, nameIndex := 37, descriptorIndex := 10, attributes := #[] }, { accessFlags := 24, nameIndex := 47, descriptorIndex := 48, attributes := #[] }, { accessFlags := 24, nameIndex := 5, descriptorIndex := 6, attributes := #[] }, { accessFlags := 24, nameIndex := 9, descriptorIndex := 10, attributes := #[] }])
  fields := #[{ name := "DIGITS", type := (.array .byte), accessFlags := 26, slot := 0, constantValue := 0 }, { name := "sharpsMap", type := (.array .char), accessFlags := 8, slot := 1, constantValue := 0 }, { name := "instance", type := (.object "java/lang/CharacterDataLatin1"), accessFlags := 24, slot := 2, constantValue := 0 }, { name := "A", type := (.array .int), accessFlags := 24, slot := 3, constantValue := 0 }, { name := "B", type := (.array .char), accessFlags := 24, slot := 4, constantValue := 0 }]
  methods := #[k15m0, k15m1, k15m2]
  instanceTypes := #[]
  staticTypes := #[(.array .byte), (.array .char), (.object "java/lang/CharacterDataLatin1"), (.array .int), (.array .char)]
  resolved := Array.replicate 141 none
  statics := some 1 }

def pool16 : Array CpInfo := pool [(2, .class_ 4), (1, u "java/lang/Object"), (0, u "<init>"), (0, u "()V"), (17, .class_ 26), (1, u "jdk/internal/util/Preconditions"), (6, u "checkIndex"), (21, .class_ 56), (0, u "jdk/internal/util/Preconditions$4"), (57, .class_ 115), (0, u "jdk/internal/util/Preconditions$1"), (7, u "SIOOBE_FORMATTER"), (0, u "Ljava/util/function/BiFunction;"), (0, .class_ 126), (0, u "jdk/internal/util/Preconditions$2"), (3, u "AIOOBE_FORMATTER"), (0, .class_ 132), (0, u "jdk/internal/util/Preconditions$3"), (3, u "IOOBE_FORMATTER"), (41, u "(IILjava/util/function/BiFunction;)I")] 15

def k16m0 : Method := { name := "<init>", desc := "()V", sig := { parameters := [], returnType := none }, accessFlags := 1, code := none }
def k16c1 : Code := { maxStack := 3, maxLocals := 3, code := jdk_41_method_11_code, exceptionTable := #[], attributes := #[] }
def k16m1 : Method := { name := "checkIndex", desc := "(IILjava/util/function/BiFunction;)I", sig := { parameters := [.int, .int, (.object "java/util/function/BiFunction")], returnType := some .int }, accessFlags := 9, code := some k16c1 }
/-- jdk/internal/util/Preconditions -/
def k16 : Class := { plain "jdk/internal/util/Preconditions" (some 0) with
  accessFlags := 33
  interfaces := #[]
  cf := some (fileOf pool16 24 #[.nestMembers #[55, 131, 125, 114]] #[{ accessFlags := 1, nameIndex := 5, descriptorIndex := 6, attributes := #[] }, { accessFlags := 9, nameIndex := 33, descriptorIndex := 178, attributes := #[] }] 33 2 #[] #[{ accessFlags := 25, nameIndex := 123, descriptorIndex := 124, attributes := #[] }, { accessFlags := 25, nameIndex := 130, descriptorIndex := 124, attributes := #[] }, { accessFlags := 25, nameIndex := 136, descriptorIndex := 124, attributes := #[] }])
  fields := #[{ name := "SIOOBE_FORMATTER", type := (.object "java/util/function/BiFunction"), accessFlags := 25, slot := 0, constantValue := 0 }, { name := "AIOOBE_FORMATTER", type := (.object "java/util/function/BiFunction"), accessFlags := 25, slot := 1, constantValue := 0 }, { name := "IOOBE_FORMATTER", type := (.object "java/util/function/BiFunction"), accessFlags := 25, slot := 2, constantValue := 0 }]
  methods := #[k16m0, k16m1]
  instanceTypes := #[]
  staticTypes := #[(.object "java/util/function/BiFunction"), (.object "java/util/function/BiFunction"), (.object "java/util/function/BiFunction")]
  resolved := Array.replicate 194 none
  statics := some 2 }

def pool17 : Array CpInfo := pool [(1, .class_ 2), (0, u "java/lang/Character"), (18, u "value"), (0, u "C"), (19, .class_ 44), (1, u "java/lang/Object"), (3, .class_ 50), (1, u "java/lang/Character$CharacterCache"), (30, u "(C)Z"), (32, u "(I)Z"), (151, .methodref 1 267), (0, .nameAndType 268 114), (0, u "isISOControl"), (15, u "$assertionsDisabled"), (0, u "Z"), (21, .class_ 309), (1, u "java/lang/Character$UnicodeBlock"), (73, u "TYPE"), (0, u "Ljava/lang/Class;"), (0, .class_ 386), (0, u "java/io/Serializable"), (0, .class_ 388), (0, u "java/lang/Comparable"), (0, .class_ 390), (0, u "java/lang/constant/Constable"), (0, u "MIN_RADIX"), (0, u "I"), (2, u "MAX_RADIX"), (1, u "MIN_VALUE"), (1, u "MAX_VALUE"), (3, u "UNASSIGNED"), (0, u "B"), (0, u "UPPERCASE_LETTER"), (1, u "LOWERCASE_LETTER"), (0, u "TITLECASE_LETTER"), (1, u "MODIFIER_LETTER"), (1, u "OTHER_LETTER"), (1, u "NON_SPACING_MARK"), (1, u "ENCLOSING_MARK"), (1, u "COMBINING_SPACING_MARK"), (1, u "DECIMAL_DIGIT_NUMBER"), (1, u "LETTER_NUMBER"), (1, u "OTHER_NUMBER"), (1, u "SPACE_SEPARATOR"), (1, u "LINE_SEPARATOR"), (1, u "PARAGRAPH_SEPARATOR"), (1, u "CONTROL"), (1, u "FORMAT"), (1, u "PRIVATE_USE"), (1, u "SURROGATE"), (1, u "DASH_PUNCTUATION"), (1, u "START_PUNCTUATION"), (1, u "END_PUNCTUATION"), (1, u "CONNECTOR_PUNCTUATION"), (1, u "OTHER_PUNCTUATION"), (1, u "MATH_SYMBOL"), (1, u "CURRENCY_SYMBOL"), (1, u "MODIFIER_SYMBOL"), (1, u "OTHER_SYMBOL"), (1, u "INITIAL_QUOTE_PUNCTUATION"), (1, u "FINAL_QUOTE_PUNCTUATION"), (1, u "ERROR"), (1, u "DIRECTIONALITY_UNDEFINED"), (0, u "DIRECTIONALITY_LEFT_TO_RIGHT"), (0, u "DIRECTIONALITY_RIGHT_TO_LEFT"), (0, u "DIRECTIONALITY_RIGHT_TO_LEFT_ARABIC"), (0, u "DIRECTIONALITY_EUROPEAN_NUMBER"), (0, u "DIRECTIONALITY_EUROPEAN_NUMBER_SEPARATOR"), (0, u "DIRECTIONALITY_EUROPEAN_NUMBER_TERMINATOR"), (0, u "DIRECTIONALITY_ARABIC_NUMBER"), (0, u "DIRECTIONALITY_COMMON_NUMBER_SEPARATOR"), (0, u "DIRECTIONALITY_NONSPACING_MARK"), (0, u "DIRECTIONALITY_BOUNDARY_NEUTRAL"), (0, u "DIRECTIONALITY_PARAGRAPH_SEPARATOR"), (0, u "DIRECTIONALITY_SEGMENT_SEPARATOR"), (0, u "DIRECTIONALITY_WHITESPACE"), (0, u "DIRECTIONALITY_OTHER_NEUTRALS"), (0, u "DIRECTIONALITY_LEFT_TO_RIGHT_EMBEDDING"), (0, u "DIRECTIONALITY_LEFT_TO_RIGHT_OVERRIDE"), (0, u "DIRECTIONALITY_RIGHT_TO_LEFT_EMBEDDING"), (0, u "DIRECTIONALITY_RIGHT_TO_LEFT_OVERRIDE"), (1, u "DIRECTIONALITY_POP_DIRECTIONAL_FORMAT"), (0, u "DIRECTIONALITY_LEFT_TO_RIGHT_ISOLATE"), (0, u "DIRECTIONALITY_RIGHT_TO_LEFT_ISOLATE"), (0, u "DIRECTIONALITY_FIRST_STRONG_ISOLATE"), (0, u "DIRECTIONALITY_POP_DIRECTIONAL_ISOLATE"), (0, u "MIN_HIGH_SURROGATE"), (0, u "MAX_HIGH_SURROGATE"), (1, u "MIN_LOW_SURROGATE"), (0, u "MAX_LOW_SURROGATE"), (1, u "MIN_SURROGATE"), (0, u "MAX_SURROGATE"), (0, u "MIN_SUPPLEMENTARY_CODE_POINT"), (0, u "MIN_CODE_POINT"), (0, u "MAX_CODE_POINT"), (1, u "serialVersionUID"), (0, u "J"), (2, u "SIZE"), (0, u "BYTES"), (88, .class_ 596), (0, u "java/lang/Character$UnicodeScript"), (0, .class_ 598), (0, u "java/lang/Character$Subset")] 5

def k17c0 : Code := { maxStack := 1, maxLocals := 1, code := jdk_89_method_88_code, exceptionTable := #[], attributes := #[] }
def k17m0 : Method := { name := "isISOControl", desc := "(C)Z", sig := { parameters := [.char], returnType := some .boolean }, accessFlags := 9, code := some k17c0 }
def k17c1 : Code := { maxStack := 2, maxLocals := 1, code := jdk_89_method_89_code, exceptionTable := #[], attributes := #[] }
def k17m1 : Method := { name := "isISOControl", desc := "(I)Z", sig := { parameters := [.int], returnType := some .boolean }, accessFlags := 9, code := some k17c1 }
/-- java/lang/Character -/
def k17 : Class := { plain "java/lang/Character" (some 0) with
  accessFlags := 49
  interfaces := #[6, 7, 9]
  cf := some (fileOf pool17 1 #[.nestMembers #[48, 595, 307, 597]] #[{ accessFlags := 9, nameIndex := 268, descriptorIndex := 81, attributes := #[] }, { accessFlags := 9, nameIndex := 268, descriptorIndex := 114, attributes := #[] }] 49 42 #[385, 387, 389] #[{ accessFlags := 25, nameIndex := 391, descriptorIndex := 392, attributes := #[] }, { accessFlags := 25, nameIndex := 395, descriptorIndex := 392, attributes := #[] }, { accessFlags := 25, nameIndex := 397, descriptorIndex := 22, attributes := #[] }, { accessFlags := 25, nameIndex := 399, descriptorIndex := 22, attributes := #[] }, { accessFlags := 25, nameIndex := 383, descriptorIndex := 384, attributes := #[] }, { accessFlags := 25, nameIndex := 403, descriptorIndex := 404, attributes := #[] }, { accessFlags := 25, nameIndex := 405, descriptorIndex := 404, attributes := #[] }, { accessFlags := 25, nameIndex := 407, descriptorIndex := 404, attributes := #[] }, { accessFlags := 25, nameIndex := 408, descriptorIndex := 404, attributes := #[] }, { accessFlags := 25, nameIndex := 410, descriptorIndex := 404, attributes := #[] }, { accessFlags := 25, nameIndex := 412, descriptorIndex := 404, attributes := #[] }, { accessFlags := 25, nameIndex := 414, descriptorIndex := 404, attributes := #[] }, { accessFlags := 25, nameIndex := 416, descriptorIndex := 404, attributes := #[] }, { accessFlags := 25, nameIndex := 418, descriptorIndex := 404, attributes := #[] }, { accessFlags := 25, nameIndex := 420, descriptorIndex := 404, attributes := #[] }, { accessFlags := 25, nameIndex := 422, descriptorIndex := 404, attributes := #[] }, { accessFlags := 25, nameIndex := 424, descriptorIndex := 404, attributes := #[] }, { accessFlags := 25, nameIndex := 426, descriptorIndex := 404, attributes := #[] }, { accessFlags := 25, nameIndex := 428, descriptorIndex := 404, attributes := #[] }, { accessFlags := 25, nameIndex := 430, descriptorIndex := 404, attributes := #[] }, { accessFlags := 25, nameIndex := 432, descriptorIndex := 404, attributes := #[] }, { accessFlags := 25, nameIndex := 434, descriptorIndex := 404, attributes := #[] }, { accessFlags := 25, nameIndex := 436, descriptorIndex := 404, attributes := #[] }, { accessFlags := 25, nameIndex := 438, descriptorIndex := 404, attributes := #[] }, { accessFlags := 25, nameIndex := 440, descriptorIndex := 404, attributes := #[] }, { accessFlags := 25, nameIndex := 442, descriptorIndex := 404, attributes := #[] }, { accessFlags := 25, nameIndex := 444, descriptorIndex := 404, attributes := #[] }, { accessFlags := 25, nameIndex := 446, descriptorIndex := 404, attributes := #[] }, { accessFlags := 25, nameIndex := 448, descriptorIndex := 404, attributes := #[] }, { accessFlags := 25, nameIndex := 450, descriptorIndex := 404, attributes := #[] }, { accessFlags := 25, nameIndex := 452, descriptorIndex := 404, attributes := #[] }, { accessFlags := 25, nameIndex := 454, descriptorIndex := 404, attributes := #[] }, { accessFlags := 25, nameIndex := 456, descriptorIndex := 404, attributes := #[] }, { accessFlags := 25, nameIndex := 458, descriptorIndex := 404, attributes := #[] }, { accessFlags := 25, nameIndex := 460, descriptorIndex := 404, attributes := #[] }, { accessFlags := 24, nameIndex := 462, descriptorIndex := 392, attributes := #[] }, { accessFlags := 25, nameIndex := 464, descriptorIndex := 404, attributes := #[] }, { accessFlags := 25, nameIndex := 465, descriptorIndex := 404, attributes := #[] }, { accessFlags := 25, nameIndex := 466, descriptorIndex := 404, attributes := #[] }, { accessFlags := 25, nameIndex := 467, descriptorIndex := 404, attributes := #[] }, { accessFlags := 25, nameIndex := 468, descriptorIndex := 404, attributes := #[] }, { accessFlags := 25, nameIndex := 469, descriptorIndex := 404, attributes := #[] }, { accessFlags := 25, nameIndex := 470, descriptorIndex := 404, attributes := #[] }, { accessFlags := 25, nameIndex := 471, descriptorIndex := 404, attributes := #[] }, { accessFlags := 25, nameIndex := 472, descriptorIndex := 404, attributes := #[] }, { accessFlags := 25, nameIndex := 473, descriptorIndex := 404, attributes := #[] }, { accessFlags := 25, nameIndex := 474, descriptorIndex := 404, attributes := #[] }, { accessFlags := 25, nameIndex := 475, descriptorIndex := 404, attributes := #[] }, { accessFlags := 25, nameIndex := 476, descriptorIndex := 404, attributes := #[] }, { accessFlags := 25, nameIndex := 477, descriptorIndex := 404, attributes := #[] }, { accessFlags := 25, nameIndex := 478, descriptorIndex := 404, attributes := #[] }, { accessFlags := 25, nameIndex := 479, descriptorIndex := 404, attributes := #[] }, { accessFlags := 25, nameIndex := 480, descriptorIndex := 404, attributes := #[] }, { accessFlags := 25, nameIndex := 481, descriptorIndex := 404, attributes := #[] }, { accessFlags := 25, nameIndex := 482, descriptorIndex := 404, attributes := #[] }, { accessFlags := 25, nameIndex := 484, descriptorIndex := 404, attributes := #[] }, { accessFlags := 25, nameIndex := 485, descriptorIndex := 404, attributes := #[] }, { accessFlags := 25, nameIndex := 486, descriptorIndex := 404, attributes := #[] }, { accessFlags := 25, nameIndex := 487, descriptorIndex := 404, attributes := #[] }, { accessFlags := 25, nameIndex := 488, descriptorIndex := 404, attributes := #[] }, { accessFlags := 25, nameIndex := 489, descriptorIndex := 22, attributes := #[] }, { accessFlags := 25, nameIndex := 490, descriptorIndex := 22, attributes := #[] }, { accessFlags := 25, nameIndex := 492, descriptorIndex := 22, attributes := #[] }, { accessFlags := 25, nameIndex := 493, descriptorIndex := 22, attributes := #[] }, { accessFlags := 25, nameIndex := 495, descriptorIndex := 22, attributes := #[] }, { accessFlags := 25, nameIndex := 496, descriptorIndex := 22, attributes := #[] }, { accessFlags := 25, nameIndex := 497, descriptorIndex := 392, attributes := #[] }, { accessFlags := 25, nameIndex := 498, descriptorIndex := 392, attributes := #[] }, { accessFlags := 25, nameIndex := 499, descriptorIndex := 392, attributes := #[] }, { accessFlags := 18, nameIndex := 21, descriptorIndex := 22, attributes := #[] }, { accessFlags := 26, nameIndex := 501, descriptorIndex := 502, attributes := #[] }, { accessFlags := 25, nameIndex := 505, descriptorIndex := 392, attributes := #[] }, { accessFlags := 25, nameIndex := 506, descriptorIndex := 392, attributes := #[] }, { accessFlags := 4120, nameIndex := 284, descriptorIndex := 285, attributes := #[] }])
  fields := #[{ name := "MIN_RADIX", type := .int, accessFlags := 25, slot := 0, constantValue := 0 }, { name := "MAX_RADIX", type := .int, accessFlags := 25, slot := 1, constantValue := 0 }, { name := "MIN_VALUE", type := .char, accessFlags := 25, slot := 2, constantValue := 0 }, { name := "MAX_VALUE", type := .char, accessFlags := 25, slot := 3, constantValue := 0 }, { name := "TYPE", type := (.object "java/lang/Class"), accessFlags := 25, slot := 4, constantValue := 0 }, { name := "UNASSIGNED", type := .byte, accessFlags := 25, slot := 5, constantValue := 0 }, { name := "UPPERCASE_LETTER", type := .byte, accessFlags := 25, slot := 6, constantValue := 0 }, { name := "LOWERCASE_LETTER", type := .byte, accessFlags := 25, slot := 7, constantValue := 0 }, { name := "TITLECASE_LETTER", type := .byte, accessFlags := 25, slot := 8, constantValue := 0 }, { name := "MODIFIER_LETTER", type := .byte, accessFlags := 25, slot := 9, constantValue := 0 }, { name := "OTHER_LETTER", type := .byte, accessFlags := 25, slot := 10, constantValue := 0 }, { name := "NON_SPACING_MARK", type := .byte, accessFlags := 25, slot := 11, constantValue := 0 }, { name := "ENCLOSING_MARK", type := .byte, accessFlags := 25, slot := 12, constantValue := 0 }, { name := "COMBINING_SPACING_MARK", type := .byte, accessFlags := 25, slot := 13, constantValue := 0 }, { name := "DECIMAL_DIGIT_NUMBER", type := .byte, accessFlags := 25, slot := 14, constantValue := 0 }, { name := "LETTER_NUMBER", type := .byte, accessFlags := 25, slot := 15, constantValue := 0 }, { name := "OTHER_NUMBER", type := .byte, accessFlags := 25, slot := 16, constantValue := 0 }, { name := "SPACE_SEPARATOR", type := .byte, accessFlags := 25, slot := 17, constantValue := 0 }, { name := "LINE_SEPARATOR", type := .byte, accessFlags := 25, slot := 18, constantValue := 0 }, { name := "PARAGRAPH_SEPARATOR", type := .byte, accessFlags := 25, slot := 19, constantValue := 0 }, { name := "CONTROL", type := .byte, accessFlags := 25, slot := 20, constantValue := 0 }, { name := "FORMAT", type := .byte, accessFlags := 25, slot := 21, constantValue := 0 }, { name := "PRIVATE_USE", type := .byte, accessFlags := 25, slot := 22, constantValue := 0 }, { name := "SURROGATE", type := .byte, accessFlags := 25, slot := 23, constantValue := 0 }, { name := "DASH_PUNCTUATION", type := .byte, accessFlags := 25, slot := 24, constantValue := 0 }, { name := "START_PUNCTUATION", type := .byte, accessFlags := 25, slot := 25, constantValue := 0 }, { name := "END_PUNCTUATION", type := .byte, accessFlags := 25, slot := 26, constantValue := 0 }, { name := "CONNECTOR_PUNCTUATION", type := .byte, accessFlags := 25, slot := 27, constantValue := 0 }, { name := "OTHER_PUNCTUATION", type := .byte, accessFlags := 25, slot := 28, constantValue := 0 }, { name := "MATH_SYMBOL", type := .byte, accessFlags := 25, slot := 29, constantValue := 0 }, { name := "CURRENCY_SYMBOL", type := .byte, accessFlags := 25, slot := 30, constantValue := 0 }, { name := "MODIFIER_SYMBOL", type := .byte, accessFlags := 25, slot := 31, constantValue := 0 }, { name := "OTHER_SYMBOL", type := .byte, accessFlags := 25, slot := 32, constantValue := 0 }, { name := "INITIAL_QUOTE_PUNCTUATION", type := .byte, accessFlags := 25, slot := 33, constantValue := 0 }, { name := "FINAL_QUOTE_PUNCTUATION", type := .byte, accessFlags := 25, slot := 34, constantValue := 0 }, { name := "ERROR", type := .int, accessFlags := 24, slot := 35, constantValue := 0 }, { name := "DIRECTIONALITY_UNDEFINED", type := .byte, accessFlags := 25, slot := 36, constantValue := 0 }, { name := "DIRECTIONALITY_LEFT_TO_RIGHT", type := .byte, accessFlags := 25, slot := 37, constantValue := 0 }, { name := "DIRECTIONALITY_RIGHT_TO_LEFT", type := .byte, accessFlags := 25, slot := 38, constantValue := 0 }, { name := "DIRECTIONALITY_RIGHT_TO_LEFT_ARABIC", type := .byte, accessFlags := 25, slot := 39, constantValue := 0 }, { name := "DIRECTIONALITY_EUROPEAN_NUMBER", type := .byte, accessFlags := 25, slot := 40, constantValue := 0 }, { name := "DIRECTIONALITY_EUROPEAN_NUMBER_SEPARATOR", type := .byte, accessFlags := 25, slot := 41, constantValue := 0 }, { name := "DIRECTIONALITY_EUROPEAN_NUMBER_TERMINATOR", type := .byte, accessFlags := 25, slot := 42, constantValue := 0 }, { name := "DIRECTIONALITY_ARABIC_NUMBER", type := .byte, accessFlags := 25, slot := 43, constantValue := 0 }, { name := "DIRECTIONALITY_COMMON_NUMBER_SEPARATOR", type := .byte, accessFlags := 25, slot := 44, constantValue := 0 }, { name := "DIRECTIONALITY_NONSPACING_MARK", type := .byte, accessFlags := 25, slot := 45, constantValue := 0 }, { name := "DIRECTIONALITY_BOUNDARY_NEUTRAL", type := .byte, accessFlags := 25, slot := 46, constantValue := 0 }, { name := "DIRECTIONALITY_PARAGRAPH_SEPARATOR", type := .byte, accessFlags := 25, slot := 47, constantValue := 0 }, { name := "DIRECTIONALITY_SEGMENT_SEPARATOR", type := .byte, accessFlags := 25, slot := 48, constantValue := 0 }, { name := "DIRECTIONALITY_WHITESPACE", type := .byte, accessFlags := 25, slot := 49, constantValue := 0 }, { name := "DIRECTIONALITY_OTHER_NEUTRALS", type := .byte, accessFlags := 25, slot := 50, constantValue := 0 }, { name := "DIRECTIONALITY_LEFT_TO_RIGHT_EMBEDDING", type := .byte, accessFlags := 25, slot := 51, constantValue := 0 }, { name := "DIRECTIONALITY_LEFT_TO_RIGHT_OVERRIDE", type := .byte, accessFlags := 25, slot := 52, constantValue := 0 }, { name := "DIRECTIONALITY_RIGHT_TO_LEFT_EMBEDDING", type := .byte, accessFlags := 25, slot := 53, constantValue := 0 }, { name := "DIRECTIONALITY_RIGHT_TO_LEFT_OVERRIDE", type := .byte, accessFlags := 25, slot := 54, constantValue := 0 }, { name := "DIRECTIONALITY_POP_DIRECTIONAL_FORMAT", type := .byte, accessFlags := 25, slot := 55, constantValue := 0 }, { name := "DIRECTIONALITY_LEFT_TO_RIGHT_ISOLATE", type := .byte, accessFlags := 25, slot := 56, constantValue := 0 }, { name := "DIRECTIONALITY_RIGHT_TO_LEFT_ISOLATE", type := .byte, accessFlags := 25, slot := 57, constantValue := 0 }, { name := "DIRECTIONALITY_FIRST_STRONG_ISOLATE", type := .byte, accessFlags := 25, slot := 58, constantValue := 0 }, { name := "DIRECTIONALITY_POP_DIRECTIONAL_ISOLATE", type := .byte, accessFlags := 25, slot := 59, constantValue := 0 }, { name := "MIN_HIGH_SURROGATE", type := .char, accessFlags := 25, slot := 60, constantValue := 0 }, { name := "MAX_HIGH_SURROGATE", type := .char, accessFlags := 25, slot := 61, constantValue := 0 }, { name := "MIN_LOW_SURROGATE", type := .char, accessFlags := 25, slot := 62, constantValue := 0 }, { name := "MAX_LOW_SURROGATE", type := .char, accessFlags := 25, slot := 63, constantValue := 0 }, { name := "MIN_SURROGATE", type := .char, accessFlags := 25, slot := 64, constantValue := 0 }, { name := "MAX_SURROGATE", type := .char, accessFlags := 25, slot := 65, constantValue := 0 }, { name := "MIN_SUPPLEMENTARY_CODE_POINT", type := .int, accessFlags := 25, slot := 66, constantValue := 0 }, { name := "MIN_CODE_POINT", type := .int, accessFlags := 25, slot := 67, constantValue := 0 }, { name := "MAX_CODE_POINT", type := .int, accessFlags := 25, slot := 68, constantValue := 0 }, { name := "value", type := .char, accessFlags := 18, slot := 0, constantValue := 0 }, { name := "serialVersionUID", type := .long, accessFlags := 26, slot := 69, constantValue := 0 }, { name := "SIZE", type := .int, accessFlags := 25, slot := 70, constantValue := 0 }, { name := "BYTES", type := .int, accessFlags := 25, slot := 71, constantValue := 0 }, { name := "$assertionsDisabled", type := .boolean, accessFlags := 4120, slot := 72, constantValue := 0 }]
  methods := #[k17m0, k17m1]
  instanceTypes := #[.char]
  staticTypes := #[.int, .int, .char, .char, (.object "java/lang/Class"), .byte, .byte, .byte, .byte, .byte, .byte, .byte, .byte, .byte, .byte, .byte, .byte, .byte, .byte, .byte, .byte, .byte, .byte, .byte, .byte, .byte, .byte, .byte, .byte, .byte, .byte, .byte, .byte, .byte, .byte, .int, .byte, .byte, .byte, .byte, .byte, .byte, .byte, .byte, .byte, .byte, .byte, .byte, .byte, .byte, .byte, .byte, .byte, .byte, .byte, .byte, .byte, .byte, .byte, .byte, .char, .char, .char, .char, .char, .char, .int, .int, .int, .long, .int, .int, .boolean]
  resolved := Array.replicate 604 none
  statics := none }

def pool18 : Array CpInfo := pool [(2, .class_ 4), (1, u "java/lang/Object"), (0, u "<init>"), (0, u "()V"), (1, .class_ 10), (1, u "java/lang/Number"), (2, .class_ 14), (0, u "java/io/Serializable"), (0, u "serialVersionUID"), (0, u "J")] 20

def k18m0 : Method := { name := "<init>", desc := "()V", sig := { parameters := [], returnType := none }, accessFlags := 1, code := none }
/-- java/lang/Number -/
def k18 : Class := { plain "java/lang/Number" (some 0) with
  accessFlags := 1057
  interfaces := #[6]
  cf := some (fileOf pool18 8 #[] #[{ accessFlags := 1, nameIndex := 5, descriptorIndex := 6, attributes := #[] }] 1057 2 #[13] #[{ accessFlags := 26, nameIndex := 15, descriptorIndex := 16, attributes := #[] }])
  fields := #[{ name := "serialVersionUID", type := .long, accessFlags := 26, slot := 0, constantValue := 0 }]
  methods := #[k18m0]
  instanceTypes := #[]
  staticTypes := #[.long]
  resolved := Array.replicate 37 none
  statics := none }

def pool19 : Array CpInfo := pool [(1, .class_ 2), (0, u "java/lang/Double"), (10, u "isFinite"), (0, u "(D)Z"), (8, .class_ 25), (1, u "java/lang/Math"), (12, .methodref 23 39), (0, .nameAndType 40 41), (0, u "abs"), (0, u "(D)D"), (69, .double 9218868437227405311), (2, .class_ 116), (1, u "java/lang/Number"), (3, u "value"), (0, u "D"), (51, u "TYPE"), (0, u "Ljava/lang/Class;"), (0, .class_ 176), (0, u "java/lang/Comparable"), (0, .class_ 178), (0, u "java/lang/constant/Constable"), (0, .class_ 180), (0, u "java/lang/constant/ConstantDesc"), (0, u "POSITIVE_INFINITY"), (3, u "NEGATIVE_INFINITY"), (2, u "NaN"), (2, u "MAX_VALUE"), (0, u "MIN_NORMAL"), (0, u "MIN_VALUE"), (2, u "SIZE"), (0, u "I"), (1, u "PRECISION"), (1, u "MAX_EXPONENT"), (1, u "MIN_EXPONENT"), (1, u "BYTES"), (3, u "serialVersionUID"), (0, u "J")] 79

def k19c0 : Code := { maxStack := 4, maxLocals := 2, code := jdk_117_method_8_code, exceptionTable := #[], attributes := #[] }
def k19m0 : Method := { name := "isFinite", desc := "(D)Z", sig := { parameters := [.double], returnType := some .boolean }, accessFlags := 9, code := some k19c0 }
/-- java/lang/Double -/
def k19 : Class := { plain "java/lang/Double" (some 18) with
  accessFlags := 49
  interfaces := #[7, 9, 10]
  cf := some (fileOf pool19 1 #[] #[{ accessFlags := 9, nameIndex := 13, descriptorIndex := 14, attributes := #[] }] 49 114 #[175, 177, 179] #[{ accessFlags := 25, nameIndex := 181, descriptorIndex := 121, attributes := #[] }, { accessFlags := 25, nameIndex := 185, descriptorIndex := 121, attributes := #[] }, { accessFlags := 25, nameIndex := 188, descriptorIndex := 121, attributes := #[] }, { accessFlags := 25, nameIndex := 191, descriptorIndex := 121, attributes := #[] }, { accessFlags := 25, nameIndex := 192, descriptorIndex := 121, attributes := #[] }, { accessFlags := 25, nameIndex := 193, descriptorIndex := 121, attributes := #[] }, { accessFlags := 25, nameIndex := 196, descriptorIndex := 197, attributes := #[] }, { accessFlags := 25, nameIndex := 199, descriptorIndex := 197, attributes := #[] }, { accessFlags := 25, nameIndex := 201, descriptorIndex := 197, attributes := #[] }, { accessFlags := 25, nameIndex := 203, descriptorIndex := 197, attributes := #[] }, { accessFlags := 25, nameIndex := 205, descriptorIndex := 197, attributes := #[] }, { accessFlags := 25, nameIndex := 173, descriptorIndex := 174, attributes := #[] }, { accessFlags := 18, nameIndex := 120, descriptorIndex := 121, attributes := #[] }, { accessFlags := 26, nameIndex := 209, descriptorIndex := 210, attributes := #[] }])
  fields := #[{ name := "POSITIVE_INFINITY", type := .double, accessFlags := 25, slot := 0, constantValue := 0 }, { name := "NEGATIVE_INFINITY", type := .double, accessFlags := 25, slot := 1, constantValue := 0 }, { name := "NaN", type := .double, accessFlags := 25, slot := 2, constantValue := 0 }, { name := "MAX_VALUE", type := .double, accessFlags := 25, slot := 3, constantValue := 0 }, { name := "MIN_NORMAL", type := .double, accessFlags := 25, slot := 4, constantValue := 0 }, { name := "MIN_VALUE", type := .double, accessFlags := 25, slot := 5, constantValue := 0 }, { name := "SIZE", type := .int, accessFlags := 25, slot := 6, constantValue := 0 }, { name := "PRECISION", type := .int, accessFlags := 25, slot := 7, constantValue := 0 }, { name := "MAX_EXPONENT", type := .int, accessFlags := 25, slot := 8, constantValue := 0 }, { name := "MIN_EXPONENT", type := .int, accessFlags := 25, slot := 9, constantValue := 0 }, { name := "BYTES", type := .int, accessFlags := 25, slot := 10, constantValue := 0 }, { name := "TYPE", type := (.object "java/lang/Class"), accessFlags := 25, slot := 11, constantValue := 0 }, { name := "value", type := .double, accessFlags := 18, slot := 0, constantValue := 0 }, { name := "serialVersionUID", type := .long, accessFlags := 26, slot := 12, constantValue := 0 }]
  methods := #[k19m0]
  instanceTypes := #[.double]
  staticTypes := #[.double, .double, .double, .double, .double, .double, .int, .int, .int, .int, .int, (.object "java/lang/Class"), .long]
  resolved := Array.replicate 290 none
  statics := none }

def pool20 : Array CpInfo := pool [(9, u "<init>"), (6, .class_ 18), (1, u "java/lang/Object"), (0, u "()V"), (1, .class_ 23), (1, u "jdk/internal/util/ArraysSupport"), (0, u "LOG2_ARRAY_LONG_INDEX_SCALE"), (0, u "I"), (2, u "U"), (0, u "Ljdk/internal/misc/Unsafe;"), (8, u "BIG_ENDIAN"), (0, u "Z"), (8, u "LOG2_BYTE_BIT_SIZE"), (4, u "LOG2_ARRAY_INT_INDEX_SCALE"), (54, u "JLA"), (0, u "Ljdk/internal/access/JavaLangAccess;"), (11, u "LOG2_ARRAY_BOOLEAN_INDEX_SCALE"), (9, u "LOG2_ARRAY_BYTE_INDEX_SCALE"), (5, u "LOG2_ARRAY_CHAR_INDEX_SCALE"), (5, u "LOG2_ARRAY_SHORT_INDEX_SCALE"), (18, u "LOG2_ARRAY_FLOAT_INDEX_SCALE"), (24, u "LOG2_ARRAY_DOUBLE_INDEX_SCALE"), (89, u "T_BOOLEAN"), (2, u "T_CHAR"), (1, u "T_FLOAT"), (1, u "T_DOUBLE"), (1, u "T_BYTE"), (1, u "T_SHORT"), (1, u "T_INT"), (1, u "T_LONG"), (1, u "SOFT_MAX_ARRAY_LENGTH")] 83

def k20m0 : Method := { name := "<init>", desc := "()V", sig := { parameters := [], returnType := none }, accessFlags := 2, code := none }
/-- jdk/internal/util/ArraysSupport -/
def k20 : Class := { plain "jdk/internal/util/ArraysSupport" (some 0) with
  accessFlags := 33
  interfaces := #[]
  cf := some (fileOf pool20 21 #[] #[{ accessFlags := 2, nameIndex := 9, descriptorIndex := 19, attributes := #[] }] 33 16 #[] #[{ accessFlags := 24, nameIndex := 28, descriptorIndex := 29, attributes := #[] }, { accessFlags := 26, nameIndex := 38, descriptorIndex := 39, attributes := #[] }, { accessFlags := 25, nameIndex := 121, descriptorIndex := 25, attributes := #[] }, { accessFlags := 25, nameIndex := 131, descriptorIndex := 25, attributes := #[] }, { accessFlags := 25, nameIndex := 137, descriptorIndex := 25, attributes := #[] }, { accessFlags := 25, nameIndex := 143, descriptorIndex := 25, attributes := #[] }, { accessFlags := 25, nameIndex := 53, descriptorIndex := 25, attributes := #[] }, { accessFlags := 25, nameIndex := 24, descriptorIndex := 25, attributes := #[] }, { accessFlags := 25, nameIndex := 162, descriptorIndex := 25, attributes := #[] }, { accessFlags := 25, nameIndex := 187, descriptorIndex := 25, attributes := #[] }, { accessFlags := 26, nameIndex := 48, descriptorIndex := 25, attributes := #[] }, { accessFlags := 25, nameIndex := 277, descriptorIndex := 25, attributes := #[] }, { accessFlags := 25, nameIndex := 280, descriptorIndex := 25, attributes := #[] }, { accessFlags := 25, nameIndex := 282, descriptorIndex := 25, attributes := #[] }, { accessFlags := 25, nameIndex := 284, descriptorIndex := 25, attributes := #[] }, { accessFlags := 25, nameIndex := 286, descriptorIndex := 25, attributes := #[] }, { accessFlags := 25, nameIndex := 288, descriptorIndex := 25, attributes := #[] }, { accessFlags := 25, nameIndex := 290, descriptorIndex := 25, attributes := #[] }, { accessFlags := 25, nameIndex := 292, descriptorIndex := 25, attributes := #[] }, { accessFlags := 26, nameIndex := 108, descriptorIndex := 109, attributes := #[] }, { accessFlags := 25, nameIndex := 294, descriptorIndex := 25, attributes := #[] }])
  fields := #[{ name := "U", type := (.object "jdk/internal/misc/Unsafe"), accessFlags := 24, slot := 0, constantValue := 0 }, { name := "BIG_ENDIAN", type := .boolean, accessFlags := 26, slot := 1, constantValue := 0 }, { name := "LOG2_ARRAY_BOOLEAN_INDEX_SCALE", type := .int, accessFlags := 25, slot := 2, constantValue := 0 }, { name := "LOG2_ARRAY_BYTE_INDEX_SCALE", type := .int, accessFlags := 25, slot := 3, constantValue := 0 }, { name := "LOG2_ARRAY_CHAR_INDEX_SCALE", type := .int, accessFlags := 25, slot := 4, constantValue := 0 }, { name := "LOG2_ARRAY_SHORT_INDEX_SCALE", type := .int, accessFlags := 25, slot := 5, constantValue := 0 }, { name := "LOG2_ARRAY_INT_INDEX_SCALE", type := .int, accessFlags := 25, slot := 6, constantValue := 0 }, { name := "LOG2_ARRAY_LONG_INDEX_SCALE", type := .int, accessFlags := 25, slot := 7, constantValue := 0 }, { name := "LOG2_ARRAY_FLOAT_INDEX_SCALE", type := .int, accessFlags := 25, slot := 8, constantValue := 0 }, { name := "LOG2_ARRAY_DOUBLE_INDEX_SCALE", type := .int, accessFlags := 25, slot := 9, constantValue := 0 }, { name := "LOG2_BYTE_BIT_SIZE", type := .int, accessFlags := 26, slot := 10, constantValue := 0 }, { name := "T_BOOLEAN", type := .int, accessFlags := 25, slot := 11, constantValue := 0 }, { name := "T_CHAR", type := .int, accessFlags := 25, slot := 12, constantValue := 0 }, { name := "T_FLOAT", type := .int, accessFlags := 25, slot := 13, constantValue := 0 }, { name := "T_DOUBLE", type := .int, accessFlags := 25, slot := 14, constantValue := 0 }, { name := "T_BYTE", type := .int, accessFlags := 25, slot := 15, constantValue := 0 }, { name := "T_SHORT", type := .int, accessFlags := 25, slot := 16, constantValue := 0 }, { name := "T_INT", type := .int, accessFlags := 25, slot := 17, constantValue := 0 }, { name := "T_LONG", type := .int, accessFlags := 25, slot := 18, constantValue := 0 }, { name := "JLA", type := (.object "jdk/internal/access/JavaLangAccess"), accessFlags := 26, slot := 19, constantValue := 0 }, { name := "SOFT_MAX_ARRAY_LENGTH", type := .int, accessFlags := 25, slot := 20, constantValue := 0 }]
  methods := #[k20m0]
  instanceTypes := #[]
  staticTypes := #[(.object "jdk/internal/misc/Unsafe"), .boolean, .int, .int, .int, .int, .int, .int, .int, .int, .int, .int, .int, .int, .int, .int, .int, .int, .int, (.object "jdk/internal/access/JavaLangAccess"), .int]
  resolved := Array.replicate 378 none
  statics := none }

def pool21 : Array CpInfo := pool [(1, u "java/lang/Cloneable"), (0, .class_ 1), (0, u "java/lang/Object"), (0, .class_ 3)] 3

/-- java/lang/Cloneable -/
def k21 : Class := { plain "java/lang/Cloneable" (some 0) with
  accessFlags := 1537
  interfaces := #[]
  cf := some (fileOf pool21 2 #[] #[] 1537 4 #[] #[])
  fields := #[]
  methods := #[]
  instanceTypes := #[]
  staticTypes := #[]
  resolved := Array.replicate 8 none
  statics := none }

/-- the primitive byte -/
def k22 : Class := { plain "byte" none with kind := .primitive 'B', accessFlags := 0x411 }
/-- [B -/
def k23 : Class := { plain "[B" (some 0) with kind := .array 22 .byte, interfaces := #[21, 6], accessFlags := 1041 }

/-- the primitive int -/
def k24 : Class := { plain "int" none with kind := .primitive 'I', accessFlags := 0x411 }
/-- [I -/
def k25 : Class := { plain "[I" (some 0) with kind := .array 24 .int, interfaces := #[21, 6], accessFlags := 1041 }

def heap : Heap := #[{ cls := 11, slots := #[.long 0, .int 1, .null, .int 0, .null, .int 0, .int 0], vm := .statics 11 },
  { cls := 15, slots := #[.null, .null, .ref 3, .ref 4, .null], vm := .statics 15 },
  { cls := 16, slots := #[.null, .null, .null], vm := .statics 16 },
  { cls := 15, slots := #[], vm := .none },
  { cls := 25, slots := #[.int 1207963663, .int 1207963663, .int 1207963663, .int 1207963663, .int 1207963663, .int 1207963663, .int 1207963663, .int 1207963663, .int 1207963663, .int 1476411407, .int 1342193679, .int 1476411407, .int 1610629135, .int 1342193679, .int 1207963663, .int 1207963663, .int 1207963663, .int 1207963663, .int 1207963663, .int 1207963663, .int 1207963663, .int 1207963663, .int 1207963663, .int 1207963663, .int 1207963663, .int 1207963663, .int 1207963663, .int 1207963663, .int 1342193679, .int 1342193679, .int 1342193679, .int 1476411407, .int 1610629132, .int 1744830488, .int 1744830488, .int 671088664, .int 671113242, .int 671088664, .int 1744830488, .int 1744830488, .int (-402653163), .int (-402653162), .int 1744830488, .int 536870937, .int 939524120, .int 536870932, .int 939524120, .int 939524120, .int 402667017, .int 402667017, .int 402667017, .int 402667017, .int 402667017, .int 402667017, .int 402667017, .int 402667017, .int 402667017, .int 402667017, .int 939524120, .int 1744830488, .int (-402653159), .int 1744830489, .int (-402653159), .int 1744830488, .int 1744830488, .int 8552417, .int 8552417, .int 8552417, .int 8552417, .int 8552417, .int 8552417, .int 8552417, .int 8552417, .int 8552417, .int 8552417, .int 8552417, .int 8552417, .int 8552417, .int 8552417, .int 8552417, .int 8552417, .int 8552417, .int 8552417, .int 8552417, .int 8552417, .int 8552417, .int 8552417, .int 8552417, .int 8552417, .int 8552417, .int 8552417, .int (-402653163), .int 1744830488, .int (-402653162), .int 1744830491, .int 1744850967, .int 1744830491, .int 8486882, .int 8486882, .int 8486882, .int 8486882, .int 8486882, .int 8486882, .int 8486882, .int 8486882, .int 8486882, .int 8486882, .int 8486882, .int 8486882, .int 8486882, .int 8486882, .int 8486882, .int 8486882, .int 8486882, .int 8486882, .int 8486882, .int 8486882, .int 8486882, .int 8486882, .int 8486882, .int 8486882, .int 8486882, .int 8486882, .int (-402653163), .int 1744830489, .int (-402653162), .int 1744830489, .int 1207963663, .int 1207963663, .int 1207963663, .int 1207963663, .int 1207963663, .int 1207963663, .int 1342181391, .int 1207963663, .int 1207963663, .int 1207963663, .int 1207963663, .int 1207963663, .int 1207963663, .int 1207963663, .int 1207963663, .int 1207963663, .int 1207963663, .int 1207963663, .int 1207963663, .int 1207963663, .int 1207963663, .int 1207963663, .int 1207963663, .int 1207963663, .int 1207963663, .int 1207963663, .int 1207963663, .int 1207963663, .int 1207963663, .int 1207963663, .int 1207963663, .int 1207963663, .int 1207963663, .int 939524108, .int 1744830488, .int 671113242, .int 671113242, .int 671113242, .int 671113242, .int 1744830492, .int 1744830488, .int 1744830491, .int 1744830492, .int 28677, .int (-402653155), .int 1744830489, .int 1207963664, .int 1744830492, .int 1744830491, .int 671088668, .int 671088665, .int 402654731, .int 402654731, .int 1744830491, .int 134049794, .int 1744830488, .int 1744830488, .int 1744830491, .int 402654475, .int 28677, .int (-402653154), .int 1744832523, .int 1744832523, .int 1744832523, .int 1744830488, .int 8548353, .int 8548353, .int 8548353, .int 8548353, .int 8548353, .int 8548353, .int 8548353, .int 8548353, .int 8548353, .int 8548353, .int 8548353, .int 8548353, .int 8548353, .int 8548353, .int 8548353, .int 8548353, .int 8548353, .int 8548353, .int 8548353, .int 8548353, .int 8548353, .int 8548353, .int 8548353, .int 1744830489, .int 8548353, .int 8548353, .int 8548353, .int 8548353, .int 8548353, .int 8548353, .int 8548353, .int 134049794, .int 8482818, .int 8482818, .int 8482818, .int 8482818, .int 8482818, .int 8482818, .int 8482818, .int 8482818, .int 8482818, .int 8482818, .int 8482818, .int 8482818, .int 8482818, .int 8482818, .int 8482818, .int 8482818, .int 8482818, .int 8482818, .int 8482818, .int 8482818, .int 8482818, .int 8482818, .int 8482818, .int 1744830489, .int 8482818, .int 8482818, .int 8482818, .int 8482818, .int 8482818, .int 8482818, .int 8482818, .int 102592514], vm := .none }]
def classes : Array Class := #[k0, k1, k2, k3, k4, k5, k6, k7, k8, k9, k10, k11, k12, k13, k14, k15, k16, k17, k18, k19, k20, k21, k22, k23, k24, k25]
def interned : List (Array UInt16 × Addr) := []
def slotsUsed : Nat := 271
def theMethod : MethodId := ⟨1, 1⟩
def args0 : Array Value := #[.int 3, .int 2, .int 5]
def aboutOver (below : List Frame) : State where
  vm := { classes := classes, interned := interned.toArray }
  heap := heap
  slotsUsed := slotsUsed
  threads := #[{ frames := .invoking theMethod args0 :: below }]
def below0 : List Frame := [.native { method := ⟨0, 0⟩, args := #[] }]
def about1 : State := aboutOver below0
def p0 : Program := .bare "" "" ""
def e0 : Env := launch0.env 0 0 0
theorem w_frames : about1.frames = Frame.invoking theMethod args0 :: below0 := rfl
set_option maxRecDepth 65536 in
theorem w_args : argsFit about1.vm theMethod args0 = true := by decide +kernel
set_option maxRecDepth 65536 in
theorem w_heap : heapFits about1 = true := by decide +kernel
set_option maxRecDepth 65536 in
theorem w_runnable : about1.curStatus? = some .runnable := by decide +kernel
set_option maxRecDepth 65536 in
theorem w_alone : about1.alone = true := by decide +kernel
set_option maxRecDepth 65536 in
theorem w_named : about1.methodNamed? x = some theMethod := by decide +kernel
set_option maxRecDepth 65536 in
theorem w_hears : about1.hears theMethod below0 = true := by decide +kernel
set_option maxRecDepth 65536 in
theorem w_ripe : about1.ripe theMethod args0 below0 = true := by decide +kernel
theorem w_running : about1.status = .running := rfl
set_option maxRecDepth 65536 in
theorem w_room : about1.hasRoom e0.platform room_1 = true :=
  launch0.hasRoom_least _ room_1 (by decide +kernel) (by decide +kernel) (by decide +kernel) (by decide +kernel) (by decide +kernel) (by decide +kernel)
theorem allAtoms_all (ts : List Jvm.Cond) (a : Array Jvm.Value) (st : Jvm.State) : (allAtoms ts).before a st = ts.all (fun c => c.before a st) := by
  induction ts with
  | nil => rfl
  | cons c t ih =>
    show (Jvm.Cond.and c (allAtoms t)).before a st = _
    rw [Jvm.Cond.before_and, ih, List.all_cons]
def words1 : List Jvm.Cond := Jvm.Cond.code x code maxLocals ret :: tables_1
/-- a 'code' word, met by the world's own term for the bytes: nothing is compared byte by byte -/
theorem code_word {y : MethodName} {bytes : ByteArray} {mx : Nat} {rt : Option FieldType} {a : Array Value} {s : State} {m : MethodId} {meth : Method} {c : Code} (h1 : s.methodNamed? y = some m) (h2 : s.vm.method? m = some meth) (h3 : meth.code = some c) (h4 : c.code = bytes)
    (h5 : (c.maxLocals == mx && c.exceptionTable.isEmpty && decide (c.maxStack ≤ mostOperands) && decide (meth.sig.returnType = rt) && !meth.locks && decide (parseMethodDescriptor y.desc = some meth.sig)) = true) : (Jvm.Cond.code y bytes mx rt).before a s = true := by
  simp only [Bool.and_eq_true, beq_iff_eq, Bool.not_eq_true', decide_eq_true_eq] at h5
  obtain ⟨⟨⟨⟨⟨g1, g2⟩, g3⟩, g4⟩, g5⟩, g6⟩ := h5
  simp [Cond.before, Cond.holds, Cond.value, h1, h2, h3, h4, g1, g2, g3, g4, g5, g6]
def isCode : Jvm.Cond → Bool
  | .code _ _ _ _ => true
  | _ => false
theorem all_split {L : List Jvm.Cond} {P : Jvm.Cond → Bool} (h1 : L.all (fun c => isCode c || P c) = true) (h2 : ∀ c ∈ L.filter isCode, P c = true) : L.all P = true := by
  refine List.all_eq_true.mpr fun c hc => ?_
  have h := List.all_eq_true.mp h1 c hc
  rcases Bool.eq_false_or_eq_true (isCode c) with hi | hi
  · exact h2 c (List.mem_filter.mpr ⟨hc, hi⟩)
  · simpa [hi] using h
set_option maxRecDepth 65536 in
theorem w_c0 : (Jvm.Cond.code x code maxLocals ret).before args0 about1 = true := code_word (m := ⟨1, 1⟩) (meth := k1m1) (c := k1c1) (by decide +kernel) rfl rfl rfl (by decide +kernel)
set_option maxRecDepth 65536 in
theorem w_c1 : (Jvm.Cond.code ({ cls := "java/lang/Math", name := "min", desc := "(II)I" } : Jvm.MethodName) jdk_29_method_69_code (2 : Nat) (Option.some Jvm.ClassFile.FieldType.int)).before args0 about1 = true := code_word (m := ⟨2, 2⟩) (meth := k2m2) (c := k2c2) (by decide +kernel) rfl rfl rfl (by decide +kernel)
set_option maxRecDepth 65536 in
theorem w_c2 : (Jvm.Cond.code ({ cls := "com/example/leapwise/leapwise/model/ContinuousPlace", name := "<init>", desc := "(Ljava/lang/String;DD)V" } : Jvm.MethodName) prog_18_method_1_code (6 : Nat) (Option.none : Option Jvm.ClassFile.FieldType)).before args0 about1 = true := code_word (m := ⟨5, 0⟩) (meth := k5m0) (c := k5c0) (by decide +kernel) rfl rfl rfl (by decide +kernel)
set_option maxRecDepth 65536 in
theorem w_c3 : (Jvm.Cond.code ({ cls := "java/lang/Record", name := "<init>", desc := "()V" } : Jvm.MethodName) jdk_30_method_1_code (1 : Nat) (Option.none : Option Jvm.ClassFile.FieldType)).before args0 about1 = true := code_word (m := ⟨3, 0⟩) (meth := k3m0) (c := k3c0) (by decide +kernel) rfl rfl rfl (by decide +kernel)
set_option maxRecDepth 65536 in
theorem w_c4 : (Jvm.Cond.code ({ cls := "java/lang/Object", name := "<init>", desc := "()V" } : Jvm.MethodName) object_method_1_code (1 : Nat) (Option.none : Option Jvm.ClassFile.FieldType)).before args0 about1 = true := code_word (m := ⟨0, 0⟩) (meth := k0m0) (c := k0c0) (by decide +kernel) rfl rfl rfl (by decide +kernel)
set_option maxRecDepth 65536 in
theorem w_c5 : (Jvm.Cond.code ({ cls := "com/example/leapwise/leapwise/model/Require", name := "id", desc := "(Ljava/lang/String;)Ljava/lang/String;" } : Jvm.MethodName) prog_25_method_2_code (2 : Nat) (Option.some (Jvm.ClassFile.FieldType.object "java/lang/String"))).before args0 about1 = true := code_word (m := ⟨12, 1⟩) (meth := k12m1) (c := k12c1) (by decide +kernel) rfl rfl rfl (by decide +kernel)
set_option maxRecDepth 65536 in
theorem w_c6 : (Jvm.Cond.code ({ cls := "java/lang/String", name := "isBlank", desc := "()Z" } : Jvm.MethodName) jdk_42_method_117_code (1 : Nat) (Option.some Jvm.ClassFile.FieldType.boolean)).before args0 about1 = true := code_word (m := ⟨11, 3⟩) (meth := k11m3) (c := k11c3) (by decide +kernel) rfl rfl rfl (by decide +kernel)
set_option maxRecDepth 65536 in
theorem w_c7 : (Jvm.Cond.code ({ cls := "java/lang/String", name := "indexOfNonWhitespace", desc := "()I" } : Jvm.MethodName) jdk_42_method_120_code (1 : Nat) (Option.some Jvm.ClassFile.FieldType.int)).before args0 about1 = true := code_word (m := ⟨11, 4⟩) (meth := k11m4) (c := k11c4) (by decide +kernel) rfl rfl rfl (by decide +kernel)
set_option maxRecDepth 65536 in
theorem w_c8 : (Jvm.Cond.code ({ cls := "java/lang/String", name := "isLatin1", desc := "()Z" } : Jvm.MethodName) jdk_42_method_154_code (1 : Nat) (Option.some Jvm.ClassFile.FieldType.boolean)).before args0 about1 = true := code_word (m := ⟨11, 6⟩) (meth := k11m6) (c := k11c6) (by decide +kernel) rfl rfl rfl (by decide +kernel)
set_option maxRecDepth 65536 in
theorem w_c9 : (Jvm.Cond.code ({ cls := "java/lang/StringLatin1", name := "indexOfNonWhitespace", desc := "([B)I" } : Jvm.MethodName) jdk_43_method_37_code (4 : Nat) (Option.some Jvm.ClassFile.FieldType.int)).before args0 about1 = true := code_word (m := ⟨13, 2⟩) (meth := k13m2) (c := k13c2) (by decide +kernel) rfl rfl rfl (by decide +kernel)
set_option maxRecDepth 65536 in
theorem w_c10 : (Jvm.Cond.code ({ cls := "java/lang/StringLatin1", name := "getChar", desc := "([BI)C" } : Jvm.MethodName) jdk_43_method_44_code (2 : Nat) (Option.some Jvm.ClassFile.FieldType.char)).before args0 about1 = true := code_word (m := ⟨13, 3⟩) (meth := k13m3) (c := k13c3) (by decide +kernel) rfl rfl rfl (by decide +kernel)
set_option maxRecDepth 65536 in
theorem w_c11 : (Jvm.Cond.code ({ cls := "java/lang/CharacterDataLatin1", name := "isWhitespace", desc := "(I)Z" } : Jvm.MethodName) jdk_116_method_26_code (3 : Nat) (Option.some Jvm.ClassFile.FieldType.boolean)).before args0 about1 = true := code_word (m := ⟨15, 1⟩) (meth := k15m1) (c := k15c1) (by decide +kernel) rfl rfl rfl (by decide +kernel)
set_option maxRecDepth 65536 in
theorem w_c12 : (Jvm.Cond.code ({ cls := "java/lang/CharacterDataLatin1", name := "getProperties", desc := "(I)I" } : Jvm.MethodName) jdk_116_method_1_code (4 : Nat) (Option.some Jvm.ClassFile.FieldType.int)).before args0 about1 = true := code_word (m := ⟨15, 0⟩) (meth := k15m0) (c := k15c0) (by decide +kernel) rfl rfl rfl (by decide +kernel)
set_option maxRecDepth 65536 in
theorem w_c13 : (Jvm.Cond.code ({ cls := "java/lang/String", name := "length", desc := "()I" } : Jvm.MethodName) jdk_42_method_54_code (1 : Nat) (Option.some Jvm.ClassFile.FieldType.int)).before args0 about1 = true := code_word (m := ⟨11, 1⟩) (meth := k11m1) (c := k11c1) (by decide +kernel) rfl rfl rfl (by decide +kernel)
set_option maxRecDepth 65536 in
theorem w_c14 : (Jvm.Cond.code ({ cls := "java/lang/String", name := "coder", desc := "()B" } : Jvm.MethodName) jdk_42_method_152_code (1 : Nat) (Option.some Jvm.ClassFile.FieldType.byte)).before args0 about1 = true := code_word (m := ⟨11, 5⟩) (meth := k11m5) (c := k11c5) (by decide +kernel) rfl rfl rfl (by decide +kernel)
set_option maxRecDepth 65536 in
theorem w_c15 : (Jvm.Cond.code ({ cls := "java/lang/String", name := "charAt", desc := "(I)C" } : Jvm.MethodName) jdk_42_method_56_code (2 : Nat) (Option.some Jvm.ClassFile.FieldType.char)).before args0 about1 = true := code_word (m := ⟨11, 2⟩) (meth := k11m2) (c := k11c2) (by decide +kernel) rfl rfl rfl (by decide +kernel)
set_option maxRecDepth 65536 in
theorem w_c16 : (Jvm.Cond.code ({ cls := "java/lang/StringLatin1", name := "charAt", desc := "([BI)C" } : Jvm.MethodName) jdk_43_method_2_code (2 : Nat) (Option.some Jvm.ClassFile.FieldType.char)).before args0 about1 = true := code_word (m := ⟨13, 1⟩) (meth := k13m1) (c := k13c1) (by decide +kernel) rfl rfl rfl (by decide +kernel)
set_option maxRecDepth 65536 in
theorem w_c17 : (Jvm.Cond.code ({ cls := "java/lang/String", name := "checkIndex", desc := "(II)V" } : Jvm.MethodName) jdk_42_method_155_code (2 : Nat) (Option.none : Option Jvm.ClassFile.FieldType)).before args0 about1 = true := code_word (m := ⟨11, 7⟩) (meth := k11m7) (c := k11c7) (by decide +kernel) rfl rfl rfl (by decide +kernel)
set_option maxRecDepth 65536 in
theorem w_c18 : (Jvm.Cond.code ({ cls := "jdk/internal/util/Preconditions", name := "checkIndex", desc := "(IILjava/util/function/BiFunction;)I" } : Jvm.MethodName) jdk_41_method_11_code (3 : Nat) (Option.some Jvm.ClassFile.FieldType.int)).before args0 about1 = true := code_word (m := ⟨16, 1⟩) (meth := k16m1) (c := k16c1) (by decide +kernel) rfl rfl rfl (by decide +kernel)
set_option maxRecDepth 65536 in
theorem w_c19 : (Jvm.Cond.code ({ cls := "java/lang/Character", name := "isISOControl", desc := "(C)Z" } : Jvm.MethodName) jdk_89_method_88_code (1 : Nat) (Option.some Jvm.ClassFile.FieldType.boolean)).before args0 about1 = true := code_word (m := ⟨17, 0⟩) (meth := k17m0) (c := k17c0) (by decide +kernel) rfl rfl rfl (by decide +kernel)
set_option maxRecDepth 65536 in
theorem w_c20 : (Jvm.Cond.code ({ cls := "java/lang/Character", name := "isISOControl", desc := "(I)Z" } : Jvm.MethodName) jdk_89_method_89_code (1 : Nat) (Option.some Jvm.ClassFile.FieldType.boolean)).before args0 about1 = true := code_word (m := ⟨17, 1⟩) (meth := k17m1) (c := k17c1) (by decide +kernel) rfl rfl rfl (by decide +kernel)
set_option maxRecDepth 65536 in
theorem w_c21 : (Jvm.Cond.code ({ cls := "com/example/leapwise/leapwise/model/Require", name := "atLeastZero", desc := "(Ljava/lang/String;D)D" } : Jvm.MethodName) prog_25_method_4_code (3 : Nat) (Option.some Jvm.ClassFile.FieldType.double)).before args0 about1 = true := code_word (m := ⟨12, 3⟩) (meth := k12m3) (c := k12c3) (by decide +kernel) rfl rfl rfl (by decide +kernel)
set_option maxRecDepth 65536 in
theorem w_c22 : (Jvm.Cond.code ({ cls := "com/example/leapwise/leapwise/model/Require", name := "finite", desc := "(Ljava/lang/String;D)D" } : Jvm.MethodName) prog_25_method_3_code (3 : Nat) (Option.some Jvm.ClassFile.FieldType.double)).before args0 about1 = true := code_word (m := ⟨12, 2⟩) (meth := k12m2) (c := k12c2) (by decide +kernel) rfl rfl rfl (by decide +kernel)
set_option maxRecDepth 65536 in
theorem w_c23 : (Jvm.Cond.code ({ cls := "java/lang/Double", name := "isFinite", desc := "(D)Z" } : Jvm.MethodName) jdk_117_method_8_code (2 : Nat) (Option.some Jvm.ClassFile.FieldType.boolean)).before args0 about1 = true := code_word (m := ⟨19, 0⟩) (meth := k19m0) (c := k19c0) (by decide +kernel) rfl rfl rfl (by decide +kernel)
set_option maxRecDepth 65536 in
theorem w_c24 : (Jvm.Cond.code ({ cls := "java/lang/Math", name := "abs", desc := "(D)D" } : Jvm.MethodName) jdk_29_method_64_code (2 : Nat) (Option.some Jvm.ClassFile.FieldType.double)).before args0 about1 = true := code_word (m := ⟨2, 1⟩) (meth := k2m1) (c := k2c1) (by decide +kernel) rfl rfl rfl (by decide +kernel)
set_option maxRecDepth 65536 in
theorem w_c25 : (Jvm.Cond.code ({ cls := "com/example/leapwise/leapwise/model/ContinuousPlace", name := "bounded", desc := "()Z" } : Jvm.MethodName) prog_18_method_2_code (1 : Nat) (Option.some Jvm.ClassFile.FieldType.boolean)).before args0 about1 = true := code_word (m := ⟨5, 1⟩) (meth := k5m1) (c := k5c1) (by decide +kernel) rfl rfl rfl (by decide +kernel)
def codes1 : List Jvm.Cond := [Jvm.Cond.code x code maxLocals ret, Jvm.Cond.code ({ cls := "java/lang/Math", name := "min", desc := "(II)I" } : Jvm.MethodName) jdk_29_method_69_code (2 : Nat) (Option.some Jvm.ClassFile.FieldType.int), Jvm.Cond.code ({ cls := "com/example/leapwise/leapwise/model/ContinuousPlace", name := "<init>", desc := "(Ljava/lang/String;DD)V" } : Jvm.MethodName) prog_18_method_1_code (6 : Nat) (Option.none : Option Jvm.ClassFile.FieldType), Jvm.Cond.code ({ cls := "java/lang/Record", name := "<init>", desc := "()V" } : Jvm.MethodName) jdk_30_method_1_code (1 : Nat) (Option.none : Option Jvm.ClassFile.FieldType), Jvm.Cond.code ({ cls := "java/lang/Object", name := "<init>", desc := "()V" } : Jvm.MethodName) object_method_1_code (1 : Nat) (Option.none : Option Jvm.ClassFile.FieldType), Jvm.Cond.code ({ cls := "com/example/leapwise/leapwise/model/Require", name := "id", desc := "(Ljava/lang/String;)Ljava/lang/String;" } : Jvm.MethodName) prog_25_method_2_code (2 : Nat) (Option.some (Jvm.ClassFile.FieldType.object "java/lang/String")), Jvm.Cond.code ({ cls := "java/lang/String", name := "isBlank", desc := "()Z" } : Jvm.MethodName) jdk_42_method_117_code (1 : Nat) (Option.some Jvm.ClassFile.FieldType.boolean), Jvm.Cond.code ({ cls := "java/lang/String", name := "indexOfNonWhitespace", desc := "()I" } : Jvm.MethodName) jdk_42_method_120_code (1 : Nat) (Option.some Jvm.ClassFile.FieldType.int), Jvm.Cond.code ({ cls := "java/lang/String", name := "isLatin1", desc := "()Z" } : Jvm.MethodName) jdk_42_method_154_code (1 : Nat) (Option.some Jvm.ClassFile.FieldType.boolean), Jvm.Cond.code ({ cls := "java/lang/StringLatin1", name := "indexOfNonWhitespace", desc := "([B)I" } : Jvm.MethodName) jdk_43_method_37_code (4 : Nat) (Option.some Jvm.ClassFile.FieldType.int), Jvm.Cond.code ({ cls := "java/lang/StringLatin1", name := "getChar", desc := "([BI)C" } : Jvm.MethodName) jdk_43_method_44_code (2 : Nat) (Option.some Jvm.ClassFile.FieldType.char), Jvm.Cond.code ({ cls := "java/lang/CharacterDataLatin1", name := "isWhitespace", desc := "(I)Z" } : Jvm.MethodName) jdk_116_method_26_code (3 : Nat) (Option.some Jvm.ClassFile.FieldType.boolean), Jvm.Cond.code ({ cls := "java/lang/CharacterDataLatin1", name := "getProperties", desc := "(I)I" } : Jvm.MethodName) jdk_116_method_1_code (4 : Nat) (Option.some Jvm.ClassFile.FieldType.int), Jvm.Cond.code ({ cls := "java/lang/String", name := "length", desc := "()I" } : Jvm.MethodName) jdk_42_method_54_code (1 : Nat) (Option.some Jvm.ClassFile.FieldType.int), Jvm.Cond.code ({ cls := "java/lang/String", name := "coder", desc := "()B" } : Jvm.MethodName) jdk_42_method_152_code (1 : Nat) (Option.some Jvm.ClassFile.FieldType.byte), Jvm.Cond.code ({ cls := "java/lang/String", name := "charAt", desc := "(I)C" } : Jvm.MethodName) jdk_42_method_56_code (2 : Nat) (Option.some Jvm.ClassFile.FieldType.char), Jvm.Cond.code ({ cls := "java/lang/StringLatin1", name := "charAt", desc := "([BI)C" } : Jvm.MethodName) jdk_43_method_2_code (2 : Nat) (Option.some Jvm.ClassFile.FieldType.char), Jvm.Cond.code ({ cls := "java/lang/String", name := "checkIndex", desc := "(II)V" } : Jvm.MethodName) jdk_42_method_155_code (2 : Nat) (Option.none : Option Jvm.ClassFile.FieldType), Jvm.Cond.code ({ cls := "jdk/internal/util/Preconditions", name := "checkIndex", desc := "(IILjava/util/function/BiFunction;)I" } : Jvm.MethodName) jdk_41_method_11_code (3 : Nat) (Option.some Jvm.ClassFile.FieldType.int), Jvm.Cond.code ({ cls := "java/lang/Character", name := "isISOControl", desc := "(C)Z" } : Jvm.MethodName) jdk_89_method_88_code (1 : Nat) (Option.some Jvm.ClassFile.FieldType.boolean), Jvm.Cond.code ({ cls := "java/lang/Character", name := "isISOControl", desc := "(I)Z" } : Jvm.MethodName) jdk_89_method_89_code (1 : Nat) (Option.some Jvm.ClassFile.FieldType.boolean), Jvm.Cond.code ({ cls := "com/example/leapwise/leapwise/model/Require", name := "atLeastZero", desc := "(Ljava/lang/String;D)D" } : Jvm.MethodName) prog_25_method_4_code (3 : Nat) (Option.some Jvm.ClassFile.FieldType.double), Jvm.Cond.code ({ cls := "com/example/leapwise/leapwise/model/Require", name := "finite", desc := "(Ljava/lang/String;D)D" } : Jvm.MethodName) prog_25_method_3_code (3 : Nat) (Option.some Jvm.ClassFile.FieldType.double), Jvm.Cond.code ({ cls := "java/lang/Double", name := "isFinite", desc := "(D)Z" } : Jvm.MethodName) jdk_117_method_8_code (2 : Nat) (Option.some Jvm.ClassFile.FieldType.boolean), Jvm.Cond.code ({ cls := "java/lang/Math", name := "abs", desc := "(D)D" } : Jvm.MethodName) jdk_29_method_64_code (2 : Nat) (Option.some Jvm.ClassFile.FieldType.double), Jvm.Cond.code ({ cls := "com/example/leapwise/leapwise/model/ContinuousPlace", name := "bounded", desc := "()Z" } : Jvm.MethodName) prog_18_method_2_code (1 : Nat) (Option.some Jvm.ClassFile.FieldType.boolean)]
set_option maxRecDepth 65536 in
theorem codes_eq : words1.filter isCode = codes1 := rfl
theorem w_codes : ∀ c ∈ words1.filter isCode, c.before args0 about1 = true := by
  rw [codes_eq]
  intro c hc
  simp only [codes1, List.mem_cons, List.not_mem_nil, or_false] at hc
  rcases hc with rfl | rfl | rfl | rfl | rfl | rfl | rfl | rfl | rfl | rfl | rfl | rfl | rfl | rfl | rfl | rfl | rfl | rfl | rfl | rfl | rfl | rfl | rfl | rfl | rfl | rfl
  · exact w_c0
  · exact w_c1
  · exact w_c2
  · exact w_c3
  · exact w_c4
  · exact w_c5
  · exact w_c6
  · exact w_c7
  · exact w_c8
  · exact w_c9
  · exact w_c10
  · exact w_c11
  · exact w_c12
  · exact w_c13
  · exact w_c14
  · exact w_c15
  · exact w_c16
  · exact w_c17
  · exact w_c18
  · exact w_c19
  · exact w_c20
  · exact w_c21
  · exact w_c22
  · exact w_c23
  · exact w_c24
  · exact w_c25
set_option maxRecDepth 65536 in
theorem w_t1 : (words1.take 24).all (fun c => isCode c || c.before args0 about1) = true := by decide +kernel
set_option maxRecDepth 65536 in
theorem w_t2 : ((words1.drop 24).take 24).all (fun c => isCode c || c.before args0 about1) = true := by decide +kernel
set_option maxRecDepth 65536 in
theorem w_t3 : (((words1.drop 24).drop 24).take 24).all (fun c => isCode c || c.before args0 about1) = true := by decide +kernel
set_option maxRecDepth 65536 in
theorem w_t4 : ((((words1.drop 24).drop 24).drop 24).take 24).all (fun c => isCode c || c.before args0 about1) = true := by decide +kernel
set_option maxRecDepth 65536 in
theorem w_t5 : (((((words1.drop 24).drop 24).drop 24).drop 24).take 24).all (fun c => isCode c || c.before args0 about1) = true := by decide +kernel
set_option maxRecDepth 65536 in
theorem w_t6 : (((((words1.drop 24).drop 24).drop 24).drop 24).drop 24).all (fun c => isCode c || c.before args0 about1) = true := by decide +kernel
theorem w_tables : (allAtoms (Jvm.Cond.code x code maxLocals ret :: tables_1)).before args0 about1 = true := by
  rw [allAtoms_all]
  show words1.all (fun c => c.before args0 about1) = true
  refine all_split ?_ w_codes
  rw [← List.take_append_drop 24 words1, List.all_append, w_t1, ← List.take_append_drop 24 (words1.drop 24), List.all_append, w_t2, ← List.take_append_drop 24 ((words1.drop 24).drop 24), List.all_append, w_t3, ← List.take_append_drop 24 (((words1.drop 24).drop 24).drop 24), List.all_append, w_t4, ← List.take_append_drop 24 ((((words1.drop 24).drop 24).drop 24).drop 24), List.all_append, w_t5, w_t6]
  rfl
set_option maxRecDepth 65536 in
theorem w_rest : rest_1_c.before args0 about1 = true := by decide +kernel
set_option maxRecDepth 65536 in
theorem w_case : (Jvm.Cond.and given_1 narrow_1).before args0 about1 = true := by decide +kernel
set_option maxRecDepth 65536 in
theorem w_consts : constsHeld consts_1 about1 := Jvm.Lit.constsHeldB_iff.mp (by decide +kernel)
theorem w_applies : (headSpec (Jvm.Cond.code x code maxLocals ret :: tables_1) room_1).applies x e0.platform about1 = true :=
  (Spec.applies_iff w_frames).mpr ⟨w_running, w_runnable, w_alone, w_named, w_hears, w_ripe, w_room, w_tables⟩
theorem atStart : AtStart classFile x code maxLocals ret World_1 tables_1 room_1 Calls_1 rest_1 Pre_1 launch0 p0 e0 about1 theMethod args0 below0 :=
  ⟨lists_1, trivial, launch0.admits_env _ _ _, launch0.least_env, fairChoices_fair.cas, fairChoices_fair.clock, w_frames, w_args, w_heap, w_applies, ⟨w_consts, trivial⟩, w_rest, w_case⟩
end start1
theorem witness_1 : WitnessClaimed_1 := ⟨start1.p0, start1.e0, start1.about1, start1.theMethod, start1.args0, start1.below0, start1.atStart⟩
end Jvm.Pilot.@@N@@
