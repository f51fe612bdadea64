import JvmDerived
import JvmDerived.Pilot.@@N@@Statement
import JvmDerived.Pilot.@@N@@Code
set_option linter.unusedVariables false
set_option linter.unusedSimpArgs false
namespace Jvm.Pilot.@@N@@
open Jvm Jvm.ClassFile Sem Op Lib Jvm.Free Jvm.Stand Jvm.LawKit Jvm.RoadKit Bundle Jvm.Pilot.@@N@@.Jvm.D
/-! OWN: the walk as a tree. Go: from here the run comes to a return that Q allows. -/
def Go (p : Program) (e : Env) (below : List Frame) (s : State) (C S : Nat) (Q : Option Value → Heap → List Loc → Prop) (T : State) (g : JFrame) : Prop :=
  ∃ s₂ o, Steps p.tables e below (T.setTop g) s₂ ∧ s₂.status = .running ∧ Ended s₂ below o ∧ ∃ v L, o = .returned v ∧ Q v s₂.heap L ∧ FrameEnd s o s₂ L C S
section OwnGo
variable {p : Program} {l : Launch} {e : Env} {R : Room} {s : State} {m : MethodId} {args : Array Value} {below : List Frame} {meth : Method} {c : Code} {T T' : State} {locs : List Loc} {cells slots : Nat} {Z : State} {a0 : Array Value} {h : Heap} {C S : Nat} {Q : Option Value → Heap → List Loc → Prop} {g g' : JFrame}
theorem Go.step (st : ∀ target, Steps p.tables e below (T'.setTop g') target → Steps p.tables e below (T.setTop g) target) (h : Go p e below s C S Q T' g') : Go p e below s C S Q T g := by
  obtain ⟨s₂, o, h1, r⟩ := h; exact ⟨s₂, o, st _ h1, r⟩
theorem Go.cast (q : g = g') (h : Go p e below s C S Q T g') : Go p e below s C S Q T g := q ▸ h
theorem Go.ret (X : Stand p l e R s m args below meth c T locs cells slots) (hlk : meth.locks = false) {v : Option Value} (hv : meth.sig.returnType = none → v = none)
    (st : ∀ fs, (∀ (f : JFrame) (acts : List Action), f.method = m → f.locked = none → f.entered = [] → (doReturn e (T.setTop f) acts v).1 = T.setFrames fs) → Steps p.tables e below (T.setTop g) (T.setFrames fs))
    (hq : Q v T.heap locs) (hc : cells ≤ C) (hs : slots ≤ S) : Go p e below s C S Q T g := by
  obtain ⟨fs, hr, hrun, hended, hW, hsame⟩ := X.leave (v := v) hv hlk
  exact ⟨_, _, st fs hr, hrun, hended, v, locs, rfl, hq, ⟨_, rfl⟩, hW, hsame.mono hc hs⟩
theorem Go.retV (X : Stand p l e R s m args below meth c T locs cells slots) (hx : p.tables.exec = Jvm.exec) (hlk : meth.locks = false) (hret : meth.sig.returnType = none) {pc : Nat} {Ls : Array Slot} (hd : decode c.code pc = .ok (.return_, 1))
    (hc : cells ≤ C) (hs : slots ≤ S) (hq : Q none T.heap locs) : Go p e below s C S Q T (mkF m pc Ls []) :=
  Go.ret X hlk (fun _ => rfl) (fun fs hr => X.returnOut hx hret hd hr) hq hc hs
theorem Go.retW (X : Stand p l e R s m args below meth c T locs cells slots) (hx : p.tables.exec = Jvm.exec) (hlk : meth.locks = false) {t : FieldType} (hret : meth.sig.returnType = some t) {pc : Nat} {Ls : Array Slot} {w : Value} {i : Instr} {rest : List Value} (hn : narrow t w = w)
    (hi : (i = .ireturn ∧ (t = .int ∨ t = .boolean ∨ t = .byte ∨ t = .char ∨ t = .short) ∧ ∃ z, w = .int z) ∨ (i = .lreturn ∧ t = .long ∧ ∃ z, w = .long z) ∨ (i = .dreturn ∧ t = .double ∧ ∃ z, w = .double z) ∨ (i = .freturn ∧ t = .float ∧ ∃ z, w = .float z) ∨ (i = .areturn ∧ t.isReference = true ∧ w.isRef = true))
    (hd : decode c.code pc = .ok (i, 1)) (hc : cells ≤ C) (hs : slots ≤ S) (hq : Q (some w) T.heap locs) : Go p e below s C S Q T (mkF m pc Ls (w :: rest)) :=
  Go.ret X hlk (fun h => by rw [hret] at h; cases h) (fun fs hr => retOut X hx hret hn hi hd hr) hq hc hs
theorem Go.retI (X : Stand p l e R s m args below meth c T locs cells slots) (hx : p.tables.exec = Jvm.exec) (hlk : meth.locks = false) (hret : meth.sig.returnType = some .int) {pc : Nat} {Ls : Array Slot} {z : Int32} {rest : List Value}
    (hd : decode c.code pc = .ok (.ireturn, 1)) (hc : cells ≤ C) (hs : slots ≤ S) (hq : Q (some (.int z)) T.heap locs) : Go p e below s C S Q T (mkF m pc Ls (.int z :: rest)) :=
  Go.retW X hx hlk hret rfl (Or.inl ⟨rfl, Or.inl rfl, z, rfl⟩) hd hc hs hq
theorem Go.retZ (X : Stand p l e R s m args below meth c T locs cells slots) (hx : p.tables.exec = Jvm.exec) (hlk : meth.locks = false) (hret : meth.sig.returnType = some .boolean) {pc : Nat} {Ls : Array Slot} {z : Int32} {rest : List Value} (hz : z = 0 ∨ z = 1)
    (hd : decode c.code pc = .ok (.ireturn, 1)) (hc : cells ≤ C) (hs : slots ≤ S) (hq : Q (some (.int z)) T.heap locs) : Go p e below s C S Q T (mkF m pc Ls (.int z :: rest)) :=
  Go.retW X hx hlk hret (by rcases hz with rfl | rfl <;> rfl) (Or.inl ⟨rfl, Or.inr (Or.inl rfl), z, rfl⟩) hd hc hs hq
theorem Go.retJ (X : Stand p l e R s m args below meth c T locs cells slots) (hx : p.tables.exec = Jvm.exec) (hlk : meth.locks = false) (hret : meth.sig.returnType = some .long) {pc : Nat} {Ls : Array Slot} {z : Int64} {rest : List Value}
    (hd : decode c.code pc = .ok (.lreturn, 1)) (hc : cells ≤ C) (hs : slots ≤ S) (hq : Q (some (.long z)) T.heap locs) : Go p e below s C S Q T (mkF m pc Ls (.long z :: rest)) :=
  Go.retW X hx hlk hret rfl (Or.inr (Or.inl ⟨rfl, rfl, z, rfl⟩)) hd hc hs hq
theorem Go.retD (X : Stand p l e R s m args below meth c T locs cells slots) (hx : p.tables.exec = Jvm.exec) (hlk : meth.locks = false) (hret : meth.sig.returnType = some .double) {pc : Nat} {Ls : Array Slot} {z : UInt64} {rest : List Value}
    (hd : decode c.code pc = .ok (.dreturn, 1)) (hc : cells ≤ C) (hs : slots ≤ S) (hq : Q (some (.double z)) T.heap locs) : Go p e below s C S Q T (mkF m pc Ls (.double z :: rest)) :=
  Go.retW X hx hlk hret rfl (Or.inr (Or.inr (Or.inl ⟨rfl, rfl, z, rfl⟩))) hd hc hs hq
theorem Go.retR (X : Stand p l e R s m args below meth c T locs cells slots) (hx : p.tables.exec = Jvm.exec) (hlk : meth.locks = false) {t : FieldType} (hret : meth.sig.returnType = some t) (ht : t.isReference = true) {pc : Nat} {Ls : Array Slot} {w : Value} {rest : List Value} (hn : narrow t w = w) (hw : w.isRef = true)
    (hd : decode c.code pc = .ok (.areturn, 1)) (hc : cells ≤ C) (hs : slots ≤ S) (hq : Q (some w) T.heap locs) : Go p e below s C S Q T (mkF m pc Ls (w :: rest)) :=
  Go.retW X hx hlk hret hn (Or.inr (Or.inr (Or.inr (Or.inr ⟨rfl, ht, hw⟩)))) hd hc hs hq
/-- a method's contract out of its walk -/
theorem con_of {y : MethodName} {bytes : ByteArray} {ml : Nat} {rt : Option FieldType} {ws : List Jvm.Cond} {rm : Room} {as' : Array Value} {h0 : Heap} (hpl : plainFor y = true)
    (body : ∀ (p : Program) (e : Env) (s : State) (m : MethodId) (below : List Frame) (meth : Method) (c : Code) (T : State), Stand p l e rm s m as' below meth c T [] 0 0 → p.tables.exec = Jvm.exec → Z.Warmed39 s.vm → c.code = bytes → c.maxLocals = ml → s.vm.findClass y.cls = some m.cls → meth.name = y.name →
      meth.sig.returnType = rt → meth.locks = false → T.heap = h0 → Go p e below s rm.cells rm.slots Q T (entryFrame m as' ml)) :
    MetFree l y (head1 (Jvm.Cond.code y bytes ml rt :: ws) rm) (fun a U => a = as' ∧ Z.Warmed39 U.vm ∧ U.heap = h0) (fun _ _ _ _ _ => True) (fun _ U o U' => ∃ v L, o = .returned v ∧ Q v U'.heap L ∧ FrameEnd U o U' L rm.cells rm.slots) := by
  refine MetFree.of_bodySF hpl hisR ?_
  intro p e s m args below meth c s₁ Bd hml0 hP hK
  obtain ⟨rfl, hZ, hh⟩ := hP
  exact body p e s m below meth c s₁ (Stand.of_body Bd) Bd.exec hZ Bd.bytes hml0 (findClass_of_methodNamed Bd.named) (name_of_methodNamed Bd.named Bd.method).1 Bd.returns (BodyLoose.notSynchronized Bd) (by rw [← hh, Bd.state]; rfl)
abbrev Con (l : Launch) (Z : State) (y : MethodName) (bytes : ByteArray) (ml : Nat) (rt : Option FieldType) (rm : Room) (as' : Array Value) (h0 : Heap) (Q : Option Value → Heap → List Loc → Prop) : Prop :=
  MetFree l y (head1 [Jvm.Cond.code y bytes ml rt] rm) (fun a U => a = as' ∧ Z.Warmed39 U.vm ∧ U.heap = h0) (fun _ _ _ _ _ => True) (fun _ U o U' => ∃ v L, o = .returned v ∧ Q v U'.heap L ∧ FrameEnd U o U' L rm.cells rm.slots)
theorem Go.callS (X : Stand p l e R s m args below meth c T locs cells slots) (hx : p.tables.exec = Jvm.exec) (hZ : Z.Warmed39 s.vm) {own : String} {index : Nat} {y : MethodName} {bytes : ByteArray} {maxL : Nat} {ret : Option FieldType} {rm : Room} {as' : Array Value} {Qc : Option Value → Heap → List Loc → Prop} {W pc : Nat} {Ls : Array Slot} {st : List Value} {argsL rest : List Value} (hml : Ls.size = c.maxLocals)
    (hown : s.vm.findClass own = some m.cls) (w1 : (Jvm.Cond.methodLink own index y).before a0 Z = true) (w2 : (Jvm.Cond.static y).before a0 Z = true) (w3 : (Jvm.Cond.initialized y.cls).before a0 Z = true) (w4 : (Jvm.Cond.code y bytes maxL ret).before a0 Z = true) (hy : y.cls ≠ "java/lang/invoke/MethodHandle" ∧ y.cls ≠ "java/lang/invoke/VarHandle")
    (hM : Con l Z y bytes maxL ret rm as' h Qc) (eT : T.heap = h) (hd : decode c.code pc = .ok (.invokestatic index, 3)) (hlen : ∀ sig, parseMethodDescriptor y.desc = some sig → argsL.length = sig.parameters.length) (hst : st = argsL.reverse ++ rest) (has : argsL.toArray = as')
    (hW : (rest.map fun v => v.category).sum ≤ W) (hf : rm.frames + 1 ≤ R.frames) (hl : W + (maxL + 11) + rm.locals ≤ R.locals) (hc : cells + rm.cells ≤ R.cells) (hs : slots + rm.slots ≤ R.slots)
    (k : ∀ (v : Option Value) (T' : State) (L : List Loc), Stand p l e R s m args below meth c T' (locs ++ L) (cells + rm.cells) (slots + rm.slots) → Qc v T'.heap L → Go p e below s C S Q T' (mkF m (pc + 3) Ls (v.toList ++ rest))) :
    Go p e below s C S Q T (mkF m pc Ls st) := by
  obtain ⟨v, _, ⟨T', L', k', n'⟩, -, X', ⟨Lc, hQ, l1, y1, z1⟩, stp⟩ := Jvm.LawKit.callS X hx (y := y) hown (mvT hZ w1) (mvT hZ w2) (mvT hZ w3) (mvT hZ w4) hy (backOf (W := W) hM hZ w4 w3 hf hl) (g := mkF m pc Ls st) rfl hml (argsL := argsL) (rest := rest) hlen hst (by show 2 * 0 + _ ≤ _; omega) hd (fun _ _ => ⟨has, eT, hc, hs⟩)
  dsimp only [Pt.U, Pt.locs, Pt.cells, Pt.slots] at X' l1 y1 z1 stp hQ
  subst l1 y1 z1
  exact Go.step stp (k v T' Lc X' hQ)
theorem Go.callI (X : Stand p l e R s m args below meth c T locs cells slots) (hx : p.tables.exec = Jvm.exec) (hZ : Z.Warmed39 s.vm) {own : String} {index : Nat} {y : MethodName} {bytes : ByteArray} {maxL : Nat} {rm : Room} {as' : Array Value} {Qc : Option Value → Heap → List Loc → Prop} {W pc : Nat} {Ls : Array Slot} {st : List Value} {a : Addr} {argsL rest : List Value} (hml : Ls.size = c.maxLocals)
    (hy1 : y.name = "<init>") (hown : s.vm.findClass own = some m.cls) (w1 : (Jvm.Cond.methodLink own index y).before a0 Z = true) (w2 : (Jvm.Cond.instanceMethod y).before a0 Z = true) (w3 : (Jvm.Cond.initialized y.cls).before a0 Z = true) (w4 : (Jvm.Cond.code y bytes maxL none).before a0 Z = true) (hy : y.cls ≠ "java/lang/invoke/MethodHandle" ∧ y.cls ≠ "java/lang/invoke/VarHandle")
    (hM : Con l Z y bytes maxL none rm as' h Qc) (eT : T.heap = h) (hd : decode c.code pc = .ok (.invokespecial index, 3)) (hlen : ∀ sig, parseMethodDescriptor y.desc = some sig → argsL.length = sig.parameters.length) (hst : st = argsL.reverse ++ .ref a :: rest) (has : (Value.ref a :: argsL).toArray = as')
    (hW : (rest.map fun v => v.category).sum ≤ W) (hf : rm.frames + 1 ≤ R.frames) (hl : W + (maxL + 11) + rm.locals ≤ R.locals) (hc : cells + rm.cells ≤ R.cells) (hs : slots + rm.slots ≤ R.slots)
    (k : ∀ (v : Option Value) (T' : State) (L : List Loc), Stand p l e R s m args below meth c T' (locs ++ L) (cells + rm.cells) (slots + rm.slots) → Qc v T'.heap L → Go p e below s C S Q T' (mkF m (pc + 3) Ls (v.toList ++ rest))) :
    Go p e below s C S Q T (mkF m pc Ls st) := by
  obtain ⟨v, _, ⟨T', L', k', n'⟩, -, X', ⟨Lc, hQ, l1, y1, z1⟩, stp⟩ := X.specialBack hx (y := y) hy1 hown (mvT hZ w1) (mvT hZ w2) (mvT hZ w4) hy (backOf (W := W) hM hZ w4 w3 hf hl) (g := mkF m pc Ls st) rfl hml (Steps.refl _) (a := a) (argsL := argsL) (rest := rest) hlen hst (by show 2 * 0 + _ ≤ _; omega) hd (fun _ _ => ⟨has, eT, hc, hs⟩)
  dsimp only [Pt.U, Pt.locs, Pt.cells, Pt.slots] at X' l1 y1 z1 stp hQ
  subst l1 y1 z1
  exact Go.step (fun _ q => stp.trans q) (k v T' Lc X' hQ)
theorem Go.callV (X : Stand p l e R s m args below meth c T locs cells slots) (hx : p.tables.exec = Jvm.exec) (hZ : Z.Warmed39 s.vm) {own K : String} {index : Nat} {y z : MethodName} {bytes : ByteArray} {maxL : Nat} {ret : Option FieldType} {rm : Room} {as' : Array Value} {Qc : Option Value → Heap → List Loc → Prop} {W pc : Nat} {Ls : Array Slot} {st : List Value} {a : Addr} {argsL rest : List Value} (hml : Ls.size = c.maxLocals)
    (hown : s.vm.findClass own = some m.cls) (w1 : (Jvm.Cond.methodLink own index y).before a0 Z = true) (w2 : (Jvm.Cond.declares y).before a0 Z = true) (hnf : NotFace s y) (w5 : (Jvm.Cond.selects K y z).before a0 Z = true) (w6 : (Jvm.Cond.instanceMethod z).before a0 Z = true) (w3 : (Jvm.Cond.initialized z.cls).before a0 Z = true) (w4 : (Jvm.Cond.code z bytes maxL ret).before a0 Z = true) (hy : y.cls ≠ "java/lang/invoke/MethodHandle" ∧ y.cls ≠ "java/lang/invoke/VarHandle")
    (hM : Con l Z z bytes maxL ret rm as' h Qc) (eT : T.heap = h) (E : Exa Z h a K) (hd : decode c.code pc = .ok (.invokevirtual index, 3)) (hlen : ∀ sig, parseMethodDescriptor y.desc = some sig → argsL.length = sig.parameters.length) (hst : st = argsL.reverse ++ .ref a :: rest) (has : (Value.ref a :: argsL).toArray = as')
    (hW : (rest.map fun v => v.category).sum ≤ W) (hf : rm.frames + 1 ≤ R.frames) (hl : W + (maxL + 11) + rm.locals ≤ R.locals) (hc : cells + rm.cells ≤ R.cells) (hs : slots + rm.slots ≤ R.slots)
    (k : ∀ (v : Option Value) (T' : State) (L : List Loc), Stand p l e R s m args below meth c T' (locs ++ L) (cells + rm.cells) (slots + rm.slots) → Qc v T'.heap L → Go p e below s C S Q T' (mkF m (pc + 3) Ls (v.toList ++ rest))) :
    Go p e below s C S Q T (mkF m pc Ls st) := by
  obtain ⟨cq, kq, qa, qb, qc⟩ := isOf hZ eT E
  obtain ⟨v, _, ⟨T', L', k', n'⟩, -, X', ⟨Lc, hQ, l1, y1, z1⟩, stp⟩ := X.virtualBack hx (y := y) (z := z) hown (mvT hZ w1) (mvT hZ w2) hnf (mvT hZ w5) (mvT hZ w6) hy (backOf (W := W) hM hZ w4 w3 hf hl) qa qc (g := mkF m pc Ls st) rfl hml (Steps.refl _) (argsL := argsL) (rest := rest) hlen hst (by show 2 * 0 + _ ≤ _; omega) hd (fun _ _ => ⟨has, eT, hc, hs⟩)
  dsimp only [Pt.U, Pt.locs, Pt.cells, Pt.slots] at X' l1 y1 z1 stp hQ
  subst l1 y1 z1
  exact Go.step (fun _ q => stp.trans q) (k v T' Lc X' hQ)
theorem Go.callP (X : Stand p l e R s m args below meth c T locs cells slots) (hx : p.tables.exec = Jvm.exec) (hZ : Z.Warmed39 s.vm) {own : String} {index : Nat} {y : MethodName} {bytes : ByteArray} {maxL : Nat} {ret : Option FieldType} {rm : Room} {as' : Array Value} {Qc : Option Value → Heap → List Loc → Prop} {W pc : Nat} {Ls : Array Slot} {st : List Value} {a : Addr} {argsL rest : List Value} (hml : Ls.size = c.maxLocals)
    (hown : s.vm.findClass own = some m.cls) (w1 : (Jvm.Cond.methodLink own index y).before a0 Z = true) (w6 : (Jvm.Cond.instanceMethod y).before a0 Z = true) {kk : Nat} (w5 : (Jvm.Cond.instantiable y.cls kk).before a0 Z = true) (w7 : (Jvm.Cond.privateMethod y).before a0 Z = true) (w3 : (Jvm.Cond.initialized y.cls).before a0 Z = true) (w4 : (Jvm.Cond.code y bytes maxL ret).before a0 Z = true) (hy : y.cls ≠ "java/lang/invoke/MethodHandle" ∧ y.cls ≠ "java/lang/invoke/VarHandle")
    (hM : Con l Z y bytes maxL ret rm as' h Qc) (eT : T.heap = h) {K : String} (E : Exa Z h a K) (hd : decode c.code pc = .ok (.invokevirtual index, 3)) (hlen : ∀ sig, parseMethodDescriptor y.desc = some sig → argsL.length = sig.parameters.length) (hst : st = argsL.reverse ++ .ref a :: rest) (has : (Value.ref a :: argsL).toArray = as')
    (hW : (rest.map fun v => v.category).sum ≤ W) (hf : rm.frames + 1 ≤ R.frames) (hl : W + (maxL + 11) + rm.locals ≤ R.locals) (hc : cells + rm.cells ≤ R.cells) (hs : slots + rm.slots ≤ R.slots)
    (k : ∀ (v : Option Value) (T' : State) (L : List Loc), Stand p l e R s m args below meth c T' (locs ++ L) (cells + rm.cells) (slots + rm.slots) → Qc v T'.heap L → Go p e below s C S Q T' (mkF m (pc + 3) Ls (v.toList ++ rest))) :
    Go p e below s C S Q T (mkF m pc Ls st) := by
  obtain ⟨cq, q1, q2⟩ := E.cell
  have hpriv : s.PrivateAt y := Cond.privateMethod_at (mvP hZ w7 (args := #[]))
  have w5' : (Jvm.Cond.instantiable y.cls kk).before args s = true := mvT hZ w5
  obtain ⟨c1, k1, i1, i2, -, i4, -⟩ := Cond.instantiable_spec w5'
  have hsel : (Jvm.Cond.selects y.cls y y).before args s = true := selects_self_of_private i1 i2 (by simp only [Bool.or_eq_false_iff] at i4; exact i4.1) hpriv (mvT hZ w6) hy
  obtain ⟨v, _, ⟨T', L', k', n'⟩, -, X', ⟨Lc, hQ, l1, y1, z1⟩, stp⟩ := X.privateBack hx (y := y) hown (mvT hZ w1) (mvT hZ w6) hsel hpriv (mvT hZ w4) hy (backOf (W := W) hM hZ w4 w3 hf hl) (g := mkF m pc Ls st) rfl hml (Steps.refl _) (a := a) (by rw [eT]; exact q1) q2 (argsL := argsL) (rest := rest) hlen hst (by show 2 * 0 + _ ≤ _; omega) hd (fun _ _ => ⟨has, eT, hc, hs⟩)
  dsimp only [Pt.U, Pt.locs, Pt.cells, Pt.slots] at X' l1 y1 z1 stp hQ
  subst l1 y1 z1
  exact Go.step (fun _ q => stp.trans q) (k v T' Lc X' hQ)
end OwnGo
/-! OWN: branches on a comparison of doubles, as javac writes them -/
section OwnCmp
variable {x y : UInt64}
theorem cv_none (o : CmpOp) (h : FP.dcmp x y = none) : cmpValue (FP.dcmp x y) o = (match o with | .l => -1 | .g => 1) := by rw [h]; cases o <;> rfl
theorem gt_y (h : FP.dcmp x y = some .gt) : ifCond.holds .le (cmpValue (FP.dcmp x y) .l) = false := by rw [h]; rfl
theorem gt_n (h : ¬ FP.dcmp x y = some .gt) : ifCond.holds .le (cmpValue (FP.dcmp x y) .l) = true := by
  rcases q : FP.dcmp x y with _ | (_ | _ | _) <;> first | rfl | exact absurd q h
theorem ge_y (h : FP.dcmp x y = some .gt ∨ FP.dcmp x y = some .eq) : ifCond.holds .lt (cmpValue (FP.dcmp x y) .l) = false := by rcases h with h | h <;> rw [h] <;> rfl
theorem ge_n (h : ¬ (FP.dcmp x y = some .gt ∨ FP.dcmp x y = some .eq)) : ifCond.holds .lt (cmpValue (FP.dcmp x y) .l) = true := by
  rcases q : FP.dcmp x y with _ | (_ | _ | _) <;> first | rfl | exact absurd (Or.inl q) h | exact absurd (Or.inr q) h
theorem lt_y (h : FP.dcmp x y = some .lt) : ifCond.holds .ge (cmpValue (FP.dcmp x y) .g) = false := by rw [h]; rfl
theorem lt_n (h : ¬ FP.dcmp x y = some .lt) : ifCond.holds .ge (cmpValue (FP.dcmp x y) .g) = true := by
  rcases q : FP.dcmp x y with _ | (_ | _ | _) <;> first | rfl | exact absurd q h
theorem le_y (h : FP.dcmp x y = some .lt ∨ FP.dcmp x y = some .eq) : ifCond.holds .gt (cmpValue (FP.dcmp x y) .g) = false := by rcases h with h | h <;> rw [h] <;> rfl
theorem le_n (h : ¬ (FP.dcmp x y = some .lt ∨ FP.dcmp x y = some .eq)) : ifCond.holds .gt (cmpValue (FP.dcmp x y) .g) = true := by
  rcases q : FP.dcmp x y with _ | (_ | _ | _) <;> first | rfl | exact absurd (Or.inl q) h | exact absurd (Or.inr q) h
theorem eq_y (o : CmpOp) (h : FP.dcmp x y = some .eq) : ifCond.holds .ne (cmpValue (FP.dcmp x y) o) = false ∧ ifCond.holds .eq (cmpValue (FP.dcmp x y) o) = true := by rw [h]; cases o <;> exact ⟨rfl, rfl⟩
theorem eq_n (o : CmpOp) (h : ¬ FP.dcmp x y = some .eq) : ifCond.holds .ne (cmpValue (FP.dcmp x y) o) = true ∧ ifCond.holds .eq (cmpValue (FP.dcmp x y) o) = false := by
  rcases q : FP.dcmp x y with _ | (_ | _ | _) <;> cases o <;> first | exact ⟨rfl, rfl⟩ | exact absurd q h
/-- x > y, by a taken 'ifgt' over dcmpl -/
theorem gtT_y (h : FP.dcmp x y = some .gt) : ifCond.holds .gt (cmpValue (FP.dcmp x y) .l) = true := by rw [h]; rfl
theorem gtT_n (h : ¬ FP.dcmp x y = some .gt) : ifCond.holds .gt (cmpValue (FP.dcmp x y) .l) = false := by
  rcases q : FP.dcmp x y with _ | (_ | _ | _) <;> first | rfl | exact absurd q h
theorem geT_y (h : FP.dcmp x y = some .gt ∨ FP.dcmp x y = some .eq) : ifCond.holds .ge (cmpValue (FP.dcmp x y) .l) = true := by rcases h with h | h <;> rw [h] <;> rfl
theorem geT_n (h : ¬ (FP.dcmp x y = some .gt ∨ FP.dcmp x y = some .eq)) : ifCond.holds .ge (cmpValue (FP.dcmp x y) .l) = false := by
  rcases q : FP.dcmp x y with _ | (_ | _ | _) <;> first | rfl | exact absurd (Or.inl q) h | exact absurd (Or.inr q) h
theorem ltT_y (h : FP.dcmp x y = some .lt) : ifCond.holds .lt (cmpValue (FP.dcmp x y) .g) = true := by rw [h]; rfl
theorem ltT_n (h : ¬ FP.dcmp x y = some .lt) : ifCond.holds .lt (cmpValue (FP.dcmp x y) .g) = false := by
  rcases q : FP.dcmp x y with _ | (_ | _ | _) <;> first | rfl | exact absurd q h
theorem leT_y (h : FP.dcmp x y = some .lt ∨ FP.dcmp x y = some .eq) : ifCond.holds .le (cmpValue (FP.dcmp x y) .g) = true := by rcases h with h | h <;> rw [h] <;> rfl
theorem leT_n (h : ¬ (FP.dcmp x y = some .lt ∨ FP.dcmp x y = some .eq)) : ifCond.holds .le (cmpValue (FP.dcmp x y) .g) = false := by
  rcases q : FP.dcmp x y with _ | (_ | _ | _) <;> first | rfl | exact absurd (Or.inl q) h | exact absurd (Or.inr q) h
end OwnCmp

/-! OWN: arrays by a function of the place -/
def updN {α : Type} (g : Nat → α) (j : Nat) (x : α) : Nat → α := fun i => if i = j then x else g i
theorem updN_same {α : Type} (g : Nat → α) (j : Nat) (x : α) : updN g j x j = x := by simp [updN]
theorem updN_ne {α : Type} {g : Nat → α} {i j : Nat} {x : α} (h : i ≠ j) : updN g j x i = g i := by simp [updN, h]
def Fv (Z : State) (h : Heap) (a : Addr) (ty : FieldType) (n : Int32) (f : Nat → Value) : Prop :=
  ∃ c : Cell, Arr Z h a c ty ∧ c.slots.size = n.toNatClampNeg ∧ ¬ n < 0 ∧ (∀ i, fits ty (f i) = true) ∧ ∀ i, i < c.slots.size → c.slots[i]? = some (f i)
abbrev Dv (Z : State) (h : Heap) (a : Addr) (n : Int32) (g : Nat → UInt64) : Prop := Fv Z h a .double n (fun i => .double (g i))
abbrev Iv (Z : State) (h : Heap) (a : Addr) (n : Int32) (g : Nat → Int32) : Prop := Fv Z h a .int n (fun i => .int (g i))
section OwnFv
variable {Z : State} {h h' : Heap} {a b : Addr} {ty : FieldType} {n j : Int32} {f : Nat → Value} {v : Value} {sl : Nat} {ws : List Addr}
theorem Fv.lt (F : Fv Z h a ty n f) : a < h.size := by obtain ⟨c, A, -⟩ := F; exact A.lt
theorem Fv.ext (F : Fv Z h a ty n f) (E : Ext h h') : Fv Z h' a ty n f := by obtain ⟨c, A, r⟩ := F; exact ⟨c, A.ext E, r⟩
theorem Fv.other (F : Fv Z h b ty n f) (W : Wr h h' a sl v) (q : b ≠ a) : Fv Z h' b ty n f := by obtain ⟨c, A, r⟩ := F; exact ⟨c, A.other W q, r⟩
theorem Fv.keep (F : Fv Z h a ty n f) (K : Keep h h' ws) (q : a ∉ ws) : Fv Z h' a ty n f := by obtain ⟨c, A, r⟩ := F; exact ⟨c, ⟨K.2.1 a c A.1 q, A.2⟩, r⟩
theorem Fv.new {k : ClassId} (A : Arr Z h a (newA k ty n) ty) (q : ¬ n < 0) : Fv Z h a ty n (fun _ => defaultValue ty) := ⟨_, A, sz_new _ _ _, q, fun i => by cases ty <;> rfl, fun i hi => by
  rw [sz_new] at hi; simp [newA, hi]⟩
theorem own_nat_of {j : Int32} (h : ¬ j < 0) : (j.toNatClampNeg : Int) = j.toInt := by
  rw [Int32.lt_iff_toInt_lt] at h; have e0 : (0 : Int32).toInt = 0 := rfl
  rw [Int32.toNatClampNeg]; omega
theorem Fv.set (F : Fv Z h a ty n f) (W : Wr h h' a j.toNatClampNeg v) (hv : fits ty v = true) : Fv Z h' a ty n (updN f j.toNatClampNeg v) := by
  obtain ⟨c, A, S, P, G, H⟩ := F
  refine ⟨_, A.same W, by rw [sz_set]; exact S, P, fun i => ?_, fun i hi => ?_⟩
  · unfold updN; split
    · exact hv
    · exact G i
  · rw [sz_set] at hi
    unfold updN
    by_cases u : i = j.toNatClampNeg
    · rw [if_pos u, u]; rw [u] at hi; simp [Cell.setSlot, hi]
    · rw [if_neg u]; simp only [Cell.setSlot]; rw [Array.getElem?_setIfInBounds_ne (Ne.symm u)]; exact H i hi
theorem Dv.set {g : Nat → UInt64} {x : UInt64} (F : Dv Z h a n g) (W : Wr h h' a j.toNatClampNeg (.double x)) : Dv Z h' a n (updN g j.toNatClampNeg x) := by
  have := Fv.set F W rfl
  have e : (updN (fun i => Value.double (g i)) j.toNatClampNeg (.double x)) = fun i => Value.double (updN g j.toNatClampNeg x i) := by
    funext i; unfold updN; split <;> rfl
  rw [e] at this; exact this
theorem Iv.set {g : Nat → Int32} {x : Int32} (F : Iv Z h a n g) (W : Wr h h' a j.toNatClampNeg (.int x)) : Iv Z h' a n (updN g j.toNatClampNeg x) := by
  have := Fv.set F W rfl
  have e : (updN (fun i => Value.int (g i)) j.toNatClampNeg (.int x)) = fun i => Value.int (updN g j.toNatClampNeg x i) := by
    funext i; unfold updN; split <;> rfl
  rw [e] at this; exact this
theorem Fv.congr {f' : Nat → Value} (F : Fv Z h a ty n f) (q : ∀ i, f i = f' i) : Fv Z h a ty n f' := by rw [← (funext q : f = f')]; exact F
theorem Fv.inb {c : Cell} (S : c.slots.size = n.toNatClampNeg) (q : ¬ j < 0 ∧ j < n) : ¬ (j < 0 ∨ c.slots.size ≤ j.toNatClampNeg) := inb_of S q
variable {p : Program} {l : Launch} {e : Env} {R : Room} {s : State} {m : MethodId} {args : Array Value} {below : List Frame} {meth : Method} {c : Code} {T : State} {locs : List Loc} {cells slots : Nat} {C S : Nat} {Q : Option Value → Heap → List Loc → Prop} {pc : Nat} {Ls : Array Slot} {rest : List Value}
theorem Go.alen (X : Stand p l e R s m args below meth c T locs cells slots) (hx : p.tables.exec = Jvm.exec) (hZ : Z.Warmed39 s.vm) (eT : T.heap = h) (F : Fv Z h a ty n f) (hd : decode c.code pc = .ok (.arraylength, 1))
    (k : Go p e below s C S Q T (mkF m (pc + 1) Ls (.int n :: rest))) : Go p e below s C S Q T (mkF m pc Ls (.ref a :: rest)) := by
  obtain ⟨cl, A, S', P, -, -⟩ := F
  refine Go.step (X.arraylength hx (cell := cl) (by rw [eT]; exact A.1) (State.isArrayOf_alike hZ.alike A.2.1) (g := mkF m pc Ls (.ref a :: rest)) rfl rfl hd) ?_
  rw [len_of S' P]; exact k
theorem Go.iaload {g : Nat → Int32} {v : Int32} (X : Stand p l e R s m args below meth c T locs cells slots) (hx : p.tables.exec = Jvm.exec) (hZ : Z.Warmed39 s.vm) (eT : T.heap = h) (F : Iv Z h a n g) (hj : ¬ j < 0 ∧ j < n) (hv : g j.toNatClampNeg = v) (hd : decode c.code pc = .ok (.iaload, 1))
    (k : Go p e below s C S Q T (mkF m (pc + 1) Ls (.int v :: rest))) : Go p e below s C S Q T (mkF m pc Ls (.int j :: .ref a :: rest)) := by
  obtain ⟨cl, A, S', P, G, H⟩ := F
  have q := inb_of S' hj
  exact Go.step (fun t r => X.iaload hx (j := j) (v := .int v) (by rw [eT]; exact A.1) (State.isArrayOf_alike hZ.alike A.2.1) A.2.2 q (by rw [← hv]; exact H _ (Nat.lt_of_not_le fun z => q (Or.inr z))) (g := mkF m pc Ls (.int j :: .ref a :: rest)) rfl rfl hd t r) k
theorem Go.daload {g : Nat → UInt64} {v : UInt64} (X : Stand p l e R s m args below meth c T locs cells slots) (hx : p.tables.exec = Jvm.exec) (hZ : Z.Warmed39 s.vm) (eT : T.heap = h) (F : Dv Z h a n g) (hj : ¬ j < 0 ∧ j < n) (hv : g j.toNatClampNeg = v) (hd : decode c.code pc = .ok (.daload, 1))
    (k : Go p e below s C S Q T (mkF m (pc + 1) Ls (.double v :: rest))) : Go p e below s C S Q T (mkF m pc Ls (.int j :: .ref a :: rest)) := by
  obtain ⟨cl, A, S', P, G, H⟩ := F
  have q := inb_of S' hj
  exact Go.step (fun t r => X.daload hx (j := j) (v := .double v) (by rw [eT]; exact A.1) (State.isArrayOf_alike hZ.alike A.2.1) A.2.2 q (by rw [← hv]; exact H _ (Nat.lt_of_not_le fun z => q (Or.inr z))) (g := mkF m pc Ls (.int j :: .ref a :: rest)) rfl rfl hd t r) k
theorem Go.iastore {g : Nat → Int32} {x : Int32} (X : Stand p l e R s m args below meth c T locs cells slots) (hx : p.tables.exec = Jvm.exec) (hZ : Z.Warmed39 s.vm) (eT : T.heap = h) (F : Iv Z h a n g) (hj : ¬ j < 0 ∧ j < n) (hd : decode c.code pc = .ok (.iastore, 1))
    (k : ∀ T' h', Stand p l e R s m args below meth c T' (locs ++ [⟨a, j.toNatClampNeg⟩]) cells slots → T'.heap = h' → Wr h h' a j.toNatClampNeg (.int x) → Iv Z h' a n (updN g j.toNatClampNeg x) → Go p e below s C S Q T' (mkF m (pc + 1) Ls rest)) : Go p e below s C S Q T (mkF m pc Ls (.int x :: .int j :: .ref a :: rest)) := by
  have F0 := F
  obtain ⟨cl, A, S', P, G, H⟩ := F
  obtain ⟨T', h', X', e', W, st⟩ := stI X hx hZ eT A (j := j) (x := x) (inb_of S' hj) (g := mkF m pc Ls (.int x :: .int j :: .ref a :: rest)) rfl rfl hd
  exact Go.step st (k T' h' X' e' W (Iv.set F0 W))
theorem Go.dastore {g : Nat → UInt64} {x : UInt64} (X : Stand p l e R s m args below meth c T locs cells slots) (hx : p.tables.exec = Jvm.exec) (hZ : Z.Warmed39 s.vm) (eT : T.heap = h) (F : Dv Z h a n g) (hj : ¬ j < 0 ∧ j < n) (hd : decode c.code pc = .ok (.dastore, 1))
    (k : ∀ T' h', Stand p l e R s m args below meth c T' (locs ++ [⟨a, j.toNatClampNeg⟩]) cells slots → T'.heap = h' → Wr h h' a j.toNatClampNeg (.double x) → Dv Z h' a n (updN g j.toNatClampNeg x) → Go p e below s C S Q T' (mkF m (pc + 1) Ls rest)) : Go p e below s C S Q T (mkF m pc Ls (.double x :: .int j :: .ref a :: rest)) := by
  have F0 := F
  obtain ⟨cl, A, S', P, G, H⟩ := F
  obtain ⟨T', h', X', e', W, st⟩ := stD X hx hZ eT A (j := j) (x := x) (inb_of S' hj) (g := mkF m pc Ls (.double x :: .int j :: .ref a :: rest)) rfl rfl hd
  exact Go.step st (k T' h' X' e' W (Dv.set F0 W))
abbrev Zv (Z : State) (h : Heap) (a : Addr) (n : Int32) (g : Nat → Int32) : Prop := Fv Z h a .boolean n (fun i => .int (g i))
theorem Zv.set {g : Nat → Int32} {x : Int32} (F : Zv Z h a n g) (W : Wr h h' a j.toNatClampNeg (.int x)) (hb : fits .boolean (.int x) = true) : Zv Z h' a n (updN g j.toNatClampNeg x) := by
  have := Fv.set F W hb
  have e : (updN (fun i => Value.int (g i)) j.toNatClampNeg (.int x)) = fun i => Value.int (updN g j.toNatClampNeg x i) := by
    funext i; unfold updN; split <;> rfl
  rw [e] at this; exact this
theorem Go.zaload {g : Nat → Int32} {v : Int32} (X : Stand p l e R s m args below meth c T locs cells slots) (hx : p.tables.exec = Jvm.exec) (hZ : Z.Warmed39 s.vm) (eT : T.heap = h) (F : Zv Z h a n g) (hj : ¬ j < 0 ∧ j < n) (hv : g j.toNatClampNeg = v) (hd : decode c.code pc = .ok (.baload, 1))
    (k : Go p e below s C S Q T (mkF m (pc + 1) Ls (.int v :: rest))) : Go p e below s C S Q T (mkF m pc Ls (.int j :: .ref a :: rest)) := by
  obtain ⟨cl, A, S', P, G, H⟩ := F
  have q := inb_of S' hj
  exact Go.step (fun t r => X.baloadBooleans hx (j := j) (v := .int v) (by rw [eT]; exact A.1) (State.isArrayOf_alike hZ.alike A.2.1) A.2.2 q (by rw [← hv]; exact H _ (Nat.lt_of_not_le fun z => q (Or.inr z))) (g := mkF m pc Ls (.int j :: .ref a :: rest)) rfl rfl hd t r) k
theorem Go.zastore {g : Nat → Int32} {x : Int32} (X : Stand p l e R s m args below meth c T locs cells slots) (hx : p.tables.exec = Jvm.exec) (hZ : Z.Warmed39 s.vm) (eT : T.heap = h) (F : Zv Z h a n g) (hj : ¬ j < 0 ∧ j < n) (hn : nar .boolean x = x) (hd : decode c.code pc = .ok (.bastore, 1))
    (k : ∀ T' h', Stand p l e R s m args below meth c T' (locs ++ [⟨a, j.toNatClampNeg⟩]) cells slots → T'.heap = h' → Wr h h' a j.toNatClampNeg (.int x) → Zv Z h' a n (updN g j.toNatClampNeg x) → Go p e below s C S Q T' (mkF m (pc + 1) Ls rest)) : Go p e below s C S Q T (mkF m pc Ls (.int x :: .int j :: .ref a :: rest)) := by
  have F0 := F
  obtain ⟨cl, A, S', P, G, H⟩ := F
  have hj' := inb_of S' hj
  obtain ⟨X', st⟩ := bastoreZ X hx (by rw [eT]; exact A.1) (State.isArrayOf_alike hZ.alike A.2.1) A.2.2 hj' (g := mkF m pc Ls (.int x :: .int j :: .ref a :: rest)) rfl rfl hd
  rw [hn] at X' st
  have W : Wr h (T.setCell a (cl.setSlot j.toNatClampNeg (.int x))).heap a j.toNatClampNeg (.int x) := ⟨cl, A.1, A.plain, Nat.lt_of_not_le fun q => hj' (Or.inr q), by rw [← eT]; rfl⟩
  exact Go.step st (k _ _ X' rfl W (Zv.set F0 W (by rw [← hn]; exact fits_nar_bool x)))
/-- clone() of an array -/
theorem Go.clone {a0 : Array Value} {own ad : String} {index W cap : Nat} (X : Stand p l e R s m args below meth c T locs cells slots) (hx : p.tables.exec = Jvm.exec) (hZ : Z.Warmed39 s.vm) (hml : Ls.size = c.maxLocals) (hown : s.vm.findClass own = some m.cls)
    (w1 : (Jvm.Cond.methodLink own index ⟨ad, "clone", "()Ljava/lang/Object;"⟩).before a0 Z = true) (w2 : (Jvm.Cond.sameMethod ad "java/lang/Object" "clone" "()Ljava/lang/Object;").before a0 Z = true) (w3 : (Jvm.Cond.native ⟨"java/lang/Object", "clone", "()Ljava/lang/Object;"⟩).before a0 Z = true)
    (w4 : (Jvm.Cond.instanceMethod ⟨"java/lang/Object", "clone", "()Ljava/lang/Object;"⟩).before a0 Z = true) (w5 : (Jvm.Cond.selects ad ⟨ad, "clone", "()Ljava/lang/Object;"⟩ ⟨"java/lang/Object", "clone", "()Ljava/lang/Object;"⟩).before a0 Z = true) (w6 : (Jvm.Cond.castable ad "java/lang/Cloneable").before a0 Z = true)
    (eT : T.heap = h) (F : Fv Z h a ty n f) (E : Exa Z h a ad) (hd : decode c.code pc = .ok (.invokevirtual index, 3)) (hf : 1 ≤ R.frames) (hW : (rest.map fun v => v.category).sum ≤ W) (hl : W + 14 ≤ R.locals) (hcap : n.toNatClampNeg ≤ cap) (hc : cells + 1 ≤ R.cells) (hsl : slots + cap ≤ R.slots)
    (k : ∀ T' h' b, b = h.size → Stand p l e R s m args below meth c T' locs (cells + 1) (slots + cap) → T'.heap = h' → Ext h h' → Fv Z h' b ty n f → Exa Z h' b ad → Go p e below s C S Q T' (mkF m (pc + 3) Ls (.ref b :: rest))) : Go p e below s C S Q T (mkF m pc Ls (.ref a :: rest)) := by
  obtain ⟨cl, A, S', P, G, H⟩ := F
  have FC : FitC Z cl := fitC_of A fun i hi v hv => by rw [H i hi] at hv; cases hv; exact G i
  obtain ⟨T', h', X', e', ex, A', E', st⟩ := cloneA X hx hZ hown w1 w2 w3 w4 w5 w6 eT A E FC (g := mkF m pc Ls (.ref a :: rest)) rfl hml rfl hd hf (by show 2 * 0 + _ ≤ _; omega) hl (by rw [S']; exact hcap) hc hsl
  exact Go.step st (k T' h' _ rfl X' e' ex ⟨cloneOf cl, A', S', P, G, H⟩ E')
end OwnFv

section OwnConv
open Jvm.FP.Core
theorem own_nnN {a : UInt64} (h : val64 a ≠ .nan) : Jvm.Free.Fl.NoNaN64 a := Jvm.Free.Fl.noNaN64_no.mpr ((notNaN_iff a).mpr h)
theorem own_Nnn {a : UInt64} (h : Jvm.Free.Fl.NoNaN64 a) : val64 a ≠ .nan := (notNaN_iff a).mp (Jvm.Free.Fl.noNaN64_no.mp h)
theorem own_finF {a : UInt64} (h : DFin a) : Jvm.Free.Fl.Fin64 a := Jvm.Free.Fl.fin64_core.mpr h
theorem own_Ffin {a : UInt64} (h : Jvm.Free.Fl.Fin64 a) : DFin a := Jvm.Free.Fl.fin64_core.mp h
theorem own_nnF {a : UInt64} (h : DFin a) : Jvm.Free.Fl.NoNaN64 a := own_nnN h.ne_nan
theorem own_nz {x : Int64} (h : x ≠ 0) : Jvm.Free.Fl.Nz64 (FP.l2d x) := Jvm.Free.Fl.nz64_core.mpr (fun z => l2d_ne_zero h ((zero_bits2 _).mp z))
theorem own_eqD {a b : UInt64} (h : a = b) (n : Jvm.Free.Fl.NoNaN64 a) : FP.dcmp a b = some .eq := by subst h; exact dcmp_self (own_Nnn n)
end OwnConv

section OwnSl
def slopeW (i n : Int32) (g : Nat → UInt64) : UInt64 := if i < n then g (i).toNatClampNeg else 0
theorem own_d (x : Int32) : ¬ (x &&& (15 : Int32)) < 0 ∧ (x &&& (15 : Int32)) < 16 := by
  have h := c_mask x 15 4 (by decide) (by decide)
  rw [Int32.lt_iff_toInt_lt, Int32.lt_iff_toInt_lt, show (0 : Int32).toInt = 0 from rfl, show (16 : Int32).toInt = 16 from rfl]; omega
theorem own_j (x : Int32) : ¬ (x &&& (31 : Int32)) < 0 ∧ (x &&& (31 : Int32)) < 32 := by
  have h := c_mask x 31 5 (by decide) (by decide)
  rw [Int32.lt_iff_toInt_lt, Int32.lt_iff_toInt_lt, show (0 : Int32).toInt = 0 from rfl, show (32 : Int32).toInt = 32 from rfl]; omega
theorem own_d1 {d : Int32} (h0 : ¬ d < 0) (h1 : d < 16) : ¬ (d + (1 : Int32)) < 0 ∧ (d + (1 : Int32)).toNatClampNeg ≤ 16 ∧ d < (d + (1 : Int32)) := by
  have h2 := c_iadd d 1
  have h3 := Int32.toInt_lt (d + 1); have h4 := Int32.le_toInt (d + 1)
  rw [Int32.lt_iff_toInt_lt, show (0 : Int32).toInt = 0 from rfl] at h0
  rw [Int32.lt_iff_toInt_lt, show (16 : Int32).toInt = 16 from rfl] at h1
  rw [show (1 : Int32).toInt = 1 from rfl] at h2
  rw [Int32.lt_iff_toInt_lt, Int32.lt_iff_toInt_lt, show (0 : Int32).toInt = 0 from rfl, Int32.toNatClampNeg]
  omega
theorem own_sl1 {d : Int32} (h0 : ¬ d < 0) (h1 : d < 16) : slopeW d (d + (1 : Int32)) (updN (fun _ => (0 : UInt64)) (d).toNatClampNeg (4607182418800017408 : UInt64)) = (4607182418800017408 : UInt64) := by
  unfold slopeW; rw [if_pos (own_d1 h0 h1).2.2, updN_same]
theorem own_sl0 {d j : Int32} (h0 : ¬ d < 0) (h1 : ¬ j < 0) (hne : ¬ j = d) : slopeW j (d + (1 : Int32)) (updN (fun _ => (0 : UInt64)) (d).toNatClampNeg (4607182418800017408 : UInt64)) = (0 : UInt64) := by
  unfold slopeW; split
  · refine updN_ne fun q => hne (Int32.toInt_inj.mp ?_)
    have a := own_nat_of h0; have b := own_nat_of h1
    rw [← a, ← b, q]
  · rfl
end OwnSl

theorem d2_0 : decode prog_6_method_1_code 0 = .ok (.aload_n 0, 1) := by decide +kernel
theorem d2_1 : decode prog_6_method_1_code 1 = .ok (.invokespecial 1, 3) := by decide +kernel
theorem d2_4 : decode prog_6_method_1_code 4 = .ok (.aload_n 0, 1) := by decide +kernel
theorem d2_5 : decode prog_6_method_1_code 5 = .ok (.dload_n 1, 1) := by decide +kernel
theorem d2_6 : decode prog_6_method_1_code 6 = .ok (.putfield 7, 3) := by decide +kernel
theorem d2_9 : decode prog_6_method_1_code 9 = .ok (.aload_n 0, 1) := by decide +kernel
theorem d2_10 : decode prog_6_method_1_code 10 = .ok (.aload_n 3, 1) := by decide +kernel
theorem d2_11 : decode prog_6_method_1_code 11 = .ok (.putfield 13, 3) := by decide +kernel
theorem d2_14 : decode prog_6_method_1_code 14 = .ok (.aload_n 0, 1) := by decide +kernel
theorem d2_15 : decode prog_6_method_1_code 15 = .ok (.dload 4, 2) := by decide +kernel
theorem d2_17 : decode prog_6_method_1_code 17 = .ok (.putfield 17, 3) := by decide +kernel
theorem d2_20 : decode prog_6_method_1_code 20 = .ok (.aload_n 0, 1) := by decide +kernel
theorem d2_21 : decode prog_6_method_1_code 21 = .ok (.dload 6, 2) := by decide +kernel
theorem d2_23 : decode prog_6_method_1_code 23 = .ok (.putfield 20, 3) := by decide +kernel
theorem d2_26 : decode prog_6_method_1_code 26 = .ok (.return_, 1) := by decide +kernel
set_option maxRecDepth 65536 in
set_option maxHeartbeats 40000000 in
theorem w2 {p : Program} {l : Launch} {e : Env} {s : State} {m : MethodId} {args : Array Value} {below : List Frame} {meth : Method} {c_ : Code} {T0 : State} {locs : List Loc} {Z : State} {a0 : Array Value} {h0 : Heap} {n0 : Nat} (a : Addr) (x1 : UInt64) (x2 : Addr) (x3 : UInt64) (x4 : UInt64)
    (X0 : Stand p l e ({ frames := 1, cells := 0, slots := 0, locals := 12 } : Room) s m args below meth c_ T0 locs 0 0) (hx : p.tables.exec = Jvm.exec) (hZ : Z.Warmed39 s.vm) (hw : ∀ d ∈ tables_1, d.before a0 Z = true) (hby : c_.code = prog_6_method_1_code) (hml : c_.maxLocals = 8) (hown : s.vm.findClass "com/example/leapwise/leapwise/evolution/Affine" = some m.cls) (hnm : meth.name = "<init>") (hret : meth.sig.returnType = none) (hlk : meth.locks = false) (e0 : T0.heap = h0) (Z0 : n0 ≤ h0.size) (N0 : Fr n0 locs) (E_a : Exa Z h0 a "com/example/leapwise/leapwise/evolution/Affine") (F_value_a : Fld Z h0 a "com/example/leapwise/leapwise/evolution/Affine" "value" "D" (.double (0 : UInt64))) (F_slopes_a : Fld Z h0 a "com/example/leapwise/leapwise/evolution/Affine" "slopes" "[D" .null) (F_rounding_a : Fld Z h0 a "com/example/leapwise/leapwise/evolution/Affine" "rounding" "D" (.double (0 : UInt64))) (F_slopeRounding_a : Fld Z h0 a "com/example/leapwise/leapwise/evolution/Affine" "slopeRounding" "D" (.double (0 : UInt64))) (ge_a : n0 ≤ a)  :
    Go p e below s ({ frames := 1, cells := 0, slots := 0, locals := 12 } : Room).cells ({ frames := 1, cells := 0, slots := 0, locals := 12 } : Room).slots (fun r h L => r = none ∧ Fr n0 L ∧ Keep h0 h [a] ∧ Exa Z h a "com/example/leapwise/leapwise/evolution/Affine" ∧ Fld Z h a "com/example/leapwise/leapwise/evolution/Affine" "value" "D" (.double x1) ∧ Fld Z h a "com/example/leapwise/leapwise/evolution/Affine" "slopes" "[D" (.ref x2) ∧ Fld Z h a "com/example/leapwise/leapwise/evolution/Affine" "rounding" "D" (.double x3) ∧ Fld Z h a "com/example/leapwise/leapwise/evolution/Affine" "slopeRounding" "D" (.double x4)) T0 (mkF m 0 #[.val (.ref a), .val (.double x1), .second, .val (.ref x2), .val (.double x3), .second, .val (.double x4), .second] []) := by
  show Go _ _ _ _ _ _ _ T0 (mkF m 0 #[.val (.ref a), .val (.double x1), .second, .val (.ref x2), .val (.double x3), .second, .val (.double x4), .second] [])
  refine Go.step (fun _ k => XS.aloadN X0.here hx rfl (hb hby d2_0) rfl rfl k) ?_
  show Go _ _ _ _ _ _ _ T0 (mkF m 1 #[.val (.ref a), .val (.double x1), .second, .val (.ref x2), .val (.double x3), .second, .val (.double x4), .second] [(.ref a)])
  obtain ⟨T1, X1, e1, st1⟩ := initO X0 hx hZ hown (hw _ (List.mem_of_getElem? (i := 10) rfl)) (hw _ (List.mem_of_getElem? (i := 11) rfl)) (hw _ (List.mem_of_getElem? (i := 12) rfl)) e0 (g := (mkF m 1 #[.val (.ref a), .val (.double x1), .second, .val (.ref x2), .val (.double x3), .second, .val (.double x4), .second] [(.ref a)])) rfl (by rw [hml]; rfl) rfl (hb hby d2_1) (by decide) (W := 0) (by show 2 * 0 + _ ≤ _; exact Nat.le_of_eq rfl) (by decide)
  refine Go.step st1 ?_
  show Go _ _ _ _ _ _ _ T1 (mkF m 4 #[.val (.ref a), .val (.double x1), .second, .val (.ref x2), .val (.double x3), .second, .val (.double x4), .second] [])
  refine Go.step (fun _ k => XS.aloadN X1.here hx rfl (hb hby d2_4) rfl rfl k) ?_
  show Go _ _ _ _ _ _ _ T1 (mkF m 5 #[.val (.ref a), .val (.double x1), .second, .val (.ref x2), .val (.double x3), .second, .val (.double x4), .second] [(.ref a)])
  refine Go.step (fun _ k => XS.dloadN X1.here hx rfl (hb hby d2_5) rfl k) ?_
  show Go _ _ _ _ _ _ _ T1 (mkF m 6 #[.val (.ref a), .val (.double x1), .second, .val (.ref x2), .val (.double x3), .second, .val (.double x4), .second] [(.double x1), (.ref a)])
  obtain ⟨T2, h2, X2, e2, W2, st2⟩ := putF X1 hx hZ hown (host := "") (Or.inl (hw _ (List.mem_of_getElem? (i := 13) rfl))) Via.refl e1 F_value_a E_a (Or.inr ⟨(hw _ (List.mem_of_getElem? (i := 14) rfl)), rfl, hnm⟩) (hw _ (List.mem_of_getElem? (i := 6) rfl)) (ty := .double) (by decide) rfl rfl (g := (mkF m 6 #[.val (.ref a), .val (.double x1), .second, .val (.ref x2), .val (.double x3), .second, .val (.double x4), .second] [(.double x1), (.ref a)])) rfl rfl (hb hby d2_6)
  refine Go.step st2 ?_
  have N2 := Fr.snoc X2 N0 ge_a
  have F_value_a_2 := F_value_a.same W2
  have E_a_2 := E_a.wr W2
  have F_slopes_a_2 := F_slopes_a.other W2 (Or.inr (slot_ne (Or.inr (hw _ (List.mem_of_getElem? (i := 16) rfl))) (Or.inr (hw _ (List.mem_of_getElem? (i := 14) rfl))) (by decide) (t := (.array .double)) (t' := .double) (by decide) (by decide)))
  have F_rounding_a_2 := F_rounding_a.other W2 (Or.inr (slot_ne (Or.inr (hw _ (List.mem_of_getElem? (i := 18) rfl))) (Or.inr (hw _ (List.mem_of_getElem? (i := 14) rfl))) (by decide) (t := .double) (t' := .double) (by decide) (by decide)))
  have F_slopeRounding_a_2 := F_slopeRounding_a.other W2 (Or.inr (slot_ne (Or.inr (hw _ (List.mem_of_getElem? (i := 20) rfl))) (Or.inr (hw _ (List.mem_of_getElem? (i := 14) rfl))) (by decide) (t := .double) (t' := .double) (by decide) (by decide)))
  have K2 : Keep h0 h2 [a] := (Keep.refl h0 [a]).wr W2 (Or.inl (List.mem_of_getElem? (i := 0) rfl))
  show Go _ _ _ _ _ _ _ T2 (mkF m 9 #[.val (.ref a), .val (.double x1), .second, .val (.ref x2), .val (.double x3), .second, .val (.double x4), .second] [])
  refine Go.step (fun _ k => XS.aloadN X2.here hx rfl (hb hby d2_9) rfl rfl k) ?_
  show Go _ _ _ _ _ _ _ T2 (mkF m 10 #[.val (.ref a), .val (.double x1), .second, .val (.ref x2), .val (.double x3), .second, .val (.double x4), .second] [(.ref a)])
  refine Go.step (fun _ k => XS.aloadN X2.here hx rfl (hb hby d2_10) rfl rfl k) ?_
  show Go _ _ _ _ _ _ _ T2 (mkF m 11 #[.val (.ref a), .val (.double x1), .second, .val (.ref x2), .val (.double x3), .second, .val (.double x4), .second] [(.ref x2), (.ref a)])
  obtain ⟨T3, h3, X3, e3, W3, st3⟩ := putF X2 hx hZ hown (host := "") (Or.inl (hw _ (List.mem_of_getElem? (i := 15) rfl))) Via.refl e2 F_slopes_a_2 E_a_2 (Or.inr ⟨(hw _ (List.mem_of_getElem? (i := 16) rfl)), rfl, hnm⟩) (hw _ (List.mem_of_getElem? (i := 6) rfl)) (ty := (.array .double)) (by decide) rfl rfl (g := (mkF m 11 #[.val (.ref a), .val (.double x1), .second, .val (.ref x2), .val (.double x3), .second, .val (.double x4), .second] [(.ref x2), (.ref a)])) rfl rfl (hb hby d2_11)
  refine Go.step st3 ?_
  have N3 := Fr.snoc X3 N2 ge_a
  have F_slopes_a_3 := F_slopes_a_2.same W3
  have E_a_3 := E_a_2.wr W3
  have F_value_a_3 := F_value_a_2.other W3 (Or.inr (slot_ne (Or.inr (hw _ (List.mem_of_getElem? (i := 14) rfl))) (Or.inr (hw _ (List.mem_of_getElem? (i := 16) rfl))) (by decide) (t := .double) (t' := (.array .double)) (by decide) (by decide)))
  have F_rounding_a_3 := F_rounding_a_2.other W3 (Or.inr (slot_ne (Or.inr (hw _ (List.mem_of_getElem? (i := 18) rfl))) (Or.inr (hw _ (List.mem_of_getElem? (i := 16) rfl))) (by decide) (t := .double) (t' := (.array .double)) (by decide) (by decide)))
  have F_slopeRounding_a_3 := F_slopeRounding_a_2.other W3 (Or.inr (slot_ne (Or.inr (hw _ (List.mem_of_getElem? (i := 20) rfl))) (Or.inr (hw _ (List.mem_of_getElem? (i := 16) rfl))) (by decide) (t := .double) (t' := (.array .double)) (by decide) (by decide)))
  have K3 : Keep h0 h3 [a] := K2.wr W3 (Or.inl (List.mem_of_getElem? (i := 0) rfl))
  show Go _ _ _ _ _ _ _ T3 (mkF m 14 #[.val (.ref a), .val (.double x1), .second, .val (.ref x2), .val (.double x3), .second, .val (.double x4), .second] [])
  refine Go.step (fun _ k => XS.aloadN X3.here hx rfl (hb hby d2_14) rfl rfl k) ?_
  show Go _ _ _ _ _ _ _ T3 (mkF m 15 #[.val (.ref a), .val (.double x1), .second, .val (.ref x2), .val (.double x3), .second, .val (.double x4), .second] [(.ref a)])
  refine Go.step (fun _ k => XS.dload X3.here hx rfl (hb hby d2_15) rfl k) ?_
  show Go _ _ _ _ _ _ _ T3 (mkF m 17 #[.val (.ref a), .val (.double x1), .second, .val (.ref x2), .val (.double x3), .second, .val (.double x4), .second] [(.double x3), (.ref a)])
  obtain ⟨T4, h4, X4, e4, W4, st4⟩ := putF X3 hx hZ hown (host := "") (Or.inl (hw _ (List.mem_of_getElem? (i := 17) rfl))) Via.refl e3 F_rounding_a_3 E_a_3 (Or.inr ⟨(hw _ (List.mem_of_getElem? (i := 18) rfl)), rfl, hnm⟩) (hw _ (List.mem_of_getElem? (i := 6) rfl)) (ty := .double) (by decide) rfl rfl (g := (mkF m 17 #[.val (.ref a), .val (.double x1), .second, .val (.ref x2), .val (.double x3), .second, .val (.double x4), .second] [(.double x3), (.ref a)])) rfl rfl (hb hby d2_17)
  refine Go.step st4 ?_
  have N4 := Fr.snoc X4 N3 ge_a
  have F_rounding_a_4 := F_rounding_a_3.same W4
  have E_a_4 := E_a_3.wr W4
  have F_value_a_4 := F_value_a_3.other W4 (Or.inr (slot_ne (Or.inr (hw _ (List.mem_of_getElem? (i := 14) rfl))) (Or.inr (hw _ (List.mem_of_getElem? (i := 18) rfl))) (by decide) (t := .double) (t' := .double) (by decide) (by decide)))
  have F_slopes_a_4 := F_slopes_a_3.other W4 (Or.inr (slot_ne (Or.inr (hw _ (List.mem_of_getElem? (i := 16) rfl))) (Or.inr (hw _ (List.mem_of_getElem? (i := 18) rfl))) (by decide) (t := (.array .double)) (t' := .double) (by decide) (by decide)))
  have F_slopeRounding_a_4 := F_slopeRounding_a_3.other W4 (Or.inr (slot_ne (Or.inr (hw _ (List.mem_of_getElem? (i := 20) rfl))) (Or.inr (hw _ (List.mem_of_getElem? (i := 18) rfl))) (by decide) (t := .double) (t' := .double) (by decide) (by decide)))
  have K4 : Keep h0 h4 [a] := K3.wr W4 (Or.inl (List.mem_of_getElem? (i := 0) rfl))
  show Go _ _ _ _ _ _ _ T4 (mkF m 20 #[.val (.ref a), .val (.double x1), .second, .val (.ref x2), .val (.double x3), .second, .val (.double x4), .second] [])
  refine Go.step (fun _ k => XS.aloadN X4.here hx rfl (hb hby d2_20) rfl rfl k) ?_
  show Go _ _ _ _ _ _ _ T4 (mkF m 21 #[.val (.ref a), .val (.double x1), .second, .val (.ref x2), .val (.double x3), .second, .val (.double x4), .second] [(.ref a)])
  refine Go.step (fun _ k => XS.dload X4.here hx rfl (hb hby d2_21) rfl k) ?_
  show Go _ _ _ _ _ _ _ T4 (mkF m 23 #[.val (.ref a), .val (.double x1), .second, .val (.ref x2), .val (.double x3), .second, .val (.double x4), .second] [(.double x4), (.ref a)])
  obtain ⟨T5, h5, X5, e5, W5, st5⟩ := putF X4 hx hZ hown (host := "") (Or.inl (hw _ (List.mem_of_getElem? (i := 19) rfl))) Via.refl e4 F_slopeRounding_a_4 E_a_4 (Or.inr ⟨(hw _ (List.mem_of_getElem? (i := 20) rfl)), rfl, hnm⟩) (hw _ (List.mem_of_getElem? (i := 6) rfl)) (ty := .double) (by decide) rfl rfl (g := (mkF m 23 #[.val (.ref a), .val (.double x1), .second, .val (.ref x2), .val (.double x3), .second, .val (.double x4), .second] [(.double x4), (.ref a)])) rfl rfl (hb hby d2_23)
  refine Go.step st5 ?_
  have N5 := Fr.snoc X5 N4 ge_a
  have F_slopeRounding_a_5 := F_slopeRounding_a_4.same W5
  have E_a_5 := E_a_4.wr W5
  have F_value_a_5 := F_value_a_4.other W5 (Or.inr (slot_ne (Or.inr (hw _ (List.mem_of_getElem? (i := 14) rfl))) (Or.inr (hw _ (List.mem_of_getElem? (i := 20) rfl))) (by decide) (t := .double) (t' := .double) (by decide) (by decide)))
  have F_slopes_a_5 := F_slopes_a_4.other W5 (Or.inr (slot_ne (Or.inr (hw _ (List.mem_of_getElem? (i := 16) rfl))) (Or.inr (hw _ (List.mem_of_getElem? (i := 20) rfl))) (by decide) (t := (.array .double)) (t' := .double) (by decide) (by decide)))
  have F_rounding_a_5 := F_rounding_a_4.other W5 (Or.inr (slot_ne (Or.inr (hw _ (List.mem_of_getElem? (i := 18) rfl))) (Or.inr (hw _ (List.mem_of_getElem? (i := 20) rfl))) (by decide) (t := .double) (t' := .double) (by decide) (by decide)))
  have K5 : Keep h0 h5 [a] := K4.wr W5 (Or.inl (List.mem_of_getElem? (i := 0) rfl))
  show Go _ _ _ _ _ _ _ T5 (mkF m 26 #[.val (.ref a), .val (.double x1), .second, .val (.ref x2), .val (.double x3), .second, .val (.double x4), .second] [])
  refine Go.retV X5 hx hlk hret (hb hby d2_26) (by decide) (by decide) ?_
  try rw [e5]
  exact ⟨rfl, N5, K5, E_a_5, F_value_a_5, F_slopes_a_5, F_rounding_a_5, F_slopeRounding_a_5⟩
theorem pn_2 : plainName "com/example/leapwise/leapwise/evolution/Affine" = true := by first | (simp [plainName, overriddenIn]; done) | decide +kernel
theorem ef_rm2 (m : MethodId) (a : Addr) (x1 : UInt64) (x2 : Addr) (x3 : UInt64) (x4 : UInt64) : entryFrame m #[(.ref a), (.double x1), (.ref x2), (.double x3), (.double x4)] 8 = mkF m 0 #[.val (.ref a), .val (.double x1), .second, .val (.ref x2), .val (.double x3), .second, .val (.double x4), .second] [] := by first | (simp [entryFrame, mkF, argsToLocals, Value.category]; done) | rfl
theorem rm2 (l : Launch) (Z : State) (a0 : Array Value) (hw : ∀ d ∈ tables_1, d.before a0 Z = true) (a : Addr) (x1 : UInt64) (x2 : Addr) (x3 : UInt64) (x4 : UInt64) (h0 : Heap) (n0 : Nat) (Z0 : n0 ≤ h0.size) (E_a : Exa Z h0 a "com/example/leapwise/leapwise/evolution/Affine") (F_value_a : Fld Z h0 a "com/example/leapwise/leapwise/evolution/Affine" "value" "D" (.double (0 : UInt64))) (F_slopes_a : Fld Z h0 a "com/example/leapwise/leapwise/evolution/Affine" "slopes" "[D" .null) (F_rounding_a : Fld Z h0 a "com/example/leapwise/leapwise/evolution/Affine" "rounding" "D" (.double (0 : UInt64))) (F_slopeRounding_a : Fld Z h0 a "com/example/leapwise/leapwise/evolution/Affine" "slopeRounding" "D" (.double (0 : UInt64))) (ge_a : n0 ≤ a)  :
    Con l Z (⟨"com/example/leapwise/leapwise/evolution/Affine", "<init>", "(D[DDD)V"⟩ : MethodName) prog_6_method_1_code 8 none ({ frames := 1, cells := 0, slots := 0, locals := 12 } : Room) #[(.ref a), (.double x1), (.ref x2), (.double x3), (.double x4)] h0 (fun r h L => r = none ∧ Fr n0 L ∧ Keep h0 h [a] ∧ Exa Z h a "com/example/leapwise/leapwise/evolution/Affine" ∧ Fld Z h a "com/example/leapwise/leapwise/evolution/Affine" "value" "D" (.double x1) ∧ Fld Z h a "com/example/leapwise/leapwise/evolution/Affine" "slopes" "[D" (.ref x2) ∧ Fld Z h a "com/example/leapwise/leapwise/evolution/Affine" "rounding" "D" (.double x3) ∧ Fld Z h a "com/example/leapwise/leapwise/evolution/Affine" "slopeRounding" "D" (.double x4)) :=
  con_of (plainFor_of_name pn_2) (fun p_ e_ s_ m_ b_ meth_ c_ T_ X_ hx hZ hby hml hown hnm hret hlk e0 => Go.cast (ef_rm2 m_ a x1 x2 x3 x4) (w2 a x1 x2 x3 x4 X_ hx hZ hw hby hml hown hnm hret hlk e0 Z0 (Fr.nil n0) E_a F_value_a F_slopes_a F_rounding_a F_slopeRounding_a ge_a))
theorem d1_0 : decode prog_6_method_3_code 0 = .ok (.iload_n 0, 1) := by decide +kernel
theorem d1_1 : decode prog_6_method_3_code 1 = .ok (.iconst 1, 1) := by decide +kernel
theorem d1_2 : decode prog_6_method_3_code 2 = .ok (.iadd, 1) := by decide +kernel
theorem d1_3 : decode prog_6_method_3_code 3 = .ok (.newarray .double, 2) := by decide +kernel
theorem d1_5 : decode prog_6_method_3_code 5 = .ok (.astore_n 3, 1) := by decide +kernel
theorem d1_6 : decode prog_6_method_3_code 6 = .ok (.aload_n 3, 1) := by decide +kernel
theorem d1_7 : decode prog_6_method_3_code 7 = .ok (.iload_n 0, 1) := by decide +kernel
theorem d1_8 : decode prog_6_method_3_code 8 = .ok (.dconst 1, 1) := by decide +kernel
theorem d1_9 : decode prog_6_method_3_code 9 = .ok (.dastore, 1) := by decide +kernel
theorem d1_10 : decode prog_6_method_3_code 10 = .ok (.new 8, 3) := by decide +kernel
theorem d1_13 : decode prog_6_method_3_code 13 = .ok (.dup, 1) := by decide +kernel
theorem d1_14 : decode prog_6_method_3_code 14 = .ok (.dload_n 1, 1) := by decide +kernel
theorem d1_15 : decode prog_6_method_3_code 15 = .ok (.aload_n 3, 1) := by decide +kernel
theorem d1_16 : decode prog_6_method_3_code 16 = .ok (.dconst 0, 1) := by decide +kernel
theorem d1_17 : decode prog_6_method_3_code 17 = .ok (.dconst 0, 1) := by decide +kernel
theorem d1_18 : decode prog_6_method_3_code 18 = .ok (.invokespecial 35, 3) := by decide +kernel
theorem pd_0 : parseMethodDescriptor "(D[DDD)V" = some ⟨[.double, (.array .double), .double, .double], none⟩ := by decide +kernel
theorem d1_21 : decode prog_6_method_3_code 21 = .ok (.areturn, 1) := by decide +kernel
set_option maxRecDepth 65536 in
set_option maxHeartbeats 40000000 in
theorem w1 {p : Program} {l : Launch} {e : Env} {s : State} {m : MethodId} {args : Array Value} {below : List Frame} {meth : Method} {c_ : Code} {T0 : State} {locs : List Loc} {Z : State} {a0 : Array Value} {h0 : Heap} {n0 : Nat} (d : Int32) (x : UInt64)
    (X0 : Stand p l e ({ frames := 2, cells := 2, slots := 20, locals := 40 } : Room) s m args below meth c_ T0 locs 0 0) (hx : p.tables.exec = Jvm.exec) (hZ : Z.Warmed39 s.vm) (hw : ∀ d ∈ tables_1, d.before a0 Z = true) (hby : c_.code = prog_6_method_3_code) (hml : c_.maxLocals = 4) (hown : s.vm.findClass "com/example/leapwise/leapwise/evolution/Affine" = some m.cls) (hnm : meth.name = "delay") (hret : meth.sig.returnType = some (.object "com/example/leapwise/leapwise/evolution/Affine")) (hlk : meth.locks = false) (e0 : T0.heap = h0) (Z0 : n0 ≤ h0.size) (N0 : Fr n0 locs) (hd0 : ¬ d < 0) (hd1 : d < 16) :
    Go p e below s ({ frames := 2, cells := 2, slots := 20, locals := 40 } : Room).cells ({ frames := 2, cells := 2, slots := 20, locals := 40 } : Room).slots (fun r h L => ∃ b q : Addr, r = some (.ref b) ∧ Fr n0 L ∧ Keep h0 h [] ∧ Exa Z h b "com/example/leapwise/leapwise/evolution/Affine" ∧ Fld Z h b "com/example/leapwise/leapwise/evolution/Affine" "value" "D" (.double x) ∧ Fld Z h b "com/example/leapwise/leapwise/evolution/Affine" "slopes" "[D" (.ref q) ∧ Fld Z h b "com/example/leapwise/leapwise/evolution/Affine" "rounding" "D" (.double (0 : UInt64)) ∧ Fld Z h b "com/example/leapwise/leapwise/evolution/Affine" "slopeRounding" "D" (.double (0 : UInt64)) ∧ Dv Z h q (d + (1 : Int32)) (updN (fun _ => (0 : UInt64)) (d).toNatClampNeg (4607182418800017408 : UInt64))) T0 (mkF m 0 #[.val (.int d), .val (.double x), .second, .unset] []) := by
  show Go _ _ _ _ _ _ _ T0 (mkF m 0 #[.val (.int d), .val (.double x), .second, .unset] [])
  refine Go.step (fun _ k => XS.iloadN X0.here hx rfl (hb hby d1_0) rfl k) ?_
  show Go _ _ _ _ _ _ _ T0 (mkF m 1 #[.val (.int d), .val (.double x), .second, .unset] [(.int d)])
  refine Go.step (fun _ k => XS.iconst X0.here hx rfl (hb hby d1_1) k) ?_
  show Go _ _ _ _ _ _ _ T0 (mkF m 2 #[.val (.int d), .val (.double x), .second, .unset] [(.int (1 : Int32)), (.int d)])
  refine Go.step (fun _ k => XS.iadd X0.here hx rfl (hb hby d1_2) rfl k) ?_
  show Go _ _ _ _ _ _ _ T0 (mkF m 3 #[.val (.int d), .val (.double x), .second, .unset] [(.int (d + (1 : Int32)))])
  obtain ⟨T1, h1, k1, X1, e1, E1, A1, st1⟩ := newP X0 hx hZ (hw _ (List.mem_of_getElem? (i := 4) rfl)) e0 (g := (mkF m 3 #[.val (.int d), .val (.double x), .second, .unset] [(.int (d + (1 : Int32)))])) rfl (hb hby d1_3) rfl (own_d1 hd0 hd1).1 (cap := 16) (own_d1 hd0 hd1).2.1 (by decide) (by decide) (by decide)
  obtain ⟨b1, g1⟩ : ∃ z, z = h0.size := ⟨_, rfl⟩
  rw [← g1] at A1 st1
  refine Go.step st1 ?_
  have K1 : Keep h0 h1 [] := (Keep.refl h0 []).ext E1
  have sz_b1 : h0.size ≤ b1 := Nat.le_trans ((Keep.refl h0 []) : Keep h0 h0 []).1 (Nat.le_of_eq g1.symm)
  have ge_b1 : n0 ≤ b1 := Nat.le_trans Z0 sz_b1
  have V_b1 : Dv Z h1 b1 (d + (1 : Int32)) (fun _ => (0 : UInt64)) := Fv.new A1 (own_d1 hd0 hd1).1
  show Go _ _ _ _ _ _ _ T1 (mkF m 5 #[.val (.int d), .val (.double x), .second, .unset] [(.ref b1)])
  refine Go.step (fun _ k => XS.astoreN X1.here hx rfl (hb hby d1_5) rfl rfl (l' := #[.val (.int d), .val (.double x), .second, .val (.ref b1)]) rfl k) ?_
  show Go _ _ _ _ _ _ _ T1 (mkF m 6 #[.val (.int d), .val (.double x), .second, .val (.ref b1)] [])
  refine Go.step (fun _ k => XS.aloadN X1.here hx rfl (hb hby d1_6) rfl rfl k) ?_
  show Go _ _ _ _ _ _ _ T1 (mkF m 7 #[.val (.int d), .val (.double x), .second, .val (.ref b1)] [(.ref b1)])
  refine Go.step (fun _ k => XS.iloadN X1.here hx rfl (hb hby d1_7) rfl k) ?_
  show Go _ _ _ _ _ _ _ T1 (mkF m 8 #[.val (.int d), .val (.double x), .second, .val (.ref b1)] [(.int d), (.ref b1)])
  refine Go.step (fun _ k => XS.dconst1 X1.here hx rfl (hb hby d1_8) rfl k) ?_
  show Go _ _ _ _ _ _ _ T1 (mkF m 9 #[.val (.int d), .val (.double x), .second, .val (.ref b1)] [(.double (4607182418800017408 : UInt64)), (.int d), (.ref b1)])
  refine Go.dastore X1 hx hZ e1 V_b1 (j := d) (x := (4607182418800017408 : UInt64)) ⟨hd0, (own_d1 hd0 hd1).2.2⟩ (hb hby d1_9) ?_
  intro T2 h2 X2 e2 W2 Vn2
  have V_b1_2 : Dv Z h2 b1 (d + (1 : Int32)) (updN (fun _ => (0 : UInt64)) (d).toNatClampNeg (4607182418800017408 : UInt64)) := Vn2
  have N2 := Fr.snoc X2 N0 ge_b1
  have K2 : Keep h0 h2 [] := K1.wr W2 (Or.inr sz_b1)
  show Go _ _ _ _ _ _ _ T2 (mkF m 10 #[.val (.int d), .val (.double x), .second, .val (.ref b1)] [])
  obtain ⟨T3, h3, X3, e3, E3, A3, D3, -, st3⟩ := newO X2 hx hZ hown (hw _ (List.mem_of_getElem? (i := 5) rfl)) (hw _ (List.mem_of_getElem? (i := 6) rfl)) (hw _ (List.mem_of_getElem? (i := 2) rfl)) e2 (g := (mkF m 10 #[.val (.int d), .val (.double x), .second, .val (.ref b1)] [])) rfl (hb hby d1_10) (by decide) (by decide)
  obtain ⟨b3, g3⟩ : ∃ z, z = h2.size := ⟨_, rfl⟩
  rw [← g3] at A3 D3 st3
  refine Go.step st3 ?_
  have K3 : Keep h0 h3 [] := K2.ext E3
  have sz_b3 : h0.size ≤ b3 := Nat.le_trans (K2 : Keep h0 h2 []).1 (Nat.le_of_eq g3.symm)
  have ge_b3 : n0 ≤ b3 := Nat.le_trans Z0 sz_b3
  have ne_b1_b3 : b1 ≠ b3 := Nat.ne_of_lt (Nat.lt_of_lt_of_le V_b1_2.lt (Nat.le_of_eq g3.symm))
  have V_b1_3 := V_b1_2.ext E3
  have E_b3 := A3
  have F_value_b3 : Fld Z h3 b3 "com/example/leapwise/leapwise/evolution/Affine" "value" "D" (.double (0 : UInt64)) := D3 (Or.inr (hw _ (List.mem_of_getElem? (i := 14) rfl))) (ty := .double) (by decide)
  have F_slopes_b3 : Fld Z h3 b3 "com/example/leapwise/leapwise/evolution/Affine" "slopes" "[D" .null := D3 (Or.inr (hw _ (List.mem_of_getElem? (i := 16) rfl))) (ty := (.array .double)) (by decide)
  have F_rounding_b3 : Fld Z h3 b3 "com/example/leapwise/leapwise/evolution/Affine" "rounding" "D" (.double (0 : UInt64)) := D3 (Or.inr (hw _ (List.mem_of_getElem? (i := 18) rfl))) (ty := .double) (by decide)
  have F_slopeRounding_b3 : Fld Z h3 b3 "com/example/leapwise/leapwise/evolution/Affine" "slopeRounding" "D" (.double (0 : UInt64)) := D3 (Or.inr (hw _ (List.mem_of_getElem? (i := 20) rfl))) (ty := .double) (by decide)
  show Go _ _ _ _ _ _ _ T3 (mkF m 13 #[.val (.int d), .val (.double x), .second, .val (.ref b1)] [(.ref b3)])
  refine Go.step (fun _ k => XS.dup X3.here hx rfl (hb hby d1_13) rfl rfl k) ?_
  show Go _ _ _ _ _ _ _ T3 (mkF m 14 #[.val (.int d), .val (.double x), .second, .val (.ref b1)] [(.ref b3), (.ref b3)])
  refine Go.step (fun _ k => XS.dloadN X3.here hx rfl (hb hby d1_14) rfl k) ?_
  show Go _ _ _ _ _ _ _ T3 (mkF m 15 #[.val (.int d), .val (.double x), .second, .val (.ref b1)] [(.double x), (.ref b3), (.ref b3)])
  refine Go.step (fun _ k => XS.aloadN X3.here hx rfl (hb hby d1_15) rfl rfl k) ?_
  show Go _ _ _ _ _ _ _ T3 (mkF m 16 #[.val (.int d), .val (.double x), .second, .val (.ref b1)] [(.ref b1), (.double x), (.ref b3), (.ref b3)])
  refine Go.step (fun _ k => XS.dconst0 X3.here hx rfl (hb hby d1_16) rfl k) ?_
  show Go _ _ _ _ _ _ _ T3 (mkF m 17 #[.val (.int d), .val (.double x), .second, .val (.ref b1)] [(.double (0 : UInt64)), (.ref b1), (.double x), (.ref b3), (.ref b3)])
  refine Go.step (fun _ k => XS.dconst0 X3.here hx rfl (hb hby d1_17) rfl k) ?_
  show Go _ _ _ _ _ _ _ T3 (mkF m 18 #[.val (.int d), .val (.double x), .second, .val (.ref b1)] [(.double (0 : UInt64)), (.double (0 : UInt64)), (.ref b1), (.double x), (.ref b3), (.ref b3)])
  refine Go.callI X3 hx hZ (by rw [hml]; rfl) (y := (⟨"com/example/leapwise/leapwise/evolution/Affine", "<init>", "(D[DDD)V"⟩ : MethodName)) (a := b3) (argsL := [(.double x), (.ref b1), (.double (0 : UInt64)), (.double (0 : UInt64))]) (rest := [(.ref b3)]) rfl hown (hw _ (List.mem_of_getElem? (i := 7) rfl)) (hw _ (List.mem_of_getElem? (i := 8) rfl)) (hw _ (List.mem_of_getElem? (i := 2) rfl)) (hw _ (List.mem_of_getElem? (i := 9) rfl)) (by decide) (rm2 l Z a0 hw b3 x b1 (0 : UInt64) (0 : UInt64) h3 n0 (Nat.le_trans Z0 (K3 : Keep h0 h3 []).1) E_b3 F_value_b3 F_slopes_b3 F_rounding_b3 F_slopeRounding_b3 ge_b3 ) e3 (hb hby d1_18) (lenOf pd_0 rfl) rfl rfl (W := 1) (Nat.le_of_eq rfl) (by decide) (by decide) (by decide) (by decide) ?_
  intro v4 T4 L4 X4 Q4
  obtain ⟨rfl, N4q, Kc4, Ec4, F4_value_b3, F4_slopes_b3, F4_rounding_b3, F4_slopeRounding_b3⟩ := Q4
  have N4 := Fr.app N2 N4q
  have V_b1_4 := V_b1_3.keep Kc4 (ninS ne_b1_b3 nin0)
  have E_b3_4 := E_b3.keep Kc4
  have KK4 : Keep h0 T4.heap [] := (K3 : Keep h0 h3 []).trans Kc4 (allS (Or.inr sz_b3) all0)
  show Go _ _ _ _ _ _ _ T4 (mkF m 21 #[.val (.int d), .val (.double x), .second, .val (.ref b1)] [(.ref b3)])
  refine Go.retR X4 hx hlk hret rfl rfl rfl (hb hby d1_21) (by decide) (by decide) ?_
  exact ⟨_, _, rfl, N4, KK4, E_b3_4, F4_value_b3, F4_slopes_b3, F4_rounding_b3, F4_slopeRounding_b3, V_b1_4⟩
theorem ef_rm1 (m : MethodId) (d : Int32) (x : UInt64) : entryFrame m #[(.int d), (.double x)] 4 = mkF m 0 #[.val (.int d), .val (.double x), .second, .unset] [] := by first | (simp [entryFrame, mkF, argsToLocals, Value.category]; done) | rfl
theorem rm1 (l : Launch) (Z : State) (a0 : Array Value) (hw : ∀ d ∈ tables_1, d.before a0 Z = true) (d : Int32) (x : UInt64) (h0 : Heap) (n0 : Nat) (Z0 : n0 ≤ h0.size) (hd0 : ¬ d < 0) (hd1 : d < 16) :
    Con l Z (⟨"com/example/leapwise/leapwise/evolution/Affine", "delay", "(ID)Lcom/example/leapwise/leapwise/evolution/Affine;"⟩ : MethodName) prog_6_method_3_code 4 (some (.object "com/example/leapwise/leapwise/evolution/Affine")) ({ frames := 2, cells := 2, slots := 20, locals := 40 } : Room) #[(.int d), (.double x)] h0 (fun r h L => ∃ b q : Addr, r = some (.ref b) ∧ Fr n0 L ∧ Keep h0 h [] ∧ Exa Z h b "com/example/leapwise/leapwise/evolution/Affine" ∧ Fld Z h b "com/example/leapwise/leapwise/evolution/Affine" "value" "D" (.double x) ∧ Fld Z h b "com/example/leapwise/leapwise/evolution/Affine" "slopes" "[D" (.ref q) ∧ Fld Z h b "com/example/leapwise/leapwise/evolution/Affine" "rounding" "D" (.double (0 : UInt64)) ∧ Fld Z h b "com/example/leapwise/leapwise/evolution/Affine" "slopeRounding" "D" (.double (0 : UInt64)) ∧ Dv Z h q (d + (1 : Int32)) (updN (fun _ => (0 : UInt64)) (d).toNatClampNeg (4607182418800017408 : UInt64))) :=
  con_of (plainFor_of_name pn_2) (fun p_ e_ s_ m_ b_ meth_ c_ T_ X_ hx hZ hby hml hown hnm hret hlk e0 => Go.cast (ef_rm1 m_ d x) (w1 d x X_ hx hZ hw hby hml hown hnm hret hlk e0 Z0 (Fr.nil n0) hd0 hd1))
theorem d4_0 : decode prog_6_method_4_code 0 = .ok (.aload_n 0, 1) := by decide +kernel
theorem d4_1 : decode prog_6_method_4_code 1 = .ok (.getfield 7, 3) := by decide +kernel
theorem d4_4 : decode prog_6_method_4_code 4 = .ok (.dreturn, 1) := by decide +kernel
set_option maxRecDepth 65536 in
set_option maxHeartbeats 40000000 in
theorem w4 {p : Program} {l : Launch} {e : Env} {s : State} {m : MethodId} {args : Array Value} {below : List Frame} {meth : Method} {c_ : Code} {T0 : State} {locs : List Loc} {Z : State} {a0 : Array Value} {h0 : Heap} {n0 : Nat} (a : Addr) (v : UInt64)
    (X0 : Stand p l e ({ frames := 0, cells := 0, slots := 0, locals := 0 } : Room) s m args below meth c_ T0 locs 0 0) (hx : p.tables.exec = Jvm.exec) (hZ : Z.Warmed39 s.vm) (hw : ∀ d ∈ tables_1, d.before a0 Z = true) (hby : c_.code = prog_6_method_4_code) (hml : c_.maxLocals = 1) (hown : s.vm.findClass "com/example/leapwise/leapwise/evolution/Affine" = some m.cls) (hnm : meth.name = "value") (hret : meth.sig.returnType = some .double) (hlk : meth.locks = false) (e0 : T0.heap = h0) (Z0 : n0 ≤ h0.size) (N0 : Fr n0 locs) (F_a : Fld Z h0 a "com/example/leapwise/leapwise/evolution/Affine" "value" "D" (.double v)) :
    Go p e below s ({ frames := 0, cells := 0, slots := 0, locals := 0 } : Room).cells ({ frames := 0, cells := 0, slots := 0, locals := 0 } : Room).slots (fun r h L => r = some (.double v) ∧ Fr n0 L ∧ h = h0) T0 (mkF m 0 #[.val (.ref a)] []) := by
  show Go _ _ _ _ _ _ _ T0 (mkF m 0 #[.val (.ref a)] [])
  refine Go.step (fun _ k => XS.aloadN X0.here hx rfl (hb hby d4_0) rfl rfl k) ?_
  show Go _ _ _ _ _ _ _ T0 (mkF m 1 #[.val (.ref a)] [(.ref a)])
  obtain ⟨T1, X1, e1, st1⟩ := getF X0 hx hZ hown (host := "") (Or.inl (hw _ (List.mem_of_getElem? (i := 13) rfl))) Via.refl e0 F_a (g := (mkF m 1 #[.val (.ref a)] [(.ref a)])) rfl rfl (hb hby d4_1)
  refine Go.step st1 ?_
  show Go _ _ _ _ _ _ _ T1 (mkF m 4 #[.val (.ref a)] [(.double v)])
  refine Go.retD X1 hx hlk hret (hb hby d4_4) (by decide) (by decide) ?_
  try rw [e1]
  exact ⟨rfl, N0, rfl⟩
theorem ef_rm4 (m : MethodId) (a : Addr) : entryFrame m #[(.ref a)] 1 = mkF m 0 #[.val (.ref a)] [] := by first | (simp [entryFrame, mkF, argsToLocals, Value.category]; done) | rfl
theorem rm4 (l : Launch) (Z : State) (a0 : Array Value) (hw : ∀ d ∈ tables_1, d.before a0 Z = true) (a : Addr) (v : UInt64) (h0 : Heap) (n0 : Nat) (Z0 : n0 ≤ h0.size) (F_a : Fld Z h0 a "com/example/leapwise/leapwise/evolution/Affine" "value" "D" (.double v)) :
    Con l Z (⟨"com/example/leapwise/leapwise/evolution/Affine", "value", "()D"⟩ : MethodName) prog_6_method_4_code 1 (some .double) ({ frames := 0, cells := 0, slots := 0, locals := 0 } : Room) #[(.ref a)] h0 (fun r h L => r = some (.double v) ∧ Fr n0 L ∧ h = h0) :=
  con_of (plainFor_of_name pn_2) (fun p_ e_ s_ m_ b_ meth_ c_ T_ X_ hx hZ hby hml hown hnm hret hlk e0 => Go.cast (ef_rm4 m_ a) (w4 a v X_ hx hZ hw hby hml hown hnm hret hlk e0 Z0 (Fr.nil n0) F_a))
theorem d7_0 : decode prog_6_method_7_code 0 = .ok (.aload_n 0, 1) := by decide +kernel
theorem d7_1 : decode prog_6_method_7_code 1 = .ok (.getfield 17, 3) := by decide +kernel
theorem d7_4 : decode prog_6_method_7_code 4 = .ok (.dreturn, 1) := by decide +kernel
set_option maxRecDepth 65536 in
set_option maxHeartbeats 40000000 in
theorem w7 {p : Program} {l : Launch} {e : Env} {s : State} {m : MethodId} {args : Array Value} {below : List Frame} {meth : Method} {c_ : Code} {T0 : State} {locs : List Loc} {Z : State} {a0 : Array Value} {h0 : Heap} {n0 : Nat} (a : Addr) (v : UInt64)
    (X0 : Stand p l e ({ frames := 0, cells := 0, slots := 0, locals := 0 } : Room) s m args below meth c_ T0 locs 0 0) (hx : p.tables.exec = Jvm.exec) (hZ : Z.Warmed39 s.vm) (hw : ∀ d ∈ tables_1, d.before a0 Z = true) (hby : c_.code = prog_6_method_7_code) (hml : c_.maxLocals = 1) (hown : s.vm.findClass "com/example/leapwise/leapwise/evolution/Affine" = some m.cls) (hnm : meth.name = "rounding") (hret : meth.sig.returnType = some .double) (hlk : meth.locks = false) (e0 : T0.heap = h0) (Z0 : n0 ≤ h0.size) (N0 : Fr n0 locs) (F_a : Fld Z h0 a "com/example/leapwise/leapwise/evolution/Affine" "rounding" "D" (.double v)) :
    Go p e below s ({ frames := 0, cells := 0, slots := 0, locals := 0 } : Room).cells ({ frames := 0, cells := 0, slots := 0, locals := 0 } : Room).slots (fun r h L => r = some (.double v) ∧ Fr n0 L ∧ h = h0) T0 (mkF m 0 #[.val (.ref a)] []) := by
  show Go _ _ _ _ _ _ _ T0 (mkF m 0 #[.val (.ref a)] [])
  refine Go.step (fun _ k => XS.aloadN X0.here hx rfl (hb hby d7_0) rfl rfl k) ?_
  show Go _ _ _ _ _ _ _ T0 (mkF m 1 #[.val (.ref a)] [(.ref a)])
  obtain ⟨T1, X1, e1, st1⟩ := getF X0 hx hZ hown (host := "") (Or.inl (hw _ (List.mem_of_getElem? (i := 17) rfl))) Via.refl e0 F_a (g := (mkF m 1 #[.val (.ref a)] [(.ref a)])) rfl rfl (hb hby d7_1)
  refine Go.step st1 ?_
  show Go _ _ _ _ _ _ _ T1 (mkF m 4 #[.val (.ref a)] [(.double v)])
  refine Go.retD X1 hx hlk hret (hb hby d7_4) (by decide) (by decide) ?_
  try rw [e1]
  exact ⟨rfl, N0, rfl⟩
theorem ef_rm7 (m : MethodId) (a : Addr) : entryFrame m #[(.ref a)] 1 = mkF m 0 #[.val (.ref a)] [] := by first | (simp [entryFrame, mkF, argsToLocals, Value.category]; done) | rfl
theorem rm7 (l : Launch) (Z : State) (a0 : Array Value) (hw : ∀ d ∈ tables_1, d.before a0 Z = true) (a : Addr) (v : UInt64) (h0 : Heap) (n0 : Nat) (Z0 : n0 ≤ h0.size) (F_a : Fld Z h0 a "com/example/leapwise/leapwise/evolution/Affine" "rounding" "D" (.double v)) :
    Con l Z (⟨"com/example/leapwise/leapwise/evolution/Affine", "rounding", "()D"⟩ : MethodName) prog_6_method_7_code 1 (some .double) ({ frames := 0, cells := 0, slots := 0, locals := 0 } : Room) #[(.ref a)] h0 (fun r h L => r = some (.double v) ∧ Fr n0 L ∧ h = h0) :=
  con_of (plainFor_of_name pn_2) (fun p_ e_ s_ m_ b_ meth_ c_ T_ X_ hx hZ hby hml hown hnm hret hlk e0 => Go.cast (ef_rm7 m_ a) (w7 a v X_ hx hZ hw hby hml hown hnm hret hlk e0 Z0 (Fr.nil n0) F_a))
theorem d8_0 : decode prog_6_method_8_code 0 = .ok (.aload_n 0, 1) := by decide +kernel
theorem d8_1 : decode prog_6_method_8_code 1 = .ok (.getfield 20, 3) := by decide +kernel
theorem d8_4 : decode prog_6_method_8_code 4 = .ok (.dreturn, 1) := by decide +kernel
set_option maxRecDepth 65536 in
set_option maxHeartbeats 40000000 in
theorem w8 {p : Program} {l : Launch} {e : Env} {s : State} {m : MethodId} {args : Array Value} {below : List Frame} {meth : Method} {c_ : Code} {T0 : State} {locs : List Loc} {Z : State} {a0 : Array Value} {h0 : Heap} {n0 : Nat} (a : Addr) (v : UInt64)
    (X0 : Stand p l e ({ frames := 0, cells := 0, slots := 0, locals := 0 } : Room) s m args below meth c_ T0 locs 0 0) (hx : p.tables.exec = Jvm.exec) (hZ : Z.Warmed39 s.vm) (hw : ∀ d ∈ tables_1, d.before a0 Z = true) (hby : c_.code = prog_6_method_8_code) (hml : c_.maxLocals = 1) (hown : s.vm.findClass "com/example/leapwise/leapwise/evolution/Affine" = some m.cls) (hnm : meth.name = "slopeRounding") (hret : meth.sig.returnType = some .double) (hlk : meth.locks = false) (e0 : T0.heap = h0) (Z0 : n0 ≤ h0.size) (N0 : Fr n0 locs) (F_a : Fld Z h0 a "com/example/leapwise/leapwise/evolution/Affine" "slopeRounding" "D" (.double v)) :
    Go p e below s ({ frames := 0, cells := 0, slots := 0, locals := 0 } : Room).cells ({ frames := 0, cells := 0, slots := 0, locals := 0 } : Room).slots (fun r h L => r = some (.double v) ∧ Fr n0 L ∧ h = h0) T0 (mkF m 0 #[.val (.ref a)] []) := by
  show Go _ _ _ _ _ _ _ T0 (mkF m 0 #[.val (.ref a)] [])
  refine Go.step (fun _ k => XS.aloadN X0.here hx rfl (hb hby d8_0) rfl rfl k) ?_
  show Go _ _ _ _ _ _ _ T0 (mkF m 1 #[.val (.ref a)] [(.ref a)])
  obtain ⟨T1, X1, e1, st1⟩ := getF X0 hx hZ hown (host := "") (Or.inl (hw _ (List.mem_of_getElem? (i := 19) rfl))) Via.refl e0 F_a (g := (mkF m 1 #[.val (.ref a)] [(.ref a)])) rfl rfl (hb hby d8_1)
  refine Go.step st1 ?_
  show Go _ _ _ _ _ _ _ T1 (mkF m 4 #[.val (.ref a)] [(.double v)])
  refine Go.retD X1 hx hlk hret (hb hby d8_4) (by decide) (by decide) ?_
  try rw [e1]
  exact ⟨rfl, N0, rfl⟩
theorem ef_rm8 (m : MethodId) (a : Addr) : entryFrame m #[(.ref a)] 1 = mkF m 0 #[.val (.ref a)] [] := by first | (simp [entryFrame, mkF, argsToLocals, Value.category]; done) | rfl
theorem rm8 (l : Launch) (Z : State) (a0 : Array Value) (hw : ∀ d ∈ tables_1, d.before a0 Z = true) (a : Addr) (v : UInt64) (h0 : Heap) (n0 : Nat) (Z0 : n0 ≤ h0.size) (F_a : Fld Z h0 a "com/example/leapwise/leapwise/evolution/Affine" "slopeRounding" "D" (.double v)) :
    Con l Z (⟨"com/example/leapwise/leapwise/evolution/Affine", "slopeRounding", "()D"⟩ : MethodName) prog_6_method_8_code 1 (some .double) ({ frames := 0, cells := 0, slots := 0, locals := 0 } : Room) #[(.ref a)] h0 (fun r h L => r = some (.double v) ∧ Fr n0 L ∧ h = h0) :=
  con_of (plainFor_of_name pn_2) (fun p_ e_ s_ m_ b_ meth_ c_ T_ X_ hx hZ hby hml hown hnm hret hlk e0 => Go.cast (ef_rm8 m_ a) (w8 a v X_ hx hZ hw hby hml hown hnm hret hlk e0 Z0 (Fr.nil n0) F_a))
theorem d5_0 : decode prog_6_method_5_code 0 = .ok (.iload_n 1, 1) := by decide +kernel
theorem d5_1 : decode prog_6_method_5_code 1 = .ok (.aload_n 0, 1) := by decide +kernel
theorem d5_2 : decode prog_6_method_5_code 2 = .ok (.getfield 13, 3) := by decide +kernel
theorem d5_5 : decode prog_6_method_5_code 5 = .ok (.arraylength, 1) := by decide +kernel
theorem d5_6 : decode prog_6_method_5_code 6 = .ok (.if_icmp .ge 12, 3) := by decide +kernel
theorem d5_9 : decode prog_6_method_5_code 9 = .ok (.aload_n 0, 1) := by decide +kernel
theorem d5_10 : decode prog_6_method_5_code 10 = .ok (.getfield 13, 3) := by decide +kernel
theorem d5_13 : decode prog_6_method_5_code 13 = .ok (.iload_n 1, 1) := by decide +kernel
theorem d5_14 : decode prog_6_method_5_code 14 = .ok (.daload, 1) := by decide +kernel
theorem d5_15 : decode prog_6_method_5_code 15 = .ok (.goto 4, 3) := by decide +kernel
theorem d5_19 : decode prog_6_method_5_code 19 = .ok (.dreturn, 1) := by decide +kernel
theorem d5_18 : decode prog_6_method_5_code 18 = .ok (.dconst 0, 1) := by decide +kernel
set_option maxRecDepth 65536 in
set_option maxHeartbeats 40000000 in
theorem w5 {p : Program} {l : Launch} {e : Env} {s : State} {m : MethodId} {args : Array Value} {below : List Frame} {meth : Method} {c_ : Code} {T0 : State} {locs : List Loc} {Z : State} {a0 : Array Value} {h0 : Heap} {n0 : Nat} (a : Addr) (i : Int32) (q : Addr) (n : Int32) (g : Nat → UInt64)
    (X0 : Stand p l e ({ frames := 0, cells := 0, slots := 0, locals := 0 } : Room) s m args below meth c_ T0 locs 0 0) (hx : p.tables.exec = Jvm.exec) (hZ : Z.Warmed39 s.vm) (hw : ∀ d ∈ tables_1, d.before a0 Z = true) (hby : c_.code = prog_6_method_5_code) (hml : c_.maxLocals = 2) (hown : s.vm.findClass "com/example/leapwise/leapwise/evolution/Affine" = some m.cls) (hnm : meth.name = "slope") (hret : meth.sig.returnType = some .double) (hlk : meth.locks = false) (e0 : T0.heap = h0) (Z0 : n0 ≤ h0.size) (N0 : Fr n0 locs) (F_a : Fld Z h0 a "com/example/leapwise/leapwise/evolution/Affine" "slopes" "[D" (.ref q)) (V_q : Dv Z h0 q n g) (hi : ¬ i < 0) :
    Go p e below s ({ frames := 0, cells := 0, slots := 0, locals := 0 } : Room).cells ({ frames := 0, cells := 0, slots := 0, locals := 0 } : Room).slots (fun r h L => r = some (.double (slopeW i n g)) ∧ Fr n0 L ∧ h = h0) T0 (mkF m 0 #[.val (.ref a), .val (.int i)] []) := by
  show Go _ _ _ _ _ _ _ T0 (mkF m 0 #[.val (.ref a), .val (.int i)] [])
  refine Go.step (fun _ k => XS.iloadN X0.here hx rfl (hb hby d5_0) rfl k) ?_
  show Go _ _ _ _ _ _ _ T0 (mkF m 1 #[.val (.ref a), .val (.int i)] [(.int i)])
  refine Go.step (fun _ k => XS.aloadN X0.here hx rfl (hb hby d5_1) rfl rfl k) ?_
  show Go _ _ _ _ _ _ _ T0 (mkF m 2 #[.val (.ref a), .val (.int i)] [(.ref a), (.int i)])
  obtain ⟨T1, X1, e1, st1⟩ := getF X0 hx hZ hown (host := "") (Or.inl (hw _ (List.mem_of_getElem? (i := 15) rfl))) Via.refl e0 F_a (g := (mkF m 2 #[.val (.ref a), .val (.int i)] [(.ref a), (.int i)])) rfl rfl (hb hby d5_2)
  refine Go.step st1 ?_
  show Go _ _ _ _ _ _ _ T1 (mkF m 5 #[.val (.ref a), .val (.int i)] [(.ref q), (.int i)])
  refine Go.alen X1 hx hZ e1 V_q (hb hby d5_5) ?_
  show Go _ _ _ _ _ _ _ T1 (mkF m 6 #[.val (.ref a), .val (.int i)] [(.int n), (.int i)])
  by_cases hc6_2 : i < n
  · refine Go.step (fun _ k => XS.icmpNo X1.here hx rfl (hb hby d5_6) rfl (tlt hc6_2).2.1 k) ?_
    show Go _ _ _ _ _ _ _ T1 (mkF m 9 #[.val (.ref a), .val (.int i)] [])
    refine Go.step (fun _ k => XS.aloadN X1.here hx rfl (hb hby d5_9) rfl rfl k) ?_
    show Go _ _ _ _ _ _ _ T1 (mkF m 10 #[.val (.ref a), .val (.int i)] [(.ref a)])
    obtain ⟨T3, X3, e3, st3⟩ := getF X1 hx hZ hown (host := "") (Or.inl (hw _ (List.mem_of_getElem? (i := 15) rfl))) Via.refl e1 F_a (g := (mkF m 10 #[.val (.ref a), .val (.int i)] [(.ref a)])) rfl rfl (hb hby d5_10)
    refine Go.step st3 ?_
    show Go _ _ _ _ _ _ _ T3 (mkF m 13 #[.val (.ref a), .val (.int i)] [(.ref q)])
    refine Go.step (fun _ k => XS.iloadN X3.here hx rfl (hb hby d5_13) rfl k) ?_
    show Go _ _ _ _ _ _ _ T3 (mkF m 14 #[.val (.ref a), .val (.int i)] [(.int i), (.ref q)])
    refine Go.daload X3 hx hZ e3 V_q (j := i) (v := (g (i).toNatClampNeg)) ⟨hi, hc6_2⟩ rfl (hb hby d5_14) ?_
    show Go _ _ _ _ _ _ _ T3 (mkF m 15 #[.val (.ref a), .val (.int i)] [(.double (g (i).toNatClampNeg))])
    refine Go.step (fun _ k => XS.goto X3.here hx rfl (pc0 := 15) (pc' := 19) rfl (hb hby d5_15) (by decide) (by decide) k) ?_
    show Go _ _ _ _ _ _ _ T3 (mkF m 19 #[.val (.ref a), .val (.int i)] [(.double (g (i).toNatClampNeg))])
    refine Go.retD X3 hx hlk hret (hb hby d5_19) (by decide) (by decide) ?_
    try rw [e3]
    exact ⟨by simp only [slopeW]; rw [if_pos hc6_2], N0, rfl⟩
  · refine Go.step (fun _ k => XS.icmpYes X1.here hx rfl (pc0 := 6) (pc' := 18) rfl (hb hby d5_6) rfl (flt hc6_2).2.1 (by decide) (by decide) k) ?_
    show Go _ _ _ _ _ _ _ T1 (mkF m 18 #[.val (.ref a), .val (.int i)] [])
    refine Go.step (fun _ k => XS.dconst0 X1.here hx rfl (hb hby d5_18) rfl k) ?_
    show Go _ _ _ _ _ _ _ T1 (mkF m 19 #[.val (.ref a), .val (.int i)] [(.double (0 : UInt64))])
    refine Go.retD X1 hx hlk hret (hb hby d5_19) (by decide) (by decide) ?_
    try rw [e1]
    exact ⟨by simp only [slopeW]; rw [if_neg hc6_2], N0, rfl⟩
theorem ef_rm5 (m : MethodId) (a : Addr) (i : Int32) : entryFrame m #[(.ref a), (.int i)] 2 = mkF m 0 #[.val (.ref a), .val (.int i)] [] := by first | (simp [entryFrame, mkF, argsToLocals, Value.category]; done) | rfl
theorem rm5 (l : Launch) (Z : State) (a0 : Array Value) (hw : ∀ d ∈ tables_1, d.before a0 Z = true) (a : Addr) (i : Int32) (q : Addr) (n : Int32) (g : Nat → UInt64) (h0 : Heap) (n0 : Nat) (Z0 : n0 ≤ h0.size) (F_a : Fld Z h0 a "com/example/leapwise/leapwise/evolution/Affine" "slopes" "[D" (.ref q)) (V_q : Dv Z h0 q n g) (hi : ¬ i < 0) :
    Con l Z (⟨"com/example/leapwise/leapwise/evolution/Affine", "slope", "(I)D"⟩ : MethodName) prog_6_method_5_code 2 (some .double) ({ frames := 0, cells := 0, slots := 0, locals := 0 } : Room) #[(.ref a), (.int i)] h0 (fun r h L => r = some (.double (slopeW i n g)) ∧ Fr n0 L ∧ h = h0) :=
  con_of (plainFor_of_name pn_2) (fun p_ e_ s_ m_ b_ meth_ c_ T_ X_ hx hZ hby hml hown hnm hret hlk e0 => Go.cast (ef_rm5 m_ a i) (w5 a i q n g X_ hx hZ hw hby hml hown hnm hret hlk e0 Z0 (Fr.nil n0) F_a V_q hi))
theorem d6_0 : decode prog_6_method_6_code 0 = .ok (.aload_n 0, 1) := by decide +kernel
theorem d6_1 : decode prog_6_method_6_code 1 = .ok (.getfield 13, 3) := by decide +kernel
theorem d6_4 : decode prog_6_method_6_code 4 = .ok (.arraylength, 1) := by decide +kernel
theorem d6_5 : decode prog_6_method_6_code 5 = .ok (.ireturn, 1) := by decide +kernel
set_option maxRecDepth 65536 in
set_option maxHeartbeats 40000000 in
theorem w6 {p : Program} {l : Launch} {e : Env} {s : State} {m : MethodId} {args : Array Value} {below : List Frame} {meth : Method} {c_ : Code} {T0 : State} {locs : List Loc} {Z : State} {a0 : Array Value} {h0 : Heap} {n0 : Nat} (a : Addr) (q : Addr) (n : Int32) (g : Nat → UInt64)
    (X0 : Stand p l e ({ frames := 0, cells := 0, slots := 0, locals := 0 } : Room) s m args below meth c_ T0 locs 0 0) (hx : p.tables.exec = Jvm.exec) (hZ : Z.Warmed39 s.vm) (hw : ∀ d ∈ tables_1, d.before a0 Z = true) (hby : c_.code = prog_6_method_6_code) (hml : c_.maxLocals = 1) (hown : s.vm.findClass "com/example/leapwise/leapwise/evolution/Affine" = some m.cls) (hnm : meth.name = "delays") (hret : meth.sig.returnType = some .int) (hlk : meth.locks = false) (e0 : T0.heap = h0) (Z0 : n0 ≤ h0.size) (N0 : Fr n0 locs) (F_a : Fld Z h0 a "com/example/leapwise/leapwise/evolution/Affine" "slopes" "[D" (.ref q)) (V_q : Dv Z h0 q n g) :
    Go p e below s ({ frames := 0, cells := 0, slots := 0, locals := 0 } : Room).cells ({ frames := 0, cells := 0, slots := 0, locals := 0 } : Room).slots (fun r h L => r = some (.int n) ∧ Fr n0 L ∧ h = h0) T0 (mkF m 0 #[.val (.ref a)] []) := by
  show Go _ _ _ _ _ _ _ T0 (mkF m 0 #[.val (.ref a)] [])
  refine Go.step (fun _ k => XS.aloadN X0.here hx rfl (hb hby d6_0) rfl rfl k) ?_
  show Go _ _ _ _ _ _ _ T0 (mkF m 1 #[.val (.ref a)] [(.ref a)])
  obtain ⟨T1, X1, e1, st1⟩ := getF X0 hx hZ hown (host := "") (Or.inl (hw _ (List.mem_of_getElem? (i := 15) rfl))) Via.refl e0 F_a (g := (mkF m 1 #[.val (.ref a)] [(.ref a)])) rfl rfl (hb hby d6_1)
  refine Go.step st1 ?_
  show Go _ _ _ _ _ _ _ T1 (mkF m 4 #[.val (.ref a)] [(.ref q)])
  refine Go.alen X1 hx hZ e1 V_q (hb hby d6_4) ?_
  show Go _ _ _ _ _ _ _ T1 (mkF m 5 #[.val (.ref a)] [(.int n)])
  refine Go.retI X1 hx hlk hret (hb hby d6_5) (by decide) (by decide) ?_
  try rw [e1]
  exact ⟨rfl, N0, rfl⟩
theorem ef_rm6 (m : MethodId) (a : Addr) : entryFrame m #[(.ref a)] 1 = mkF m 0 #[.val (.ref a)] [] := by first | (simp [entryFrame, mkF, argsToLocals, Value.category]; done) | rfl
theorem rm6 (l : Launch) (Z : State) (a0 : Array Value) (hw : ∀ d ∈ tables_1, d.before a0 Z = true) (a : Addr) (q : Addr) (n : Int32) (g : Nat → UInt64) (h0 : Heap) (n0 : Nat) (Z0 : n0 ≤ h0.size) (F_a : Fld Z h0 a "com/example/leapwise/leapwise/evolution/Affine" "slopes" "[D" (.ref q)) (V_q : Dv Z h0 q n g) :
    Con l Z (⟨"com/example/leapwise/leapwise/evolution/Affine", "delays", "()I"⟩ : MethodName) prog_6_method_6_code 1 (some .int) ({ frames := 0, cells := 0, slots := 0, locals := 0 } : Room) #[(.ref a)] h0 (fun r h L => r = some (.int n) ∧ Fr n0 L ∧ h = h0) :=
  con_of (plainFor_of_name pn_2) (fun p_ e_ s_ m_ b_ meth_ c_ T_ X_ hx hZ hby hml hown hnm hret hlk e0 => Go.cast (ef_rm6 m_ a) (w6 a q n g X_ hx hZ hw hby hml hown hnm hret hlk e0 Z0 (Fr.nil n0) F_a V_q))
theorem pd_1 : parseMethodDescriptor "(ID)Lcom/example/leapwise/leapwise/evolution/Affine;" = some ⟨[.int, .double], some (.object "com/example/leapwise/leapwise/evolution/Affine")⟩ := by decide +kernel
theorem pd_2 : parseMethodDescriptor "()D" = some ⟨[], some .double⟩ := by decide +kernel
theorem pd_3 : parseMethodDescriptor "(I)D" = some ⟨[.int], some .double⟩ := by decide +kernel
theorem pd_4 : parseMethodDescriptor "()I" = some ⟨[], some .int⟩ := by decide +kernel
set_option maxRecDepth 65536 in
set_option maxHeartbeats 40000000 in
theorem w0 {p : Program} {l : Launch} {e : Env} {s : State} {m : MethodId} {args : Array Value} {below : List Frame} {meth : Method} {c_ : Code} {T0 : State} {locs : List Loc} {Z : State} {a0 : Array Value} {h0 : Heap} {n0 : Nat} (p0 p1 p2 : Int32)
    (X0 : Stand p l e room_1 s m args below meth c_ T0 locs 0 0) (hx : p.tables.exec = Jvm.exec) (hZ : Z.Warmed39 s.vm) (hw : ∀ d ∈ tables_1, d.before a0 Z = true) (hby : c_.code = code) (hml : c_.maxLocals = maxLocals) (hown : s.vm.findClass "com/example/leapwise/leapwise/evolution/AffineDelayPinLaw" = some m.cls) (hnm : meth.name = "law") (hret : meth.sig.returnType = ret) (hlk : meth.locks = false) (e0 : T0.heap = h0) (Z0 : n0 ≤ h0.size) (N0 : Fr n0 locs)  :
    Go p e below s room_1.cells room_1.slots (fun r h L => r = some (.int 1) ∧ Fr n0 L) T0 (mkF m 0 #[.val (.int p0), .val (.int p1), .val (.int p2), .unset, .unset, .unset, .unset, .unset, .unset, .unset, .unset] []) := by
  have hret : meth.sig.returnType = some .boolean := hret
  show Go _ _ _ _ _ _ _ T0 (mkF m 0 #[.val (.int p0), .val (.int p1), .val (.int p2), .unset, .unset, .unset, .unset, .unset, .unset, .unset, .unset] [])
  refine Go.step (fun _ k => XS.iloadN X0.here hx rfl (hb hby at_0) rfl k) ?_
  show Go _ _ _ _ _ _ _ T0 (mkF m 1 #[.val (.int p0), .val (.int p1), .val (.int p2), .unset, .unset, .unset, .unset, .unset, .unset, .unset, .unset] [(.int p0)])
  refine Go.step (fun _ k => XS.bipush X0.here hx rfl (hb hby at_1) k) ?_
  show Go _ _ _ _ _ _ _ T0 (mkF m 3 #[.val (.int p0), .val (.int p1), .val (.int p2), .unset, .unset, .unset, .unset, .unset, .unset, .unset, .unset] [(.int (15 : Int32)), (.int p0)])
  refine Go.step (fun _ k => XS.iand X0.here hx rfl (hb hby at_3) rfl k) ?_
  show Go _ _ _ _ _ _ _ T0 (mkF m 4 #[.val (.int p0), .val (.int p1), .val (.int p2), .unset, .unset, .unset, .unset, .unset, .unset, .unset, .unset] [(.int (p0 &&& (15 : Int32)))])
  refine Go.step (fun _ k => XS.istoreN X0.here hx rfl (hb hby at_4) rfl (l' := #[.val (.int p0), .val (.int p1), .val (.int p2), .val (.int (p0 &&& (15 : Int32))), .unset, .unset, .unset, .unset, .unset, .unset, .unset]) rfl k) ?_
  show Go _ _ _ _ _ _ _ T0 (mkF m 5 #[.val (.int p0), .val (.int p1), .val (.int p2), .val (.int (p0 &&& (15 : Int32))), .unset, .unset, .unset, .unset, .unset, .unset, .unset] [])
  refine Go.step (fun _ k => XS.iloadN X0.here hx rfl (hb hby at_5) rfl k) ?_
  show Go _ _ _ _ _ _ _ T0 (mkF m 6 #[.val (.int p0), .val (.int p1), .val (.int p2), .val (.int (p0 &&& (15 : Int32))), .unset, .unset, .unset, .unset, .unset, .unset, .unset] [(.int p1)])
  refine Go.step (fun _ k => XS.bipush X0.here hx rfl (hb hby at_6) k) ?_
  show Go _ _ _ _ _ _ _ T0 (mkF m 8 #[.val (.int p0), .val (.int p1), .val (.int p2), .val (.int (p0 &&& (15 : Int32))), .unset, .unset, .unset, .unset, .unset, .unset, .unset] [(.int (31 : Int32)), (.int p1)])
  refine Go.step (fun _ k => XS.iand X0.here hx rfl (hb hby at_8) rfl k) ?_
  show Go _ _ _ _ _ _ _ T0 (mkF m 9 #[.val (.int p0), .val (.int p1), .val (.int p2), .val (.int (p0 &&& (15 : Int32))), .unset, .unset, .unset, .unset, .unset, .unset, .unset] [(.int (p1 &&& (31 : Int32)))])
  refine Go.step (fun _ k => XS.istore X0.here hx rfl (hb hby at_9) rfl (l' := #[.val (.int p0), .val (.int p1), .val (.int p2), .val (.int (p0 &&& (15 : Int32))), .val (.int (p1 &&& (31 : Int32))), .unset, .unset, .unset, .unset, .unset, .unset]) rfl k) ?_
  have hd := own_d p0
  have hj := own_j p1
  obtain ⟨d, h_d⟩ : ∃ z, z = (p0 &&& (15 : Int32)) := ⟨_, rfl⟩
  rw [← h_d]
  obtain ⟨j, h_j⟩ : ∃ z, z = (p1 &&& (31 : Int32)) := ⟨_, rfl⟩
  rw [← h_j]
  rw [← h_d] at hd
  rw [← h_j] at hj
  show Go _ _ _ _ _ _ _ T0 (mkF m 11 #[.val (.int p0), .val (.int p1), .val (.int p2), .val (.int d), .val (.int j), .unset, .unset, .unset, .unset, .unset, .unset] [])
  refine Go.step (fun _ k => XS.iloadN X0.here hx rfl (hb hby at_11) rfl k) ?_
  show Go _ _ _ _ _ _ _ T0 (mkF m 12 #[.val (.int p0), .val (.int p1), .val (.int p2), .val (.int d), .val (.int j), .unset, .unset, .unset, .unset, .unset, .unset] [(.int p2)])
  refine Go.step (fun _ k => XS.i2dS X0.here hx rfl (hb hby at_12) rfl rfl k) ?_
  show Go _ _ _ _ _ _ _ T0 (mkF m 13 #[.val (.int p0), .val (.int p1), .val (.int p2), .val (.int d), .val (.int j), .unset, .unset, .unset, .unset, .unset, .unset] [(.double (FP.i2d p2))])
  refine Go.step (fun _ k => XS.dstore X0.here hx rfl (hb hby at_13) rfl (l' := #[.val (.int p0), .val (.int p1), .val (.int p2), .val (.int d), .val (.int j), .val (.double (FP.i2d p2)), .second, .unset, .unset, .unset, .unset]) rfl k) ?_
  show Go _ _ _ _ _ _ _ T0 (mkF m 15 #[.val (.int p0), .val (.int p1), .val (.int p2), .val (.int d), .val (.int j), .val (.double (FP.i2d p2)), .second, .unset, .unset, .unset, .unset] [])
  refine Go.step (fun _ k => XS.iloadN X0.here hx rfl (hb hby at_15) rfl k) ?_
  show Go _ _ _ _ _ _ _ T0 (mkF m 16 #[.val (.int p0), .val (.int p1), .val (.int p2), .val (.int d), .val (.int j), .val (.double (FP.i2d p2)), .second, .unset, .unset, .unset, .unset] [(.int d)])
  refine Go.step (fun _ k => XS.dload X0.here hx rfl (hb hby at_16) rfl k) ?_
  show Go _ _ _ _ _ _ _ T0 (mkF m 18 #[.val (.int p0), .val (.int p1), .val (.int p2), .val (.int d), .val (.int j), .val (.double (FP.i2d p2)), .second, .unset, .unset, .unset, .unset] [(.double (FP.i2d p2)), (.int d)])
  refine Go.callS X0 hx hZ (by rw [hml]; rfl) (y := (⟨"com/example/leapwise/leapwise/evolution/Affine", "delay", "(ID)Lcom/example/leapwise/leapwise/evolution/Affine;"⟩ : MethodName)) (argsL := [(.int d), (.double (FP.i2d p2))]) (rest := []) hown (hw _ (List.mem_of_getElem? (i := 0) rfl)) (hw _ (List.mem_of_getElem? (i := 1) rfl)) (hw _ (List.mem_of_getElem? (i := 2) rfl)) (hw _ (List.mem_of_getElem? (i := 3) rfl)) (by decide) (rm1 l Z a0 hw d (FP.i2d p2) h0 n0 Z0 hd.1 hd.2) e0 (hb hby at_18) (lenOf pd_1 rfl) rfl rfl (W := 0) (Nat.le_of_eq rfl) (by decide) (by decide) (by decide) (by decide) ?_
  intro v1 T1 L1 X1 Q1
  obtain ⟨b1, q1, rfl, N1q, Kc1, Ec1, F1_1, F2_1, F3_1, F4_1, Vc1⟩ := Q1
  have N1 := Fr.app N0 N1q
  have KK1 : Keep h0 T1.heap [] := ((Keep.refl h0 []) : Keep h0 h0 []).trans Kc1 all0
  show Go _ _ _ _ _ _ _ T1 (mkF m 21 #[.val (.int p0), .val (.int p1), .val (.int p2), .val (.int d), .val (.int j), .val (.double (FP.i2d p2)), .second, .unset, .unset, .unset, .unset] [(.ref b1)])
  refine Go.step (fun _ k => XS.astore X1.here hx rfl (hb hby at_21) rfl rfl (l' := #[.val (.int p0), .val (.int p1), .val (.int p2), .val (.int d), .val (.int j), .val (.double (FP.i2d p2)), .second, .val (.ref b1), .unset, .unset, .unset]) rfl k) ?_
  show Go _ _ _ _ _ _ _ T1 (mkF m 23 #[.val (.int p0), .val (.int p1), .val (.int p2), .val (.int d), .val (.int j), .val (.double (FP.i2d p2)), .second, .val (.ref b1), .unset, .unset, .unset] [])
  refine Go.step (fun _ k => XS.aload X1.here hx rfl (hb hby at_23) rfl rfl k) ?_
  show Go _ _ _ _ _ _ _ T1 (mkF m 25 #[.val (.int p0), .val (.int p1), .val (.int p2), .val (.int d), .val (.int j), .val (.double (FP.i2d p2)), .second, .val (.ref b1), .unset, .unset, .unset] [(.ref b1)])
  refine Go.callV X1 hx hZ (by rw [hml]; rfl) (y := (⟨"com/example/leapwise/leapwise/evolution/Affine", "value", "()D"⟩ : MethodName)) (z := (⟨"com/example/leapwise/leapwise/evolution/Affine", "value", "()D"⟩ : MethodName)) (a := b1) (argsL := []) (rest := []) hown (hw _ (List.mem_of_getElem? (i := 21) rfl)) (hw _ (List.mem_of_getElem? (i := 22) rfl)) (notFace_of_selects (args := #[]) (mvT hZ (hw _ (List.mem_of_getElem? (i := 24) rfl)))) (hw _ (List.mem_of_getElem? (i := 24) rfl)) (hw _ (List.mem_of_getElem? (i := 23) rfl)) (hw _ (List.mem_of_getElem? (i := 2) rfl)) (hw _ (List.mem_of_getElem? (i := 25) rfl)) (by decide) (rm4 l Z a0 hw b1 (FP.i2d p2) T1.heap n0 (Nat.le_trans Z0 (KK1 : Keep h0 T1.heap []).1) F1_1) rfl Ec1 (hb hby at_25) (lenOf pd_2 rfl) rfl rfl (W := 0) (Nat.le_of_eq rfl) (by decide) (by decide) (by decide) (by decide) ?_
  intro v2 T2 L2 X2 Q2
  obtain ⟨rfl, N2q, hh2⟩ := Q2
  have N2 := Fr.app N1 N2q
  show Go _ _ _ _ _ _ _ T2 (mkF m 28 #[.val (.int p0), .val (.int p1), .val (.int p2), .val (.int d), .val (.int j), .val (.double (FP.i2d p2)), .second, .val (.ref b1), .unset, .unset, .unset] [(.double (FP.i2d p2))])
  refine Go.step (fun _ k => XS.dload X2.here hx rfl (hb hby at_28) rfl k) ?_
  show Go _ _ _ _ _ _ _ T2 (mkF m 30 #[.val (.int p0), .val (.int p1), .val (.int p2), .val (.int d), .val (.int j), .val (.double (FP.i2d p2)), .second, .val (.ref b1), .unset, .unset, .unset] [(.double (FP.i2d p2)), (.double (FP.i2d p2))])
  refine Go.step (fun _ k => XS.dcmpS X2.here hx rfl (hb hby at_30) rfl rfl k) ?_
  show Go _ _ _ _ _ _ _ T2 (mkF m 31 #[.val (.int p0), .val (.int p1), .val (.int p2), .val (.int d), .val (.int j), .val (.double (FP.i2d p2)), .second, .val (.ref b1), .unset, .unset, .unset] [(.int (cmpValue (FP.dcmp (FP.i2d p2) (FP.i2d p2)) .l))])
  refine Go.step (fun _ k => XS.ifNo X2.here hx rfl (hb hby at_31) rfl (eq_y .l (own_eqD rfl (Jvm.Free.Fl.i2d_fin _).noNaN)).1 k) ?_
  show Go _ _ _ _ _ _ _ T2 (mkF m 34 #[.val (.int p0), .val (.int p1), .val (.int p2), .val (.int d), .val (.int j), .val (.double (FP.i2d p2)), .second, .val (.ref b1), .unset, .unset, .unset] [])
  refine Go.step (fun _ k => XS.iconst X2.here hx rfl (hb hby at_34) k) ?_
  show Go _ _ _ _ _ _ _ T2 (mkF m 35 #[.val (.int p0), .val (.int p1), .val (.int p2), .val (.int d), .val (.int j), .val (.double (FP.i2d p2)), .second, .val (.ref b1), .unset, .unset, .unset] [(.int (1 : Int32))])
  refine Go.step (fun _ k => XS.goto X2.here hx rfl (pc0 := 35) (pc' := 39) rfl (hb hby at_35) (by decide) (by decide) k) ?_
  show Go _ _ _ _ _ _ _ T2 (mkF m 39 #[.val (.int p0), .val (.int p1), .val (.int p2), .val (.int d), .val (.int j), .val (.double (FP.i2d p2)), .second, .val (.ref b1), .unset, .unset, .unset] [(.int (1 : Int32))])
  refine Go.step (fun _ k => XS.istore X2.here hx rfl (hb hby at_39) rfl (l' := #[.val (.int p0), .val (.int p1), .val (.int p2), .val (.int d), .val (.int j), .val (.double (FP.i2d p2)), .second, .val (.ref b1), .val (.int (1 : Int32)), .unset, .unset]) rfl k) ?_
  show Go _ _ _ _ _ _ _ T2 (mkF m 41 #[.val (.int p0), .val (.int p1), .val (.int p2), .val (.int d), .val (.int j), .val (.double (FP.i2d p2)), .second, .val (.ref b1), .val (.int (1 : Int32)), .unset, .unset] [])
  refine Go.step (fun _ k => XS.iload X2.here hx rfl (hb hby at_41) rfl k) ?_
  show Go _ _ _ _ _ _ _ T2 (mkF m 43 #[.val (.int p0), .val (.int p1), .val (.int p2), .val (.int d), .val (.int j), .val (.double (FP.i2d p2)), .second, .val (.ref b1), .val (.int (1 : Int32)), .unset, .unset] [(.int (1 : Int32))])
  refine Go.step (fun _ k => XS.ifNo X2.here hx rfl (hb hby at_43) rfl ((if0 _ _).trans (feq (by decide : ¬ ((1 : Int32) = (0 : Int32)))).1) k) ?_
  show Go _ _ _ _ _ _ _ T2 (mkF m 46 #[.val (.int p0), .val (.int p1), .val (.int p2), .val (.int d), .val (.int j), .val (.double (FP.i2d p2)), .second, .val (.ref b1), .val (.int (1 : Int32)), .unset, .unset] [])
  refine Go.step (fun _ k => XS.aload X2.here hx rfl (hb hby at_46) rfl rfl k) ?_
  show Go _ _ _ _ _ _ _ T2 (mkF m 48 #[.val (.int p0), .val (.int p1), .val (.int p2), .val (.int d), .val (.int j), .val (.double (FP.i2d p2)), .second, .val (.ref b1), .val (.int (1 : Int32)), .unset, .unset] [(.ref b1)])
  refine Go.step (fun _ k => XS.iloadN X2.here hx rfl (hb hby at_48) rfl k) ?_
  show Go _ _ _ _ _ _ _ T2 (mkF m 49 #[.val (.int p0), .val (.int p1), .val (.int p2), .val (.int d), .val (.int j), .val (.double (FP.i2d p2)), .second, .val (.ref b1), .val (.int (1 : Int32)), .unset, .unset] [(.int d), (.ref b1)])
  refine Go.callV X2 hx hZ (by rw [hml]; rfl) (y := (⟨"com/example/leapwise/leapwise/evolution/Affine", "slope", "(I)D"⟩ : MethodName)) (z := (⟨"com/example/leapwise/leapwise/evolution/Affine", "slope", "(I)D"⟩ : MethodName)) (a := b1) (argsL := [(.int d)]) (rest := []) hown (hw _ (List.mem_of_getElem? (i := 26) rfl)) (hw _ (List.mem_of_getElem? (i := 27) rfl)) (notFace_of_selects (args := #[]) (mvT hZ (hw _ (List.mem_of_getElem? (i := 29) rfl)))) (hw _ (List.mem_of_getElem? (i := 29) rfl)) (hw _ (List.mem_of_getElem? (i := 28) rfl)) (hw _ (List.mem_of_getElem? (i := 2) rfl)) (hw _ (List.mem_of_getElem? (i := 30) rfl)) (by decide) (rm5 l Z a0 hw b1 d q1 (d + (1 : Int32)) (updN (fun _ => (0 : UInt64)) (d).toNatClampNeg (4607182418800017408 : UInt64)) T1.heap n0 (Nat.le_trans Z0 (KK1 : Keep h0 T1.heap []).1) F2_1 Vc1 hd.1) hh2 Ec1 (hb hby at_49) (lenOf pd_3 rfl) rfl rfl (W := 0) (Nat.le_of_eq rfl) (by decide) (by decide) (by decide) (by decide) ?_
  intro v3 T3 L3 X3 Q3
  obtain ⟨rfl, N3q, hh3⟩ := Q3
  have N3 := Fr.app N2 N3q
  show Go _ _ _ _ _ _ _ T3 (mkF m 52 #[.val (.int p0), .val (.int p1), .val (.int p2), .val (.int d), .val (.int j), .val (.double (FP.i2d p2)), .second, .val (.ref b1), .val (.int (1 : Int32)), .unset, .unset] [(.double (slopeW d (d + (1 : Int32)) (updN (fun _ => (0 : UInt64)) (d).toNatClampNeg (4607182418800017408 : UInt64))))])
  refine Go.step (fun _ k => XS.dconst1 X3.here hx rfl (hb hby at_52) rfl k) ?_
  show Go _ _ _ _ _ _ _ T3 (mkF m 53 #[.val (.int p0), .val (.int p1), .val (.int p2), .val (.int d), .val (.int j), .val (.double (FP.i2d p2)), .second, .val (.ref b1), .val (.int (1 : Int32)), .unset, .unset] [(.double (4607182418800017408 : UInt64)), (.double (slopeW d (d + (1 : Int32)) (updN (fun _ => (0 : UInt64)) (d).toNatClampNeg (4607182418800017408 : UInt64))))])
  refine Go.step (fun _ k => XS.dcmpS X3.here hx rfl (hb hby at_53) rfl rfl k) ?_
  show Go _ _ _ _ _ _ _ T3 (mkF m 54 #[.val (.int p0), .val (.int p1), .val (.int p2), .val (.int d), .val (.int j), .val (.double (FP.i2d p2)), .second, .val (.ref b1), .val (.int (1 : Int32)), .unset, .unset] [(.int (cmpValue (FP.dcmp (slopeW d (d + (1 : Int32)) (updN (fun _ => (0 : UInt64)) (d).toNatClampNeg (4607182418800017408 : UInt64))) (4607182418800017408 : UInt64)) .l))])
  refine Go.step (fun _ k => XS.ifNo X3.here hx rfl (hb hby at_54) rfl (eq_y .l (own_eqD (own_sl1 hd.1 hd.2) (by rw [own_sl1 hd.1 hd.2]; first | (unfold Jvm.Free.Fl.NoNaN64; decide +kernel) | decide +kernel))).1 k) ?_
  show Go _ _ _ _ _ _ _ T3 (mkF m 57 #[.val (.int p0), .val (.int p1), .val (.int p2), .val (.int d), .val (.int j), .val (.double (FP.i2d p2)), .second, .val (.ref b1), .val (.int (1 : Int32)), .unset, .unset] [])
  refine Go.step (fun _ k => XS.iconst X3.here hx rfl (hb hby at_57) k) ?_
  show Go _ _ _ _ _ _ _ T3 (mkF m 58 #[.val (.int p0), .val (.int p1), .val (.int p2), .val (.int d), .val (.int j), .val (.double (FP.i2d p2)), .second, .val (.ref b1), .val (.int (1 : Int32)), .unset, .unset] [(.int (1 : Int32))])
  refine Go.step (fun _ k => XS.goto X3.here hx rfl (pc0 := 58) (pc' := 62) rfl (hb hby at_58) (by decide) (by decide) k) ?_
  show Go _ _ _ _ _ _ _ T3 (mkF m 62 #[.val (.int p0), .val (.int p1), .val (.int p2), .val (.int d), .val (.int j), .val (.double (FP.i2d p2)), .second, .val (.ref b1), .val (.int (1 : Int32)), .unset, .unset] [(.int (1 : Int32))])
  refine Go.step (fun _ k => XS.istore X3.here hx rfl (hb hby at_62) rfl (l' := #[.val (.int p0), .val (.int p1), .val (.int p2), .val (.int d), .val (.int j), .val (.double (FP.i2d p2)), .second, .val (.ref b1), .val (.int (1 : Int32)), .unset, .unset]) rfl k) ?_
  show Go _ _ _ _ _ _ _ T3 (mkF m 64 #[.val (.int p0), .val (.int p1), .val (.int p2), .val (.int d), .val (.int j), .val (.double (FP.i2d p2)), .second, .val (.ref b1), .val (.int (1 : Int32)), .unset, .unset] [])
  refine Go.step (fun _ k => XS.iload X3.here hx rfl (hb hby at_64) rfl k) ?_
  show Go _ _ _ _ _ _ _ T3 (mkF m 66 #[.val (.int p0), .val (.int p1), .val (.int p2), .val (.int d), .val (.int j), .val (.double (FP.i2d p2)), .second, .val (.ref b1), .val (.int (1 : Int32)), .unset, .unset] [(.int j)])
  refine Go.step (fun _ k => XS.iloadN X3.here hx rfl (hb hby at_66) rfl k) ?_
  show Go _ _ _ _ _ _ _ T3 (mkF m 67 #[.val (.int p0), .val (.int p1), .val (.int p2), .val (.int d), .val (.int j), .val (.double (FP.i2d p2)), .second, .val (.ref b1), .val (.int (1 : Int32)), .unset, .unset] [(.int d), (.int j)])
  by_cases hc67_4 : j = d
  · refine Go.step (fun _ k => XS.icmpNo X3.here hx rfl (hb hby at_67) rfl (teq hc67_4).2 k) ?_
    show Go _ _ _ _ _ _ _ T3 (mkF m 70 #[.val (.int p0), .val (.int p1), .val (.int p2), .val (.int d), .val (.int j), .val (.double (FP.i2d p2)), .second, .val (.ref b1), .val (.int (1 : Int32)), .unset, .unset] [])
    refine Go.step (fun _ k => XS.dconst1 X3.here hx rfl (hb hby at_70) rfl k) ?_
    show Go _ _ _ _ _ _ _ T3 (mkF m 71 #[.val (.int p0), .val (.int p1), .val (.int p2), .val (.int d), .val (.int j), .val (.double (FP.i2d p2)), .second, .val (.ref b1), .val (.int (1 : Int32)), .unset, .unset] [(.double (4607182418800017408 : UInt64))])
    refine Go.step (fun _ k => XS.goto X3.here hx rfl (pc0 := 71) (pc' := 75) rfl (hb hby at_71) (by decide) (by decide) k) ?_
    show Go _ _ _ _ _ _ _ T3 (mkF m 75 #[.val (.int p0), .val (.int p1), .val (.int p2), .val (.int d), .val (.int j), .val (.double (FP.i2d p2)), .second, .val (.ref b1), .val (.int (1 : Int32)), .unset, .unset] [(.double (4607182418800017408 : UInt64))])
    refine Go.step (fun _ k => XS.dstore X3.here hx rfl (hb hby at_75) rfl (l' := #[.val (.int p0), .val (.int p1), .val (.int p2), .val (.int d), .val (.int j), .val (.double (FP.i2d p2)), .second, .val (.ref b1), .val (.int (1 : Int32)), .val (.double (4607182418800017408 : UInt64)), .second]) rfl k) ?_
    show Go _ _ _ _ _ _ _ T3 (mkF m 77 #[.val (.int p0), .val (.int p1), .val (.int p2), .val (.int d), .val (.int j), .val (.double (FP.i2d p2)), .second, .val (.ref b1), .val (.int (1 : Int32)), .val (.double (4607182418800017408 : UInt64)), .second] [])
    refine Go.step (fun _ k => XS.iload X3.here hx rfl (hb hby at_77) rfl k) ?_
    show Go _ _ _ _ _ _ _ T3 (mkF m 79 #[.val (.int p0), .val (.int p1), .val (.int p2), .val (.int d), .val (.int j), .val (.double (FP.i2d p2)), .second, .val (.ref b1), .val (.int (1 : Int32)), .val (.double (4607182418800017408 : UInt64)), .second] [(.int (1 : Int32))])
    refine Go.step (fun _ k => XS.ifNo X3.here hx rfl (hb hby at_79) rfl ((if0 _ _).trans (feq (by decide : ¬ ((1 : Int32) = (0 : Int32)))).1) k) ?_
    show Go _ _ _ _ _ _ _ T3 (mkF m 82 #[.val (.int p0), .val (.int p1), .val (.int p2), .val (.int d), .val (.int j), .val (.double (FP.i2d p2)), .second, .val (.ref b1), .val (.int (1 : Int32)), .val (.double (4607182418800017408 : UInt64)), .second] [])
    refine Go.step (fun _ k => XS.aload X3.here hx rfl (hb hby at_82) rfl rfl k) ?_
    show Go _ _ _ _ _ _ _ T3 (mkF m 84 #[.val (.int p0), .val (.int p1), .val (.int p2), .val (.int d), .val (.int j), .val (.double (FP.i2d p2)), .second, .val (.ref b1), .val (.int (1 : Int32)), .val (.double (4607182418800017408 : UInt64)), .second] [(.ref b1)])
    refine Go.step (fun _ k => XS.iload X3.here hx rfl (hb hby at_84) rfl k) ?_
    show Go _ _ _ _ _ _ _ T3 (mkF m 86 #[.val (.int p0), .val (.int p1), .val (.int p2), .val (.int d), .val (.int j), .val (.double (FP.i2d p2)), .second, .val (.ref b1), .val (.int (1 : Int32)), .val (.double (4607182418800017408 : UInt64)), .second] [(.int j), (.ref b1)])
    refine Go.callV X3 hx hZ (by rw [hml]; rfl) (y := (⟨"com/example/leapwise/leapwise/evolution/Affine", "slope", "(I)D"⟩ : MethodName)) (z := (⟨"com/example/leapwise/leapwise/evolution/Affine", "slope", "(I)D"⟩ : MethodName)) (a := b1) (argsL := [(.int j)]) (rest := []) hown (hw _ (List.mem_of_getElem? (i := 26) rfl)) (hw _ (List.mem_of_getElem? (i := 27) rfl)) (notFace_of_selects (args := #[]) (mvT hZ (hw _ (List.mem_of_getElem? (i := 29) rfl)))) (hw _ (List.mem_of_getElem? (i := 29) rfl)) (hw _ (List.mem_of_getElem? (i := 28) rfl)) (hw _ (List.mem_of_getElem? (i := 2) rfl)) (hw _ (List.mem_of_getElem? (i := 30) rfl)) (by decide) (rm5 l Z a0 hw b1 j q1 (d + (1 : Int32)) (updN (fun _ => (0 : UInt64)) (d).toNatClampNeg (4607182418800017408 : UInt64)) T1.heap n0 (Nat.le_trans Z0 (KK1 : Keep h0 T1.heap []).1) F2_1 Vc1 hj.1) hh3 Ec1 (hb hby at_86) (lenOf pd_3 rfl) rfl rfl (W := 0) (Nat.le_of_eq rfl) (by decide) (by decide) (by decide) (by decide) ?_
    intro v5 T5 L5 X5 Q5
    obtain ⟨rfl, N5q, hh5⟩ := Q5
    have N5 := Fr.app N3 N5q
    show Go _ _ _ _ _ _ _ T5 (mkF m 89 #[.val (.int p0), .val (.int p1), .val (.int p2), .val (.int d), .val (.int j), .val (.double (FP.i2d p2)), .second, .val (.ref b1), .val (.int (1 : Int32)), .val (.double (4607182418800017408 : UInt64)), .second] [(.double (slopeW j (d + (1 : Int32)) (updN (fun _ => (0 : UInt64)) (d).toNatClampNeg (4607182418800017408 : UInt64))))])
    refine Go.step (fun _ k => XS.dload X5.here hx rfl (hb hby at_89) rfl k) ?_
    show Go _ _ _ _ _ _ _ T5 (mkF m 91 #[.val (.int p0), .val (.int p1), .val (.int p2), .val (.int d), .val (.int j), .val (.double (FP.i2d p2)), .second, .val (.ref b1), .val (.int (1 : Int32)), .val (.double (4607182418800017408 : UInt64)), .second] [(.double (4607182418800017408 : UInt64)), (.double (slopeW j (d + (1 : Int32)) (updN (fun _ => (0 : UInt64)) (d).toNatClampNeg (4607182418800017408 : UInt64))))])
    refine Go.step (fun _ k => XS.dcmpS X5.here hx rfl (hb hby at_91) rfl rfl k) ?_
    show Go _ _ _ _ _ _ _ T5 (mkF m 92 #[.val (.int p0), .val (.int p1), .val (.int p2), .val (.int d), .val (.int j), .val (.double (FP.i2d p2)), .second, .val (.ref b1), .val (.int (1 : Int32)), .val (.double (4607182418800017408 : UInt64)), .second] [(.int (cmpValue (FP.dcmp (slopeW j (d + (1 : Int32)) (updN (fun _ => (0 : UInt64)) (d).toNatClampNeg (4607182418800017408 : UInt64))) (4607182418800017408 : UInt64)) .l))])
    refine Go.step (fun _ k => XS.ifNo X5.here hx rfl (hb hby at_92) rfl (eq_y .l (own_eqD (by rw [hc67_4]; exact own_sl1 hd.1 hd.2) (by rw [hc67_4, own_sl1 hd.1 hd.2]; first | (unfold Jvm.Free.Fl.NoNaN64; decide +kernel) | decide +kernel))).1 k) ?_
    show Go _ _ _ _ _ _ _ T5 (mkF m 95 #[.val (.int p0), .val (.int p1), .val (.int p2), .val (.int d), .val (.int j), .val (.double (FP.i2d p2)), .second, .val (.ref b1), .val (.int (1 : Int32)), .val (.double (4607182418800017408 : UInt64)), .second] [])
    refine Go.step (fun _ k => XS.iconst X5.here hx rfl (hb hby at_95) k) ?_
    show Go _ _ _ _ _ _ _ T5 (mkF m 96 #[.val (.int p0), .val (.int p1), .val (.int p2), .val (.int d), .val (.int j), .val (.double (FP.i2d p2)), .second, .val (.ref b1), .val (.int (1 : Int32)), .val (.double (4607182418800017408 : UInt64)), .second] [(.int (1 : Int32))])
    refine Go.step (fun _ k => XS.goto X5.here hx rfl (pc0 := 96) (pc' := 100) rfl (hb hby at_96) (by decide) (by decide) k) ?_
    show Go _ _ _ _ _ _ _ T5 (mkF m 100 #[.val (.int p0), .val (.int p1), .val (.int p2), .val (.int d), .val (.int j), .val (.double (FP.i2d p2)), .second, .val (.ref b1), .val (.int (1 : Int32)), .val (.double (4607182418800017408 : UInt64)), .second] [(.int (1 : Int32))])
    refine Go.step (fun _ k => XS.istore X5.here hx rfl (hb hby at_100) rfl (l' := #[.val (.int p0), .val (.int p1), .val (.int p2), .val (.int d), .val (.int j), .val (.double (FP.i2d p2)), .second, .val (.ref b1), .val (.int (1 : Int32)), .val (.double (4607182418800017408 : UInt64)), .second]) rfl k) ?_
    show Go _ _ _ _ _ _ _ T5 (mkF m 102 #[.val (.int p0), .val (.int p1), .val (.int p2), .val (.int d), .val (.int j), .val (.double (FP.i2d p2)), .second, .val (.ref b1), .val (.int (1 : Int32)), .val (.double (4607182418800017408 : UInt64)), .second] [])
    refine Go.step (fun _ k => XS.iload X5.here hx rfl (hb hby at_102) rfl k) ?_
    show Go _ _ _ _ _ _ _ T5 (mkF m 104 #[.val (.int p0), .val (.int p1), .val (.int p2), .val (.int d), .val (.int j), .val (.double (FP.i2d p2)), .second, .val (.ref b1), .val (.int (1 : Int32)), .val (.double (4607182418800017408 : UInt64)), .second] [(.int (1 : Int32))])
    refine Go.step (fun _ k => XS.ifNo X5.here hx rfl (hb hby at_104) rfl ((if0 _ _).trans (feq (by decide : ¬ ((1 : Int32) = (0 : Int32)))).1) k) ?_
    show Go _ _ _ _ _ _ _ T5 (mkF m 107 #[.val (.int p0), .val (.int p1), .val (.int p2), .val (.int d), .val (.int j), .val (.double (FP.i2d p2)), .second, .val (.ref b1), .val (.int (1 : Int32)), .val (.double (4607182418800017408 : UInt64)), .second] [])
    refine Go.step (fun _ k => XS.aload X5.here hx rfl (hb hby at_107) rfl rfl k) ?_
    show Go _ _ _ _ _ _ _ T5 (mkF m 109 #[.val (.int p0), .val (.int p1), .val (.int p2), .val (.int d), .val (.int j), .val (.double (FP.i2d p2)), .second, .val (.ref b1), .val (.int (1 : Int32)), .val (.double (4607182418800017408 : UInt64)), .second] [(.ref b1)])
    refine Go.callV X5 hx hZ (by rw [hml]; rfl) (y := (⟨"com/example/leapwise/leapwise/evolution/Affine", "delays", "()I"⟩ : MethodName)) (z := (⟨"com/example/leapwise/leapwise/evolution/Affine", "delays", "()I"⟩ : MethodName)) (a := b1) (argsL := []) (rest := []) hown (hw _ (List.mem_of_getElem? (i := 31) rfl)) (hw _ (List.mem_of_getElem? (i := 32) rfl)) (notFace_of_selects (args := #[]) (mvT hZ (hw _ (List.mem_of_getElem? (i := 34) rfl)))) (hw _ (List.mem_of_getElem? (i := 34) rfl)) (hw _ (List.mem_of_getElem? (i := 33) rfl)) (hw _ (List.mem_of_getElem? (i := 2) rfl)) (hw _ (List.mem_of_getElem? (i := 35) rfl)) (by decide) (rm6 l Z a0 hw b1 q1 (d + (1 : Int32)) (updN (fun _ => (0 : UInt64)) (d).toNatClampNeg (4607182418800017408 : UInt64)) T1.heap n0 (Nat.le_trans Z0 (KK1 : Keep h0 T1.heap []).1) F2_1 Vc1) hh5 Ec1 (hb hby at_109) (lenOf pd_4 rfl) rfl rfl (W := 0) (Nat.le_of_eq rfl) (by decide) (by decide) (by decide) (by decide) ?_
    intro v6 T6 L6 X6 Q6
    obtain ⟨rfl, N6q, hh6⟩ := Q6
    have N6 := Fr.app N5 N6q
    show Go _ _ _ _ _ _ _ T6 (mkF m 112 #[.val (.int p0), .val (.int p1), .val (.int p2), .val (.int d), .val (.int j), .val (.double (FP.i2d p2)), .second, .val (.ref b1), .val (.int (1 : Int32)), .val (.double (4607182418800017408 : UInt64)), .second] [(.int (d + (1 : Int32)))])
    refine Go.step (fun _ k => XS.iloadN X6.here hx rfl (hb hby at_112) rfl k) ?_
    show Go _ _ _ _ _ _ _ T6 (mkF m 113 #[.val (.int p0), .val (.int p1), .val (.int p2), .val (.int d), .val (.int j), .val (.double (FP.i2d p2)), .second, .val (.ref b1), .val (.int (1 : Int32)), .val (.double (4607182418800017408 : UInt64)), .second] [(.int d), (.int (d + (1 : Int32)))])
    refine Go.step (fun _ k => XS.iconst X6.here hx rfl (hb hby at_113) k) ?_
    show Go _ _ _ _ _ _ _ T6 (mkF m 114 #[.val (.int p0), .val (.int p1), .val (.int p2), .val (.int d), .val (.int j), .val (.double (FP.i2d p2)), .second, .val (.ref b1), .val (.int (1 : Int32)), .val (.double (4607182418800017408 : UInt64)), .second] [(.int (1 : Int32)), (.int d), (.int (d + (1 : Int32)))])
    refine Go.step (fun _ k => XS.iadd X6.here hx rfl (hb hby at_114) rfl k) ?_
    show Go _ _ _ _ _ _ _ T6 (mkF m 115 #[.val (.int p0), .val (.int p1), .val (.int p2), .val (.int d), .val (.int j), .val (.double (FP.i2d p2)), .second, .val (.ref b1), .val (.int (1 : Int32)), .val (.double (4607182418800017408 : UInt64)), .second] [(.int (d + (1 : Int32))), (.int (d + (1 : Int32)))])
    refine Go.step (fun _ k => XS.icmpNo X6.here hx rfl (hb hby at_115) rfl (teq (rfl : (d + (1 : Int32)) = (d + (1 : Int32)))).2 k) ?_
    show Go _ _ _ _ _ _ _ T6 (mkF m 118 #[.val (.int p0), .val (.int p1), .val (.int p2), .val (.int d), .val (.int j), .val (.double (FP.i2d p2)), .second, .val (.ref b1), .val (.int (1 : Int32)), .val (.double (4607182418800017408 : UInt64)), .second] [])
    refine Go.step (fun _ k => XS.iconst X6.here hx rfl (hb hby at_118) k) ?_
    show Go _ _ _ _ _ _ _ T6 (mkF m 119 #[.val (.int p0), .val (.int p1), .val (.int p2), .val (.int d), .val (.int j), .val (.double (FP.i2d p2)), .second, .val (.ref b1), .val (.int (1 : Int32)), .val (.double (4607182418800017408 : UInt64)), .second] [(.int (1 : Int32))])
    refine Go.step (fun _ k => XS.goto X6.here hx rfl (pc0 := 119) (pc' := 123) rfl (hb hby at_119) (by decide) (by decide) k) ?_
    show Go _ _ _ _ _ _ _ T6 (mkF m 123 #[.val (.int p0), .val (.int p1), .val (.int p2), .val (.int d), .val (.int j), .val (.double (FP.i2d p2)), .second, .val (.ref b1), .val (.int (1 : Int32)), .val (.double (4607182418800017408 : UInt64)), .second] [(.int (1 : Int32))])
    refine Go.step (fun _ k => XS.istore X6.here hx rfl (hb hby at_123) rfl (l' := #[.val (.int p0), .val (.int p1), .val (.int p2), .val (.int d), .val (.int j), .val (.double (FP.i2d p2)), .second, .val (.ref b1), .val (.int (1 : Int32)), .val (.double (4607182418800017408 : UInt64)), .second]) rfl k) ?_
    show Go _ _ _ _ _ _ _ T6 (mkF m 125 #[.val (.int p0), .val (.int p1), .val (.int p2), .val (.int d), .val (.int j), .val (.double (FP.i2d p2)), .second, .val (.ref b1), .val (.int (1 : Int32)), .val (.double (4607182418800017408 : UInt64)), .second] [])
    refine Go.step (fun _ k => XS.iload X6.here hx rfl (hb hby at_125) rfl k) ?_
    show Go _ _ _ _ _ _ _ T6 (mkF m 127 #[.val (.int p0), .val (.int p1), .val (.int p2), .val (.int d), .val (.int j), .val (.double (FP.i2d p2)), .second, .val (.ref b1), .val (.int (1 : Int32)), .val (.double (4607182418800017408 : UInt64)), .second] [(.int (1 : Int32))])
    refine Go.step (fun _ k => XS.ifNo X6.here hx rfl (hb hby at_127) rfl ((if0 _ _).trans (feq (by decide : ¬ ((1 : Int32) = (0 : Int32)))).1) k) ?_
    show Go _ _ _ _ _ _ _ T6 (mkF m 130 #[.val (.int p0), .val (.int p1), .val (.int p2), .val (.int d), .val (.int j), .val (.double (FP.i2d p2)), .second, .val (.ref b1), .val (.int (1 : Int32)), .val (.double (4607182418800017408 : UInt64)), .second] [])
    refine Go.step (fun _ k => XS.aload X6.here hx rfl (hb hby at_130) rfl rfl k) ?_
    show Go _ _ _ _ _ _ _ T6 (mkF m 132 #[.val (.int p0), .val (.int p1), .val (.int p2), .val (.int d), .val (.int j), .val (.double (FP.i2d p2)), .second, .val (.ref b1), .val (.int (1 : Int32)), .val (.double (4607182418800017408 : UInt64)), .second] [(.ref b1)])
    refine Go.callV X6 hx hZ (by rw [hml]; rfl) (y := (⟨"com/example/leapwise/leapwise/evolution/Affine", "rounding", "()D"⟩ : MethodName)) (z := (⟨"com/example/leapwise/leapwise/evolution/Affine", "rounding", "()D"⟩ : MethodName)) (a := b1) (argsL := []) (rest := []) hown (hw _ (List.mem_of_getElem? (i := 36) rfl)) (hw _ (List.mem_of_getElem? (i := 37) rfl)) (notFace_of_selects (args := #[]) (mvT hZ (hw _ (List.mem_of_getElem? (i := 39) rfl)))) (hw _ (List.mem_of_getElem? (i := 39) rfl)) (hw _ (List.mem_of_getElem? (i := 38) rfl)) (hw _ (List.mem_of_getElem? (i := 2) rfl)) (hw _ (List.mem_of_getElem? (i := 40) rfl)) (by decide) (rm7 l Z a0 hw b1 (0 : UInt64) T1.heap n0 (Nat.le_trans Z0 (KK1 : Keep h0 T1.heap []).1) F3_1) hh6 Ec1 (hb hby at_132) (lenOf pd_2 rfl) rfl rfl (W := 0) (Nat.le_of_eq rfl) (by decide) (by decide) (by decide) (by decide) ?_
    intro v7 T7 L7 X7 Q7
    obtain ⟨rfl, N7q, hh7⟩ := Q7
    have N7 := Fr.app N6 N7q
    show Go _ _ _ _ _ _ _ T7 (mkF m 135 #[.val (.int p0), .val (.int p1), .val (.int p2), .val (.int d), .val (.int j), .val (.double (FP.i2d p2)), .second, .val (.ref b1), .val (.int (1 : Int32)), .val (.double (4607182418800017408 : UInt64)), .second] [(.double (0 : UInt64))])
    refine Go.step (fun _ k => XS.dconst0 X7.here hx rfl (hb hby at_135) rfl k) ?_
    show Go _ _ _ _ _ _ _ T7 (mkF m 136 #[.val (.int p0), .val (.int p1), .val (.int p2), .val (.int d), .val (.int j), .val (.double (FP.i2d p2)), .second, .val (.ref b1), .val (.int (1 : Int32)), .val (.double (4607182418800017408 : UInt64)), .second] [(.double (0 : UInt64)), (.double (0 : UInt64))])
    refine Go.step (fun _ k => XS.dcmpS X7.here hx rfl (hb hby at_136) rfl rfl k) ?_
    show Go _ _ _ _ _ _ _ T7 (mkF m 137 #[.val (.int p0), .val (.int p1), .val (.int p2), .val (.int d), .val (.int j), .val (.double (FP.i2d p2)), .second, .val (.ref b1), .val (.int (1 : Int32)), .val (.double (4607182418800017408 : UInt64)), .second] [(.int (cmpValue (FP.dcmp (0 : UInt64) (0 : UInt64)) .l))])
    refine Go.step (fun _ k => XS.ifNo X7.here hx rfl (hb hby at_137) rfl (eq_y .l (by first | decide +kernel | (unfold Jvm.Free.Fl.Fin64; decide +kernel) | (unfold Jvm.Free.Fl.Nz64; decide +kernel) | (unfold Jvm.Free.Fl.NoNaN64; decide +kernel))).1 k) ?_
    show Go _ _ _ _ _ _ _ T7 (mkF m 140 #[.val (.int p0), .val (.int p1), .val (.int p2), .val (.int d), .val (.int j), .val (.double (FP.i2d p2)), .second, .val (.ref b1), .val (.int (1 : Int32)), .val (.double (4607182418800017408 : UInt64)), .second] [])
    refine Go.step (fun _ k => XS.iconst X7.here hx rfl (hb hby at_140) k) ?_
    show Go _ _ _ _ _ _ _ T7 (mkF m 141 #[.val (.int p0), .val (.int p1), .val (.int p2), .val (.int d), .val (.int j), .val (.double (FP.i2d p2)), .second, .val (.ref b1), .val (.int (1 : Int32)), .val (.double (4607182418800017408 : UInt64)), .second] [(.int (1 : Int32))])
    refine Go.step (fun _ k => XS.goto X7.here hx rfl (pc0 := 141) (pc' := 145) rfl (hb hby at_141) (by decide) (by decide) k) ?_
    show Go _ _ _ _ _ _ _ T7 (mkF m 145 #[.val (.int p0), .val (.int p1), .val (.int p2), .val (.int d), .val (.int j), .val (.double (FP.i2d p2)), .second, .val (.ref b1), .val (.int (1 : Int32)), .val (.double (4607182418800017408 : UInt64)), .second] [(.int (1 : Int32))])
    refine Go.step (fun _ k => XS.istore X7.here hx rfl (hb hby at_145) rfl (l' := #[.val (.int p0), .val (.int p1), .val (.int p2), .val (.int d), .val (.int j), .val (.double (FP.i2d p2)), .second, .val (.ref b1), .val (.int (1 : Int32)), .val (.double (4607182418800017408 : UInt64)), .second]) rfl k) ?_
    show Go _ _ _ _ _ _ _ T7 (mkF m 147 #[.val (.int p0), .val (.int p1), .val (.int p2), .val (.int d), .val (.int j), .val (.double (FP.i2d p2)), .second, .val (.ref b1), .val (.int (1 : Int32)), .val (.double (4607182418800017408 : UInt64)), .second] [])
    refine Go.step (fun _ k => XS.iload X7.here hx rfl (hb hby at_147) rfl k) ?_
    show Go _ _ _ _ _ _ _ T7 (mkF m 149 #[.val (.int p0), .val (.int p1), .val (.int p2), .val (.int d), .val (.int j), .val (.double (FP.i2d p2)), .second, .val (.ref b1), .val (.int (1 : Int32)), .val (.double (4607182418800017408 : UInt64)), .second] [(.int (1 : Int32))])
    refine Go.step (fun _ k => XS.ifNo X7.here hx rfl (hb hby at_149) rfl ((if0 _ _).trans (feq (by decide : ¬ ((1 : Int32) = (0 : Int32)))).1) k) ?_
    show Go _ _ _ _ _ _ _ T7 (mkF m 152 #[.val (.int p0), .val (.int p1), .val (.int p2), .val (.int d), .val (.int j), .val (.double (FP.i2d p2)), .second, .val (.ref b1), .val (.int (1 : Int32)), .val (.double (4607182418800017408 : UInt64)), .second] [])
    refine Go.step (fun _ k => XS.aload X7.here hx rfl (hb hby at_152) rfl rfl k) ?_
    show Go _ _ _ _ _ _ _ T7 (mkF m 154 #[.val (.int p0), .val (.int p1), .val (.int p2), .val (.int d), .val (.int j), .val (.double (FP.i2d p2)), .second, .val (.ref b1), .val (.int (1 : Int32)), .val (.double (4607182418800017408 : UInt64)), .second] [(.ref b1)])
    refine Go.callV X7 hx hZ (by rw [hml]; rfl) (y := (⟨"com/example/leapwise/leapwise/evolution/Affine", "slopeRounding", "()D"⟩ : MethodName)) (z := (⟨"com/example/leapwise/leapwise/evolution/Affine", "slopeRounding", "()D"⟩ : MethodName)) (a := b1) (argsL := []) (rest := []) hown (hw _ (List.mem_of_getElem? (i := 41) rfl)) (hw _ (List.mem_of_getElem? (i := 42) rfl)) (notFace_of_selects (args := #[]) (mvT hZ (hw _ (List.mem_of_getElem? (i := 44) rfl)))) (hw _ (List.mem_of_getElem? (i := 44) rfl)) (hw _ (List.mem_of_getElem? (i := 43) rfl)) (hw _ (List.mem_of_getElem? (i := 2) rfl)) (hw _ (List.mem_of_getElem? (i := 45) rfl)) (by decide) (rm8 l Z a0 hw b1 (0 : UInt64) T1.heap n0 (Nat.le_trans Z0 (KK1 : Keep h0 T1.heap []).1) F4_1) hh7 Ec1 (hb hby at_154) (lenOf pd_2 rfl) rfl rfl (W := 0) (Nat.le_of_eq rfl) (by decide) (by decide) (by decide) (by decide) ?_
    intro v8 T8 L8 X8 Q8
    obtain ⟨rfl, N8q, hh8⟩ := Q8
    have N8 := Fr.app N7 N8q
    show Go _ _ _ _ _ _ _ T8 (mkF m 157 #[.val (.int p0), .val (.int p1), .val (.int p2), .val (.int d), .val (.int j), .val (.double (FP.i2d p2)), .second, .val (.ref b1), .val (.int (1 : Int32)), .val (.double (4607182418800017408 : UInt64)), .second] [(.double (0 : UInt64))])
    refine Go.step (fun _ k => XS.dconst0 X8.here hx rfl (hb hby at_157) rfl k) ?_
    show Go _ _ _ _ _ _ _ T8 (mkF m 158 #[.val (.int p0), .val (.int p1), .val (.int p2), .val (.int d), .val (.int j), .val (.double (FP.i2d p2)), .second, .val (.ref b1), .val (.int (1 : Int32)), .val (.double (4607182418800017408 : UInt64)), .second] [(.double (0 : UInt64)), (.double (0 : UInt64))])
    refine Go.step (fun _ k => XS.dcmpS X8.here hx rfl (hb hby at_158) rfl rfl k) ?_
    show Go _ _ _ _ _ _ _ T8 (mkF m 159 #[.val (.int p0), .val (.int p1), .val (.int p2), .val (.int d), .val (.int j), .val (.double (FP.i2d p2)), .second, .val (.ref b1), .val (.int (1 : Int32)), .val (.double (4607182418800017408 : UInt64)), .second] [(.int (cmpValue (FP.dcmp (0 : UInt64) (0 : UInt64)) .l))])
    refine Go.step (fun _ k => XS.ifNo X8.here hx rfl (hb hby at_159) rfl (eq_y .l (by first | decide +kernel | (unfold Jvm.Free.Fl.Fin64; decide +kernel) | (unfold Jvm.Free.Fl.Nz64; decide +kernel) | (unfold Jvm.Free.Fl.NoNaN64; decide +kernel))).1 k) ?_
    show Go _ _ _ _ _ _ _ T8 (mkF m 162 #[.val (.int p0), .val (.int p1), .val (.int p2), .val (.int d), .val (.int j), .val (.double (FP.i2d p2)), .second, .val (.ref b1), .val (.int (1 : Int32)), .val (.double (4607182418800017408 : UInt64)), .second] [])
    refine Go.step (fun _ k => XS.iconst X8.here hx rfl (hb hby at_162) k) ?_
    show Go _ _ _ _ _ _ _ T8 (mkF m 163 #[.val (.int p0), .val (.int p1), .val (.int p2), .val (.int d), .val (.int j), .val (.double (FP.i2d p2)), .second, .val (.ref b1), .val (.int (1 : Int32)), .val (.double (4607182418800017408 : UInt64)), .second] [(.int (1 : Int32))])
    refine Go.step (fun _ k => XS.goto X8.here hx rfl (pc0 := 163) (pc' := 167) rfl (hb hby at_163) (by decide) (by decide) k) ?_
    show Go _ _ _ _ _ _ _ T8 (mkF m 167 #[.val (.int p0), .val (.int p1), .val (.int p2), .val (.int d), .val (.int j), .val (.double (FP.i2d p2)), .second, .val (.ref b1), .val (.int (1 : Int32)), .val (.double (4607182418800017408 : UInt64)), .second] [(.int (1 : Int32))])
    refine Go.step (fun _ k => XS.istore X8.here hx rfl (hb hby at_167) rfl (l' := #[.val (.int p0), .val (.int p1), .val (.int p2), .val (.int d), .val (.int j), .val (.double (FP.i2d p2)), .second, .val (.ref b1), .val (.int (1 : Int32)), .val (.double (4607182418800017408 : UInt64)), .second]) rfl k) ?_
    show Go _ _ _ _ _ _ _ T8 (mkF m 169 #[.val (.int p0), .val (.int p1), .val (.int p2), .val (.int d), .val (.int j), .val (.double (FP.i2d p2)), .second, .val (.ref b1), .val (.int (1 : Int32)), .val (.double (4607182418800017408 : UInt64)), .second] [])
    refine Go.step (fun _ k => XS.iload X8.here hx rfl (hb hby at_169) rfl k) ?_
    show Go _ _ _ _ _ _ _ T8 (mkF m 171 #[.val (.int p0), .val (.int p1), .val (.int p2), .val (.int d), .val (.int j), .val (.double (FP.i2d p2)), .second, .val (.ref b1), .val (.int (1 : Int32)), .val (.double (4607182418800017408 : UInt64)), .second] [(.int (1 : Int32))])
    refine Go.retZ X8 hx hlk hret (by decide) (hb hby at_171) (by decide) (by decide) ?_
    try rw [hh8]
    exact ⟨rfl, N8⟩
  · refine Go.step (fun _ k => XS.icmpYes X3.here hx rfl (pc0 := 67) (pc' := 74) rfl (hb hby at_67) rfl (feq hc67_4).2 (by decide) (by decide) k) ?_
    show Go _ _ _ _ _ _ _ T3 (mkF m 74 #[.val (.int p0), .val (.int p1), .val (.int p2), .val (.int d), .val (.int j), .val (.double (FP.i2d p2)), .second, .val (.ref b1), .val (.int (1 : Int32)), .unset, .unset] [])
    refine Go.step (fun _ k => XS.dconst0 X3.here hx rfl (hb hby at_74) rfl k) ?_
    show Go _ _ _ _ _ _ _ T3 (mkF m 75 #[.val (.int p0), .val (.int p1), .val (.int p2), .val (.int d), .val (.int j), .val (.double (FP.i2d p2)), .second, .val (.ref b1), .val (.int (1 : Int32)), .unset, .unset] [(.double (0 : UInt64))])
    refine Go.step (fun _ k => XS.dstore X3.here hx rfl (hb hby at_75) rfl (l' := #[.val (.int p0), .val (.int p1), .val (.int p2), .val (.int d), .val (.int j), .val (.double (FP.i2d p2)), .second, .val (.ref b1), .val (.int (1 : Int32)), .val (.double (0 : UInt64)), .second]) rfl k) ?_
    show Go _ _ _ _ _ _ _ T3 (mkF m 77 #[.val (.int p0), .val (.int p1), .val (.int p2), .val (.int d), .val (.int j), .val (.double (FP.i2d p2)), .second, .val (.ref b1), .val (.int (1 : Int32)), .val (.double (0 : UInt64)), .second] [])
    refine Go.step (fun _ k => XS.iload X3.here hx rfl (hb hby at_77) rfl k) ?_
    show Go _ _ _ _ _ _ _ T3 (mkF m 79 #[.val (.int p0), .val (.int p1), .val (.int p2), .val (.int d), .val (.int j), .val (.double (FP.i2d p2)), .second, .val (.ref b1), .val (.int (1 : Int32)), .val (.double (0 : UInt64)), .second] [(.int (1 : Int32))])
    refine Go.step (fun _ k => XS.ifNo X3.here hx rfl (hb hby at_79) rfl ((if0 _ _).trans (feq (by decide : ¬ ((1 : Int32) = (0 : Int32)))).1) k) ?_
    show Go _ _ _ _ _ _ _ T3 (mkF m 82 #[.val (.int p0), .val (.int p1), .val (.int p2), .val (.int d), .val (.int j), .val (.double (FP.i2d p2)), .second, .val (.ref b1), .val (.int (1 : Int32)), .val (.double (0 : UInt64)), .second] [])
    refine Go.step (fun _ k => XS.aload X3.here hx rfl (hb hby at_82) rfl rfl k) ?_
    show Go _ _ _ _ _ _ _ T3 (mkF m 84 #[.val (.int p0), .val (.int p1), .val (.int p2), .val (.int d), .val (.int j), .val (.double (FP.i2d p2)), .second, .val (.ref b1), .val (.int (1 : Int32)), .val (.double (0 : UInt64)), .second] [(.ref b1)])
    refine Go.step (fun _ k => XS.iload X3.here hx rfl (hb hby at_84) rfl k) ?_
    show Go _ _ _ _ _ _ _ T3 (mkF m 86 #[.val (.int p0), .val (.int p1), .val (.int p2), .val (.int d), .val (.int j), .val (.double (FP.i2d p2)), .second, .val (.ref b1), .val (.int (1 : Int32)), .val (.double (0 : UInt64)), .second] [(.int j), (.ref b1)])
    refine Go.callV X3 hx hZ (by rw [hml]; rfl) (y := (⟨"com/example/leapwise/leapwise/evolution/Affine", "slope", "(I)D"⟩ : MethodName)) (z := (⟨"com/example/leapwise/leapwise/evolution/Affine", "slope", "(I)D"⟩ : MethodName)) (a := b1) (argsL := [(.int j)]) (rest := []) hown (hw _ (List.mem_of_getElem? (i := 26) rfl)) (hw _ (List.mem_of_getElem? (i := 27) rfl)) (notFace_of_selects (args := #[]) (mvT hZ (hw _ (List.mem_of_getElem? (i := 29) rfl)))) (hw _ (List.mem_of_getElem? (i := 29) rfl)) (hw _ (List.mem_of_getElem? (i := 28) rfl)) (hw _ (List.mem_of_getElem? (i := 2) rfl)) (hw _ (List.mem_of_getElem? (i := 30) rfl)) (by decide) (rm5 l Z a0 hw b1 j q1 (d + (1 : Int32)) (updN (fun _ => (0 : UInt64)) (d).toNatClampNeg (4607182418800017408 : UInt64)) T1.heap n0 (Nat.le_trans Z0 (KK1 : Keep h0 T1.heap []).1) F2_1 Vc1 hj.1) hh3 Ec1 (hb hby at_86) (lenOf pd_3 rfl) rfl rfl (W := 0) (Nat.le_of_eq rfl) (by decide) (by decide) (by decide) (by decide) ?_
    intro v9 T9 L9 X9 Q9
    obtain ⟨rfl, N9q, hh9⟩ := Q9
    have N9 := Fr.app N3 N9q
    show Go _ _ _ _ _ _ _ T9 (mkF m 89 #[.val (.int p0), .val (.int p1), .val (.int p2), .val (.int d), .val (.int j), .val (.double (FP.i2d p2)), .second, .val (.ref b1), .val (.int (1 : Int32)), .val (.double (0 : UInt64)), .second] [(.double (slopeW j (d + (1 : Int32)) (updN (fun _ => (0 : UInt64)) (d).toNatClampNeg (4607182418800017408 : UInt64))))])
    refine Go.step (fun _ k => XS.dload X9.here hx rfl (hb hby at_89) rfl k) ?_
    show Go _ _ _ _ _ _ _ T9 (mkF m 91 #[.val (.int p0), .val (.int p1), .val (.int p2), .val (.int d), .val (.int j), .val (.double (FP.i2d p2)), .second, .val (.ref b1), .val (.int (1 : Int32)), .val (.double (0 : UInt64)), .second] [(.double (0 : UInt64)), (.double (slopeW j (d + (1 : Int32)) (updN (fun _ => (0 : UInt64)) (d).toNatClampNeg (4607182418800017408 : UInt64))))])
    refine Go.step (fun _ k => XS.dcmpS X9.here hx rfl (hb hby at_91) rfl rfl k) ?_
    show Go _ _ _ _ _ _ _ T9 (mkF m 92 #[.val (.int p0), .val (.int p1), .val (.int p2), .val (.int d), .val (.int j), .val (.double (FP.i2d p2)), .second, .val (.ref b1), .val (.int (1 : Int32)), .val (.double (0 : UInt64)), .second] [(.int (cmpValue (FP.dcmp (slopeW j (d + (1 : Int32)) (updN (fun _ => (0 : UInt64)) (d).toNatClampNeg (4607182418800017408 : UInt64))) (0 : UInt64)) .l))])
    refine Go.step (fun _ k => XS.ifNo X9.here hx rfl (hb hby at_92) rfl (eq_y .l (own_eqD (own_sl0 hd.1 hj.1 hc67_4) (by rw [own_sl0 hd.1 hj.1 hc67_4]; first | (unfold Jvm.Free.Fl.NoNaN64; decide +kernel) | decide +kernel))).1 k) ?_
    show Go _ _ _ _ _ _ _ T9 (mkF m 95 #[.val (.int p0), .val (.int p1), .val (.int p2), .val (.int d), .val (.int j), .val (.double (FP.i2d p2)), .second, .val (.ref b1), .val (.int (1 : Int32)), .val (.double (0 : UInt64)), .second] [])
    refine Go.step (fun _ k => XS.iconst X9.here hx rfl (hb hby at_95) k) ?_
    show Go _ _ _ _ _ _ _ T9 (mkF m 96 #[.val (.int p0), .val (.int p1), .val (.int p2), .val (.int d), .val (.int j), .val (.double (FP.i2d p2)), .second, .val (.ref b1), .val (.int (1 : Int32)), .val (.double (0 : UInt64)), .second] [(.int (1 : Int32))])
    refine Go.step (fun _ k => XS.goto X9.here hx rfl (pc0 := 96) (pc' := 100) rfl (hb hby at_96) (by decide) (by decide) k) ?_
    show Go _ _ _ _ _ _ _ T9 (mkF m 100 #[.val (.int p0), .val (.int p1), .val (.int p2), .val (.int d), .val (.int j), .val (.double (FP.i2d p2)), .second, .val (.ref b1), .val (.int (1 : Int32)), .val (.double (0 : UInt64)), .second] [(.int (1 : Int32))])
    refine Go.step (fun _ k => XS.istore X9.here hx rfl (hb hby at_100) rfl (l' := #[.val (.int p0), .val (.int p1), .val (.int p2), .val (.int d), .val (.int j), .val (.double (FP.i2d p2)), .second, .val (.ref b1), .val (.int (1 : Int32)), .val (.double (0 : UInt64)), .second]) rfl k) ?_
    show Go _ _ _ _ _ _ _ T9 (mkF m 102 #[.val (.int p0), .val (.int p1), .val (.int p2), .val (.int d), .val (.int j), .val (.double (FP.i2d p2)), .second, .val (.ref b1), .val (.int (1 : Int32)), .val (.double (0 : UInt64)), .second] [])
    refine Go.step (fun _ k => XS.iload X9.here hx rfl (hb hby at_102) rfl k) ?_
    show Go _ _ _ _ _ _ _ T9 (mkF m 104 #[.val (.int p0), .val (.int p1), .val (.int p2), .val (.int d), .val (.int j), .val (.double (FP.i2d p2)), .second, .val (.ref b1), .val (.int (1 : Int32)), .val (.double (0 : UInt64)), .second] [(.int (1 : Int32))])
    refine Go.step (fun _ k => XS.ifNo X9.here hx rfl (hb hby at_104) rfl ((if0 _ _).trans (feq (by decide : ¬ ((1 : Int32) = (0 : Int32)))).1) k) ?_
    show Go _ _ _ _ _ _ _ T9 (mkF m 107 #[.val (.int p0), .val (.int p1), .val (.int p2), .val (.int d), .val (.int j), .val (.double (FP.i2d p2)), .second, .val (.ref b1), .val (.int (1 : Int32)), .val (.double (0 : UInt64)), .second] [])
    refine Go.step (fun _ k => XS.aload X9.here hx rfl (hb hby at_107) rfl rfl k) ?_
    show Go _ _ _ _ _ _ _ T9 (mkF m 109 #[.val (.int p0), .val (.int p1), .val (.int p2), .val (.int d), .val (.int j), .val (.double (FP.i2d p2)), .second, .val (.ref b1), .val (.int (1 : Int32)), .val (.double (0 : UInt64)), .second] [(.ref b1)])
    refine Go.callV X9 hx hZ (by rw [hml]; rfl) (y := (⟨"com/example/leapwise/leapwise/evolution/Affine", "delays", "()I"⟩ : MethodName)) (z := (⟨"com/example/leapwise/leapwise/evolution/Affine", "delays", "()I"⟩ : MethodName)) (a := b1) (argsL := []) (rest := []) hown (hw _ (List.mem_of_getElem? (i := 31) rfl)) (hw _ (List.mem_of_getElem? (i := 32) rfl)) (notFace_of_selects (args := #[]) (mvT hZ (hw _ (List.mem_of_getElem? (i := 34) rfl)))) (hw _ (List.mem_of_getElem? (i := 34) rfl)) (hw _ (List.mem_of_getElem? (i := 33) rfl)) (hw _ (List.mem_of_getElem? (i := 2) rfl)) (hw _ (List.mem_of_getElem? (i := 35) rfl)) (by decide) (rm6 l Z a0 hw b1 q1 (d + (1 : Int32)) (updN (fun _ => (0 : UInt64)) (d).toNatClampNeg (4607182418800017408 : UInt64)) T1.heap n0 (Nat.le_trans Z0 (KK1 : Keep h0 T1.heap []).1) F2_1 Vc1) hh9 Ec1 (hb hby at_109) (lenOf pd_4 rfl) rfl rfl (W := 0) (Nat.le_of_eq rfl) (by decide) (by decide) (by decide) (by decide) ?_
    intro v10 T10 L10 X10 Q10
    obtain ⟨rfl, N10q, hh10⟩ := Q10
    have N10 := Fr.app N9 N10q
    show Go _ _ _ _ _ _ _ T10 (mkF m 112 #[.val (.int p0), .val (.int p1), .val (.int p2), .val (.int d), .val (.int j), .val (.double (FP.i2d p2)), .second, .val (.ref b1), .val (.int (1 : Int32)), .val (.double (0 : UInt64)), .second] [(.int (d + (1 : Int32)))])
    refine Go.step (fun _ k => XS.iloadN X10.here hx rfl (hb hby at_112) rfl k) ?_
    show Go _ _ _ _ _ _ _ T10 (mkF m 113 #[.val (.int p0), .val (.int p1), .val (.int p2), .val (.int d), .val (.int j), .val (.double (FP.i2d p2)), .second, .val (.ref b1), .val (.int (1 : Int32)), .val (.double (0 : UInt64)), .second] [(.int d), (.int (d + (1 : Int32)))])
    refine Go.step (fun _ k => XS.iconst X10.here hx rfl (hb hby at_113) k) ?_
    show Go _ _ _ _ _ _ _ T10 (mkF m 114 #[.val (.int p0), .val (.int p1), .val (.int p2), .val (.int d), .val (.int j), .val (.double (FP.i2d p2)), .second, .val (.ref b1), .val (.int (1 : Int32)), .val (.double (0 : UInt64)), .second] [(.int (1 : Int32)), (.int d), (.int (d + (1 : Int32)))])
    refine Go.step (fun _ k => XS.iadd X10.here hx rfl (hb hby at_114) rfl k) ?_
    show Go _ _ _ _ _ _ _ T10 (mkF m 115 #[.val (.int p0), .val (.int p1), .val (.int p2), .val (.int d), .val (.int j), .val (.double (FP.i2d p2)), .second, .val (.ref b1), .val (.int (1 : Int32)), .val (.double (0 : UInt64)), .second] [(.int (d + (1 : Int32))), (.int (d + (1 : Int32)))])
    refine Go.step (fun _ k => XS.icmpNo X10.here hx rfl (hb hby at_115) rfl (teq (rfl : (d + (1 : Int32)) = (d + (1 : Int32)))).2 k) ?_
    show Go _ _ _ _ _ _ _ T10 (mkF m 118 #[.val (.int p0), .val (.int p1), .val (.int p2), .val (.int d), .val (.int j), .val (.double (FP.i2d p2)), .second, .val (.ref b1), .val (.int (1 : Int32)), .val (.double (0 : UInt64)), .second] [])
    refine Go.step (fun _ k => XS.iconst X10.here hx rfl (hb hby at_118) k) ?_
    show Go _ _ _ _ _ _ _ T10 (mkF m 119 #[.val (.int p0), .val (.int p1), .val (.int p2), .val (.int d), .val (.int j), .val (.double (FP.i2d p2)), .second, .val (.ref b1), .val (.int (1 : Int32)), .val (.double (0 : UInt64)), .second] [(.int (1 : Int32))])
    refine Go.step (fun _ k => XS.goto X10.here hx rfl (pc0 := 119) (pc' := 123) rfl (hb hby at_119) (by decide) (by decide) k) ?_
    show Go _ _ _ _ _ _ _ T10 (mkF m 123 #[.val (.int p0), .val (.int p1), .val (.int p2), .val (.int d), .val (.int j), .val (.double (FP.i2d p2)), .second, .val (.ref b1), .val (.int (1 : Int32)), .val (.double (0 : UInt64)), .second] [(.int (1 : Int32))])
    refine Go.step (fun _ k => XS.istore X10.here hx rfl (hb hby at_123) rfl (l' := #[.val (.int p0), .val (.int p1), .val (.int p2), .val (.int d), .val (.int j), .val (.double (FP.i2d p2)), .second, .val (.ref b1), .val (.int (1 : Int32)), .val (.double (0 : UInt64)), .second]) rfl k) ?_
    show Go _ _ _ _ _ _ _ T10 (mkF m 125 #[.val (.int p0), .val (.int p1), .val (.int p2), .val (.int d), .val (.int j), .val (.double (FP.i2d p2)), .second, .val (.ref b1), .val (.int (1 : Int32)), .val (.double (0 : UInt64)), .second] [])
    refine Go.step (fun _ k => XS.iload X10.here hx rfl (hb hby at_125) rfl k) ?_
    show Go _ _ _ _ _ _ _ T10 (mkF m 127 #[.val (.int p0), .val (.int p1), .val (.int p2), .val (.int d), .val (.int j), .val (.double (FP.i2d p2)), .second, .val (.ref b1), .val (.int (1 : Int32)), .val (.double (0 : UInt64)), .second] [(.int (1 : Int32))])
    refine Go.step (fun _ k => XS.ifNo X10.here hx rfl (hb hby at_127) rfl ((if0 _ _).trans (feq (by decide : ¬ ((1 : Int32) = (0 : Int32)))).1) k) ?_
    show Go _ _ _ _ _ _ _ T10 (mkF m 130 #[.val (.int p0), .val (.int p1), .val (.int p2), .val (.int d), .val (.int j), .val (.double (FP.i2d p2)), .second, .val (.ref b1), .val (.int (1 : Int32)), .val (.double (0 : UInt64)), .second] [])
    refine Go.step (fun _ k => XS.aload X10.here hx rfl (hb hby at_130) rfl rfl k) ?_
    show Go _ _ _ _ _ _ _ T10 (mkF m 132 #[.val (.int p0), .val (.int p1), .val (.int p2), .val (.int d), .val (.int j), .val (.double (FP.i2d p2)), .second, .val (.ref b1), .val (.int (1 : Int32)), .val (.double (0 : UInt64)), .second] [(.ref b1)])
    refine Go.callV X10 hx hZ (by rw [hml]; rfl) (y := (⟨"com/example/leapwise/leapwise/evolution/Affine", "rounding", "()D"⟩ : MethodName)) (z := (⟨"com/example/leapwise/leapwise/evolution/Affine", "rounding", "()D"⟩ : MethodName)) (a := b1) (argsL := []) (rest := []) hown (hw _ (List.mem_of_getElem? (i := 36) rfl)) (hw _ (List.mem_of_getElem? (i := 37) rfl)) (notFace_of_selects (args := #[]) (mvT hZ (hw _ (List.mem_of_getElem? (i := 39) rfl)))) (hw _ (List.mem_of_getElem? (i := 39) rfl)) (hw _ (List.mem_of_getElem? (i := 38) rfl)) (hw _ (List.mem_of_getElem? (i := 2) rfl)) (hw _ (List.mem_of_getElem? (i := 40) rfl)) (by decide) (rm7 l Z a0 hw b1 (0 : UInt64) T1.heap n0 (Nat.le_trans Z0 (KK1 : Keep h0 T1.heap []).1) F3_1) hh10 Ec1 (hb hby at_132) (lenOf pd_2 rfl) rfl rfl (W := 0) (Nat.le_of_eq rfl) (by decide) (by decide) (by decide) (by decide) ?_
    intro v11 T11 L11 X11 Q11
    obtain ⟨rfl, N11q, hh11⟩ := Q11
    have N11 := Fr.app N10 N11q
    show Go _ _ _ _ _ _ _ T11 (mkF m 135 #[.val (.int p0), .val (.int p1), .val (.int p2), .val (.int d), .val (.int j), .val (.double (FP.i2d p2)), .second, .val (.ref b1), .val (.int (1 : Int32)), .val (.double (0 : UInt64)), .second] [(.double (0 : UInt64))])
    refine Go.step (fun _ k => XS.dconst0 X11.here hx rfl (hb hby at_135) rfl k) ?_
    show Go _ _ _ _ _ _ _ T11 (mkF m 136 #[.val (.int p0), .val (.int p1), .val (.int p2), .val (.int d), .val (.int j), .val (.double (FP.i2d p2)), .second, .val (.ref b1), .val (.int (1 : Int32)), .val (.double (0 : UInt64)), .second] [(.double (0 : UInt64)), (.double (0 : UInt64))])
    refine Go.step (fun _ k => XS.dcmpS X11.here hx rfl (hb hby at_136) rfl rfl k) ?_
    show Go _ _ _ _ _ _ _ T11 (mkF m 137 #[.val (.int p0), .val (.int p1), .val (.int p2), .val (.int d), .val (.int j), .val (.double (FP.i2d p2)), .second, .val (.ref b1), .val (.int (1 : Int32)), .val (.double (0 : UInt64)), .second] [(.int (cmpValue (FP.dcmp (0 : UInt64) (0 : UInt64)) .l))])
    refine Go.step (fun _ k => XS.ifNo X11.here hx rfl (hb hby at_137) rfl (eq_y .l (by first | decide +kernel | (unfold Jvm.Free.Fl.Fin64; decide +kernel) | (unfold Jvm.Free.Fl.Nz64; decide +kernel) | (unfold Jvm.Free.Fl.NoNaN64; decide +kernel))).1 k) ?_
    show Go _ _ _ _ _ _ _ T11 (mkF m 140 #[.val (.int p0), .val (.int p1), .val (.int p2), .val (.int d), .val (.int j), .val (.double (FP.i2d p2)), .second, .val (.ref b1), .val (.int (1 : Int32)), .val (.double (0 : UInt64)), .second] [])
    refine Go.step (fun _ k => XS.iconst X11.here hx rfl (hb hby at_140) k) ?_
    show Go _ _ _ _ _ _ _ T11 (mkF m 141 #[.val (.int p0), .val (.int p1), .val (.int p2), .val (.int d), .val (.int j), .val (.double (FP.i2d p2)), .second, .val (.ref b1), .val (.int (1 : Int32)), .val (.double (0 : UInt64)), .second] [(.int (1 : Int32))])
    refine Go.step (fun _ k => XS.goto X11.here hx rfl (pc0 := 141) (pc' := 145) rfl (hb hby at_141) (by decide) (by decide) k) ?_
    show Go _ _ _ _ _ _ _ T11 (mkF m 145 #[.val (.int p0), .val (.int p1), .val (.int p2), .val (.int d), .val (.int j), .val (.double (FP.i2d p2)), .second, .val (.ref b1), .val (.int (1 : Int32)), .val (.double (0 : UInt64)), .second] [(.int (1 : Int32))])
    refine Go.step (fun _ k => XS.istore X11.here hx rfl (hb hby at_145) rfl (l' := #[.val (.int p0), .val (.int p1), .val (.int p2), .val (.int d), .val (.int j), .val (.double (FP.i2d p2)), .second, .val (.ref b1), .val (.int (1 : Int32)), .val (.double (0 : UInt64)), .second]) rfl k) ?_
    show Go _ _ _ _ _ _ _ T11 (mkF m 147 #[.val (.int p0), .val (.int p1), .val (.int p2), .val (.int d), .val (.int j), .val (.double (FP.i2d p2)), .second, .val (.ref b1), .val (.int (1 : Int32)), .val (.double (0 : UInt64)), .second] [])
    refine Go.step (fun _ k => XS.iload X11.here hx rfl (hb hby at_147) rfl k) ?_
    show Go _ _ _ _ _ _ _ T11 (mkF m 149 #[.val (.int p0), .val (.int p1), .val (.int p2), .val (.int d), .val (.int j), .val (.double (FP.i2d p2)), .second, .val (.ref b1), .val (.int (1 : Int32)), .val (.double (0 : UInt64)), .second] [(.int (1 : Int32))])
    refine Go.step (fun _ k => XS.ifNo X11.here hx rfl (hb hby at_149) rfl ((if0 _ _).trans (feq (by decide : ¬ ((1 : Int32) = (0 : Int32)))).1) k) ?_
    show Go _ _ _ _ _ _ _ T11 (mkF m 152 #[.val (.int p0), .val (.int p1), .val (.int p2), .val (.int d), .val (.int j), .val (.double (FP.i2d p2)), .second, .val (.ref b1), .val (.int (1 : Int32)), .val (.double (0 : UInt64)), .second] [])
    refine Go.step (fun _ k => XS.aload X11.here hx rfl (hb hby at_152) rfl rfl k) ?_
    show Go _ _ _ _ _ _ _ T11 (mkF m 154 #[.val (.int p0), .val (.int p1), .val (.int p2), .val (.int d), .val (.int j), .val (.double (FP.i2d p2)), .second, .val (.ref b1), .val (.int (1 : Int32)), .val (.double (0 : UInt64)), .second] [(.ref b1)])
    refine Go.callV X11 hx hZ (by rw [hml]; rfl) (y := (⟨"com/example/leapwise/leapwise/evolution/Affine", "slopeRounding", "()D"⟩ : MethodName)) (z := (⟨"com/example/leapwise/leapwise/evolution/Affine", "slopeRounding", "()D"⟩ : MethodName)) (a := b1) (argsL := []) (rest := []) hown (hw _ (List.mem_of_getElem? (i := 41) rfl)) (hw _ (List.mem_of_getElem? (i := 42) rfl)) (notFace_of_selects (args := #[]) (mvT hZ (hw _ (List.mem_of_getElem? (i := 44) rfl)))) (hw _ (List.mem_of_getElem? (i := 44) rfl)) (hw _ (List.mem_of_getElem? (i := 43) rfl)) (hw _ (List.mem_of_getElem? (i := 2) rfl)) (hw _ (List.mem_of_getElem? (i := 45) rfl)) (by decide) (rm8 l Z a0 hw b1 (0 : UInt64) T1.heap n0 (Nat.le_trans Z0 (KK1 : Keep h0 T1.heap []).1) F4_1) hh11 Ec1 (hb hby at_154) (lenOf pd_2 rfl) rfl rfl (W := 0) (Nat.le_of_eq rfl) (by decide) (by decide) (by decide) (by decide) ?_
    intro v12 T12 L12 X12 Q12
    obtain ⟨rfl, N12q, hh12⟩ := Q12
    have N12 := Fr.app N11 N12q
    show Go _ _ _ _ _ _ _ T12 (mkF m 157 #[.val (.int p0), .val (.int p1), .val (.int p2), .val (.int d), .val (.int j), .val (.double (FP.i2d p2)), .second, .val (.ref b1), .val (.int (1 : Int32)), .val (.double (0 : UInt64)), .second] [(.double (0 : UInt64))])
    refine Go.step (fun _ k => XS.dconst0 X12.here hx rfl (hb hby at_157) rfl k) ?_
    show Go _ _ _ _ _ _ _ T12 (mkF m 158 #[.val (.int p0), .val (.int p1), .val (.int p2), .val (.int d), .val (.int j), .val (.double (FP.i2d p2)), .second, .val (.ref b1), .val (.int (1 : Int32)), .val (.double (0 : UInt64)), .second] [(.double (0 : UInt64)), (.double (0 : UInt64))])
    refine Go.step (fun _ k => XS.dcmpS X12.here hx rfl (hb hby at_158) rfl rfl k) ?_
    show Go _ _ _ _ _ _ _ T12 (mkF m 159 #[.val (.int p0), .val (.int p1), .val (.int p2), .val (.int d), .val (.int j), .val (.double (FP.i2d p2)), .second, .val (.ref b1), .val (.int (1 : Int32)), .val (.double (0 : UInt64)), .second] [(.int (cmpValue (FP.dcmp (0 : UInt64) (0 : UInt64)) .l))])
    refine Go.step (fun _ k => XS.ifNo X12.here hx rfl (hb hby at_159) rfl (eq_y .l (by first | decide +kernel | (unfold Jvm.Free.Fl.Fin64; decide +kernel) | (unfold Jvm.Free.Fl.Nz64; decide +kernel) | (unfold Jvm.Free.Fl.NoNaN64; decide +kernel))).1 k) ?_
    show Go _ _ _ _ _ _ _ T12 (mkF m 162 #[.val (.int p0), .val (.int p1), .val (.int p2), .val (.int d), .val (.int j), .val (.double (FP.i2d p2)), .second, .val (.ref b1), .val (.int (1 : Int32)), .val (.double (0 : UInt64)), .second] [])
    refine Go.step (fun _ k => XS.iconst X12.here hx rfl (hb hby at_162) k) ?_
    show Go _ _ _ _ _ _ _ T12 (mkF m 163 #[.val (.int p0), .val (.int p1), .val (.int p2), .val (.int d), .val (.int j), .val (.double (FP.i2d p2)), .second, .val (.ref b1), .val (.int (1 : Int32)), .val (.double (0 : UInt64)), .second] [(.int (1 : Int32))])
    refine Go.step (fun _ k => XS.goto X12.here hx rfl (pc0 := 163) (pc' := 167) rfl (hb hby at_163) (by decide) (by decide) k) ?_
    show Go _ _ _ _ _ _ _ T12 (mkF m 167 #[.val (.int p0), .val (.int p1), .val (.int p2), .val (.int d), .val (.int j), .val (.double (FP.i2d p2)), .second, .val (.ref b1), .val (.int (1 : Int32)), .val (.double (0 : UInt64)), .second] [(.int (1 : Int32))])
    refine Go.step (fun _ k => XS.istore X12.here hx rfl (hb hby at_167) rfl (l' := #[.val (.int p0), .val (.int p1), .val (.int p2), .val (.int d), .val (.int j), .val (.double (FP.i2d p2)), .second, .val (.ref b1), .val (.int (1 : Int32)), .val (.double (0 : UInt64)), .second]) rfl k) ?_
    show Go _ _ _ _ _ _ _ T12 (mkF m 169 #[.val (.int p0), .val (.int p1), .val (.int p2), .val (.int d), .val (.int j), .val (.double (FP.i2d p2)), .second, .val (.ref b1), .val (.int (1 : Int32)), .val (.double (0 : UInt64)), .second] [])
    refine Go.step (fun _ k => XS.iload X12.here hx rfl (hb hby at_169) rfl k) ?_
    show Go _ _ _ _ _ _ _ T12 (mkF m 171 #[.val (.int p0), .val (.int p1), .val (.int p2), .val (.int d), .val (.int j), .val (.double (FP.i2d p2)), .second, .val (.ref b1), .val (.int (1 : Int32)), .val (.double (0 : UInt64)), .second] [(.int (1 : Int32))])
    refine Go.retZ X12 hx hlk hret (by decide) (hb hby at_171) (by decide) (by decide) ?_
    try rw [hh12]
    exact ⟨rfl, N12⟩
theorem pn_0 : plainName "com/example/leapwise/leapwise/evolution/AffineDelayPinLaw" = true := by first | (simp [plainName, overriddenIn]; done) | decide +kernel
theorem ef_rm0 (m : MethodId) (p0 : Int32) (p1 : Int32) (p2 : Int32) : entryFrame m #[(.int p0), (.int p1), (.int p2)] maxLocals = mkF m 0 #[.val (.int p0), .val (.int p1), .val (.int p2), .unset, .unset, .unset, .unset, .unset, .unset, .unset, .unset] [] := by first | (simp [entryFrame, mkF, argsToLocals, Value.category, maxLocals]; done) | rfl
theorem rm0 (l : Launch) (Z : State) (a0 : Array Value) (hw : ∀ d ∈ tables_1, d.before a0 Z = true) (ws : List Jvm.Cond) (p0 p1 p2 : Int32) (h0 : Heap) (n0 : Nat) (Z0 : n0 ≤ h0.size)  :
    MetFree l x (head1 (Jvm.Cond.code x code maxLocals ret :: ws) room_1) (fun a U => a = #[(.int p0), (.int p1), (.int p2)] ∧ Z.Warmed39 U.vm ∧ U.heap = h0) (fun _ _ _ _ _ => True) (fun _ U o U' => ∃ v L, o = .returned v ∧ (fun r h L => r = some (.int 1) ∧ Fr n0 L) v U'.heap L ∧ FrameEnd U o U' L room_1.cells room_1.slots) :=
  con_of (plainFor_of_name pn_0) (fun p_ e_ s_ m_ b_ meth_ c_ T_ X_ hx hZ hby hml hown hnm hret hlk e0 => Go.cast (ef_rm0 m_ p0 p1 p2) (w0 p0 p1 p2 X_ hx hZ hw hby hml hown hnm hret hlk e0 Z0 (Fr.nil n0) ))
set_option maxRecDepth 65536 in
set_option maxHeartbeats 40000000 in
theorem comes_1 {Post : Tables → Env → Array Value → State → Outcome → State → Prop} (hpost : ∀ tb e args s v u, (limb_1_1.after args s (.returned v) u = true ∧ limb_1_2.after args s (.returned v) u = true ∧ True) → FrameEnd s (.returned v) u (Jvm.fieldLocs frame_1_writes args s ++ Jvm.arrayLocs frame_1_arrays args s ++ Jvm.staticLocs frame_1_statics s) 16 128 → Post tb e args s (.returned v) u) :
    ArmFor flags0 classFile x code maxLocals ret World_1 tables_1 room_1 Calls_1 rest_1 Pre_1 Post := by
  intro l hfl _ _ p e ha hc hk s m args below hf hA hF happ hP
  obtain ⟨hcalls, hrest, hpre⟩ := hP
  obtain ⟨-, -, -, hnamed, -, -, -, hat⟩ := (Spec.applies_iff hf).mp happ
  obtain ⟨hg, hn⟩ := and_e (Cond.before_iff.mp (show (Jvm.Cond.and given_1 narrow_1).before args s = true from hpre))
  obtain ⟨g1, g2⟩ := and_e hg
  obtain ⟨g3, g4⟩ := and_e g2
  obtain ⟨g5, g6⟩ := and_e g4
  obtain ⟨w0, w1, w2, rfl⟩ : ∃ w0 w1 w2 : Value, args = #[w0, w1, w2] := by
    have hs : args.size = 3 := by simpa [Cond.value, given_1] using g1
    obtain ⟨L⟩ := args
    match L, hs with
    | [w0, w1, w2], _ => exact ⟨w0, w1, w2, rfl⟩
  have hw := fun d (hd : d ∈ tables_1) => atoms_spec (ws := Jvm.Cond.code x code maxLocals ret :: tables_1) hat d (List.mem_cons_of_mem _ hd)
  have hfit : Fit s := fun {y c} hc i hi => by
    obtain ⟨ha, rfl⟩ := Array.getElem?_eq_some_iff.mp hc
    have q := List.all_eq_true.mp ((Array.all_eq_true_iff_forall_mem.mp hF) _ (Array.getElem_mem ha)) i (List.mem_range.mpr hi)
    simpa [Array.getElem?_eq_getElem hi] using q
  obtain ⟨i0, ei0⟩ := is_v g3
  obtain rfl : w0 = (.int i0) := Option.some.inj ei0
  obtain ⟨i1, ei1⟩ := is_v g5
  obtain rfl : w1 = (.int i1) := Option.some.inj ei1
  obtain ⟨i2, ei2⟩ := is_v g6
  obtain rfl : w2 = (.int i2) := Option.some.inj ei2
  obtain ⟨n, o, h1, h2, h3, _, L, rfl, ⟨rfl, N⟩, hq⟩ := rm0 l s _ hw tables_1 i0 i1 i2 s.heap s.heap.size (Nat.le_refl _)  p e ha hc hk s m _ below hf ((Spec.applies_iff_loose hf).mp happ).1 ⟨rfl, State.Warmed39.refl s, rfl⟩ trivial
  refine ⟨n, _, h1, h2, h3, hpost _ _ _ _ _ _ ⟨Cond.after_iff.mpr rfl, Cond.after_iff.mpr (eq_i res_at (Term.int_eval (1)) rfl), trivial⟩ ⟨hq.1, hq.2.1, (hq.2.2.sift fun y hy => Or.inr (N y hy)).mono (by decide) (by decide)⟩⟩
theorem main_1_1 : Claimed_1_1 := comes_1 fun _ _ _ _ _ _ h hF => ⟨h.1, hF⟩
theorem main_1_2 : Claimed_1_2 := comes_1 fun _ _ _ _ _ _ h hF => ⟨h.2.1, hF⟩
end Jvm.Pilot.@@N@@
namespace Jvm.Pilot.@@N@@
open Jvm Jvm.ClassFile Sem Op Lib Jvm.Free Jvm.Stand Jvm.Pilot.@@N@@.Jvm.D
/-! MADE BY PROGRAM (witnessworld.py) out of the Statement's table words and the real class files: 11 classes; the members and pool entries that the words name. The judged class is class 1, her method 1. -/
namespace start1
open Jvm.ClassFile
def u (s : String) : CpInfo := .utf8 (stringToUtf16 s)
/-- a pool by its gaps: so many unusable entries, then the entry; so many at the end -/
def gap : Nat → List CpInfo → List CpInfo
  | 0, r => r
  | n + 1, r => .unusable :: gap n r
def poolList (es : List (Nat × CpInfo)) (last : Nat) : List CpInfo := es.foldr (fun e r => gap e.1 (e.2 :: r)) (gap last [])
def pool (es : List (Nat × CpInfo)) (last : Nat) : Array CpInfo := ⟨poolList es last⟩
def fileOf (pool : Array CpInfo) (this : Nat) (attrs : Array Attribute := #[]) (ms : Array MethodInfo := #[]) (fl : Nat := 33) (sup : Nat := 0) (ifs : Array Nat := #[]) (fds : Array FieldInfo := #[]) : ClassFile where
  minorVersion := 0
  majorVersion := 65
  constantPool := pool
  accessFlags := fl
  thisClass := this
  superClass := sup
  interfaces := ifs
  fields := fds
  methods := ms
  attributes := attrs
def plain (name : String) (sup : Option ClassId) : Class where
  name := name
  kind := .ordinary
  loader := none
  accessFlags := 33
  super := sup
  interfaces := #[]
  cf := none
  fields := #[]
  methods := #[]
  instanceTypes := #[]
  staticTypes := #[]
  resolved := #[]
  callSites := []
  init := .initialized
  statics := none
  mirror := none

def pool0 : Array CpInfo := pool [(5, u "<init>"), (0, u "()V"), (1, .class_ 10), (1, u "java/lang/Object")] 113

def k0c0 : Code := { maxStack := 0, maxLocals := 1, code := object_method_1_code, exceptionTable := #[], attributes := #[] }
def k0m0 : Method := { name := "<init>", desc := "()V", sig := { parameters := [], returnType := none }, accessFlags := 1, code := some k0c0 }
/-- java/lang/Object -/
def k0 : Class := { plain "java/lang/Object" none with
  accessFlags := 33
  interfaces := #[]
  cf := some (fileOf pool0 8 #[] #[{ accessFlags := 1, nameIndex := 5, descriptorIndex := 6, attributes := #[] }] 33 0 #[] #[])
  fields := #[]
  methods := #[k0m0]
  instanceTypes := #[]
  staticTypes := #[]
  resolved := Array.replicate 124 none
  statics := none }

def pool1 : Array CpInfo := pool [(2, .class_ 4), (1, u "java/lang/Object"), (0, u "<init>"), (0, u "()V"), (0, .methodref 8 9), (0, .class_ 10), (0, .nameAndType 11 12), (0, u "com/example/leapwise/leapwise/evolution/Affine"), (0, u "delay"), (0, u "(ID)Lcom/example/leapwise/leapwise/evolution/Affine;"), (0, .methodref 8 14), (0, .nameAndType 15 16), (0, u "value"), (0, u "()D"), (0, .methodref 8 18), (0, .nameAndType 19 20), (0, u "slope"), (0, u "(I)D"), (0, .methodref 8 22), (0, .nameAndType 23 24), (0, u "delays"), (0, u "()I"), (0, .methodref 8 26), (0, .nameAndType 27 16), (0, u "rounding"), (0, .methodref 8 29), (0, .nameAndType 30 16), (0, u "slopeRounding"), (0, .class_ 32), (0, u "com/example/leapwise/leapwise/evolution/AffineDelayPinLaw"), (2, u "law"), (0, u "(III)Z")] 3

def k1m0 : Method := { name := "<init>", desc := "()V", sig := { parameters := [], returnType := none }, accessFlags := 1, code := none }
def k1c1 : Code := { maxStack := 4, maxLocals := 11, code := code, exceptionTable := #[], attributes := #[] }
def k1m1 : Method := { name := "law", desc := "(III)Z", sig := { parameters := [.int, .int, .int], returnType := some .boolean }, accessFlags := 9, code := some k1c1 }
/-- com/example/leapwise/leapwise/evolution/AffineDelayPinLaw -/
def k1 : Class := { plain "com/example/leapwise/leapwise/evolution/AffineDelayPinLaw" (some 0) with
  accessFlags := 49
  interfaces := #[]
  cf := some (fileOf pool1 31 #[] #[{ accessFlags := 1, nameIndex := 5, descriptorIndex := 6, attributes := #[] }, { accessFlags := 9, nameIndex := 35, descriptorIndex := 36, attributes := #[] }] 49 2 #[] #[])
  fields := #[]
  methods := #[k1m0, k1m1]
  instanceTypes := #[]
  staticTypes := #[]
  resolved := Array.replicate 40 none
  statics := none }

def pool2 : Array CpInfo := pool [(1, .methodref 2 3), (0, .class_ 4), (0, .nameAndType 5 6), (0, u "java/lang/Object"), (0, u "<init>"), (0, u "()V"), (0, .fieldref 8 9), (0, .class_ 10), (0, .nameAndType 11 12), (0, u "com/example/leapwise/leapwise/evolution/Affine"), (0, u "value"), (0, u "D"), (0, .fieldref 8 14), (0, .nameAndType 15 16), (0, u "slopes"), (0, u "[D"), (0, .fieldref 8 18), (0, .nameAndType 19 12), (0, u "rounding"), (0, .fieldref 8 21), (0, .nameAndType 22 12), (0, u "slopeRounding"), (2, u "NO_SLOPES"), (2, u "ULP"), (6, .methodref 8 36), (0, .nameAndType 5 37), (0, u "(D[DDD)V"), (38, u "slope"), (0, u "(I)D"), (53, u "ZERO"), (0, u "Lcom/example/leapwise/leapwise/evolution/Affine;"), (2, u "INFINITY"), (0, u "EXACT_WHOLE"), (3, u "delay"), (0, u "(ID)Lcom/example/leapwise/leapwise/evolution/Affine;"), (0, u "()D"), (1, u "delays"), (0, u "()I")] 36

def k2c0 : Code := { maxStack := 3, maxLocals := 8, code := prog_6_method_1_code, exceptionTable := #[], attributes := #[] }
def k2m0 : Method := { name := "<init>", desc := "(D[DDD)V", sig := { parameters := [.double, (.array .double), .double, .double], returnType := none }, accessFlags := 2, code := some k2c0 }
def k2c1 : Code := { maxStack := 9, maxLocals := 4, code := prog_6_method_3_code, exceptionTable := #[], attributes := #[] }
def k2m1 : Method := { name := "delay", desc := "(ID)Lcom/example/leapwise/leapwise/evolution/Affine;", sig := { parameters := [.int, .double], returnType := some (.object "com/example/leapwise/leapwise/evolution/Affine") }, accessFlags := 8, code := some k2c1 }
def k2c2 : Code := { maxStack := 2, maxLocals := 1, code := prog_6_method_4_code, exceptionTable := #[], attributes := #[] }
def k2m2 : Method := { name := "value", desc := "()D", sig := { parameters := [], returnType := some .double }, accessFlags := 0, code := some k2c2 }
def k2c3 : Code := { maxStack := 2, maxLocals := 2, code := prog_6_method_5_code, exceptionTable := #[], attributes := #[] }
def k2m3 : Method := { name := "slope", desc := "(I)D", sig := { parameters := [.int], returnType := some .double }, accessFlags := 0, code := some k2c3 }
def k2c4 : Code := { maxStack := 1, maxLocals := 1, code := prog_6_method_6_code, exceptionTable := #[], attributes := #[] }
def k2m4 : Method := { name := "delays", desc := "()I", sig := { parameters := [], returnType := some .int }, accessFlags := 0, code := some k2c4 }
def k2c5 : Code := { maxStack := 2, maxLocals := 1, code := prog_6_method_7_code, exceptionTable := #[], attributes := #[] }
def k2m5 : Method := { name := "rounding", desc := "()D", sig := { parameters := [], returnType := some .double }, accessFlags := 0, code := some k2c5 }
def k2c6 : Code := { maxStack := 2, maxLocals := 1, code := prog_6_method_8_code, exceptionTable := #[], attributes := #[] }
def k2m6 : Method := { name := "slopeRounding", desc := "()D", sig := { parameters := [], returnType := some .double }, accessFlags := 0, code := some k2c6 }
/-- com/example/leapwise/leapwise/evolution/Affine -/
def k2 : Class := { plain "com/example/leapwise/leapwise/evolution/Affine" (some 0) with
  accessFlags := 48
  interfaces := #[]
  cf := some (fileOf pool2 8 #[] #[{ accessFlags := 2, nameIndex := 5, descriptorIndex := 37, attributes := #[] }, { accessFlags := 8, nameIndex := 140, descriptorIndex := 141, attributes := #[] }, { accessFlags := 0, nameIndex := 11, descriptorIndex := 142, attributes := #[] }, { accessFlags := 0, nameIndex := 76, descriptorIndex := 77, attributes := #[] }, { accessFlags := 0, nameIndex := 144, descriptorIndex := 145, attributes := #[] }, { accessFlags := 0, nameIndex := 19, descriptorIndex := 142, attributes := #[] }, { accessFlags := 0, nameIndex := 22, descriptorIndex := 142, attributes := #[] }] 48 2 #[] #[{ accessFlags := 24, nameIndex := 28, descriptorIndex := 12, attributes := #[] }, { accessFlags := 26, nameIndex := 136, descriptorIndex := 12, attributes := #[] }, { accessFlags := 26, nameIndex := 25, descriptorIndex := 16, attributes := #[] }, { accessFlags := 24, nameIndex := 131, descriptorIndex := 132, attributes := #[] }, { accessFlags := 24, nameIndex := 135, descriptorIndex := 132, attributes := #[] }, { accessFlags := 18, nameIndex := 11, descriptorIndex := 12, attributes := #[] }, { accessFlags := 18, nameIndex := 15, descriptorIndex := 16, attributes := #[] }, { accessFlags := 18, nameIndex := 19, descriptorIndex := 12, attributes := #[] }, { accessFlags := 18, nameIndex := 22, descriptorIndex := 12, attributes := #[] }])
  fields := #[{ name := "ULP", type := .double, accessFlags := 24, slot := 0, constantValue := 0 }, { name := "EXACT_WHOLE", type := .double, accessFlags := 26, slot := 1, constantValue := 0 }, { name := "NO_SLOPES", type := (.array .double), accessFlags := 26, slot := 2, constantValue := 0 }, { name := "ZERO", type := (.object "com/example/leapwise/leapwise/evolution/Affine"), accessFlags := 24, slot := 3, constantValue := 0 }, { name := "INFINITY", type := (.object "com/example/leapwise/leapwise/evolution/Affine"), accessFlags := 24, slot := 4, constantValue := 0 }, { name := "value", type := .double, accessFlags := 18, slot := 0, constantValue := 0 }, { name := "slopes", type := (.array .double), accessFlags := 18, slot := 1, constantValue := 0 }, { name := "rounding", type := .double, accessFlags := 18, slot := 2, constantValue := 0 }, { name := "slopeRounding", type := .double, accessFlags := 18, slot := 3, constantValue := 0 }]
  methods := #[k2m0, k2m1, k2m2, k2m3, k2m4, k2m5, k2m6]
  instanceTypes := #[.double, (.array .double), .double, .double]
  staticTypes := #[.double, .double, (.array .double), (.object "com/example/leapwise/leapwise/evolution/Affine"), (.object "com/example/leapwise/leapwise/evolution/Affine")]
  resolved := Array.replicate 182 none
  statics := none }

def pool3 : Array CpInfo := pool [(1, u "java/lang/Cloneable"), (0, .class_ 1), (0, u "java/lang/Object"), (0, .class_ 3)] 3

/-- java/lang/Cloneable -/
def k3 : Class := { plain "java/lang/Cloneable" (some 0) with
  accessFlags := 1537
  interfaces := #[]
  cf := some (fileOf pool3 2 #[] #[] 1537 4 #[] #[])
  fields := #[]
  methods := #[]
  instanceTypes := #[]
  staticTypes := #[]
  resolved := Array.replicate 8 none
  statics := none }

def pool4 : Array CpInfo := pool [(1, u "java/io/Serializable"), (0, .class_ 1), (0, u "java/lang/Object"), (0, .class_ 3)] 3

/-- java/io/Serializable -/
def k4 : Class := { plain "java/io/Serializable" (some 0) with
  accessFlags := 1537
  interfaces := #[]
  cf := some (fileOf pool4 2 #[] #[] 1537 4 #[] #[])
  fields := #[]
  methods := #[]
  instanceTypes := #[]
  staticTypes := #[]
  resolved := Array.replicate 8 none
  statics := none }

/-- the primitive byte -/
def k5 : Class := { plain "byte" none with kind := .primitive 'B', accessFlags := 0x411 }
/-- [B -/
def k6 : Class := { plain "[B" (some 0) with kind := .array 5 .byte, interfaces := #[3, 4], accessFlags := 1041 }

/-- the primitive double -/
def k7 : Class := { plain "double" none with kind := .primitive 'D', accessFlags := 0x411 }
/-- [D -/
def k8 : Class := { plain "[D" (some 0) with kind := .array 7 .double, interfaces := #[3, 4], accessFlags := 1041 }

/-- the primitive int -/
def k9 : Class := { plain "int" none with kind := .primitive 'I', accessFlags := 0x411 }
/-- [I -/
def k10 : Class := { plain "[I" (some 0) with kind := .array 9 .int, interfaces := #[3, 4], accessFlags := 1041 }

def heap : Heap := #[]
def classes : Array Class := #[k0, k1, k2, k3, k4, k5, k6, k7, k8, k9, k10]
def interned : List (Array UInt16 × Addr) := []
def slotsUsed : Nat := 0
def theMethod : MethodId := ⟨1, 1⟩
def args0 : Array Value := #[.int 5, .int 7, .int 3]
def aboutOver (below : List Frame) : State where
  vm := { classes := classes, interned := interned.toArray }
  heap := heap
  slotsUsed := slotsUsed
  threads := #[{ frames := .invoking theMethod args0 :: below }]
def below0 : List Frame := [.native { method := ⟨0, 0⟩, args := #[] }]
def about1 : State := aboutOver below0
def p0 : Program := .bare "" "" ""
def e0 : Env := launch0.env 0 0 0
theorem w_frames : about1.frames = Frame.invoking theMethod args0 :: below0 := rfl
set_option maxRecDepth 65536 in
theorem w_args : argsFit about1.vm theMethod args0 = true := by decide +kernel
set_option maxRecDepth 65536 in
theorem w_heap : heapFits about1 = true := by decide +kernel
set_option maxRecDepth 65536 in
theorem w_runnable : about1.curStatus? = some .runnable := by decide +kernel
set_option maxRecDepth 65536 in
theorem w_alone : about1.alone = true := by decide +kernel
set_option maxRecDepth 65536 in
theorem w_named : about1.methodNamed? x = some theMethod := by decide +kernel
set_option maxRecDepth 65536 in
theorem w_hears : about1.hears theMethod below0 = true := by decide +kernel
set_option maxRecDepth 65536 in
theorem w_ripe : about1.ripe theMethod args0 below0 = true := by decide +kernel
theorem w_running : about1.status = .running := rfl
set_option maxRecDepth 65536 in
theorem w_room : about1.hasRoom e0.platform room_1 = true :=
  launch0.hasRoom_least _ room_1 (by decide +kernel) (by decide +kernel) (by decide +kernel) (by decide +kernel) (by decide +kernel) (by decide +kernel)
theorem allAtoms_all (ts : List Jvm.Cond) (a : Array Jvm.Value) (st : Jvm.State) : (allAtoms ts).before a st = ts.all (fun c => c.before a st) := by
  induction ts with
  | nil => rfl
  | cons c t ih =>
    show (Jvm.Cond.and c (allAtoms t)).before a st = _
    rw [Jvm.Cond.before_and, ih, List.all_cons]
def words1 : List Jvm.Cond := Jvm.Cond.code x code maxLocals ret :: tables_1
/-- a 'code' word, met by the world's own term for the bytes: nothing is compared byte by byte -/
theorem code_word {y : MethodName} {bytes : ByteArray} {mx : Nat} {rt : Option FieldType} {a : Array Value} {s : State} {m : MethodId} {meth : Method} {c : Code} (h1 : s.methodNamed? y = some m) (h2 : s.vm.method? m = some meth) (h3 : meth.code = some c) (h4 : c.code = bytes)
    (h5 : (c.maxLocals == mx && c.exceptionTable.isEmpty && decide (c.maxStack ≤ mostOperands) && decide (meth.sig.returnType = rt) && !meth.locks && decide (parseMethodDescriptor y.desc = some meth.sig)) = true) : (Jvm.Cond.code y bytes mx rt).before a s = true := by
  simp only [Bool.and_eq_true, beq_iff_eq, Bool.not_eq_true', decide_eq_true_eq] at h5
  obtain ⟨⟨⟨⟨⟨g1, g2⟩, g3⟩, g4⟩, g5⟩, g6⟩ := h5
  simp [Cond.before, Cond.holds, Cond.value, h1, h2, h3, h4, g1, g2, g3, g4, g5, g6]
def isCode : Jvm.Cond → Bool
  | .code _ _ _ _ => true
  | _ => false
theorem all_split {L : List Jvm.Cond} {P : Jvm.Cond → Bool} (h1 : L.all (fun c => isCode c || P c) = true) (h2 : ∀ c ∈ L.filter isCode, P c = true) : L.all P = true := by
  refine List.all_eq_true.mpr fun c hc => ?_
  have h := List.all_eq_true.mp h1 c hc
  rcases Bool.eq_false_or_eq_true (isCode c) with hi | hi
  · exact h2 c (List.mem_filter.mpr ⟨hc, hi⟩)
  · simpa [hi] using h
set_option maxRecDepth 65536 in
theorem w_c0 : (Jvm.Cond.code x code maxLocals ret).before args0 about1 = true := code_word (m := ⟨1, 1⟩) (meth := k1m1) (c := k1c1) (by decide +kernel) rfl rfl rfl (by decide +kernel)
set_option maxRecDepth 65536 in
theorem w_c1 : (Jvm.Cond.code ({ cls := "com/example/leapwise/leapwise/evolution/Affine", name := "delay", desc := "(ID)Lcom/example/leapwise/leapwise/evolution/Affine;" } : Jvm.MethodName) prog_6_method_3_code (4 : Nat) (Option.some (Jvm.ClassFile.FieldType.object "com/example/leapwise/leapwise/evolution/Affine"))).before args0 about1 = true := code_word (m := ⟨2, 1⟩) (meth := k2m1) (c := k2c1) (by decide +kernel) rfl rfl rfl (by decide +kernel)
set_option maxRecDepth 65536 in
theorem w_c2 : (Jvm.Cond.code ({ cls := "com/example/leapwise/leapwise/evolution/Affine", name := "<init>", desc := "(D[DDD)V" } : Jvm.MethodName) prog_6_method_1_code (8 : Nat) (Option.none : Option Jvm.ClassFile.FieldType)).before args0 about1 = true := code_word (m := ⟨2, 0⟩) (meth := k2m0) (c := k2c0) (by decide +kernel) rfl rfl rfl (by decide +kernel)
set_option maxRecDepth 65536 in
theorem w_c3 : (Jvm.Cond.code ({ cls := "java/lang/Object", name := "<init>", desc := "()V" } : Jvm.MethodName) object_method_1_code (1 : Nat) (Option.none : Option Jvm.ClassFile.FieldType)).before args0 about1 = true := code_word (m := ⟨0, 0⟩) (meth := k0m0) (c := k0c0) (by decide +kernel) rfl rfl rfl (by decide +kernel)
set_option maxRecDepth 65536 in
theorem w_c4 : (Jvm.Cond.code ({ cls := "com/example/leapwise/leapwise/evolution/Affine", name := "value", desc := "()D" } : Jvm.MethodName) prog_6_method_4_code (1 : Nat) (Option.some Jvm.ClassFile.FieldType.double)).before args0 about1 = true := code_word (m := ⟨2, 2⟩) (meth := k2m2) (c := k2c2) (by decide +kernel) rfl rfl rfl (by decide +kernel)
set_option maxRecDepth 65536 in
theorem w_c5 : (Jvm.Cond.code ({ cls := "com/example/leapwise/leapwise/evolution/Affine", name := "slope", desc := "(I)D" } : Jvm.MethodName) prog_6_method_5_code (2 : Nat) (Option.some Jvm.ClassFile.FieldType.double)).before args0 about1 = true := code_word (m := ⟨2, 3⟩) (meth := k2m3) (c := k2c3) (by decide +kernel) rfl rfl rfl (by decide +kernel)
set_option maxRecDepth 65536 in
theorem w_c6 : (Jvm.Cond.code ({ cls := "com/example/leapwise/leapwise/evolution/Affine", name := "delays", desc := "()I" } : Jvm.MethodName) prog_6_method_6_code (1 : Nat) (Option.some Jvm.ClassFile.FieldType.int)).before args0 about1 = true := code_word (m := ⟨2, 4⟩) (meth := k2m4) (c := k2c4) (by decide +kernel) rfl rfl rfl (by decide +kernel)
set_option maxRecDepth 65536 in
theorem w_c7 : (Jvm.Cond.code ({ cls := "com/example/leapwise/leapwise/evolution/Affine", name := "rounding", desc := "()D" } : Jvm.MethodName) prog_6_method_7_code (1 : Nat) (Option.some Jvm.ClassFile.FieldType.double)).before args0 about1 = true := code_word (m := ⟨2, 5⟩) (meth := k2m5) (c := k2c5) (by decide +kernel) rfl rfl rfl (by decide +kernel)
set_option maxRecDepth 65536 in
theorem w_c8 : (Jvm.Cond.code ({ cls := "com/example/leapwise/leapwise/evolution/Affine", name := "slopeRounding", desc := "()D" } : Jvm.MethodName) prog_6_method_8_code (1 : Nat) (Option.some Jvm.ClassFile.FieldType.double)).before args0 about1 = true := code_word (m := ⟨2, 6⟩) (meth := k2m6) (c := k2c6) (by decide +kernel) rfl rfl rfl (by decide +kernel)
def codes1 : List Jvm.Cond := [Jvm.Cond.code x code maxLocals ret, Jvm.Cond.code ({ cls := "com/example/leapwise/leapwise/evolution/Affine", name := "delay", desc := "(ID)Lcom/example/leapwise/leapwise/evolution/Affine;" } : Jvm.MethodName) prog_6_method_3_code (4 : Nat) (Option.some (Jvm.ClassFile.FieldType.object "com/example/leapwise/leapwise/evolution/Affine")), Jvm.Cond.code ({ cls := "com/example/leapwise/leapwise/evolution/Affine", name := "<init>", desc := "(D[DDD)V" } : Jvm.MethodName) prog_6_method_1_code (8 : Nat) (Option.none : Option Jvm.ClassFile.FieldType), Jvm.Cond.code ({ cls := "java/lang/Object", name := "<init>", desc := "()V" } : Jvm.MethodName) object_method_1_code (1 : Nat) (Option.none : Option Jvm.ClassFile.FieldType), Jvm.Cond.code ({ cls := "com/example/leapwise/leapwise/evolution/Affine", name := "value", desc := "()D" } : Jvm.MethodName) prog_6_method_4_code (1 : Nat) (Option.some Jvm.ClassFile.FieldType.double), Jvm.Cond.code ({ cls := "com/example/leapwise/leapwise/evolution/Affine", name := "slope", desc := "(I)D" } : Jvm.MethodName) prog_6_method_5_code (2 : Nat) (Option.some Jvm.ClassFile.FieldType.double), Jvm.Cond.code ({ cls := "com/example/leapwise/leapwise/evolution/Affine", name := "delays", desc := "()I" } : Jvm.MethodName) prog_6_method_6_code (1 : Nat) (Option.some Jvm.ClassFile.FieldType.int), Jvm.Cond.code ({ cls := "com/example/leapwise/leapwise/evolution/Affine", name := "rounding", desc := "()D" } : Jvm.MethodName) prog_6_method_7_code (1 : Nat) (Option.some Jvm.ClassFile.FieldType.double), Jvm.Cond.code ({ cls := "com/example/leapwise/leapwise/evolution/Affine", name := "slopeRounding", desc := "()D" } : Jvm.MethodName) prog_6_method_8_code (1 : Nat) (Option.some Jvm.ClassFile.FieldType.double)]
set_option maxRecDepth 65536 in
theorem codes_eq : words1.filter isCode = codes1 := rfl
theorem w_codes : ∀ c ∈ words1.filter isCode, c.before args0 about1 = true := by
  rw [codes_eq]
  intro c hc
  simp only [codes1, List.mem_cons, List.not_mem_nil, or_false] at hc
  rcases hc with rfl | rfl | rfl | rfl | rfl | rfl | rfl | rfl | rfl
  · exact w_c0
  · exact w_c1
  · exact w_c2
  · exact w_c3
  · exact w_c4
  · exact w_c5
  · exact w_c6
  · exact w_c7
  · exact w_c8
set_option maxRecDepth 65536 in
theorem w_t1 : (words1.take 24).all (fun c => isCode c || c.before args0 about1) = true := by decide +kernel
set_option maxRecDepth 65536 in
theorem w_t2 : (words1.drop 24).all (fun c => isCode c || c.before args0 about1) = true := by decide +kernel
theorem w_tables : (allAtoms (Jvm.Cond.code x code maxLocals ret :: tables_1)).before args0 about1 = true := by
  rw [allAtoms_all]
  show words1.all (fun c => c.before args0 about1) = true
  refine all_split ?_ w_codes
  rw [← List.take_append_drop 24 words1, List.all_append, w_t1, w_t2]
  rfl
set_option maxRecDepth 65536 in
theorem w_case : (Jvm.Cond.and given_1 narrow_1).before args0 about1 = true := by decide +kernel
theorem w_applies : (headSpec (Jvm.Cond.code x code maxLocals ret :: tables_1) room_1).applies x e0.platform about1 = true :=
  (Spec.applies_iff w_frames).mpr ⟨w_running, w_runnable, w_alone, w_named, w_hears, w_ripe, w_room, w_tables⟩
theorem atStart : AtStart classFile x code maxLocals ret World_1 tables_1 room_1 Calls_1 rest_1 Pre_1 launch0 p0 e0 about1 theMethod args0 below0 :=
  ⟨lists_1, trivial, launch0.admits_env _ _ _, launch0.least_env, fairChoices_fair.cas, fairChoices_fair.clock, w_frames, w_args, w_heap, w_applies, trivial, trivial, w_case⟩
end start1
theorem witness_1 : WitnessClaimed_1 := ⟨start1.p0, start1.e0, start1.about1, start1.theMethod, start1.args0, start1.below0, start1.atStart⟩
end Jvm.Pilot.@@N@@
