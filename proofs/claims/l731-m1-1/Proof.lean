import JvmDerived
import JvmDerived.Pilot.@@N@@Statement
import JvmDerived.Pilot.@@N@@Code
set_option linter.unusedVariables false
set_option linter.unusedSimpArgs false
namespace Jvm.Pilot.@@N@@
open Jvm Jvm.ClassFile Sem Op Lib Jvm.Free Jvm.Stand Jvm.LawKit Jvm.RoadKit Bundle Jvm.Pilot.@@N@@.Jvm.D
/-! OWN: the walk as a tree. Go: from here the run comes to a return that Q allows. -/
def Go (p : Program) (e : Env) (below : List Frame) (s : State) (C S : Nat) (Q : Option Value → Heap → List Loc → Prop) (T : State) (g : JFrame) : Prop :=
  ∃ s₂ o, Steps p.tables e below (T.setTop g) s₂ ∧ s₂.status = .running ∧ Ended s₂ below o ∧ ∃ v L, o = .returned v ∧ Q v s₂.heap L ∧ FrameEnd s o s₂ L C S
section OwnGo
variable {p : Program} {l : Launch} {e : Env} {R : Room} {s : State} {m : MethodId} {args : Array Value} {below : List Frame} {meth : Method} {c : Code} {T T' : State} {locs : List Loc} {cells slots : Nat} {Z : State} {a0 : Array Value} {h : Heap} {C S : Nat} {Q : Option Value → Heap → List Loc → Prop} {g g' : JFrame}
theorem Go.step (st : ∀ target, Steps p.tables e below (T'.setTop g') target → Steps p.tables e below (T.setTop g) target) (h : Go p e below s C S Q T' g') : Go p e below s C S Q T g := by
  obtain ⟨s₂, o, h1, r⟩ := h; exact ⟨s₂, o, st _ h1, r⟩
theorem Go.cast (q : g = g') (h : Go p e below s C S Q T g') : Go p e below s C S Q T g := q ▸ h
theorem Go.ret (X : Stand p l e R s m args below meth c T locs cells slots) (hlk : meth.locks = false) {v : Option Value} (hv : meth.sig.returnType = none → v = none)
    (st : ∀ fs, (∀ (f : JFrame) (acts : List Action), f.method = m → f.locked = none → f.entered = [] → (doReturn e (T.setTop f) acts v).1 = T.setFrames fs) → Steps p.tables e below (T.setTop g) (T.setFrames fs))
    (hq : Q v T.heap locs) (hc : cells ≤ C) (hs : slots ≤ S) : Go p e below s C S Q T g := by
  obtain ⟨fs, hr, hrun, hended, hW, hsame⟩ := X.leave (v := v) hv hlk
  exact ⟨_, _, st fs hr, hrun, hended, v, locs, rfl, hq, ⟨_, rfl⟩, hW, hsame.mono hc hs⟩
theorem Go.retV (X : Stand p l e R s m args below meth c T locs cells slots) (hx : p.tables.exec = Jvm.exec) (hlk : meth.locks = false) (hret : meth.sig.returnType = none) {pc : Nat} {Ls : Array Slot} (hd : decode c.code pc = .ok (.return_, 1))
    (hc : cells ≤ C) (hs : slots ≤ S) (hq : Q none T.heap locs) : Go p e below s C S Q T (mkF m pc Ls []) :=
  Go.ret X hlk (fun _ => rfl) (fun fs hr => X.returnOut hx hret hd hr) hq hc hs
theorem Go.retW (X : Stand p l e R s m args below meth c T locs cells slots) (hx : p.tables.exec = Jvm.exec) (hlk : meth.locks = false) {t : FieldType} (hret : meth.sig.returnType = some t) {pc : Nat} {Ls : Array Slot} {w : Value} {i : Instr} {rest : List Value} (hn : narrow t w = w)
    (hi : (i = .ireturn ∧ (t = .int ∨ t = .boolean ∨ t = .byte ∨ t = .char ∨ t = .short) ∧ ∃ z, w = .int z) ∨ (i = .lreturn ∧ t = .long ∧ ∃ z, w = .long z) ∨ (i = .dreturn ∧ t = .double ∧ ∃ z, w = .double z) ∨ (i = .freturn ∧ t = .float ∧ ∃ z, w = .float z) ∨ (i = .areturn ∧ t.isReference = true ∧ w.isRef = true))
    (hd : decode c.code pc = .ok (i, 1)) (hc : cells ≤ C) (hs : slots ≤ S) (hq : Q (some w) T.heap locs) : Go p e below s C S Q T (mkF m pc Ls (w :: rest)) :=
  Go.ret X hlk (fun h => by rw [hret] at h; cases h) (fun fs hr => retOut X hx hret hn hi hd hr) hq hc hs
theorem Go.retI (X : Stand p l e R s m args below meth c T locs cells slots) (hx : p.tables.exec = Jvm.exec) (hlk : meth.locks = false) (hret : meth.sig.returnType = some .int) {pc : Nat} {Ls : Array Slot} {z : Int32} {rest : List Value}
    (hd : decode c.code pc = .ok (.ireturn, 1)) (hc : cells ≤ C) (hs : slots ≤ S) (hq : Q (some (.int z)) T.heap locs) : Go p e below s C S Q T (mkF m pc Ls (.int z :: rest)) :=
  Go.retW X hx hlk hret rfl (Or.inl ⟨rfl, Or.inl rfl, z, rfl⟩) hd hc hs hq
theorem Go.retZ (X : Stand p l e R s m args below meth c T locs cells slots) (hx : p.tables.exec = Jvm.exec) (hlk : meth.locks = false) (hret : meth.sig.returnType = some .boolean) {pc : Nat} {Ls : Array Slot} {z : Int32} {rest : List Value} (hz : z = 0 ∨ z = 1)
    (hd : decode c.code pc = .ok (.ireturn, 1)) (hc : cells ≤ C) (hs : slots ≤ S) (hq : Q (some (.int z)) T.heap locs) : Go p e below s C S Q T (mkF m pc Ls (.int z :: rest)) :=
  Go.retW X hx hlk hret (by rcases hz with rfl | rfl <;> rfl) (Or.inl ⟨rfl, Or.inr (Or.inl rfl), z, rfl⟩) hd hc hs hq
theorem Go.retJ (X : Stand p l e R s m args below meth c T locs cells slots) (hx : p.tables.exec = Jvm.exec) (hlk : meth.locks = false) (hret : meth.sig.returnType = some .long) {pc : Nat} {Ls : Array Slot} {z : Int64} {rest : List Value}
    (hd : decode c.code pc = .ok (.lreturn, 1)) (hc : cells ≤ C) (hs : slots ≤ S) (hq : Q (some (.long z)) T.heap locs) : Go p e below s C S Q T (mkF m pc Ls (.long z :: rest)) :=
  Go.retW X hx hlk hret rfl (Or.inr (Or.inl ⟨rfl, rfl, z, rfl⟩)) hd hc hs hq
theorem Go.retD (X : Stand p l e R s m args below meth c T locs cells slots) (hx : p.tables.exec = Jvm.exec) (hlk : meth.locks = false) (hret : meth.sig.returnType = some .double) {pc : Nat} {Ls : Array Slot} {z : UInt64} {rest : List Value}
    (hd : decode c.code pc = .ok (.dreturn, 1)) (hc : cells ≤ C) (hs : slots ≤ S) (hq : Q (some (.double z)) T.heap locs) : Go p e below s C S Q T (mkF m pc Ls (.double z :: rest)) :=
  Go.retW X hx hlk hret rfl (Or.inr (Or.inr (Or.inl ⟨rfl, rfl, z, rfl⟩))) hd hc hs hq
theorem Go.retR (X : Stand p l e R s m args below meth c T locs cells slots) (hx : p.tables.exec = Jvm.exec) (hlk : meth.locks = false) {t : FieldType} (hret : meth.sig.returnType = some t) (ht : t.isReference = true) {pc : Nat} {Ls : Array Slot} {w : Value} {rest : List Value} (hn : narrow t w = w) (hw : w.isRef = true)
    (hd : decode c.code pc = .ok (.areturn, 1)) (hc : cells ≤ C) (hs : slots ≤ S) (hq : Q (some w) T.heap locs) : Go p e below s C S Q T (mkF m pc Ls (w :: rest)) :=
  Go.retW X hx hlk hret hn (Or.inr (Or.inr (Or.inr (Or.inr ⟨rfl, ht, hw⟩)))) hd hc hs hq
/-- a method's contract out of its walk -/
theorem con_of {y : MethodName} {bytes : ByteArray} {ml : Nat} {rt : Option FieldType} {ws : List Jvm.Cond} {rm : Room} {as' : Array Value} {h0 : Heap} (hpl : plainFor y = true)
    (body : ∀ (p : Program) (e : Env) (s : State) (m : MethodId) (below : List Frame) (meth : Method) (c : Code) (T : State), Stand p l e rm s m as' below meth c T [] 0 0 → p.tables.exec = Jvm.exec → Z.Warmed39 s.vm → c.code = bytes → c.maxLocals = ml → s.vm.findClass y.cls = some m.cls → meth.name = y.name →
      meth.sig.returnType = rt → meth.locks = false → T.heap = h0 → Go p e below s rm.cells rm.slots Q T (entryFrame m as' ml)) :
    MetFree l y (head1 (Jvm.Cond.code y bytes ml rt :: ws) rm) (fun a U => a = as' ∧ Z.Warmed39 U.vm ∧ U.heap = h0) (fun _ _ _ _ _ => True) (fun _ U o U' => ∃ v L, o = .returned v ∧ Q v U'.heap L ∧ FrameEnd U o U' L rm.cells rm.slots) := by
  refine MetFree.of_bodySF hpl hisR ?_
  intro p e s m args below meth c s₁ Bd hml0 hP hK
  obtain ⟨rfl, hZ, hh⟩ := hP
  exact body p e s m below meth c s₁ (Stand.of_body Bd) Bd.exec hZ Bd.bytes hml0 (findClass_of_methodNamed Bd.named) (name_of_methodNamed Bd.named Bd.method).1 Bd.returns (BodyLoose.notSynchronized Bd) (by rw [← hh, Bd.state]; rfl)
abbrev Con (l : Launch) (Z : State) (y : MethodName) (bytes : ByteArray) (ml : Nat) (rt : Option FieldType) (rm : Room) (as' : Array Value) (h0 : Heap) (Q : Option Value → Heap → List Loc → Prop) : Prop :=
  MetFree l y (head1 [Jvm.Cond.code y bytes ml rt] rm) (fun a U => a = as' ∧ Z.Warmed39 U.vm ∧ U.heap = h0) (fun _ _ _ _ _ => True) (fun _ U o U' => ∃ v L, o = .returned v ∧ Q v U'.heap L ∧ FrameEnd U o U' L rm.cells rm.slots)
theorem Go.callS (X : Stand p l e R s m args below meth c T locs cells slots) (hx : p.tables.exec = Jvm.exec) (hZ : Z.Warmed39 s.vm) {own : String} {index : Nat} {y : MethodName} {bytes : ByteArray} {maxL : Nat} {ret : Option FieldType} {rm : Room} {as' : Array Value} {Qc : Option Value → Heap → List Loc → Prop} {W pc : Nat} {Ls : Array Slot} {st : List Value} {argsL rest : List Value} (hml : Ls.size = c.maxLocals)
    (hown : s.vm.findClass own = some m.cls) (w1 : (Jvm.Cond.methodLink own index y).before a0 Z = true) (w2 : (Jvm.Cond.static y).before a0 Z = true) (w3 : (Jvm.Cond.initialized y.cls).before a0 Z = true) (w4 : (Jvm.Cond.code y bytes maxL ret).before a0 Z = true) (hy : y.cls ≠ "java/lang/invoke/MethodHandle" ∧ y.cls ≠ "java/lang/invoke/VarHandle")
    (hM : Con l Z y bytes maxL ret rm as' h Qc) (eT : T.heap = h) (hd : decode c.code pc = .ok (.invokestatic index, 3)) (hlen : ∀ sig, parseMethodDescriptor y.desc = some sig → argsL.length = sig.parameters.length) (hst : st = argsL.reverse ++ rest) (has : argsL.toArray = as')
    (hW : (rest.map fun v => v.category).sum ≤ W) (hf : rm.frames + 1 ≤ R.frames) (hl : W + (maxL + 11) + rm.locals ≤ R.locals) (hc : cells + rm.cells ≤ R.cells) (hs : slots + rm.slots ≤ R.slots)
    (k : ∀ (v : Option Value) (T' : State) (L : List Loc), Stand p l e R s m args below meth c T' (locs ++ L) (cells + rm.cells) (slots + rm.slots) → Qc v T'.heap L → Go p e below s C S Q T' (mkF m (pc + 3) Ls (v.toList ++ rest))) :
    Go p e below s C S Q T (mkF m pc Ls st) := by
  obtain ⟨v, _, ⟨T', L', k', n'⟩, -, X', ⟨Lc, hQ, l1, y1, z1⟩, stp⟩ := Jvm.LawKit.callS X hx (y := y) hown (mvT hZ w1) (mvT hZ w2) (mvT hZ w3) (mvT hZ w4) hy (backOf (W := W) hM hZ w4 w3 hf hl) (g := mkF m pc Ls st) rfl hml (argsL := argsL) (rest := rest) hlen hst (by show 2 * 0 + _ ≤ _; omega) hd (fun _ _ => ⟨has, eT, hc, hs⟩)
  dsimp only [Pt.U, Pt.locs, Pt.cells, Pt.slots] at X' l1 y1 z1 stp hQ
  subst l1 y1 z1
  exact Go.step stp (k v T' Lc X' hQ)
theorem Go.callI (X : Stand p l e R s m args below meth c T locs cells slots) (hx : p.tables.exec = Jvm.exec) (hZ : Z.Warmed39 s.vm) {own : String} {index : Nat} {y : MethodName} {bytes : ByteArray} {maxL : Nat} {rm : Room} {as' : Array Value} {Qc : Option Value → Heap → List Loc → Prop} {W pc : Nat} {Ls : Array Slot} {st : List Value} {a : Addr} {argsL rest : List Value} (hml : Ls.size = c.maxLocals)
    (hy1 : y.name = "<init>") (hown : s.vm.findClass own = some m.cls) (w1 : (Jvm.Cond.methodLink own index y).before a0 Z = true) (w2 : (Jvm.Cond.instanceMethod y).before a0 Z = true) (w3 : (Jvm.Cond.initialized y.cls).before a0 Z = true) (w4 : (Jvm.Cond.code y bytes maxL none).before a0 Z = true) (hy : y.cls ≠ "java/lang/invoke/MethodHandle" ∧ y.cls ≠ "java/lang/invoke/VarHandle")
    (hM : Con l Z y bytes maxL none rm as' h Qc) (eT : T.heap = h) (hd : decode c.code pc = .ok (.invokespecial index, 3)) (hlen : ∀ sig, parseMethodDescriptor y.desc = some sig → argsL.length = sig.parameters.length) (hst : st = argsL.reverse ++ .ref a :: rest) (has : (Value.ref a :: argsL).toArray = as')
    (hW : (rest.map fun v => v.category).sum ≤ W) (hf : rm.frames + 1 ≤ R.frames) (hl : W + (maxL + 11) + rm.locals ≤ R.locals) (hc : cells + rm.cells ≤ R.cells) (hs : slots + rm.slots ≤ R.slots)
    (k : ∀ (v : Option Value) (T' : State) (L : List Loc), Stand p l e R s m args below meth c T' (locs ++ L) (cells + rm.cells) (slots + rm.slots) → Qc v T'.heap L → Go p e below s C S Q T' (mkF m (pc + 3) Ls (v.toList ++ rest))) :
    Go p e below s C S Q T (mkF m pc Ls st) := by
  obtain ⟨v, _, ⟨T', L', k', n'⟩, -, X', ⟨Lc, hQ, l1, y1, z1⟩, stp⟩ := X.specialBack hx (y := y) hy1 hown (mvT hZ w1) (mvT hZ w2) (mvT hZ w4) hy (backOf (W := W) hM hZ w4 w3 hf hl) (g := mkF m pc Ls st) rfl hml (Steps.refl _) (a := a) (argsL := argsL) (rest := rest) hlen hst (by show 2 * 0 + _ ≤ _; omega) hd (fun _ _ => ⟨has, eT, hc, hs⟩)
  dsimp only [Pt.U, Pt.locs, Pt.cells, Pt.slots] at X' l1 y1 z1 stp hQ
  subst l1 y1 z1
  exact Go.step (fun _ q => stp.trans q) (k v T' Lc X' hQ)
theorem Go.callV (X : Stand p l e R s m args below meth c T locs cells slots) (hx : p.tables.exec = Jvm.exec) (hZ : Z.Warmed39 s.vm) {own K : String} {index : Nat} {y z : MethodName} {bytes : ByteArray} {maxL : Nat} {ret : Option FieldType} {rm : Room} {as' : Array Value} {Qc : Option Value → Heap → List Loc → Prop} {W pc : Nat} {Ls : Array Slot} {st : List Value} {a : Addr} {argsL rest : List Value} (hml : Ls.size = c.maxLocals)
    (hown : s.vm.findClass own = some m.cls) (w1 : (Jvm.Cond.methodLink own index y).before a0 Z = true) (w2 : (Jvm.Cond.declares y).before a0 Z = true) (hnf : NotFace s y) (w5 : (Jvm.Cond.selects K y z).before a0 Z = true) (w6 : (Jvm.Cond.instanceMethod z).before a0 Z = true) (w3 : (Jvm.Cond.initialized z.cls).before a0 Z = true) (w4 : (Jvm.Cond.code z bytes maxL ret).before a0 Z = true) (hy : y.cls ≠ "java/lang/invoke/MethodHandle" ∧ y.cls ≠ "java/lang/invoke/VarHandle")
    (hM : Con l Z z bytes maxL ret rm as' h Qc) (eT : T.heap = h) (E : Exa Z h a K) (hd : decode c.code pc = .ok (.invokevirtual index, 3)) (hlen : ∀ sig, parseMethodDescriptor y.desc = some sig → argsL.length = sig.parameters.length) (hst : st = argsL.reverse ++ .ref a :: rest) (has : (Value.ref a :: argsL).toArray = as')
    (hW : (rest.map fun v => v.category).sum ≤ W) (hf : rm.frames + 1 ≤ R.frames) (hl : W + (maxL + 11) + rm.locals ≤ R.locals) (hc : cells + rm.cells ≤ R.cells) (hs : slots + rm.slots ≤ R.slots)
    (k : ∀ (v : Option Value) (T' : State) (L : List Loc), Stand p l e R s m args below meth c T' (locs ++ L) (cells + rm.cells) (slots + rm.slots) → Qc v T'.heap L → Go p e below s C S Q T' (mkF m (pc + 3) Ls (v.toList ++ rest))) :
    Go p e below s C S Q T (mkF m pc Ls st) := by
  obtain ⟨cq, kq, qa, qb, qc⟩ := isOf hZ eT E
  obtain ⟨v, _, ⟨T', L', k', n'⟩, -, X', ⟨Lc, hQ, l1, y1, z1⟩, stp⟩ := X.virtualBack hx (y := y) (z := z) hown (mvT hZ w1) (mvT hZ w2) hnf (mvT hZ w5) (mvT hZ w6) hy (backOf (W := W) hM hZ w4 w3 hf hl) qa qc (g := mkF m pc Ls st) rfl hml (Steps.refl _) (argsL := argsL) (rest := rest) hlen hst (by show 2 * 0 + _ ≤ _; omega) hd (fun _ _ => ⟨has, eT, hc, hs⟩)
  dsimp only [Pt.U, Pt.locs, Pt.cells, Pt.slots] at X' l1 y1 z1 stp hQ
  subst l1 y1 z1
  exact Go.step (fun _ q => stp.trans q) (k v T' Lc X' hQ)
theorem Go.callP (X : Stand p l e R s m args below meth c T locs cells slots) (hx : p.tables.exec = Jvm.exec) (hZ : Z.Warmed39 s.vm) {own : String} {index : Nat} {y : MethodName} {bytes : ByteArray} {maxL : Nat} {ret : Option FieldType} {rm : Room} {as' : Array Value} {Qc : Option Value → Heap → List Loc → Prop} {W pc : Nat} {Ls : Array Slot} {st : List Value} {a : Addr} {argsL rest : List Value} (hml : Ls.size = c.maxLocals)
    (hown : s.vm.findClass own = some m.cls) (w1 : (Jvm.Cond.methodLink own index y).before a0 Z = true) (w6 : (Jvm.Cond.instanceMethod y).before a0 Z = true) {kk : Nat} (w5 : (Jvm.Cond.instantiable y.cls kk).before a0 Z = true) (w7 : (Jvm.Cond.privateMethod y).before a0 Z = true) (w3 : (Jvm.Cond.initialized y.cls).before a0 Z = true) (w4 : (Jvm.Cond.code y bytes maxL ret).before a0 Z = true) (hy : y.cls ≠ "java/lang/invoke/MethodHandle" ∧ y.cls ≠ "java/lang/invoke/VarHandle")
    (hM : Con l Z y bytes maxL ret rm as' h Qc) (eT : T.heap = h) {K : String} (E : Exa Z h a K) (hd : decode c.code pc = .ok (.invokevirtual index, 3)) (hlen : ∀ sig, parseMethodDescriptor y.desc = some sig → argsL.length = sig.parameters.length) (hst : st = argsL.reverse ++ .ref a :: rest) (has : (Value.ref a :: argsL).toArray = as')
    (hW : (rest.map fun v => v.category).sum ≤ W) (hf : rm.frames + 1 ≤ R.frames) (hl : W + (maxL + 11) + rm.locals ≤ R.locals) (hc : cells + rm.cells ≤ R.cells) (hs : slots + rm.slots ≤ R.slots)
    (k : ∀ (v : Option Value) (T' : State) (L : List Loc), Stand p l e R s m args below meth c T' (locs ++ L) (cells + rm.cells) (slots + rm.slots) → Qc v T'.heap L → Go p e below s C S Q T' (mkF m (pc + 3) Ls (v.toList ++ rest))) :
    Go p e below s C S Q T (mkF m pc Ls st) := by
  obtain ⟨cq, q1, q2⟩ := E.cell
  have hpriv : s.PrivateAt y := Cond.privateMethod_at (mvP hZ w7 (args := #[]))
  have w5' : (Jvm.Cond.instantiable y.cls kk).before args s = true := mvT hZ w5
  obtain ⟨c1, k1, i1, i2, -, i4, -⟩ := Cond.instantiable_spec w5'
  have hsel : (Jvm.Cond.selects y.cls y y).before args s = true := selects_self_of_private i1 i2 (by simp only [Bool.or_eq_false_iff] at i4; exact i4.1) hpriv (mvT hZ w6) hy
  obtain ⟨v, _, ⟨T', L', k', n'⟩, -, X', ⟨Lc, hQ, l1, y1, z1⟩, stp⟩ := X.privateBack hx (y := y) hown (mvT hZ w1) (mvT hZ w6) hsel hpriv (mvT hZ w4) hy (backOf (W := W) hM hZ w4 w3 hf hl) (g := mkF m pc Ls st) rfl hml (Steps.refl _) (a := a) (by rw [eT]; exact q1) q2 (argsL := argsL) (rest := rest) hlen hst (by show 2 * 0 + _ ≤ _; omega) hd (fun _ _ => ⟨has, eT, hc, hs⟩)
  dsimp only [Pt.U, Pt.locs, Pt.cells, Pt.slots] at X' l1 y1 z1 stp hQ
  subst l1 y1 z1
  exact Go.step (fun _ q => stp.trans q) (k v T' Lc X' hQ)
end OwnGo
/-! OWN: branches on a comparison of doubles, as javac writes them -/
section OwnCmp
variable {x y : UInt64}
theorem cv_none (o : CmpOp) (h : FP.dcmp x y = none) : cmpValue (FP.dcmp x y) o = (match o with | .l => -1 | .g => 1) := by rw [h]; cases o <;> rfl
theorem gt_y (h : FP.dcmp x y = some .gt) : ifCond.holds .le (cmpValue (FP.dcmp x y) .l) = false := by rw [h]; rfl
theorem gt_n (h : ¬ FP.dcmp x y = some .gt) : ifCond.holds .le (cmpValue (FP.dcmp x y) .l) = true := by
  rcases q : FP.dcmp x y with _ | (_ | _ | _) <;> first | rfl | exact absurd q h
theorem ge_y (h : FP.dcmp x y = some .gt ∨ FP.dcmp x y = some .eq) : ifCond.holds .lt (cmpValue (FP.dcmp x y) .l) = false := by rcases h with h | h <;> rw [h] <;> rfl
theorem ge_n (h : ¬ (FP.dcmp x y = some .gt ∨ FP.dcmp x y = some .eq)) : ifCond.holds .lt (cmpValue (FP.dcmp x y) .l) = true := by
  rcases q : FP.dcmp x y with _ | (_ | _ | _) <;> first | rfl | exact absurd (Or.inl q) h | exact absurd (Or.inr q) h
theorem lt_y (h : FP.dcmp x y = some .lt) : ifCond.holds .ge (cmpValue (FP.dcmp x y) .g) = false := by rw [h]; rfl
theorem lt_n (h : ¬ FP.dcmp x y = some .lt) : ifCond.holds .ge (cmpValue (FP.dcmp x y) .g) = true := by
  rcases q : FP.dcmp x y with _ | (_ | _ | _) <;> first | rfl | exact absurd q h
theorem le_y (h : FP.dcmp x y = some .lt ∨ FP.dcmp x y = some .eq) : ifCond.holds .gt (cmpValue (FP.dcmp x y) .g) = false := by rcases h with h | h <;> rw [h] <;> rfl
theorem le_n (h : ¬ (FP.dcmp x y = some .lt ∨ FP.dcmp x y = some .eq)) : ifCond.holds .gt (cmpValue (FP.dcmp x y) .g) = true := by
  rcases q : FP.dcmp x y with _ | (_ | _ | _) <;> first | rfl | exact absurd (Or.inl q) h | exact absurd (Or.inr q) h
theorem eq_y (o : CmpOp) (h : FP.dcmp x y = some .eq) : ifCond.holds .ne (cmpValue (FP.dcmp x y) o) = false ∧ ifCond.holds .eq (cmpValue (FP.dcmp x y) o) = true := by rw [h]; cases o <;> exact ⟨rfl, rfl⟩
theorem eq_n (o : CmpOp) (h : ¬ FP.dcmp x y = some .eq) : ifCond.holds .ne (cmpValue (FP.dcmp x y) o) = true ∧ ifCond.holds .eq (cmpValue (FP.dcmp x y) o) = false := by
  rcases q : FP.dcmp x y with _ | (_ | _ | _) <;> cases o <;> first | exact ⟨rfl, rfl⟩ | exact absurd q h
/-- x > y, by a taken 'ifgt' over dcmpl -/
theorem gtT_y (h : FP.dcmp x y = some .gt) : ifCond.holds .gt (cmpValue (FP.dcmp x y) .l) = true := by rw [h]; rfl
theorem gtT_n (h : ¬ FP.dcmp x y = some .gt) : ifCond.holds .gt (cmpValue (FP.dcmp x y) .l) = false := by
  rcases q : FP.dcmp x y with _ | (_ | _ | _) <;> first | rfl | exact absurd q h
theorem geT_y (h : FP.dcmp x y = some .gt ∨ FP.dcmp x y = some .eq) : ifCond.holds .ge (cmpValue (FP.dcmp x y) .l) = true := by rcases h with h | h <;> rw [h] <;> rfl
theorem geT_n (h : ¬ (FP.dcmp x y = some .gt ∨ FP.dcmp x y = some .eq)) : ifCond.holds .ge (cmpValue (FP.dcmp x y) .l) = false := by
  rcases q : FP.dcmp x y with _ | (_ | _ | _) <;> first | rfl | exact absurd (Or.inl q) h | exact absurd (Or.inr q) h
theorem ltT_y (h : FP.dcmp x y = some .lt) : ifCond.holds .lt (cmpValue (FP.dcmp x y) .g) = true := by rw [h]; rfl
theorem ltT_n (h : ¬ FP.dcmp x y = some .lt) : ifCond.holds .lt (cmpValue (FP.dcmp x y) .g) = false := by
  rcases q : FP.dcmp x y with _ | (_ | _ | _) <;> first | rfl | exact absurd q h
theorem leT_y (h : FP.dcmp x y = some .lt ∨ FP.dcmp x y = some .eq) : ifCond.holds .le (cmpValue (FP.dcmp x y) .g) = true := by rcases h with h | h <;> rw [h] <;> rfl
theorem leT_n (h : ¬ (FP.dcmp x y = some .lt ∨ FP.dcmp x y = some .eq)) : ifCond.holds .le (cmpValue (FP.dcmp x y) .g) = false := by
  rcases q : FP.dcmp x y with _ | (_ | _ | _) <;> first | rfl | exact absurd (Or.inl q) h | exact absurd (Or.inr q) h
end OwnCmp

section OwnConv
open Jvm.FP.Core
theorem own_nnN {a : UInt64} (h : val64 a ≠ .nan) : Jvm.Free.Fl.NoNaN64 a := Jvm.Free.Fl.noNaN64_no.mpr ((notNaN_iff a).mpr h)
theorem own_Nnn {a : UInt64} (h : Jvm.Free.Fl.NoNaN64 a) : val64 a ≠ .nan := (notNaN_iff a).mp (Jvm.Free.Fl.noNaN64_no.mp h)
theorem own_finF {a : UInt64} (h : DFin a) : Jvm.Free.Fl.Fin64 a := Jvm.Free.Fl.fin64_core.mpr h
theorem own_Ffin {a : UInt64} (h : Jvm.Free.Fl.Fin64 a) : DFin a := Jvm.Free.Fl.fin64_core.mp h
theorem own_nnF {a : UInt64} (h : DFin a) : Jvm.Free.Fl.NoNaN64 a := own_nnN h.ne_nan
theorem own_nz {x : Int64} (h : x ≠ 0) : Jvm.Free.Fl.Nz64 (FP.l2d x) := Jvm.Free.Fl.nz64_core.mpr (fun z => l2d_ne_zero h ((zero_bits2 _).mp z))
theorem own_eqD {a b : UInt64} (h : a = b) (n : Jvm.Free.Fl.NoNaN64 a) : FP.dcmp a b = some .eq := by subst h; exact dcmp_self (own_Nnn n)
end OwnConv

section OwnFP
open Jvm.FP.Core
theorem own_lam : ∀ i : Fin 52, val64 (FP.ddiv 4607182418800017408 (FP.l2d ((1 : Int64) <<< ((Int32.ofInt ((i.1 + 1 : Nat) : Int)) &&& 0x3f).toInt64))) = .fin false (2 ^ 52) (-53 - (i.1 : Int)) ∧
    val64 (FP.dsub 4607182418800017408 (FP.ddiv 4607182418800017408 (FP.l2d ((1 : Int64) <<< ((Int32.ofInt ((i.1 + 1 : Nat) : Int)) &&& 0x3f).toInt64)))) = .fin false ((2 ^ (i.1 + 1) - 1) * 2 ^ (52 - i.1)) (-53) ∧
    val64 (FP.l2d ((1 : Int64) <<< ((Int32.ofInt ((i.1 + 1 : Nat) : Int)) &&& 0x3f).toInt64 - 1)) = .fin false ((2 ^ (i.1 + 1) - 1) * 2 ^ (52 - i.1)) ((i.1 : Int) - 52) ∧
    FP.dcmp (FP.ddiv 4607182418800017408 (FP.l2d ((1 : Int64) <<< ((Int32.ofInt ((i.1 + 1 : Nat) : Int)) &&& 0x3f).toInt64))) 4503599627370496 = some .gt ∧
    FP.dcmp (FP.ddiv 4607182418800017408 (FP.l2d ((1 : Int64) <<< ((Int32.ofInt ((i.1 + 1 : Nat) : Int)) &&& 0x3f).toInt64))) 4607182418800017408 = some .lt ∧ (1 : Int64) <<< ((Int32.ofInt ((i.1 + 1 : Nat) : Int)) &&& 0x3f).toInt64 ≠ 0 := by decide +kernel
theorem own_val0 : val64 (0 : UInt64) = .fin false 0 (-1074) := by decide +kernel
theorem own_l2d0 : val64 (FP.l2d 0) = .fin false 0 (-1074) := by decide +kernel
/-- a long other than 0 as a double: a full significand -/
theorem own_l2d_norm (d : Int64) (hd : d ≠ 0) : ∃ s c q, val64 (FP.l2d d) = .fin s c q ∧ 2 ^ 52 ≤ c ∧ c < 2 ^ 53 ∧ -52 ≤ q ∧ q ≤ 12 := by
  obtain ⟨c, q, h⟩ := l2d_shape d
  have hb := l2d_big (int64_ne hd)
  have hm := l2d_mag d
  have hf := val64_fits (FP.l2d d)
  have h' : val64 (FP.l2d d) = .fin (decide (d.toInt < 0)) c q := h
  have hz := zmag_bits (a := FP.l2d d) (by rw [h']; simp)
  rw [h'] at hf hz
  obtain ⟨f1, f2, f3, f4⟩ := hf
  have htl : b64.tails = 2 ^ 52 := by decide
  have lo : b64.tails * 2 ^ (1023 - 1) ≤ unitsOf b64 ((FP.l2d d).toNat % 2 ^ 63) := by
    rw [← unitsOf_start (by decide : 1 ≤ 1023)]; exact unitsOf_le_iff.mpr (by rw [htl]; exact hb.1)
  have hi : unitsOf b64 ((FP.l2d d).toNat % 2 ^ 63) < b64.tails * 2 ^ (1088 - 1) := by
    rw [← unitsOf_start (by decide : 1 ≤ 1088)]; exact unitsOf_lt_iff.mpr (by rw [htl]; exact hm)
  rw [← hz, htl, show 1023 - 1 = 1022 from rfl] at lo
  rw [← hz, htl, show 1088 - 1 = 1087 from rfl] at hi
  have ez : zmag b64 (.fin (decide (d.toInt < 0)) c q) = c * 2 ^ (q + 1074).toNat := by
    show c * 2 ^ (q - b64.qmin).toNat = _
    rw [qmin_b64]; congr 2
  rw [ez] at lo hi
  have f1' : c < 2 ^ 53 := f1
  have hq1 : -52 ≤ q := by
    refine Int.not_lt.mp fun z => ?_
    have e1 : c * 2 ^ (q + 1074).toNat < 2 ^ 53 * 2 ^ 1021 :=
      Nat.lt_of_lt_of_le (Nat.mul_lt_mul_of_pos_right f1' (Nat.two_pow_pos _)) (Nat.mul_le_mul_left _ (Nat.pow_le_pow_right (by decide) (by omega)))
    rw [← Nat.pow_add] at e1 lo
    exact absurd (Nat.lt_of_le_of_lt lo e1) (Nat.lt_irrefl _)
  have hc : 2 ^ 52 ≤ c := by rcases f4 with z | z; · rw [qmin_b64] at z; omega
                             · rw [htl] at z; exact z
  refine ⟨_, c, q, h', hc, f1', hq1, ?_⟩
  refine Int.not_lt.mp fun z => ?_
  have e1 : 2 ^ 52 * 2 ^ 1087 ≤ c * 2 ^ (q + 1074).toNat := Nat.mul_le_mul hc (Nat.pow_le_pow_right (by decide) (by omega))
  exact absurd (Nat.lt_of_le_of_lt e1 hi) (Nat.lt_irrefl _)
theorem own_core (i : Nat) (hi : i < 52) (lam num ref : UInt64) (C : Nat) (hC : C ≠ 0) (h1 : val64 lam = .fin false (2 ^ 52) (-53 - (i : Int))) (h2 : val64 num = .fin false C (-53)) (h3 : val64 ref = .fin false C ((i : Int) - 52)) (d : Int64) :
    val64 (FP.ddiv num (FP.dmul lam (FP.l2d d))) ≠ .nan ∧ FP.ddiv num (FP.dmul lam (FP.l2d d)) = FP.ddiv ref (FP.l2d d) := by
  have key : val64 (FP.ddiv num (FP.dmul lam (FP.l2d d))) = val64 (FP.ddiv ref (FP.l2d d)) ∧ val64 (FP.ddiv ref (FP.l2d d)) ≠ .nan := by
    show val64 (Jvm.FP.Core.ddiv num (Jvm.FP.Core.dmul lam (FP.l2d d))) = val64 (Jvm.FP.Core.ddiv ref (FP.l2d d)) ∧ val64 (Jvm.FP.Core.ddiv ref (FP.l2d d)) ≠ .nan
    rw [val64_ddiv, val64_ddiv, val64_dmul, h1, h2, h3]
    by_cases hd : d = 0
    · subst hd
      rw [own_l2d0]
      have e : round b64 (exactProduct (.fin false (2 ^ 52) (-53 - (i : Int))) (.fin false 0 (-1074))) = .fin false 0 (-1074) := by
        show roundRatio b64 (false != false) (2 ^ 52 * 0) 1 (-53 - (i : Int) + -1074) = _
        rw [Nat.mul_zero]; rfl
      rw [e]
      unfold quotient
      simp [hC]
    · obtain ⟨s, c, q, h, c1, c2, q1, q2⟩ := own_l2d_norm d hd
      rw [h]
      have hc0 : ¬ c = 0 := by have : (0:Nat) < 2 ^ 52 := Nat.two_pow_pos _; omega
      have e : round b64 (exactProduct (.fin false (2 ^ 52) (-53 - (i : Int))) (.fin s c q)) = .fin s c (q - 1 - (i : Int)) := by
        show roundRatio b64 (false != s) (2 ^ 52 * c) 1 (-53 - (i : Int) + q) = _
        have hs : (false != s) = s := by cases s <;> rfl
        rw [hs]
        refine roundRatio_exact good_b64 (by decide) ⟨c2, by rw [qmin_b64]; omega, by show _ ≤ b64.qmax; rw [show b64.qmax = 971 by decide]; omega, Or.inr (by rw [show b64.tails = 2 ^ 52 by decide]; exact c1)⟩ ?_
        rw [show (-53 - (i : Int) + q - (q - 1 - (i : Int))).toNat = 0 by omega, show (q - 1 - (i : Int) - (-53 - (i : Int) + q)).toNat = 52 by omega]
        simp [Nat.mul_comm]
      rw [e]
      show (if c = 0 then (if C = 0 then Datum.nan else .inf (false != s)) else roundRatio b64 (false != s) C c (-53 - (q - 1 - (i : Int)))) = (if c = 0 then (if C = 0 then Datum.nan else .inf (false != s)) else roundRatio b64 (false != s) C c ((i : Int) - 52 - q)) ∧ (if c = 0 then (if C = 0 then Datum.nan else .inf (false != s)) else roundRatio b64 (false != s) C c ((i : Int) - 52 - q)) ≠ .nan
      rw [if_neg hc0, if_neg hc0, show (-53 - (q - 1 - (i : Int))) = (i : Int) - 52 - q by omega]
      exact ⟨rfl, roundRatio_ne_nan _ _ _ _ _⟩
  refine ⟨by rw [key.1]; exact key.2, val64_inj (by rw [key.1]; exact key.2) key.1⟩
theorem own_731 (k : Int32) (k1 : 1 ≤ k.toInt) (k2 : k.toInt ≤ 52) (P : Int64) (hP : P = (1 : Int64) <<< (k &&& 0x3f).toInt64) (lam : UInt64) (hl : lam = FP.ddiv 4607182418800017408 (FP.l2d P)) :
    FP.dcmp lam 4503599627370496 = some .gt ∧ FP.dcmp lam 4607182418800017408 = some .lt ∧ P ≠ 0 ∧ DFin lam ∧ DFin (FP.dsub 4607182418800017408 lam) ∧
    ∀ d : Int64, val64 (FP.ddiv (FP.dsub 4607182418800017408 lam) (FP.dmul lam (FP.l2d d))) ≠ .nan ∧ FP.ddiv (FP.dsub 4607182418800017408 lam) (FP.dmul lam (FP.l2d d)) = FP.ddiv (FP.l2d (P - 1)) (FP.l2d d) := by
  have e : k = Int32.ofInt (((k.toInt.toNat - 1) + 1 : Nat) : Int) := by
    rw [show (((k.toInt.toNat - 1) + 1 : Nat) : Int) = k.toInt by omega]; exact (Int32.ofInt_toInt k).symm
  have h := own_lam ⟨k.toInt.toNat - 1, by omega⟩
  dsimp only at h
  rw [← e, ← hP, ← hl] at h
  obtain ⟨a1, a2, a3, a4, a5, a6⟩ := h
  refine ⟨a4, a5, a6, ⟨_, _, _, a1⟩, ⟨_, _, _, a2⟩, fun d => own_core (k.toInt.toNat - 1) (by omega) lam _ _ _ ?_ a1 a2 a3 d⟩
  have p1 : 2 ≤ 2 ^ (k.toInt.toNat - 1 + 1) := by rw [Nat.pow_succ]; have := Nat.two_pow_pos (k.toInt.toNat - 1); omega
  have p2 := Nat.two_pow_pos (52 - (k.toInt.toNat - 1))
  exact Nat.ne_of_gt (Nat.mul_pos (by omega) p2)
theorem own_k1 (x : Int32) : 1 ≤ ((1 : Int32) + (x &&& (2147483647 : Int32)) % (52 : Int32)).toInt ∧ ((1 : Int32) + (x &&& (2147483647 : Int32)) % (52 : Int32)).toInt ≤ 52 := by
  have h1 := c_mask x 2147483647 31 (by decide) (by decide)
  have h2 := (c_irem (x &&& (2147483647 : Int32)) 52 52 (by decide)).1 (by omega)
  have h3 := c_iadd 1 ((x &&& (2147483647 : Int32)) % (52 : Int32))
  have h4 := Int32.toInt_lt ((1 : Int32) + (x &&& (2147483647 : Int32)) % (52 : Int32))
  have h5 := Int32.le_toInt ((1 : Int32) + (x &&& (2147483647 : Int32)) % (52 : Int32))
  rw [show (1 : Int32).toInt = 1 from rfl] at h3
  omega
end OwnFP

theorem d1_0 : decode prog_5_method_1_code 0 = .ok (.aload_n 0, 1) := by decide +kernel
theorem d1_1 : decode prog_5_method_1_code 1 = .ok (.invokespecial 1, 3) := by decide +kernel
theorem d1_4 : decode prog_5_method_1_code 4 = .ok (.dload_n 1, 1) := by decide +kernel
theorem d1_5 : decode prog_5_method_1_code 5 = .ok (.ldc2_w 9, 3) := by decide +kernel
theorem d1_8 : decode prog_5_method_1_code 8 = .ok (.dcmp .l, 1) := by decide +kernel
theorem d1_9 : decode prog_5_method_1_code 9 = .ok (.ifCond .lt 9, 3) := by decide +kernel
theorem d1_12 : decode prog_5_method_1_code 12 = .ok (.dload_n 1, 1) := by decide +kernel
theorem d1_13 : decode prog_5_method_1_code 13 = .ok (.dconst 1, 1) := by decide +kernel
theorem d1_14 : decode prog_5_method_1_code 14 = .ok (.dcmp .g, 1) := by decide +kernel
theorem d1_15 : decode prog_5_method_1_code 15 = .ok (.ifCond .lt 17, 3) := by decide +kernel
theorem d1_32 : decode prog_5_method_1_code 32 = .ok (.aload_n 0, 1) := by decide +kernel
theorem d1_33 : decode prog_5_method_1_code 33 = .ok (.dload_n 1, 1) := by decide +kernel
theorem d1_34 : decode prog_5_method_1_code 34 = .ok (.putfield 20, 3) := by decide +kernel
theorem d1_37 : decode prog_5_method_1_code 37 = .ok (.aload_n 0, 1) := by decide +kernel
theorem d1_38 : decode prog_5_method_1_code 38 = .ok (.lload_n 3, 1) := by decide +kernel
theorem d1_39 : decode prog_5_method_1_code 39 = .ok (.putfield 26, 3) := by decide +kernel
theorem d1_42 : decode prog_5_method_1_code 42 = .ok (.return_, 1) := by decide +kernel
set_option maxRecDepth 65536 in
set_option maxHeartbeats 40000000 in
theorem w1 {p : Program} {l : Launch} {e : Env} {s : State} {m : MethodId} {args : Array Value} {below : List Frame} {meth : Method} {c_ : Code} {T0 : State} {locs : List Loc} {Z : State} {a0 : Array Value} {h0 : Heap} {n0 : Nat} (a : Addr) (v : UInt64) (t : Int64)
    (X0 : Stand p l e ({ frames := 1, cells := 0, slots := 0, locals := 12 } : Room) s m args below meth c_ T0 locs 0 0) (hx : p.tables.exec = Jvm.exec) (hZ : Z.Warmed39 s.vm) (hw : ∀ d ∈ tables_1, d.before a0 Z = true) (hby : c_.code = prog_5_method_1_code) (hml : c_.maxLocals = 5) (hown : s.vm.findClass "com/example/bursty_ranking/burstyranking/JelinekMercerModel" = some m.cls) (hnm : meth.name = "<init>") (hret : meth.sig.returnType = none) (hlk : meth.locks = false) (e0 : T0.heap = h0) (Z0 : n0 ≤ h0.size) (N0 : Fr n0 locs) (E_a : Exa Z h0 a "com/example/bursty_ranking/burstyranking/JelinekMercerModel") (F_lambda_a : Fld Z h0 a "com/example/bursty_ranking/burstyranking/JelinekMercerModel" "lambda" "D" (.double (0 : UInt64))) (F_tokenCount_a : Fld Z h0 a "com/example/bursty_ranking/burstyranking/JelinekMercerModel" "tokenCount" "J" (.long (0 : Int64))) (ge_a : n0 ≤ a) (hlo : FP.dcmp v (4503599627370496 : UInt64) = some .gt) (hhi : FP.dcmp v (4607182418800017408 : UInt64) = some .lt) :
    Go p e below s ({ frames := 1, cells := 0, slots := 0, locals := 12 } : Room).cells ({ frames := 1, cells := 0, slots := 0, locals := 12 } : Room).slots (fun r h L => r = none ∧ Fr n0 L ∧ Keep h0 h [a] ∧ Exa Z h a "com/example/bursty_ranking/burstyranking/JelinekMercerModel" ∧ Fld Z h a "com/example/bursty_ranking/burstyranking/JelinekMercerModel" "lambda" "D" (.double v) ∧ Fld Z h a "com/example/bursty_ranking/burstyranking/JelinekMercerModel" "tokenCount" "J" (.long t)) T0 (mkF m 0 #[.val (.ref a), .val (.double v), .second, .val (.long t), .second] []) := by
  show Go _ _ _ _ _ _ _ T0 (mkF m 0 #[.val (.ref a), .val (.double v), .second, .val (.long t), .second] [])
  refine Go.step (fun _ k => XS.aloadN X0.here hx rfl (hb hby d1_0) rfl rfl k) ?_
  show Go _ _ _ _ _ _ _ T0 (mkF m 1 #[.val (.ref a), .val (.double v), .second, .val (.long t), .second] [(.ref a)])
  obtain ⟨T1, X1, e1, st1⟩ := initO X0 hx hZ hown (hw _ (List.mem_of_getElem? (i := 7) rfl)) (hw _ (List.mem_of_getElem? (i := 8) rfl)) (hw _ (List.mem_of_getElem? (i := 9) rfl)) e0 (g := (mkF m 1 #[.val (.ref a), .val (.double v), .second, .val (.long t), .second] [(.ref a)])) rfl (by rw [hml]; rfl) rfl (hb hby d1_1) (by decide) (W := 0) (by show 2 * 0 + _ ≤ _; exact Nat.le_of_eq rfl) (by decide)
  refine Go.step st1 ?_
  show Go _ _ _ _ _ _ _ T1 (mkF m 4 #[.val (.ref a), .val (.double v), .second, .val (.long t), .second] [])
  refine Go.step (fun _ k => XS.dloadN X1.here hx rfl (hb hby d1_4) rfl k) ?_
  show Go _ _ _ _ _ _ _ T1 (mkF m 5 #[.val (.ref a), .val (.double v), .second, .val (.long t), .second] [(.double v)])
  refine Go.step (X1.ldc2DoubleC hx hown (mvT hZ (hw _ (List.mem_of_getElem? (i := 10) rfl))) (g := (mkF m 5 #[.val (.ref a), .val (.double v), .second, .val (.long t), .second] [(.double v)])) rfl (hb hby d1_5)) ?_
  show Go _ _ _ _ _ _ _ T1 (mkF m 8 #[.val (.ref a), .val (.double v), .second, .val (.long t), .second] [(.double (4503599627370496 : UInt64)), (.double v)])
  refine Go.step (fun _ k => XS.dcmpS X1.here hx rfl (hb hby d1_8) rfl rfl k) ?_
  show Go _ _ _ _ _ _ _ T1 (mkF m 9 #[.val (.ref a), .val (.double v), .second, .val (.long t), .second] [(.int (cmpValue (FP.dcmp v (4503599627370496 : UInt64)) .l))])
  refine Go.step (fun _ k => XS.ifNo X1.here hx rfl (hb hby d1_9) rfl (ge_y (Or.inl hlo)) k) ?_
  show Go _ _ _ _ _ _ _ T1 (mkF m 12 #[.val (.ref a), .val (.double v), .second, .val (.long t), .second] [])
  refine Go.step (fun _ k => XS.dloadN X1.here hx rfl (hb hby d1_12) rfl k) ?_
  show Go _ _ _ _ _ _ _ T1 (mkF m 13 #[.val (.ref a), .val (.double v), .second, .val (.long t), .second] [(.double v)])
  refine Go.step (fun _ k => XS.dconst1 X1.here hx rfl (hb hby d1_13) rfl k) ?_
  show Go _ _ _ _ _ _ _ T1 (mkF m 14 #[.val (.ref a), .val (.double v), .second, .val (.long t), .second] [(.double (4607182418800017408 : UInt64)), (.double v)])
  refine Go.step (fun _ k => XS.dcmpS X1.here hx rfl (hb hby d1_14) rfl rfl k) ?_
  show Go _ _ _ _ _ _ _ T1 (mkF m 15 #[.val (.ref a), .val (.double v), .second, .val (.long t), .second] [(.int (cmpValue (FP.dcmp v (4607182418800017408 : UInt64)) .g))])
  refine Go.step (fun _ k => XS.ifYes X1.here hx rfl (pc0 := 15) (pc' := 32) rfl (hb hby d1_15) rfl (ltT_y hhi) (by decide) (by decide) k) ?_
  show Go _ _ _ _ _ _ _ T1 (mkF m 32 #[.val (.ref a), .val (.double v), .second, .val (.long t), .second] [])
  refine Go.step (fun _ k => XS.aloadN X1.here hx rfl (hb hby d1_32) rfl rfl k) ?_
  show Go _ _ _ _ _ _ _ T1 (mkF m 33 #[.val (.ref a), .val (.double v), .second, .val (.long t), .second] [(.ref a)])
  refine Go.step (fun _ k => XS.dloadN X1.here hx rfl (hb hby d1_33) rfl k) ?_
  show Go _ _ _ _ _ _ _ T1 (mkF m 34 #[.val (.ref a), .val (.double v), .second, .val (.long t), .second] [(.double v), (.ref a)])
  obtain ⟨T2, h2, X2, e2, W2, st2⟩ := putF X1 hx hZ hown (host := "") (Or.inl (hw _ (List.mem_of_getElem? (i := 11) rfl))) Via.refl e1 F_lambda_a E_a (Or.inr ⟨(hw _ (List.mem_of_getElem? (i := 12) rfl)), rfl, hnm⟩) (hw _ (List.mem_of_getElem? (i := 2) rfl)) (ty := .double) (by decide) rfl rfl (g := (mkF m 34 #[.val (.ref a), .val (.double v), .second, .val (.long t), .second] [(.double v), (.ref a)])) rfl rfl (hb hby d1_34)
  refine Go.step st2 ?_
  have N2 := Fr.snoc X2 N0 ge_a
  have F_lambda_a_2 := F_lambda_a.same W2
  have E_a_2 := E_a.wr W2
  have F_tokenCount_a_2 := F_tokenCount_a.other W2 (Or.inr (slot_ne (Or.inr (hw _ (List.mem_of_getElem? (i := 14) rfl))) (Or.inr (hw _ (List.mem_of_getElem? (i := 12) rfl))) (by decide) (t := .long) (t' := .double) (by decide) (by decide)))
  have K2 : Keep h0 h2 [a] := (Keep.refl h0 [a]).wr W2 (Or.inl (List.mem_of_getElem? (i := 0) rfl))
  show Go _ _ _ _ _ _ _ T2 (mkF m 37 #[.val (.ref a), .val (.double v), .second, .val (.long t), .second] [])
  refine Go.step (fun _ k => XS.aloadN X2.here hx rfl (hb hby d1_37) rfl rfl k) ?_
  show Go _ _ _ _ _ _ _ T2 (mkF m 38 #[.val (.ref a), .val (.double v), .second, .val (.long t), .second] [(.ref a)])
  refine Go.step (fun _ k => XS.lloadN X2.here hx rfl (hb hby d1_38) rfl k) ?_
  show Go _ _ _ _ _ _ _ T2 (mkF m 39 #[.val (.ref a), .val (.double v), .second, .val (.long t), .second] [(.long t), (.ref a)])
  obtain ⟨T3, h3, X3, e3, W3, st3⟩ := putF X2 hx hZ hown (host := "") (Or.inl (hw _ (List.mem_of_getElem? (i := 13) rfl))) Via.refl e2 F_tokenCount_a_2 E_a_2 (Or.inr ⟨(hw _ (List.mem_of_getElem? (i := 14) rfl)), rfl, hnm⟩) (hw _ (List.mem_of_getElem? (i := 2) rfl)) (ty := .long) (by decide) rfl rfl (g := (mkF m 39 #[.val (.ref a), .val (.double v), .second, .val (.long t), .second] [(.long t), (.ref a)])) rfl rfl (hb hby d1_39)
  refine Go.step st3 ?_
  have N3 := Fr.snoc X3 N2 ge_a
  have F_tokenCount_a_3 := F_tokenCount_a_2.same W3
  have E_a_3 := E_a_2.wr W3
  have F_lambda_a_3 := F_lambda_a_2.other W3 (Or.inr (slot_ne (Or.inr (hw _ (List.mem_of_getElem? (i := 12) rfl))) (Or.inr (hw _ (List.mem_of_getElem? (i := 14) rfl))) (by decide) (t := .double) (t' := .long) (by decide) (by decide)))
  have K3 : Keep h0 h3 [a] := K2.wr W3 (Or.inl (List.mem_of_getElem? (i := 0) rfl))
  show Go _ _ _ _ _ _ _ T3 (mkF m 42 #[.val (.ref a), .val (.double v), .second, .val (.long t), .second] [])
  refine Go.retV X3 hx hlk hret (hb hby d1_42) (by decide) (by decide) ?_
  try rw [e3]
  exact ⟨rfl, N3, K3, E_a_3, F_lambda_a_3, F_tokenCount_a_3⟩
theorem pn_1 : plainName "com/example/bursty_ranking/burstyranking/JelinekMercerModel" = true := by first | (simp [plainName, overriddenIn]; done) | decide +kernel
theorem ef_rm1 (m : MethodId) (a : Addr) (v : UInt64) (t : Int64) : entryFrame m #[(.ref a), (.double v), (.long t)] 5 = mkF m 0 #[.val (.ref a), .val (.double v), .second, .val (.long t), .second] [] := by first | (simp [entryFrame, mkF, argsToLocals, Value.category]; done) | rfl
theorem rm1 (l : Launch) (Z : State) (a0 : Array Value) (hw : ∀ d ∈ tables_1, d.before a0 Z = true) (a : Addr) (v : UInt64) (t : Int64) (h0 : Heap) (n0 : Nat) (Z0 : n0 ≤ h0.size) (E_a : Exa Z h0 a "com/example/bursty_ranking/burstyranking/JelinekMercerModel") (F_lambda_a : Fld Z h0 a "com/example/bursty_ranking/burstyranking/JelinekMercerModel" "lambda" "D" (.double (0 : UInt64))) (F_tokenCount_a : Fld Z h0 a "com/example/bursty_ranking/burstyranking/JelinekMercerModel" "tokenCount" "J" (.long (0 : Int64))) (ge_a : n0 ≤ a) (hlo : FP.dcmp v (4503599627370496 : UInt64) = some .gt) (hhi : FP.dcmp v (4607182418800017408 : UInt64) = some .lt) :
    Con l Z (⟨"com/example/bursty_ranking/burstyranking/JelinekMercerModel", "<init>", "(DJ)V"⟩ : MethodName) prog_5_method_1_code 5 none ({ frames := 1, cells := 0, slots := 0, locals := 12 } : Room) #[(.ref a), (.double v), (.long t)] h0 (fun r h L => r = none ∧ Fr n0 L ∧ Keep h0 h [a] ∧ Exa Z h a "com/example/bursty_ranking/burstyranking/JelinekMercerModel" ∧ Fld Z h a "com/example/bursty_ranking/burstyranking/JelinekMercerModel" "lambda" "D" (.double v) ∧ Fld Z h a "com/example/bursty_ranking/burstyranking/JelinekMercerModel" "tokenCount" "J" (.long t)) :=
  con_of (plainFor_of_name pn_1) (fun p_ e_ s_ m_ b_ meth_ c_ T_ X_ hx hZ hby hml hown hnm hret hlk e0 => Go.cast (ef_rm1 m_ a v t) (w1 a v t X_ hx hZ hw hby hml hown hnm hret hlk e0 Z0 (Fr.nil n0) E_a F_lambda_a F_tokenCount_a ge_a hlo hhi))
theorem d3_0 : decode prog_5_method_5_code 0 = .ok (.dconst 1, 1) := by decide +kernel
theorem d3_1 : decode prog_5_method_5_code 1 = .ok (.aload_n 0, 1) := by decide +kernel
theorem d3_2 : decode prog_5_method_5_code 2 = .ok (.getfield 20, 3) := by decide +kernel
theorem d3_5 : decode prog_5_method_5_code 5 = .ok (.dsub, 1) := by decide +kernel
theorem d3_6 : decode prog_5_method_5_code 6 = .ok (.aload_n 0, 1) := by decide +kernel
theorem d3_7 : decode prog_5_method_5_code 7 = .ok (.getfield 20, 3) := by decide +kernel
theorem d3_10 : decode prog_5_method_5_code 10 = .ok (.lload_n 1, 1) := by decide +kernel
theorem d3_11 : decode prog_5_method_5_code 11 = .ok (.l2d, 1) := by decide +kernel
theorem d3_12 : decode prog_5_method_5_code 12 = .ok (.dmul, 1) := by decide +kernel
theorem d3_13 : decode prog_5_method_5_code 13 = .ok (.ddiv, 1) := by decide +kernel
theorem d3_14 : decode prog_5_method_5_code 14 = .ok (.dreturn, 1) := by decide +kernel
set_option maxRecDepth 65536 in
set_option maxHeartbeats 40000000 in
theorem w3 {p : Program} {l : Launch} {e : Env} {s : State} {m : MethodId} {args : Array Value} {below : List Frame} {meth : Method} {c_ : Code} {T0 : State} {locs : List Loc} {Z : State} {a0 : Array Value} {h0 : Heap} {n0 : Nat} (a : Addr) (d : Int64) (dd : Int64) (v : UInt64)
    (X0 : Stand p l e ({ frames := 0, cells := 0, slots := 0, locals := 0 } : Room) s m args below meth c_ T0 locs 0 0) (hx : p.tables.exec = Jvm.exec) (hZ : Z.Warmed39 s.vm) (hw : ∀ d ∈ tables_1, d.before a0 Z = true) (hby : c_.code = prog_5_method_5_code) (hml : c_.maxLocals = 5) (hown : s.vm.findClass "com/example/bursty_ranking/burstyranking/JelinekMercerModel" = some m.cls) (hnm : meth.name = "termFreqWeight") (hret : meth.sig.returnType = some .double) (hlk : meth.locks = false) (e0 : T0.heap = h0) (Z0 : n0 ≤ h0.size) (N0 : Fr n0 locs) (F_lambda_a : Fld Z h0 a "com/example/bursty_ranking/burstyranking/JelinekMercerModel" "lambda" "D" (.double v)) (hn1 : Jvm.Free.Fl.NoNaN64 (FP.dsub (4607182418800017408 : UInt64) v)) (hn2 : Jvm.Free.Fl.NoNaN64 (FP.dmul v (FP.l2d d))) (hn3 : Jvm.Free.Fl.NoNaN64 (FP.ddiv (FP.dsub (4607182418800017408 : UInt64) v) (FP.dmul v (FP.l2d d)))) :
    Go p e below s ({ frames := 0, cells := 0, slots := 0, locals := 0 } : Room).cells ({ frames := 0, cells := 0, slots := 0, locals := 0 } : Room).slots (fun r h L => r = some (.double (FP.ddiv (FP.dsub (4607182418800017408 : UInt64) v) (FP.dmul v (FP.l2d d)))) ∧ Fr n0 L ∧ h = h0) T0 (mkF m 0 #[.val (.ref a), .val (.long d), .second, .val (.long dd), .second] []) := by
  show Go _ _ _ _ _ _ _ T0 (mkF m 0 #[.val (.ref a), .val (.long d), .second, .val (.long dd), .second] [])
  refine Go.step (fun _ k => XS.dconst1 X0.here hx rfl (hb hby d3_0) rfl k) ?_
  show Go _ _ _ _ _ _ _ T0 (mkF m 1 #[.val (.ref a), .val (.long d), .second, .val (.long dd), .second] [(.double (4607182418800017408 : UInt64))])
  refine Go.step (fun _ k => XS.aloadN X0.here hx rfl (hb hby d3_1) rfl rfl k) ?_
  show Go _ _ _ _ _ _ _ T0 (mkF m 2 #[.val (.ref a), .val (.long d), .second, .val (.long dd), .second] [(.ref a), (.double (4607182418800017408 : UInt64))])
  obtain ⟨T1, X1, e1, st1⟩ := getF X0 hx hZ hown (host := "") (Or.inl (hw _ (List.mem_of_getElem? (i := 11) rfl))) Via.refl e0 F_lambda_a (g := (mkF m 2 #[.val (.ref a), .val (.long d), .second, .val (.long dd), .second] [(.ref a), (.double (4607182418800017408 : UInt64))])) rfl rfl (hb hby d3_2)
  refine Go.step st1 ?_
  show Go _ _ _ _ _ _ _ T1 (mkF m 5 #[.val (.ref a), .val (.long d), .second, .val (.long dd), .second] [(.double v), (.double (4607182418800017408 : UInt64))])
  refine Go.step (fun _ k => XS.dsubS X1.here hx rfl (hb hby d3_5) rfl hn1 rfl k) ?_
  show Go _ _ _ _ _ _ _ T1 (mkF m 6 #[.val (.ref a), .val (.long d), .second, .val (.long dd), .second] [(.double (FP.dsub (4607182418800017408 : UInt64) v))])
  refine Go.step (fun _ k => XS.aloadN X1.here hx rfl (hb hby d3_6) rfl rfl k) ?_
  show Go _ _ _ _ _ _ _ T1 (mkF m 7 #[.val (.ref a), .val (.long d), .second, .val (.long dd), .second] [(.ref a), (.double (FP.dsub (4607182418800017408 : UInt64) v))])
  obtain ⟨T2, X2, e2, st2⟩ := getF X1 hx hZ hown (host := "") (Or.inl (hw _ (List.mem_of_getElem? (i := 11) rfl))) Via.refl e1 F_lambda_a (g := (mkF m 7 #[.val (.ref a), .val (.long d), .second, .val (.long dd), .second] [(.ref a), (.double (FP.dsub (4607182418800017408 : UInt64) v))])) rfl rfl (hb hby d3_7)
  refine Go.step st2 ?_
  show Go _ _ _ _ _ _ _ T2 (mkF m 10 #[.val (.ref a), .val (.long d), .second, .val (.long dd), .second] [(.double v), (.double (FP.dsub (4607182418800017408 : UInt64) v))])
  refine Go.step (fun _ k => XS.lloadN X2.here hx rfl (hb hby d3_10) rfl k) ?_
  show Go _ _ _ _ _ _ _ T2 (mkF m 11 #[.val (.ref a), .val (.long d), .second, .val (.long dd), .second] [(.long d), (.double v), (.double (FP.dsub (4607182418800017408 : UInt64) v))])
  refine Go.step (fun _ k => XS.l2dS X2.here hx rfl (hb hby d3_11) rfl rfl k) ?_
  show Go _ _ _ _ _ _ _ T2 (mkF m 12 #[.val (.ref a), .val (.long d), .second, .val (.long dd), .second] [(.double (FP.l2d d)), (.double v), (.double (FP.dsub (4607182418800017408 : UInt64) v))])
  refine Go.step (fun _ k => XS.dmulS X2.here hx rfl (hb hby d3_12) rfl hn2 rfl k) ?_
  show Go _ _ _ _ _ _ _ T2 (mkF m 13 #[.val (.ref a), .val (.long d), .second, .val (.long dd), .second] [(.double (FP.dmul v (FP.l2d d))), (.double (FP.dsub (4607182418800017408 : UInt64) v))])
  refine Go.step (fun _ k => XS.ddivS X2.here hx rfl (hb hby d3_13) rfl hn3 rfl k) ?_
  show Go _ _ _ _ _ _ _ T2 (mkF m 14 #[.val (.ref a), .val (.long d), .second, .val (.long dd), .second] [(.double (FP.ddiv (FP.dsub (4607182418800017408 : UInt64) v) (FP.dmul v (FP.l2d d))))])
  refine Go.retD X2 hx hlk hret (hb hby d3_14) (by decide) (by decide) ?_
  try rw [e2]
  exact ⟨rfl, N0, rfl⟩
theorem ef_rm3 (m : MethodId) (a : Addr) (d : Int64) (dd : Int64) : entryFrame m #[(.ref a), (.long d), (.long dd)] 5 = mkF m 0 #[.val (.ref a), .val (.long d), .second, .val (.long dd), .second] [] := by first | (simp [entryFrame, mkF, argsToLocals, Value.category]; done) | rfl
theorem rm3 (l : Launch) (Z : State) (a0 : Array Value) (hw : ∀ d ∈ tables_1, d.before a0 Z = true) (a : Addr) (d : Int64) (dd : Int64) (v : UInt64) (h0 : Heap) (n0 : Nat) (Z0 : n0 ≤ h0.size) (F_lambda_a : Fld Z h0 a "com/example/bursty_ranking/burstyranking/JelinekMercerModel" "lambda" "D" (.double v)) (hn1 : Jvm.Free.Fl.NoNaN64 (FP.dsub (4607182418800017408 : UInt64) v)) (hn2 : Jvm.Free.Fl.NoNaN64 (FP.dmul v (FP.l2d d))) (hn3 : Jvm.Free.Fl.NoNaN64 (FP.ddiv (FP.dsub (4607182418800017408 : UInt64) v) (FP.dmul v (FP.l2d d)))) :
    Con l Z (⟨"com/example/bursty_ranking/burstyranking/JelinekMercerModel", "termFreqWeight", "(JJ)D"⟩ : MethodName) prog_5_method_5_code 5 (some .double) ({ frames := 0, cells := 0, slots := 0, locals := 0 } : Room) #[(.ref a), (.long d), (.long dd)] h0 (fun r h L => r = some (.double (FP.ddiv (FP.dsub (4607182418800017408 : UInt64) v) (FP.dmul v (FP.l2d d)))) ∧ Fr n0 L ∧ h = h0) :=
  con_of (plainFor_of_name pn_1) (fun p_ e_ s_ m_ b_ meth_ c_ T_ X_ hx hZ hby hml hown hnm hret hlk e0 => Go.cast (ef_rm3 m_ a d dd) (w3 a d dd v X_ hx hZ hw hby hml hown hnm hret hlk e0 Z0 (Fr.nil n0) F_lambda_a hn1 hn2 hn3))
theorem pd_0 : parseMethodDescriptor "(DJ)V" = some ⟨[.double, .long], none⟩ := by decide +kernel
theorem pd_1 : parseMethodDescriptor "(JJ)D" = some ⟨[.long, .long], some .double⟩ := by decide +kernel
set_option maxRecDepth 65536 in
set_option maxHeartbeats 40000000 in
theorem w0 {p : Program} {l : Launch} {e : Env} {s : State} {m : MethodId} {args : Array Value} {below : List Frame} {meth : Method} {c_ : Code} {T0 : State} {locs : List Loc} {Z : State} {a0 : Array Value} {h0 : Heap} {n0 : Nat} (p0 : Int32) (p1 : Int64) (p2 : Int64) (p3 : Int64)
    (X0 : Stand p l e room_1 s m args below meth c_ T0 locs 0 0) (hx : p.tables.exec = Jvm.exec) (hZ : Z.Warmed39 s.vm) (hw : ∀ d ∈ tables_1, d.before a0 Z = true) (hby : c_.code = code) (hml : c_.maxLocals = maxLocals) (hown : s.vm.findClass "com/example/bursty_ranking/burstyranking/JelinekMercerModelTermFreqWeightPinLaw" = some m.cls) (hnm : meth.name = "law") (hret : meth.sig.returnType = ret) (hlk : meth.locks = false) (e0 : T0.heap = h0) (Z0 : n0 ≤ h0.size) (N0 : Fr n0 locs)  :
    Go p e below s room_1.cells room_1.slots (fun r h L => r = some (.int 1) ∧ Fr n0 L) T0 (mkF m 0 #[.val (.int p0), .val (.long p1), .second, .val (.long p2), .second, .val (.long p3), .second, .unset, .unset, .unset, .unset, .unset, .unset, .unset, .unset, .unset, .unset] []) := by
  have hret : meth.sig.returnType = some .boolean := hret
  show Go _ _ _ _ _ _ _ T0 (mkF m 0 #[.val (.int p0), .val (.long p1), .second, .val (.long p2), .second, .val (.long p3), .second, .unset, .unset, .unset, .unset, .unset, .unset, .unset, .unset, .unset, .unset] [])
  refine Go.step (fun _ k => XS.iconst X0.here hx rfl (hb hby at_0) k) ?_
  show Go _ _ _ _ _ _ _ T0 (mkF m 1 #[.val (.int p0), .val (.long p1), .second, .val (.long p2), .second, .val (.long p3), .second, .unset, .unset, .unset, .unset, .unset, .unset, .unset, .unset, .unset, .unset] [(.int (1 : Int32))])
  refine Go.step (fun _ k => XS.iloadN X0.here hx rfl (hb hby at_1) rfl k) ?_
  show Go _ _ _ _ _ _ _ T0 (mkF m 2 #[.val (.int p0), .val (.long p1), .second, .val (.long p2), .second, .val (.long p3), .second, .unset, .unset, .unset, .unset, .unset, .unset, .unset, .unset, .unset, .unset] [(.int p0), (.int (1 : Int32))])
  refine Go.step (X0.ldcInt hx hown (mvT hZ (hw _ (List.mem_of_getElem? (i := 0) rfl))) (g := (mkF m 2 #[.val (.int p0), .val (.long p1), .second, .val (.long p2), .second, .val (.long p3), .second, .unset, .unset, .unset, .unset, .unset, .unset, .unset, .unset, .unset, .unset] [(.int p0), (.int (1 : Int32))])) rfl (hb hby at_2)) ?_
  show Go _ _ _ _ _ _ _ T0 (mkF m 4 #[.val (.int p0), .val (.long p1), .second, .val (.long p2), .second, .val (.long p3), .second, .unset, .unset, .unset, .unset, .unset, .unset, .unset, .unset, .unset, .unset] [(.int (2147483647 : Int32)), (.int p0), (.int (1 : Int32))])
  refine Go.step (fun _ k => XS.iand X0.here hx rfl (hb hby at_4) rfl k) ?_
  show Go _ _ _ _ _ _ _ T0 (mkF m 5 #[.val (.int p0), .val (.long p1), .second, .val (.long p2), .second, .val (.long p3), .second, .unset, .unset, .unset, .unset, .unset, .unset, .unset, .unset, .unset, .unset] [(.int (p0 &&& (2147483647 : Int32))), (.int (1 : Int32))])
  refine Go.step (fun _ k => XS.bipush X0.here hx rfl (hb hby at_5) k) ?_
  show Go _ _ _ _ _ _ _ T0 (mkF m 7 #[.val (.int p0), .val (.long p1), .second, .val (.long p2), .second, .val (.long p3), .second, .unset, .unset, .unset, .unset, .unset, .unset, .unset, .unset, .unset, .unset] [(.int (52 : Int32)), (.int (p0 &&& (2147483647 : Int32))), (.int (1 : Int32))])
  refine Go.step (fun _ k => iremM X0 hx rfl (hb hby at_7) rfl (by decide) k) ?_
  show Go _ _ _ _ _ _ _ T0 (mkF m 8 #[.val (.int p0), .val (.long p1), .second, .val (.long p2), .second, .val (.long p3), .second, .unset, .unset, .unset, .unset, .unset, .unset, .unset, .unset, .unset, .unset] [(.int ((p0 &&& (2147483647 : Int32)) % (52 : Int32))), (.int (1 : Int32))])
  refine Go.step (fun _ k => XS.iadd X0.here hx rfl (hb hby at_8) rfl k) ?_
  show Go _ _ _ _ _ _ _ T0 (mkF m 9 #[.val (.int p0), .val (.long p1), .second, .val (.long p2), .second, .val (.long p3), .second, .unset, .unset, .unset, .unset, .unset, .unset, .unset, .unset, .unset, .unset] [(.int ((1 : Int32) + ((p0 &&& (2147483647 : Int32)) % (52 : Int32))))])
  refine Go.step (fun _ k => XS.istore X0.here hx rfl (hb hby at_9) rfl (l' := #[.val (.int p0), .val (.long p1), .second, .val (.long p2), .second, .val (.long p3), .second, .val (.int ((1 : Int32) + ((p0 &&& (2147483647 : Int32)) % (52 : Int32)))), .unset, .unset, .unset, .unset, .unset, .unset, .unset, .unset, .unset]) rfl k) ?_
  show Go _ _ _ _ _ _ _ T0 (mkF m 11 #[.val (.int p0), .val (.long p1), .second, .val (.long p2), .second, .val (.long p3), .second, .val (.int ((1 : Int32) + ((p0 &&& (2147483647 : Int32)) % (52 : Int32)))), .unset, .unset, .unset, .unset, .unset, .unset, .unset, .unset, .unset] [])
  refine Go.step (fun _ k => XS.lconst X0.here hx rfl (hb hby at_11) k) ?_
  show Go _ _ _ _ _ _ _ T0 (mkF m 12 #[.val (.int p0), .val (.long p1), .second, .val (.long p2), .second, .val (.long p3), .second, .val (.int ((1 : Int32) + ((p0 &&& (2147483647 : Int32)) % (52 : Int32)))), .unset, .unset, .unset, .unset, .unset, .unset, .unset, .unset, .unset] [(.long (1 : Int64))])
  refine Go.step (fun _ k => XS.iload X0.here hx rfl (hb hby at_12) rfl k) ?_
  show Go _ _ _ _ _ _ _ T0 (mkF m 14 #[.val (.int p0), .val (.long p1), .second, .val (.long p2), .second, .val (.long p3), .second, .val (.int ((1 : Int32) + ((p0 &&& (2147483647 : Int32)) % (52 : Int32)))), .unset, .unset, .unset, .unset, .unset, .unset, .unset, .unset, .unset] [(.int ((1 : Int32) + ((p0 &&& (2147483647 : Int32)) % (52 : Int32)))), (.long (1 : Int64))])
  refine Go.step (fun _ k => XS.lshl X0.here hx rfl (hb hby at_14) rfl k) ?_
  show Go _ _ _ _ _ _ _ T0 (mkF m 15 #[.val (.int p0), .val (.long p1), .second, .val (.long p2), .second, .val (.long p3), .second, .val (.int ((1 : Int32) + ((p0 &&& (2147483647 : Int32)) % (52 : Int32)))), .unset, .unset, .unset, .unset, .unset, .unset, .unset, .unset, .unset] [(.long ((1 : Int64) <<< (((1 : Int32) + ((p0 &&& (2147483647 : Int32)) % (52 : Int32))) &&& 0x3f).toInt64))])
  refine Go.step (fun _ k => XS.lstore X0.here hx rfl (hb hby at_15) rfl (l' := #[.val (.int p0), .val (.long p1), .second, .val (.long p2), .second, .val (.long p3), .second, .val (.int ((1 : Int32) + ((p0 &&& (2147483647 : Int32)) % (52 : Int32)))), .val (.long ((1 : Int64) <<< (((1 : Int32) + ((p0 &&& (2147483647 : Int32)) % (52 : Int32))) &&& 0x3f).toInt64)), .second, .unset, .unset, .unset, .unset, .unset, .unset, .unset]) rfl k) ?_
  obtain ⟨P, h_P⟩ : ∃ z, z = ((1 : Int64) <<< (((1 : Int32) + ((p0 &&& (2147483647 : Int32)) % (52 : Int32))) &&& 0x3f).toInt64) := ⟨_, rfl⟩
  rw [← h_P]
  have hk := own_731 _ (own_k1 p0).1 (own_k1 p0).2 P h_P _ rfl
  have hPz := own_nz hk.2.2.1
  have hn1 := own_nnF hk.2.2.2.2.1
  have hn2 : Jvm.Free.Fl.NoNaN64 (FP.dmul (FP.ddiv (4607182418800017408 : UInt64) (FP.l2d P)) (FP.l2d p1)) := Jvm.Free.Fl.dmul_out (own_finF hk.2.2.2.1) (Jvm.Free.Fl.l2d_fin p1)
  have hn3 := own_nnN (hk.2.2.2.2.2 p1).1
  have hn4 := (hk.2.2.2.2.2 p1).2
  have hn5 : Jvm.Free.Fl.NoNaN64 (FP.ddiv (FP.l2d (P - 1)) (FP.l2d p1)) := hn4 ▸ hn3
  show Go _ _ _ _ _ _ _ T0 (mkF m 17 #[.val (.int p0), .val (.long p1), .second, .val (.long p2), .second, .val (.long p3), .second, .val (.int ((1 : Int32) + ((p0 &&& (2147483647 : Int32)) % (52 : Int32)))), .val (.long P), .second, .unset, .unset, .unset, .unset, .unset, .unset, .unset] [])
  refine Go.step (fun _ k => XS.dconst1 X0.here hx rfl (hb hby at_17) rfl k) ?_
  show Go _ _ _ _ _ _ _ T0 (mkF m 18 #[.val (.int p0), .val (.long p1), .second, .val (.long p2), .second, .val (.long p3), .second, .val (.int ((1 : Int32) + ((p0 &&& (2147483647 : Int32)) % (52 : Int32)))), .val (.long P), .second, .unset, .unset, .unset, .unset, .unset, .unset, .unset] [(.double (4607182418800017408 : UInt64))])
  refine Go.step (fun _ k => XS.lload X0.here hx rfl (hb hby at_18) rfl k) ?_
  show Go _ _ _ _ _ _ _ T0 (mkF m 20 #[.val (.int p0), .val (.long p1), .second, .val (.long p2), .second, .val (.long p3), .second, .val (.int ((1 : Int32) + ((p0 &&& (2147483647 : Int32)) % (52 : Int32)))), .val (.long P), .second, .unset, .unset, .unset, .unset, .unset, .unset, .unset] [(.long P), (.double (4607182418800017408 : UInt64))])
  refine Go.step (fun _ k => XS.l2dS X0.here hx rfl (hb hby at_20) rfl rfl k) ?_
  show Go _ _ _ _ _ _ _ T0 (mkF m 21 #[.val (.int p0), .val (.long p1), .second, .val (.long p2), .second, .val (.long p3), .second, .val (.int ((1 : Int32) + ((p0 &&& (2147483647 : Int32)) % (52 : Int32)))), .val (.long P), .second, .unset, .unset, .unset, .unset, .unset, .unset, .unset] [(.double (FP.l2d P)), (.double (4607182418800017408 : UInt64))])
  refine Go.step (fun _ k => XS.ddivS X0.here hx rfl (hb hby at_21) rfl (Jvm.Free.Fl.ddiv_out (by first | decide +kernel | (unfold Jvm.Free.Fl.Fin64; decide +kernel) | (unfold Jvm.Free.Fl.Nz64; decide +kernel) | (unfold Jvm.Free.Fl.NoNaN64; decide +kernel)) (Jvm.Free.Fl.l2d_fin _) hPz) rfl k) ?_
  show Go _ _ _ _ _ _ _ T0 (mkF m 22 #[.val (.int p0), .val (.long p1), .second, .val (.long p2), .second, .val (.long p3), .second, .val (.int ((1 : Int32) + ((p0 &&& (2147483647 : Int32)) % (52 : Int32)))), .val (.long P), .second, .unset, .unset, .unset, .unset, .unset, .unset, .unset] [(.double (FP.ddiv (4607182418800017408 : UInt64) (FP.l2d P)))])
  refine Go.step (fun _ k => XS.dstore X0.here hx rfl (hb hby at_22) rfl (l' := #[.val (.int p0), .val (.long p1), .second, .val (.long p2), .second, .val (.long p3), .second, .val (.int ((1 : Int32) + ((p0 &&& (2147483647 : Int32)) % (52 : Int32)))), .val (.long P), .second, .val (.double (FP.ddiv (4607182418800017408 : UInt64) (FP.l2d P))), .second, .unset, .unset, .unset, .unset, .unset]) rfl k) ?_
  obtain ⟨lam, h_lam⟩ : ∃ z, z = (FP.ddiv (4607182418800017408 : UInt64) (FP.l2d P)) := ⟨_, rfl⟩
  rw [← h_lam]
  rw [← h_lam] at hk hn1 hn2 hn3 hn4
  show Go _ _ _ _ _ _ _ T0 (mkF m 24 #[.val (.int p0), .val (.long p1), .second, .val (.long p2), .second, .val (.long p3), .second, .val (.int ((1 : Int32) + ((p0 &&& (2147483647 : Int32)) % (52 : Int32)))), .val (.long P), .second, .val (.double lam), .second, .unset, .unset, .unset, .unset, .unset] [])
  obtain ⟨T1, h1, X1, e1, E1, A1, D1, -, st1⟩ := newO X0 hx hZ hown (hw _ (List.mem_of_getElem? (i := 1) rfl)) (hw _ (List.mem_of_getElem? (i := 2) rfl)) (hw _ (List.mem_of_getElem? (i := 3) rfl)) e0 (g := (mkF m 24 #[.val (.int p0), .val (.long p1), .second, .val (.long p2), .second, .val (.long p3), .second, .val (.int ((1 : Int32) + ((p0 &&& (2147483647 : Int32)) % (52 : Int32)))), .val (.long P), .second, .val (.double lam), .second, .unset, .unset, .unset, .unset, .unset] [])) rfl (hb hby at_24) (by decide) (by decide)
  obtain ⟨b1, g1⟩ : ∃ z, z = h0.size := ⟨_, rfl⟩
  rw [← g1] at A1 D1 st1
  refine Go.step st1 ?_
  have K1 : Keep h0 h1 [] := (Keep.refl h0 []).ext E1
  have sz_b1 : h0.size ≤ b1 := Nat.le_trans ((Keep.refl h0 []) : Keep h0 h0 []).1 (Nat.le_of_eq g1.symm)
  have ge_b1 : n0 ≤ b1 := Nat.le_trans Z0 sz_b1
  have E_b1 := A1
  have F_lambda_b1 : Fld Z h1 b1 "com/example/bursty_ranking/burstyranking/JelinekMercerModel" "lambda" "D" (.double (0 : UInt64)) := D1 (Or.inr (hw _ (List.mem_of_getElem? (i := 12) rfl))) (ty := .double) (by decide)
  have F_tokenCount_b1 : Fld Z h1 b1 "com/example/bursty_ranking/burstyranking/JelinekMercerModel" "tokenCount" "J" (.long (0 : Int64)) := D1 (Or.inr (hw _ (List.mem_of_getElem? (i := 14) rfl))) (ty := .long) (by decide)
  show Go _ _ _ _ _ _ _ T1 (mkF m 27 #[.val (.int p0), .val (.long p1), .second, .val (.long p2), .second, .val (.long p3), .second, .val (.int ((1 : Int32) + ((p0 &&& (2147483647 : Int32)) % (52 : Int32)))), .val (.long P), .second, .val (.double lam), .second, .unset, .unset, .unset, .unset, .unset] [(.ref b1)])
  refine Go.step (fun _ k => XS.dup X1.here hx rfl (hb hby at_27) rfl rfl k) ?_
  show Go _ _ _ _ _ _ _ T1 (mkF m 28 #[.val (.int p0), .val (.long p1), .second, .val (.long p2), .second, .val (.long p3), .second, .val (.int ((1 : Int32) + ((p0 &&& (2147483647 : Int32)) % (52 : Int32)))), .val (.long P), .second, .val (.double lam), .second, .unset, .unset, .unset, .unset, .unset] [(.ref b1), (.ref b1)])
  refine Go.step (fun _ k => XS.dload X1.here hx rfl (hb hby at_28) rfl k) ?_
  show Go _ _ _ _ _ _ _ T1 (mkF m 30 #[.val (.int p0), .val (.long p1), .second, .val (.long p2), .second, .val (.long p3), .second, .val (.int ((1 : Int32) + ((p0 &&& (2147483647 : Int32)) % (52 : Int32)))), .val (.long P), .second, .val (.double lam), .second, .unset, .unset, .unset, .unset, .unset] [(.double lam), (.ref b1), (.ref b1)])
  refine Go.step (fun _ k => XS.lload X1.here hx rfl (hb hby at_30) rfl k) ?_
  show Go _ _ _ _ _ _ _ T1 (mkF m 32 #[.val (.int p0), .val (.long p1), .second, .val (.long p2), .second, .val (.long p3), .second, .val (.int ((1 : Int32) + ((p0 &&& (2147483647 : Int32)) % (52 : Int32)))), .val (.long P), .second, .val (.double lam), .second, .unset, .unset, .unset, .unset, .unset] [(.long p3), (.double lam), (.ref b1), (.ref b1)])
  refine Go.callI X1 hx hZ (by rw [hml]; rfl) (y := (⟨"com/example/bursty_ranking/burstyranking/JelinekMercerModel", "<init>", "(DJ)V"⟩ : MethodName)) (a := b1) (argsL := [(.double lam), (.long p3)]) (rest := [(.ref b1)]) rfl hown (hw _ (List.mem_of_getElem? (i := 4) rfl)) (hw _ (List.mem_of_getElem? (i := 5) rfl)) (hw _ (List.mem_of_getElem? (i := 3) rfl)) (hw _ (List.mem_of_getElem? (i := 6) rfl)) (by decide) (rm1 l Z a0 hw b1 lam p3 h1 n0 (Nat.le_trans Z0 (K1 : Keep h0 h1 []).1) E_b1 F_lambda_b1 F_tokenCount_b1 ge_b1 hk.1 hk.2.1) e1 (hb hby at_32) (lenOf pd_0 rfl) rfl rfl (W := 1) (Nat.le_of_eq rfl) (by decide) (by decide) (by decide) (by decide) ?_
  intro v2 T2 L2 X2 Q2
  obtain ⟨rfl, N2q, Kc2, Ec2, Fc2, Ft2⟩ := Q2
  have N2 := Fr.app N0 N2q
  have E_b1_2 := E_b1.keep Kc2
  have KK2 : Keep h0 T2.heap [] := (K1 : Keep h0 h1 []).trans Kc2 (allS (Or.inr sz_b1) all0)
  show Go _ _ _ _ _ _ _ T2 (mkF m 35 #[.val (.int p0), .val (.long p1), .second, .val (.long p2), .second, .val (.long p3), .second, .val (.int ((1 : Int32) + ((p0 &&& (2147483647 : Int32)) % (52 : Int32)))), .val (.long P), .second, .val (.double lam), .second, .unset, .unset, .unset, .unset, .unset] [(.ref b1)])
  refine Go.step (fun _ k => XS.astore X2.here hx rfl (hb hby at_35) rfl rfl (l' := #[.val (.int p0), .val (.long p1), .second, .val (.long p2), .second, .val (.long p3), .second, .val (.int ((1 : Int32) + ((p0 &&& (2147483647 : Int32)) % (52 : Int32)))), .val (.long P), .second, .val (.double lam), .second, .val (.ref b1), .unset, .unset, .unset, .unset]) rfl k) ?_
  show Go _ _ _ _ _ _ _ T2 (mkF m 37 #[.val (.int p0), .val (.long p1), .second, .val (.long p2), .second, .val (.long p3), .second, .val (.int ((1 : Int32) + ((p0 &&& (2147483647 : Int32)) % (52 : Int32)))), .val (.long P), .second, .val (.double lam), .second, .val (.ref b1), .unset, .unset, .unset, .unset] [])
  refine Go.step (fun _ k => XS.aload X2.here hx rfl (hb hby at_37) rfl rfl k) ?_
  show Go _ _ _ _ _ _ _ T2 (mkF m 39 #[.val (.int p0), .val (.long p1), .second, .val (.long p2), .second, .val (.long p3), .second, .val (.int ((1 : Int32) + ((p0 &&& (2147483647 : Int32)) % (52 : Int32)))), .val (.long P), .second, .val (.double lam), .second, .val (.ref b1), .unset, .unset, .unset, .unset] [(.ref b1)])
  refine Go.step (fun _ k => XS.lloadN X2.here hx rfl (hb hby at_39) rfl k) ?_
  show Go _ _ _ _ _ _ _ T2 (mkF m 40 #[.val (.int p0), .val (.long p1), .second, .val (.long p2), .second, .val (.long p3), .second, .val (.int ((1 : Int32) + ((p0 &&& (2147483647 : Int32)) % (52 : Int32)))), .val (.long P), .second, .val (.double lam), .second, .val (.ref b1), .unset, .unset, .unset, .unset] [(.long p1), (.ref b1)])
  refine Go.step (fun _ k => XS.lloadN X2.here hx rfl (hb hby at_40) rfl k) ?_
  show Go _ _ _ _ _ _ _ T2 (mkF m 41 #[.val (.int p0), .val (.long p1), .second, .val (.long p2), .second, .val (.long p3), .second, .val (.int ((1 : Int32) + ((p0 &&& (2147483647 : Int32)) % (52 : Int32)))), .val (.long P), .second, .val (.double lam), .second, .val (.ref b1), .unset, .unset, .unset, .unset] [(.long p2), (.long p1), (.ref b1)])
  refine Go.callV X2 hx hZ (by rw [hml]; rfl) (y := (⟨"com/example/bursty_ranking/burstyranking/JelinekMercerModel", "termFreqWeight", "(JJ)D"⟩ : MethodName)) (z := (⟨"com/example/bursty_ranking/burstyranking/JelinekMercerModel", "termFreqWeight", "(JJ)D"⟩ : MethodName)) (a := b1) (argsL := [(.long p1), (.long p2)]) (rest := []) hown (hw _ (List.mem_of_getElem? (i := 15) rfl)) (hw _ (List.mem_of_getElem? (i := 16) rfl)) (notFace_of_selects (args := #[]) (mvT hZ (hw _ (List.mem_of_getElem? (i := 18) rfl)))) (hw _ (List.mem_of_getElem? (i := 18) rfl)) (hw _ (List.mem_of_getElem? (i := 17) rfl)) (hw _ (List.mem_of_getElem? (i := 3) rfl)) (hw _ (List.mem_of_getElem? (i := 19) rfl)) (by decide) (rm3 l Z a0 hw b1 p1 p2 lam T2.heap n0 (Nat.le_trans Z0 (KK2 : Keep h0 T2.heap []).1) Fc2 hn1 hn2 hn3) rfl E_b1_2 (hb hby at_41) (lenOf pd_1 rfl) rfl rfl (W := 0) (Nat.le_of_eq rfl) (by decide) (by decide) (by decide) (by decide) ?_
  intro v3 T3 L3 X3 Q3
  obtain ⟨rfl, N3q, hh3⟩ := Q3
  have N3 := Fr.app N2 N3q
  show Go _ _ _ _ _ _ _ T3 (mkF m 44 #[.val (.int p0), .val (.long p1), .second, .val (.long p2), .second, .val (.long p3), .second, .val (.int ((1 : Int32) + ((p0 &&& (2147483647 : Int32)) % (52 : Int32)))), .val (.long P), .second, .val (.double lam), .second, .val (.ref b1), .unset, .unset, .unset, .unset] [(.double (FP.ddiv (FP.dsub (4607182418800017408 : UInt64) lam) (FP.dmul lam (FP.l2d p1))))])
  refine Go.step (fun _ k => XS.dstore X3.here hx rfl (hb hby at_44) rfl (l' := #[.val (.int p0), .val (.long p1), .second, .val (.long p2), .second, .val (.long p3), .second, .val (.int ((1 : Int32) + ((p0 &&& (2147483647 : Int32)) % (52 : Int32)))), .val (.long P), .second, .val (.double lam), .second, .val (.ref b1), .val (.double (FP.ddiv (FP.dsub (4607182418800017408 : UInt64) lam) (FP.dmul lam (FP.l2d p1)))), .second, .unset, .unset]) rfl k) ?_
  show Go _ _ _ _ _ _ _ T3 (mkF m 46 #[.val (.int p0), .val (.long p1), .second, .val (.long p2), .second, .val (.long p3), .second, .val (.int ((1 : Int32) + ((p0 &&& (2147483647 : Int32)) % (52 : Int32)))), .val (.long P), .second, .val (.double lam), .second, .val (.ref b1), .val (.double (FP.ddiv (FP.dsub (4607182418800017408 : UInt64) lam) (FP.dmul lam (FP.l2d p1)))), .second, .unset, .unset] [])
  refine Go.step (fun _ k => XS.lload X3.here hx rfl (hb hby at_46) rfl k) ?_
  show Go _ _ _ _ _ _ _ T3 (mkF m 48 #[.val (.int p0), .val (.long p1), .second, .val (.long p2), .second, .val (.long p3), .second, .val (.int ((1 : Int32) + ((p0 &&& (2147483647 : Int32)) % (52 : Int32)))), .val (.long P), .second, .val (.double lam), .second, .val (.ref b1), .val (.double (FP.ddiv (FP.dsub (4607182418800017408 : UInt64) lam) (FP.dmul lam (FP.l2d p1)))), .second, .unset, .unset] [(.long P)])
  refine Go.step (fun _ k => XS.lconst X3.here hx rfl (hb hby at_48) k) ?_
  show Go _ _ _ _ _ _ _ T3 (mkF m 49 #[.val (.int p0), .val (.long p1), .second, .val (.long p2), .second, .val (.long p3), .second, .val (.int ((1 : Int32) + ((p0 &&& (2147483647 : Int32)) % (52 : Int32)))), .val (.long P), .second, .val (.double lam), .second, .val (.ref b1), .val (.double (FP.ddiv (FP.dsub (4607182418800017408 : UInt64) lam) (FP.dmul lam (FP.l2d p1)))), .second, .unset, .unset] [(.long (1 : Int64)), (.long P)])
  refine Go.step (fun _ k => XS.lsub X3.here hx rfl (hb hby at_49) rfl k) ?_
  show Go _ _ _ _ _ _ _ T3 (mkF m 50 #[.val (.int p0), .val (.long p1), .second, .val (.long p2), .second, .val (.long p3), .second, .val (.int ((1 : Int32) + ((p0 &&& (2147483647 : Int32)) % (52 : Int32)))), .val (.long P), .second, .val (.double lam), .second, .val (.ref b1), .val (.double (FP.ddiv (FP.dsub (4607182418800017408 : UInt64) lam) (FP.dmul lam (FP.l2d p1)))), .second, .unset, .unset] [(.long (P - (1 : Int64)))])
  refine Go.step (fun _ k => XS.l2dS X3.here hx rfl (hb hby at_50) rfl rfl k) ?_
  show Go _ _ _ _ _ _ _ T3 (mkF m 51 #[.val (.int p0), .val (.long p1), .second, .val (.long p2), .second, .val (.long p3), .second, .val (.int ((1 : Int32) + ((p0 &&& (2147483647 : Int32)) % (52 : Int32)))), .val (.long P), .second, .val (.double lam), .second, .val (.ref b1), .val (.double (FP.ddiv (FP.dsub (4607182418800017408 : UInt64) lam) (FP.dmul lam (FP.l2d p1)))), .second, .unset, .unset] [(.double (FP.l2d (P - (1 : Int64))))])
  refine Go.step (fun _ k => XS.lloadN X3.here hx rfl (hb hby at_51) rfl k) ?_
  show Go _ _ _ _ _ _ _ T3 (mkF m 52 #[.val (.int p0), .val (.long p1), .second, .val (.long p2), .second, .val (.long p3), .second, .val (.int ((1 : Int32) + ((p0 &&& (2147483647 : Int32)) % (52 : Int32)))), .val (.long P), .second, .val (.double lam), .second, .val (.ref b1), .val (.double (FP.ddiv (FP.dsub (4607182418800017408 : UInt64) lam) (FP.dmul lam (FP.l2d p1)))), .second, .unset, .unset] [(.long p1), (.double (FP.l2d (P - (1 : Int64))))])
  refine Go.step (fun _ k => XS.l2dS X3.here hx rfl (hb hby at_52) rfl rfl k) ?_
  show Go _ _ _ _ _ _ _ T3 (mkF m 53 #[.val (.int p0), .val (.long p1), .second, .val (.long p2), .second, .val (.long p3), .second, .val (.int ((1 : Int32) + ((p0 &&& (2147483647 : Int32)) % (52 : Int32)))), .val (.long P), .second, .val (.double lam), .second, .val (.ref b1), .val (.double (FP.ddiv (FP.dsub (4607182418800017408 : UInt64) lam) (FP.dmul lam (FP.l2d p1)))), .second, .unset, .unset] [(.double (FP.l2d p1)), (.double (FP.l2d (P - (1 : Int64))))])
  refine Go.step (fun _ k => XS.ddivS X3.here hx rfl (hb hby at_53) rfl hn5 rfl k) ?_
  show Go _ _ _ _ _ _ _ T3 (mkF m 54 #[.val (.int p0), .val (.long p1), .second, .val (.long p2), .second, .val (.long p3), .second, .val (.int ((1 : Int32) + ((p0 &&& (2147483647 : Int32)) % (52 : Int32)))), .val (.long P), .second, .val (.double lam), .second, .val (.ref b1), .val (.double (FP.ddiv (FP.dsub (4607182418800017408 : UInt64) lam) (FP.dmul lam (FP.l2d p1)))), .second, .unset, .unset] [(.double (FP.ddiv (FP.l2d (P - (1 : Int64))) (FP.l2d p1)))])
  refine Go.step (fun _ k => XS.dstore X3.here hx rfl (hb hby at_54) rfl (l' := #[.val (.int p0), .val (.long p1), .second, .val (.long p2), .second, .val (.long p3), .second, .val (.int ((1 : Int32) + ((p0 &&& (2147483647 : Int32)) % (52 : Int32)))), .val (.long P), .second, .val (.double lam), .second, .val (.ref b1), .val (.double (FP.ddiv (FP.dsub (4607182418800017408 : UInt64) lam) (FP.dmul lam (FP.l2d p1)))), .second, .val (.double (FP.ddiv (FP.l2d (P - (1 : Int64))) (FP.l2d p1))), .second]) rfl k) ?_
  show Go _ _ _ _ _ _ _ T3 (mkF m 56 #[.val (.int p0), .val (.long p1), .second, .val (.long p2), .second, .val (.long p3), .second, .val (.int ((1 : Int32) + ((p0 &&& (2147483647 : Int32)) % (52 : Int32)))), .val (.long P), .second, .val (.double lam), .second, .val (.ref b1), .val (.double (FP.ddiv (FP.dsub (4607182418800017408 : UInt64) lam) (FP.dmul lam (FP.l2d p1)))), .second, .val (.double (FP.ddiv (FP.l2d (P - (1 : Int64))) (FP.l2d p1))), .second] [])
  refine Go.step (fun _ k => XS.dload X3.here hx rfl (hb hby at_56) rfl k) ?_
  show Go _ _ _ _ _ _ _ T3 (mkF m 58 #[.val (.int p0), .val (.long p1), .second, .val (.long p2), .second, .val (.long p3), .second, .val (.int ((1 : Int32) + ((p0 &&& (2147483647 : Int32)) % (52 : Int32)))), .val (.long P), .second, .val (.double lam), .second, .val (.ref b1), .val (.double (FP.ddiv (FP.dsub (4607182418800017408 : UInt64) lam) (FP.dmul lam (FP.l2d p1)))), .second, .val (.double (FP.ddiv (FP.l2d (P - (1 : Int64))) (FP.l2d p1))), .second] [(.double (FP.ddiv (FP.dsub (4607182418800017408 : UInt64) lam) (FP.dmul lam (FP.l2d p1))))])
  refine Go.step (fun _ k => XS.dload X3.here hx rfl (hb hby at_58) rfl k) ?_
  show Go _ _ _ _ _ _ _ T3 (mkF m 60 #[.val (.int p0), .val (.long p1), .second, .val (.long p2), .second, .val (.long p3), .second, .val (.int ((1 : Int32) + ((p0 &&& (2147483647 : Int32)) % (52 : Int32)))), .val (.long P), .second, .val (.double lam), .second, .val (.ref b1), .val (.double (FP.ddiv (FP.dsub (4607182418800017408 : UInt64) lam) (FP.dmul lam (FP.l2d p1)))), .second, .val (.double (FP.ddiv (FP.l2d (P - (1 : Int64))) (FP.l2d p1))), .second] [(.double (FP.ddiv (FP.l2d (P - (1 : Int64))) (FP.l2d p1))), (.double (FP.ddiv (FP.dsub (4607182418800017408 : UInt64) lam) (FP.dmul lam (FP.l2d p1))))])
  refine Go.step (fun _ k => XS.dcmpS X3.here hx rfl (hb hby at_60) rfl rfl k) ?_
  show Go _ _ _ _ _ _ _ T3 (mkF m 61 #[.val (.int p0), .val (.long p1), .second, .val (.long p2), .second, .val (.long p3), .second, .val (.int ((1 : Int32) + ((p0 &&& (2147483647 : Int32)) % (52 : Int32)))), .val (.long P), .second, .val (.double lam), .second, .val (.ref b1), .val (.double (FP.ddiv (FP.dsub (4607182418800017408 : UInt64) lam) (FP.dmul lam (FP.l2d p1)))), .second, .val (.double (FP.ddiv (FP.l2d (P - (1 : Int64))) (FP.l2d p1))), .second] [(.int (cmpValue (FP.dcmp (FP.ddiv (FP.dsub (4607182418800017408 : UInt64) lam) (FP.dmul lam (FP.l2d p1))) (FP.ddiv (FP.l2d (P - (1 : Int64))) (FP.l2d p1))) .l))])
  refine Go.step (fun _ k => XS.ifNo X3.here hx rfl (hb hby at_61) rfl (eq_y .l (own_eqD hn4 hn3)).1 k) ?_
  show Go _ _ _ _ _ _ _ T3 (mkF m 64 #[.val (.int p0), .val (.long p1), .second, .val (.long p2), .second, .val (.long p3), .second, .val (.int ((1 : Int32) + ((p0 &&& (2147483647 : Int32)) % (52 : Int32)))), .val (.long P), .second, .val (.double lam), .second, .val (.ref b1), .val (.double (FP.ddiv (FP.dsub (4607182418800017408 : UInt64) lam) (FP.dmul lam (FP.l2d p1)))), .second, .val (.double (FP.ddiv (FP.l2d (P - (1 : Int64))) (FP.l2d p1))), .second] [])
  refine Go.step (fun _ k => XS.iconst X3.here hx rfl (hb hby at_64) k) ?_
  show Go _ _ _ _ _ _ _ T3 (mkF m 65 #[.val (.int p0), .val (.long p1), .second, .val (.long p2), .second, .val (.long p3), .second, .val (.int ((1 : Int32) + ((p0 &&& (2147483647 : Int32)) % (52 : Int32)))), .val (.long P), .second, .val (.double lam), .second, .val (.ref b1), .val (.double (FP.ddiv (FP.dsub (4607182418800017408 : UInt64) lam) (FP.dmul lam (FP.l2d p1)))), .second, .val (.double (FP.ddiv (FP.l2d (P - (1 : Int64))) (FP.l2d p1))), .second] [(.int (1 : Int32))])
  refine Go.step (fun _ k => XS.goto X3.here hx rfl (pc0 := 65) (pc' := 69) rfl (hb hby at_65) (by decide) (by decide) k) ?_
  show Go _ _ _ _ _ _ _ T3 (mkF m 69 #[.val (.int p0), .val (.long p1), .second, .val (.long p2), .second, .val (.long p3), .second, .val (.int ((1 : Int32) + ((p0 &&& (2147483647 : Int32)) % (52 : Int32)))), .val (.long P), .second, .val (.double lam), .second, .val (.ref b1), .val (.double (FP.ddiv (FP.dsub (4607182418800017408 : UInt64) lam) (FP.dmul lam (FP.l2d p1)))), .second, .val (.double (FP.ddiv (FP.l2d (P - (1 : Int64))) (FP.l2d p1))), .second] [(.int (1 : Int32))])
  refine Go.retZ X3 hx hlk hret (by decide) (hb hby at_69) (by decide) (by decide) ?_
  try rw [hh3]
  exact ⟨rfl, N3⟩
theorem pn_0 : plainName "com/example/bursty_ranking/burstyranking/JelinekMercerModelTermFreqWeightPinLaw" = true := by first | (simp [plainName, overriddenIn]; done) | decide +kernel
theorem ef_rm0 (m : MethodId) (p0 : Int32) (p1 : Int64) (p2 : Int64) (p3 : Int64) : entryFrame m #[(.int p0), (.long p1), (.long p2), (.long p3)] maxLocals = mkF m 0 #[.val (.int p0), .val (.long p1), .second, .val (.long p2), .second, .val (.long p3), .second, .unset, .unset, .unset, .unset, .unset, .unset, .unset, .unset, .unset, .unset] [] := by first | (simp [entryFrame, mkF, argsToLocals, Value.category, maxLocals]; done) | rfl
theorem rm0 (l : Launch) (Z : State) (a0 : Array Value) (hw : ∀ d ∈ tables_1, d.before a0 Z = true) (ws : List Jvm.Cond) (p0 : Int32) (p1 : Int64) (p2 : Int64) (p3 : Int64) (h0 : Heap) (n0 : Nat) (Z0 : n0 ≤ h0.size)  :
    MetFree l x (head1 (Jvm.Cond.code x code maxLocals ret :: ws) room_1) (fun a U => a = #[(.int p0), (.long p1), (.long p2), (.long p3)] ∧ Z.Warmed39 U.vm ∧ U.heap = h0) (fun _ _ _ _ _ => True) (fun _ U o U' => ∃ v L, o = .returned v ∧ (fun r h L => r = some (.int 1) ∧ Fr n0 L) v U'.heap L ∧ FrameEnd U o U' L room_1.cells room_1.slots) :=
  con_of (plainFor_of_name pn_0) (fun p_ e_ s_ m_ b_ meth_ c_ T_ X_ hx hZ hby hml hown hnm hret hlk e0 => Go.cast (ef_rm0 m_ p0 p1 p2 p3) (w0 p0 p1 p2 p3 X_ hx hZ hw hby hml hown hnm hret hlk e0 Z0 (Fr.nil n0) ))
set_option maxRecDepth 65536 in
set_option maxHeartbeats 40000000 in
theorem comes_1 {Post : Tables → Env → Array Value → State → Outcome → State → Prop} (hpost : ∀ tb e args s v u, (limb_1_1.after args s (.returned v) u = true ∧ limb_1_2.after args s (.returned v) u = true ∧ True) → FrameEnd s (.returned v) u (Jvm.fieldLocs frame_1_writes args s ++ Jvm.arrayLocs frame_1_arrays args s ++ Jvm.staticLocs frame_1_statics s) 16 128 → Post tb e args s (.returned v) u) :
    ArmFor flags0 classFile x code maxLocals ret World_1 tables_1 room_1 Calls_1 rest_1 Pre_1 Post := by
  intro l hfl _ _ p e ha hc hk s m args below hf hA hF happ hP
  obtain ⟨hcalls, hrest, hpre⟩ := hP
  obtain ⟨-, -, -, hnamed, -, -, -, hat⟩ := (Spec.applies_iff hf).mp happ
  obtain ⟨hg, hn⟩ := and_e (Cond.before_iff.mp (show (Jvm.Cond.and given_1 narrow_1).before args s = true from hpre))
  obtain ⟨g1, g2⟩ := and_e hg
  obtain ⟨g3, g4⟩ := and_e g2
  obtain ⟨g5, g6⟩ := and_e g4
  obtain ⟨g7, g8⟩ := and_e g6
  obtain ⟨w0, w1, w2, w3, rfl⟩ : ∃ w0 w1 w2 w3 : Value, args = #[w0, w1, w2, w3] := by
    have hs : args.size = 4 := by simpa [Cond.value, given_1] using g1
    obtain ⟨L⟩ := args
    match L, hs with
    | [w0, w1, w2, w3], _ => exact ⟨w0, w1, w2, w3, rfl⟩
  have hw := fun d (hd : d ∈ tables_1) => atoms_spec (ws := Jvm.Cond.code x code maxLocals ret :: tables_1) hat d (List.mem_cons_of_mem _ hd)
  have hfit : Fit s := fun {y c} hc i hi => by
    obtain ⟨ha, rfl⟩ := Array.getElem?_eq_some_iff.mp hc
    have q := List.all_eq_true.mp ((Array.all_eq_true_iff_forall_mem.mp hF) _ (Array.getElem_mem ha)) i (List.mem_range.mpr hi)
    simpa [Array.getElem?_eq_getElem hi] using q
  obtain ⟨i0, ei0⟩ := is_v g3
  obtain rfl : w0 = (.int i0) := Option.some.inj ei0
  obtain ⟨i1, ei1⟩ := isL_v g5
  obtain rfl : w1 = (.long i1) := Option.some.inj ei1
  obtain ⟨i2, ei2⟩ := isL_v g7
  obtain rfl : w2 = (.long i2) := Option.some.inj ei2
  obtain ⟨i3, ei3⟩ := isL_v g8
  obtain rfl : w3 = (.long i3) := Option.some.inj ei3
  obtain ⟨n, o, h1, h2, h3, _, L, rfl, ⟨rfl, N⟩, hq⟩ := rm0 l s _ hw tables_1 i0 i1 i2 i3 s.heap s.heap.size (Nat.le_refl _)  p e ha hc hk s m _ below hf ((Spec.applies_iff_loose hf).mp happ).1 ⟨rfl, State.Warmed39.refl s, rfl⟩ trivial
  refine ⟨n, _, h1, h2, h3, hpost _ _ _ _ _ _ ⟨Cond.after_iff.mpr rfl, Cond.after_iff.mpr (eq_i res_at (Term.int_eval (1)) rfl), trivial⟩ ⟨hq.1, hq.2.1, (hq.2.2.sift fun y hy => Or.inr (N y hy)).mono (by decide) (by decide)⟩⟩
theorem main_1_1 : Claimed_1_1 := comes_1 fun _ _ _ _ _ _ h hF => ⟨h.1, hF⟩
theorem main_1_2 : Claimed_1_2 := comes_1 fun _ _ _ _ _ _ h hF => ⟨h.2.1, hF⟩
end Jvm.Pilot.@@N@@
namespace Jvm.Pilot.@@N@@
open Jvm Jvm.ClassFile Sem Op Lib Jvm.Free Jvm.Stand Jvm.Pilot.@@N@@.Jvm.D
/-! MADE BY PROGRAM (witnessworld.py) out of the Statement's table words and the real class files: 8 classes; the members and pool entries that the words name. The judged class is class 1, her method 1. -/
namespace start1
open Jvm.ClassFile
def u (s : String) : CpInfo := .utf8 (stringToUtf16 s)
/-- a pool by its gaps: so many unusable entries, then the entry; so many at the end -/
def gap : Nat → List CpInfo → List CpInfo
  | 0, r => r
  | n + 1, r => .unusable :: gap n r
def poolList (es : List (Nat × CpInfo)) (last : Nat) : List CpInfo := es.foldr (fun e r => gap e.1 (e.2 :: r)) (gap last [])
def pool (es : List (Nat × CpInfo)) (last : Nat) : Array CpInfo := ⟨poolList es last⟩
def fileOf (pool : Array CpInfo) (this : Nat) (attrs : Array Attribute := #[]) (ms : Array MethodInfo := #[]) (fl : Nat := 33) (sup : Nat := 0) (ifs : Array Nat := #[]) (fds : Array FieldInfo := #[]) : ClassFile where
  minorVersion := 0
  majorVersion := 65
  constantPool := pool
  accessFlags := fl
  thisClass := this
  superClass := sup
  interfaces := ifs
  fields := fds
  methods := ms
  attributes := attrs
def plain (name : String) (sup : Option ClassId) : Class where
  name := name
  kind := .ordinary
  loader := none
  accessFlags := 33
  super := sup
  interfaces := #[]
  cf := none
  fields := #[]
  methods := #[]
  instanceTypes := #[]
  staticTypes := #[]
  resolved := #[]
  callSites := []
  init := .initialized
  statics := none
  mirror := none

def pool0 : Array CpInfo := pool [(5, u "<init>"), (0, u "()V"), (1, .class_ 10), (1, u "java/lang/Object")] 113

def k0c0 : Code := { maxStack := 0, maxLocals := 1, code := object_method_1_code, exceptionTable := #[], attributes := #[] }
def k0m0 : Method := { name := "<init>", desc := "()V", sig := { parameters := [], returnType := none }, accessFlags := 1, code := some k0c0 }
/-- java/lang/Object -/
def k0 : Class := { plain "java/lang/Object" none with
  accessFlags := 33
  interfaces := #[]
  cf := some (fileOf pool0 8 #[] #[{ accessFlags := 1, nameIndex := 5, descriptorIndex := 6, attributes := #[] }] 33 0 #[] #[])
  fields := #[]
  methods := #[k0m0]
  instanceTypes := #[]
  staticTypes := #[]
  resolved := Array.replicate 124 none
  statics := none }

def pool1 : Array CpInfo := pool [(2, .class_ 4), (1, u "java/lang/Object"), (0, u "<init>"), (0, u "()V"), (0, .integer 2147483647), (0, .class_ 9), (0, u "com/example/bursty_ranking/burstyranking/JelinekMercerModel"), (0, .methodref 8 11), (0, .nameAndType 5 12), (0, u "(DJ)V"), (0, .methodref 8 14), (0, .nameAndType 15 16), (0, u "termFreqWeight"), (0, u "(JJ)D"), (0, .class_ 18), (0, u "com/example/bursty_ranking/burstyranking/JelinekMercerModelTermFreqWeightPinLaw"), (2, u "law"), (0, u "(IJJJ)Z")] 3

def k1m0 : Method := { name := "<init>", desc := "()V", sig := { parameters := [], returnType := none }, accessFlags := 2, code := none }
def k1c1 : Code := { maxStack := 6, maxLocals := 17, code := code, exceptionTable := #[], attributes := #[] }
def k1m1 : Method := { name := "law", desc := "(IJJJ)Z", sig := { parameters := [.int, .long, .long, .long], returnType := some .boolean }, accessFlags := 9, code := some k1c1 }
/-- com/example/bursty_ranking/burstyranking/JelinekMercerModelTermFreqWeightPinLaw -/
def k1 : Class := { plain "com/example/bursty_ranking/burstyranking/JelinekMercerModelTermFreqWeightPinLaw" (some 0) with
  accessFlags := 49
  interfaces := #[]
  cf := some (fileOf pool1 17 #[] #[{ accessFlags := 2, nameIndex := 5, descriptorIndex := 6, attributes := #[] }, { accessFlags := 9, nameIndex := 21, descriptorIndex := 22, attributes := #[] }] 49 2 #[] #[])
  fields := #[]
  methods := #[k1m0, k1m1]
  instanceTypes := #[]
  staticTypes := #[]
  resolved := Array.replicate 26 none
  statics := none }

def pool2 : Array CpInfo := pool [(1, .class_ 2), (0, u "com/example/bursty_ranking/burstyranking/LanguageModel"), (0, .class_ 4), (0, u "java/lang/Object")] 13

/-- com/example/bursty_ranking/burstyranking/LanguageModel -/
def k2 : Class := { plain "com/example/bursty_ranking/burstyranking/LanguageModel" (some 0) with
  accessFlags := 1536
  interfaces := #[]
  cf := some (fileOf pool2 1 #[] #[] 1536 3 #[] #[])
  fields := #[]
  methods := #[]
  instanceTypes := #[]
  staticTypes := #[]
  resolved := Array.replicate 18 none
  statics := none }

def pool3 : Array CpInfo := pool [(1, .methodref 2 3), (0, .class_ 4), (0, .nameAndType 5 6), (0, u "java/lang/Object"), (0, u "<init>"), (0, u "()V"), (2, .double 4503599627370496), (10, .fieldref 21 22), (0, .class_ 23), (0, .nameAndType 24 25), (0, u "com/example/bursty_ranking/burstyranking/JelinekMercerModel"), (0, u "lambda"), (0, u "D"), (0, .fieldref 21 27), (0, .nameAndType 28 29), (0, u "tokenCount"), (0, u "J"), (6, .class_ 37), (0, u "com/example/bursty_ranking/burstyranking/LanguageModel"), (0, u "NAME"), (0, u "Ljava/lang/String;"), (3, u "DEFAULT_LAMBDA"), (2, u "(DJ)V"), (4, u "(JJ)D"), (3, u "termFreqWeight")] 21

def k3c0 : Code := { maxStack := 4, maxLocals := 5, code := prog_5_method_1_code, exceptionTable := #[], attributes := #[] }
def k3m0 : Method := { name := "<init>", desc := "(DJ)V", sig := { parameters := [.double, .long], returnType := none }, accessFlags := 0, code := some k3c0 }
def k3c1 : Code := { maxStack := 6, maxLocals := 5, code := prog_5_method_5_code, exceptionTable := #[], attributes := #[] }
def k3m1 : Method := { name := "termFreqWeight", desc := "(JJ)D", sig := { parameters := [.long, .long], returnType := some .double }, accessFlags := 1, code := some k3c1 }
/-- com/example/bursty_ranking/burstyranking/JelinekMercerModel -/
def k3 : Class := { plain "com/example/bursty_ranking/burstyranking/JelinekMercerModel" (some 0) with
  accessFlags := 32
  interfaces := #[2]
  cf := some (fileOf pool3 21 #[] #[{ accessFlags := 0, nameIndex := 5, descriptorIndex := 46, attributes := #[] }, { accessFlags := 1, nameIndex := 55, descriptorIndex := 51, attributes := #[] }] 32 2 #[36] #[{ accessFlags := 24, nameIndex := 38, descriptorIndex := 39, attributes := #[] }, { accessFlags := 24, nameIndex := 43, descriptorIndex := 25, attributes := #[] }, { accessFlags := 18, nameIndex := 24, descriptorIndex := 25, attributes := #[] }, { accessFlags := 18, nameIndex := 28, descriptorIndex := 29, attributes := #[] }])
  fields := #[{ name := "NAME", type := (.object "java/lang/String"), accessFlags := 24, slot := 0, constantValue := 0 }, { name := "DEFAULT_LAMBDA", type := .double, accessFlags := 24, slot := 1, constantValue := 0 }, { name := "lambda", type := .double, accessFlags := 18, slot := 0, constantValue := 0 }, { name := "tokenCount", type := .long, accessFlags := 18, slot := 1, constantValue := 0 }]
  methods := #[k3m0, k3m1]
  instanceTypes := #[.double, .long]
  staticTypes := #[(.object "java/lang/String"), .double]
  resolved := Array.replicate 77 none
  statics := none }

def pool4 : Array CpInfo := pool [(1, u "java/lang/Cloneable"), (0, .class_ 1), (0, u "java/lang/Object"), (0, .class_ 3)] 3

/-- java/lang/Cloneable -/
def k4 : Class := { plain "java/lang/Cloneable" (some 0) with
  accessFlags := 1537
  interfaces := #[]
  cf := some (fileOf pool4 2 #[] #[] 1537 4 #[] #[])
  fields := #[]
  methods := #[]
  instanceTypes := #[]
  staticTypes := #[]
  resolved := Array.replicate 8 none
  statics := none }

def pool5 : Array CpInfo := pool [(1, u "java/io/Serializable"), (0, .class_ 1), (0, u "java/lang/Object"), (0, .class_ 3)] 3

/-- java/io/Serializable -/
def k5 : Class := { plain "java/io/Serializable" (some 0) with
  accessFlags := 1537
  interfaces := #[]
  cf := some (fileOf pool5 2 #[] #[] 1537 4 #[] #[])
  fields := #[]
  methods := #[]
  instanceTypes := #[]
  staticTypes := #[]
  resolved := Array.replicate 8 none
  statics := none }

/-- the primitive byte -/
def k6 : Class := { plain "byte" none with kind := .primitive 'B', accessFlags := 0x411 }
/-- [B -/
def k7 : Class := { plain "[B" (some 0) with kind := .array 6 .byte, interfaces := #[4, 5], accessFlags := 1041 }

def heap : Heap := #[]
def classes : Array Class := #[k0, k1, k2, k3, k4, k5, k6, k7]
def interned : List (Array UInt16 × Addr) := []
def slotsUsed : Nat := 0
def theMethod : MethodId := ⟨1, 1⟩
def args0 : Array Value := #[.int 5, .long 3, .long 2, .long 7]
def aboutOver (below : List Frame) : State where
  vm := { classes := classes, interned := interned.toArray }
  heap := heap
  slotsUsed := slotsUsed
  threads := #[{ frames := .invoking theMethod args0 :: below }]
def below0 : List Frame := [.native { method := ⟨0, 0⟩, args := #[] }]
def about1 : State := aboutOver below0
def p0 : Program := .bare "" "" ""
def e0 : Env := launch0.env 0 0 0
theorem w_frames : about1.frames = Frame.invoking theMethod args0 :: below0 := rfl
set_option maxRecDepth 65536 in
theorem w_args : argsFit about1.vm theMethod args0 = true := by decide +kernel
set_option maxRecDepth 65536 in
theorem w_heap : heapFits about1 = true := by decide +kernel
set_option maxRecDepth 65536 in
theorem w_runnable : about1.curStatus? = some .runnable := by decide +kernel
set_option maxRecDepth 65536 in
theorem w_alone : about1.alone = true := by decide +kernel
set_option maxRecDepth 65536 in
theorem w_named : about1.methodNamed? x = some theMethod := by decide +kernel
set_option maxRecDepth 65536 in
theorem w_hears : about1.hears theMethod below0 = true := by decide +kernel
set_option maxRecDepth 65536 in
theorem w_ripe : about1.ripe theMethod args0 below0 = true := by decide +kernel
theorem w_running : about1.status = .running := rfl
set_option maxRecDepth 65536 in
theorem w_room : about1.hasRoom e0.platform room_1 = true :=
  launch0.hasRoom_least _ room_1 (by decide +kernel) (by decide +kernel) (by decide +kernel) (by decide +kernel) (by decide +kernel) (by decide +kernel)
theorem allAtoms_all (ts : List Jvm.Cond) (a : Array Jvm.Value) (st : Jvm.State) : (allAtoms ts).before a st = ts.all (fun c => c.before a st) := by
  induction ts with
  | nil => rfl
  | cons c t ih =>
    show (Jvm.Cond.and c (allAtoms t)).before a st = _
    rw [Jvm.Cond.before_and, ih, List.all_cons]
def words1 : List Jvm.Cond := Jvm.Cond.code x code maxLocals ret :: tables_1
/-- a 'code' word, met by the world's own term for the bytes: nothing is compared byte by byte -/
theorem code_word {y : MethodName} {bytes : ByteArray} {mx : Nat} {rt : Option FieldType} {a : Array Value} {s : State} {m : MethodId} {meth : Method} {c : Code} (h1 : s.methodNamed? y = some m) (h2 : s.vm.method? m = some meth) (h3 : meth.code = some c) (h4 : c.code = bytes)
    (h5 : (c.maxLocals == mx && c.exceptionTable.isEmpty && decide (c.maxStack ≤ mostOperands) && decide (meth.sig.returnType = rt) && !meth.locks && decide (parseMethodDescriptor y.desc = some meth.sig)) = true) : (Jvm.Cond.code y bytes mx rt).before a s = true := by
  simp only [Bool.and_eq_true, beq_iff_eq, Bool.not_eq_true', decide_eq_true_eq] at h5
  obtain ⟨⟨⟨⟨⟨g1, g2⟩, g3⟩, g4⟩, g5⟩, g6⟩ := h5
  simp [Cond.before, Cond.holds, Cond.value, h1, h2, h3, h4, g1, g2, g3, g4, g5, g6]
def isCode : Jvm.Cond → Bool
  | .code _ _ _ _ => true
  | _ => false
theorem all_split {L : List Jvm.Cond} {P : Jvm.Cond → Bool} (h1 : L.all (fun c => isCode c || P c) = true) (h2 : ∀ c ∈ L.filter isCode, P c = true) : L.all P = true := by
  refine List.all_eq_true.mpr fun c hc => ?_
  have h := List.all_eq_true.mp h1 c hc
  rcases Bool.eq_false_or_eq_true (isCode c) with hi | hi
  · exact h2 c (List.mem_filter.mpr ⟨hc, hi⟩)
  · simpa [hi] using h
set_option maxRecDepth 65536 in
theorem w_c0 : (Jvm.Cond.code x code maxLocals ret).before args0 about1 = true := code_word (m := ⟨1, 1⟩) (meth := k1m1) (c := k1c1) (by decide +kernel) rfl rfl rfl (by decide +kernel)
set_option maxRecDepth 65536 in
theorem w_c1 : (Jvm.Cond.code ({ cls := "com/example/bursty_ranking/burstyranking/JelinekMercerModel", name := "<init>", desc := "(DJ)V" } : Jvm.MethodName) prog_5_method_1_code (5 : Nat) (Option.none : Option Jvm.ClassFile.FieldType)).before args0 about1 = true := code_word (m := ⟨3, 0⟩) (meth := k3m0) (c := k3c0) (by decide +kernel) rfl rfl rfl (by decide +kernel)
set_option maxRecDepth 65536 in
theorem w_c2 : (Jvm.Cond.code ({ cls := "java/lang/Object", name := "<init>", desc := "()V" } : Jvm.MethodName) object_method_1_code (1 : Nat) (Option.none : Option Jvm.ClassFile.FieldType)).before args0 about1 = true := code_word (m := ⟨0, 0⟩) (meth := k0m0) (c := k0c0) (by decide +kernel) rfl rfl rfl (by decide +kernel)
set_option maxRecDepth 65536 in
theorem w_c3 : (Jvm.Cond.code ({ cls := "com/example/bursty_ranking/burstyranking/JelinekMercerModel", name := "termFreqWeight", desc := "(JJ)D" } : Jvm.MethodName) prog_5_method_5_code (5 : Nat) (Option.some Jvm.ClassFile.FieldType.double)).before args0 about1 = true := code_word (m := ⟨3, 1⟩) (meth := k3m1) (c := k3c1) (by decide +kernel) rfl rfl rfl (by decide +kernel)
def codes1 : List Jvm.Cond := [Jvm.Cond.code x code maxLocals ret, Jvm.Cond.code ({ cls := "com/example/bursty_ranking/burstyranking/JelinekMercerModel", name := "<init>", desc := "(DJ)V" } : Jvm.MethodName) prog_5_method_1_code (5 : Nat) (Option.none : Option Jvm.ClassFile.FieldType), Jvm.Cond.code ({ cls := "java/lang/Object", name := "<init>", desc := "()V" } : Jvm.MethodName) object_method_1_code (1 : Nat) (Option.none : Option Jvm.ClassFile.FieldType), Jvm.Cond.code ({ cls := "com/example/bursty_ranking/burstyranking/JelinekMercerModel", name := "termFreqWeight", desc := "(JJ)D" } : Jvm.MethodName) prog_5_method_5_code (5 : Nat) (Option.some Jvm.ClassFile.FieldType.double)]
set_option maxRecDepth 65536 in
theorem codes_eq : words1.filter isCode = codes1 := rfl
theorem w_codes : ∀ c ∈ words1.filter isCode, c.before args0 about1 = true := by
  rw [codes_eq]
  intro c hc
  simp only [codes1, List.mem_cons, List.not_mem_nil, or_false] at hc
  rcases hc with rfl | rfl | rfl | rfl
  · exact w_c0
  · exact w_c1
  · exact w_c2
  · exact w_c3
set_option maxRecDepth 65536 in
theorem w_t1 : words1.all (fun c => isCode c || c.before args0 about1) = true := by decide +kernel
theorem w_tables : (allAtoms (Jvm.Cond.code x code maxLocals ret :: tables_1)).before args0 about1 = true := by
  rw [allAtoms_all]
  show words1.all (fun c => c.before args0 about1) = true
  refine all_split ?_ w_codes
  rw [w_t1]
set_option maxRecDepth 65536 in
theorem w_case : (Jvm.Cond.and given_1 narrow_1).before args0 about1 = true := by decide +kernel
theorem w_applies : (headSpec (Jvm.Cond.code x code maxLocals ret :: tables_1) room_1).applies x e0.platform about1 = true :=
  (Spec.applies_iff w_frames).mpr ⟨w_running, w_runnable, w_alone, w_named, w_hears, w_ripe, w_room, w_tables⟩
theorem atStart : AtStart classFile x code maxLocals ret World_1 tables_1 room_1 Calls_1 rest_1 Pre_1 launch0 p0 e0 about1 theMethod args0 below0 :=
  ⟨lists_1, trivial, launch0.admits_env _ _ _, launch0.least_env, fairChoices_fair.cas, fairChoices_fair.clock, w_frames, w_args, w_heap, w_applies, trivial, trivial, w_case⟩
end start1
theorem witness_1 : WitnessClaimed_1 := ⟨start1.p0, start1.e0, start1.about1, start1.theMethod, start1.args0, start1.below0, start1.atStart⟩
end Jvm.Pilot.@@N@@
