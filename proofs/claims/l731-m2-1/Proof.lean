import JvmDerived
import JvmDerived.Pilot.@@N@@Statement
import JvmDerived.Pilot.@@N@@Code
set_option linter.unusedVariables false
set_option linter.unusedSimpArgs false
namespace Jvm.Pilot.@@N@@
open Jvm Jvm.ClassFile Sem Op Lib Jvm.Free Jvm.Stand Jvm.LawKit Jvm.RoadKit Bundle Jvm.Pilot.@@N@@.Jvm.D
/-! OWN: the walk as a tree. Go: from here the run comes to a return that Q allows. -/
def Go (p : Program) (e : Env) (below : List Frame) (s : State) (C S : Nat) (Q : Option Value → Heap → List Loc → Prop) (T : State) (g : JFrame) : Prop :=
  ∃ s₂ o, Steps p.tables e below (T.setTop g) s₂ ∧ s₂.status = .running ∧ Ended s₂ below o ∧ ∃ v L, o = .returned v ∧ Q v s₂.heap L ∧ FrameEnd s o s₂ L C S
section OwnGo
variable {p : Program} {l : Launch} {e : Env} {R : Room} {s : State} {m : MethodId} {args : Array Value} {below : List Frame} {meth : Method} {c : Code} {T T' : State} {locs : List Loc} {cells slots : Nat} {Z : State} {a0 : Array Value} {h : Heap} {C S : Nat} {Q : Option Value → Heap → List Loc → Prop} {g g' : JFrame}
theorem Go.step (st : ∀ target, Steps p.tables e below (T'.setTop g') target → Steps p.tables e below (T.setTop g) target) (h : Go p e below s C S Q T' g') : Go p e below s C S Q T g := by
  obtain ⟨s₂, o, h1, r⟩ := h; exact ⟨s₂, o, st _ h1, r⟩
theorem Go.cast (q : g = g') (h : Go p e below s C S Q T g') : Go p e below s C S Q T g := q ▸ h
theorem Go.ret (X : Stand p l e R s m args below meth c T locs cells slots) (hlk : meth.locks = false) {v : Option Value} (hv : meth.sig.returnType = none → v = none)
    (st : ∀ fs, (∀ (f : JFrame) (acts : List Action), f.method = m → f.locked = none → f.entered = [] → (doReturn e (T.setTop f) acts v).1 = T.setFrames fs) → Steps p.tables e below (T.setTop g) (T.setFrames fs))
    (hq : Q v T.heap locs) (hc : cells ≤ C) (hs : slots ≤ S) : Go p e below s C S Q T g := by
  obtain ⟨fs, hr, hrun, hended, hW, hsame⟩ := X.leave (v := v) hv hlk
  exact ⟨_, _, st fs hr, hrun, hended, v, locs, rfl, hq, ⟨_, rfl⟩, hW, hsame.mono hc hs⟩
theorem Go.retV (X : Stand p l e R s m args below meth c T locs cells slots) (hx : p.tables.exec = Jvm.exec) (hlk : meth.locks = false) (hret : meth.sig.returnType = none) {pc : Nat} {Ls : Array Slot} (hd : decode c.code pc = .ok (.return_, 1))
    (hc : cells ≤ C) (hs : slots ≤ S) (hq : Q none T.heap locs) : Go p e below s C S Q T (mkF m pc Ls []) :=
  Go.ret X hlk (fun _ => rfl) (fun fs hr => X.returnOut hx hret hd hr) hq hc hs
theorem Go.retW (X : Stand p l e R s m args below meth c T locs cells slots) (hx : p.tables.exec = Jvm.exec) (hlk : meth.locks = false) {t : FieldType} (hret : meth.sig.returnType = some t) {pc : Nat} {Ls : Array Slot} {w : Value} {i : Instr} {rest : List Value} (hn : narrow t w = w)
    (hi : (i = .ireturn ∧ (t = .int ∨ t = .boolean ∨ t = .byte ∨ t = .char ∨ t = .short) ∧ ∃ z, w = .int z) ∨ (i = .lreturn ∧ t = .long ∧ ∃ z, w = .long z) ∨ (i = .dreturn ∧ t = .double ∧ ∃ z, w = .double z) ∨ (i = .freturn ∧ t = .float ∧ ∃ z, w = .float z) ∨ (i = .areturn ∧ t.isReference = true ∧ w.isRef = true))
    (hd : decode c.code pc = .ok (i, 1)) (hc : cells ≤ C) (hs : slots ≤ S) (hq : Q (some w) T.heap locs) : Go p e below s C S Q T (mkF m pc Ls (w :: rest)) :=
  Go.ret X hlk (fun h => by rw [hret] at h; cases h) (fun fs hr => retOut X hx hret hn hi hd hr) hq hc hs
theorem Go.retI (X : Stand p l e R s m args below meth c T locs cells slots) (hx : p.tables.exec = Jvm.exec) (hlk : meth.locks = false) (hret : meth.sig.returnType = some .int) {pc : Nat} {Ls : Array Slot} {z : Int32} {rest : List Value}
    (hd : decode c.code pc = .ok (.ireturn, 1)) (hc : cells ≤ C) (hs : slots ≤ S) (hq : Q (some (.int z)) T.heap locs) : Go p e below s C S Q T (mkF m pc Ls (.int z :: rest)) :=
  Go.retW X hx hlk hret rfl (Or.inl ⟨rfl, Or.inl rfl, z, rfl⟩) hd hc hs hq
theorem Go.retZ (X : Stand p l e R s m args below meth c T locs cells slots) (hx : p.tables.exec = Jvm.exec) (hlk : meth.locks = false) (hret : meth.sig.returnType = some .boolean) {pc : Nat} {Ls : Array Slot} {z : Int32} {rest : List Value} (hz : z = 0 ∨ z = 1)
    (hd : decode c.code pc = .ok (.ireturn, 1)) (hc : cells ≤ C) (hs : slots ≤ S) (hq : Q (some (.int z)) T.heap locs) : Go p e below s C S Q T (mkF m pc Ls (.int z :: rest)) :=
  Go.retW X hx hlk hret (by rcases hz with rfl | rfl <;> rfl) (Or.inl ⟨rfl, Or.inr (Or.inl rfl), z, rfl⟩) hd hc hs hq
theorem Go.retJ (X : Stand p l e R s m args below meth c T locs cells slots) (hx : p.tables.exec = Jvm.exec) (hlk : meth.locks = false) (hret : meth.sig.returnType = some .long) {pc : Nat} {Ls : Array Slot} {z : Int64} {rest : List Value}
    (hd : decode c.code pc = .ok (.lreturn, 1)) (hc : cells ≤ C) (hs : slots ≤ S) (hq : Q (some (.long z)) T.heap locs) : Go p e below s C S Q T (mkF m pc Ls (.long z :: rest)) :=
  Go.retW X hx hlk hret rfl (Or.inr (Or.inl ⟨rfl, rfl, z, rfl⟩)) hd hc hs hq
theorem Go.retD (X : Stand p l e R s m args below meth c T locs cells slots) (hx : p.tables.exec = Jvm.exec) (hlk : meth.locks = false) (hret : meth.sig.returnType = some .double) {pc : Nat} {Ls : Array Slot} {z : UInt64} {rest : List Value}
    (hd : decode c.code pc = .ok (.dreturn, 1)) (hc : cells ≤ C) (hs : slots ≤ S) (hq : Q (some (.double z)) T.heap locs) : Go p e below s C S Q T (mkF m pc Ls (.double z :: rest)) :=
  Go.retW X hx hlk hret rfl (Or.inr (Or.inr (Or.inl ⟨rfl, rfl, z, rfl⟩))) hd hc hs hq
theorem Go.retR (X : Stand p l e R s m args below meth c T locs cells slots) (hx : p.tables.exec = Jvm.exec) (hlk : meth.locks = false) {t : FieldType} (hret : meth.sig.returnType = some t) (ht : t.isReference = true) {pc : Nat} {Ls : Array Slot} {w : Value} {rest : List Value} (hn : narrow t w = w) (hw : w.isRef = true)
    (hd : decode c.code pc = .ok (.areturn, 1)) (hc : cells ≤ C) (hs : slots ≤ S) (hq : Q (some w) T.heap locs) : Go p e below s C S Q T (mkF m pc Ls (w :: rest)) :=
  Go.retW X hx hlk hret hn (Or.inr (Or.inr (Or.inr (Or.inr ⟨rfl, ht, hw⟩)))) hd hc hs hq
/-- a method's contract out of its walk -/
theorem con_of {y : MethodName} {bytes : ByteArray} {ml : Nat} {rt : Option FieldType} {ws : List Jvm.Cond} {rm : Room} {as' : Array Value} {h0 : Heap} (hpl : plainFor y = true)
    (body : ∀ (p : Program) (e : Env) (s : State) (m : MethodId) (below : List Frame) (meth : Method) (c : Code) (T : State), Stand p l e rm s m as' below meth c T [] 0 0 → p.tables.exec = Jvm.exec → Z.Warmed39 s.vm → c.code = bytes → c.maxLocals = ml → s.vm.findClass y.cls = some m.cls → meth.name = y.name →
      meth.sig.returnType = rt → meth.locks = false → T.heap = h0 → Go p e below s rm.cells rm.slots Q T (entryFrame m as' ml)) :
    MetFree l y (head1 (Jvm.Cond.code y bytes ml rt :: ws) rm) (fun a U => a = as' ∧ Z.Warmed39 U.vm ∧ U.heap = h0) (fun _ _ _ _ _ => True) (fun _ U o U' => ∃ v L, o = .returned v ∧ Q v U'.heap L ∧ FrameEnd U o U' L rm.cells rm.slots) := by
  refine MetFree.of_bodySF hpl hisR ?_
  intro p e s m args below meth c s₁ Bd hml0 hP hK
  obtain ⟨rfl, hZ, hh⟩ := hP
  exact body p e s m below meth c s₁ (Stand.of_body Bd) Bd.exec hZ Bd.bytes hml0 (findClass_of_methodNamed Bd.named) (name_of_methodNamed Bd.named Bd.method).1 Bd.returns (BodyLoose.notSynchronized Bd) (by rw [← hh, Bd.state]; rfl)
abbrev Con (l : Launch) (Z : State) (y : MethodName) (bytes : ByteArray) (ml : Nat) (rt : Option FieldType) (rm : Room) (as' : Array Value) (h0 : Heap) (Q : Option Value → Heap → List Loc → Prop) : Prop :=
  MetFree l y (head1 [Jvm.Cond.code y bytes ml rt] rm) (fun a U => a = as' ∧ Z.Warmed39 U.vm ∧ U.heap = h0) (fun _ _ _ _ _ => True) (fun _ U o U' => ∃ v L, o = .returned v ∧ Q v U'.heap L ∧ FrameEnd U o U' L rm.cells rm.slots)
theorem Go.callS (X : Stand p l e R s m args below meth c T locs cells slots) (hx : p.tables.exec = Jvm.exec) (hZ : Z.Warmed39 s.vm) {own : String} {index : Nat} {y : MethodName} {bytes : ByteArray} {maxL : Nat} {ret : Option FieldType} {rm : Room} {as' : Array Value} {Qc : Option Value → Heap → List Loc → Prop} {W pc : Nat} {Ls : Array Slot} {st : List Value} {argsL rest : List Value} (hml : Ls.size = c.maxLocals)
    (hown : s.vm.findClass own = some m.cls) (w1 : (Jvm.Cond.methodLink own index y).before a0 Z = true) (w2 : (Jvm.Cond.static y).before a0 Z = true) (w3 : (Jvm.Cond.initialized y.cls).before a0 Z = true) (w4 : (Jvm.Cond.code y bytes maxL ret).before a0 Z = true) (hy : y.cls ≠ "java/lang/invoke/MethodHandle" ∧ y.cls ≠ "java/lang/invoke/VarHandle")
    (hM : Con l Z y bytes maxL ret rm as' h Qc) (eT : T.heap = h) (hd : decode c.code pc = .ok (.invokestatic index, 3)) (hlen : ∀ sig, parseMethodDescriptor y.desc = some sig → argsL.length = sig.parameters.length) (hst : st = argsL.reverse ++ rest) (has : argsL.toArray = as')
    (hW : (rest.map fun v => v.category).sum ≤ W) (hf : rm.frames + 1 ≤ R.frames) (hl : W + (maxL + 11) + rm.locals ≤ R.locals) (hc : cells + rm.cells ≤ R.cells) (hs : slots + rm.slots ≤ R.slots)
    (k : ∀ (v : Option Value) (T' : State) (L : List Loc), Stand p l e R s m args below meth c T' (locs ++ L) (cells + rm.cells) (slots + rm.slots) → Qc v T'.heap L → Go p e below s C S Q T' (mkF m (pc + 3) Ls (v.toList ++ rest))) :
    Go p e below s C S Q T (mkF m pc Ls st) := by
  obtain ⟨v, _, ⟨T', L', k', n'⟩, -, X', ⟨Lc, hQ, l1, y1, z1⟩, stp⟩ := Jvm.LawKit.callS X hx (y := y) hown (mvT hZ w1) (mvT hZ w2) (mvT hZ w3) (mvT hZ w4) hy (backOf (W := W) hM hZ w4 w3 hf hl) (g := mkF m pc Ls st) rfl hml (argsL := argsL) (rest := rest) hlen hst (by show 2 * 0 + _ ≤ _; omega) hd (fun _ _ => ⟨has, eT, hc, hs⟩)
  dsimp only [Pt.U, Pt.locs, Pt.cells, Pt.slots] at X' l1 y1 z1 stp hQ
  subst l1 y1 z1
  exact Go.step stp (k v T' Lc X' hQ)
theorem Go.callI (X : Stand p l e R s m args below meth c T locs cells slots) (hx : p.tables.exec = Jvm.exec) (hZ : Z.Warmed39 s.vm) {own : String} {index : Nat} {y : MethodName} {bytes : ByteArray} {maxL : Nat} {rm : Room} {as' : Array Value} {Qc : Option Value → Heap → List Loc → Prop} {W pc : Nat} {Ls : Array Slot} {st : List Value} {a : Addr} {argsL rest : List Value} (hml : Ls.size = c.maxLocals)
    (hy1 : y.name = "<init>") (hown : s.vm.findClass own = some m.cls) (w1 : (Jvm.Cond.methodLink own index y).before a0 Z = true) (w2 : (Jvm.Cond.instanceMethod y).before a0 Z = true) (w3 : (Jvm.Cond.initialized y.cls).before a0 Z = true) (w4 : (Jvm.Cond.code y bytes maxL none).before a0 Z = true) (hy : y.cls ≠ "java/lang/invoke/MethodHandle" ∧ y.cls ≠ "java/lang/invoke/VarHandle")
    (hM : Con l Z y bytes maxL none rm as' h Qc) (eT : T.heap = h) (hd : decode c.code pc = .ok (.invokespecial index, 3)) (hlen : ∀ sig, parseMethodDescriptor y.desc = some sig → argsL.length = sig.parameters.length) (hst : st = argsL.reverse ++ .ref a :: rest) (has : (Value.ref a :: argsL).toArray = as')
    (hW : (rest.map fun v => v.category).sum ≤ W) (hf : rm.frames + 1 ≤ R.frames) (hl : W + (maxL + 11) + rm.locals ≤ R.locals) (hc : cells + rm.cells ≤ R.cells) (hs : slots + rm.slots ≤ R.slots)
    (k : ∀ (v : Option Value) (T' : State) (L : List Loc), Stand p l e R s m args below meth c T' (locs ++ L) (cells + rm.cells) (slots + rm.slots) → Qc v T'.heap L → Go p e below s C S Q T' (mkF m (pc + 3) Ls (v.toList ++ rest))) :
    Go p e below s C S Q T (mkF m pc Ls st) := by
  obtain ⟨v, _, ⟨T', L', k', n'⟩, -, X', ⟨Lc, hQ, l1, y1, z1⟩, stp⟩ := X.specialBack hx (y := y) hy1 hown (mvT hZ w1) (mvT hZ w2) (mvT hZ w4) hy (backOf (W := W) hM hZ w4 w3 hf hl) (g := mkF m pc Ls st) rfl hml (Steps.refl _) (a := a) (argsL := argsL) (rest := rest) hlen hst (by show 2 * 0 + _ ≤ _; omega) hd (fun _ _ => ⟨has, eT, hc, hs⟩)
  dsimp only [Pt.U, Pt.locs, Pt.cells, Pt.slots] at X' l1 y1 z1 stp hQ
  subst l1 y1 z1
  exact Go.step (fun _ q => stp.trans q) (k v T' Lc X' hQ)
theorem Go.callV (X : Stand p l e R s m args below meth c T locs cells slots) (hx : p.tables.exec = Jvm.exec) (hZ : Z.Warmed39 s.vm) {own K : String} {index : Nat} {y z : MethodName} {bytes : ByteArray} {maxL : Nat} {ret : Option FieldType} {rm : Room} {as' : Array Value} {Qc : Option Value → Heap → List Loc → Prop} {W pc : Nat} {Ls : Array Slot} {st : List Value} {a : Addr} {argsL rest : List Value} (hml : Ls.size = c.maxLocals)
    (hown : s.vm.findClass own = some m.cls) (w1 : (Jvm.Cond.methodLink own index y).before a0 Z = true) (w2 : (Jvm.Cond.declares y).before a0 Z = true) (hnf : NotFace s y) (w5 : (Jvm.Cond.selects K y z).before a0 Z = true) (w6 : (Jvm.Cond.instanceMethod z).before a0 Z = true) (w3 : (Jvm.Cond.initialized z.cls).before a0 Z = true) (w4 : (Jvm.Cond.code z bytes maxL ret).before a0 Z = true) (hy : y.cls ≠ "java/lang/invoke/MethodHandle" ∧ y.cls ≠ "java/lang/invoke/VarHandle")
    (hM : Con l Z z bytes maxL ret rm as' h Qc) (eT : T.heap = h) (E : Exa Z h a K) (hd : decode c.code pc = .ok (.invokevirtual index, 3)) (hlen : ∀ sig, parseMethodDescriptor y.desc = some sig → argsL.length = sig.parameters.length) (hst : st = argsL.reverse ++ .ref a :: rest) (has : (Value.ref a :: argsL).toArray = as')
    (hW : (rest.map fun v => v.category).sum ≤ W) (hf : rm.frames + 1 ≤ R.frames) (hl : W + (maxL + 11) + rm.locals ≤ R.locals) (hc : cells + rm.cells ≤ R.cells) (hs : slots + rm.slots ≤ R.slots)
    (k : ∀ (v : Option Value) (T' : State) (L : List Loc), Stand p l e R s m args below meth c T' (locs ++ L) (cells + rm.cells) (slots + rm.slots) → Qc v T'.heap L → Go p e below s C S Q T' (mkF m (pc + 3) Ls (v.toList ++ rest))) :
    Go p e below s C S Q T (mkF m pc Ls st) := by
  obtain ⟨cq, kq, qa, qb, qc⟩ := isOf hZ eT E
  obtain ⟨v, _, ⟨T', L', k', n'⟩, -, X', ⟨Lc, hQ, l1, y1, z1⟩, stp⟩ := X.virtualBack hx (y := y) (z := z) hown (mvT hZ w1) (mvT hZ w2) hnf (mvT hZ w5) (mvT hZ w6) hy (backOf (W := W) hM hZ w4 w3 hf hl) qa qc (g := mkF m pc Ls st) rfl hml (Steps.refl _) (argsL := argsL) (rest := rest) hlen hst (by show 2 * 0 + _ ≤ _; omega) hd (fun _ _ => ⟨has, eT, hc, hs⟩)
  dsimp only [Pt.U, Pt.locs, Pt.cells, Pt.slots] at X' l1 y1 z1 stp hQ
  subst l1 y1 z1
  exact Go.step (fun _ q => stp.trans q) (k v T' Lc X' hQ)
theorem Go.callP (X : Stand p l e R s m args below meth c T locs cells slots) (hx : p.tables.exec = Jvm.exec) (hZ : Z.Warmed39 s.vm) {own : String} {index : Nat} {y : MethodName} {bytes : ByteArray} {maxL : Nat} {ret : Option FieldType} {rm : Room} {as' : Array Value} {Qc : Option Value → Heap → List Loc → Prop} {W pc : Nat} {Ls : Array Slot} {st : List Value} {a : Addr} {argsL rest : List Value} (hml : Ls.size = c.maxLocals)
    (hown : s.vm.findClass own = some m.cls) (w1 : (Jvm.Cond.methodLink own index y).before a0 Z = true) (w6 : (Jvm.Cond.instanceMethod y).before a0 Z = true) {kk : Nat} (w5 : (Jvm.Cond.instantiable y.cls kk).before a0 Z = true) (w7 : (Jvm.Cond.privateMethod y).before a0 Z = true) (w3 : (Jvm.Cond.initialized y.cls).before a0 Z = true) (w4 : (Jvm.Cond.code y bytes maxL ret).before a0 Z = true) (hy : y.cls ≠ "java/lang/invoke/MethodHandle" ∧ y.cls ≠ "java/lang/invoke/VarHandle")
    (hM : Con l Z y bytes maxL ret rm as' h Qc) (eT : T.heap = h) {K : String} (E : Exa Z h a K) (hd : decode c.code pc = .ok (.invokevirtual index, 3)) (hlen : ∀ sig, parseMethodDescriptor y.desc = some sig → argsL.length = sig.parameters.length) (hst : st = argsL.reverse ++ .ref a :: rest) (has : (Value.ref a :: argsL).toArray = as')
    (hW : (rest.map fun v => v.category).sum ≤ W) (hf : rm.frames + 1 ≤ R.frames) (hl : W + (maxL + 11) + rm.locals ≤ R.locals) (hc : cells + rm.cells ≤ R.cells) (hs : slots + rm.slots ≤ R.slots)
    (k : ∀ (v : Option Value) (T' : State) (L : List Loc), Stand p l e R s m args below meth c T' (locs ++ L) (cells + rm.cells) (slots + rm.slots) → Qc v T'.heap L → Go p e below s C S Q T' (mkF m (pc + 3) Ls (v.toList ++ rest))) :
    Go p e below s C S Q T (mkF m pc Ls st) := by
  obtain ⟨cq, q1, q2⟩ := E.cell
  have hpriv : s.PrivateAt y := Cond.privateMethod_at (mvP hZ w7 (args := #[]))
  have w5' : (Jvm.Cond.instantiable y.cls kk).before args s = true := mvT hZ w5
  obtain ⟨c1, k1, i1, i2, -, i4, -⟩ := Cond.instantiable_spec w5'
  have hsel : (Jvm.Cond.selects y.cls y y).before args s = true := selects_self_of_private i1 i2 (by simp only [Bool.or_eq_false_iff] at i4; exact i4.1) hpriv (mvT hZ w6) hy
  obtain ⟨v, _, ⟨T', L', k', n'⟩, -, X', ⟨Lc, hQ, l1, y1, z1⟩, stp⟩ := X.privateBack hx (y := y) hown (mvT hZ w1) (mvT hZ w6) hsel hpriv (mvT hZ w4) hy (backOf (W := W) hM hZ w4 w3 hf hl) (g := mkF m pc Ls st) rfl hml (Steps.refl _) (a := a) (by rw [eT]; exact q1) q2 (argsL := argsL) (rest := rest) hlen hst (by show 2 * 0 + _ ≤ _; omega) hd (fun _ _ => ⟨has, eT, hc, hs⟩)
  dsimp only [Pt.U, Pt.locs, Pt.cells, Pt.slots] at X' l1 y1 z1 stp hQ
  subst l1 y1 z1
  exact Go.step (fun _ q => stp.trans q) (k v T' Lc X' hQ)
end OwnGo
/-! OWN: branches on a comparison of doubles, as javac writes them -/
section OwnCmp
variable {x y : UInt64}
theorem cv_none (o : CmpOp) (h : FP.dcmp x y = none) : cmpValue (FP.dcmp x y) o = (match o with | .l => -1 | .g => 1) := by rw [h]; cases o <;> rfl
theorem gt_y (h : FP.dcmp x y = some .gt) : ifCond.holds .le (cmpValue (FP.dcmp x y) .l) = false := by rw [h]; rfl
theorem gt_n (h : ¬ FP.dcmp x y = some .gt) : ifCond.holds .le (cmpValue (FP.dcmp x y) .l) = true := by
  rcases q : FP.dcmp x y with _ | (_ | _ | _) <;> first | rfl | exact absurd q h
theorem ge_y (h : FP.dcmp x y = some .gt ∨ FP.dcmp x y = some .eq) : ifCond.holds .lt (cmpValue (FP.dcmp x y) .l) = false := by rcases h with h | h <;> rw [h] <;> rfl
theorem ge_n (h : ¬ (FP.dcmp x y = some .gt ∨ FP.dcmp x y = some .eq)) : ifCond.holds .lt (cmpValue (FP.dcmp x y) .l) = true := by
  rcases q : FP.dcmp x y with _ | (_ | _ | _) <;> first | rfl | exact absurd (Or.inl q) h | exact absurd (Or.inr q) h
theorem lt_y (h : FP.dcmp x y = some .lt) : ifCond.holds .ge (cmpValue (FP.dcmp x y) .g) = false := by rw [h]; rfl
theorem lt_n (h : ¬ FP.dcmp x y = some .lt) : ifCond.holds .ge (cmpValue (FP.dcmp x y) .g) = true := by
  rcases q : FP.dcmp x y with _ | (_ | _ | _) <;> first | rfl | exact absurd q h
theorem le_y (h : FP.dcmp x y = some .lt ∨ FP.dcmp x y = some .eq) : ifCond.holds .gt (cmpValue (FP.dcmp x y) .g) = false := by rcases h with h | h <;> rw [h] <;> rfl
theorem le_n (h : ¬ (FP.dcmp x y = some .lt ∨ FP.dcmp x y = some .eq)) : ifCond.holds .gt (cmpValue (FP.dcmp x y) .g) = true := by
  rcases q : FP.dcmp x y with _ | (_ | _ | _) <;> first | rfl | exact absurd (Or.inl q) h | exact absurd (Or.inr q) h
theorem eq_y (o : CmpOp) (h : FP.dcmp x y = some .eq) : ifCond.holds .ne (cmpValue (FP.dcmp x y) o) = false ∧ ifCond.holds .eq (cmpValue (FP.dcmp x y) o) = true := by rw [h]; cases o <;> exact ⟨rfl, rfl⟩
theorem eq_n (o : CmpOp) (h : ¬ FP.dcmp x y = some .eq) : ifCond.holds .ne (cmpValue (FP.dcmp x y) o) = true ∧ ifCond.holds .eq (cmpValue (FP.dcmp x y) o) = false := by
  rcases q : FP.dcmp x y with _ | (_ | _ | _) <;> cases o <;> first | exact ⟨rfl, rfl⟩ | exact absurd q h
/-- x > y, by a taken 'ifgt' over dcmpl -/
theorem gtT_y (h : FP.dcmp x y = some .gt) : ifCond.holds .gt (cmpValue (FP.dcmp x y) .l) = true := by rw [h]; rfl
theorem gtT_n (h : ¬ FP.dcmp x y = some .gt) : ifCond.holds .gt (cmpValue (FP.dcmp x y) .l) = false := by
  rcases q : FP.dcmp x y with _ | (_ | _ | _) <;> first | rfl | exact absurd q h
theorem geT_y (h : FP.dcmp x y = some .gt ∨ FP.dcmp x y = some .eq) : ifCond.holds .ge (cmpValue (FP.dcmp x y) .l) = true := by rcases h with h | h <;> rw [h] <;> rfl
theorem geT_n (h : ¬ (FP.dcmp x y = some .gt ∨ FP.dcmp x y = some .eq)) : ifCond.holds .ge (cmpValue (FP.dcmp x y) .l) = false := by
  rcases q : FP.dcmp x y with _ | (_ | _ | _) <;> first | rfl | exact absurd (Or.inl q) h | exact absurd (Or.inr q) h
theorem ltT_y (h : FP.dcmp x y = some .lt) : ifCond.holds .lt (cmpValue (FP.dcmp x y) .g) = true := by rw [h]; rfl
theorem ltT_n (h : ¬ FP.dcmp x y = some .lt) : ifCond.holds .lt (cmpValue (FP.dcmp x y) .g) = false := by
  rcases q : FP.dcmp x y with _ | (_ | _ | _) <;> first | rfl | exact absurd q h
theorem leT_y (h : FP.dcmp x y = some .lt ∨ FP.dcmp x y = some .eq) : ifCond.holds .le (cmpValue (FP.dcmp x y) .g) = true := by rcases h with h | h <;> rw [h] <;> rfl
theorem leT_n (h : ¬ (FP.dcmp x y = some .lt ∨ FP.dcmp x y = some .eq)) : ifCond.holds .le (cmpValue (FP.dcmp x y) .g) = false := by
  rcases q : FP.dcmp x y with _ | (_ | _ | _) <;> first | rfl | exact absurd (Or.inl q) h | exact absurd (Or.inr q) h
end OwnCmp

section OwnConv
open Jvm.FP.Core
theorem own_nnN {a : UInt64} (h : val64 a ≠ .nan) : Jvm.Free.Fl.NoNaN64 a := Jvm.Free.Fl.noNaN64_no.mpr ((notNaN_iff a).mpr h)
theorem own_Nnn {a : UInt64} (h : Jvm.Free.Fl.NoNaN64 a) : val64 a ≠ .nan := (notNaN_iff a).mp (Jvm.Free.Fl.noNaN64_no.mp h)
theorem own_finF {a : UInt64} (h : DFin a) : Jvm.Free.Fl.Fin64 a := Jvm.Free.Fl.fin64_core.mpr h
theorem own_Ffin {a : UInt64} (h : Jvm.Free.Fl.Fin64 a) : DFin a := Jvm.Free.Fl.fin64_core.mp h
theorem own_nnF {a : UInt64} (h : DFin a) : Jvm.Free.Fl.NoNaN64 a := own_nnN h.ne_nan
theorem own_nz {x : Int64} (h : x ≠ 0) : Jvm.Free.Fl.Nz64 (FP.l2d x) := Jvm.Free.Fl.nz64_core.mpr (fun z => l2d_ne_zero h ((zero_bits2 _).mp z))
theorem own_eqD {a b : UInt64} (h : a = b) (n : Jvm.Free.Fl.NoNaN64 a) : FP.dcmp a b = some .eq := by subst h; exact dcmp_self (own_Nnn n)
end OwnConv

section OwnFP
open Jvm.FP.Core
/-- rounding is monotone -/
theorem own_mono {s : Bool} {A B A' B' : Nat} {e e' : Int} (hB : 0 < B) (hB' : 0 < B') (h : A * B' * 2 ^ (e - e').toNat ≤ A' * B * 2 ^ (e' - e).toNat) :
    zmag b64 (roundRatio b64 s A B e) ≤ zmag b64 (roundRatio b64 s A' B' e') := by
  obtain ⟨e0, he⟩ : ∃ e0, e0 = min (min e e') b64.qmin - 1 := ⟨_, rfl⟩
  have h0 : e0 < b64.qmin := by omega
  have h1 : e0 ≤ e := by omega
  have h2 : e0 ≤ e' := by omega
  obtain ⟨x, hx⟩ : ∃ x, x = inUnits A e e0 := ⟨_, rfl⟩
  obtain ⟨y, hy⟩ : ∃ y, y = inUnits A' e' e0 := ⟨_, rfl⟩
  have hxe : x = A * 2 ^ (e - e').toNat * 2 ^ (min e e' - e0).toNat := by
    rw [hx]; unfold inUnits
    rw [show (e - e0).toNat = (e - e').toNat + (min e e' - e0).toNat by omega, Nat.pow_add, Nat.mul_assoc]
  have hye : y = A' * 2 ^ (e' - e).toNat * 2 ^ (min e e' - e0).toNat := by
    rw [hy]; unfold inUnits
    rw [show (e' - e0).toNat = (e' - e).toNat + (min e e' - e0).toNat by omega, Nat.pow_add, Nat.mul_assoc]
  have hxy : x * B' ≤ y * B := by
    rw [hxe, hye]
    calc A * 2 ^ (e - e').toNat * 2 ^ (min e e' - e0).toNat * B' = A * B' * 2 ^ (e - e').toNat * 2 ^ (min e e' - e0).toNat := by ac_rfl
      _ ≤ A' * B * 2 ^ (e' - e).toNat * 2 ^ (min e e' - e0).toNat := Nat.mul_le_mul_right _ h
      _ = A' * 2 ^ (e' - e).toNat * 2 ^ (min e e' - e0).toNat * B := by ac_rfl
  refine Nat.not_lt.mp fun hlt => ?_
  have fW := roundRatio_fits good_b64 s A hB e
  have fV := roundRatio_fits good_b64 s A' hB' e'
  have nV : roundRatio b64 s A' B' e' ≠ .nan := roundRatio_ne_nan _ _ _ _ _
  obtain ⟨P, hP⟩ : ∃ P, P = 2 ^ (b64.qmin - e0).toNat := ⟨_, rfl⟩
  have g1 : y < zmag b64 (roundRatio b64 s A B e) * P * B' := by
    refine Nat.not_le.mp fun q => ?_
    have := zmag_roundRatio_ge good_b64 (s := s) (A := A') (B := B') (e := e') (e0 := e0) hB' fW (by omega) h2 (by rw [← hP, ← hy]; exact q)
    omega
  have g2 : zmag b64 (roundRatio b64 s A' B' e') * P * B < x := by
    refine Nat.not_le.mp fun q => ?_
    have := zmag_roundRatio_le good_b64 (s := s) (A := A) (B := B) (e := e) (e0 := e0) hB fV nV (by omega) h1 (by rw [← hP, ← hx]; exact q)
    omega
  cases eW : roundRatio b64 s A B e with
  | nan => exact absurd eW (roundRatio_ne_nan _ _ _ _ _)
  | inf t =>
    have st : t = s := by have := sgn_roundRatio b64 s A B e; rw [eW] at this; exact this
    subst st
    have t1 := (roundRatio_inf good_b64 (s := t) (A := A) (B := B) (e := e) (e0 := e0) hB h0 h1).mp eW
    have t2 : roundRatio b64 t A' B' e' = .inf t := by
      refine (roundRatio_inf good_b64 hB' h0 h2).mpr ?_
      rw [← hx] at t1; rw [← hy]
      refine Nat.le_of_mul_le_mul_right (c := B) ?_ hB
      calc _ = (2 ^ (b64.p + 1) - 1) * 2 ^ (b64.qmax - 1 - e0).toNat * B * B' := by ac_rfl
        _ ≤ x * B' := Nat.mul_le_mul_right _ t1
        _ ≤ y * B := hxy
    rw [eW, t2] at hlt
    exact Nat.lt_irrefl _ hlt
  | fin t c q =>
    cases eV : roundRatio b64 s A' B' e' with
    | nan => exact nV eV
    | inf t' =>
      rw [eV] at hlt
      have := zmag_le_top good_b64 fW
      exact absurd hlt (Nat.not_lt.mpr this)
    | fin t' c' q' =>
      rw [eW] at fW g1; rw [eV] at fV g2
      have d1 := roundRatio_nearest good_b64 (e0 := e0) hB' eV fW.1 fW.2.1 (by omega) h2
      have d2 := roundRatio_nearest good_b64 (e0 := e0) hB eW fV.1 fV.2.1 (by omega) h1
      unfold distance at d1 d2
      rw [units_fin fV (e0 := e0) (by omega), units_fin fW (e0 := e0) (by omega), ← hP] at d1 d2
      rw [← hy] at d1; rw [← hx] at d2
      generalize zmag b64 (.fin t c q) * P = w at g1 d1 d2
      generalize zmag b64 (.fin t' c' q') * P = v at g2 d1 d2
      have k1 : v * B' < y := by
        refine Nat.lt_of_mul_lt_mul_right (a := B) ?_
        calc v * B' * B = v * B * B' := by ac_rfl
          _ < x * B' := Nat.mul_lt_mul_of_pos_right g2 hB'
          _ ≤ y * B := hxy
      have k2 : x < w * B := by
        refine Nat.lt_of_mul_lt_mul_right (a := B') ?_
        calc x * B' ≤ y * B := hxy
          _ < w * B' * B := Nat.mul_lt_mul_of_pos_right g1 hB
          _ = w * B * B' := by ac_rfl
      rw [← Int.natCast_mul, ← Int.natCast_mul] at d1 d2
      have m1 : 2 * y ≤ (v + w) * B' := by rw [Nat.add_mul]; omega
      have m2 : (v + w) * B ≤ 2 * x := by rw [Nat.add_mul]; omega
      have m3 : y * B ≤ x * B' := by
        have a1 := Nat.mul_le_mul_right B m1
        have a2 := Nat.mul_le_mul_right B' m2
        have a3 : (v + w) * B' * B = (v + w) * B * B' := by ac_rfl
        rw [Nat.mul_assoc] at a1 
        rw [Nat.mul_assoc 2 x B'] at a2
        omega
      have m4 : x * B' = y * B := by omega
      have hc : A * B' * 2 ^ (e - e').toNat = A' * B * 2 ^ (e' - e).toNat := by
        refine Nat.eq_of_mul_eq_mul_right (Nat.two_pow_pos (min e e' - e0).toNat) ?_
        rw [hxe, hye] at m4
        calc _ = A * 2 ^ (e - e').toNat * 2 ^ (min e e' - e0).toNat * B' := by ac_rfl
          _ = _ := m4
          _ = _ := by ac_rfl
      rw [roundRatio_congr hB hB' hc] at hlt
      exact Nat.lt_irrefl _ hlt
theorem own_pow (a b : Nat) : (2:Nat) ^ a * 2 ^ b = 2 ^ (a + b) := (Nat.pow_add 2 a b).symm
theorem own_cross {c d M : Nat} {q r : Int} (hq : 0 ≤ q + M) (hr : 0 ≤ r + M) (h : c * 2 ^ (q + M).toNat ≤ d * 2 ^ (r + M).toNat) : c * 2 ^ (q - r).toNat ≤ d * 2 ^ (r - q).toNat := by
  have e1 : (q + M).toNat = (q - r).toNat + (min q r + M).toNat := by omega
  have e2 : (r + M).toNat = (r - q).toNat + (min q r + M).toNat := by omega
  rw [e1, e2, Nat.pow_add, Nat.pow_add, ← Nat.mul_assoc, ← Nat.mul_assoc] at h
  exact Nat.le_of_mul_le_mul_right h (Nat.two_pow_pos _)
theorem own_cross_eq {c d M : Nat} {q r : Int} (hq : 0 ≤ q + M) (hr : 0 ≤ r + M) (h : c * 2 ^ (q + M).toNat = d * 2 ^ (r + M).toNat) : c * 2 ^ (q - r).toNat = d * 2 ^ (r - q).toNat :=
  Nat.le_antisymm (own_cross hq hr (Nat.le_of_eq h)) (own_cross hr hq (Nat.le_of_eq h.symm))
/-- the quotient of two whole numbers -/
theorem own_quot_int {i j : Int} {a b : UInt64} (ha : DInt i a) (hb : DInt j b) (hi : i ≠ 0) (hj : j ≠ 0) : val64 (FP.ddiv a b) = roundRatio b64 (decide (i < 0) != decide (j < 0)) i.natAbs j.natAbs 0 := by
  show val64 (Jvm.FP.Core.ddiv a b) = _
  rw [val64_ddiv]
  unfold DInt at ha hb
  cases ea : val64 a with
  | nan => rw [ea] at ha; exact ha.elim
  | inf s => rw [ea] at ha; exact ha.elim
  | fin s c q =>
    cases eb : val64 b with
    | nan => rw [eb] at hb; exact hb.elim
    | inf s => rw [eb] at hb; exact hb.elim
    | fin t d r =>
      rw [ea] at ha; rw [eb] at hb
      have hd : d ≠ 0 := fun z => hj ((whole_zero hb).mp z)
      have h1 := whole_natAbs ha
      have h2 := whole_natAbs hb
      show (if d = 0 then (if c = 0 then Datum.nan else .inf (s != t)) else roundRatio b64 (s != t) c d (q - r)) = _
      rw [if_neg hd, whole_sign ha hi, whole_sign hb hj]
      refine roundRatio_congr (by omega) (by omega) ?_
      rw [show (q - r - 0) = q - r by omega, show (0 - (q - r)) = r - q by omega]
      have e3 : c * j.natAbs * 2 ^ (q.toNat + (-r).toNat) = i.natAbs * d * 2 ^ (r.toNat + (-q).toNat) := by
        rw [Nat.pow_add, Nat.pow_add]
        calc c * j.natAbs * (2 ^ q.toNat * 2 ^ (-r).toNat) = (c * 2 ^ q.toNat) * (j.natAbs * 2 ^ (-r).toNat) := by ac_rfl
          _ = (i.natAbs * 2 ^ (-q).toNat) * (d * 2 ^ r.toNat) := by rw [h1, h2]
          _ = _ := by ac_rfl
      have f1 : q.toNat + (-r).toNat = (q - r + ((-q).toNat + r.toNat : Nat)).toNat := by omega
      have f2 : r.toNat + (-q).toNat = (0 + ((-q).toNat + r.toNat : Nat) : Int).toNat := by omega
      rw [f1, f2] at e3
      have := own_cross_eq (q := q - r) (r := 0) (M := (-q).toNat + r.toNat) (by omega) (by omega) e3
      rw [show (q - r - 0) = q - r by omega, show (0 - (q - r)) = r - q by omega] at this
      exact this
theorem own_zinf (s : Bool) : zmag b64 (.inf s) = 2 ^ 2098 := by
  show b64.tails * 2 ^ (b64.exps - 2) = _
  rw [show b64.tails = 2 ^ 52 by decide, show b64.exps - 2 = 2046 by decide, own_pow]
/-- between two bounds: a positive number -/
theorem own_pos_of {d : Datum} (hn : d ≠ .nan) (h0 : 0 < zval b64 d) (h1 : zmag b64 d < 2 ^ 2098) : ∃ c q, d = .fin false c q ∧ c ≠ 0 := by
  cases d with
  | nan => exact absurd rfl hn
  | inf s => rw [own_zinf] at h1; exact absurd h1 (Nat.lt_irrefl _)
  | fin s c q =>
    cases s with
    | false =>
      refine ⟨c, q, rfl, fun z => ?_⟩
      subst z
      have : zval b64 (.fin false 0 q) = 0 := by show signed false (0 * _) = 0; rw [Nat.zero_mul]; rfl
      omega
    | true =>
      have : zval b64 (.fin true c q) ≤ 0 := by show signed true _ ≤ 0; unfold signed; simp
      omega
theorem own_zval_pos (c : Nat) (q : Int) : zval b64 (.fin false c q) = (zmag b64 (.fin false c q) : Int) := rfl
theorem own_zmag_fin (s : Bool) (c : Nat) (q : Int) : zmag b64 (.fin s c q) = c * 2 ^ (q + 1074).toNat := by
  show c * 2 ^ (q - b64.qmin).toNat = _
  rw [qmin_b64]; congr 2
theorem own_qmin {s : Bool} {c : Nat} {q : Int} {a : UInt64} (h : val64 a = .fin s c q) : 0 ≤ q + (1074 : Nat) := by
  have := val64_fits a; rw [h] at this; have := this.2.1; rw [qmin_b64] at this; omega
theorem own_valOne : val64 (4607182418800017408 : UInt64) = .fin false (2 ^ 52) (-52) := by decide +kernel
theorem own_zOne : zval b64 (.fin false (2 ^ 52) (-52)) = ((2 ^ 1074 : Nat) : Int) := by
  rw [own_zval_pos, own_zmag_fin, show ((-52 : Int) + 1074).toNat = 1022 by decide, own_pow]
theorem own_zMin : zval b64 (val64 (4503599627370496 : UInt64)) = ((2 ^ 52 : Nat) : Int) := by decide +kernel
theorem own_fits11 : Jvm.FP.Core.fits b64 (.fin false (2 ^ 52) (-63)) := ⟨by decide, by decide, by decide, Or.inr (by decide)⟩
theorem own_z11 : zmag b64 (.fin false (2 ^ 52) (-63)) = 2 ^ 1063 := by
  rw [own_zmag_fin, show ((-63 : Int) + 1074).toNat = 1011 by decide, own_pow]
theorem own_fitsB : Jvm.FP.Core.fits b64 (.fin false (2047 * 2 ^ 42) (-53)) := ⟨by decide, by decide, by decide, Or.inr (by decide)⟩
theorem own_zB : zmag b64 (.fin false (2047 * 2 ^ 42) (-53)) = 2047 * 2 ^ 1063 := by
  rw [own_zmag_fin, show ((-53 : Int) + 1074).toNat = 1021 by decide, Nat.mul_assoc, own_pow]
theorem own_1074 : (2:Nat) ^ 1074 = 2048 * 2 ^ 1063 := by rw [show (2048 : Nat) = 2 ^ 11 by decide, own_pow]
theorem own_rat (p q : Int32) (h1 : 1 ≤ p.toInt) (h2 : p.toInt < q.toInt) (h3 : q.toInt ≤ 1025) :
    ∃ c e, val64 (FP.ddiv (FP.i2d p) (FP.i2d q)) = .fin false c e ∧ c ≠ 0 ∧ 2 ^ 1063 ≤ zmag b64 (.fin false c e) ∧ zmag b64 (.fin false c e) ≤ 2047 * 2 ^ 1063 := by
  have hq := own_quot_int (i2d_int p) (i2d_int q) (by omega) (by omega)
  have hs : (decide (p.toInt < 0) != decide (q.toInt < 0)) = false := by simp [show ¬ p.toInt < 0 by omega, show ¬ q.toInt < 0 by omega]
  rw [hs] at hq
  have hq' : val64 (FP.ddiv (FP.i2d p) (FP.i2d q)) = roundRatio b64 false p.toInt.natAbs q.toInt.natAbs 0 := hq
  have K : 0 < 2 ^ 1063 := Nat.two_pow_pos _
  have u0 : inUnits p.toInt.natAbs 0 b64.qmin = p.toInt.natAbs * (2048 * 2 ^ 1063) := by
    unfold inUnits; rw [qmin_b64, show ((0 : Int) - -1074).toNat = 1074 by decide, own_1074]
  have g1 := zmag_roundRatio_ge good_b64 (s := false) (A := p.toInt.natAbs) (B := q.toInt.natAbs) (e := 0) (e0 := b64.qmin) (by omega) own_fits11 (Int.le_refl _) (by decide) (by
    rw [u0, own_z11, Int.sub_self, Int.toNat_zero, Nat.pow_zero, Nat.mul_one, ← Nat.mul_assoc, Nat.mul_comm (2 ^ 1063)]
    exact Nat.mul_le_mul_right _ (by omega))
  have g2 := zmag_roundRatio_le good_b64 (s := false) (A := p.toInt.natAbs) (B := q.toInt.natAbs) (e := 0) (e0 := b64.qmin) (by omega) own_fitsB (by simp) (Int.le_refl _) (by decide) (by
    rw [u0, own_zB, Int.sub_self, Int.toNat_zero, Nat.pow_zero, Nat.mul_one]
    generalize (2:Nat) ^ 1063 = X
    calc p.toInt.natAbs * (2048 * X) = p.toInt.natAbs * 2048 * X := (Nat.mul_assoc ..).symm
      _ ≤ 2047 * q.toInt.natAbs * X := Nat.mul_le_mul_right _ (by omega)
      _ = 2047 * X * q.toInt.natAbs := by ac_rfl)
  rw [own_z11] at g1; rw [own_zB] at g2
  rw [hq']
  have hsg := sgn_roundRatio b64 false p.toInt.natAbs q.toInt.natAbs 0
  cases e : roundRatio b64 false p.toInt.natAbs q.toInt.natAbs 0 with
  | nan => exact absurd e (roundRatio_ne_nan _ _ _ _ _)
  | inf t =>
    rw [e, own_zinf] at g2
    have : (2:Nat) ^ 1074 < 2 ^ 2098 := Nat.pow_lt_pow_right (by decide) (by decide)
    rw [own_1074] at this
    generalize (2:Nat) ^ 2098 = X at *; omega
  | fin t c q =>
    rw [e] at hsg g1 g2
    have ht : t = false := hsg
    subst ht
    refine ⟨c, q, rfl, fun z => ?_, g1, g2⟩
    subst z
    rw [own_zmag_fin, Nat.zero_mul] at g1
    omega
/-- 1 - lambda -/
theorem own_sub1 {a : UInt64} {c : Nat} {e : Int} (h : val64 a = .fin false c e) (h1 : zmag b64 (.fin false c e) ≤ 2047 * 2 ^ 1063) :
    ∃ c' e', val64 (FP.dsub 4607182418800017408 a) = .fin false c' e' ∧ c' ≠ 0 ∧ 2 ^ 1063 ≤ zmag b64 (.fin false c' e') := by
  have hf : Jvm.FP.Core.fits b64 (.fin false c e) := h ▸ val64_fits a
  have hv : val64 (FP.dsub 4607182418800017408 a) = round b64 (exactSum (.fin false (2 ^ 52) (-52)) (.fin true c e)) := by
    show val64 (Jvm.FP.Core.dsub 4607182418800017408 a) = _
    rw [val64_dsub, own_valOne, h]; rfl
  obtain ⟨sg, n, ee, x1, x2, x3⟩ := sum_units (own_valOne ▸ val64_fits (4607182418800017408 : UInt64)) (show Jvm.FP.Core.fits b64 (.fin true c e) from hf)
  rw [x1] at hv
  have z1 : zval b64 (.fin true c e) = -(zmag b64 (.fin false c e) : Int) := rfl
  rw [own_zOne, z1] at x3
  have K : 0 < 2 ^ 1063 := Nat.two_pow_pos _
  have z0 : 0 ≤ (zmag b64 (.fin false c e) : Int) := Int.natCast_nonneg _
  have g1 := zval_round_ge good_b64 (s := sg) (c := n) (q := ee) (e0 := b64.qmin) (V := .fin false (2 ^ 52) (-63)) own_fits11 (by simp) (Int.le_refl _) x2 (by
    rw [x3, own_zval_pos, own_z11, Int.sub_self, Int.toNat_zero, Nat.pow_zero, own_1074]
    generalize (2:Nat) ^ 1063 = X at *; omega)
  have g2 := zval_round_le good_b64 (s := sg) (c := n) (q := ee) (e0 := b64.qmin) (V := .fin false (2 ^ 52) (-52)) (own_valOne ▸ val64_fits (4607182418800017408 : UInt64)) (by simp) (Int.le_refl _) x2 (by
    rw [x3, own_zOne, Int.sub_self, Int.toNat_zero, Nat.pow_zero]
    generalize (2:Nat) ^ 1074 = X at *; omega)
  rw [own_zval_pos, own_z11] at g1
  rw [own_zOne] at g2
  rw [← hv] at g1 g2
  have hn : val64 (FP.dsub 4607182418800017408 a) ≠ .nan := by rw [hv]; exact roundRatio_ne_nan _ _ _ _ _
  have ab : zmag b64 (val64 (FP.dsub 4607182418800017408 a)) = (zval b64 (val64 (FP.dsub 4607182418800017408 a))).natAbs := (natAbs_signed _ _).symm
  obtain ⟨c', e', r1, r2⟩ := own_pos_of hn (by generalize (2:Nat) ^ 1063 = X at *; omega) (by
    rw [ab]
    have : (2:Nat) ^ 1074 < 2 ^ 2098 := Nat.pow_lt_pow_right (by decide) (by decide)
    generalize (2:Nat) ^ 1063 = X at *; generalize (2:Nat) ^ 1074 = Y at *; generalize (2:Nat) ^ 2098 = W at *; omega)
  refine ⟨c', e', r1, r2, ?_⟩
  rw [r1, own_zval_pos] at g1
  exact Int.ofNat_le.mp g1
theorem own_l2d_ge1 (x : Int64) (h : 1 ≤ x.toInt) : ∃ c q, val64 (FP.l2d x) = .fin false c q ∧ 2 ^ 1074 ≤ zmag b64 (.fin false c q) := by
  obtain ⟨c, q, hs⟩ := l2d_shape x
  have e : decide (x.toInt < 0) = false := by simp; omega
  rw [e] at hs
  refine ⟨c, q, hs, ?_⟩
  have hv : val64 (FP.l2d x) = roundRatio b64 (decide (x.toInt < 0)) x.toInt.natAbs 1 0 := val64_l2d x
  have := zmag_roundRatio_ge good_b64 (s := decide (x.toInt < 0)) (A := x.toInt.natAbs) (B := 1) (e := 0) (e0 := b64.qmin) (V := .fin false (2 ^ 52) (-52)) (by decide) (own_valOne ▸ val64_fits (4607182418800017408 : UInt64)) (Int.le_refl _) (by decide) (by
    rw [Int.sub_self, Int.toNat_zero, Nat.pow_zero, own_zmag_fin, show ((-52 : Int) + 1074).toNat = 1022 by decide, own_pow, Nat.mul_one, Nat.mul_one]
    unfold inUnits; rw [qmin_b64, show ((0 : Int) - -1074).toNat = 1074 by decide]
    exact Nat.le_mul_of_pos_left _ (by omega))
  rw [← hv, own_zmag_fin, show ((-52 : Int) + 1074).toNat = 1022 by decide, own_pow] at this
  have hs' : val64 (FP.l2d x) = .fin false c q := hs
  rw [hs'] at this; exact this
theorem own_quot_pos {a b : UInt64} {c d : Nat} {q r : Int} (ha : val64 a = .fin false c q) (hb : val64 b = .fin false d r) (hd : d ≠ 0) : val64 (FP.ddiv a b) = roundRatio b64 false c d (q - r) := by
  show val64 (Jvm.FP.Core.ddiv a b) = _
  rw [val64_ddiv, ha, hb]
  show (if d = 0 then _ else roundRatio b64 (false != false) c d (q - r)) = _
  rw [if_neg hd]; rfl
theorem own_zval_rr (A B : Nat) (e : Int) : zval b64 (roundRatio b64 false A B e) = (zmag b64 (roundRatio b64 false A B e) : Int) := by
  unfold zval; rw [sgn_roundRatio]; rfl
/-- all that the law asks of lambda = p / q -/
theorem own_731b (p q : Int32) (h1 : 1 ≤ p.toInt) (h2 : p.toInt < q.toInt) (h3 : q.toInt ≤ 1025) (lam : UInt64) (hl : lam = FP.ddiv (FP.i2d p) (FP.i2d q)) :
    FP.dcmp lam 4503599627370496 = some .gt ∧ FP.dcmp lam 4607182418800017408 = some .lt ∧ DFin lam ∧ ¬ DZero lam ∧ DFin (FP.dsub 4607182418800017408 lam) ∧ ¬ DZero (FP.dsub 4607182418800017408 lam) ∧
    FP.dmul lam (FP.l2d 1) = lam ∧ FP.dcmp (FP.ddiv (FP.dsub 4607182418800017408 lam) lam) 0 = some .gt ∧
    ∀ n : Int64, 1 ≤ n.toInt → (FP.dcmp (FP.ddiv (FP.dsub 4607182418800017408 lam) (FP.dmul lam (FP.l2d n))) (FP.ddiv (FP.dsub 4607182418800017408 lam) lam) = some .lt ∨ FP.dcmp (FP.ddiv (FP.dsub 4607182418800017408 lam) (FP.dmul lam (FP.l2d n))) (FP.ddiv (FP.dsub 4607182418800017408 lam) lam) = some .eq) := by
  obtain ⟨c, e, hv, hc, lo, hi⟩ := own_rat p q h1 h2 h3
  rw [← hl] at hv
  obtain ⟨c', e', hv', hc', lo'⟩ := own_sub1 hv hi
  have K : 0 < 2 ^ 1063 := Nat.two_pow_pos _
  have nn : val64 lam ≠ .nan := by rw [hv]; simp
  have n1 : val64 (4607182418800017408 : UInt64) ≠ .nan := by rw [own_valOne]; simp
  have n0 : val64 (4503599627370496 : UInt64) ≠ .nan := by decide +kernel
  have nz : val64 (0 : UInt64) ≠ .nan := by decide +kernel
  have hL : val64 (FP.ddiv (FP.dsub 4607182418800017408 lam) lam) = roundRatio b64 false c' c (e' - e) := own_quot_pos hv' hv hc
  have hLn : val64 (FP.ddiv (FP.dsub 4607182418800017408 lam) lam) ≠ .nan := by rw [hL]; exact roundRatio_ne_nan _ _ _ _ _
  have qe := own_qmin hv; have qe' := own_qmin hv'
  have lge : 2 ^ 1063 ≤ zmag b64 (roundRatio b64 false c' c (e' - e)) := by
    have m := own_mono (s := false) (A := 2 ^ 52) (B := 1) (e := -63) (A' := c') (B' := c) (e' := e' - e) (by decide) (by omega) (by
      rw [Nat.mul_one]
      have := own_cross (c := 2 ^ 52 * c) (d := c') (M := 1137) (q := e - 63) (r := e') (by omega) (by omega) (by
        rw [own_zmag_fin] at lo' hi
        rw [show (e - 63 + (1137 : Nat)).toNat = (e + 1074).toNat by omega, show (e' + (1137 : Nat)).toNat = (e' + 1074).toNat + 63 by omega, Nat.pow_add, ← Nat.mul_assoc]
        calc 2 ^ 52 * c * 2 ^ (e + 1074).toNat = 2 ^ 52 * (c * 2 ^ (e + 1074).toNat) := Nat.mul_assoc ..
          _ ≤ 2 ^ 52 * (2047 * 2 ^ 1063) := Nat.mul_le_mul_left _ hi
          _ ≤ 2 ^ 63 * 2 ^ 1063 := by rw [← Nat.mul_assoc]; exact Nat.mul_le_mul_right _ (by decide)
          _ = 2 ^ 1063 * 2 ^ 63 := Nat.mul_comm ..
          _ ≤ _ := Nat.mul_le_mul_right _ lo')
      rw [show (-63 - (e' - e)) = e - 63 - e' by omega, show (e' - e - -63) = e' - (e - 63) by omega]
      exact this)
    have ex : roundRatio b64 false (2 ^ 52) 1 (-63) = .fin false (2 ^ 52) (-63) := roundRatio_exact good_b64 (by decide) own_fits11 (by simp)
    rw [ex, own_z11] at m; exact m
  refine ⟨?_, ?_, ⟨_, _, _, hv⟩, fun ⟨s, q, z⟩ => ?_, ⟨_, _, _, hv'⟩, fun ⟨s, q, z⟩ => ?_, ?_, ?_, fun n hn => ?_⟩
  · refine dcmp_gt.mpr ⟨nn, n0, ?_⟩
    rw [own_zMin, hv, own_zval_pos]
    have : (2:Nat) ^ 52 < 2 ^ 1063 := Nat.pow_lt_pow_right (by decide) (by decide)
    exact Int.ofNat_lt.mpr (Nat.lt_of_lt_of_le this lo)
  · refine dcmp_lt.mpr ⟨nn, n1, ?_⟩
    rw [own_valOne, own_zOne, hv, own_zval_pos, own_1074]
    generalize (2:Nat) ^ 1063 = X at *; omega
  · rw [hv] at z; cases z; exact hc rfl
  · rw [hv'] at z; cases z; exact hc' rfl
  · have : FP.l2d 1 = dconst1 := by decide +kernel
    rw [this]; exact dmul_one nn
  · refine dcmp_gt.mpr ⟨hLn, nz, ?_⟩
    rw [zval64_zero, hL, own_zval_rr]
    generalize (2:Nat) ^ 1063 = X at *; omega
  · obtain ⟨cn, qn, hnv, hng⟩ := own_l2d_ge1 n hn
    have hm : val64 (FP.dmul lam (FP.l2d n)) = roundRatio b64 false (c * cn) 1 (e + qn) := by
      show val64 (Jvm.FP.Core.dmul lam (FP.l2d n)) = _
      rw [val64_dmul, hv, hnv]; rfl
    obtain ⟨p1, p2, p3⟩ := product_units (hv ▸ val64_fits lam) (hnv ▸ val64_fits (FP.l2d n))
    have dge : zmag b64 (.fin false c e) ≤ zmag b64 (roundRatio b64 false (c * cn) 1 (e + qn)) := by
      refine zmag_roundRatio_ge good_b64 (e0 := 2 * b64.qmin) (by decide) (hv ▸ val64_fits lam) (by decide) p2 ?_
      rw [p3, qmin_b64, show ((-1074 : Int) - 2 * -1074).toNat = 1074 by decide, Nat.mul_one]
      exact Nat.mul_le_mul_left _ hng
    have goal : val64 (FP.ddiv (FP.dsub 4607182418800017408 lam) (FP.dmul lam (FP.l2d n))) ≠ .nan ∧ zval b64 (val64 (FP.ddiv (FP.dsub 4607182418800017408 lam) (FP.dmul lam (FP.l2d n)))) ≤ zval b64 (val64 (FP.ddiv (FP.dsub 4607182418800017408 lam) lam)) := by
      rw [hL, own_zval_rr]
      cases eD : roundRatio b64 false (c * cn) 1 (e + qn) with
      | nan => exact absurd eD (roundRatio_ne_nan _ _ _ _ _)
      | inf t =>
        have hw : val64 (FP.ddiv (FP.dsub 4607182418800017408 lam) (FP.dmul lam (FP.l2d n))) = .fin (false != t) 0 b64.qmin := by
          show val64 (Jvm.FP.Core.ddiv (FP.dsub 4607182418800017408 lam) (FP.dmul lam (FP.l2d n))) = _
          rw [val64_ddiv, hv', hm, eD]; rfl
        rw [hw]
        refine ⟨by simp, ?_⟩
        have : zval b64 (.fin (false != t) 0 b64.qmin) = 0 := by show signed _ (0 * _) = 0; rw [Nat.zero_mul, signed_zero]
        rw [this]; exact Int.natCast_nonneg _
      | fin t d r =>
        have ht : t = false := by have := sgn_roundRatio b64 false (c * cn) 1 (e + qn); rw [eD] at this; exact this
        subst ht
        rw [eD] at hm dge
        rw [own_zmag_fin, own_zmag_fin] at dge
        have hd : d ≠ 0 := fun z => by
          subst z; rw [Nat.zero_mul] at dge
          have := Nat.mul_pos (Nat.pos_of_ne_zero hc) (Nat.two_pow_pos (e + 1074).toNat)
          omega
        have hw := own_quot_pos hv' hm hd
        rw [hw, own_zval_rr]
        refine ⟨roundRatio_ne_nan _ _ _ _ _, Int.ofNat_le.mpr (own_mono (by omega) (by omega) ?_)⟩
        have qr := own_qmin hm
        have := own_cross (c := c) (d := d) (M := 1074) (q := e) (r := r) qe qr dge
        rw [show (e' - r - (e' - e)) = e - r by omega, show (e' - e - (e' - r)) = r - e by omega, Nat.mul_assoc, Nat.mul_assoc]
        exact Nat.mul_le_mul_left _ this
    exact dcmp_le.mpr ⟨goal.1, hLn, goal.2⟩
end OwnFP

section OwnPQ
def lmaxW (u v : Int64) : Int64 := if u < v then v else u
theorem own_lmax (x : Int64) : 1 ≤ (lmaxW (1 : Int64) (x &&& (9223372036854775807 : Int64))).toInt := by
  unfold lmaxW
  by_cases h : (1 : Int64) < (x &&& (9223372036854775807 : Int64))
  · rw [if_pos h]; rw [Int64.lt_iff_toInt_lt, show (1 : Int64).toInt = 1 from rfl] at h; omega
  · rw [if_neg h]; decide
theorem own_q0 (b : Int32) : 2 ≤ ((b &&& (1023 : Int32)) + (2 : Int32)).toInt ∧ ((b &&& (1023 : Int32)) + (2 : Int32)).toInt ≤ 1025 := by
  have h1 := c_mask b 1023 10 (by decide) (by decide)
  have h2 := c_iadd (b &&& (1023 : Int32)) 2
  have h3 := Int32.toInt_lt ((b &&& (1023 : Int32)) + (2 : Int32))
  have h4 := Int32.le_toInt ((b &&& (1023 : Int32)) + (2 : Int32))
  rw [show (2 : Int32).toInt = 2 from rfl] at h2
  omega
theorem own_q2 (b : Int32) : (((b &&& (1023 : Int32)) + (2 : Int32)) - (1 : Int32)).toInt = ((b &&& (1023 : Int32)) + (2 : Int32)).toInt - 1 := by
  have h0 := own_q0 b
  have h2 := c_isub ((b &&& (1023 : Int32)) + (2 : Int32)) 1
  have h3 := Int32.toInt_lt (((b &&& (1023 : Int32)) + (2 : Int32)) - (1 : Int32))
  have h4 := Int32.le_toInt (((b &&& (1023 : Int32)) + (2 : Int32)) - (1 : Int32))
  rw [show (1 : Int32).toInt = 1 from rfl] at h2
  omega
theorem own_q1 (b : Int32) : ¬ ((((b &&& (1023 : Int32)) + (2 : Int32)) - (1 : Int32)) = (0 : Int32)) := fun q => by
  have h0 := own_q0 b; have h2 := own_q2 b
  rw [q, show (0 : Int32).toInt = 0 from rfl] at h2; omega
theorem own_pq (a b : Int32) : 1 ≤ (((a &&& (2147483647 : Int32)) % (((b &&& (1023 : Int32)) + (2 : Int32)) - (1 : Int32))) + (1 : Int32)).toInt ∧
    (((a &&& (2147483647 : Int32)) % (((b &&& (1023 : Int32)) + (2 : Int32)) - (1 : Int32))) + (1 : Int32)).toInt < ((b &&& (1023 : Int32)) + (2 : Int32)).toInt ∧ ((b &&& (1023 : Int32)) + (2 : Int32)).toInt ≤ 1025 := by
  have h0 := own_q0 b; have h2 := own_q2 b
  have h1 := c_mask a 2147483647 31 (by decide) (by decide)
  have h3 := (c_iremV (a &&& (2147483647 : Int32)) (((b &&& (1023 : Int32)) + (2 : Int32)) - (1 : Int32))).1 (by omega) (by omega)
  have h5 := c_iadd ((a &&& (2147483647 : Int32)) % (((b &&& (1023 : Int32)) + (2 : Int32)) - (1 : Int32))) 1
  have h6 := Int32.toInt_lt (((a &&& (2147483647 : Int32)) % (((b &&& (1023 : Int32)) + (2 : Int32)) - (1 : Int32))) + (1 : Int32))
  have h7 := Int32.le_toInt (((a &&& (2147483647 : Int32)) % (((b &&& (1023 : Int32)) + (2 : Int32)) - (1 : Int32))) + (1 : Int32))
  rw [show (1 : Int32).toInt = 1 from rfl] at h5
  obtain ⟨g1, g2, -⟩ := h3
  omega
theorem own_nzI {x : Int32} (h : x.toInt ≠ 0) : Jvm.Free.Fl.Nz64 (FP.i2d x) := Jvm.Free.Fl.nz64_core.mpr (fun z => Jvm.FP.Core.i2d_ne_zero (fun q => h (by rw [q]; rfl)) ((Jvm.FP.Core.zero_bits2 _).mp z))
end OwnPQ

theorem d1_0 : decode prog_5_method_1_code 0 = .ok (.aload_n 0, 1) := by decide +kernel
theorem d1_1 : decode prog_5_method_1_code 1 = .ok (.invokespecial 1, 3) := by decide +kernel
theorem d1_4 : decode prog_5_method_1_code 4 = .ok (.dload_n 1, 1) := by decide +kernel
theorem d1_5 : decode prog_5_method_1_code 5 = .ok (.ldc2_w 9, 3) := by decide +kernel
theorem d1_8 : decode prog_5_method_1_code 8 = .ok (.dcmp .l, 1) := by decide +kernel
theorem d1_9 : decode prog_5_method_1_code 9 = .ok (.ifCond .lt 9, 3) := by decide +kernel
theorem d1_12 : decode prog_5_method_1_code 12 = .ok (.dload_n 1, 1) := by decide +kernel
theorem d1_13 : decode prog_5_method_1_code 13 = .ok (.dconst 1, 1) := by decide +kernel
theorem d1_14 : decode prog_5_method_1_code 14 = .ok (.dcmp .g, 1) := by decide +kernel
theorem d1_15 : decode prog_5_method_1_code 15 = .ok (.ifCond .lt 17, 3) := by decide +kernel
theorem d1_32 : decode prog_5_method_1_code 32 = .ok (.aload_n 0, 1) := by decide +kernel
theorem d1_33 : decode prog_5_method_1_code 33 = .ok (.dload_n 1, 1) := by decide +kernel
theorem d1_34 : decode prog_5_method_1_code 34 = .ok (.putfield 20, 3) := by decide +kernel
theorem d1_37 : decode prog_5_method_1_code 37 = .ok (.aload_n 0, 1) := by decide +kernel
theorem d1_38 : decode prog_5_method_1_code 38 = .ok (.lload_n 3, 1) := by decide +kernel
theorem d1_39 : decode prog_5_method_1_code 39 = .ok (.putfield 26, 3) := by decide +kernel
theorem d1_42 : decode prog_5_method_1_code 42 = .ok (.return_, 1) := by decide +kernel
set_option maxRecDepth 65536 in
set_option maxHeartbeats 40000000 in
theorem w1 {p : Program} {l : Launch} {e : Env} {s : State} {m : MethodId} {args : Array Value} {below : List Frame} {meth : Method} {c_ : Code} {T0 : State} {locs : List Loc} {Z : State} {a0 : Array Value} {h0 : Heap} {n0 : Nat} (a : Addr) (v : UInt64) (t : Int64)
    (X0 : Stand p l e ({ frames := 1, cells := 0, slots := 0, locals := 12 } : Room) s m args below meth c_ T0 locs 0 0) (hx : p.tables.exec = Jvm.exec) (hZ : Z.Warmed39 s.vm) (hw : ∀ d ∈ tables_1, d.before a0 Z = true) (hby : c_.code = prog_5_method_1_code) (hml : c_.maxLocals = 5) (hown : s.vm.findClass "com/example/bursty_ranking/burstyranking/JelinekMercerModel" = some m.cls) (hnm : meth.name = "<init>") (hret : meth.sig.returnType = none) (hlk : meth.locks = false) (e0 : T0.heap = h0) (Z0 : n0 ≤ h0.size) (N0 : Fr n0 locs) (E_a : Exa Z h0 a "com/example/bursty_ranking/burstyranking/JelinekMercerModel") (F_lambda_a : Fld Z h0 a "com/example/bursty_ranking/burstyranking/JelinekMercerModel" "lambda" "D" (.double (0 : UInt64))) (F_tokenCount_a : Fld Z h0 a "com/example/bursty_ranking/burstyranking/JelinekMercerModel" "tokenCount" "J" (.long (0 : Int64))) (ge_a : n0 ≤ a) (hlo : FP.dcmp v (4503599627370496 : UInt64) = some .gt) (hhi : FP.dcmp v (4607182418800017408 : UInt64) = some .lt) :
    Go p e below s ({ frames := 1, cells := 0, slots := 0, locals := 12 } : Room).cells ({ frames := 1, cells := 0, slots := 0, locals := 12 } : Room).slots (fun r h L => r = none ∧ Fr n0 L ∧ Keep h0 h [a] ∧ Exa Z h a "com/example/bursty_ranking/burstyranking/JelinekMercerModel" ∧ Fld Z h a "com/example/bursty_ranking/burstyranking/JelinekMercerModel" "lambda" "D" (.double v) ∧ Fld Z h a "com/example/bursty_ranking/burstyranking/JelinekMercerModel" "tokenCount" "J" (.long t)) T0 (mkF m 0 #[.val (.ref a), .val (.double v), .second, .val (.long t), .second] []) := by
  show Go _ _ _ _ _ _ _ T0 (mkF m 0 #[.val (.ref a), .val (.double v), .second, .val (.long t), .second] [])
  refine Go.step (fun _ k => XS.aloadN X0.here hx rfl (hb hby d1_0) rfl rfl k) ?_
  show Go _ _ _ _ _ _ _ T0 (mkF m 1 #[.val (.ref a), .val (.double v), .second, .val (.long t), .second] [(.ref a)])
  obtain ⟨T1, X1, e1, st1⟩ := initO X0 hx hZ hown (hw _ (List.mem_of_getElem? (i := 7) rfl)) (hw _ (List.mem_of_getElem? (i := 8) rfl)) (hw _ (List.mem_of_getElem? (i := 9) rfl)) e0 (g := (mkF m 1 #[.val (.ref a), .val (.double v), .second, .val (.long t), .second] [(.ref a)])) rfl (by rw [hml]; rfl) rfl (hb hby d1_1) (by decide) (W := 0) (by show 2 * 0 + _ ≤ _; exact Nat.le_of_eq rfl) (by decide)
  refine Go.step st1 ?_
  show Go _ _ _ _ _ _ _ T1 (mkF m 4 #[.val (.ref a), .val (.double v), .second, .val (.long t), .second] [])
  refine Go.step (fun _ k => XS.dloadN X1.here hx rfl (hb hby d1_4) rfl k) ?_
  show Go _ _ _ _ _ _ _ T1 (mkF m 5 #[.val (.ref a), .val (.double v), .second, .val (.long t), .second] [(.double v)])
  refine Go.step (X1.ldc2DoubleC hx hown (mvT hZ (hw _ (List.mem_of_getElem? (i := 10) rfl))) (g := (mkF m 5 #[.val (.ref a), .val (.double v), .second, .val (.long t), .second] [(.double v)])) rfl (hb hby d1_5)) ?_
  show Go _ _ _ _ _ _ _ T1 (mkF m 8 #[.val (.ref a), .val (.double v), .second, .val (.long t), .second] [(.double (4503599627370496 : UInt64)), (.double v)])
  refine Go.step (fun _ k => XS.dcmpS X1.here hx rfl (hb hby d1_8) rfl rfl k) ?_
  show Go _ _ _ _ _ _ _ T1 (mkF m 9 #[.val (.ref a), .val (.double v), .second, .val (.long t), .second] [(.int (cmpValue (FP.dcmp v (4503599627370496 : UInt64)) .l))])
  refine Go.step (fun _ k => XS.ifNo X1.here hx rfl (hb hby d1_9) rfl (ge_y (Or.inl hlo)) k) ?_
  show Go _ _ _ _ _ _ _ T1 (mkF m 12 #[.val (.ref a), .val (.double v), .second, .val (.long t), .second] [])
  refine Go.step (fun _ k => XS.dloadN X1.here hx rfl (hb hby d1_12) rfl k) ?_
  show Go _ _ _ _ _ _ _ T1 (mkF m 13 #[.val (.ref a), .val (.double v), .second, .val (.long t), .second] [(.double v)])
  refine Go.step (fun _ k => XS.dconst1 X1.here hx rfl (hb hby d1_13) rfl k) ?_
  show Go _ _ _ _ _ _ _ T1 (mkF m 14 #[.val (.ref a), .val (.double v), .second, .val (.long t), .second] [(.double (4607182418800017408 : UInt64)), (.double v)])
  refine Go.step (fun _ k => XS.dcmpS X1.here hx rfl (hb hby d1_14) rfl rfl k) ?_
  show Go _ _ _ _ _ _ _ T1 (mkF m 15 #[.val (.ref a), .val (.double v), .second, .val (.long t), .second] [(.int (cmpValue (FP.dcmp v (4607182418800017408 : UInt64)) .g))])
  refine Go.step (fun _ k => XS.ifYes X1.here hx rfl (pc0 := 15) (pc' := 32) rfl (hb hby d1_15) rfl (ltT_y hhi) (by decide) (by decide) k) ?_
  show Go _ _ _ _ _ _ _ T1 (mkF m 32 #[.val (.ref a), .val (.double v), .second, .val (.long t), .second] [])
  refine Go.step (fun _ k => XS.aloadN X1.here hx rfl (hb hby d1_32) rfl rfl k) ?_
  show Go _ _ _ _ _ _ _ T1 (mkF m 33 #[.val (.ref a), .val (.double v), .second, .val (.long t), .second] [(.ref a)])
  refine Go.step (fun _ k => XS.dloadN X1.here hx rfl (hb hby d1_33) rfl k) ?_
  show Go _ _ _ _ _ _ _ T1 (mkF m 34 #[.val (.ref a), .val (.double v), .second, .val (.long t), .second] [(.double v), (.ref a)])
  obtain ⟨T2, h2, X2, e2, W2, st2⟩ := putF X1 hx hZ hown (host := "") (Or.inl (hw _ (List.mem_of_getElem? (i := 11) rfl))) Via.refl e1 F_lambda_a E_a (Or.inr ⟨(hw _ (List.mem_of_getElem? (i := 12) rfl)), rfl, hnm⟩) (hw _ (List.mem_of_getElem? (i := 2) rfl)) (ty := .double) (by decide) rfl rfl (g := (mkF m 34 #[.val (.ref a), .val (.double v), .second, .val (.long t), .second] [(.double v), (.ref a)])) rfl rfl (hb hby d1_34)
  refine Go.step st2 ?_
  have N2 := Fr.snoc X2 N0 ge_a
  have F_lambda_a_2 := F_lambda_a.same W2
  have E_a_2 := E_a.wr W2
  have F_tokenCount_a_2 := F_tokenCount_a.other W2 (Or.inr (slot_ne (Or.inr (hw _ (List.mem_of_getElem? (i := 14) rfl))) (Or.inr (hw _ (List.mem_of_getElem? (i := 12) rfl))) (by decide) (t := .long) (t' := .double) (by decide) (by decide)))
  have K2 : Keep h0 h2 [a] := (Keep.refl h0 [a]).wr W2 (Or.inl (List.mem_of_getElem? (i := 0) rfl))
  show Go _ _ _ _ _ _ _ T2 (mkF m 37 #[.val (.ref a), .val (.double v), .second, .val (.long t), .second] [])
  refine Go.step (fun _ k => XS.aloadN X2.here hx rfl (hb hby d1_37) rfl rfl k) ?_
  show Go _ _ _ _ _ _ _ T2 (mkF m 38 #[.val (.ref a), .val (.double v), .second, .val (.long t), .second] [(.ref a)])
  refine Go.step (fun _ k => XS.lloadN X2.here hx rfl (hb hby d1_38) rfl k) ?_
  show Go _ _ _ _ _ _ _ T2 (mkF m 39 #[.val (.ref a), .val (.double v), .second, .val (.long t), .second] [(.long t), (.ref a)])
  obtain ⟨T3, h3, X3, e3, W3, st3⟩ := putF X2 hx hZ hown (host := "") (Or.inl (hw _ (List.mem_of_getElem? (i := 13) rfl))) Via.refl e2 F_tokenCount_a_2 E_a_2 (Or.inr ⟨(hw _ (List.mem_of_getElem? (i := 14) rfl)), rfl, hnm⟩) (hw _ (List.mem_of_getElem? (i := 2) rfl)) (ty := .long) (by decide) rfl rfl (g := (mkF m 39 #[.val (.ref a), .val (.double v), .second, .val (.long t), .second] [(.long t), (.ref a)])) rfl rfl (hb hby d1_39)
  refine Go.step st3 ?_
  have N3 := Fr.snoc X3 N2 ge_a
  have F_tokenCount_a_3 := F_tokenCount_a_2.same W3
  have E_a_3 := E_a_2.wr W3
  have F_lambda_a_3 := F_lambda_a_2.other W3 (Or.inr (slot_ne (Or.inr (hw _ (List.mem_of_getElem? (i := 12) rfl))) (Or.inr (hw _ (List.mem_of_getElem? (i := 14) rfl))) (by decide) (t := .double) (t' := .long) (by decide) (by decide)))
  have K3 : Keep h0 h3 [a] := K2.wr W3 (Or.inl (List.mem_of_getElem? (i := 0) rfl))
  show Go _ _ _ _ _ _ _ T3 (mkF m 42 #[.val (.ref a), .val (.double v), .second, .val (.long t), .second] [])
  refine Go.retV X3 hx hlk hret (hb hby d1_42) (by decide) (by decide) ?_
  try rw [e3]
  exact ⟨rfl, N3, K3, E_a_3, F_lambda_a_3, F_tokenCount_a_3⟩
theorem pn_1 : plainName "com/example/bursty_ranking/burstyranking/JelinekMercerModel" = true := by first | (simp [plainName, overriddenIn]; done) | decide +kernel
theorem ef_rm1 (m : MethodId) (a : Addr) (v : UInt64) (t : Int64) : entryFrame m #[(.ref a), (.double v), (.long t)] 5 = mkF m 0 #[.val (.ref a), .val (.double v), .second, .val (.long t), .second] [] := by first | (simp [entryFrame, mkF, argsToLocals, Value.category]; done) | rfl
theorem rm1 (l : Launch) (Z : State) (a0 : Array Value) (hw : ∀ d ∈ tables_1, d.before a0 Z = true) (a : Addr) (v : UInt64) (t : Int64) (h0 : Heap) (n0 : Nat) (Z0 : n0 ≤ h0.size) (E_a : Exa Z h0 a "com/example/bursty_ranking/burstyranking/JelinekMercerModel") (F_lambda_a : Fld Z h0 a "com/example/bursty_ranking/burstyranking/JelinekMercerModel" "lambda" "D" (.double (0 : UInt64))) (F_tokenCount_a : Fld Z h0 a "com/example/bursty_ranking/burstyranking/JelinekMercerModel" "tokenCount" "J" (.long (0 : Int64))) (ge_a : n0 ≤ a) (hlo : FP.dcmp v (4503599627370496 : UInt64) = some .gt) (hhi : FP.dcmp v (4607182418800017408 : UInt64) = some .lt) :
    Con l Z (⟨"com/example/bursty_ranking/burstyranking/JelinekMercerModel", "<init>", "(DJ)V"⟩ : MethodName) prog_5_method_1_code 5 none ({ frames := 1, cells := 0, slots := 0, locals := 12 } : Room) #[(.ref a), (.double v), (.long t)] h0 (fun r h L => r = none ∧ Fr n0 L ∧ Keep h0 h [a] ∧ Exa Z h a "com/example/bursty_ranking/burstyranking/JelinekMercerModel" ∧ Fld Z h a "com/example/bursty_ranking/burstyranking/JelinekMercerModel" "lambda" "D" (.double v) ∧ Fld Z h a "com/example/bursty_ranking/burstyranking/JelinekMercerModel" "tokenCount" "J" (.long t)) :=
  con_of (plainFor_of_name pn_1) (fun p_ e_ s_ m_ b_ meth_ c_ T_ X_ hx hZ hby hml hown hnm hret hlk e0 => Go.cast (ef_rm1 m_ a v t) (w1 a v t X_ hx hZ hw hby hml hown hnm hret hlk e0 Z0 (Fr.nil n0) E_a F_lambda_a F_tokenCount_a ge_a hlo hhi))
theorem d5_0 : decode prog_5_method_5_code 0 = .ok (.dconst 1, 1) := by decide +kernel
theorem d5_1 : decode prog_5_method_5_code 1 = .ok (.aload_n 0, 1) := by decide +kernel
theorem d5_2 : decode prog_5_method_5_code 2 = .ok (.getfield 20, 3) := by decide +kernel
theorem d5_5 : decode prog_5_method_5_code 5 = .ok (.dsub, 1) := by decide +kernel
theorem d5_6 : decode prog_5_method_5_code 6 = .ok (.aload_n 0, 1) := by decide +kernel
theorem d5_7 : decode prog_5_method_5_code 7 = .ok (.getfield 20, 3) := by decide +kernel
theorem d5_10 : decode prog_5_method_5_code 10 = .ok (.lload_n 1, 1) := by decide +kernel
theorem d5_11 : decode prog_5_method_5_code 11 = .ok (.l2d, 1) := by decide +kernel
theorem d5_12 : decode prog_5_method_5_code 12 = .ok (.dmul, 1) := by decide +kernel
theorem d5_13 : decode prog_5_method_5_code 13 = .ok (.ddiv, 1) := by decide +kernel
theorem d5_14 : decode prog_5_method_5_code 14 = .ok (.dreturn, 1) := by decide +kernel
set_option maxRecDepth 65536 in
set_option maxHeartbeats 40000000 in
theorem w3 {p : Program} {l : Launch} {e : Env} {s : State} {m : MethodId} {args : Array Value} {below : List Frame} {meth : Method} {c_ : Code} {T0 : State} {locs : List Loc} {Z : State} {a0 : Array Value} {h0 : Heap} {n0 : Nat} (a : Addr) (d : Int64) (dd : Int64) (v : UInt64)
    (X0 : Stand p l e ({ frames := 0, cells := 0, slots := 0, locals := 0 } : Room) s m args below meth c_ T0 locs 0 0) (hx : p.tables.exec = Jvm.exec) (hZ : Z.Warmed39 s.vm) (hw : ∀ d ∈ tables_1, d.before a0 Z = true) (hby : c_.code = prog_5_method_5_code) (hml : c_.maxLocals = 5) (hown : s.vm.findClass "com/example/bursty_ranking/burstyranking/JelinekMercerModel" = some m.cls) (hnm : meth.name = "termFreqWeight") (hret : meth.sig.returnType = some .double) (hlk : meth.locks = false) (e0 : T0.heap = h0) (Z0 : n0 ≤ h0.size) (N0 : Fr n0 locs) (F_lambda_a : Fld Z h0 a "com/example/bursty_ranking/burstyranking/JelinekMercerModel" "lambda" "D" (.double v)) (hn1 : Jvm.Free.Fl.NoNaN64 (FP.dsub (4607182418800017408 : UInt64) v)) (hn2 : Jvm.Free.Fl.NoNaN64 (FP.dmul v (FP.l2d d))) (hn3 : Jvm.Free.Fl.NoNaN64 (FP.ddiv (FP.dsub (4607182418800017408 : UInt64) v) (FP.dmul v (FP.l2d d)))) :
    Go p e below s ({ frames := 0, cells := 0, slots := 0, locals := 0 } : Room).cells ({ frames := 0, cells := 0, slots := 0, locals := 0 } : Room).slots (fun r h L => r = some (.double (FP.ddiv (FP.dsub (4607182418800017408 : UInt64) v) (FP.dmul v (FP.l2d d)))) ∧ Fr n0 L ∧ h = h0) T0 (mkF m 0 #[.val (.ref a), .val (.long d), .second, .val (.long dd), .second] []) := by
  show Go _ _ _ _ _ _ _ T0 (mkF m 0 #[.val (.ref a), .val (.long d), .second, .val (.long dd), .second] [])
  refine Go.step (fun _ k => XS.dconst1 X0.here hx rfl (hb hby d5_0) rfl k) ?_
  show Go _ _ _ _ _ _ _ T0 (mkF m 1 #[.val (.ref a), .val (.long d), .second, .val (.long dd), .second] [(.double (4607182418800017408 : UInt64))])
  refine Go.step (fun _ k => XS.aloadN X0.here hx rfl (hb hby d5_1) rfl rfl k) ?_
  show Go _ _ _ _ _ _ _ T0 (mkF m 2 #[.val (.ref a), .val (.long d), .second, .val (.long dd), .second] [(.ref a), (.double (4607182418800017408 : UInt64))])
  obtain ⟨T1, X1, e1, st1⟩ := getF X0 hx hZ hown (host := "") (Or.inl (hw _ (List.mem_of_getElem? (i := 11) rfl))) Via.refl e0 F_lambda_a (g := (mkF m 2 #[.val (.ref a), .val (.long d), .second, .val (.long dd), .second] [(.ref a), (.double (4607182418800017408 : UInt64))])) rfl rfl (hb hby d5_2)
  refine Go.step st1 ?_
  show Go _ _ _ _ _ _ _ T1 (mkF m 5 #[.val (.ref a), .val (.long d), .second, .val (.long dd), .second] [(.double v), (.double (4607182418800017408 : UInt64))])
  refine Go.step (fun _ k => XS.dsubS X1.here hx rfl (hb hby d5_5) rfl hn1 rfl k) ?_
  show Go _ _ _ _ _ _ _ T1 (mkF m 6 #[.val (.ref a), .val (.long d), .second, .val (.long dd), .second] [(.double (FP.dsub (4607182418800017408 : UInt64) v))])
  refine Go.step (fun _ k => XS.aloadN X1.here hx rfl (hb hby d5_6) rfl rfl k) ?_
  show Go _ _ _ _ _ _ _ T1 (mkF m 7 #[.val (.ref a), .val (.long d), .second, .val (.long dd), .second] [(.ref a), (.double (FP.dsub (4607182418800017408 : UInt64) v))])
  obtain ⟨T2, X2, e2, st2⟩ := getF X1 hx hZ hown (host := "") (Or.inl (hw _ (List.mem_of_getElem? (i := 11) rfl))) Via.refl e1 F_lambda_a (g := (mkF m 7 #[.val (.ref a), .val (.long d), .second, .val (.long dd), .second] [(.ref a), (.double (FP.dsub (4607182418800017408 : UInt64) v))])) rfl rfl (hb hby d5_7)
  refine Go.step st2 ?_
  show Go _ _ _ _ _ _ _ T2 (mkF m 10 #[.val (.ref a), .val (.long d), .second, .val (.long dd), .second] [(.double v), (.double (FP.dsub (4607182418800017408 : UInt64) v))])
  refine Go.step (fun _ k => XS.lloadN X2.here hx rfl (hb hby d5_10) rfl k) ?_
  show Go _ _ _ _ _ _ _ T2 (mkF m 11 #[.val (.ref a), .val (.long d), .second, .val (.long dd), .second] [(.long d), (.double v), (.double (FP.dsub (4607182418800017408 : UInt64) v))])
  refine Go.step (fun _ k => XS.l2dS X2.here hx rfl (hb hby d5_11) rfl rfl k) ?_
  show Go _ _ _ _ _ _ _ T2 (mkF m 12 #[.val (.ref a), .val (.long d), .second, .val (.long dd), .second] [(.double (FP.l2d d)), (.double v), (.double (FP.dsub (4607182418800017408 : UInt64) v))])
  refine Go.step (fun _ k => XS.dmulS X2.here hx rfl (hb hby d5_12) rfl hn2 rfl k) ?_
  show Go _ _ _ _ _ _ _ T2 (mkF m 13 #[.val (.ref a), .val (.long d), .second, .val (.long dd), .second] [(.double (FP.dmul v (FP.l2d d))), (.double (FP.dsub (4607182418800017408 : UInt64) v))])
  refine Go.step (fun _ k => XS.ddivS X2.here hx rfl (hb hby d5_13) rfl hn3 rfl k) ?_
  show Go _ _ _ _ _ _ _ T2 (mkF m 14 #[.val (.ref a), .val (.long d), .second, .val (.long dd), .second] [(.double (FP.ddiv (FP.dsub (4607182418800017408 : UInt64) v) (FP.dmul v (FP.l2d d))))])
  refine Go.retD X2 hx hlk hret (hb hby d5_14) (by decide) (by decide) ?_
  try rw [e2]
  exact ⟨rfl, N0, rfl⟩
theorem ef_rm3 (m : MethodId) (a : Addr) (d : Int64) (dd : Int64) : entryFrame m #[(.ref a), (.long d), (.long dd)] 5 = mkF m 0 #[.val (.ref a), .val (.long d), .second, .val (.long dd), .second] [] := by first | (simp [entryFrame, mkF, argsToLocals, Value.category]; done) | rfl
theorem rm3 (l : Launch) (Z : State) (a0 : Array Value) (hw : ∀ d ∈ tables_1, d.before a0 Z = true) (a : Addr) (d : Int64) (dd : Int64) (v : UInt64) (h0 : Heap) (n0 : Nat) (Z0 : n0 ≤ h0.size) (F_lambda_a : Fld Z h0 a "com/example/bursty_ranking/burstyranking/JelinekMercerModel" "lambda" "D" (.double v)) (hn1 : Jvm.Free.Fl.NoNaN64 (FP.dsub (4607182418800017408 : UInt64) v)) (hn2 : Jvm.Free.Fl.NoNaN64 (FP.dmul v (FP.l2d d))) (hn3 : Jvm.Free.Fl.NoNaN64 (FP.ddiv (FP.dsub (4607182418800017408 : UInt64) v) (FP.dmul v (FP.l2d d)))) :
    Con l Z (⟨"com/example/bursty_ranking/burstyranking/JelinekMercerModel", "termFreqWeight", "(JJ)D"⟩ : MethodName) prog_5_method_5_code 5 (some .double) ({ frames := 0, cells := 0, slots := 0, locals := 0 } : Room) #[(.ref a), (.long d), (.long dd)] h0 (fun r h L => r = some (.double (FP.ddiv (FP.dsub (4607182418800017408 : UInt64) v) (FP.dmul v (FP.l2d d)))) ∧ Fr n0 L ∧ h = h0) :=
  con_of (plainFor_of_name pn_1) (fun p_ e_ s_ m_ b_ meth_ c_ T_ X_ hx hZ hby hml hown hnm hret hlk e0 => Go.cast (ef_rm3 m_ a d dd) (w3 a d dd v X_ hx hZ hw hby hml hown hnm hret hlk e0 Z0 (Fr.nil n0) F_lambda_a hn1 hn2 hn3))
theorem d3_0 : decode prog_5_method_7_code 0 = .ok (.dconst 1, 1) := by decide +kernel
theorem d3_1 : decode prog_5_method_7_code 1 = .ok (.aload_n 0, 1) := by decide +kernel
theorem d3_2 : decode prog_5_method_7_code 2 = .ok (.getfield 20, 3) := by decide +kernel
theorem d3_5 : decode prog_5_method_7_code 5 = .ok (.dsub, 1) := by decide +kernel
theorem d3_6 : decode prog_5_method_7_code 6 = .ok (.aload_n 0, 1) := by decide +kernel
theorem d3_7 : decode prog_5_method_7_code 7 = .ok (.getfield 20, 3) := by decide +kernel
theorem d3_10 : decode prog_5_method_7_code 10 = .ok (.ddiv, 1) := by decide +kernel
theorem d3_11 : decode prog_5_method_7_code 11 = .ok (.dreturn, 1) := by decide +kernel
set_option maxRecDepth 65536 in
set_option maxHeartbeats 40000000 in
theorem w3b {p : Program} {l : Launch} {e : Env} {s : State} {m : MethodId} {args : Array Value} {below : List Frame} {meth : Method} {c_ : Code} {T0 : State} {locs : List Loc} {Z : State} {a0 : Array Value} {h0 : Heap} {n0 : Nat} (a : Addr) (v : UInt64)
    (X0 : Stand p l e ({ frames := 0, cells := 0, slots := 0, locals := 0 } : Room) s m args below meth c_ T0 locs 0 0) (hx : p.tables.exec = Jvm.exec) (hZ : Z.Warmed39 s.vm) (hw : ∀ d ∈ tables_1, d.before a0 Z = true) (hby : c_.code = prog_5_method_7_code) (hml : c_.maxLocals = 1) (hown : s.vm.findClass "com/example/bursty_ranking/burstyranking/JelinekMercerModel" = some m.cls) (hnm : meth.name = "largestTermFreqWeight") (hret : meth.sig.returnType = some .double) (hlk : meth.locks = false) (e0 : T0.heap = h0) (Z0 : n0 ≤ h0.size) (N0 : Fr n0 locs) (F_lambda_a : Fld Z h0 a "com/example/bursty_ranking/burstyranking/JelinekMercerModel" "lambda" "D" (.double v)) (hn1 : Jvm.Free.Fl.NoNaN64 (FP.dsub (4607182418800017408 : UInt64) v)) (hn3 : Jvm.Free.Fl.NoNaN64 (FP.ddiv (FP.dsub (4607182418800017408 : UInt64) v) v)) :
    Go p e below s ({ frames := 0, cells := 0, slots := 0, locals := 0 } : Room).cells ({ frames := 0, cells := 0, slots := 0, locals := 0 } : Room).slots (fun r h L => r = some (.double (FP.ddiv (FP.dsub (4607182418800017408 : UInt64) v) v)) ∧ Fr n0 L ∧ h = h0) T0 (mkF m 0 #[.val (.ref a)] []) := by
  show Go _ _ _ _ _ _ _ T0 (mkF m 0 #[.val (.ref a)] [])
  refine Go.step (fun _ k => XS.dconst1 X0.here hx rfl (hb hby d3_0) rfl k) ?_
  show Go _ _ _ _ _ _ _ T0 (mkF m 1 #[.val (.ref a)] [(.double (4607182418800017408 : UInt64))])
  refine Go.step (fun _ k => XS.aloadN X0.here hx rfl (hb hby d3_1) rfl rfl k) ?_
  show Go _ _ _ _ _ _ _ T0 (mkF m 2 #[.val (.ref a)] [(.ref a), (.double (4607182418800017408 : UInt64))])
  obtain ⟨T1, X1, e1, st1⟩ := getF X0 hx hZ hown (host := "") (Or.inl (hw _ (List.mem_of_getElem? (i := 11) rfl))) Via.refl e0 F_lambda_a (g := (mkF m 2 #[.val (.ref a)] [(.ref a), (.double (4607182418800017408 : UInt64))])) rfl rfl (hb hby d3_2)
  refine Go.step st1 ?_
  show Go _ _ _ _ _ _ _ T1 (mkF m 5 #[.val (.ref a)] [(.double v), (.double (4607182418800017408 : UInt64))])
  refine Go.step (fun _ k => XS.dsubS X1.here hx rfl (hb hby d3_5) rfl hn1 rfl k) ?_
  show Go _ _ _ _ _ _ _ T1 (mkF m 6 #[.val (.ref a)] [(.double (FP.dsub (4607182418800017408 : UInt64) v))])
  refine Go.step (fun _ k => XS.aloadN X1.here hx rfl (hb hby d3_6) rfl rfl k) ?_
  show Go _ _ _ _ _ _ _ T1 (mkF m 7 #[.val (.ref a)] [(.ref a), (.double (FP.dsub (4607182418800017408 : UInt64) v))])
  obtain ⟨T2, X2, e2, st2⟩ := getF X1 hx hZ hown (host := "") (Or.inl (hw _ (List.mem_of_getElem? (i := 11) rfl))) Via.refl e1 F_lambda_a (g := (mkF m 7 #[.val (.ref a)] [(.ref a), (.double (FP.dsub (4607182418800017408 : UInt64) v))])) rfl rfl (hb hby d3_7)
  refine Go.step st2 ?_
  show Go _ _ _ _ _ _ _ T2 (mkF m 10 #[.val (.ref a)] [(.double v), (.double (FP.dsub (4607182418800017408 : UInt64) v))])
  refine Go.step (fun _ k => XS.ddivS X2.here hx rfl (hb hby d3_10) rfl hn3 rfl k) ?_
  show Go _ _ _ _ _ _ _ T2 (mkF m 11 #[.val (.ref a)] [(.double (FP.ddiv (FP.dsub (4607182418800017408 : UInt64) v) v))])
  refine Go.retD X2 hx hlk hret (hb hby d3_11) (by decide) (by decide) ?_
  try rw [e2]
  exact ⟨rfl, N0, rfl⟩
theorem ef_rm3b (m : MethodId) (a : Addr) : entryFrame m #[(.ref a)] 1 = mkF m 0 #[.val (.ref a)] [] := by first | (simp [entryFrame, mkF, argsToLocals, Value.category]; done) | rfl
theorem rm3b (l : Launch) (Z : State) (a0 : Array Value) (hw : ∀ d ∈ tables_1, d.before a0 Z = true) (a : Addr) (v : UInt64) (h0 : Heap) (n0 : Nat) (Z0 : n0 ≤ h0.size) (F_lambda_a : Fld Z h0 a "com/example/bursty_ranking/burstyranking/JelinekMercerModel" "lambda" "D" (.double v)) (hn1 : Jvm.Free.Fl.NoNaN64 (FP.dsub (4607182418800017408 : UInt64) v)) (hn3 : Jvm.Free.Fl.NoNaN64 (FP.ddiv (FP.dsub (4607182418800017408 : UInt64) v) v)) :
    Con l Z (⟨"com/example/bursty_ranking/burstyranking/JelinekMercerModel", "largestTermFreqWeight", "()D"⟩ : MethodName) prog_5_method_7_code 1 (some .double) ({ frames := 0, cells := 0, slots := 0, locals := 0 } : Room) #[(.ref a)] h0 (fun r h L => r = some (.double (FP.ddiv (FP.dsub (4607182418800017408 : UInt64) v) v)) ∧ Fr n0 L ∧ h = h0) :=
  con_of (plainFor_of_name pn_1) (fun p_ e_ s_ m_ b_ meth_ c_ T_ X_ hx hZ hby hml hown hnm hret hlk e0 => Go.cast (ef_rm3b m_ a) (w3b a v X_ hx hZ hw hby hml hown hnm hret hlk e0 Z0 (Fr.nil n0) F_lambda_a hn1 hn3))
theorem d4_0 : decode jdk_29_method_66_code 0 = .ok (.lload_n 0, 1) := by decide +kernel
theorem d4_1 : decode jdk_29_method_66_code 1 = .ok (.lload_n 2, 1) := by decide +kernel
theorem d4_2 : decode jdk_29_method_66_code 2 = .ok (.lcmp, 1) := by decide +kernel
theorem d4_3 : decode jdk_29_method_66_code 3 = .ok (.ifCond .lt 7, 3) := by decide +kernel
theorem d4_10 : decode jdk_29_method_66_code 10 = .ok (.lload_n 2, 1) := by decide +kernel
theorem d4_11 : decode jdk_29_method_66_code 11 = .ok (.lreturn, 1) := by decide +kernel
theorem d4_6 : decode jdk_29_method_66_code 6 = .ok (.lload_n 0, 1) := by decide +kernel
theorem d4_7 : decode jdk_29_method_66_code 7 = .ok (.goto 4, 3) := by decide +kernel
set_option maxRecDepth 65536 in
set_option maxHeartbeats 40000000 in
theorem w4 {p : Program} {l : Launch} {e : Env} {s : State} {m : MethodId} {args : Array Value} {below : List Frame} {meth : Method} {c_ : Code} {T0 : State} {locs : List Loc} {Z : State} {a0 : Array Value} {h0 : Heap} {n0 : Nat} (u : Int64) (v : Int64)
    (X0 : Stand p l e ({ frames := 0, cells := 0, slots := 0, locals := 0 } : Room) s m args below meth c_ T0 locs 0 0) (hx : p.tables.exec = Jvm.exec) (hZ : Z.Warmed39 s.vm) (hw : ∀ d ∈ tables_1, d.before a0 Z = true) (hby : c_.code = jdk_29_method_66_code) (hml : c_.maxLocals = 4) (hown : s.vm.findClass "java/lang/Math" = some m.cls) (hnm : meth.name = "max") (hret : meth.sig.returnType = some .long) (hlk : meth.locks = false) (e0 : T0.heap = h0) (Z0 : n0 ≤ h0.size) (N0 : Fr n0 locs)  :
    Go p e below s ({ frames := 0, cells := 0, slots := 0, locals := 0 } : Room).cells ({ frames := 0, cells := 0, slots := 0, locals := 0 } : Room).slots (fun r h L => r = some (.long (lmaxW u v)) ∧ Fr n0 L ∧ h = h0) T0 (mkF m 0 #[.val (.long u), .second, .val (.long v), .second] []) := by
  show Go _ _ _ _ _ _ _ T0 (mkF m 0 #[.val (.long u), .second, .val (.long v), .second] [])
  refine Go.step (fun _ k => XS.lloadN X0.here hx rfl (hb hby d4_0) rfl k) ?_
  show Go _ _ _ _ _ _ _ T0 (mkF m 1 #[.val (.long u), .second, .val (.long v), .second] [(.long u)])
  refine Go.step (fun _ k => XS.lloadN X0.here hx rfl (hb hby d4_1) rfl k) ?_
  show Go _ _ _ _ _ _ _ T0 (mkF m 2 #[.val (.long u), .second, .val (.long v), .second] [(.long v), (.long u)])
  refine Go.step (fun _ k => XS.lcmp X0.here hx rfl (hb hby d4_2) rfl k) ?_
  show Go _ _ _ _ _ _ _ T0 (mkF m 3 #[.val (.long u), .second, .val (.long v), .second] [(.int (lcmpW u v))])
  by_cases hc3_1 : u < v
  · refine Go.step (fun _ k => XS.ifYes X0.here hx rfl (pc0 := 3) (pc' := 10) rfl (hb hby d4_3) rfl ((if0 _ _).trans (tlt ((lw_lt u v).mpr hc3_1)).1) (by decide) (by decide) k) ?_
    show Go _ _ _ _ _ _ _ T0 (mkF m 10 #[.val (.long u), .second, .val (.long v), .second] [])
    refine Go.step (fun _ k => XS.lloadN X0.here hx rfl (hb hby d4_10) rfl k) ?_
    show Go _ _ _ _ _ _ _ T0 (mkF m 11 #[.val (.long u), .second, .val (.long v), .second] [(.long v)])
    refine Go.retJ X0 hx hlk hret (hb hby d4_11) (by decide) (by decide) ?_
    try rw [e0]
    exact ⟨by simp only [lmaxW]; rw [if_pos hc3_1], N0, rfl⟩
  · refine Go.step (fun _ k => XS.ifNo X0.here hx rfl (hb hby d4_3) rfl ((if0 _ _).trans (flt (fun q => hc3_1 ((lw_lt u v).mp q))).1) k) ?_
    show Go _ _ _ _ _ _ _ T0 (mkF m 6 #[.val (.long u), .second, .val (.long v), .second] [])
    refine Go.step (fun _ k => XS.lloadN X0.here hx rfl (hb hby d4_6) rfl k) ?_
    show Go _ _ _ _ _ _ _ T0 (mkF m 7 #[.val (.long u), .second, .val (.long v), .second] [(.long u)])
    refine Go.step (fun _ k => XS.goto X0.here hx rfl (pc0 := 7) (pc' := 11) rfl (hb hby d4_7) (by decide) (by decide) k) ?_
    show Go _ _ _ _ _ _ _ T0 (mkF m 11 #[.val (.long u), .second, .val (.long v), .second] [(.long u)])
    refine Go.retJ X0 hx hlk hret (hb hby d4_11) (by decide) (by decide) ?_
    try rw [e0]
    exact ⟨by simp only [lmaxW]; rw [if_neg hc3_1], N0, rfl⟩
theorem ef_rm4 (m : MethodId) (u : Int64) (v : Int64) : entryFrame m #[(.long u), (.long v)] 4 = mkF m 0 #[.val (.long u), .second, .val (.long v), .second] [] := by first | (simp [entryFrame, mkF, argsToLocals, Value.category]; done) | rfl
theorem rm4 (l : Launch) (Z : State) (a0 : Array Value) (hw : ∀ d ∈ tables_1, d.before a0 Z = true) (u : Int64) (v : Int64) (h0 : Heap) (n0 : Nat) (Z0 : n0 ≤ h0.size)  :
    Con l Z (⟨"java/lang/Math", "max", "(JJ)J"⟩ : MethodName) jdk_29_method_66_code 4 (some .long) ({ frames := 0, cells := 0, slots := 0, locals := 0 } : Room) #[(.long u), (.long v)] h0 (fun r h L => r = some (.long (lmaxW u v)) ∧ Fr n0 L ∧ h = h0) :=
  con_of (Jvm.Free.JP.mathPlain rfl (by decide +kernel)) (fun p_ e_ s_ m_ b_ meth_ c_ T_ X_ hx hZ hby hml hown hnm hret hlk e0 => Go.cast (ef_rm4 m_ u v) (w4 u v X_ hx hZ hw hby hml hown hnm hret hlk e0 Z0 (Fr.nil n0) ))
theorem pd_0 : parseMethodDescriptor "(DJ)V" = some ⟨[.double, .long], none⟩ := by decide +kernel
theorem pd_1 : parseMethodDescriptor "()D" = some ⟨[], some .double⟩ := by decide +kernel
theorem pd_2 : parseMethodDescriptor "(JJ)J" = some ⟨[.long, .long], some .long⟩ := by decide +kernel
theorem pd_3 : parseMethodDescriptor "(JJ)D" = some ⟨[.long, .long], some .double⟩ := by decide +kernel
set_option maxRecDepth 65536 in
set_option maxHeartbeats 40000000 in
theorem w0 {p : Program} {l : Launch} {e : Env} {s : State} {m : MethodId} {args : Array Value} {below : List Frame} {meth : Method} {c_ : Code} {T0 : State} {locs : List Loc} {Z : State} {a0 : Array Value} {h0 : Heap} {n0 : Nat} (p0 : Int32) (p1 : Int32) (p2 : Int64) (p3 : Int64) (p4 : Int64)
    (X0 : Stand p l e room_1 s m args below meth c_ T0 locs 0 0) (hx : p.tables.exec = Jvm.exec) (hZ : Z.Warmed39 s.vm) (hw : ∀ d ∈ tables_1, d.before a0 Z = true) (hby : c_.code = code) (hml : c_.maxLocals = maxLocals) (hown : s.vm.findClass "com/example/bursty_ranking/burstyranking/JelinekMercerModelLargestTermFreqWeightPinLaw" = some m.cls) (hnm : meth.name = "law") (hret : meth.sig.returnType = ret) (hlk : meth.locks = false) (e0 : T0.heap = h0) (Z0 : n0 ≤ h0.size) (N0 : Fr n0 locs)  :
    Go p e below s room_1.cells room_1.slots (fun r h L => r = some (.int 1) ∧ Fr n0 L) T0 (mkF m 0 #[.val (.int p0), .val (.int p1), .val (.long p2), .second, .val (.long p3), .second, .val (.long p4), .second, .unset, .unset, .unset, .unset, .unset, .unset, .unset, .unset, .unset, .unset, .unset, .unset, .unset] []) := by
  have hret : meth.sig.returnType = some .boolean := hret
  show Go _ _ _ _ _ _ _ T0 (mkF m 0 #[.val (.int p0), .val (.int p1), .val (.long p2), .second, .val (.long p3), .second, .val (.long p4), .second, .unset, .unset, .unset, .unset, .unset, .unset, .unset, .unset, .unset, .unset, .unset, .unset, .unset] [])
  refine Go.step (fun _ k => XS.iloadN X0.here hx rfl (hb hby at_0) rfl k) ?_
  show Go _ _ _ _ _ _ _ T0 (mkF m 1 #[.val (.int p0), .val (.int p1), .val (.long p2), .second, .val (.long p3), .second, .val (.long p4), .second, .unset, .unset, .unset, .unset, .unset, .unset, .unset, .unset, .unset, .unset, .unset, .unset, .unset] [(.int p1)])
  refine Go.step (fun _ k => XS.sipush X0.here hx rfl (hb hby at_1) k) ?_
  show Go _ _ _ _ _ _ _ T0 (mkF m 4 #[.val (.int p0), .val (.int p1), .val (.long p2), .second, .val (.long p3), .second, .val (.long p4), .second, .unset, .unset, .unset, .unset, .unset, .unset, .unset, .unset, .unset, .unset, .unset, .unset, .unset] [(.int (1023 : Int32)), (.int p1)])
  refine Go.step (fun _ k => XS.iand X0.here hx rfl (hb hby at_4) rfl k) ?_
  show Go _ _ _ _ _ _ _ T0 (mkF m 5 #[.val (.int p0), .val (.int p1), .val (.long p2), .second, .val (.long p3), .second, .val (.long p4), .second, .unset, .unset, .unset, .unset, .unset, .unset, .unset, .unset, .unset, .unset, .unset, .unset, .unset] [(.int (p1 &&& (1023 : Int32)))])
  refine Go.step (fun _ k => XS.iconst X0.here hx rfl (hb hby at_5) k) ?_
  show Go _ _ _ _ _ _ _ T0 (mkF m 6 #[.val (.int p0), .val (.int p1), .val (.long p2), .second, .val (.long p3), .second, .val (.long p4), .second, .unset, .unset, .unset, .unset, .unset, .unset, .unset, .unset, .unset, .unset, .unset, .unset, .unset] [(.int (2 : Int32)), (.int (p1 &&& (1023 : Int32)))])
  refine Go.step (fun _ k => XS.iadd X0.here hx rfl (hb hby at_6) rfl k) ?_
  show Go _ _ _ _ _ _ _ T0 (mkF m 7 #[.val (.int p0), .val (.int p1), .val (.long p2), .second, .val (.long p3), .second, .val (.long p4), .second, .unset, .unset, .unset, .unset, .unset, .unset, .unset, .unset, .unset, .unset, .unset, .unset, .unset] [(.int ((p1 &&& (1023 : Int32)) + (2 : Int32)))])
  refine Go.step (fun _ k => XS.istore X0.here hx rfl (hb hby at_7) rfl (l' := #[.val (.int p0), .val (.int p1), .val (.long p2), .second, .val (.long p3), .second, .val (.long p4), .second, .val (.int ((p1 &&& (1023 : Int32)) + (2 : Int32))), .unset, .unset, .unset, .unset, .unset, .unset, .unset, .unset, .unset, .unset, .unset, .unset]) rfl k) ?_
  show Go _ _ _ _ _ _ _ T0 (mkF m 9 #[.val (.int p0), .val (.int p1), .val (.long p2), .second, .val (.long p3), .second, .val (.long p4), .second, .val (.int ((p1 &&& (1023 : Int32)) + (2 : Int32))), .unset, .unset, .unset, .unset, .unset, .unset, .unset, .unset, .unset, .unset, .unset, .unset] [])
  refine Go.step (fun _ k => XS.iloadN X0.here hx rfl (hb hby at_9) rfl k) ?_
  show Go _ _ _ _ _ _ _ T0 (mkF m 10 #[.val (.int p0), .val (.int p1), .val (.long p2), .second, .val (.long p3), .second, .val (.long p4), .second, .val (.int ((p1 &&& (1023 : Int32)) + (2 : Int32))), .unset, .unset, .unset, .unset, .unset, .unset, .unset, .unset, .unset, .unset, .unset, .unset] [(.int p0)])
  refine Go.step (X0.ldcInt hx hown (mvT hZ (hw _ (List.mem_of_getElem? (i := 0) rfl))) (g := (mkF m 10 #[.val (.int p0), .val (.int p1), .val (.long p2), .second, .val (.long p3), .second, .val (.long p4), .second, .val (.int ((p1 &&& (1023 : Int32)) + (2 : Int32))), .unset, .unset, .unset, .unset, .unset, .unset, .unset, .unset, .unset, .unset, .unset, .unset] [(.int p0)])) rfl (hb hby at_10)) ?_
  show Go _ _ _ _ _ _ _ T0 (mkF m 12 #[.val (.int p0), .val (.int p1), .val (.long p2), .second, .val (.long p3), .second, .val (.long p4), .second, .val (.int ((p1 &&& (1023 : Int32)) + (2 : Int32))), .unset, .unset, .unset, .unset, .unset, .unset, .unset, .unset, .unset, .unset, .unset, .unset] [(.int (2147483647 : Int32)), (.int p0)])
  refine Go.step (fun _ k => XS.iand X0.here hx rfl (hb hby at_12) rfl k) ?_
  show Go _ _ _ _ _ _ _ T0 (mkF m 13 #[.val (.int p0), .val (.int p1), .val (.long p2), .second, .val (.long p3), .second, .val (.long p4), .second, .val (.int ((p1 &&& (1023 : Int32)) + (2 : Int32))), .unset, .unset, .unset, .unset, .unset, .unset, .unset, .unset, .unset, .unset, .unset, .unset] [(.int (p0 &&& (2147483647 : Int32)))])
  refine Go.step (fun _ k => XS.iload X0.here hx rfl (hb hby at_13) rfl k) ?_
  show Go _ _ _ _ _ _ _ T0 (mkF m 15 #[.val (.int p0), .val (.int p1), .val (.long p2), .second, .val (.long p3), .second, .val (.long p4), .second, .val (.int ((p1 &&& (1023 : Int32)) + (2 : Int32))), .unset, .unset, .unset, .unset, .unset, .unset, .unset, .unset, .unset, .unset, .unset, .unset] [(.int ((p1 &&& (1023 : Int32)) + (2 : Int32))), (.int (p0 &&& (2147483647 : Int32)))])
  refine Go.step (fun _ k => XS.iconst X0.here hx rfl (hb hby at_15) k) ?_
  show Go _ _ _ _ _ _ _ T0 (mkF m 16 #[.val (.int p0), .val (.int p1), .val (.long p2), .second, .val (.long p3), .second, .val (.long p4), .second, .val (.int ((p1 &&& (1023 : Int32)) + (2 : Int32))), .unset, .unset, .unset, .unset, .unset, .unset, .unset, .unset, .unset, .unset, .unset, .unset] [(.int (1 : Int32)), (.int ((p1 &&& (1023 : Int32)) + (2 : Int32))), (.int (p0 &&& (2147483647 : Int32)))])
  refine Go.step (fun _ k => XS.isub X0.here hx rfl (hb hby at_16) rfl k) ?_
  show Go _ _ _ _ _ _ _ T0 (mkF m 17 #[.val (.int p0), .val (.int p1), .val (.long p2), .second, .val (.long p3), .second, .val (.long p4), .second, .val (.int ((p1 &&& (1023 : Int32)) + (2 : Int32))), .unset, .unset, .unset, .unset, .unset, .unset, .unset, .unset, .unset, .unset, .unset, .unset] [(.int (((p1 &&& (1023 : Int32)) + (2 : Int32)) - (1 : Int32))), (.int (p0 &&& (2147483647 : Int32)))])
  refine Go.step (fun _ k => iremM X0 hx rfl (hb hby at_17) rfl (own_q1 p1) k) ?_
  show Go _ _ _ _ _ _ _ T0 (mkF m 18 #[.val (.int p0), .val (.int p1), .val (.long p2), .second, .val (.long p3), .second, .val (.long p4), .second, .val (.int ((p1 &&& (1023 : Int32)) + (2 : Int32))), .unset, .unset, .unset, .unset, .unset, .unset, .unset, .unset, .unset, .unset, .unset, .unset] [(.int ((p0 &&& (2147483647 : Int32)) % (((p1 &&& (1023 : Int32)) + (2 : Int32)) - (1 : Int32))))])
  refine Go.step (fun _ k => XS.iconst X0.here hx rfl (hb hby at_18) k) ?_
  show Go _ _ _ _ _ _ _ T0 (mkF m 19 #[.val (.int p0), .val (.int p1), .val (.long p2), .second, .val (.long p3), .second, .val (.long p4), .second, .val (.int ((p1 &&& (1023 : Int32)) + (2 : Int32))), .unset, .unset, .unset, .unset, .unset, .unset, .unset, .unset, .unset, .unset, .unset, .unset] [(.int (1 : Int32)), (.int ((p0 &&& (2147483647 : Int32)) % (((p1 &&& (1023 : Int32)) + (2 : Int32)) - (1 : Int32))))])
  refine Go.step (fun _ k => XS.iadd X0.here hx rfl (hb hby at_19) rfl k) ?_
  show Go _ _ _ _ _ _ _ T0 (mkF m 20 #[.val (.int p0), .val (.int p1), .val (.long p2), .second, .val (.long p3), .second, .val (.long p4), .second, .val (.int ((p1 &&& (1023 : Int32)) + (2 : Int32))), .unset, .unset, .unset, .unset, .unset, .unset, .unset, .unset, .unset, .unset, .unset, .unset] [(.int (((p0 &&& (2147483647 : Int32)) % (((p1 &&& (1023 : Int32)) + (2 : Int32)) - (1 : Int32))) + (1 : Int32)))])
  refine Go.step (fun _ k => XS.istore X0.here hx rfl (hb hby at_20) rfl (l' := #[.val (.int p0), .val (.int p1), .val (.long p2), .second, .val (.long p3), .second, .val (.long p4), .second, .val (.int ((p1 &&& (1023 : Int32)) + (2 : Int32))), .val (.int (((p0 &&& (2147483647 : Int32)) % (((p1 &&& (1023 : Int32)) + (2 : Int32)) - (1 : Int32))) + (1 : Int32))), .unset, .unset, .unset, .unset, .unset, .unset, .unset, .unset, .unset, .unset, .unset]) rfl k) ?_
  have own_pq := own_pq p0 p1
  obtain ⟨P, h_P⟩ : ∃ z, z = (((p0 &&& (2147483647 : Int32)) % (((p1 &&& (1023 : Int32)) + (2 : Int32)) - (1 : Int32))) + (1 : Int32)) := ⟨_, rfl⟩
  rw [← h_P]
  obtain ⟨K, h_K⟩ : ∃ z, z = ((p1 &&& (1023 : Int32)) + (2 : Int32)) := ⟨_, rfl⟩
  rw [← h_K]
  simp only [← h_K] at h_P own_pq
  rw [← h_P] at own_pq
  show Go _ _ _ _ _ _ _ T0 (mkF m 22 #[.val (.int p0), .val (.int p1), .val (.long p2), .second, .val (.long p3), .second, .val (.long p4), .second, .val (.int K), .val (.int P), .unset, .unset, .unset, .unset, .unset, .unset, .unset, .unset, .unset, .unset, .unset] [])
  refine Go.step (fun _ k => XS.iload X0.here hx rfl (hb hby at_22) rfl k) ?_
  show Go _ _ _ _ _ _ _ T0 (mkF m 24 #[.val (.int p0), .val (.int p1), .val (.long p2), .second, .val (.long p3), .second, .val (.long p4), .second, .val (.int K), .val (.int P), .unset, .unset, .unset, .unset, .unset, .unset, .unset, .unset, .unset, .unset, .unset] [(.int P)])
  refine Go.step (fun _ k => XS.i2dS X0.here hx rfl (hb hby at_24) rfl rfl k) ?_
  show Go _ _ _ _ _ _ _ T0 (mkF m 25 #[.val (.int p0), .val (.int p1), .val (.long p2), .second, .val (.long p3), .second, .val (.long p4), .second, .val (.int K), .val (.int P), .unset, .unset, .unset, .unset, .unset, .unset, .unset, .unset, .unset, .unset, .unset] [(.double (FP.i2d P))])
  refine Go.step (fun _ k => XS.iload X0.here hx rfl (hb hby at_25) rfl k) ?_
  show Go _ _ _ _ _ _ _ T0 (mkF m 27 #[.val (.int p0), .val (.int p1), .val (.long p2), .second, .val (.long p3), .second, .val (.long p4), .second, .val (.int K), .val (.int P), .unset, .unset, .unset, .unset, .unset, .unset, .unset, .unset, .unset, .unset, .unset] [(.int K), (.double (FP.i2d P))])
  refine Go.step (fun _ k => XS.i2dS X0.here hx rfl (hb hby at_27) rfl rfl k) ?_
  show Go _ _ _ _ _ _ _ T0 (mkF m 28 #[.val (.int p0), .val (.int p1), .val (.long p2), .second, .val (.long p3), .second, .val (.long p4), .second, .val (.int K), .val (.int P), .unset, .unset, .unset, .unset, .unset, .unset, .unset, .unset, .unset, .unset, .unset] [(.double (FP.i2d K)), (.double (FP.i2d P))])
  refine Go.step (fun _ k => XS.ddivS X0.here hx rfl (hb hby at_28) rfl (Jvm.Free.Fl.ddiv_out (Jvm.Free.Fl.i2d_fin _).noNaN (Jvm.Free.Fl.i2d_fin _) (own_nzI (by have := own_pq.2.1; omega))) rfl k) ?_
  show Go _ _ _ _ _ _ _ T0 (mkF m 29 #[.val (.int p0), .val (.int p1), .val (.long p2), .second, .val (.long p3), .second, .val (.long p4), .second, .val (.int K), .val (.int P), .unset, .unset, .unset, .unset, .unset, .unset, .unset, .unset, .unset, .unset, .unset] [(.double (FP.ddiv (FP.i2d P) (FP.i2d K)))])
  refine Go.step (fun _ k => XS.dstore X0.here hx rfl (hb hby at_29) rfl (l' := #[.val (.int p0), .val (.int p1), .val (.long p2), .second, .val (.long p3), .second, .val (.long p4), .second, .val (.int K), .val (.int P), .val (.double (FP.ddiv (FP.i2d P) (FP.i2d K))), .second, .unset, .unset, .unset, .unset, .unset, .unset, .unset, .unset, .unset]) rfl k) ?_
  obtain ⟨lam, h_lam⟩ : ∃ z, z = (FP.ddiv (FP.i2d P) (FP.i2d K)) := ⟨_, rfl⟩
  rw [← h_lam]
  have hk := own_731b P K own_pq.1 own_pq.2.1 own_pq.2.2 lam h_lam
  show Go _ _ _ _ _ _ _ T0 (mkF m 31 #[.val (.int p0), .val (.int p1), .val (.long p2), .second, .val (.long p3), .second, .val (.long p4), .second, .val (.int K), .val (.int P), .val (.double lam), .second, .unset, .unset, .unset, .unset, .unset, .unset, .unset, .unset, .unset] [])
  obtain ⟨T1, h1, X1, e1, E1, A1, D1, -, st1⟩ := newO X0 hx hZ hown (hw _ (List.mem_of_getElem? (i := 1) rfl)) (hw _ (List.mem_of_getElem? (i := 2) rfl)) (hw _ (List.mem_of_getElem? (i := 3) rfl)) e0 (g := (mkF m 31 #[.val (.int p0), .val (.int p1), .val (.long p2), .second, .val (.long p3), .second, .val (.long p4), .second, .val (.int K), .val (.int P), .val (.double lam), .second, .unset, .unset, .unset, .unset, .unset, .unset, .unset, .unset, .unset] [])) rfl (hb hby at_31) (by decide) (by decide)
  obtain ⟨b1, g1⟩ : ∃ z, z = h0.size := ⟨_, rfl⟩
  rw [← g1] at A1 D1 st1
  refine Go.step st1 ?_
  have K1 : Keep h0 h1 [] := (Keep.refl h0 []).ext E1
  have sz_b1 : h0.size ≤ b1 := Nat.le_trans ((Keep.refl h0 []) : Keep h0 h0 []).1 (Nat.le_of_eq g1.symm)
  have ge_b1 : n0 ≤ b1 := Nat.le_trans Z0 sz_b1
  have E_b1 := A1
  have F_lambda_b1 : Fld Z h1 b1 "com/example/bursty_ranking/burstyranking/JelinekMercerModel" "lambda" "D" (.double (0 : UInt64)) := D1 (Or.inr (hw _ (List.mem_of_getElem? (i := 12) rfl))) (ty := .double) (by decide)
  have F_tokenCount_b1 : Fld Z h1 b1 "com/example/bursty_ranking/burstyranking/JelinekMercerModel" "tokenCount" "J" (.long (0 : Int64)) := D1 (Or.inr (hw _ (List.mem_of_getElem? (i := 14) rfl))) (ty := .long) (by decide)
  show Go _ _ _ _ _ _ _ T1 (mkF m 34 #[.val (.int p0), .val (.int p1), .val (.long p2), .second, .val (.long p3), .second, .val (.long p4), .second, .val (.int K), .val (.int P), .val (.double lam), .second, .unset, .unset, .unset, .unset, .unset, .unset, .unset, .unset, .unset] [(.ref b1)])
  refine Go.step (fun _ k => XS.dup X1.here hx rfl (hb hby at_34) rfl rfl k) ?_
  show Go _ _ _ _ _ _ _ T1 (mkF m 35 #[.val (.int p0), .val (.int p1), .val (.long p2), .second, .val (.long p3), .second, .val (.long p4), .second, .val (.int K), .val (.int P), .val (.double lam), .second, .unset, .unset, .unset, .unset, .unset, .unset, .unset, .unset, .unset] [(.ref b1), (.ref b1)])
  refine Go.step (fun _ k => XS.dload X1.here hx rfl (hb hby at_35) rfl k) ?_
  show Go _ _ _ _ _ _ _ T1 (mkF m 37 #[.val (.int p0), .val (.int p1), .val (.long p2), .second, .val (.long p3), .second, .val (.long p4), .second, .val (.int K), .val (.int P), .val (.double lam), .second, .unset, .unset, .unset, .unset, .unset, .unset, .unset, .unset, .unset] [(.double lam), (.ref b1), (.ref b1)])
  refine Go.step (fun _ k => XS.lloadN X1.here hx rfl (hb hby at_37) rfl k) ?_
  show Go _ _ _ _ _ _ _ T1 (mkF m 38 #[.val (.int p0), .val (.int p1), .val (.long p2), .second, .val (.long p3), .second, .val (.long p4), .second, .val (.int K), .val (.int P), .val (.double lam), .second, .unset, .unset, .unset, .unset, .unset, .unset, .unset, .unset, .unset] [(.long p2), (.double lam), (.ref b1), (.ref b1)])
  refine Go.callI X1 hx hZ (by rw [hml]; rfl) (y := (⟨"com/example/bursty_ranking/burstyranking/JelinekMercerModel", "<init>", "(DJ)V"⟩ : MethodName)) (a := b1) (argsL := [(.double lam), (.long p2)]) (rest := [(.ref b1)]) rfl hown (hw _ (List.mem_of_getElem? (i := 4) rfl)) (hw _ (List.mem_of_getElem? (i := 5) rfl)) (hw _ (List.mem_of_getElem? (i := 3) rfl)) (hw _ (List.mem_of_getElem? (i := 6) rfl)) (by decide) (rm1 l Z a0 hw b1 lam p2 h1 n0 (Nat.le_trans Z0 (K1 : Keep h0 h1 []).1) E_b1 F_lambda_b1 F_tokenCount_b1 ge_b1 hk.1 hk.2.1) e1 (hb hby at_38) (lenOf pd_0 rfl) rfl rfl (W := 1) (Nat.le_of_eq rfl) (by decide) (by decide) (by decide) (by decide) ?_
  intro v2 T2 L2 X2 Q2
  obtain ⟨rfl, N2q, Kc2, Ec2, Fc2, Ft2⟩ := Q2
  have N2 := Fr.app N0 N2q
  have E_b1_2 := E_b1.keep Kc2
  have KK2 : Keep h0 T2.heap [] := (K1 : Keep h0 h1 []).trans Kc2 (allS (Or.inr sz_b1) all0)
  show Go _ _ _ _ _ _ _ T2 (mkF m 41 #[.val (.int p0), .val (.int p1), .val (.long p2), .second, .val (.long p3), .second, .val (.long p4), .second, .val (.int K), .val (.int P), .val (.double lam), .second, .unset, .unset, .unset, .unset, .unset, .unset, .unset, .unset, .unset] [(.ref b1)])
  refine Go.step (fun _ k => XS.astore X2.here hx rfl (hb hby at_41) rfl rfl (l' := #[.val (.int p0), .val (.int p1), .val (.long p2), .second, .val (.long p3), .second, .val (.long p4), .second, .val (.int K), .val (.int P), .val (.double lam), .second, .val (.ref b1), .unset, .unset, .unset, .unset, .unset, .unset, .unset, .unset]) rfl k) ?_
  show Go _ _ _ _ _ _ _ T2 (mkF m 43 #[.val (.int p0), .val (.int p1), .val (.long p2), .second, .val (.long p3), .second, .val (.long p4), .second, .val (.int K), .val (.int P), .val (.double lam), .second, .val (.ref b1), .unset, .unset, .unset, .unset, .unset, .unset, .unset, .unset] [])
  refine Go.step (fun _ k => XS.aload X2.here hx rfl (hb hby at_43) rfl rfl k) ?_
  show Go _ _ _ _ _ _ _ T2 (mkF m 45 #[.val (.int p0), .val (.int p1), .val (.long p2), .second, .val (.long p3), .second, .val (.long p4), .second, .val (.int K), .val (.int P), .val (.double lam), .second, .val (.ref b1), .unset, .unset, .unset, .unset, .unset, .unset, .unset, .unset] [(.ref b1)])
  refine Go.callV X2 hx hZ (by rw [hml]; rfl) (y := (⟨"com/example/bursty_ranking/burstyranking/JelinekMercerModel", "largestTermFreqWeight", "()D"⟩ : MethodName)) (z := (⟨"com/example/bursty_ranking/burstyranking/JelinekMercerModel", "largestTermFreqWeight", "()D"⟩ : MethodName)) (a := b1) (argsL := []) (rest := []) hown (hw _ (List.mem_of_getElem? (i := 15) rfl)) (hw _ (List.mem_of_getElem? (i := 16) rfl)) (notFace_of_selects (args := #[]) (mvT hZ (hw _ (List.mem_of_getElem? (i := 18) rfl)))) (hw _ (List.mem_of_getElem? (i := 18) rfl)) (hw _ (List.mem_of_getElem? (i := 17) rfl)) (hw _ (List.mem_of_getElem? (i := 3) rfl)) (hw _ (List.mem_of_getElem? (i := 19) rfl)) (by decide) (rm3b l Z a0 hw b1 lam T2.heap n0 (Nat.le_trans Z0 (KK2 : Keep h0 T2.heap []).1) Fc2 (own_nnF hk.2.2.2.2.1) (Jvm.Free.Fl.ddiv_out (own_nnF hk.2.2.2.2.1) (own_finF hk.2.2.1) (Jvm.Free.Fl.nz64_core.mpr hk.2.2.2.1))) rfl E_b1_2 (hb hby at_45) (lenOf pd_1 rfl) rfl rfl (W := 0) (Nat.le_of_eq rfl) (by decide) (by decide) (by decide) (by decide) ?_
  intro v3 T3 L3 X3 Q3
  obtain ⟨rfl, N3q, hh3⟩ := Q3
  have N3 := Fr.app N2 N3q
  show Go _ _ _ _ _ _ _ T3 (mkF m 48 #[.val (.int p0), .val (.int p1), .val (.long p2), .second, .val (.long p3), .second, .val (.long p4), .second, .val (.int K), .val (.int P), .val (.double lam), .second, .val (.ref b1), .unset, .unset, .unset, .unset, .unset, .unset, .unset, .unset] [(.double (FP.ddiv (FP.dsub (4607182418800017408 : UInt64) lam) lam))])
  refine Go.step (fun _ k => XS.dstore X3.here hx rfl (hb hby at_48) rfl (l' := #[.val (.int p0), .val (.int p1), .val (.long p2), .second, .val (.long p3), .second, .val (.long p4), .second, .val (.int K), .val (.int P), .val (.double lam), .second, .val (.ref b1), .val (.double (FP.ddiv (FP.dsub (4607182418800017408 : UInt64) lam) lam)), .second, .unset, .unset, .unset, .unset, .unset, .unset]) rfl k) ?_
  show Go _ _ _ _ _ _ _ T3 (mkF m 50 #[.val (.int p0), .val (.int p1), .val (.long p2), .second, .val (.long p3), .second, .val (.long p4), .second, .val (.int K), .val (.int P), .val (.double lam), .second, .val (.ref b1), .val (.double (FP.ddiv (FP.dsub (4607182418800017408 : UInt64) lam) lam)), .second, .unset, .unset, .unset, .unset, .unset, .unset] [])
  refine Go.step (fun _ k => XS.lconst X3.here hx rfl (hb hby at_50) k) ?_
  show Go _ _ _ _ _ _ _ T3 (mkF m 51 #[.val (.int p0), .val (.int p1), .val (.long p2), .second, .val (.long p3), .second, .val (.long p4), .second, .val (.int K), .val (.int P), .val (.double lam), .second, .val (.ref b1), .val (.double (FP.ddiv (FP.dsub (4607182418800017408 : UInt64) lam) lam)), .second, .unset, .unset, .unset, .unset, .unset, .unset] [(.long (1 : Int64))])
  refine Go.step (fun _ k => XS.lload X3.here hx rfl (hb hby at_51) rfl k) ?_
  show Go _ _ _ _ _ _ _ T3 (mkF m 53 #[.val (.int p0), .val (.int p1), .val (.long p2), .second, .val (.long p3), .second, .val (.long p4), .second, .val (.int K), .val (.int P), .val (.double lam), .second, .val (.ref b1), .val (.double (FP.ddiv (FP.dsub (4607182418800017408 : UInt64) lam) lam)), .second, .unset, .unset, .unset, .unset, .unset, .unset] [(.long p3), (.long (1 : Int64))])
  refine Go.step (X3.ldc2Long hx hown (mvT hZ (hw _ (List.mem_of_getElem? (i := 20) rfl))) (g := (mkF m 53 #[.val (.int p0), .val (.int p1), .val (.long p2), .second, .val (.long p3), .second, .val (.long p4), .second, .val (.int K), .val (.int P), .val (.double lam), .second, .val (.ref b1), .val (.double (FP.ddiv (FP.dsub (4607182418800017408 : UInt64) lam) lam)), .second, .unset, .unset, .unset, .unset, .unset, .unset] [(.long p3), (.long (1 : Int64))])) rfl (hb hby at_53)) ?_
  show Go _ _ _ _ _ _ _ T3 (mkF m 56 #[.val (.int p0), .val (.int p1), .val (.long p2), .second, .val (.long p3), .second, .val (.long p4), .second, .val (.int K), .val (.int P), .val (.double lam), .second, .val (.ref b1), .val (.double (FP.ddiv (FP.dsub (4607182418800017408 : UInt64) lam) lam)), .second, .unset, .unset, .unset, .unset, .unset, .unset] [(.long (9223372036854775807 : Int64)), (.long p3), (.long (1 : Int64))])
  refine Go.step (fun _ k => XS.land X3.here hx rfl (hb hby at_56) rfl k) ?_
  show Go _ _ _ _ _ _ _ T3 (mkF m 57 #[.val (.int p0), .val (.int p1), .val (.long p2), .second, .val (.long p3), .second, .val (.long p4), .second, .val (.int K), .val (.int P), .val (.double lam), .second, .val (.ref b1), .val (.double (FP.ddiv (FP.dsub (4607182418800017408 : UInt64) lam) lam)), .second, .unset, .unset, .unset, .unset, .unset, .unset] [(.long (p3 &&& (9223372036854775807 : Int64))), (.long (1 : Int64))])
  refine Go.callS X3 hx hZ (by rw [hml]; rfl) (y := (⟨"java/lang/Math", "max", "(JJ)J"⟩ : MethodName)) (argsL := [(.long (1 : Int64)), (.long (p3 &&& (9223372036854775807 : Int64)))]) (rest := []) hown (hw _ (List.mem_of_getElem? (i := 21) rfl)) (hw _ (List.mem_of_getElem? (i := 22) rfl)) (hw _ (List.mem_of_getElem? (i := 23) rfl)) (hw _ (List.mem_of_getElem? (i := 24) rfl)) (by decide) (rm4 l Z a0 hw (1 : Int64) (p3 &&& (9223372036854775807 : Int64)) T2.heap n0 (Nat.le_trans Z0 (KK2 : Keep h0 T2.heap []).1)) hh3 (hb hby at_57) (lenOf pd_2 rfl) rfl rfl (W := 0) (Nat.le_of_eq rfl) (by decide) (by decide) (by decide) (by decide) ?_
  intro v4 T4 L4 X4 Q4
  obtain ⟨rfl, N4q, hh4⟩ := Q4
  have N4 := Fr.app N3 N4q
  show Go _ _ _ _ _ _ _ T4 (mkF m 60 #[.val (.int p0), .val (.int p1), .val (.long p2), .second, .val (.long p3), .second, .val (.long p4), .second, .val (.int K), .val (.int P), .val (.double lam), .second, .val (.ref b1), .val (.double (FP.ddiv (FP.dsub (4607182418800017408 : UInt64) lam) lam)), .second, .unset, .unset, .unset, .unset, .unset, .unset] [(.long (lmaxW (1 : Int64) (p3 &&& (9223372036854775807 : Int64))))])
  refine Go.step (fun _ k => XS.lstore X4.here hx rfl (hb hby at_60) rfl (l' := #[.val (.int p0), .val (.int p1), .val (.long p2), .second, .val (.long p3), .second, .val (.long p4), .second, .val (.int K), .val (.int P), .val (.double lam), .second, .val (.ref b1), .val (.double (FP.ddiv (FP.dsub (4607182418800017408 : UInt64) lam) lam)), .second, .val (.long (lmaxW (1 : Int64) (p3 &&& (9223372036854775807 : Int64)))), .second, .unset, .unset, .unset, .unset]) rfl k) ?_
  have hN := own_lmax p3
  obtain ⟨NN, h_NN⟩ : ∃ z, z = (lmaxW (1 : Int64) (p3 &&& (9223372036854775807 : Int64))) := ⟨_, rfl⟩
  rw [← h_NN]
  rw [← h_NN] at hN
  show Go _ _ _ _ _ _ _ T4 (mkF m 62 #[.val (.int p0), .val (.int p1), .val (.long p2), .second, .val (.long p3), .second, .val (.long p4), .second, .val (.int K), .val (.int P), .val (.double lam), .second, .val (.ref b1), .val (.double (FP.ddiv (FP.dsub (4607182418800017408 : UInt64) lam) lam)), .second, .val (.long NN), .second, .unset, .unset, .unset, .unset] [])
  refine Go.step (fun _ k => XS.aload X4.here hx rfl (hb hby at_62) rfl rfl k) ?_
  show Go _ _ _ _ _ _ _ T4 (mkF m 64 #[.val (.int p0), .val (.int p1), .val (.long p2), .second, .val (.long p3), .second, .val (.long p4), .second, .val (.int K), .val (.int P), .val (.double lam), .second, .val (.ref b1), .val (.double (FP.ddiv (FP.dsub (4607182418800017408 : UInt64) lam) lam)), .second, .val (.long NN), .second, .unset, .unset, .unset, .unset] [(.ref b1)])
  refine Go.step (fun _ k => XS.lconst X4.here hx rfl (hb hby at_64) k) ?_
  show Go _ _ _ _ _ _ _ T4 (mkF m 65 #[.val (.int p0), .val (.int p1), .val (.long p2), .second, .val (.long p3), .second, .val (.long p4), .second, .val (.int K), .val (.int P), .val (.double lam), .second, .val (.ref b1), .val (.double (FP.ddiv (FP.dsub (4607182418800017408 : UInt64) lam) lam)), .second, .val (.long NN), .second, .unset, .unset, .unset, .unset] [(.long (1 : Int64)), (.ref b1)])
  refine Go.step (fun _ k => XS.lload X4.here hx rfl (hb hby at_65) rfl k) ?_
  show Go _ _ _ _ _ _ _ T4 (mkF m 67 #[.val (.int p0), .val (.int p1), .val (.long p2), .second, .val (.long p3), .second, .val (.long p4), .second, .val (.int K), .val (.int P), .val (.double lam), .second, .val (.ref b1), .val (.double (FP.ddiv (FP.dsub (4607182418800017408 : UInt64) lam) lam)), .second, .val (.long NN), .second, .unset, .unset, .unset, .unset] [(.long p4), (.long (1 : Int64)), (.ref b1)])
  refine Go.callV X4 hx hZ (by rw [hml]; rfl) (y := (⟨"com/example/bursty_ranking/burstyranking/JelinekMercerModel", "termFreqWeight", "(JJ)D"⟩ : MethodName)) (z := (⟨"com/example/bursty_ranking/burstyranking/JelinekMercerModel", "termFreqWeight", "(JJ)D"⟩ : MethodName)) (a := b1) (argsL := [(.long (1 : Int64)), (.long p4)]) (rest := []) hown (hw _ (List.mem_of_getElem? (i := 25) rfl)) (hw _ (List.mem_of_getElem? (i := 26) rfl)) (notFace_of_selects (args := #[]) (mvT hZ (hw _ (List.mem_of_getElem? (i := 28) rfl)))) (hw _ (List.mem_of_getElem? (i := 28) rfl)) (hw _ (List.mem_of_getElem? (i := 27) rfl)) (hw _ (List.mem_of_getElem? (i := 3) rfl)) (hw _ (List.mem_of_getElem? (i := 29) rfl)) (by decide) (rm3 l Z a0 hw b1 (1 : Int64) p4 lam T2.heap n0 (Nat.le_trans Z0 (KK2 : Keep h0 T2.heap []).1) Fc2 (own_nnF hk.2.2.2.2.1) (Jvm.Free.Fl.dmul_out (own_finF hk.2.2.1) (Jvm.Free.Fl.l2d_fin (1 : Int64))) (Jvm.Free.Fl.ddiv_out0 (own_finF hk.2.2.2.2.1) (Jvm.Free.Fl.nz64_core.mpr hk.2.2.2.2.2.1) (Jvm.Free.Fl.dmul_out (own_finF hk.2.2.1) (Jvm.Free.Fl.l2d_fin (1 : Int64))))) hh4 E_b1_2 (hb hby at_67) (lenOf pd_3 rfl) rfl rfl (W := 0) (Nat.le_of_eq rfl) (by decide) (by decide) (by decide) (by decide) ?_
  intro v5 T5 L5 X5 Q5
  obtain ⟨rfl, N5q, hh5⟩ := Q5
  have N5 := Fr.app N4 N5q
  show Go _ _ _ _ _ _ _ T5 (mkF m 70 #[.val (.int p0), .val (.int p1), .val (.long p2), .second, .val (.long p3), .second, .val (.long p4), .second, .val (.int K), .val (.int P), .val (.double lam), .second, .val (.ref b1), .val (.double (FP.ddiv (FP.dsub (4607182418800017408 : UInt64) lam) lam)), .second, .val (.long NN), .second, .unset, .unset, .unset, .unset] [(.double (FP.ddiv (FP.dsub (4607182418800017408 : UInt64) lam) (FP.dmul lam (FP.l2d (1 : Int64)))))])
  refine Go.step (fun _ k => XS.dstore X5.here hx rfl (hb hby at_70) rfl (l' := #[.val (.int p0), .val (.int p1), .val (.long p2), .second, .val (.long p3), .second, .val (.long p4), .second, .val (.int K), .val (.int P), .val (.double lam), .second, .val (.ref b1), .val (.double (FP.ddiv (FP.dsub (4607182418800017408 : UInt64) lam) lam)), .second, .val (.long NN), .second, .val (.double (FP.ddiv (FP.dsub (4607182418800017408 : UInt64) lam) (FP.dmul lam (FP.l2d (1 : Int64))))), .second, .unset, .unset]) rfl k) ?_
  show Go _ _ _ _ _ _ _ T5 (mkF m 72 #[.val (.int p0), .val (.int p1), .val (.long p2), .second, .val (.long p3), .second, .val (.long p4), .second, .val (.int K), .val (.int P), .val (.double lam), .second, .val (.ref b1), .val (.double (FP.ddiv (FP.dsub (4607182418800017408 : UInt64) lam) lam)), .second, .val (.long NN), .second, .val (.double (FP.ddiv (FP.dsub (4607182418800017408 : UInt64) lam) (FP.dmul lam (FP.l2d (1 : Int64))))), .second, .unset, .unset] [])
  refine Go.step (fun _ k => XS.aload X5.here hx rfl (hb hby at_72) rfl rfl k) ?_
  show Go _ _ _ _ _ _ _ T5 (mkF m 74 #[.val (.int p0), .val (.int p1), .val (.long p2), .second, .val (.long p3), .second, .val (.long p4), .second, .val (.int K), .val (.int P), .val (.double lam), .second, .val (.ref b1), .val (.double (FP.ddiv (FP.dsub (4607182418800017408 : UInt64) lam) lam)), .second, .val (.long NN), .second, .val (.double (FP.ddiv (FP.dsub (4607182418800017408 : UInt64) lam) (FP.dmul lam (FP.l2d (1 : Int64))))), .second, .unset, .unset] [(.ref b1)])
  refine Go.step (fun _ k => XS.lload X5.here hx rfl (hb hby at_74) rfl k) ?_
  show Go _ _ _ _ _ _ _ T5 (mkF m 76 #[.val (.int p0), .val (.int p1), .val (.long p2), .second, .val (.long p3), .second, .val (.long p4), .second, .val (.int K), .val (.int P), .val (.double lam), .second, .val (.ref b1), .val (.double (FP.ddiv (FP.dsub (4607182418800017408 : UInt64) lam) lam)), .second, .val (.long NN), .second, .val (.double (FP.ddiv (FP.dsub (4607182418800017408 : UInt64) lam) (FP.dmul lam (FP.l2d (1 : Int64))))), .second, .unset, .unset] [(.long NN), (.ref b1)])
  refine Go.step (fun _ k => XS.lload X5.here hx rfl (hb hby at_76) rfl k) ?_
  show Go _ _ _ _ _ _ _ T5 (mkF m 78 #[.val (.int p0), .val (.int p1), .val (.long p2), .second, .val (.long p3), .second, .val (.long p4), .second, .val (.int K), .val (.int P), .val (.double lam), .second, .val (.ref b1), .val (.double (FP.ddiv (FP.dsub (4607182418800017408 : UInt64) lam) lam)), .second, .val (.long NN), .second, .val (.double (FP.ddiv (FP.dsub (4607182418800017408 : UInt64) lam) (FP.dmul lam (FP.l2d (1 : Int64))))), .second, .unset, .unset] [(.long p4), (.long NN), (.ref b1)])
  refine Go.callV X5 hx hZ (by rw [hml]; rfl) (y := (⟨"com/example/bursty_ranking/burstyranking/JelinekMercerModel", "termFreqWeight", "(JJ)D"⟩ : MethodName)) (z := (⟨"com/example/bursty_ranking/burstyranking/JelinekMercerModel", "termFreqWeight", "(JJ)D"⟩ : MethodName)) (a := b1) (argsL := [(.long NN), (.long p4)]) (rest := []) hown (hw _ (List.mem_of_getElem? (i := 25) rfl)) (hw _ (List.mem_of_getElem? (i := 26) rfl)) (notFace_of_selects (args := #[]) (mvT hZ (hw _ (List.mem_of_getElem? (i := 28) rfl)))) (hw _ (List.mem_of_getElem? (i := 28) rfl)) (hw _ (List.mem_of_getElem? (i := 27) rfl)) (hw _ (List.mem_of_getElem? (i := 3) rfl)) (hw _ (List.mem_of_getElem? (i := 29) rfl)) (by decide) (rm3 l Z a0 hw b1 NN p4 lam T2.heap n0 (Nat.le_trans Z0 (KK2 : Keep h0 T2.heap []).1) Fc2 (own_nnF hk.2.2.2.2.1) (Jvm.Free.Fl.dmul_out (own_finF hk.2.2.1) (Jvm.Free.Fl.l2d_fin NN)) (Jvm.Free.Fl.ddiv_out0 (own_finF hk.2.2.2.2.1) (Jvm.Free.Fl.nz64_core.mpr hk.2.2.2.2.2.1) (Jvm.Free.Fl.dmul_out (own_finF hk.2.2.1) (Jvm.Free.Fl.l2d_fin NN)))) hh5 E_b1_2 (hb hby at_78) (lenOf pd_3 rfl) rfl rfl (W := 0) (Nat.le_of_eq rfl) (by decide) (by decide) (by decide) (by decide) ?_
  intro v6 T6 L6 X6 Q6
  obtain ⟨rfl, N6q, hh6⟩ := Q6
  have N6 := Fr.app N5 N6q
  show Go _ _ _ _ _ _ _ T6 (mkF m 81 #[.val (.int p0), .val (.int p1), .val (.long p2), .second, .val (.long p3), .second, .val (.long p4), .second, .val (.int K), .val (.int P), .val (.double lam), .second, .val (.ref b1), .val (.double (FP.ddiv (FP.dsub (4607182418800017408 : UInt64) lam) lam)), .second, .val (.long NN), .second, .val (.double (FP.ddiv (FP.dsub (4607182418800017408 : UInt64) lam) (FP.dmul lam (FP.l2d (1 : Int64))))), .second, .unset, .unset] [(.double (FP.ddiv (FP.dsub (4607182418800017408 : UInt64) lam) (FP.dmul lam (FP.l2d NN))))])
  refine Go.step (fun _ k => XS.dstore X6.here hx rfl (hb hby at_81) rfl (l' := #[.val (.int p0), .val (.int p1), .val (.long p2), .second, .val (.long p3), .second, .val (.long p4), .second, .val (.int K), .val (.int P), .val (.double lam), .second, .val (.ref b1), .val (.double (FP.ddiv (FP.dsub (4607182418800017408 : UInt64) lam) lam)), .second, .val (.long NN), .second, .val (.double (FP.ddiv (FP.dsub (4607182418800017408 : UInt64) lam) (FP.dmul lam (FP.l2d (1 : Int64))))), .second, .val (.double (FP.ddiv (FP.dsub (4607182418800017408 : UInt64) lam) (FP.dmul lam (FP.l2d NN)))), .second]) rfl k) ?_
  show Go _ _ _ _ _ _ _ T6 (mkF m 83 #[.val (.int p0), .val (.int p1), .val (.long p2), .second, .val (.long p3), .second, .val (.long p4), .second, .val (.int K), .val (.int P), .val (.double lam), .second, .val (.ref b1), .val (.double (FP.ddiv (FP.dsub (4607182418800017408 : UInt64) lam) lam)), .second, .val (.long NN), .second, .val (.double (FP.ddiv (FP.dsub (4607182418800017408 : UInt64) lam) (FP.dmul lam (FP.l2d (1 : Int64))))), .second, .val (.double (FP.ddiv (FP.dsub (4607182418800017408 : UInt64) lam) (FP.dmul lam (FP.l2d NN)))), .second] [])
  refine Go.step (fun _ k => XS.dload X6.here hx rfl (hb hby at_83) rfl k) ?_
  show Go _ _ _ _ _ _ _ T6 (mkF m 85 #[.val (.int p0), .val (.int p1), .val (.long p2), .second, .val (.long p3), .second, .val (.long p4), .second, .val (.int K), .val (.int P), .val (.double lam), .second, .val (.ref b1), .val (.double (FP.ddiv (FP.dsub (4607182418800017408 : UInt64) lam) lam)), .second, .val (.long NN), .second, .val (.double (FP.ddiv (FP.dsub (4607182418800017408 : UInt64) lam) (FP.dmul lam (FP.l2d (1 : Int64))))), .second, .val (.double (FP.ddiv (FP.dsub (4607182418800017408 : UInt64) lam) (FP.dmul lam (FP.l2d NN)))), .second] [(.double (FP.ddiv (FP.dsub (4607182418800017408 : UInt64) lam) lam))])
  refine Go.step (fun _ k => XS.dload X6.here hx rfl (hb hby at_85) rfl k) ?_
  show Go _ _ _ _ _ _ _ T6 (mkF m 87 #[.val (.int p0), .val (.int p1), .val (.long p2), .second, .val (.long p3), .second, .val (.long p4), .second, .val (.int K), .val (.int P), .val (.double lam), .second, .val (.ref b1), .val (.double (FP.ddiv (FP.dsub (4607182418800017408 : UInt64) lam) lam)), .second, .val (.long NN), .second, .val (.double (FP.ddiv (FP.dsub (4607182418800017408 : UInt64) lam) (FP.dmul lam (FP.l2d (1 : Int64))))), .second, .val (.double (FP.ddiv (FP.dsub (4607182418800017408 : UInt64) lam) (FP.dmul lam (FP.l2d NN)))), .second] [(.double (FP.ddiv (FP.dsub (4607182418800017408 : UInt64) lam) (FP.dmul lam (FP.l2d (1 : Int64))))), (.double (FP.ddiv (FP.dsub (4607182418800017408 : UInt64) lam) lam))])
  refine Go.step (fun _ k => XS.dcmpS X6.here hx rfl (hb hby at_87) rfl rfl k) ?_
  show Go _ _ _ _ _ _ _ T6 (mkF m 88 #[.val (.int p0), .val (.int p1), .val (.long p2), .second, .val (.long p3), .second, .val (.long p4), .second, .val (.int K), .val (.int P), .val (.double lam), .second, .val (.ref b1), .val (.double (FP.ddiv (FP.dsub (4607182418800017408 : UInt64) lam) lam)), .second, .val (.long NN), .second, .val (.double (FP.ddiv (FP.dsub (4607182418800017408 : UInt64) lam) (FP.dmul lam (FP.l2d (1 : Int64))))), .second, .val (.double (FP.ddiv (FP.dsub (4607182418800017408 : UInt64) lam) (FP.dmul lam (FP.l2d NN)))), .second] [(.int (cmpValue (FP.dcmp (FP.ddiv (FP.dsub (4607182418800017408 : UInt64) lam) lam) (FP.ddiv (FP.dsub (4607182418800017408 : UInt64) lam) (FP.dmul lam (FP.l2d (1 : Int64))))) .l))])
  refine Go.step (fun _ k => XS.ifNo X6.here hx rfl (hb hby at_88) rfl (eq_y .l (own_eqD (by rw [hk.2.2.2.2.2.2.1]) (Jvm.Free.Fl.ddiv_out (own_nnF hk.2.2.2.2.1) (own_finF hk.2.2.1) (Jvm.Free.Fl.nz64_core.mpr hk.2.2.2.1)))).1 k) ?_
  show Go _ _ _ _ _ _ _ T6 (mkF m 91 #[.val (.int p0), .val (.int p1), .val (.long p2), .second, .val (.long p3), .second, .val (.long p4), .second, .val (.int K), .val (.int P), .val (.double lam), .second, .val (.ref b1), .val (.double (FP.ddiv (FP.dsub (4607182418800017408 : UInt64) lam) lam)), .second, .val (.long NN), .second, .val (.double (FP.ddiv (FP.dsub (4607182418800017408 : UInt64) lam) (FP.dmul lam (FP.l2d (1 : Int64))))), .second, .val (.double (FP.ddiv (FP.dsub (4607182418800017408 : UInt64) lam) (FP.dmul lam (FP.l2d NN)))), .second] [])
  refine Go.step (fun _ k => XS.dload X6.here hx rfl (hb hby at_91) rfl k) ?_
  show Go _ _ _ _ _ _ _ T6 (mkF m 93 #[.val (.int p0), .val (.int p1), .val (.long p2), .second, .val (.long p3), .second, .val (.long p4), .second, .val (.int K), .val (.int P), .val (.double lam), .second, .val (.ref b1), .val (.double (FP.ddiv (FP.dsub (4607182418800017408 : UInt64) lam) lam)), .second, .val (.long NN), .second, .val (.double (FP.ddiv (FP.dsub (4607182418800017408 : UInt64) lam) (FP.dmul lam (FP.l2d (1 : Int64))))), .second, .val (.double (FP.ddiv (FP.dsub (4607182418800017408 : UInt64) lam) (FP.dmul lam (FP.l2d NN)))), .second] [(.double (FP.ddiv (FP.dsub (4607182418800017408 : UInt64) lam) (FP.dmul lam (FP.l2d NN))))])
  refine Go.step (fun _ k => XS.dload X6.here hx rfl (hb hby at_93) rfl k) ?_
  show Go _ _ _ _ _ _ _ T6 (mkF m 95 #[.val (.int p0), .val (.int p1), .val (.long p2), .second, .val (.long p3), .second, .val (.long p4), .second, .val (.int K), .val (.int P), .val (.double lam), .second, .val (.ref b1), .val (.double (FP.ddiv (FP.dsub (4607182418800017408 : UInt64) lam) lam)), .second, .val (.long NN), .second, .val (.double (FP.ddiv (FP.dsub (4607182418800017408 : UInt64) lam) (FP.dmul lam (FP.l2d (1 : Int64))))), .second, .val (.double (FP.ddiv (FP.dsub (4607182418800017408 : UInt64) lam) (FP.dmul lam (FP.l2d NN)))), .second] [(.double (FP.ddiv (FP.dsub (4607182418800017408 : UInt64) lam) lam)), (.double (FP.ddiv (FP.dsub (4607182418800017408 : UInt64) lam) (FP.dmul lam (FP.l2d NN))))])
  refine Go.step (fun _ k => XS.dcmpS X6.here hx rfl (hb hby at_95) rfl rfl k) ?_
  show Go _ _ _ _ _ _ _ T6 (mkF m 96 #[.val (.int p0), .val (.int p1), .val (.long p2), .second, .val (.long p3), .second, .val (.long p4), .second, .val (.int K), .val (.int P), .val (.double lam), .second, .val (.ref b1), .val (.double (FP.ddiv (FP.dsub (4607182418800017408 : UInt64) lam) lam)), .second, .val (.long NN), .second, .val (.double (FP.ddiv (FP.dsub (4607182418800017408 : UInt64) lam) (FP.dmul lam (FP.l2d (1 : Int64))))), .second, .val (.double (FP.ddiv (FP.dsub (4607182418800017408 : UInt64) lam) (FP.dmul lam (FP.l2d NN)))), .second] [(.int (cmpValue (FP.dcmp (FP.ddiv (FP.dsub (4607182418800017408 : UInt64) lam) (FP.dmul lam (FP.l2d NN))) (FP.ddiv (FP.dsub (4607182418800017408 : UInt64) lam) lam)) .g))])
  refine Go.step (fun _ k => XS.ifNo X6.here hx rfl (hb hby at_96) rfl (le_y (hk.2.2.2.2.2.2.2.2 NN hN)) k) ?_
  show Go _ _ _ _ _ _ _ T6 (mkF m 99 #[.val (.int p0), .val (.int p1), .val (.long p2), .second, .val (.long p3), .second, .val (.long p4), .second, .val (.int K), .val (.int P), .val (.double lam), .second, .val (.ref b1), .val (.double (FP.ddiv (FP.dsub (4607182418800017408 : UInt64) lam) lam)), .second, .val (.long NN), .second, .val (.double (FP.ddiv (FP.dsub (4607182418800017408 : UInt64) lam) (FP.dmul lam (FP.l2d (1 : Int64))))), .second, .val (.double (FP.ddiv (FP.dsub (4607182418800017408 : UInt64) lam) (FP.dmul lam (FP.l2d NN)))), .second] [])
  refine Go.step (fun _ k => XS.dload X6.here hx rfl (hb hby at_99) rfl k) ?_
  show Go _ _ _ _ _ _ _ T6 (mkF m 101 #[.val (.int p0), .val (.int p1), .val (.long p2), .second, .val (.long p3), .second, .val (.long p4), .second, .val (.int K), .val (.int P), .val (.double lam), .second, .val (.ref b1), .val (.double (FP.ddiv (FP.dsub (4607182418800017408 : UInt64) lam) lam)), .second, .val (.long NN), .second, .val (.double (FP.ddiv (FP.dsub (4607182418800017408 : UInt64) lam) (FP.dmul lam (FP.l2d (1 : Int64))))), .second, .val (.double (FP.ddiv (FP.dsub (4607182418800017408 : UInt64) lam) (FP.dmul lam (FP.l2d NN)))), .second] [(.double (FP.ddiv (FP.dsub (4607182418800017408 : UInt64) lam) lam))])
  refine Go.step (fun _ k => XS.dconst0 X6.here hx rfl (hb hby at_101) rfl k) ?_
  show Go _ _ _ _ _ _ _ T6 (mkF m 102 #[.val (.int p0), .val (.int p1), .val (.long p2), .second, .val (.long p3), .second, .val (.long p4), .second, .val (.int K), .val (.int P), .val (.double lam), .second, .val (.ref b1), .val (.double (FP.ddiv (FP.dsub (4607182418800017408 : UInt64) lam) lam)), .second, .val (.long NN), .second, .val (.double (FP.ddiv (FP.dsub (4607182418800017408 : UInt64) lam) (FP.dmul lam (FP.l2d (1 : Int64))))), .second, .val (.double (FP.ddiv (FP.dsub (4607182418800017408 : UInt64) lam) (FP.dmul lam (FP.l2d NN)))), .second] [(.double (0 : UInt64)), (.double (FP.ddiv (FP.dsub (4607182418800017408 : UInt64) lam) lam))])
  refine Go.step (fun _ k => XS.dcmpS X6.here hx rfl (hb hby at_102) rfl rfl k) ?_
  show Go _ _ _ _ _ _ _ T6 (mkF m 103 #[.val (.int p0), .val (.int p1), .val (.long p2), .second, .val (.long p3), .second, .val (.long p4), .second, .val (.int K), .val (.int P), .val (.double lam), .second, .val (.ref b1), .val (.double (FP.ddiv (FP.dsub (4607182418800017408 : UInt64) lam) lam)), .second, .val (.long NN), .second, .val (.double (FP.ddiv (FP.dsub (4607182418800017408 : UInt64) lam) (FP.dmul lam (FP.l2d (1 : Int64))))), .second, .val (.double (FP.ddiv (FP.dsub (4607182418800017408 : UInt64) lam) (FP.dmul lam (FP.l2d NN)))), .second] [(.int (cmpValue (FP.dcmp (FP.ddiv (FP.dsub (4607182418800017408 : UInt64) lam) lam) (0 : UInt64)) .l))])
  refine Go.step (fun _ k => XS.ifNo X6.here hx rfl (hb hby at_103) rfl (gt_y hk.2.2.2.2.2.2.2.1) k) ?_
  show Go _ _ _ _ _ _ _ T6 (mkF m 106 #[.val (.int p0), .val (.int p1), .val (.long p2), .second, .val (.long p3), .second, .val (.long p4), .second, .val (.int K), .val (.int P), .val (.double lam), .second, .val (.ref b1), .val (.double (FP.ddiv (FP.dsub (4607182418800017408 : UInt64) lam) lam)), .second, .val (.long NN), .second, .val (.double (FP.ddiv (FP.dsub (4607182418800017408 : UInt64) lam) (FP.dmul lam (FP.l2d (1 : Int64))))), .second, .val (.double (FP.ddiv (FP.dsub (4607182418800017408 : UInt64) lam) (FP.dmul lam (FP.l2d NN)))), .second] [])
  refine Go.step (fun _ k => XS.iconst X6.here hx rfl (hb hby at_106) k) ?_
  show Go _ _ _ _ _ _ _ T6 (mkF m 107 #[.val (.int p0), .val (.int p1), .val (.long p2), .second, .val (.long p3), .second, .val (.long p4), .second, .val (.int K), .val (.int P), .val (.double lam), .second, .val (.ref b1), .val (.double (FP.ddiv (FP.dsub (4607182418800017408 : UInt64) lam) lam)), .second, .val (.long NN), .second, .val (.double (FP.ddiv (FP.dsub (4607182418800017408 : UInt64) lam) (FP.dmul lam (FP.l2d (1 : Int64))))), .second, .val (.double (FP.ddiv (FP.dsub (4607182418800017408 : UInt64) lam) (FP.dmul lam (FP.l2d NN)))), .second] [(.int (1 : Int32))])
  refine Go.step (fun _ k => XS.goto X6.here hx rfl (pc0 := 107) (pc' := 111) rfl (hb hby at_107) (by decide) (by decide) k) ?_
  show Go _ _ _ _ _ _ _ T6 (mkF m 111 #[.val (.int p0), .val (.int p1), .val (.long p2), .second, .val (.long p3), .second, .val (.long p4), .second, .val (.int K), .val (.int P), .val (.double lam), .second, .val (.ref b1), .val (.double (FP.ddiv (FP.dsub (4607182418800017408 : UInt64) lam) lam)), .second, .val (.long NN), .second, .val (.double (FP.ddiv (FP.dsub (4607182418800017408 : UInt64) lam) (FP.dmul lam (FP.l2d (1 : Int64))))), .second, .val (.double (FP.ddiv (FP.dsub (4607182418800017408 : UInt64) lam) (FP.dmul lam (FP.l2d NN)))), .second] [(.int (1 : Int32))])
  refine Go.retZ X6 hx hlk hret (by decide) (hb hby at_111) (by decide) (by decide) ?_
  try rw [hh6]
  exact ⟨rfl, N6⟩
theorem pn_0 : plainName "com/example/bursty_ranking/burstyranking/JelinekMercerModelLargestTermFreqWeightPinLaw" = true := by first | (simp [plainName, overriddenIn]; done) | decide +kernel
theorem ef_rm0 (m : MethodId) (p0 : Int32) (p1 : Int32) (p2 : Int64) (p3 : Int64) (p4 : Int64) : entryFrame m #[(.int p0), (.int p1), (.long p2), (.long p3), (.long p4)] maxLocals = mkF m 0 #[.val (.int p0), .val (.int p1), .val (.long p2), .second, .val (.long p3), .second, .val (.long p4), .second, .unset, .unset, .unset, .unset, .unset, .unset, .unset, .unset, .unset, .unset, .unset, .unset, .unset] [] := by first | (simp [entryFrame, mkF, argsToLocals, Value.category, maxLocals]; done) | rfl
theorem rm0 (l : Launch) (Z : State) (a0 : Array Value) (hw : ∀ d ∈ tables_1, d.before a0 Z = true) (ws : List Jvm.Cond) (p0 : Int32) (p1 : Int32) (p2 : Int64) (p3 : Int64) (p4 : Int64) (h0 : Heap) (n0 : Nat) (Z0 : n0 ≤ h0.size)  :
    MetFree l x (head1 (Jvm.Cond.code x code maxLocals ret :: ws) room_1) (fun a U => a = #[(.int p0), (.int p1), (.long p2), (.long p3), (.long p4)] ∧ Z.Warmed39 U.vm ∧ U.heap = h0) (fun _ _ _ _ _ => True) (fun _ U o U' => ∃ v L, o = .returned v ∧ (fun r h L => r = some (.int 1) ∧ Fr n0 L) v U'.heap L ∧ FrameEnd U o U' L room_1.cells room_1.slots) :=
  con_of (plainFor_of_name pn_0) (fun p_ e_ s_ m_ b_ meth_ c_ T_ X_ hx hZ hby hml hown hnm hret hlk e0 => Go.cast (ef_rm0 m_ p0 p1 p2 p3 p4) (w0 p0 p1 p2 p3 p4 X_ hx hZ hw hby hml hown hnm hret hlk e0 Z0 (Fr.nil n0) ))
set_option maxRecDepth 65536 in
set_option maxHeartbeats 40000000 in
theorem comes_1 {Post : Tables → Env → Array Value → State → Outcome → State → Prop} (hpost : ∀ tb e args s v u, (limb_1_1.after args s (.returned v) u = true ∧ limb_1_2.after args s (.returned v) u = true ∧ True) → FrameEnd s (.returned v) u (Jvm.fieldLocs frame_1_writes args s ++ Jvm.arrayLocs frame_1_arrays args s ++ Jvm.staticLocs frame_1_statics s) 16 128 → Post tb e args s (.returned v) u) :
    ArmFor flags0 classFile x code maxLocals ret World_1 tables_1 room_1 Calls_1 rest_1 Pre_1 Post := by
  intro l hfl _ _ p e ha hc hk s m args below hf hA hF happ hP
  obtain ⟨hcalls, hrest, hpre⟩ := hP
  obtain ⟨-, -, -, hnamed, -, -, -, hat⟩ := (Spec.applies_iff hf).mp happ
  obtain ⟨hg, hn⟩ := and_e (Cond.before_iff.mp (show (Jvm.Cond.and given_1 narrow_1).before args s = true from hpre))
  obtain ⟨g1, g2⟩ := and_e hg
  obtain ⟨g3, g4⟩ := and_e g2
  obtain ⟨g5, g6⟩ := and_e g4
  obtain ⟨g7, g8⟩ := and_e g6
  obtain ⟨g9, g10⟩ := and_e g8
  obtain ⟨w0, w1, w2, w3, w4, rfl⟩ : ∃ w0 w1 w2 w3 w4 : Value, args = #[w0, w1, w2, w3, w4] := by
    have hs : args.size = 5 := by simpa [Cond.value, given_1] using g1
    obtain ⟨L⟩ := args
    match L, hs with
    | [w0, w1, w2, w3, w4], _ => exact ⟨w0, w1, w2, w3, w4, rfl⟩
  have hw := fun d (hd : d ∈ tables_1) => atoms_spec (ws := Jvm.Cond.code x code maxLocals ret :: tables_1) hat d (List.mem_cons_of_mem _ hd)
  have hfit : Fit s := fun {y c} hc i hi => by
    obtain ⟨ha, rfl⟩ := Array.getElem?_eq_some_iff.mp hc
    have q := List.all_eq_true.mp ((Array.all_eq_true_iff_forall_mem.mp hF) _ (Array.getElem_mem ha)) i (List.mem_range.mpr hi)
    simpa [Array.getElem?_eq_getElem hi] using q
  obtain ⟨i0, ei0⟩ := is_v g3
  obtain rfl : w0 = (.int i0) := Option.some.inj ei0
  obtain ⟨i1, ei1⟩ := is_v g5
  obtain rfl : w1 = (.int i1) := Option.some.inj ei1
  obtain ⟨i2, ei2⟩ := isL_v g7
  obtain rfl : w2 = (.long i2) := Option.some.inj ei2
  obtain ⟨i3, ei3⟩ := isL_v g9
  obtain rfl : w3 = (.long i3) := Option.some.inj ei3
  obtain ⟨i4, ei4⟩ := isL_v g10
  obtain rfl : w4 = (.long i4) := Option.some.inj ei4
  obtain ⟨n, o, h1, h2, h3, _, L, rfl, ⟨rfl, N⟩, hq⟩ := rm0 l s _ hw tables_1 i0 i1 i2 i3 i4 s.heap s.heap.size (Nat.le_refl _)  p e ha hc hk s m _ below hf ((Spec.applies_iff_loose hf).mp happ).1 ⟨rfl, State.Warmed39.refl s, rfl⟩ trivial
  refine ⟨n, _, h1, h2, h3, hpost _ _ _ _ _ _ ⟨Cond.after_iff.mpr rfl, Cond.after_iff.mpr (eq_i res_at (Term.int_eval (1)) rfl), trivial⟩ ⟨hq.1, hq.2.1, (hq.2.2.sift fun y hy => Or.inr (N y hy)).mono (by decide) (by decide)⟩⟩
theorem main_1_1 : Claimed_1_1 := comes_1 fun _ _ _ _ _ _ h hF => ⟨h.1, hF⟩
theorem main_1_2 : Claimed_1_2 := comes_1 fun _ _ _ _ _ _ h hF => ⟨h.2.1, hF⟩
end Jvm.Pilot.@@N@@
namespace Jvm.Pilot.@@N@@
open Jvm Jvm.ClassFile Sem Op Lib Jvm.Free Jvm.Stand Jvm.Pilot.@@N@@.Jvm.D
/-! MADE BY PROGRAM (witnessworld.py) out of the Statement's table words and the real class files: 9 classes; the members and pool entries that the words name. The judged class is class 1, her method 1. -/
namespace start1
open Jvm.ClassFile
def u (s : String) : CpInfo := .utf8 (stringToUtf16 s)
/-- a pool by its gaps: so many unusable entries, then the entry; so many at the end -/
def gap : Nat → List CpInfo → List CpInfo
  | 0, r => r
  | n + 1, r => .unusable :: gap n r
def poolList (es : List (Nat × CpInfo)) (last : Nat) : List CpInfo := es.foldr (fun e r => gap e.1 (e.2 :: r)) (gap last [])
def pool (es : List (Nat × CpInfo)) (last : Nat) : Array CpInfo := ⟨poolList es last⟩
def fileOf (pool : Array CpInfo) (this : Nat) (attrs : Array Attribute := #[]) (ms : Array MethodInfo := #[]) (fl : Nat := 33) (sup : Nat := 0) (ifs : Array Nat := #[]) (fds : Array FieldInfo := #[]) : ClassFile where
  minorVersion := 0
  majorVersion := 65
  constantPool := pool
  accessFlags := fl
  thisClass := this
  superClass := sup
  interfaces := ifs
  fields := fds
  methods := ms
  attributes := attrs
def plain (name : String) (sup : Option ClassId) : Class where
  name := name
  kind := .ordinary
  loader := none
  accessFlags := 33
  super := sup
  interfaces := #[]
  cf := none
  fields := #[]
  methods := #[]
  instanceTypes := #[]
  staticTypes := #[]
  resolved := #[]
  callSites := []
  init := .initialized
  statics := none
  mirror := none

def pool0 : Array CpInfo := pool [(5, u "<init>"), (0, u "()V"), (1, .class_ 10), (1, u "java/lang/Object")] 113

def k0c0 : Code := { maxStack := 0, maxLocals := 1, code := object_method_1_code, exceptionTable := #[], attributes := #[] }
def k0m0 : Method := { name := "<init>", desc := "()V", sig := { parameters := [], returnType := none }, accessFlags := 1, code := some k0c0 }
/-- java/lang/Object -/
def k0 : Class := { plain "java/lang/Object" none with
  accessFlags := 33
  interfaces := #[]
  cf := some (fileOf pool0 8 #[] #[{ accessFlags := 1, nameIndex := 5, descriptorIndex := 6, attributes := #[] }] 33 0 #[] #[])
  fields := #[]
  methods := #[k0m0]
  instanceTypes := #[]
  staticTypes := #[]
  resolved := Array.replicate 124 none
  statics := none }

def pool1 : Array CpInfo := pool [(2, .class_ 4), (1, u "java/lang/Object"), (0, u "<init>"), (0, u "()V"), (0, .integer 2147483647), (0, .class_ 9), (0, u "com/example/bursty_ranking/burstyranking/JelinekMercerModel"), (0, .methodref 8 11), (0, .nameAndType 5 12), (0, u "(DJ)V"), (0, .methodref 8 14), (0, .nameAndType 15 16), (0, u "largestTermFreqWeight"), (0, u "()D"), (2, .long 9223372036854775807), (1, .methodref 22 23), (0, .class_ 24), (0, .nameAndType 25 26), (0, u "java/lang/Math"), (0, u "max"), (0, u "(JJ)J"), (0, .methodref 8 28), (0, .nameAndType 29 30), (0, u "termFreqWeight"), (0, u "(JJ)D"), (0, .class_ 32), (0, u "com/example/bursty_ranking/burstyranking/JelinekMercerModelLargestTermFreqWeightPinLaw"), (2, u "law"), (0, u "(IIJJJ)Z")] 3

def k1m0 : Method := { name := "<init>", desc := "()V", sig := { parameters := [], returnType := none }, accessFlags := 1, code := none }
def k1c1 : Code := { maxStack := 6, maxLocals := 21, code := code, exceptionTable := #[], attributes := #[] }
def k1m1 : Method := { name := "law", desc := "(IIJJJ)Z", sig := { parameters := [.int, .int, .long, .long, .long], returnType := some .boolean }, accessFlags := 9, code := some k1c1 }
/-- com/example/bursty_ranking/burstyranking/JelinekMercerModelLargestTermFreqWeightPinLaw -/
def k1 : Class := { plain "com/example/bursty_ranking/burstyranking/JelinekMercerModelLargestTermFreqWeightPinLaw" (some 0) with
  accessFlags := 49
  interfaces := #[]
  cf := some (fileOf pool1 31 #[] #[{ accessFlags := 1, nameIndex := 5, descriptorIndex := 6, attributes := #[] }, { accessFlags := 9, nameIndex := 35, descriptorIndex := 36, attributes := #[] }] 49 2 #[] #[])
  fields := #[]
  methods := #[k1m0, k1m1]
  instanceTypes := #[]
  staticTypes := #[]
  resolved := Array.replicate 40 none
  statics := none }

def pool2 : Array CpInfo := pool [(1, .class_ 2), (0, u "com/example/bursty_ranking/burstyranking/LanguageModel"), (0, .class_ 4), (0, u "java/lang/Object")] 13

/-- com/example/bursty_ranking/burstyranking/LanguageModel -/
def k2 : Class := { plain "com/example/bursty_ranking/burstyranking/LanguageModel" (some 0) with
  accessFlags := 1536
  interfaces := #[]
  cf := some (fileOf pool2 1 #[] #[] 1536 3 #[] #[])
  fields := #[]
  methods := #[]
  instanceTypes := #[]
  staticTypes := #[]
  resolved := Array.replicate 18 none
  statics := none }

def pool3 : Array CpInfo := pool [(1, .methodref 2 3), (0, .class_ 4), (0, .nameAndType 5 6), (0, u "java/lang/Object"), (0, u "<init>"), (0, u "()V"), (2, .double 4503599627370496), (10, .fieldref 21 22), (0, .class_ 23), (0, .nameAndType 24 25), (0, u "com/example/bursty_ranking/burstyranking/JelinekMercerModel"), (0, u "lambda"), (0, u "D"), (0, .fieldref 21 27), (0, .nameAndType 28 29), (0, u "tokenCount"), (0, u "J"), (6, .class_ 37), (0, u "com/example/bursty_ranking/burstyranking/LanguageModel"), (0, u "NAME"), (0, u "Ljava/lang/String;"), (3, u "DEFAULT_LAMBDA"), (2, u "(DJ)V"), (4, u "(JJ)D"), (3, u "termFreqWeight"), (1, u "()D"), (0, u "largestTermFreqWeight")] 18

def k3c0 : Code := { maxStack := 4, maxLocals := 5, code := prog_5_method_1_code, exceptionTable := #[], attributes := #[] }
def k3m0 : Method := { name := "<init>", desc := "(DJ)V", sig := { parameters := [.double, .long], returnType := none }, accessFlags := 0, code := some k3c0 }
def k3c1 : Code := { maxStack := 6, maxLocals := 5, code := prog_5_method_5_code, exceptionTable := #[], attributes := #[] }
def k3m1 : Method := { name := "termFreqWeight", desc := "(JJ)D", sig := { parameters := [.long, .long], returnType := some .double }, accessFlags := 1, code := some k3c1 }
def k3c2 : Code := { maxStack := 4, maxLocals := 1, code := prog_5_method_7_code, exceptionTable := #[], attributes := #[] }
def k3m2 : Method := { name := "largestTermFreqWeight", desc := "()D", sig := { parameters := [], returnType := some .double }, accessFlags := 1, code := some k3c2 }
/-- com/example/bursty_ranking/burstyranking/JelinekMercerModel -/
def k3 : Class := { plain "com/example/bursty_ranking/burstyranking/JelinekMercerModel" (some 0) with
  accessFlags := 32
  interfaces := #[2]
  cf := some (fileOf pool3 21 #[] #[{ accessFlags := 0, nameIndex := 5, descriptorIndex := 46, attributes := #[] }, { accessFlags := 1, nameIndex := 55, descriptorIndex := 51, attributes := #[] }, { accessFlags := 1, nameIndex := 58, descriptorIndex := 57, attributes := #[] }] 32 2 #[36] #[{ accessFlags := 24, nameIndex := 38, descriptorIndex := 39, attributes := #[] }, { accessFlags := 24, nameIndex := 43, descriptorIndex := 25, attributes := #[] }, { accessFlags := 18, nameIndex := 24, descriptorIndex := 25, attributes := #[] }, { accessFlags := 18, nameIndex := 28, descriptorIndex := 29, attributes := #[] }])
  fields := #[{ name := "NAME", type := (.object "java/lang/String"), accessFlags := 24, slot := 0, constantValue := 0 }, { name := "DEFAULT_LAMBDA", type := .double, accessFlags := 24, slot := 1, constantValue := 0 }, { name := "lambda", type := .double, accessFlags := 18, slot := 0, constantValue := 0 }, { name := "tokenCount", type := .long, accessFlags := 18, slot := 1, constantValue := 0 }]
  methods := #[k3m0, k3m1, k3m2]
  instanceTypes := #[.double, .long]
  staticTypes := #[(.object "java/lang/String"), .double]
  resolved := Array.replicate 77 none
  statics := none }

def pool4 : Array CpInfo := pool [(1, .class_ 2), (0, u "java/lang/Math"), (1, .class_ 6), (1, u "java/lang/Object"), (0, u "<init>"), (0, u "()V"), (89, .class_ 100), (1, u "java/lang/Math$RandomNumberGeneratorHolder"), (20, u "(JJ)J"), (50, u "negativeZeroFloatBits"), (0, u "J"), (2, u "negativeZeroDoubleBits"), (21, u "max"), (46, u "$assertionsDisabled"), (0, u "Z"), (91, u "twoToTheDoubleScaleDown"), (0, u "D"), (4, u "twoToTheDoubleScaleUp"), (9, u "E"), (3, u "PI"), (2, u "TAU"), (2, u "DEGREES_TO_RADIANS"), (0, u "RADIANS_TO_DEGREES")] 94

def k4m0 : Method := { name := "<init>", desc := "()V", sig := { parameters := [], returnType := none }, accessFlags := 2, code := none }
def k4c1 : Code := { maxStack := 4, maxLocals := 4, code := jdk_29_method_66_code, exceptionTable := #[], attributes := #[] }
def k4m1 : Method := { name := "max", desc := "(JJ)J", sig := { parameters := [.long, .long], returnType := some .long }, accessFlags := 9, code := some k4c1 }
/-- java/lang/Math -/
def k4 : Class := { plain "java/lang/Math" (some 0) with
  accessFlags := 49
  interfaces := #[]
  cf := some (fileOf pool4 1 #[.nestMembers #[98]] #[{ accessFlags := 2, nameIndex := 7, descriptorIndex := 8, attributes := #[] }, { accessFlags := 9, nameIndex := 198, descriptorIndex := 121, attributes := #[] }] 49 4 #[] #[{ accessFlags := 25, nameIndex := 354, descriptorIndex := 339, attributes := #[] }, { accessFlags := 25, nameIndex := 358, descriptorIndex := 339, attributes := #[] }, { accessFlags := 25, nameIndex := 361, descriptorIndex := 339, attributes := #[] }, { accessFlags := 26, nameIndex := 364, descriptorIndex := 339, attributes := #[] }, { accessFlags := 26, nameIndex := 365, descriptorIndex := 339, attributes := #[] }, { accessFlags := 26, nameIndex := 172, descriptorIndex := 173, attributes := #[] }, { accessFlags := 26, nameIndex := 176, descriptorIndex := 173, attributes := #[] }, { accessFlags := 8, nameIndex := 344, descriptorIndex := 339, attributes := #[] }, { accessFlags := 8, nameIndex := 338, descriptorIndex := 339, attributes := #[] }, { accessFlags := 4120, nameIndex := 245, descriptorIndex := 246, attributes := #[] }])
  fields := #[{ name := "E", type := .double, accessFlags := 25, slot := 0, constantValue := 0 }, { name := "PI", type := .double, accessFlags := 25, slot := 1, constantValue := 0 }, { name := "TAU", type := .double, accessFlags := 25, slot := 2, constantValue := 0 }, { name := "DEGREES_TO_RADIANS", type := .double, accessFlags := 26, slot := 3, constantValue := 0 }, { name := "RADIANS_TO_DEGREES", type := .double, accessFlags := 26, slot := 4, constantValue := 0 }, { name := "negativeZeroFloatBits", type := .long, accessFlags := 26, slot := 5, constantValue := 0 }, { name := "negativeZeroDoubleBits", type := .long, accessFlags := 26, slot := 6, constantValue := 0 }, { name := "twoToTheDoubleScaleUp", type := .double, accessFlags := 8, slot := 7, constantValue := 0 }, { name := "twoToTheDoubleScaleDown", type := .double, accessFlags := 8, slot := 8, constantValue := 0 }, { name := "$assertionsDisabled", type := .boolean, accessFlags := 4120, slot := 9, constantValue := 0 }]
  methods := #[k4m0, k4m1]
  instanceTypes := #[]
  staticTypes := #[.double, .double, .double, .double, .double, .long, .long, .double, .double, .boolean]
  resolved := Array.replicate 460 none
  statics := none }

def pool5 : Array CpInfo := pool [(1, u "java/lang/Cloneable"), (0, .class_ 1), (0, u "java/lang/Object"), (0, .class_ 3)] 3

/-- java/lang/Cloneable -/
def k5 : Class := { plain "java/lang/Cloneable" (some 0) with
  accessFlags := 1537
  interfaces := #[]
  cf := some (fileOf pool5 2 #[] #[] 1537 4 #[] #[])
  fields := #[]
  methods := #[]
  instanceTypes := #[]
  staticTypes := #[]
  resolved := Array.replicate 8 none
  statics := none }

def pool6 : Array CpInfo := pool [(1, u "java/io/Serializable"), (0, .class_ 1), (0, u "java/lang/Object"), (0, .class_ 3)] 3

/-- java/io/Serializable -/
def k6 : Class := { plain "java/io/Serializable" (some 0) with
  accessFlags := 1537
  interfaces := #[]
  cf := some (fileOf pool6 2 #[] #[] 1537 4 #[] #[])
  fields := #[]
  methods := #[]
  instanceTypes := #[]
  staticTypes := #[]
  resolved := Array.replicate 8 none
  statics := none }

/-- the primitive byte -/
def k7 : Class := { plain "byte" none with kind := .primitive 'B', accessFlags := 0x411 }
/-- [B -/
def k8 : Class := { plain "[B" (some 0) with kind := .array 7 .byte, interfaces := #[5, 6], accessFlags := 1041 }

def heap : Heap := #[]
def classes : Array Class := #[k0, k1, k2, k3, k4, k5, k6, k7, k8]
def interned : List (Array UInt16 × Addr) := []
def slotsUsed : Nat := 0
def theMethod : MethodId := ⟨1, 1⟩
def args0 : Array Value := #[.int 5, .int 7, .long 3, .long 2, .long 7]
def aboutOver (below : List Frame) : State where
  vm := { classes := classes, interned := interned.toArray }
  heap := heap
  slotsUsed := slotsUsed
  threads := #[{ frames := .invoking theMethod args0 :: below }]
def below0 : List Frame := [.native { method := ⟨0, 0⟩, args := #[] }]
def about1 : State := aboutOver below0
def p0 : Program := .bare "" "" ""
def e0 : Env := launch0.env 0 0 0
theorem w_frames : about1.frames = Frame.invoking theMethod args0 :: below0 := rfl
set_option maxRecDepth 65536 in
theorem w_args : argsFit about1.vm theMethod args0 = true := by decide +kernel
set_option maxRecDepth 65536 in
theorem w_heap : heapFits about1 = true := by decide +kernel
set_option maxRecDepth 65536 in
theorem w_runnable : about1.curStatus? = some .runnable := by decide +kernel
set_option maxRecDepth 65536 in
theorem w_alone : about1.alone = true := by decide +kernel
set_option maxRecDepth 65536 in
theorem w_named : about1.methodNamed? x = some theMethod := by decide +kernel
set_option maxRecDepth 65536 in
theorem w_hears : about1.hears theMethod below0 = true := by decide +kernel
set_option maxRecDepth 65536 in
theorem w_ripe : about1.ripe theMethod args0 below0 = true := by decide +kernel
theorem w_running : about1.status = .running := rfl
set_option maxRecDepth 65536 in
theorem w_room : about1.hasRoom e0.platform room_1 = true :=
  launch0.hasRoom_least _ room_1 (by decide +kernel) (by decide +kernel) (by decide +kernel) (by decide +kernel) (by decide +kernel) (by decide +kernel)
theorem allAtoms_all (ts : List Jvm.Cond) (a : Array Jvm.Value) (st : Jvm.State) : (allAtoms ts).before a st = ts.all (fun c => c.before a st) := by
  induction ts with
  | nil => rfl
  | cons c t ih =>
    show (Jvm.Cond.and c (allAtoms t)).before a st = _
    rw [Jvm.Cond.before_and, ih, List.all_cons]
def words1 : List Jvm.Cond := Jvm.Cond.code x code maxLocals ret :: tables_1
/-- a 'code' word, met by the world's own term for the bytes: nothing is compared byte by byte -/
theorem code_word {y : MethodName} {bytes : ByteArray} {mx : Nat} {rt : Option FieldType} {a : Array Value} {s : State} {m : MethodId} {meth : Method} {c : Code} (h1 : s.methodNamed? y = some m) (h2 : s.vm.method? m = some meth) (h3 : meth.code = some c) (h4 : c.code = bytes)
    (h5 : (c.maxLocals == mx && c.exceptionTable.isEmpty && decide (c.maxStack ≤ mostOperands) && decide (meth.sig.returnType = rt) && !meth.locks && decide (parseMethodDescriptor y.desc = some meth.sig)) = true) : (Jvm.Cond.code y bytes mx rt).before a s = true := by
  simp only [Bool.and_eq_true, beq_iff_eq, Bool.not_eq_true', decide_eq_true_eq] at h5
  obtain ⟨⟨⟨⟨⟨g1, g2⟩, g3⟩, g4⟩, g5⟩, g6⟩ := h5
  simp [Cond.before, Cond.holds, Cond.value, h1, h2, h3, h4, g1, g2, g3, g4, g5, g6]
def isCode : Jvm.Cond → Bool
  | .code _ _ _ _ => true
  | _ => false
theorem all_split {L : List Jvm.Cond} {P : Jvm.Cond → Bool} (h1 : L.all (fun c => isCode c || P c) = true) (h2 : ∀ c ∈ L.filter isCode, P c = true) : L.all P = true := by
  refine List.all_eq_true.mpr fun c hc => ?_
  have h := List.all_eq_true.mp h1 c hc
  rcases Bool.eq_false_or_eq_true (isCode c) with hi | hi
  · exact h2 c (List.mem_filter.mpr ⟨hc, hi⟩)
  · simpa [hi] using h
set_option maxRecDepth 65536 in
theorem w_c0 : (Jvm.Cond.code x code maxLocals ret).before args0 about1 = true := code_word (m := ⟨1, 1⟩) (meth := k1m1) (c := k1c1) (by decide +kernel) rfl rfl rfl (by decide +kernel)
set_option maxRecDepth 65536 in
theorem w_c1 : (Jvm.Cond.code ({ cls := "com/example/bursty_ranking/burstyranking/JelinekMercerModel", name := "<init>", desc := "(DJ)V" } : Jvm.MethodName) prog_5_method_1_code (5 : Nat) (Option.none : Option Jvm.ClassFile.FieldType)).before args0 about1 = true := code_word (m := ⟨3, 0⟩) (meth := k3m0) (c := k3c0) (by decide +kernel) rfl rfl rfl (by decide +kernel)
set_option maxRecDepth 65536 in
theorem w_c2 : (Jvm.Cond.code ({ cls := "java/lang/Object", name := "<init>", desc := "()V" } : Jvm.MethodName) object_method_1_code (1 : Nat) (Option.none : Option Jvm.ClassFile.FieldType)).before args0 about1 = true := code_word (m := ⟨0, 0⟩) (meth := k0m0) (c := k0c0) (by decide +kernel) rfl rfl rfl (by decide +kernel)
set_option maxRecDepth 65536 in
theorem w_c3 : (Jvm.Cond.code ({ cls := "com/example/bursty_ranking/burstyranking/JelinekMercerModel", name := "largestTermFreqWeight", desc := "()D" } : Jvm.MethodName) prog_5_method_7_code (1 : Nat) (Option.some Jvm.ClassFile.FieldType.double)).before args0 about1 = true := code_word (m := ⟨3, 2⟩) (meth := k3m2) (c := k3c2) (by decide +kernel) rfl rfl rfl (by decide +kernel)
set_option maxRecDepth 65536 in
theorem w_c4 : (Jvm.Cond.code ({ cls := "java/lang/Math", name := "max", desc := "(JJ)J" } : Jvm.MethodName) jdk_29_method_66_code (4 : Nat) (Option.some Jvm.ClassFile.FieldType.long)).before args0 about1 = true := code_word (m := ⟨4, 1⟩) (meth := k4m1) (c := k4c1) (by decide +kernel) rfl rfl rfl (by decide +kernel)
set_option maxRecDepth 65536 in
theorem w_c5 : (Jvm.Cond.code ({ cls := "com/example/bursty_ranking/burstyranking/JelinekMercerModel", name := "termFreqWeight", desc := "(JJ)D" } : Jvm.MethodName) prog_5_method_5_code (5 : Nat) (Option.some Jvm.ClassFile.FieldType.double)).before args0 about1 = true := code_word (m := ⟨3, 1⟩) (meth := k3m1) (c := k3c1) (by decide +kernel) rfl rfl rfl (by decide +kernel)
def codes1 : List Jvm.Cond := [Jvm.Cond.code x code maxLocals ret, Jvm.Cond.code ({ cls := "com/example/bursty_ranking/burstyranking/JelinekMercerModel", name := "<init>", desc := "(DJ)V" } : Jvm.MethodName) prog_5_method_1_code (5 : Nat) (Option.none : Option Jvm.ClassFile.FieldType), Jvm.Cond.code ({ cls := "java/lang/Object", name := "<init>", desc := "()V" } : Jvm.MethodName) object_method_1_code (1 : Nat) (Option.none : Option Jvm.ClassFile.FieldType), Jvm.Cond.code ({ cls := "com/example/bursty_ranking/burstyranking/JelinekMercerModel", name := "largestTermFreqWeight", desc := "()D" } : Jvm.MethodName) prog_5_method_7_code (1 : Nat) (Option.some Jvm.ClassFile.FieldType.double), Jvm.Cond.code ({ cls := "java/lang/Math", name := "max", desc := "(JJ)J" } : Jvm.MethodName) jdk_29_method_66_code (4 : Nat) (Option.some Jvm.ClassFile.FieldType.long), Jvm.Cond.code ({ cls := "com/example/bursty_ranking/burstyranking/JelinekMercerModel", name := "termFreqWeight", desc := "(JJ)D" } : Jvm.MethodName) prog_5_method_5_code (5 : Nat) (Option.some Jvm.ClassFile.FieldType.double)]
set_option maxRecDepth 65536 in
theorem codes_eq : words1.filter isCode = codes1 := rfl
theorem w_codes : ∀ c ∈ words1.filter isCode, c.before args0 about1 = true := by
  rw [codes_eq]
  intro c hc
  simp only [codes1, List.mem_cons, List.not_mem_nil, or_false] at hc
  rcases hc with rfl | rfl | rfl | rfl | rfl | rfl
  · exact w_c0
  · exact w_c1
  · exact w_c2
  · exact w_c3
  · exact w_c4
  · exact w_c5
set_option maxRecDepth 65536 in
theorem w_t1 : (words1.take 24).all (fun c => isCode c || c.before args0 about1) = true := by decide +kernel
set_option maxRecDepth 65536 in
theorem w_t2 : (words1.drop 24).all (fun c => isCode c || c.before args0 about1) = true := by decide +kernel
theorem w_tables : (allAtoms (Jvm.Cond.code x code maxLocals ret :: tables_1)).before args0 about1 = true := by
  rw [allAtoms_all]
  show words1.all (fun c => c.before args0 about1) = true
  refine all_split ?_ w_codes
  rw [← List.take_append_drop 24 words1, List.all_append, w_t1, w_t2]
  rfl
set_option maxRecDepth 65536 in
theorem w_case : (Jvm.Cond.and given_1 narrow_1).before args0 about1 = true := by decide +kernel
theorem w_applies : (headSpec (Jvm.Cond.code x code maxLocals ret :: tables_1) room_1).applies x e0.platform about1 = true :=
  (Spec.applies_iff w_frames).mpr ⟨w_running, w_runnable, w_alone, w_named, w_hears, w_ripe, w_room, w_tables⟩
theorem atStart : AtStart classFile x code maxLocals ret World_1 tables_1 room_1 Calls_1 rest_1 Pre_1 launch0 p0 e0 about1 theMethod args0 below0 :=
  ⟨lists_1, trivial, launch0.admits_env _ _ _, launch0.least_env, fairChoices_fair.cas, fairChoices_fair.clock, w_frames, w_args, w_heap, w_applies, trivial, trivial, w_case⟩
end start1
theorem witness_1 : WitnessClaimed_1 := ⟨start1.p0, start1.e0, start1.about1, start1.theMethod, start1.args0, start1.below0, start1.atStart⟩
end Jvm.Pilot.@@N@@
