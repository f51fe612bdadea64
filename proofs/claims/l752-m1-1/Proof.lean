import JvmDerived
import JvmDerived.Pilot.@@N@@Statement
import JvmDerived.Pilot.@@N@@Code
set_option linter.unusedVariables false
set_option linter.unusedSimpArgs false
namespace Jvm.Pilot.@@N@@
open Jvm Jvm.ClassFile Sem Op Lib Jvm.Free Jvm.Stand Jvm.LawKit Jvm.RoadKit Bundle Jvm.Pilot.@@N@@.Jvm.D
/-! OWN: the walk as a tree. Go: from here the run comes to a return that Q allows. -/
def Go (p : Program) (e : Env) (below : List Frame) (s : State) (C S : Nat) (Q : Option Value → Heap → List Loc → Prop) (T : State) (g : JFrame) : Prop :=
  ∃ s₂ o, Steps p.tables e below (T.setTop g) s₂ ∧ s₂.status = .running ∧ Ended s₂ below o ∧ ∃ v L, o = .returned v ∧ Q v s₂.heap L ∧ FrameEnd s o s₂ L C S
section OwnGo
variable {p : Program} {l : Launch} {e : Env} {R : Room} {s : State} {m : MethodId} {args : Array Value} {below : List Frame} {meth : Method} {c : Code} {T T' : State} {locs : List Loc} {cells slots : Nat} {Z : State} {a0 : Array Value} {h : Heap} {C S : Nat} {Q : Option Value → Heap → List Loc → Prop} {g g' : JFrame}
theorem Go.step (st : ∀ target, Steps p.tables e below (T'.setTop g') target → Steps p.tables e below (T.setTop g) target) (h : Go p e below s C S Q T' g') : Go p e below s C S Q T g := by
  obtain ⟨s₂, o, h1, r⟩ := h; exact ⟨s₂, o, st _ h1, r⟩
theorem Go.cast (q : g = g') (h : Go p e below s C S Q T g') : Go p e below s C S Q T g := q ▸ h
theorem Go.ret (X : Stand p l e R s m args below meth c T locs cells slots) (hlk : meth.locks = false) {v : Option Value} (hv : meth.sig.returnType = none → v = none)
    (st : ∀ fs, (∀ (f : JFrame) (acts : List Action), f.method = m → f.locked = none → f.entered = [] → (doReturn e (T.setTop f) acts v).1 = T.setFrames fs) → Steps p.tables e below (T.setTop g) (T.setFrames fs))
    (hq : Q v T.heap locs) (hc : cells ≤ C) (hs : slots ≤ S) : Go p e below s C S Q T g := by
  obtain ⟨fs, hr, hrun, hended, hW, hsame⟩ := X.leave (v := v) hv hlk
  exact ⟨_, _, st fs hr, hrun, hended, v, locs, rfl, hq, ⟨_, rfl⟩, hW, hsame.mono hc hs⟩
theorem Go.retV (X : Stand p l e R s m args below meth c T locs cells slots) (hx : p.tables.exec = Jvm.exec) (hlk : meth.locks = false) (hret : meth.sig.returnType = none) {pc : Nat} {Ls : Array Slot} (hd : decode c.code pc = .ok (.return_, 1))
    (hc : cells ≤ C) (hs : slots ≤ S) (hq : Q none T.heap locs) : Go p e below s C S Q T (mkF m pc Ls []) :=
  Go.ret X hlk (fun _ => rfl) (fun fs hr => X.returnOut hx hret hd hr) hq hc hs
theorem Go.retW (X : Stand p l e R s m args below meth c T locs cells slots) (hx : p.tables.exec = Jvm.exec) (hlk : meth.locks = false) {t : FieldType} (hret : meth.sig.returnType = some t) {pc : Nat} {Ls : Array Slot} {w : Value} {i : Instr} {rest : List Value} (hn : narrow t w = w)
    (hi : (i = .ireturn ∧ (t = .int ∨ t = .boolean ∨ t = .byte ∨ t = .char ∨ t = .short) ∧ ∃ z, w = .int z) ∨ (i = .lreturn ∧ t = .long ∧ ∃ z, w = .long z) ∨ (i = .dreturn ∧ t = .double ∧ ∃ z, w = .double z) ∨ (i = .freturn ∧ t = .float ∧ ∃ z, w = .float z) ∨ (i = .areturn ∧ t.isReference = true ∧ w.isRef = true))
    (hd : decode c.code pc = .ok (i, 1)) (hc : cells ≤ C) (hs : slots ≤ S) (hq : Q (some w) T.heap locs) : Go p e below s C S Q T (mkF m pc Ls (w :: rest)) :=
  Go.ret X hlk (fun h => by rw [hret] at h; cases h) (fun fs hr => retOut X hx hret hn hi hd hr) hq hc hs
theorem Go.retI (X : Stand p l e R s m args below meth c T locs cells slots) (hx : p.tables.exec = Jvm.exec) (hlk : meth.locks = false) (hret : meth.sig.returnType = some .int) {pc : Nat} {Ls : Array Slot} {z : Int32} {rest : List Value}
    (hd : decode c.code pc = .ok (.ireturn, 1)) (hc : cells ≤ C) (hs : slots ≤ S) (hq : Q (some (.int z)) T.heap locs) : Go p e below s C S Q T (mkF m pc Ls (.int z :: rest)) :=
  Go.retW X hx hlk hret rfl (Or.inl ⟨rfl, Or.inl rfl, z, rfl⟩) hd hc hs hq
theorem Go.retZ (X : Stand p l e R s m args below meth c T locs cells slots) (hx : p.tables.exec = Jvm.exec) (hlk : meth.locks = false) (hret : meth.sig.returnType = some .boolean) {pc : Nat} {Ls : Array Slot} {z : Int32} {rest : List Value} (hz : z = 0 ∨ z = 1)
    (hd : decode c.code pc = .ok (.ireturn, 1)) (hc : cells ≤ C) (hs : slots ≤ S) (hq : Q (some (.int z)) T.heap locs) : Go p e below s C S Q T (mkF m pc Ls (.int z :: rest)) :=
  Go.retW X hx hlk hret (by rcases hz with rfl | rfl <;> rfl) (Or.inl ⟨rfl, Or.inr (Or.inl rfl), z, rfl⟩) hd hc hs hq
theorem Go.retJ (X : Stand p l e R s m args below meth c T locs cells slots) (hx : p.tables.exec = Jvm.exec) (hlk : meth.locks = false) (hret : meth.sig.returnType = some .long) {pc : Nat} {Ls : Array Slot} {z : Int64} {rest : List Value}
    (hd : decode c.code pc = .ok (.lreturn, 1)) (hc : cells ≤ C) (hs : slots ≤ S) (hq : Q (some (.long z)) T.heap locs) : Go p e below s C S Q T (mkF m pc Ls (.long z :: rest)) :=
  Go.retW X hx hlk hret rfl (Or.inr (Or.inl ⟨rfl, rfl, z, rfl⟩)) hd hc hs hq
theorem Go.retD (X : Stand p l e R s m args below meth c T locs cells slots) (hx : p.tables.exec = Jvm.exec) (hlk : meth.locks = false) (hret : meth.sig.returnType = some .double) {pc : Nat} {Ls : Array Slot} {z : UInt64} {rest : List Value}
    (hd : decode c.code pc = .ok (.dreturn, 1)) (hc : cells ≤ C) (hs : slots ≤ S) (hq : Q (some (.double z)) T.heap locs) : Go p e below s C S Q T (mkF m pc Ls (.double z :: rest)) :=
  Go.retW X hx hlk hret rfl (Or.inr (Or.inr (Or.inl ⟨rfl, rfl, z, rfl⟩))) hd hc hs hq
theorem Go.retR (X : Stand p l e R s m args below meth c T locs cells slots) (hx : p.tables.exec = Jvm.exec) (hlk : meth.locks = false) {t : FieldType} (hret : meth.sig.returnType = some t) (ht : t.isReference = true) {pc : Nat} {Ls : Array Slot} {w : Value} {rest : List Value} (hn : narrow t w = w) (hw : w.isRef = true)
    (hd : decode c.code pc = .ok (.areturn, 1)) (hc : cells ≤ C) (hs : slots ≤ S) (hq : Q (some w) T.heap locs) : Go p e below s C S Q T (mkF m pc Ls (w :: rest)) :=
  Go.retW X hx hlk hret hn (Or.inr (Or.inr (Or.inr (Or.inr ⟨rfl, ht, hw⟩)))) hd hc hs hq
/-- a method's contract out of its walk -/
theorem con_of {y : MethodName} {bytes : ByteArray} {ml : Nat} {rt : Option FieldType} {ws : List Jvm.Cond} {rm : Room} {as' : Array Value} {h0 : Heap} (hpl : plainFor y = true)
    (body : ∀ (p : Program) (e : Env) (s : State) (m : MethodId) (below : List Frame) (meth : Method) (c : Code) (T : State), Stand p l e rm s m as' below meth c T [] 0 0 → p.tables.exec = Jvm.exec → Z.Warmed39 s.vm → c.code = bytes → c.maxLocals = ml → s.vm.findClass y.cls = some m.cls → meth.name = y.name →
      meth.sig.returnType = rt → meth.locks = false → T.heap = h0 → Go p e below s rm.cells rm.slots Q T (entryFrame m as' ml)) :
    MetFree l y (head1 (Jvm.Cond.code y bytes ml rt :: ws) rm) (fun a U => a = as' ∧ Z.Warmed39 U.vm ∧ U.heap = h0) (fun _ _ _ _ _ => True) (fun _ U o U' => ∃ v L, o = .returned v ∧ Q v U'.heap L ∧ FrameEnd U o U' L rm.cells rm.slots) := by
  refine MetFree.of_bodySF hpl hisR ?_
  intro p e s m args below meth c s₁ Bd hml0 hP hK
  obtain ⟨rfl, hZ, hh⟩ := hP
  exact body p e s m below meth c s₁ (Stand.of_body Bd) Bd.exec hZ Bd.bytes hml0 (findClass_of_methodNamed Bd.named) (name_of_methodNamed Bd.named Bd.method).1 Bd.returns (BodyLoose.notSynchronized Bd) (by rw [← hh, Bd.state]; rfl)
abbrev Con (l : Launch) (Z : State) (y : MethodName) (bytes : ByteArray) (ml : Nat) (rt : Option FieldType) (rm : Room) (as' : Array Value) (h0 : Heap) (Q : Option Value → Heap → List Loc → Prop) : Prop :=
  MetFree l y (head1 [Jvm.Cond.code y bytes ml rt] rm) (fun a U => a = as' ∧ Z.Warmed39 U.vm ∧ U.heap = h0) (fun _ _ _ _ _ => True) (fun _ U o U' => ∃ v L, o = .returned v ∧ Q v U'.heap L ∧ FrameEnd U o U' L rm.cells rm.slots)
theorem Go.callS (X : Stand p l e R s m args below meth c T locs cells slots) (hx : p.tables.exec = Jvm.exec) (hZ : Z.Warmed39 s.vm) {own : String} {index : Nat} {y : MethodName} {bytes : ByteArray} {maxL : Nat} {ret : Option FieldType} {rm : Room} {as' : Array Value} {Qc : Option Value → Heap → List Loc → Prop} {W pc : Nat} {Ls : Array Slot} {st : List Value} {argsL rest : List Value} (hml : Ls.size = c.maxLocals)
    (hown : s.vm.findClass own = some m.cls) (w1 : (Jvm.Cond.methodLink own index y).before a0 Z = true) (w2 : (Jvm.Cond.static y).before a0 Z = true) (w3 : (Jvm.Cond.initialized y.cls).before a0 Z = true) (w4 : (Jvm.Cond.code y bytes maxL ret).before a0 Z = true) (hy : y.cls ≠ "java/lang/invoke/MethodHandle" ∧ y.cls ≠ "java/lang/invoke/VarHandle")
    (hM : Con l Z y bytes maxL ret rm as' h Qc) (eT : T.heap = h) (hd : decode c.code pc = .ok (.invokestatic index, 3)) (hlen : ∀ sig, parseMethodDescriptor y.desc = some sig → argsL.length = sig.parameters.length) (hst : st = argsL.reverse ++ rest) (has : argsL.toArray = as')
    (hW : (rest.map fun v => v.category).sum ≤ W) (hf : rm.frames + 1 ≤ R.frames) (hl : W + (maxL + 11) + rm.locals ≤ R.locals) (hc : cells + rm.cells ≤ R.cells) (hs : slots + rm.slots ≤ R.slots)
    (k : ∀ (v : Option Value) (T' : State) (L : List Loc), Stand p l e R s m args below meth c T' (locs ++ L) (cells + rm.cells) (slots + rm.slots) → Qc v T'.heap L → Go p e below s C S Q T' (mkF m (pc + 3) Ls (v.toList ++ rest))) :
    Go p e below s C S Q T (mkF m pc Ls st) := by
  obtain ⟨v, _, ⟨T', L', k', n'⟩, -, X', ⟨Lc, hQ, l1, y1, z1⟩, stp⟩ := Jvm.LawKit.callS X hx (y := y) hown (mvT hZ w1) (mvT hZ w2) (mvT hZ w3) (mvT hZ w4) hy (backOf (W := W) hM hZ w4 w3 hf hl) (g := mkF m pc Ls st) rfl hml (argsL := argsL) (rest := rest) hlen hst (by show 2 * 0 + _ ≤ _; omega) hd (fun _ _ => ⟨has, eT, hc, hs⟩)
  dsimp only [Pt.U, Pt.locs, Pt.cells, Pt.slots] at X' l1 y1 z1 stp hQ
  subst l1 y1 z1
  exact Go.step stp (k v T' Lc X' hQ)
theorem Go.callI (X : Stand p l e R s m args below meth c T locs cells slots) (hx : p.tables.exec = Jvm.exec) (hZ : Z.Warmed39 s.vm) {own : String} {index : Nat} {y : MethodName} {bytes : ByteArray} {maxL : Nat} {rm : Room} {as' : Array Value} {Qc : Option Value → Heap → List Loc → Prop} {W pc : Nat} {Ls : Array Slot} {st : List Value} {a : Addr} {argsL rest : List Value} (hml : Ls.size = c.maxLocals)
    (hy1 : y.name = "<init>") (hown : s.vm.findClass own = some m.cls) (w1 : (Jvm.Cond.methodLink own index y).before a0 Z = true) (w2 : (Jvm.Cond.instanceMethod y).before a0 Z = true) (w3 : (Jvm.Cond.initialized y.cls).before a0 Z = true) (w4 : (Jvm.Cond.code y bytes maxL none).before a0 Z = true) (hy : y.cls ≠ "java/lang/invoke/MethodHandle" ∧ y.cls ≠ "java/lang/invoke/VarHandle")
    (hM : Con l Z y bytes maxL none rm as' h Qc) (eT : T.heap = h) (hd : decode c.code pc = .ok (.invokespecial index, 3)) (hlen : ∀ sig, parseMethodDescriptor y.desc = some sig → argsL.length = sig.parameters.length) (hst : st = argsL.reverse ++ .ref a :: rest) (has : (Value.ref a :: argsL).toArray = as')
    (hW : (rest.map fun v => v.category).sum ≤ W) (hf : rm.frames + 1 ≤ R.frames) (hl : W + (maxL + 11) + rm.locals ≤ R.locals) (hc : cells + rm.cells ≤ R.cells) (hs : slots + rm.slots ≤ R.slots)
    (k : ∀ (v : Option Value) (T' : State) (L : List Loc), Stand p l e R s m args below meth c T' (locs ++ L) (cells + rm.cells) (slots + rm.slots) → Qc v T'.heap L → Go p e below s C S Q T' (mkF m (pc + 3) Ls (v.toList ++ rest))) :
    Go p e below s C S Q T (mkF m pc Ls st) := by
  obtain ⟨v, _, ⟨T', L', k', n'⟩, -, X', ⟨Lc, hQ, l1, y1, z1⟩, stp⟩ := X.specialBack hx (y := y) hy1 hown (mvT hZ w1) (mvT hZ w2) (mvT hZ w4) hy (backOf (W := W) hM hZ w4 w3 hf hl) (g := mkF m pc Ls st) rfl hml (Steps.refl _) (a := a) (argsL := argsL) (rest := rest) hlen hst (by show 2 * 0 + _ ≤ _; omega) hd (fun _ _ => ⟨has, eT, hc, hs⟩)
  dsimp only [Pt.U, Pt.locs, Pt.cells, Pt.slots] at X' l1 y1 z1 stp hQ
  subst l1 y1 z1
  exact Go.step (fun _ q => stp.trans q) (k v T' Lc X' hQ)
theorem Go.callV (X : Stand p l e R s m args below meth c T locs cells slots) (hx : p.tables.exec = Jvm.exec) (hZ : Z.Warmed39 s.vm) {own K : String} {index : Nat} {y z : MethodName} {bytes : ByteArray} {maxL : Nat} {ret : Option FieldType} {rm : Room} {as' : Array Value} {Qc : Option Value → Heap → List Loc → Prop} {W pc : Nat} {Ls : Array Slot} {st : List Value} {a : Addr} {argsL rest : List Value} (hml : Ls.size = c.maxLocals)
    (hown : s.vm.findClass own = some m.cls) (w1 : (Jvm.Cond.methodLink own index y).before a0 Z = true) (w2 : (Jvm.Cond.declares y).before a0 Z = true) (hnf : NotFace s y) (w5 : (Jvm.Cond.selects K y z).before a0 Z = true) (w6 : (Jvm.Cond.instanceMethod z).before a0 Z = true) (w3 : (Jvm.Cond.initialized z.cls).before a0 Z = true) (w4 : (Jvm.Cond.code z bytes maxL ret).before a0 Z = true) (hy : y.cls ≠ "java/lang/invoke/MethodHandle" ∧ y.cls ≠ "java/lang/invoke/VarHandle")
    (hM : Con l Z z bytes maxL ret rm as' h Qc) (eT : T.heap = h) (E : Exa Z h a K) (hd : decode c.code pc = .ok (.invokevirtual index, 3)) (hlen : ∀ sig, parseMethodDescriptor y.desc = some sig → argsL.length = sig.parameters.length) (hst : st = argsL.reverse ++ .ref a :: rest) (has : (Value.ref a :: argsL).toArray = as')
    (hW : (rest.map fun v => v.category).sum ≤ W) (hf : rm.frames + 1 ≤ R.frames) (hl : W + (maxL + 11) + rm.locals ≤ R.locals) (hc : cells + rm.cells ≤ R.cells) (hs : slots + rm.slots ≤ R.slots)
    (k : ∀ (v : Option Value) (T' : State) (L : List Loc), Stand p l e R s m args below meth c T' (locs ++ L) (cells + rm.cells) (slots + rm.slots) → Qc v T'.heap L → Go p e below s C S Q T' (mkF m (pc + 3) Ls (v.toList ++ rest))) :
    Go p e below s C S Q T (mkF m pc Ls st) := by
  obtain ⟨cq, kq, qa, qb, qc⟩ := isOf hZ eT E
  obtain ⟨v, _, ⟨T', L', k', n'⟩, -, X', ⟨Lc, hQ, l1, y1, z1⟩, stp⟩ := X.virtualBack hx (y := y) (z := z) hown (mvT hZ w1) (mvT hZ w2) hnf (mvT hZ w5) (mvT hZ w6) hy (backOf (W := W) hM hZ w4 w3 hf hl) qa qc (g := mkF m pc Ls st) rfl hml (Steps.refl _) (argsL := argsL) (rest := rest) hlen hst (by show 2 * 0 + _ ≤ _; omega) hd (fun _ _ => ⟨has, eT, hc, hs⟩)
  dsimp only [Pt.U, Pt.locs, Pt.cells, Pt.slots] at X' l1 y1 z1 stp hQ
  subst l1 y1 z1
  exact Go.step (fun _ q => stp.trans q) (k v T' Lc X' hQ)
theorem Go.callP (X : Stand p l e R s m args below meth c T locs cells slots) (hx : p.tables.exec = Jvm.exec) (hZ : Z.Warmed39 s.vm) {own : String} {index : Nat} {y : MethodName} {bytes : ByteArray} {maxL : Nat} {ret : Option FieldType} {rm : Room} {as' : Array Value} {Qc : Option Value → Heap → List Loc → Prop} {W pc : Nat} {Ls : Array Slot} {st : List Value} {a : Addr} {argsL rest : List Value} (hml : Ls.size = c.maxLocals)
    (hown : s.vm.findClass own = some m.cls) (w1 : (Jvm.Cond.methodLink own index y).before a0 Z = true) (w6 : (Jvm.Cond.instanceMethod y).before a0 Z = true) {kk : Nat} (w5 : (Jvm.Cond.instantiable y.cls kk).before a0 Z = true) (w7 : (Jvm.Cond.privateMethod y).before a0 Z = true) (w3 : (Jvm.Cond.initialized y.cls).before a0 Z = true) (w4 : (Jvm.Cond.code y bytes maxL ret).before a0 Z = true) (hy : y.cls ≠ "java/lang/invoke/MethodHandle" ∧ y.cls ≠ "java/lang/invoke/VarHandle")
    (hM : Con l Z y bytes maxL ret rm as' h Qc) (eT : T.heap = h) {K : String} (E : Exa Z h a K) (hd : decode c.code pc = .ok (.invokevirtual index, 3)) (hlen : ∀ sig, parseMethodDescriptor y.desc = some sig → argsL.length = sig.parameters.length) (hst : st = argsL.reverse ++ .ref a :: rest) (has : (Value.ref a :: argsL).toArray = as')
    (hW : (rest.map fun v => v.category).sum ≤ W) (hf : rm.frames + 1 ≤ R.frames) (hl : W + (maxL + 11) + rm.locals ≤ R.locals) (hc : cells + rm.cells ≤ R.cells) (hs : slots + rm.slots ≤ R.slots)
    (k : ∀ (v : Option Value) (T' : State) (L : List Loc), Stand p l e R s m args below meth c T' (locs ++ L) (cells + rm.cells) (slots + rm.slots) → Qc v T'.heap L → Go p e below s C S Q T' (mkF m (pc + 3) Ls (v.toList ++ rest))) :
    Go p e below s C S Q T (mkF m pc Ls st) := by
  obtain ⟨cq, q1, q2⟩ := E.cell
  have hpriv : s.PrivateAt y := Cond.privateMethod_at (mvP hZ w7 (args := #[]))
  have w5' : (Jvm.Cond.instantiable y.cls kk).before args s = true := mvT hZ w5
  obtain ⟨c1, k1, i1, i2, -, i4, -⟩ := Cond.instantiable_spec w5'
  have hsel : (Jvm.Cond.selects y.cls y y).before args s = true := selects_self_of_private i1 i2 (by simp only [Bool.or_eq_false_iff] at i4; exact i4.1) hpriv (mvT hZ w6) hy
  obtain ⟨v, _, ⟨T', L', k', n'⟩, -, X', ⟨Lc, hQ, l1, y1, z1⟩, stp⟩ := X.privateBack hx (y := y) hown (mvT hZ w1) (mvT hZ w6) hsel hpriv (mvT hZ w4) hy (backOf (W := W) hM hZ w4 w3 hf hl) (g := mkF m pc Ls st) rfl hml (Steps.refl _) (a := a) (by rw [eT]; exact q1) q2 (argsL := argsL) (rest := rest) hlen hst (by show 2 * 0 + _ ≤ _; omega) hd (fun _ _ => ⟨has, eT, hc, hs⟩)
  dsimp only [Pt.U, Pt.locs, Pt.cells, Pt.slots] at X' l1 y1 z1 stp hQ
  subst l1 y1 z1
  exact Go.step (fun _ q => stp.trans q) (k v T' Lc X' hQ)
end OwnGo
/-! OWN: branches on a comparison of doubles, as javac writes them -/
section OwnCmp
variable {x y : UInt64}
theorem cv_none (o : CmpOp) (h : FP.dcmp x y = none) : cmpValue (FP.dcmp x y) o = (match o with | .l => -1 | .g => 1) := by rw [h]; cases o <;> rfl
theorem gt_y (h : FP.dcmp x y = some .gt) : ifCond.holds .le (cmpValue (FP.dcmp x y) .l) = false := by rw [h]; rfl
theorem gt_n (h : ¬ FP.dcmp x y = some .gt) : ifCond.holds .le (cmpValue (FP.dcmp x y) .l) = true := by
  rcases q : FP.dcmp x y with _ | (_ | _ | _) <;> first | rfl | exact absurd q h
theorem ge_y (h : FP.dcmp x y = some .gt ∨ FP.dcmp x y = some .eq) : ifCond.holds .lt (cmpValue (FP.dcmp x y) .l) = false := by rcases h with h | h <;> rw [h] <;> rfl
theorem ge_n (h : ¬ (FP.dcmp x y = some .gt ∨ FP.dcmp x y = some .eq)) : ifCond.holds .lt (cmpValue (FP.dcmp x y) .l) = true := by
  rcases q : FP.dcmp x y with _ | (_ | _ | _) <;> first | rfl | exact absurd (Or.inl q) h | exact absurd (Or.inr q) h
theorem lt_y (h : FP.dcmp x y = some .lt) : ifCond.holds .ge (cmpValue (FP.dcmp x y) .g) = false := by rw [h]; rfl
theorem lt_n (h : ¬ FP.dcmp x y = some .lt) : ifCond.holds .ge (cmpValue (FP.dcmp x y) .g) = true := by
  rcases q : FP.dcmp x y with _ | (_ | _ | _) <;> first | rfl | exact absurd q h
theorem le_y (h : FP.dcmp x y = some .lt ∨ FP.dcmp x y = some .eq) : ifCond.holds .gt (cmpValue (FP.dcmp x y) .g) = false := by rcases h with h | h <;> rw [h] <;> rfl
theorem le_n (h : ¬ (FP.dcmp x y = some .lt ∨ FP.dcmp x y = some .eq)) : ifCond.holds .gt (cmpValue (FP.dcmp x y) .g) = true := by
  rcases q : FP.dcmp x y with _ | (_ | _ | _) <;> first | rfl | exact absurd (Or.inl q) h | exact absurd (Or.inr q) h
theorem eq_y (o : CmpOp) (h : FP.dcmp x y = some .eq) : ifCond.holds .ne (cmpValue (FP.dcmp x y) o) = false ∧ ifCond.holds .eq (cmpValue (FP.dcmp x y) o) = true := by rw [h]; cases o <;> exact ⟨rfl, rfl⟩
theorem eq_n (o : CmpOp) (h : ¬ FP.dcmp x y = some .eq) : ifCond.holds .ne (cmpValue (FP.dcmp x y) o) = true ∧ ifCond.holds .eq (cmpValue (FP.dcmp x y) o) = false := by
  rcases q : FP.dcmp x y with _ | (_ | _ | _) <;> cases o <;> first | exact ⟨rfl, rfl⟩ | exact absurd q h
/-- x > y, by a taken 'ifgt' over dcmpl -/
theorem gtT_y (h : FP.dcmp x y = some .gt) : ifCond.holds .gt (cmpValue (FP.dcmp x y) .l) = true := by rw [h]; rfl
theorem gtT_n (h : ¬ FP.dcmp x y = some .gt) : ifCond.holds .gt (cmpValue (FP.dcmp x y) .l) = false := by
  rcases q : FP.dcmp x y with _ | (_ | _ | _) <;> first | rfl | exact absurd q h
theorem geT_y (h : FP.dcmp x y = some .gt ∨ FP.dcmp x y = some .eq) : ifCond.holds .ge (cmpValue (FP.dcmp x y) .l) = true := by rcases h with h | h <;> rw [h] <;> rfl
theorem geT_n (h : ¬ (FP.dcmp x y = some .gt ∨ FP.dcmp x y = some .eq)) : ifCond.holds .ge (cmpValue (FP.dcmp x y) .l) = false := by
  rcases q : FP.dcmp x y with _ | (_ | _ | _) <;> first | rfl | exact absurd (Or.inl q) h | exact absurd (Or.inr q) h
theorem ltT_y (h : FP.dcmp x y = some .lt) : ifCond.holds .lt (cmpValue (FP.dcmp x y) .g) = true := by rw [h]; rfl
theorem ltT_n (h : ¬ FP.dcmp x y = some .lt) : ifCond.holds .lt (cmpValue (FP.dcmp x y) .g) = false := by
  rcases q : FP.dcmp x y with _ | (_ | _ | _) <;> first | rfl | exact absurd q h
theorem leT_y (h : FP.dcmp x y = some .lt ∨ FP.dcmp x y = some .eq) : ifCond.holds .le (cmpValue (FP.dcmp x y) .g) = true := by rcases h with h | h <;> rw [h] <;> rfl
theorem leT_n (h : ¬ (FP.dcmp x y = some .lt ∨ FP.dcmp x y = some .eq)) : ifCond.holds .le (cmpValue (FP.dcmp x y) .g) = false := by
  rcases q : FP.dcmp x y with _ | (_ | _ | _) <;> first | rfl | exact absurd (Or.inl q) h | exact absurd (Or.inr q) h
end OwnCmp
theorem mI {α : Type} {l : List α} {a : α} (i : Nat) (h : l[i]? = some a) : a ∈ l := List.mem_of_getElem? h

/-! OWN: arrays by a function of the place -/
def updN {α : Type} (g : Nat → α) (j : Nat) (x : α) : Nat → α := fun i => if i = j then x else g i
theorem updN_same {α : Type} (g : Nat → α) (j : Nat) (x : α) : updN g j x j = x := by simp [updN]
theorem updN_ne {α : Type} {g : Nat → α} {i j : Nat} {x : α} (h : i ≠ j) : updN g j x i = g i := by simp [updN, h]
def Fv (Z : State) (h : Heap) (a : Addr) (ty : FieldType) (n : Int32) (f : Nat → Value) : Prop :=
  ∃ c : Cell, Arr Z h a c ty ∧ c.slots.size = n.toNatClampNeg ∧ ¬ n < 0 ∧ (∀ i, fits ty (f i) = true) ∧ ∀ i, i < c.slots.size → c.slots[i]? = some (f i)
abbrev Dv (Z : State) (h : Heap) (a : Addr) (n : Int32) (g : Nat → UInt64) : Prop := Fv Z h a .double n (fun i => .double (g i))
abbrev Iv (Z : State) (h : Heap) (a : Addr) (n : Int32) (g : Nat → Int32) : Prop := Fv Z h a .int n (fun i => .int (g i))
section OwnFv
variable {Z : State} {h h' : Heap} {a b : Addr} {ty : FieldType} {n j : Int32} {f : Nat → Value} {v : Value} {sl : Nat} {ws : List Addr}
theorem Fv.lt (F : Fv Z h a ty n f) : a < h.size := by obtain ⟨c, A, -⟩ := F; exact A.lt
theorem Fv.ext (F : Fv Z h a ty n f) (E : Ext h h') : Fv Z h' a ty n f := by obtain ⟨c, A, r⟩ := F; exact ⟨c, A.ext E, r⟩
theorem Fv.other (F : Fv Z h b ty n f) (W : Wr h h' a sl v) (q : b ≠ a) : Fv Z h' b ty n f := by obtain ⟨c, A, r⟩ := F; exact ⟨c, A.other W q, r⟩
theorem Fv.keep (F : Fv Z h a ty n f) (K : Keep h h' ws) (q : a ∉ ws) : Fv Z h' a ty n f := by obtain ⟨c, A, r⟩ := F; exact ⟨c, ⟨K.2.1 a c A.1 q, A.2⟩, r⟩
theorem Fv.new {k : ClassId} (A : Arr Z h a (newA k ty n) ty) (q : ¬ n < 0) : Fv Z h a ty n (fun _ => defaultValue ty) := ⟨_, A, sz_new _ _ _, q, fun i => by cases ty <;> rfl, fun i hi => by
  rw [sz_new] at hi; simp [newA, hi]⟩
theorem own_nat_of {j : Int32} (h : ¬ j < 0) : (j.toNatClampNeg : Int) = j.toInt := by
  rw [Int32.lt_iff_toInt_lt] at h; have e0 : (0 : Int32).toInt = 0 := rfl
  rw [Int32.toNatClampNeg]; omega
theorem Fv.set (F : Fv Z h a ty n f) (W : Wr h h' a j.toNatClampNeg v) (hv : fits ty v = true) : Fv Z h' a ty n (updN f j.toNatClampNeg v) := by
  obtain ⟨c, A, S, P, G, H⟩ := F
  refine ⟨_, A.same W, by rw [sz_set]; exact S, P, fun i => ?_, fun i hi => ?_⟩
  · unfold updN; split
    · exact hv
    · exact G i
  · rw [sz_set] at hi
    unfold updN
    by_cases u : i = j.toNatClampNeg
    · rw [if_pos u, u]; rw [u] at hi; simp [Cell.setSlot, hi]
    · rw [if_neg u]; simp only [Cell.setSlot]; rw [Array.getElem?_setIfInBounds_ne (Ne.symm u)]; exact H i hi
theorem Dv.set {g : Nat → UInt64} {x : UInt64} (F : Dv Z h a n g) (W : Wr h h' a j.toNatClampNeg (.double x)) : Dv Z h' a n (updN g j.toNatClampNeg x) := by
  have := Fv.set F W rfl
  have e : (updN (fun i => Value.double (g i)) j.toNatClampNeg (.double x)) = fun i => Value.double (updN g j.toNatClampNeg x i) := by
    funext i; unfold updN; split <;> rfl
  rw [e] at this; exact this
theorem Iv.set {g : Nat → Int32} {x : Int32} (F : Iv Z h a n g) (W : Wr h h' a j.toNatClampNeg (.int x)) : Iv Z h' a n (updN g j.toNatClampNeg x) := by
  have := Fv.set F W rfl
  have e : (updN (fun i => Value.int (g i)) j.toNatClampNeg (.int x)) = fun i => Value.int (updN g j.toNatClampNeg x i) := by
    funext i; unfold updN; split <;> rfl
  rw [e] at this; exact this
theorem Fv.congr {f' : Nat → Value} (F : Fv Z h a ty n f) (q : ∀ i, f i = f' i) : Fv Z h a ty n f' := by rw [← (funext q : f = f')]; exact F
theorem Fv.inb {c : Cell} (S : c.slots.size = n.toNatClampNeg) (q : ¬ j < 0 ∧ j < n) : ¬ (j < 0 ∨ c.slots.size ≤ j.toNatClampNeg) := inb_of S q
variable {p : Program} {l : Launch} {e : Env} {R : Room} {s : State} {m : MethodId} {args : Array Value} {below : List Frame} {meth : Method} {c : Code} {T : State} {locs : List Loc} {cells slots : Nat} {C S : Nat} {Q : Option Value → Heap → List Loc → Prop} {pc : Nat} {Ls : Array Slot} {rest : List Value}
theorem Go.alen (X : Stand p l e R s m args below meth c T locs cells slots) (hx : p.tables.exec = Jvm.exec) (hZ : Z.Warmed39 s.vm) (eT : T.heap = h) (F : Fv Z h a ty n f) (hd : decode c.code pc = .ok (.arraylength, 1))
    (k : Go p e below s C S Q T (mkF m (pc + 1) Ls (.int n :: rest))) : Go p e below s C S Q T (mkF m pc Ls (.ref a :: rest)) := by
  obtain ⟨cl, A, S', P, -, -⟩ := F
  refine Go.step (X.arraylength hx (cell := cl) (by rw [eT]; exact A.1) (State.isArrayOf_alike hZ.alike A.2.1) (g := mkF m pc Ls (.ref a :: rest)) rfl rfl hd) ?_
  rw [len_of S' P]; exact k
theorem Go.iaload {g : Nat → Int32} {v : Int32} (X : Stand p l e R s m args below meth c T locs cells slots) (hx : p.tables.exec = Jvm.exec) (hZ : Z.Warmed39 s.vm) (eT : T.heap = h) (F : Iv Z h a n g) (hj : ¬ j < 0 ∧ j < n) (hv : g j.toNatClampNeg = v) (hd : decode c.code pc = .ok (.iaload, 1))
    (k : Go p e below s C S Q T (mkF m (pc + 1) Ls (.int v :: rest))) : Go p e below s C S Q T (mkF m pc Ls (.int j :: .ref a :: rest)) := by
  obtain ⟨cl, A, S', P, G, H⟩ := F
  have q := inb_of S' hj
  exact Go.step (fun t r => X.iaload hx (j := j) (v := .int v) (by rw [eT]; exact A.1) (State.isArrayOf_alike hZ.alike A.2.1) A.2.2 q (by rw [← hv]; exact H _ (Nat.lt_of_not_le fun z => q (Or.inr z))) (g := mkF m pc Ls (.int j :: .ref a :: rest)) rfl rfl hd t r) k
theorem Go.daload {g : Nat → UInt64} {v : UInt64} (X : Stand p l e R s m args below meth c T locs cells slots) (hx : p.tables.exec = Jvm.exec) (hZ : Z.Warmed39 s.vm) (eT : T.heap = h) (F : Dv Z h a n g) (hj : ¬ j < 0 ∧ j < n) (hv : g j.toNatClampNeg = v) (hd : decode c.code pc = .ok (.daload, 1))
    (k : Go p e below s C S Q T (mkF m (pc + 1) Ls (.double v :: rest))) : Go p e below s C S Q T (mkF m pc Ls (.int j :: .ref a :: rest)) := by
  obtain ⟨cl, A, S', P, G, H⟩ := F
  have q := inb_of S' hj
  exact Go.step (fun t r => X.daload hx (j := j) (v := .double v) (by rw [eT]; exact A.1) (State.isArrayOf_alike hZ.alike A.2.1) A.2.2 q (by rw [← hv]; exact H _ (Nat.lt_of_not_le fun z => q (Or.inr z))) (g := mkF m pc Ls (.int j :: .ref a :: rest)) rfl rfl hd t r) k
theorem Go.iastore {g : Nat → Int32} {x : Int32} (X : Stand p l e R s m args below meth c T locs cells slots) (hx : p.tables.exec = Jvm.exec) (hZ : Z.Warmed39 s.vm) (eT : T.heap = h) (F : Iv Z h a n g) (hj : ¬ j < 0 ∧ j < n) (hd : decode c.code pc = .ok (.iastore, 1))
    (k : ∀ T' h', Stand p l e R s m args below meth c T' (locs ++ [⟨a, j.toNatClampNeg⟩]) cells slots → T'.heap = h' → Wr h h' a j.toNatClampNeg (.int x) → Iv Z h' a n (updN g j.toNatClampNeg x) → Go p e below s C S Q T' (mkF m (pc + 1) Ls rest)) : Go p e below s C S Q T (mkF m pc Ls (.int x :: .int j :: .ref a :: rest)) := by
  have F0 := F
  obtain ⟨cl, A, S', P, G, H⟩ := F
  obtain ⟨T', h', X', e', W, st⟩ := stI X hx hZ eT A (j := j) (x := x) (inb_of S' hj) (g := mkF m pc Ls (.int x :: .int j :: .ref a :: rest)) rfl rfl hd
  exact Go.step st (k T' h' X' e' W (Iv.set F0 W))
theorem Go.dastore {g : Nat → UInt64} {x : UInt64} (X : Stand p l e R s m args below meth c T locs cells slots) (hx : p.tables.exec = Jvm.exec) (hZ : Z.Warmed39 s.vm) (eT : T.heap = h) (F : Dv Z h a n g) (hj : ¬ j < 0 ∧ j < n) (hd : decode c.code pc = .ok (.dastore, 1))
    (k : ∀ T' h', Stand p l e R s m args below meth c T' (locs ++ [⟨a, j.toNatClampNeg⟩]) cells slots → T'.heap = h' → Wr h h' a j.toNatClampNeg (.double x) → Dv Z h' a n (updN g j.toNatClampNeg x) → Go p e below s C S Q T' (mkF m (pc + 1) Ls rest)) : Go p e below s C S Q T (mkF m pc Ls (.double x :: .int j :: .ref a :: rest)) := by
  have F0 := F
  obtain ⟨cl, A, S', P, G, H⟩ := F
  obtain ⟨T', h', X', e', W, st⟩ := stD X hx hZ eT A (j := j) (x := x) (inb_of S' hj) (g := mkF m pc Ls (.double x :: .int j :: .ref a :: rest)) rfl rfl hd
  exact Go.step st (k T' h' X' e' W (Dv.set F0 W))
abbrev Zv (Z : State) (h : Heap) (a : Addr) (n : Int32) (g : Nat → Int32) : Prop := Fv Z h a .boolean n (fun i => .int (g i))
theorem Zv.set {g : Nat → Int32} {x : Int32} (F : Zv Z h a n g) (W : Wr h h' a j.toNatClampNeg (.int x)) (hb : fits .boolean (.int x) = true) : Zv Z h' a n (updN g j.toNatClampNeg x) := by
  have := Fv.set F W hb
  have e : (updN (fun i => Value.int (g i)) j.toNatClampNeg (.int x)) = fun i => Value.int (updN g j.toNatClampNeg x i) := by
    funext i; unfold updN; split <;> rfl
  rw [e] at this; exact this
theorem Go.zaload {g : Nat → Int32} {v : Int32} (X : Stand p l e R s m args below meth c T locs cells slots) (hx : p.tables.exec = Jvm.exec) (hZ : Z.Warmed39 s.vm) (eT : T.heap = h) (F : Zv Z h a n g) (hj : ¬ j < 0 ∧ j < n) (hv : g j.toNatClampNeg = v) (hd : decode c.code pc = .ok (.baload, 1))
    (k : Go p e below s C S Q T (mkF m (pc + 1) Ls (.int v :: rest))) : Go p e below s C S Q T (mkF m pc Ls (.int j :: .ref a :: rest)) := by
  obtain ⟨cl, A, S', P, G, H⟩ := F
  have q := inb_of S' hj
  exact Go.step (fun t r => X.baloadBooleans hx (j := j) (v := .int v) (by rw [eT]; exact A.1) (State.isArrayOf_alike hZ.alike A.2.1) A.2.2 q (by rw [← hv]; exact H _ (Nat.lt_of_not_le fun z => q (Or.inr z))) (g := mkF m pc Ls (.int j :: .ref a :: rest)) rfl rfl hd t r) k
theorem Go.zastore {g : Nat → Int32} {x : Int32} (X : Stand p l e R s m args below meth c T locs cells slots) (hx : p.tables.exec = Jvm.exec) (hZ : Z.Warmed39 s.vm) (eT : T.heap = h) (F : Zv Z h a n g) (hj : ¬ j < 0 ∧ j < n) (hn : nar .boolean x = x) (hd : decode c.code pc = .ok (.bastore, 1))
    (k : ∀ T' h', Stand p l e R s m args below meth c T' (locs ++ [⟨a, j.toNatClampNeg⟩]) cells slots → T'.heap = h' → Wr h h' a j.toNatClampNeg (.int x) → Zv Z h' a n (updN g j.toNatClampNeg x) → Go p e below s C S Q T' (mkF m (pc + 1) Ls rest)) : Go p e below s C S Q T (mkF m pc Ls (.int x :: .int j :: .ref a :: rest)) := by
  have F0 := F
  obtain ⟨cl, A, S', P, G, H⟩ := F
  have hj' := inb_of S' hj
  obtain ⟨X', st⟩ := bastoreZ X hx (by rw [eT]; exact A.1) (State.isArrayOf_alike hZ.alike A.2.1) A.2.2 hj' (g := mkF m pc Ls (.int x :: .int j :: .ref a :: rest)) rfl rfl hd
  rw [hn] at X' st
  have W : Wr h (T.setCell a (cl.setSlot j.toNatClampNeg (.int x))).heap a j.toNatClampNeg (.int x) := ⟨cl, A.1, A.plain, Nat.lt_of_not_le fun q => hj' (Or.inr q), by rw [← eT]; rfl⟩
  exact Go.step st (k _ _ X' rfl W (Zv.set F0 W (by rw [← hn]; exact fits_nar_bool x)))
/-- clone() of an array -/
theorem Go.clone {a0 : Array Value} {own ad : String} {index W cap : Nat} (X : Stand p l e R s m args below meth c T locs cells slots) (hx : p.tables.exec = Jvm.exec) (hZ : Z.Warmed39 s.vm) (hml : Ls.size = c.maxLocals) (hown : s.vm.findClass own = some m.cls)
    (w1 : (Jvm.Cond.methodLink own index ⟨ad, "clone", "()Ljava/lang/Object;"⟩).before a0 Z = true) (w2 : (Jvm.Cond.sameMethod ad "java/lang/Object" "clone" "()Ljava/lang/Object;").before a0 Z = true) (w3 : (Jvm.Cond.native ⟨"java/lang/Object", "clone", "()Ljava/lang/Object;"⟩).before a0 Z = true)
    (w4 : (Jvm.Cond.instanceMethod ⟨"java/lang/Object", "clone", "()Ljava/lang/Object;"⟩).before a0 Z = true) (w5 : (Jvm.Cond.selects ad ⟨ad, "clone", "()Ljava/lang/Object;"⟩ ⟨"java/lang/Object", "clone", "()Ljava/lang/Object;"⟩).before a0 Z = true) (w6 : (Jvm.Cond.castable ad "java/lang/Cloneable").before a0 Z = true)
    (eT : T.heap = h) (F : Fv Z h a ty n f) (E : Exa Z h a ad) (hd : decode c.code pc = .ok (.invokevirtual index, 3)) (hf : 1 ≤ R.frames) (hW : (rest.map fun v => v.category).sum ≤ W) (hl : W + 14 ≤ R.locals) (hcap : n.toNatClampNeg ≤ cap) (hc : cells + 1 ≤ R.cells) (hsl : slots + cap ≤ R.slots)
    (k : ∀ T' h' b, b = h.size → Stand p l e R s m args below meth c T' locs (cells + 1) (slots + cap) → T'.heap = h' → Ext h h' → Fv Z h' b ty n f → Exa Z h' b ad → Go p e below s C S Q T' (mkF m (pc + 3) Ls (.ref b :: rest))) : Go p e below s C S Q T (mkF m pc Ls (.ref a :: rest)) := by
  obtain ⟨cl, A, S', P, G, H⟩ := F
  have FC : FitC Z cl := fitC_of A fun i hi v hv => by rw [H i hi] at hv; cases hv; exact G i
  obtain ⟨T', h', X', e', ex, A', E', st⟩ := cloneA X hx hZ hown w1 w2 w3 w4 w5 w6 eT A E FC (g := mkF m pc Ls (.ref a :: rest)) rfl hml rfl hd hf (by show 2 * 0 + _ ≤ _; omega) hl (by rw [S']; exact hcap) hc hsl
  exact Go.step st (k T' h' _ rfl X' e' ex ⟨cloneOf cl, A', S', P, G, H⟩ E')
end OwnFv

section OwnConv
open Jvm.FP.Core
theorem own_nnN {a : UInt64} (h : val64 a ≠ .nan) : Jvm.Free.Fl.NoNaN64 a := Jvm.Free.Fl.noNaN64_no.mpr ((notNaN_iff a).mpr h)
theorem own_Nnn {a : UInt64} (h : Jvm.Free.Fl.NoNaN64 a) : val64 a ≠ .nan := (notNaN_iff a).mp (Jvm.Free.Fl.noNaN64_no.mp h)
theorem own_finF {a : UInt64} (h : DFin a) : Jvm.Free.Fl.Fin64 a := Jvm.Free.Fl.fin64_core.mpr h
theorem own_Ffin {a : UInt64} (h : Jvm.Free.Fl.Fin64 a) : DFin a := Jvm.Free.Fl.fin64_core.mp h
theorem own_nnF {a : UInt64} (h : DFin a) : Jvm.Free.Fl.NoNaN64 a := own_nnN h.ne_nan
theorem own_nz {x : Int64} (h : x ≠ 0) : Jvm.Free.Fl.Nz64 (FP.l2d x) := Jvm.Free.Fl.nz64_core.mpr (fun z => l2d_ne_zero h ((zero_bits2 _).mp z))
theorem own_eqD {a b : UInt64} (h : a = b) (n : Jvm.Free.Fl.NoNaN64 a) : FP.dcmp a b = some .eq := by subst h; exact dcmp_self (own_Nnn n)
end OwnConv

section OwnLE
open Jvm.FP.Core
def Sm (P : Nat → Int32) : Prop := ∀ k, -128 ≤ (P k).toInt ∧ (P k).toInt ≤ 127
def In4 (x : Int32) : Prop := 1 ≤ x.toInt ∧ x.toInt ≤ 4
def Vx (P Q C : Nat → Int32) (k : Nat) (x : Int32) : Int := (P k).toInt + (Q k).toInt * (x.toInt - (C k).toInt)
theorem own_mulB {a b : Int} (ha1 : -128 ≤ a) (ha2 : a ≤ 127) (hb1 : -126 ≤ b) (hb2 : b ≤ 132) : (a * b).natAbs ≤ 17000 := by
  rw [Int.natAbs_mul]
  have h1 : a.natAbs ≤ 128 := by omega
  have h2 : b.natAbs ≤ 132 := by omega
  exact Nat.le_trans (Nat.mul_le_mul h1 h2) (by decide)
theorem own_lineA {p q c x : Int32} (hp : -128 ≤ p.toInt ∧ p.toInt ≤ 127) (hq : -128 ≤ q.toInt ∧ q.toInt ≤ 127) (hc : -128 ≤ c.toInt ∧ c.toInt ≤ 127) (hx : In4 x) :
    DInt (q.toInt * (x.toInt - c.toInt)) (FP.dmul (FP.i2d q) (FP.i2d (x - c))) ∧ DInt (p.toInt + q.toInt * (x.toInt - c.toInt)) (FP.dadd (FP.i2d p) (FP.dmul (FP.i2d q) (FP.i2d (x - c)))) := by
  obtain ⟨hx1, hx2⟩ := hx
  have hs : (x - c).toInt = x.toInt - c.toInt := by
    have := c_isub x c; have h1 := Int32.toInt_lt (x - c); have h2 := Int32.le_toInt (x - c); omega
  have h3 := own_mulB hq.1 hq.2 (b := x.toInt - c.toInt) (by omega) (by omega)
  have e := i2d_int (x - c); rw [hs] at e
  have h1 := dmul_int (i2d_int q) e (by omega)
  exact ⟨h1, dadd_int (i2d_int p) h1 (by omega)⟩
def lowP (P Q C : Nat → Int32) (i j x : Int32) : Prop := Vx P Q C i.toNatClampNeg x < Vx P Q C j.toNatClampNeg x ∨ (Vx P Q C i.toNatClampNeg x = Vx P Q C j.toNatClampNeg x ∧ j < i)
instance (P Q C : Nat → Int32) (i j x : Int32) : Decidable (lowP P Q C i j x) := by unfold lowP; infer_instance
def lowW (P Q C : Nat → Int32) (i j x : Int32) : Int32 := if lowP P Q C i j x then 1 else 0
def ln (P Q C : Nat → Int32) (i x : Int32) : UInt64 := FP.dadd (FP.i2d (P i.toNatClampNeg)) (FP.dmul (FP.i2d (Q i.toNatClampNeg)) (FP.i2d (x - C i.toNatClampNeg)))
section Low
variable {P Q C : Nat → Int32} {i j x : Int32}
theorem own_lnI (hP : Sm P) (hQ : Sm Q) (hC : Sm C) (hx : In4 x) : DInt (Vx P Q C i.toNatClampNeg x) (ln P Q C i x) := (own_lineA (hP _) (hQ _) (hC _) hx).2
theorem own_lnN (hP : Sm P) (hQ : Sm Q) (hC : Sm C) (hx : In4 x) : Jvm.Free.Fl.NoNaN64 (FP.dmul (FP.i2d (Q i.toNatClampNeg)) (FP.i2d (x - C i.toNatClampNeg))) ∧ Jvm.Free.Fl.NoNaN64 (FP.dadd (FP.i2d (P i.toNatClampNeg)) (FP.dmul (FP.i2d (Q i.toNatClampNeg)) (FP.i2d (x - C i.toNatClampNeg)))) :=
  ⟨own_nnN (DInt_ne_nan (own_lineA (hP 0) (hQ _) (hC _) hx).1), own_nnN (DInt_ne_nan (own_lineA (hP _) (hQ _) (hC _) hx).2)⟩
theorem own_lnC (hP : Sm P) (hQ : Sm Q) (hC : Sm C) (hx : In4 x) : FP.dcmp (ln P Q C i x) (ln P Q C j x) = some (compare (Vx P Q C i.toNatClampNeg x) (Vx P Q C j.toNatClampNeg x)) := dcmp_int (own_lnI hP hQ hC hx) (own_lnI hP hQ hC hx)
theorem own_low_lt (hP : Sm P) (hQ : Sm Q) (hC : Sm C) (hx : In4 x) (h : FP.dcmp (ln P Q C i x) (ln P Q C j x) = some .lt) : lowW P Q C i j x = 1 := by
  rw [own_lnC hP hQ hC hx] at h; have := (compare_lt_iff _ _).mp (Option.some.inj h)
  exact if_pos (Or.inl this)
theorem own_low_gt (hP : Sm P) (hQ : Sm Q) (hC : Sm C) (hx : In4 x) (h : ¬ FP.dcmp (ln P Q C i x) (ln P Q C j x) = some .lt) (h' : ¬ FP.dcmp (ln P Q C i x) (ln P Q C j x) = some .eq) : lowW P Q C i j x = 0 := by
  rw [own_lnC hP hQ hC hx] at h h'
  refine if_neg fun q => ?_
  rcases q with q | ⟨q, -⟩
  · exact h (congrArg some ((compare_lt_iff _ _).mpr q))
  · exact h' (congrArg some ((compare_eq_iff _ _).mpr q))
theorem own_low_e1 (hP : Sm P) (hQ : Sm Q) (hC : Sm C) (hx : In4 x) (h : FP.dcmp (ln P Q C i x) (ln P Q C j x) = some .eq) (hj : j < i) : lowW P Q C i j x = 1 := by
  rw [own_lnC hP hQ hC hx] at h; have := (compare_eq_iff _ _).mp (Option.some.inj h)
  exact if_pos (Or.inr ⟨this, hj⟩)
theorem own_low_e0 (hP : Sm P) (hQ : Sm Q) (hC : Sm C) (hx : In4 x) (h : FP.dcmp (ln P Q C i x) (ln P Q C j x) = some .eq) (hj : ¬ j < i) : lowW P Q C i j x = 0 := by
  rw [own_lnC hP hQ hC hx] at h; have := (compare_eq_iff _ _).mp (Option.some.inj h)
  refine if_neg fun q => ?_
  rcases q with q | ⟨-, q⟩
  · omega
  · exact hj q
theorem own_lowY (h : ¬ lowW P Q C i j x = 0) : lowP P Q C i j x := by
  unfold lowW at h; by_cases q : lowP P Q C i j x
  · exact q
  · rw [if_neg q] at h; exact absurd rfl h
theorem own_lowN (h : lowW P Q C i j x = 0) : ¬ lowP P Q C i j x := fun q => by
  unfold lowW at h; rw [if_pos q] at h; exact absurd h (by decide)
theorem own_lowIf (a b : Int32) : (if lowW P Q C i j x = 0 then a else b) = if lowP P Q C i j x then b else a := by
  by_cases q : lowP P Q C i j x
  · rw [if_pos q, if_neg]; unfold lowW; rw [if_pos q]; decide
  · rw [if_neg q, if_pos]; unfold lowW; rw [if_neg q]
end Low
/-! the log -/
theorem own_upd2 (T : Nat → Int32) (k : Nat) (v : Int32) : updN (updN T k v) k (T k) = T := by
  funext i; unfold updN; by_cases h : i = k
  · rw [if_pos h, h]
  · rw [if_neg h, if_neg h]
theorem own_ofs {s : Nat} (h : s < 60) : (Int32.ofNat s).toInt = s := by
  rw [Int32.toInt_ofNat_of_lt (by omega)]
theorem own_nat {s : Nat} (h : s < 60) : (Int32.ofNat s).toNatClampNeg = s := by
  have := own_ofs h; rw [Int32.toNatClampNeg]; omega
theorem own_suc (s : Nat) : Int32.ofNat s + (1 : Int32) = Int32.ofNat (s + 1) := by
  rw [Int32.ofNat_add]; rfl
theorem own_pre (s : Nat) : Int32.ofNat (s + 1) - (1 : Int32) = Int32.ofNat s := by
  rw [← own_suc]; exact Int32.add_sub_cancel _ _
theorem own_n64 {s : Nat} (h : s < 60) : ¬ (Int32.ofNat s) = (64 : Int32) := fun q => by
  have := own_ofs h; rw [q] at this; have h2 : (64 : Int32).toInt = 64 := rfl; omega
theorem own_b64 {s : Nat} (h : s < 60) : ¬ (Int32.ofNat s) < (0 : Int32) ∧ (Int32.ofNat s) < (64 : Int32) := by
  have := own_ofs h; rw [Int32.lt_iff_toInt_lt, Int32.lt_iff_toInt_lt, this, show (0 : Int32).toInt = 0 from rfl, show (64 : Int32).toInt = 64 from rfl]; omega
theorem own_ltS {a b : Nat} (ha : a < 60) (hb : b < 60) (h : a < b) : Int32.ofNat a < Int32.ofNat b := by
  rw [Int32.lt_iff_toInt_lt, own_ofs ha, own_ofs hb]; omega
theorem own_nlt (a : Nat) : ¬ Int32.ofNat a < Int32.ofNat a := fun q => by rw [Int32.lt_iff_toInt_lt] at q; omega
def Und (N O : Nat → Int32) (s : Nat) : Nat → (Nat → Int32) → (Nat → Int32) → Prop
  | 0, T, T0 => T = T0
  | n + 1, T, T0 => (¬ N (s + n) < (0 : Int32) ∧ N (s + n) < (8 : Int32)) ∧ Und N O s n (updN T (N (s + n)).toNatClampNeg (O (s + n))) T0
theorem Und.congr {N O N' O' : Nat → Int32} {s : Nat} : ∀ {n : Nat} {T T0 : Nat → Int32}, Und N O s n T T0 → (∀ i, i < s + n → N' i = N i ∧ O' i = O i) → Und N' O' s n T T0
  | 0, _, _, h, _ => h
  | n + 1, T, T0, h, q => by
    obtain ⟨h1, h2⟩ := h
    obtain ⟨e1, e2⟩ := q (s + n) (by omega)
    refine ⟨by rw [e1]; exact h1, ?_⟩
    rw [e1, e2]
    exact Und.congr h2 fun i hi => q i (by omega)
def Good (T0 N0 O0 : Nat → Int32) (s : Nat) (T N O : Nat → Int32) (n : Nat) : Prop := Und N O s n T T0 ∧ ∀ i, i < s → N i = N0 i ∧ O i = O0 i
theorem Good.refl (T0 N0 O0 : Nat → Int32) (s : Nat) : Good T0 N0 O0 s T0 N0 O0 0 := ⟨rfl, fun _ _ => ⟨rfl, rfl⟩⟩
theorem Good.write {T0 N0 O0 T N O : Nat → Int32} {s n : Nat} (h : Good T0 N0 O0 s T N O n) {k : Int32} (hk : ¬ k < (0 : Int32) ∧ k < (8 : Int32)) (v : Int32) : Good T0 N0 O0 s (updN T k.toNatClampNeg v) (updN N (s + n) k) (updN O (s + n) (T k.toNatClampNeg)) (n + 1) := by
  refine ⟨⟨by rw [updN_same]; exact hk, ?_⟩, fun i hi => ?_⟩
  · rw [updN_same, updN_same, own_upd2]
    exact Und.congr h.1 fun i hi => ⟨updN_ne (by omega), updN_ne (by omega)⟩
  · rw [updN_ne (by omega), updN_ne (by omega)]; exact h.2 i hi
/-! the best line -/
def lowestW (P Q C T : Nat → Int32) (c : Nat) (x : Int32) : Int32 := if T c = (0 : Int32) then T 1 else if lowW P Q C (T c) (T 1) x = (0 : Int32) then T 1 else T c
def chX (x : Int32) : Nat := if x < 3 then 2 else 3
def Rng (T : Nat → Int32) : Prop := ∀ k, ¬ T k < (0 : Int32) ∧ T k < (5 : Int32)
theorem Rng.upd {T : Nat → Int32} (h : Rng T) {v : Int32} (hv : ¬ v < (0 : Int32) ∧ v < (5 : Int32)) (k : Nat) : Rng (updN T k v) := fun i => by
  unfold updN; split
  · exact hv
  · exact h i
theorem Sm.upd {T : Nat → Int32} (h : Sm T) {v : Int32} (hv : -128 ≤ v.toInt ∧ v.toInt ≤ 127) (k : Nat) : Sm (updN T k v) := fun i => by
  unfold updN; split
  · exact hv
  · exact h i
def Lf (T : Nat → Int32) : Prop := T 4 = (0 : Int32) ∧ T 5 = (0 : Int32) ∧ T 6 = (0 : Int32) ∧ T 7 = (0 : Int32)
theorem own_updD {Z : State} {h : Heap} {a : Addr} {P : Nat → Int32} {j : Nat} {p : Int32} (F : Dv Z h a (5 : Int32) (updN (fun k => FP.i2d (P k)) j (FP.i2d p))) : Dv Z h a (5 : Int32) (fun k => FP.i2d (updN P j p k)) :=
  F.congr fun i => by
    show Value.double (updN (fun k => FP.i2d (P k)) j (FP.i2d p) i) = Value.double (FP.i2d (updN P j p i))
    unfold updN; by_cases q : i = j
    · rw [if_pos q, if_pos q]
    · rw [if_neg q, if_neg q]
/-! the law's bytes -/
def b8W (p s : Int32) : Int32 := ((p <<< (((24 : Int32) - s) &&& 31)) >>> ((24 : Int32) &&& 31))
theorem own_b8 (p s : Int32) : -128 ≤ (b8W p s).toInt ∧ (b8W p s).toInt ≤ 127 := by
  have h := c_ishr (p <<< (((24 : Int32) - s) &&& 31)) 24 24 (by decide)
  have h1 := Int32.toInt_lt (p <<< (((24 : Int32) - s) &&& 31)); have h2 := Int32.le_toInt (p <<< (((24 : Int32) - s) &&& 31))
  unfold b8W; rw [h]; omega
def valW (p x : Int32) : Int64 := ((b8W p 0).toInt64 + ((b8W p 8).toInt64 * (x - b8W p 16).toInt64))
theorem own_valW {p x : Int32} (hx : In4 x) : (valW p x).toInt = (b8W p 0).toInt + (b8W p 8).toInt * (x.toInt - (b8W p 16).toInt) := by
  have h1 := own_b8 p 0; have h2 := own_b8 p 8; have h3 := own_b8 p 16
  obtain ⟨hx1, hx2⟩ := hx
  have hs : (x - b8W p 16).toInt = x.toInt - (b8W p 16).toInt := by
    have := c_isub x (b8W p 16); have h1 := Int32.toInt_lt (x - b8W p 16); have h2 := Int32.le_toInt (x - b8W p 16); omega
  have hm := own_mulB h2.1 h2.2 (b := x.toInt - (b8W p 16).toInt) (by omega) (by omega)
  unfold valW
  rw [Int64.toInt_add, Int64.toInt_mul, c_i2l, c_i2l, c_i2l, hs]
  generalize (b8W p 8).toInt * (x.toInt - (b8W p 16).toInt) = z at hm ⊢
  have e1 : z.bmod (2 ^ 64) = z := by rw [Int.bmod_def]; omega
  rw [e1, Int.bmod_def]; omega
end OwnLE

abbrev LEs (Z : State) (h : Heap) (a xn xo xu xv xw xt xm : Addr) (fP fQ fC fT fM fN fO : Nat → Int32) (dd ss : Nat) : Prop :=
  Exa Z h a "com/example/headroom/headroom/LowerEnvelope" ∧ Fld Z h a "com/example/headroom/headroom/LowerEnvelope" "changedNode" "[I" (.ref xn) ∧ Fld Z h a "com/example/headroom/headroom/LowerEnvelope" "changedLine" "[I" (.ref xo) ∧ Fld Z h a "com/example/headroom/headroom/LowerEnvelope" "base" "[D" (.ref xu) ∧ Fld Z h a "com/example/headroom/headroom/LowerEnvelope" "slope" "[D" (.ref xv) ∧ Fld Z h a "com/example/headroom/headroom/LowerEnvelope" "origin" "[I" (.ref xw) ∧ Fld Z h a "com/example/headroom/headroom/LowerEnvelope" "node" "[I" (.ref xt) ∧ Fld Z h a "com/example/headroom/headroom/LowerEnvelope" "pushedAt" "[I" (.ref xm) ∧ Fld Z h a "com/example/headroom/headroom/LowerEnvelope" "width" "I" (.int (4 : Int32)) ∧ Fld Z h a "com/example/headroom/headroom/LowerEnvelope" "pushes" "I" (.int (Int32.ofNat dd)) ∧ Fld Z h a "com/example/headroom/headroom/LowerEnvelope" "changes" "I" (.int (Int32.ofNat ss)) ∧ Iv Z h xn (64 : Int32) fN ∧ Iv Z h xo (64 : Int32) fO ∧ Dv Z h xu (5 : Int32) (fun k => FP.i2d (fP k)) ∧ Dv Z h xv (5 : Int32) (fun k => FP.i2d (fQ k)) ∧ Iv Z h xw (5 : Int32) fC ∧ Iv Z h xt (8 : Int32) fT ∧ Iv Z h xm (4 : Int32) fM
abbrev Dst (n0 : Nat) (a xn xo xu xv xw xt xm : Addr) : Prop := a ≠ xn ∧ a ≠ xo ∧ a ≠ xu ∧ a ≠ xv ∧ a ≠ xw ∧ a ≠ xt ∧ a ≠ xm ∧ xn ≠ xo ∧ xn ≠ xu ∧ xn ≠ xv ∧ xn ≠ xw ∧ xn ≠ xt ∧ xn ≠ xm ∧ xo ≠ xu ∧ xo ≠ xv ∧ xo ≠ xw ∧ xo ≠ xt ∧ xo ≠ xm ∧ xu ≠ xv ∧ xu ≠ xw ∧ xu ≠ xt ∧ xu ≠ xm ∧ xv ≠ xw ∧ xv ≠ xt ∧ xv ≠ xm ∧ xw ≠ xt ∧ xw ≠ xm ∧ xt ≠ xm ∧ n0 ≤ a ∧ n0 ≤ xn ∧ n0 ≤ xo ∧ n0 ≤ xu ∧ n0 ≤ xv ∧ n0 ≤ xw ∧ n0 ≤ xt ∧ n0 ≤ xm
section OwnLE2
theorem own_zD {Z : State} {h : Heap} {a : Addr} (F : Dv Z h a (5 : Int32) (fun _ => (0 : UInt64))) : Dv Z h a (5 : Int32) (fun k => FP.i2d ((fun _ => (0 : Int32)) k)) :=
  F.congr fun i => by show Value.double 0 = Value.double (FP.i2d 0); rw [show FP.i2d 0 = 0 from by decide +kernel]
theorem own_in (x : Int32) (h : x = 1 ∨ x = 2 ∨ x = 3 ∨ x = 4) : In4 x := by rcases h with rfl | rfl | rfl | rfl <;> (unfold In4; decide)
theorem own_in' {x : Int32} (h : In4 x) : x = 1 ∨ x = 2 ∨ x = 3 ∨ x = 4 := by
  obtain ⟨h1, h2⟩ := h
  simp only [← Int32.toInt_inj, show (1 : Int32).toInt = 1 from rfl, show (2 : Int32).toInt = 2 from rfl, show (3 : Int32).toInt = 3 from rfl, show (4 : Int32).toInt = 4 from rfl]; omega
theorem own_lin (P Q C : Nat → Int32) : ∃ A B : Int, ∀ x : Int32, Vx P Q C 2 x - Vx P Q C 1 x = A + B * x.toInt := by
  refine ⟨(P 2).toInt - (Q 2).toInt * (C 2).toInt - ((P 1).toInt - (Q 1).toInt * (C 1).toInt), (Q 2).toInt - (Q 1).toInt, fun x => ?_⟩
  unfold Vx; rw [Int.mul_sub, Int.mul_sub, Int.sub_mul]; omega
theorem own_l21 {P Q C : Nat → Int32} {x : Int32} : lowP P Q C 2 1 x ↔ Vx P Q C 2 x - Vx P Q C 1 x ≤ 0 := by
  show (Vx P Q C 2 x < Vx P Q C 1 x ∨ (Vx P Q C 2 x = Vx P Q C 1 x ∧ (1 : Int32) < 2)) ↔ _
  have : (1 : Int32) < 2 := by decide
  constructor
  · rintro (h | ⟨h, -⟩) <;> omega
  · intro h; by_cases q : Vx P Q C 2 x = Vx P Q C 1 x
    · exact Or.inr ⟨q, this⟩
    · left; omega
theorem own_l12 {P Q C : Nat → Int32} {x : Int32} : lowP P Q C 1 2 x ↔ 0 < Vx P Q C 2 x - Vx P Q C 1 x := by
  show (Vx P Q C 1 x < Vx P Q C 2 x ∨ (Vx P Q C 1 x = Vx P Q C 2 x ∧ (2 : Int32) < 1)) ↔ _
  have : ¬ (2 : Int32) < 1 := by decide
  constructor
  · rintro (h | ⟨-, h⟩)
    · omega
    · exact absurd h this
  · intro h; left; omega
abbrev Best (P Q C T : Nat → Int32) : Prop := ∀ x, In4 x → lowestW P Q C T (chX x) x = if Vx P Q C 2 x ≤ Vx P Q C 1 x then 2 else 1
theorem own_r0 : Rng (fun _ => (0 : Int32)) := fun _ => (by decide : ¬ (0 : Int32) < (0 : Int32) ∧ (0 : Int32) < (5 : Int32))
abbrev Zs (P Q C : Nat → Int32) (r : Int32) (x : Int32) : Prop := (r = 2 ∧ Vx P Q C 2 x ≤ Vx P Q C 1 x) ∨ (r = 1 ∧ ¬ Vx P Q C 2 x ≤ Vx P Q C 1 x)
theorem own_pt {P Q C T : Nat → Int32} {r c x : Int32} {n : Nat} (h1 : T 1 = r) (h2 : T n = c) (h : (c = 2 ∧ r = 1) ∨ (c = 1 ∧ r = 2) ∨ (c = 0 ∧ Zs P Q C r x)) : lowestW P Q C T n x = if Vx P Q C 2 x ≤ Vx P Q C 1 x then 2 else 1 := by
  unfold lowestW; rw [own_lowIf, h1, h2]
  rcases h with ⟨rfl, rfl⟩ | ⟨rfl, rfl⟩ | ⟨rfl, ⟨rfl, h⟩ | ⟨rfl, h⟩⟩
  · rw [if_neg (by decide)]
    by_cases q : Vx P Q C 2 x ≤ Vx P Q C 1 x
    · rw [if_pos q, if_pos (own_l21.mpr (by omega))]
    · rw [if_neg q, if_neg (fun z => q (by have := own_l21.mp z; omega))]
  · rw [if_neg (by decide)]
    by_cases q : Vx P Q C 2 x ≤ Vx P Q C 1 x
    · rw [if_pos q, if_neg (fun z => by have := own_l12.mp z; omega)]
    · rw [if_neg q, if_pos (own_l12.mpr (by omega))]
  · rw [if_pos rfl, if_pos h]
  · rw [if_pos rfl, if_neg h]
theorem own_best {P Q C T : Nat → Int32} {r c2 c3 : Int32} (h1 : T 1 = r) (h2 : T 2 = c2) (h3 : T 3 = c3)
    (hl : (c2 = 2 ∧ r = 1) ∨ (c2 = 1 ∧ r = 2) ∨ (c2 = 0 ∧ Zs P Q C r 1 ∧ Zs P Q C r 2)) (hr : (c3 = 2 ∧ r = 1) ∨ (c3 = 1 ∧ r = 2) ∨ (c3 = 0 ∧ Zs P Q C r 3 ∧ Zs P Q C r 4)) : Best P Q C T := by
  intro x hx
  rcases own_in' hx with rfl | rfl | rfl | rfl
  · exact own_pt (n := 2) h1 h2 (hl.imp id (fun q => q.imp id (fun z => ⟨z.1, z.2.1⟩)))
  · exact own_pt (n := 2) h1 h2 (hl.imp id (fun q => q.imp id (fun z => ⟨z.1, z.2.2⟩)))
  · exact own_pt (n := 3) h1 h3 (hr.imp id (fun q => q.imp id (fun z => ⟨z.1, z.2.1⟩)))
  · exact own_pt (n := 3) h1 h3 (hr.imp id (fun q => q.imp id (fun z => ⟨z.1, z.2.2⟩)))
theorem own_lin4 (P Q C : Nat → Int32) : ∃ A B : Int, Vx P Q C 2 1 - Vx P Q C 1 1 = A + B ∧ Vx P Q C 2 2 - Vx P Q C 1 2 = A + 2 * B ∧ Vx P Q C 2 3 - Vx P Q C 1 3 = A + 3 * B ∧ Vx P Q C 2 4 - Vx P Q C 1 4 = A + 4 * B := by
  obtain ⟨A, B, h⟩ := own_lin P Q C
  have h1 := h 1; have h2 := h 2; have h3 := h 3; have h4 := h 4
  rw [show (1 : Int32).toInt = 1 from rfl] at h1; rw [show (2 : Int32).toInt = 2 from rfl] at h2; rw [show (3 : Int32).toInt = 3 from rfl] at h3; rw [show (4 : Int32).toInt = 4 from rfl] at h4
  exact ⟨A, B, by omega, by omega, by omega, by omega⟩
end OwnLE2
theorem d9_0 : decode prog_15_method_5_code 0 = .ok (.aload_n 0, 1) := by decide +kernel
theorem d9_1 : decode prog_15_method_5_code 1 = .ok (.getfield 32, 3) := by decide +kernel
theorem d9_4 : decode prog_15_method_5_code 4 = .ok (.iload_n 1, 1) := by decide +kernel
theorem d9_5 : decode prog_15_method_5_code 5 = .ok (.daload, 1) := by decide +kernel
theorem d9_6 : decode prog_15_method_5_code 6 = .ok (.aload_n 0, 1) := by decide +kernel
theorem d9_7 : decode prog_15_method_5_code 7 = .ok (.getfield 36, 3) := by decide +kernel
theorem d9_10 : decode prog_15_method_5_code 10 = .ok (.iload_n 1, 1) := by decide +kernel
theorem d9_11 : decode prog_15_method_5_code 11 = .ok (.daload, 1) := by decide +kernel
theorem d9_12 : decode prog_15_method_5_code 12 = .ok (.iload_n 3, 1) := by decide +kernel
theorem d9_13 : decode prog_15_method_5_code 13 = .ok (.aload_n 0, 1) := by decide +kernel
theorem d9_14 : decode prog_15_method_5_code 14 = .ok (.getfield 39, 3) := by decide +kernel
theorem d9_17 : decode prog_15_method_5_code 17 = .ok (.iload_n 1, 1) := by decide +kernel
theorem d9_18 : decode prog_15_method_5_code 18 = .ok (.iaload, 1) := by decide +kernel
theorem d9_19 : decode prog_15_method_5_code 19 = .ok (.isub, 1) := by decide +kernel
theorem d9_20 : decode prog_15_method_5_code 20 = .ok (.i2d, 1) := by decide +kernel
theorem d9_21 : decode prog_15_method_5_code 21 = .ok (.dmul, 1) := by decide +kernel
theorem d9_22 : decode prog_15_method_5_code 22 = .ok (.dadd, 1) := by decide +kernel
theorem d9_23 : decode prog_15_method_5_code 23 = .ok (.dstore 4, 2) := by decide +kernel
theorem d9_25 : decode prog_15_method_5_code 25 = .ok (.aload_n 0, 1) := by decide +kernel
theorem d9_26 : decode prog_15_method_5_code 26 = .ok (.getfield 32, 3) := by decide +kernel
theorem d9_29 : decode prog_15_method_5_code 29 = .ok (.iload_n 2, 1) := by decide +kernel
theorem d9_30 : decode prog_15_method_5_code 30 = .ok (.daload, 1) := by decide +kernel
theorem d9_31 : decode prog_15_method_5_code 31 = .ok (.aload_n 0, 1) := by decide +kernel
theorem d9_32 : decode prog_15_method_5_code 32 = .ok (.getfield 36, 3) := by decide +kernel
theorem d9_35 : decode prog_15_method_5_code 35 = .ok (.iload_n 2, 1) := by decide +kernel
theorem d9_36 : decode prog_15_method_5_code 36 = .ok (.daload, 1) := by decide +kernel
theorem d9_37 : decode prog_15_method_5_code 37 = .ok (.iload_n 3, 1) := by decide +kernel
theorem d9_38 : decode prog_15_method_5_code 38 = .ok (.aload_n 0, 1) := by decide +kernel
theorem d9_39 : decode prog_15_method_5_code 39 = .ok (.getfield 39, 3) := by decide +kernel
theorem d9_42 : decode prog_15_method_5_code 42 = .ok (.iload_n 2, 1) := by decide +kernel
theorem d9_43 : decode prog_15_method_5_code 43 = .ok (.iaload, 1) := by decide +kernel
theorem d9_44 : decode prog_15_method_5_code 44 = .ok (.isub, 1) := by decide +kernel
theorem d9_45 : decode prog_15_method_5_code 45 = .ok (.i2d, 1) := by decide +kernel
theorem d9_46 : decode prog_15_method_5_code 46 = .ok (.dmul, 1) := by decide +kernel
theorem d9_47 : decode prog_15_method_5_code 47 = .ok (.dadd, 1) := by decide +kernel
theorem d9_48 : decode prog_15_method_5_code 48 = .ok (.dstore 6, 2) := by decide +kernel
theorem d9_50 : decode prog_15_method_5_code 50 = .ok (.dload 4, 2) := by decide +kernel
theorem d9_52 : decode prog_15_method_5_code 52 = .ok (.dload 6, 2) := by decide +kernel
theorem d9_54 : decode prog_15_method_5_code 54 = .ok (.dcmp .g, 1) := by decide +kernel
theorem d9_55 : decode prog_15_method_5_code 55 = .ok (.ifCond .lt 16, 3) := by decide +kernel
theorem d9_71 : decode prog_15_method_5_code 71 = .ok (.iconst 1, 1) := by decide +kernel
theorem d9_72 : decode prog_15_method_5_code 72 = .ok (.goto 4, 3) := by decide +kernel
theorem d9_76 : decode prog_15_method_5_code 76 = .ok (.ireturn, 1) := by decide +kernel
theorem d9_58 : decode prog_15_method_5_code 58 = .ok (.dload 4, 2) := by decide +kernel
theorem d9_60 : decode prog_15_method_5_code 60 = .ok (.dload 6, 2) := by decide +kernel
theorem d9_62 : decode prog_15_method_5_code 62 = .ok (.dcmp .l, 1) := by decide +kernel
theorem d9_63 : decode prog_15_method_5_code 63 = .ok (.ifCond .ne 12, 3) := by decide +kernel
theorem d9_66 : decode prog_15_method_5_code 66 = .ok (.iload_n 1, 1) := by decide +kernel
theorem d9_67 : decode prog_15_method_5_code 67 = .ok (.iload_n 2, 1) := by decide +kernel
theorem d9_68 : decode prog_15_method_5_code 68 = .ok (.if_icmp .le 7, 3) := by decide +kernel
theorem d9_75 : decode prog_15_method_5_code 75 = .ok (.iconst 0, 1) := by decide +kernel
set_option maxRecDepth 65536 in
set_option maxHeartbeats 40000000 in
theorem w9 {p : Program} {l : Launch} {e : Env} {s : State} {m : MethodId} {args : Array Value} {below : List Frame} {meth : Method} {c_ : Code} {T0 : State} {locs : List Loc} {Z : State} {a0 : Array Value} {h0 : Heap} {n0 : Nat} (a xu xv xw : Addr) (fP fQ fC : Nat → Int32) (i j x : Int32)
    (X0 : Stand p l e ({ frames := 0, cells := 0, slots := 0, locals := 0 } : Room) s m args below meth c_ T0 locs 0 0) (hx : p.tables.exec = Jvm.exec) (hZ : Z.Warmed39 s.vm) (hw : ∀ d ∈ tables_1, d.before a0 Z = true) (hby : c_.code = prog_15_method_5_code) (hml : c_.maxLocals = 8) (hown : s.vm.findClass "com/example/headroom/headroom/LowerEnvelope" = some m.cls) (hnm : meth.name = "lower") (hret : meth.sig.returnType = some .boolean) (hlk : meth.locks = false) (e0 : T0.heap = h0) (Z0 : n0 ≤ h0.size) (N0 : Fr n0 locs) (F_base_a : Fld Z h0 a "com/example/headroom/headroom/LowerEnvelope" "base" "[D" (.ref xu)) (F_slope_a : Fld Z h0 a "com/example/headroom/headroom/LowerEnvelope" "slope" "[D" (.ref xv)) (F_origin_a : Fld Z h0 a "com/example/headroom/headroom/LowerEnvelope" "origin" "[I" (.ref xw)) (V_xu : Dv Z h0 xu (5 : Int32) (fun k => FP.i2d (fP k))) (V_xv : Dv Z h0 xv (5 : Int32) (fun k => FP.i2d (fQ k))) (V_xw : Iv Z h0 xw (5 : Int32) fC) (hP : Sm fP) (hQ : Sm fQ) (hC : Sm fC) (hi : ¬ i < (0 : Int32) ∧ i < (5 : Int32)) (hj : ¬ j < (0 : Int32) ∧ j < (5 : Int32)) (h4 : In4 x) :
    Go p e below s ({ frames := 0, cells := 0, slots := 0, locals := 0 } : Room).cells ({ frames := 0, cells := 0, slots := 0, locals := 0 } : Room).slots (fun r h L => r = some (.int (lowW fP fQ fC i j x)) ∧ Fr n0 L ∧ h = h0) T0 (mkF m 0 #[.val (.ref a), .val (.int i), .val (.int j), .val (.int x), .unset, .unset, .unset, .unset] []) := by
  show Go _ _ _ _ _ _ _ T0 (mkF m 0 #[.val (.ref a), .val (.int i), .val (.int j), .val (.int x), .unset, .unset, .unset, .unset] [])
  refine Go.step (fun _ k => XS.aloadN X0.here hx rfl (hb hby d9_0) rfl rfl k) ?_
  obtain ⟨T1, X1, e1, st1⟩ := getF X0 hx hZ hown (host := "") (Or.inl (hw _ (mI 30 rfl))) Via.refl e0 F_base_a (g := (mkF m 1 #[.val (.ref a), .val (.int i), .val (.int j), .val (.int x), .unset, .unset, .unset, .unset] [(.ref a)])) rfl rfl (hb hby d9_1)
  refine Go.step st1 ?_
  show Go _ _ _ _ _ _ _ T1 (mkF m 4 #[.val (.ref a), .val (.int i), .val (.int j), .val (.int x), .unset, .unset, .unset, .unset] [(.ref xu)])
  refine Go.step (fun _ k => XS.iloadN X1.here hx rfl (hb hby d9_4) rfl k) ?_
  refine Go.daload X1 hx hZ e1 V_xu (j := i) (v := (FP.i2d (fP (i).toNatClampNeg))) hi rfl (hb hby d9_5) ?_
  show Go _ _ _ _ _ _ _ T1 (mkF m 6 #[.val (.ref a), .val (.int i), .val (.int j), .val (.int x), .unset, .unset, .unset, .unset] [(.double (FP.i2d (fP (i).toNatClampNeg)))])
  refine Go.step (fun _ k => XS.aloadN X1.here hx rfl (hb hby d9_6) rfl rfl k) ?_
  obtain ⟨T2, X2, e2, st2⟩ := getF X1 hx hZ hown (host := "") (Or.inl (hw _ (mI 32 rfl))) Via.refl e1 F_slope_a (g := (mkF m 7 #[.val (.ref a), .val (.int i), .val (.int j), .val (.int x), .unset, .unset, .unset, .unset] [(.ref a), (.double (FP.i2d (fP (i).toNatClampNeg)))])) rfl rfl (hb hby d9_7)
  refine Go.step st2 ?_
  show Go _ _ _ _ _ _ _ T2 (mkF m 10 #[.val (.ref a), .val (.int i), .val (.int j), .val (.int x), .unset, .unset, .unset, .unset] [(.ref xv), (.double (FP.i2d (fP (i).toNatClampNeg)))])
  refine Go.step (fun _ k => XS.iloadN X2.here hx rfl (hb hby d9_10) rfl k) ?_
  refine Go.daload X2 hx hZ e2 V_xv (j := i) (v := (FP.i2d (fQ (i).toNatClampNeg))) hi rfl (hb hby d9_11) ?_
  show Go _ _ _ _ _ _ _ T2 (mkF m 12 #[.val (.ref a), .val (.int i), .val (.int j), .val (.int x), .unset, .unset, .unset, .unset] [(.double (FP.i2d (fQ (i).toNatClampNeg))), (.double (FP.i2d (fP (i).toNatClampNeg)))])
  refine Go.step (fun _ k => XS.iloadN X2.here hx rfl (hb hby d9_12) rfl k) ?_
  refine Go.step (fun _ k => XS.aloadN X2.here hx rfl (hb hby d9_13) rfl rfl k) ?_
  obtain ⟨T3, X3, e3, st3⟩ := getF X2 hx hZ hown (host := "") (Or.inl (hw _ (mI 34 rfl))) Via.refl e2 F_origin_a (g := (mkF m 14 #[.val (.ref a), .val (.int i), .val (.int j), .val (.int x), .unset, .unset, .unset, .unset] [(.ref a), (.int x), (.double (FP.i2d (fQ (i).toNatClampNeg))), (.double (FP.i2d (fP (i).toNatClampNeg)))])) rfl rfl (hb hby d9_14)
  refine Go.step st3 ?_
  show Go _ _ _ _ _ _ _ T3 (mkF m 17 #[.val (.ref a), .val (.int i), .val (.int j), .val (.int x), .unset, .unset, .unset, .unset] [(.ref xw), (.int x), (.double (FP.i2d (fQ (i).toNatClampNeg))), (.double (FP.i2d (fP (i).toNatClampNeg)))])
  refine Go.step (fun _ k => XS.iloadN X3.here hx rfl (hb hby d9_17) rfl k) ?_
  refine Go.iaload X3 hx hZ e3 V_xw (j := i) (v := (fC (i).toNatClampNeg)) hi rfl (hb hby d9_18) ?_
  show Go _ _ _ _ _ _ _ T3 (mkF m 19 #[.val (.ref a), .val (.int i), .val (.int j), .val (.int x), .unset, .unset, .unset, .unset] [(.int (fC (i).toNatClampNeg)), (.int x), (.double (FP.i2d (fQ (i).toNatClampNeg))), (.double (FP.i2d (fP (i).toNatClampNeg)))])
  refine Go.step (fun _ k => XS.isub X3.here hx rfl (hb hby d9_19) rfl k) ?_
  show Go _ _ _ _ _ _ _ T3 (mkF m 20 #[.val (.ref a), .val (.int i), .val (.int j), .val (.int x), .unset, .unset, .unset, .unset] [(.int (x - (fC (i).toNatClampNeg))), (.double (FP.i2d (fQ (i).toNatClampNeg))), (.double (FP.i2d (fP (i).toNatClampNeg)))])
  refine Go.step (fun _ k => XS.i2dS X3.here hx rfl (hb hby d9_20) rfl rfl k) ?_
  show Go _ _ _ _ _ _ _ T3 (mkF m 21 #[.val (.ref a), .val (.int i), .val (.int j), .val (.int x), .unset, .unset, .unset, .unset] [(.double (FP.i2d (x - (fC (i).toNatClampNeg)))), (.double (FP.i2d (fQ (i).toNatClampNeg))), (.double (FP.i2d (fP (i).toNatClampNeg)))])
  refine Go.step (fun _ k => XS.dmulS X3.here hx rfl (hb hby d9_21) rfl (own_lnN (P := fP) (Q := fQ) (C := fC) (i := i) (x := x) hP hQ hC h4).1 rfl k) ?_
  show Go _ _ _ _ _ _ _ T3 (mkF m 22 #[.val (.ref a), .val (.int i), .val (.int j), .val (.int x), .unset, .unset, .unset, .unset] [(.double (FP.dmul (FP.i2d (fQ (i).toNatClampNeg)) (FP.i2d (x - (fC (i).toNatClampNeg))))), (.double (FP.i2d (fP (i).toNatClampNeg)))])
  refine Go.step (fun _ k => XS.daddS X3.here hx rfl (hb hby d9_22) rfl (own_lnN (P := fP) (Q := fQ) (C := fC) (i := i) (x := x) hP hQ hC h4).2 rfl k) ?_
  show Go _ _ _ _ _ _ _ T3 (mkF m 23 #[.val (.ref a), .val (.int i), .val (.int j), .val (.int x), .unset, .unset, .unset, .unset] [(.double (FP.dadd (FP.i2d (fP (i).toNatClampNeg)) (FP.dmul (FP.i2d (fQ (i).toNatClampNeg)) (FP.i2d (x - (fC (i).toNatClampNeg))))))])
  refine Go.step (fun _ k => XS.dstore X3.here hx rfl (hb hby d9_23) rfl (l' := #[.val (.ref a), .val (.int i), .val (.int j), .val (.int x), .val (.double (FP.dadd (FP.i2d (fP (i).toNatClampNeg)) (FP.dmul (FP.i2d (fQ (i).toNatClampNeg)) (FP.i2d (x - (fC (i).toNatClampNeg)))))), .second, .unset, .unset]) rfl k) ?_
  show Go _ _ _ _ _ _ _ T3 (mkF m 25 #[.val (.ref a), .val (.int i), .val (.int j), .val (.int x), .val (.double (FP.dadd (FP.i2d (fP (i).toNatClampNeg)) (FP.dmul (FP.i2d (fQ (i).toNatClampNeg)) (FP.i2d (x - (fC (i).toNatClampNeg)))))), .second, .unset, .unset] [])
  refine Go.step (fun _ k => XS.aloadN X3.here hx rfl (hb hby d9_25) rfl rfl k) ?_
  obtain ⟨T4, X4, e4, st4⟩ := getF X3 hx hZ hown (host := "") (Or.inl (hw _ (mI 30 rfl))) Via.refl e3 F_base_a (g := (mkF m 26 #[.val (.ref a), .val (.int i), .val (.int j), .val (.int x), .val (.double (FP.dadd (FP.i2d (fP (i).toNatClampNeg)) (FP.dmul (FP.i2d (fQ (i).toNatClampNeg)) (FP.i2d (x - (fC (i).toNatClampNeg)))))), .second, .unset, .unset] [(.ref a)])) rfl rfl (hb hby d9_26)
  refine Go.step st4 ?_
  show Go _ _ _ _ _ _ _ T4 (mkF m 29 #[.val (.ref a), .val (.int i), .val (.int j), .val (.int x), .val (.double (FP.dadd (FP.i2d (fP (i).toNatClampNeg)) (FP.dmul (FP.i2d (fQ (i).toNatClampNeg)) (FP.i2d (x - (fC (i).toNatClampNeg)))))), .second, .unset, .unset] [(.ref xu)])
  refine Go.step (fun _ k => XS.iloadN X4.here hx rfl (hb hby d9_29) rfl k) ?_
  refine Go.daload X4 hx hZ e4 V_xu (j := j) (v := (FP.i2d (fP (j).toNatClampNeg))) hj rfl (hb hby d9_30) ?_
  show Go _ _ _ _ _ _ _ T4 (mkF m 31 #[.val (.ref a), .val (.int i), .val (.int j), .val (.int x), .val (.double (FP.dadd (FP.i2d (fP (i).toNatClampNeg)) (FP.dmul (FP.i2d (fQ (i).toNatClampNeg)) (FP.i2d (x - (fC (i).toNatClampNeg)))))), .second, .unset, .unset] [(.double (FP.i2d (fP (j).toNatClampNeg)))])
  refine Go.step (fun _ k => XS.aloadN X4.here hx rfl (hb hby d9_31) rfl rfl k) ?_
  obtain ⟨T5, X5, e5, st5⟩ := getF X4 hx hZ hown (host := "") (Or.inl (hw _ (mI 32 rfl))) Via.refl e4 F_slope_a (g := (mkF m 32 #[.val (.ref a), .val (.int i), .val (.int j), .val (.int x), .val (.double (FP.dadd (FP.i2d (fP (i).toNatClampNeg)) (FP.dmul (FP.i2d (fQ (i).toNatClampNeg)) (FP.i2d (x - (fC (i).toNatClampNeg)))))), .second, .unset, .unset] [(.ref a), (.double (FP.i2d (fP (j).toNatClampNeg)))])) rfl rfl (hb hby d9_32)
  refine Go.step st5 ?_
  show Go _ _ _ _ _ _ _ T5 (mkF m 35 #[.val (.ref a), .val (.int i), .val (.int j), .val (.int x), .val (.double (FP.dadd (FP.i2d (fP (i).toNatClampNeg)) (FP.dmul (FP.i2d (fQ (i).toNatClampNeg)) (FP.i2d (x - (fC (i).toNatClampNeg)))))), .second, .unset, .unset] [(.ref xv), (.double (FP.i2d (fP (j).toNatClampNeg)))])
  refine Go.step (fun _ k => XS.iloadN X5.here hx rfl (hb hby d9_35) rfl k) ?_
  refine Go.daload X5 hx hZ e5 V_xv (j := j) (v := (FP.i2d (fQ (j).toNatClampNeg))) hj rfl (hb hby d9_36) ?_
  show Go _ _ _ _ _ _ _ T5 (mkF m 37 #[.val (.ref a), .val (.int i), .val (.int j), .val (.int x), .val (.double (FP.dadd (FP.i2d (fP (i).toNatClampNeg)) (FP.dmul (FP.i2d (fQ (i).toNatClampNeg)) (FP.i2d (x - (fC (i).toNatClampNeg)))))), .second, .unset, .unset] [(.double (FP.i2d (fQ (j).toNatClampNeg))), (.double (FP.i2d (fP (j).toNatClampNeg)))])
  refine Go.step (fun _ k => XS.iloadN X5.here hx rfl (hb hby d9_37) rfl k) ?_
  refine Go.step (fun _ k => XS.aloadN X5.here hx rfl (hb hby d9_38) rfl rfl k) ?_
  obtain ⟨T6, X6, e6, st6⟩ := getF X5 hx hZ hown (host := "") (Or.inl (hw _ (mI 34 rfl))) Via.refl e5 F_origin_a (g := (mkF m 39 #[.val (.ref a), .val (.int i), .val (.int j), .val (.int x), .val (.double (FP.dadd (FP.i2d (fP (i).toNatClampNeg)) (FP.dmul (FP.i2d (fQ (i).toNatClampNeg)) (FP.i2d (x - (fC (i).toNatClampNeg)))))), .second, .unset, .unset] [(.ref a), (.int x), (.double (FP.i2d (fQ (j).toNatClampNeg))), (.double (FP.i2d (fP (j).toNatClampNeg)))])) rfl rfl (hb hby d9_39)
  refine Go.step st6 ?_
  show Go _ _ _ _ _ _ _ T6 (mkF m 42 #[.val (.ref a), .val (.int i), .val (.int j), .val (.int x), .val (.double (FP.dadd (FP.i2d (fP (i).toNatClampNeg)) (FP.dmul (FP.i2d (fQ (i).toNatClampNeg)) (FP.i2d (x - (fC (i).toNatClampNeg)))))), .second, .unset, .unset] [(.ref xw), (.int x), (.double (FP.i2d (fQ (j).toNatClampNeg))), (.double (FP.i2d (fP (j).toNatClampNeg)))])
  refine Go.step (fun _ k => XS.iloadN X6.here hx rfl (hb hby d9_42) rfl k) ?_
  refine Go.iaload X6 hx hZ e6 V_xw (j := j) (v := (fC (j).toNatClampNeg)) hj rfl (hb hby d9_43) ?_
  show Go _ _ _ _ _ _ _ T6 (mkF m 44 #[.val (.ref a), .val (.int i), .val (.int j), .val (.int x), .val (.double (FP.dadd (FP.i2d (fP (i).toNatClampNeg)) (FP.dmul (FP.i2d (fQ (i).toNatClampNeg)) (FP.i2d (x - (fC (i).toNatClampNeg)))))), .second, .unset, .unset] [(.int (fC (j).toNatClampNeg)), (.int x), (.double (FP.i2d (fQ (j).toNatClampNeg))), (.double (FP.i2d (fP (j).toNatClampNeg)))])
  refine Go.step (fun _ k => XS.isub X6.here hx rfl (hb hby d9_44) rfl k) ?_
  show Go _ _ _ _ _ _ _ T6 (mkF m 45 #[.val (.ref a), .val (.int i), .val (.int j), .val (.int x), .val (.double (FP.dadd (FP.i2d (fP (i).toNatClampNeg)) (FP.dmul (FP.i2d (fQ (i).toNatClampNeg)) (FP.i2d (x - (fC (i).toNatClampNeg)))))), .second, .unset, .unset] [(.int (x - (fC (j).toNatClampNeg))), (.double (FP.i2d (fQ (j).toNatClampNeg))), (.double (FP.i2d (fP (j).toNatClampNeg)))])
  refine Go.step (fun _ k => XS.i2dS X6.here hx rfl (hb hby d9_45) rfl rfl k) ?_
  show Go _ _ _ _ _ _ _ T6 (mkF m 46 #[.val (.ref a), .val (.int i), .val (.int j), .val (.int x), .val (.double (FP.dadd (FP.i2d (fP (i).toNatClampNeg)) (FP.dmul (FP.i2d (fQ (i).toNatClampNeg)) (FP.i2d (x - (fC (i).toNatClampNeg)))))), .second, .unset, .unset] [(.double (FP.i2d (x - (fC (j).toNatClampNeg)))), (.double (FP.i2d (fQ (j).toNatClampNeg))), (.double (FP.i2d (fP (j).toNatClampNeg)))])
  refine Go.step (fun _ k => XS.dmulS X6.here hx rfl (hb hby d9_46) rfl (own_lnN (P := fP) (Q := fQ) (C := fC) (i := j) (x := x) hP hQ hC h4).1 rfl k) ?_
  show Go _ _ _ _ _ _ _ T6 (mkF m 47 #[.val (.ref a), .val (.int i), .val (.int j), .val (.int x), .val (.double (FP.dadd (FP.i2d (fP (i).toNatClampNeg)) (FP.dmul (FP.i2d (fQ (i).toNatClampNeg)) (FP.i2d (x - (fC (i).toNatClampNeg)))))), .second, .unset, .unset] [(.double (FP.dmul (FP.i2d (fQ (j).toNatClampNeg)) (FP.i2d (x - (fC (j).toNatClampNeg))))), (.double (FP.i2d (fP (j).toNatClampNeg)))])
  refine Go.step (fun _ k => XS.daddS X6.here hx rfl (hb hby d9_47) rfl (own_lnN (P := fP) (Q := fQ) (C := fC) (i := j) (x := x) hP hQ hC h4).2 rfl k) ?_
  show Go _ _ _ _ _ _ _ T6 (mkF m 48 #[.val (.ref a), .val (.int i), .val (.int j), .val (.int x), .val (.double (FP.dadd (FP.i2d (fP (i).toNatClampNeg)) (FP.dmul (FP.i2d (fQ (i).toNatClampNeg)) (FP.i2d (x - (fC (i).toNatClampNeg)))))), .second, .unset, .unset] [(.double (FP.dadd (FP.i2d (fP (j).toNatClampNeg)) (FP.dmul (FP.i2d (fQ (j).toNatClampNeg)) (FP.i2d (x - (fC (j).toNatClampNeg))))))])
  refine Go.step (fun _ k => XS.dstore X6.here hx rfl (hb hby d9_48) rfl (l' := #[.val (.ref a), .val (.int i), .val (.int j), .val (.int x), .val (.double (FP.dadd (FP.i2d (fP (i).toNatClampNeg)) (FP.dmul (FP.i2d (fQ (i).toNatClampNeg)) (FP.i2d (x - (fC (i).toNatClampNeg)))))), .second, .val (.double (FP.dadd (FP.i2d (fP (j).toNatClampNeg)) (FP.dmul (FP.i2d (fQ (j).toNatClampNeg)) (FP.i2d (x - (fC (j).toNatClampNeg)))))), .second]) rfl k) ?_
  show Go _ _ _ _ _ _ _ T6 (mkF m 50 #[.val (.ref a), .val (.int i), .val (.int j), .val (.int x), .val (.double (FP.dadd (FP.i2d (fP (i).toNatClampNeg)) (FP.dmul (FP.i2d (fQ (i).toNatClampNeg)) (FP.i2d (x - (fC (i).toNatClampNeg)))))), .second, .val (.double (FP.dadd (FP.i2d (fP (j).toNatClampNeg)) (FP.dmul (FP.i2d (fQ (j).toNatClampNeg)) (FP.i2d (x - (fC (j).toNatClampNeg)))))), .second] [])
  refine Go.step (fun _ k => XS.dload X6.here hx rfl (hb hby d9_50) rfl k) ?_
  refine Go.step (fun _ k => XS.dload X6.here hx rfl (hb hby d9_52) rfl k) ?_
  refine Go.step (fun _ k => XS.dcmpS X6.here hx rfl (hb hby d9_54) rfl rfl k) ?_
  show Go _ _ _ _ _ _ _ T6 (mkF m 55 #[.val (.ref a), .val (.int i), .val (.int j), .val (.int x), .val (.double (FP.dadd (FP.i2d (fP (i).toNatClampNeg)) (FP.dmul (FP.i2d (fQ (i).toNatClampNeg)) (FP.i2d (x - (fC (i).toNatClampNeg)))))), .second, .val (.double (FP.dadd (FP.i2d (fP (j).toNatClampNeg)) (FP.dmul (FP.i2d (fQ (j).toNatClampNeg)) (FP.i2d (x - (fC (j).toNatClampNeg)))))), .second] [(.int (cmpValue (FP.dcmp (FP.dadd (FP.i2d (fP (i).toNatClampNeg)) (FP.dmul (FP.i2d (fQ (i).toNatClampNeg)) (FP.i2d (x - (fC (i).toNatClampNeg))))) (FP.dadd (FP.i2d (fP (j).toNatClampNeg)) (FP.dmul (FP.i2d (fQ (j).toNatClampNeg)) (FP.i2d (x - (fC (j).toNatClampNeg)))))) .g))])
  by_cases hd55_7 : FP.dcmp (FP.dadd (FP.i2d (fP (i).toNatClampNeg)) (FP.dmul (FP.i2d (fQ (i).toNatClampNeg)) (FP.i2d (x - (fC (i).toNatClampNeg))))) (FP.dadd (FP.i2d (fP (j).toNatClampNeg)) (FP.dmul (FP.i2d (fQ (j).toNatClampNeg)) (FP.i2d (x - (fC (j).toNatClampNeg))))) = some .lt
  · refine Go.step (fun _ k => XS.ifYes X6.here hx rfl (pc0 := 55) (pc' := 71) rfl (hb hby d9_55) rfl (ltT_y hd55_7) (by decide) (by decide) k) ?_
    show Go _ _ _ _ _ _ _ T6 (mkF m 71 #[.val (.ref a), .val (.int i), .val (.int j), .val (.int x), .val (.double (FP.dadd (FP.i2d (fP (i).toNatClampNeg)) (FP.dmul (FP.i2d (fQ (i).toNatClampNeg)) (FP.i2d (x - (fC (i).toNatClampNeg)))))), .second, .val (.double (FP.dadd (FP.i2d (fP (j).toNatClampNeg)) (FP.dmul (FP.i2d (fQ (j).toNatClampNeg)) (FP.i2d (x - (fC (j).toNatClampNeg)))))), .second] [])
    refine Go.step (fun _ k => XS.iconst X6.here hx rfl (hb hby d9_71) k) ?_
    refine Go.step (fun _ k => XS.goto X6.here hx rfl (pc0 := 72) (pc' := 76) rfl (hb hby d9_72) (by decide) (by decide) k) ?_
    show Go _ _ _ _ _ _ _ T6 (mkF m 76 #[.val (.ref a), .val (.int i), .val (.int j), .val (.int x), .val (.double (FP.dadd (FP.i2d (fP (i).toNatClampNeg)) (FP.dmul (FP.i2d (fQ (i).toNatClampNeg)) (FP.i2d (x - (fC (i).toNatClampNeg)))))), .second, .val (.double (FP.dadd (FP.i2d (fP (j).toNatClampNeg)) (FP.dmul (FP.i2d (fQ (j).toNatClampNeg)) (FP.i2d (x - (fC (j).toNatClampNeg)))))), .second] [(.int (1 : Int32))])
    refine Go.retZ X6 hx hlk hret (by decide) (hb hby d9_76) (by decide) (by decide) ?_
    try rw [e6]
    exact ⟨congrArg (fun z => some (Value.int z)) (own_low_lt (P := fP) (Q := fQ) (C := fC) (i := i) (j := j) (x := x) hP hQ hC h4 hd55_7).symm, N0, rfl⟩
  · refine Go.step (fun _ k => XS.ifNo X6.here hx rfl (hb hby d9_55) rfl (ltT_n hd55_7) k) ?_
    show Go _ _ _ _ _ _ _ T6 (mkF m 58 #[.val (.ref a), .val (.int i), .val (.int j), .val (.int x), .val (.double (FP.dadd (FP.i2d (fP (i).toNatClampNeg)) (FP.dmul (FP.i2d (fQ (i).toNatClampNeg)) (FP.i2d (x - (fC (i).toNatClampNeg)))))), .second, .val (.double (FP.dadd (FP.i2d (fP (j).toNatClampNeg)) (FP.dmul (FP.i2d (fQ (j).toNatClampNeg)) (FP.i2d (x - (fC (j).toNatClampNeg)))))), .second] [])
    refine Go.step (fun _ k => XS.dload X6.here hx rfl (hb hby d9_58) rfl k) ?_
    refine Go.step (fun _ k => XS.dload X6.here hx rfl (hb hby d9_60) rfl k) ?_
    refine Go.step (fun _ k => XS.dcmpS X6.here hx rfl (hb hby d9_62) rfl rfl k) ?_
    show Go _ _ _ _ _ _ _ T6 (mkF m 63 #[.val (.ref a), .val (.int i), .val (.int j), .val (.int x), .val (.double (FP.dadd (FP.i2d (fP (i).toNatClampNeg)) (FP.dmul (FP.i2d (fQ (i).toNatClampNeg)) (FP.i2d (x - (fC (i).toNatClampNeg)))))), .second, .val (.double (FP.dadd (FP.i2d (fP (j).toNatClampNeg)) (FP.dmul (FP.i2d (fQ (j).toNatClampNeg)) (FP.i2d (x - (fC (j).toNatClampNeg)))))), .second] [(.int (cmpValue (FP.dcmp (FP.dadd (FP.i2d (fP (i).toNatClampNeg)) (FP.dmul (FP.i2d (fQ (i).toNatClampNeg)) (FP.i2d (x - (fC (i).toNatClampNeg))))) (FP.dadd (FP.i2d (fP (j).toNatClampNeg)) (FP.dmul (FP.i2d (fQ (j).toNatClampNeg)) (FP.i2d (x - (fC (j).toNatClampNeg)))))) .l))])
    by_cases hd63_8 : FP.dcmp (FP.dadd (FP.i2d (fP (i).toNatClampNeg)) (FP.dmul (FP.i2d (fQ (i).toNatClampNeg)) (FP.i2d (x - (fC (i).toNatClampNeg))))) (FP.dadd (FP.i2d (fP (j).toNatClampNeg)) (FP.dmul (FP.i2d (fQ (j).toNatClampNeg)) (FP.i2d (x - (fC (j).toNatClampNeg))))) = some .eq
    · refine Go.step (fun _ k => XS.ifNo X6.here hx rfl (hb hby d9_63) rfl (eq_y .l hd63_8).1 k) ?_
      show Go _ _ _ _ _ _ _ T6 (mkF m 66 #[.val (.ref a), .val (.int i), .val (.int j), .val (.int x), .val (.double (FP.dadd (FP.i2d (fP (i).toNatClampNeg)) (FP.dmul (FP.i2d (fQ (i).toNatClampNeg)) (FP.i2d (x - (fC (i).toNatClampNeg)))))), .second, .val (.double (FP.dadd (FP.i2d (fP (j).toNatClampNeg)) (FP.dmul (FP.i2d (fQ (j).toNatClampNeg)) (FP.i2d (x - (fC (j).toNatClampNeg)))))), .second] [])
      refine Go.step (fun _ k => XS.iloadN X6.here hx rfl (hb hby d9_66) rfl k) ?_
      refine Go.step (fun _ k => XS.iloadN X6.here hx rfl (hb hby d9_67) rfl k) ?_
      by_cases hc68_9 : j < i
      · refine Go.step (fun _ k => XS.icmpNo X6.here hx rfl (hb hby d9_68) rfl (tlt hc68_9).2.2.2 k) ?_
        show Go _ _ _ _ _ _ _ T6 (mkF m 71 #[.val (.ref a), .val (.int i), .val (.int j), .val (.int x), .val (.double (FP.dadd (FP.i2d (fP (i).toNatClampNeg)) (FP.dmul (FP.i2d (fQ (i).toNatClampNeg)) (FP.i2d (x - (fC (i).toNatClampNeg)))))), .second, .val (.double (FP.dadd (FP.i2d (fP (j).toNatClampNeg)) (FP.dmul (FP.i2d (fQ (j).toNatClampNeg)) (FP.i2d (x - (fC (j).toNatClampNeg)))))), .second] [])
        refine Go.step (fun _ k => XS.iconst X6.here hx rfl (hb hby d9_71) k) ?_
        refine Go.step (fun _ k => XS.goto X6.here hx rfl (pc0 := 72) (pc' := 76) rfl (hb hby d9_72) (by decide) (by decide) k) ?_
        show Go _ _ _ _ _ _ _ T6 (mkF m 76 #[.val (.ref a), .val (.int i), .val (.int j), .val (.int x), .val (.double (FP.dadd (FP.i2d (fP (i).toNatClampNeg)) (FP.dmul (FP.i2d (fQ (i).toNatClampNeg)) (FP.i2d (x - (fC (i).toNatClampNeg)))))), .second, .val (.double (FP.dadd (FP.i2d (fP (j).toNatClampNeg)) (FP.dmul (FP.i2d (fQ (j).toNatClampNeg)) (FP.i2d (x - (fC (j).toNatClampNeg)))))), .second] [(.int (1 : Int32))])
        refine Go.retZ X6 hx hlk hret (by decide) (hb hby d9_76) (by decide) (by decide) ?_
        try rw [e6]
        exact ⟨congrArg (fun z => some (Value.int z)) (own_low_e1 (P := fP) (Q := fQ) (C := fC) (i := i) (j := j) (x := x) hP hQ hC h4 hd63_8 hc68_9).symm, N0, rfl⟩
      · refine Go.step (fun _ k => XS.icmpYes X6.here hx rfl (pc0 := 68) (pc' := 75) rfl (hb hby d9_68) rfl (flt hc68_9).2.2.2 (by decide) (by decide) k) ?_
        show Go _ _ _ _ _ _ _ T6 (mkF m 75 #[.val (.ref a), .val (.int i), .val (.int j), .val (.int x), .val (.double (FP.dadd (FP.i2d (fP (i).toNatClampNeg)) (FP.dmul (FP.i2d (fQ (i).toNatClampNeg)) (FP.i2d (x - (fC (i).toNatClampNeg)))))), .second, .val (.double (FP.dadd (FP.i2d (fP (j).toNatClampNeg)) (FP.dmul (FP.i2d (fQ (j).toNatClampNeg)) (FP.i2d (x - (fC (j).toNatClampNeg)))))), .second] [])
        refine Go.step (fun _ k => XS.iconst X6.here hx rfl (hb hby d9_75) k) ?_
        refine Go.retZ X6 hx hlk hret (by decide) (hb hby d9_76) (by decide) (by decide) ?_
        try rw [e6]
        exact ⟨congrArg (fun z => some (Value.int z)) (own_low_e0 (P := fP) (Q := fQ) (C := fC) (i := i) (j := j) (x := x) hP hQ hC h4 hd63_8 hc68_9).symm, N0, rfl⟩
    · refine Go.step (fun _ k => XS.ifYes X6.here hx rfl (pc0 := 63) (pc' := 75) rfl (hb hby d9_63) rfl (eq_n .l hd63_8).1 (by decide) (by decide) k) ?_
      show Go _ _ _ _ _ _ _ T6 (mkF m 75 #[.val (.ref a), .val (.int i), .val (.int j), .val (.int x), .val (.double (FP.dadd (FP.i2d (fP (i).toNatClampNeg)) (FP.dmul (FP.i2d (fQ (i).toNatClampNeg)) (FP.i2d (x - (fC (i).toNatClampNeg)))))), .second, .val (.double (FP.dadd (FP.i2d (fP (j).toNatClampNeg)) (FP.dmul (FP.i2d (fQ (j).toNatClampNeg)) (FP.i2d (x - (fC (j).toNatClampNeg)))))), .second] [])
      refine Go.step (fun _ k => XS.iconst X6.here hx rfl (hb hby d9_75) k) ?_
      refine Go.retZ X6 hx hlk hret (by decide) (hb hby d9_76) (by decide) (by decide) ?_
      try rw [e6]
      exact ⟨congrArg (fun z => some (Value.int z)) (own_low_gt (P := fP) (Q := fQ) (C := fC) (i := i) (j := j) (x := x) hP hQ hC h4 hd55_7 hd63_8).symm, N0, rfl⟩
theorem pn_9 : plainName "com/example/headroom/headroom/LowerEnvelope" = true := by first | (simp [plainName, overriddenIn]; done) | decide +kernel
theorem ef_rm9 (m : MethodId) (a : Addr) (i : Int32) (j : Int32) (x : Int32) : entryFrame m #[(.ref a), (.int i), (.int j), (.int x)] 8 = mkF m 0 #[.val (.ref a), .val (.int i), .val (.int j), .val (.int x), .unset, .unset, .unset, .unset] [] := by first | (simp [entryFrame, mkF, argsToLocals, Value.category]; done) | rfl
theorem rm9 (l : Launch) (Z : State) (a0 : Array Value) (hw : ∀ d ∈ tables_1, d.before a0 Z = true) (a xu xv xw : Addr) (fP fQ fC : Nat → Int32) (i j x : Int32) (h0 : Heap) (n0 : Nat) (Z0 : n0 ≤ h0.size) (F_base_a : Fld Z h0 a "com/example/headroom/headroom/LowerEnvelope" "base" "[D" (.ref xu)) (F_slope_a : Fld Z h0 a "com/example/headroom/headroom/LowerEnvelope" "slope" "[D" (.ref xv)) (F_origin_a : Fld Z h0 a "com/example/headroom/headroom/LowerEnvelope" "origin" "[I" (.ref xw)) (V_xu : Dv Z h0 xu (5 : Int32) (fun k => FP.i2d (fP k))) (V_xv : Dv Z h0 xv (5 : Int32) (fun k => FP.i2d (fQ k))) (V_xw : Iv Z h0 xw (5 : Int32) fC) (hP : Sm fP) (hQ : Sm fQ) (hC : Sm fC) (hi : ¬ i < (0 : Int32) ∧ i < (5 : Int32)) (hj : ¬ j < (0 : Int32) ∧ j < (5 : Int32)) (h4 : In4 x) :
    Con l Z (⟨"com/example/headroom/headroom/LowerEnvelope", "lower", "(III)Z"⟩ : MethodName) prog_15_method_5_code 8 (some .boolean) ({ frames := 0, cells := 0, slots := 0, locals := 0 } : Room) #[(.ref a), (.int i), (.int j), (.int x)] h0 (fun r h L => r = some (.int (lowW fP fQ fC i j x)) ∧ Fr n0 L ∧ h = h0) :=
  con_of (plainFor_of_name pn_9) (fun p_ e_ s_ m_ b_ meth_ c_ T_ X_ hx hZ hby hml hown hnm hret hlk e0 => Go.cast (ef_rm9 m_ a i j x) (w9 a xu xv xw fP fQ fC i j x X_ hx hZ hw hby hml hown hnm hret hlk e0 Z0 (Fr.nil n0) F_base_a F_slope_a F_origin_a V_xu V_xv V_xw hP hQ hC hi hj h4))
theorem d8_0 : decode prog_15_method_6_code 0 = .ok (.aload_n 0, 1) := by decide +kernel
theorem d8_1 : decode prog_15_method_6_code 1 = .ok (.getfield 51, 3) := by decide +kernel
theorem d8_4 : decode prog_15_method_6_code 4 = .ok (.aload_n 0, 1) := by decide +kernel
theorem d8_5 : decode prog_15_method_6_code 5 = .ok (.getfield 7, 3) := by decide +kernel
theorem d8_8 : decode prog_15_method_6_code 8 = .ok (.arraylength, 1) := by decide +kernel
theorem d8_9 : decode prog_15_method_6_code 9 = .ok (.if_icmp .ne 37, 3) := by decide +kernel
theorem d8_46 : decode prog_15_method_6_code 46 = .ok (.aload_n 0, 1) := by decide +kernel
theorem d8_47 : decode prog_15_method_6_code 47 = .ok (.getfield 7, 3) := by decide +kernel
theorem d8_50 : decode prog_15_method_6_code 50 = .ok (.aload_n 0, 1) := by decide +kernel
theorem d8_51 : decode prog_15_method_6_code 51 = .ok (.getfield 51, 3) := by decide +kernel
theorem d8_54 : decode prog_15_method_6_code 54 = .ok (.iload_n 1, 1) := by decide +kernel
theorem d8_55 : decode prog_15_method_6_code 55 = .ok (.iastore, 1) := by decide +kernel
theorem d8_56 : decode prog_15_method_6_code 56 = .ok (.aload_n 0, 1) := by decide +kernel
theorem d8_57 : decode prog_15_method_6_code 57 = .ok (.getfield 13, 3) := by decide +kernel
theorem d8_60 : decode prog_15_method_6_code 60 = .ok (.aload_n 0, 1) := by decide +kernel
theorem d8_61 : decode prog_15_method_6_code 61 = .ok (.getfield 51, 3) := by decide +kernel
theorem d8_64 : decode prog_15_method_6_code 64 = .ok (.aload_n 0, 1) := by decide +kernel
theorem d8_65 : decode prog_15_method_6_code 65 = .ok (.getfield 42, 3) := by decide +kernel
theorem d8_68 : decode prog_15_method_6_code 68 = .ok (.iload_n 1, 1) := by decide +kernel
theorem d8_69 : decode prog_15_method_6_code 69 = .ok (.iaload, 1) := by decide +kernel
theorem d8_70 : decode prog_15_method_6_code 70 = .ok (.iastore, 1) := by decide +kernel
theorem d8_71 : decode prog_15_method_6_code 71 = .ok (.aload_n 0, 1) := by decide +kernel
theorem d8_72 : decode prog_15_method_6_code 72 = .ok (.dup, 1) := by decide +kernel
theorem d8_73 : decode prog_15_method_6_code 73 = .ok (.getfield 51, 3) := by decide +kernel
theorem d8_76 : decode prog_15_method_6_code 76 = .ok (.iconst 1, 1) := by decide +kernel
theorem d8_77 : decode prog_15_method_6_code 77 = .ok (.iadd, 1) := by decide +kernel
theorem d8_78 : decode prog_15_method_6_code 78 = .ok (.putfield 51, 3) := by decide +kernel
theorem d8_81 : decode prog_15_method_6_code 81 = .ok (.aload_n 0, 1) := by decide +kernel
theorem d8_82 : decode prog_15_method_6_code 82 = .ok (.getfield 42, 3) := by decide +kernel
theorem d8_85 : decode prog_15_method_6_code 85 = .ok (.iload_n 1, 1) := by decide +kernel
theorem d8_86 : decode prog_15_method_6_code 86 = .ok (.iload_n 2, 1) := by decide +kernel
theorem d8_87 : decode prog_15_method_6_code 87 = .ok (.iastore, 1) := by decide +kernel
theorem d8_88 : decode prog_15_method_6_code 88 = .ok (.return_, 1) := by decide +kernel
set_option maxRecDepth 65536 in
set_option maxHeartbeats 40000000 in
theorem w8 {p : Program} {l : Launch} {e : Env} {s : State} {m : MethodId} {args : Array Value} {below : List Frame} {meth : Method} {c_ : Code} {T0 : State} {locs : List Loc} {Z : State} {a0 : Array Value} {h0 : Heap} {n0 : Nat} (a xn xo xu xv xw xt xm : Addr) (fP fQ fC fT fM fN fO : Nat → Int32) (dd ss : Nat) (k v' : Int32)
    (X0 : Stand p l e ({ frames := 0, cells := 0, slots := 0, locals := 0 } : Room) s m args below meth c_ T0 locs 0 0) (hx : p.tables.exec = Jvm.exec) (hZ : Z.Warmed39 s.vm) (hw : ∀ d ∈ tables_1, d.before a0 Z = true) (hby : c_.code = prog_15_method_6_code) (hml : c_.maxLocals = 3) (hown : s.vm.findClass "com/example/headroom/headroom/LowerEnvelope" = some m.cls) (hnm : meth.name = "write") (hret : meth.sig.returnType = none) (hlk : meth.locks = false) (e0 : T0.heap = h0) (Z0 : n0 ≤ h0.size) (N0 : Fr n0 locs) (hL : LEs Z h0 a xn xo xu xv xw xt xm fP fQ fC fT fM fN fO dd ss) (hD : Dst n0 a xn xo xu xv xw xt xm) (hk : ¬ k < (0 : Int32) ∧ k < (8 : Int32)) (hs : ss < 60) :
    Go p e below s ({ frames := 0, cells := 0, slots := 0, locals := 0 } : Room).cells ({ frames := 0, cells := 0, slots := 0, locals := 0 } : Room).slots (fun r h L => r = none ∧ Fr n0 L ∧ Keep h0 h [a, xn, xo, xu, xv, xw, xt, xm] ∧ LEs Z h a xn xo xu xv xw xt xm fP fQ fC (updN fT (k).toNatClampNeg v') fM (updN fN ss k) (updN fO ss (fT (k).toNatClampNeg)) dd (ss + 1)) T0 (mkF m 0 #[.val (.ref a), .val (.int k), .val (.int v')] []) := by
  have hDq := hD
  obtain ⟨ne_a_xn, ne_a_xo, ne_a_xu, ne_a_xv, ne_a_xw, ne_a_xt, ne_a_xm, ne_xn_xo, ne_xn_xu, ne_xn_xv, ne_xn_xw, ne_xn_xt, ne_xn_xm, ne_xo_xu, ne_xo_xv, ne_xo_xw, ne_xo_xt, ne_xo_xm, ne_xu_xv, ne_xu_xw, ne_xu_xt, ne_xu_xm, ne_xv_xw, ne_xv_xt, ne_xv_xm, ne_xw_xt, ne_xw_xm, ne_xt_xm, ge_a, ge_xn, ge_xo, ge_xu, ge_xv, ge_xw, ge_xt, ge_xm⟩ := hDq
  obtain ⟨E_a_0, F_changedNode_a_0, F_changedLine_a_0, F_base_a_0, F_slope_a_0, F_origin_a_0, F_node_a_0, F_pushedAt_a_0, F_width_a_0, F_pushes_a_0, F_changes_a_0, V_xn_0, V_xo_0, V_xu_0, V_xv_0, V_xw_0, V_xt_0, V_xm_0⟩ := hL
  show Go _ _ _ _ _ _ _ T0 (mkF m 0 #[.val (.ref a), .val (.int k), .val (.int v')] [])
  refine Go.step (fun _ k => XS.aloadN X0.here hx rfl (hb hby d8_0) rfl rfl k) ?_
  obtain ⟨T1, X1, e1, st1⟩ := getF X0 hx hZ hown (host := "") (Or.inl (hw _ (mI 51 rfl))) Via.refl e0 F_changes_a_0 (g := (mkF m 1 #[.val (.ref a), .val (.int k), .val (.int v')] [(.ref a)])) rfl rfl (hb hby d8_1)
  refine Go.step st1 ?_
  show Go _ _ _ _ _ _ _ T1 (mkF m 4 #[.val (.ref a), .val (.int k), .val (.int v')] [(.int (Int32.ofNat ss))])
  refine Go.step (fun _ k => XS.aloadN X1.here hx rfl (hb hby d8_4) rfl rfl k) ?_
  obtain ⟨T2, X2, e2, st2⟩ := getF X1 hx hZ hown (host := "") (Or.inl (hw _ (mI 10 rfl))) Via.refl e1 F_changedNode_a_0 (g := (mkF m 5 #[.val (.ref a), .val (.int k), .val (.int v')] [(.ref a), (.int (Int32.ofNat ss))])) rfl rfl (hb hby d8_5)
  refine Go.step st2 ?_
  show Go _ _ _ _ _ _ _ T2 (mkF m 8 #[.val (.ref a), .val (.int k), .val (.int v')] [(.ref xn), (.int (Int32.ofNat ss))])
  refine Go.alen X2 hx hZ e2 V_xn_0 (hb hby d8_8) ?_
  show Go _ _ _ _ _ _ _ T2 (mkF m 9 #[.val (.ref a), .val (.int k), .val (.int v')] [(.int (64 : Int32)), (.int (Int32.ofNat ss))])
  refine Go.step (fun _ k => XS.icmpYes X2.here hx rfl (pc0 := 9) (pc' := 46) rfl (hb hby d8_9) rfl (feq (own_n64 hs)).2 (by decide) (by decide) k) ?_
  show Go _ _ _ _ _ _ _ T2 (mkF m 46 #[.val (.ref a), .val (.int k), .val (.int v')] [])
  refine Go.step (fun _ k => XS.aloadN X2.here hx rfl (hb hby d8_46) rfl rfl k) ?_
  obtain ⟨T3, X3, e3, st3⟩ := getF X2 hx hZ hown (host := "") (Or.inl (hw _ (mI 10 rfl))) Via.refl e2 F_changedNode_a_0 (g := (mkF m 47 #[.val (.ref a), .val (.int k), .val (.int v')] [(.ref a)])) rfl rfl (hb hby d8_47)
  refine Go.step st3 ?_
  show Go _ _ _ _ _ _ _ T3 (mkF m 50 #[.val (.ref a), .val (.int k), .val (.int v')] [(.ref xn)])
  refine Go.step (fun _ k => XS.aloadN X3.here hx rfl (hb hby d8_50) rfl rfl k) ?_
  obtain ⟨T4, X4, e4, st4⟩ := getF X3 hx hZ hown (host := "") (Or.inl (hw _ (mI 51 rfl))) Via.refl e3 F_changes_a_0 (g := (mkF m 51 #[.val (.ref a), .val (.int k), .val (.int v')] [(.ref a), (.ref xn)])) rfl rfl (hb hby d8_51)
  refine Go.step st4 ?_
  show Go _ _ _ _ _ _ _ T4 (mkF m 54 #[.val (.ref a), .val (.int k), .val (.int v')] [(.int (Int32.ofNat ss)), (.ref xn)])
  refine Go.step (fun _ k => XS.iloadN X4.here hx rfl (hb hby d8_54) rfl k) ?_
  refine Go.iastore X4 hx hZ e4 V_xn_0 (j := (Int32.ofNat ss)) (x := k) (own_b64 hs) (hb hby d8_55) ?_
  intro T5 h5 X5 e5 W5 Vn5
  have V_xn_5 : Iv Z h5 xn (64 : Int32) (updN fN ((Int32.ofNat ss)).toNatClampNeg k) := Vn5
  have N5 := Fr.snoc X5 N0 ge_xn
  have E_a_5 := E_a_0.wr W5
  have F_changedNode_a_5 := F_changedNode_a_0.other W5 (Or.inl ne_a_xn)
  have F_changedLine_a_5 := F_changedLine_a_0.other W5 (Or.inl ne_a_xn)
  have F_base_a_5 := F_base_a_0.other W5 (Or.inl ne_a_xn)
  have F_slope_a_5 := F_slope_a_0.other W5 (Or.inl ne_a_xn)
  have F_origin_a_5 := F_origin_a_0.other W5 (Or.inl ne_a_xn)
  have F_node_a_5 := F_node_a_0.other W5 (Or.inl ne_a_xn)
  have F_pushedAt_a_5 := F_pushedAt_a_0.other W5 (Or.inl ne_a_xn)
  have F_width_a_5 := F_width_a_0.other W5 (Or.inl ne_a_xn)
  have F_pushes_a_5 := F_pushes_a_0.other W5 (Or.inl ne_a_xn)
  have F_changes_a_5 := F_changes_a_0.other W5 (Or.inl ne_a_xn)
  have V_xo_5 := V_xo_0.other W5 (Ne.symm ne_xn_xo)
  have V_xu_5 := V_xu_0.other W5 (Ne.symm ne_xn_xu)
  have V_xv_5 := V_xv_0.other W5 (Ne.symm ne_xn_xv)
  have V_xw_5 := V_xw_0.other W5 (Ne.symm ne_xn_xw)
  have V_xt_5 := V_xt_0.other W5 (Ne.symm ne_xn_xt)
  have V_xm_5 := V_xm_0.other W5 (Ne.symm ne_xn_xm)
  have K5 : Keep h0 h5 [a, xn, xo, xu, xv, xw, xt, xm] := (Keep.refl h0 [a, xn, xo, xu, xv, xw, xt, xm]).wr W5 (Or.inl (List.mem_of_getElem? (i := 1) rfl))
  show Go _ _ _ _ _ _ _ T5 (mkF m 56 #[.val (.ref a), .val (.int k), .val (.int v')] [])
  refine Go.step (fun _ k => XS.aloadN X5.here hx rfl (hb hby d8_56) rfl rfl k) ?_
  obtain ⟨T6, X6, e6, st6⟩ := getF X5 hx hZ hown (host := "") (Or.inl (hw _ (mI 12 rfl))) Via.refl e5 F_changedLine_a_5 (g := (mkF m 57 #[.val (.ref a), .val (.int k), .val (.int v')] [(.ref a)])) rfl rfl (hb hby d8_57)
  refine Go.step st6 ?_
  show Go _ _ _ _ _ _ _ T6 (mkF m 60 #[.val (.ref a), .val (.int k), .val (.int v')] [(.ref xo)])
  refine Go.step (fun _ k => XS.aloadN X6.here hx rfl (hb hby d8_60) rfl rfl k) ?_
  obtain ⟨T7, X7, e7, st7⟩ := getF X6 hx hZ hown (host := "") (Or.inl (hw _ (mI 51 rfl))) Via.refl e6 F_changes_a_5 (g := (mkF m 61 #[.val (.ref a), .val (.int k), .val (.int v')] [(.ref a), (.ref xo)])) rfl rfl (hb hby d8_61)
  refine Go.step st7 ?_
  show Go _ _ _ _ _ _ _ T7 (mkF m 64 #[.val (.ref a), .val (.int k), .val (.int v')] [(.int (Int32.ofNat ss)), (.ref xo)])
  refine Go.step (fun _ k => XS.aloadN X7.here hx rfl (hb hby d8_64) rfl rfl k) ?_
  obtain ⟨T8, X8, e8, st8⟩ := getF X7 hx hZ hown (host := "") (Or.inl (hw _ (mI 36 rfl))) Via.refl e7 F_node_a_5 (g := (mkF m 65 #[.val (.ref a), .val (.int k), .val (.int v')] [(.ref a), (.int (Int32.ofNat ss)), (.ref xo)])) rfl rfl (hb hby d8_65)
  refine Go.step st8 ?_
  show Go _ _ _ _ _ _ _ T8 (mkF m 68 #[.val (.ref a), .val (.int k), .val (.int v')] [(.ref xt), (.int (Int32.ofNat ss)), (.ref xo)])
  refine Go.step (fun _ k => XS.iloadN X8.here hx rfl (hb hby d8_68) rfl k) ?_
  refine Go.iaload X8 hx hZ e8 V_xt_5 (j := k) (v := (fT (k).toNatClampNeg)) hk rfl (hb hby d8_69) ?_
  show Go _ _ _ _ _ _ _ T8 (mkF m 70 #[.val (.ref a), .val (.int k), .val (.int v')] [(.int (fT (k).toNatClampNeg)), (.int (Int32.ofNat ss)), (.ref xo)])
  refine Go.iastore X8 hx hZ e8 V_xo_5 (j := (Int32.ofNat ss)) (x := (fT (k).toNatClampNeg)) (own_b64 hs) (hb hby d8_70) ?_
  intro T9 h9 X9 e9 W9 Vn9
  have V_xo_9 : Iv Z h9 xo (64 : Int32) (updN fO ((Int32.ofNat ss)).toNatClampNeg (fT (k).toNatClampNeg)) := Vn9
  have N9 := Fr.snoc X9 N5 ge_xo
  have E_a_9 := E_a_5.wr W9
  have F_changedNode_a_9 := F_changedNode_a_5.other W9 (Or.inl ne_a_xo)
  have F_changedLine_a_9 := F_changedLine_a_5.other W9 (Or.inl ne_a_xo)
  have F_base_a_9 := F_base_a_5.other W9 (Or.inl ne_a_xo)
  have F_slope_a_9 := F_slope_a_5.other W9 (Or.inl ne_a_xo)
  have F_origin_a_9 := F_origin_a_5.other W9 (Or.inl ne_a_xo)
  have F_node_a_9 := F_node_a_5.other W9 (Or.inl ne_a_xo)
  have F_pushedAt_a_9 := F_pushedAt_a_5.other W9 (Or.inl ne_a_xo)
  have F_width_a_9 := F_width_a_5.other W9 (Or.inl ne_a_xo)
  have F_pushes_a_9 := F_pushes_a_5.other W9 (Or.inl ne_a_xo)
  have F_changes_a_9 := F_changes_a_5.other W9 (Or.inl ne_a_xo)
  have V_xn_9 := V_xn_5.other W9 ne_xn_xo
  have V_xu_9 := V_xu_5.other W9 (Ne.symm ne_xo_xu)
  have V_xv_9 := V_xv_5.other W9 (Ne.symm ne_xo_xv)
  have V_xw_9 := V_xw_5.other W9 (Ne.symm ne_xo_xw)
  have V_xt_9 := V_xt_5.other W9 (Ne.symm ne_xo_xt)
  have V_xm_9 := V_xm_5.other W9 (Ne.symm ne_xo_xm)
  have K9 : Keep h0 h9 [a, xn, xo, xu, xv, xw, xt, xm] := K5.wr W9 (Or.inl (List.mem_of_getElem? (i := 2) rfl))
  show Go _ _ _ _ _ _ _ T9 (mkF m 71 #[.val (.ref a), .val (.int k), .val (.int v')] [])
  refine Go.step (fun _ k => XS.aloadN X9.here hx rfl (hb hby d8_71) rfl rfl k) ?_
  refine Go.step (fun _ k => XS.dup X9.here hx rfl (hb hby d8_72) rfl rfl k) ?_
  obtain ⟨T10, X10, e10, st10⟩ := getF X9 hx hZ hown (host := "") (Or.inl (hw _ (mI 51 rfl))) Via.refl e9 F_changes_a_9 (g := (mkF m 73 #[.val (.ref a), .val (.int k), .val (.int v')] [(.ref a), (.ref a)])) rfl rfl (hb hby d8_73)
  refine Go.step st10 ?_
  show Go _ _ _ _ _ _ _ T10 (mkF m 76 #[.val (.ref a), .val (.int k), .val (.int v')] [(.int (Int32.ofNat ss)), (.ref a)])
  refine Go.step (fun _ k => XS.iconst X10.here hx rfl (hb hby d8_76) k) ?_
  refine Go.step (fun _ k => XS.iadd X10.here hx rfl (hb hby d8_77) rfl k) ?_
  show Go _ _ _ _ _ _ _ T10 (mkF m 78 #[.val (.ref a), .val (.int k), .val (.int v')] [(.int ((Int32.ofNat ss) + (1 : Int32))), (.ref a)])
  obtain ⟨T11, h11, X11, e11, W11, st11⟩ := putF X10 hx hZ hown (host := "") (Or.inl (hw _ (mI 51 rfl))) Via.refl e10 F_changes_a_9 E_a_9 (Or.inl (hw _ (mI 52 rfl))) (hw _ (mI 1 rfl)) (ty := .int) (by decide) rfl rfl (g := (mkF m 78 #[.val (.ref a), .val (.int k), .val (.int v')] [(.int ((Int32.ofNat ss) + (1 : Int32))), (.ref a)])) rfl rfl (hb hby d8_78)
  refine Go.step st11 ?_
  have N11 := Fr.snoc X11 N9 ge_a
  have F_changes_a_11 := F_changes_a_9.same W11
  have E_a_11 := E_a_9.wr W11
  have F_changedNode_a_11 := F_changedNode_a_9.other W11 (Or.inr (slot_ne (Or.inl (hw _ (mI 11 rfl))) (Or.inl (hw _ (mI 52 rfl))) (by decide) (t := (.array .int)) (t' := .int) (by decide) (by decide)))
  have F_changedLine_a_11 := F_changedLine_a_9.other W11 (Or.inr (slot_ne (Or.inl (hw _ (mI 13 rfl))) (Or.inl (hw _ (mI 52 rfl))) (by decide) (t := (.array .int)) (t' := .int) (by decide) (by decide)))
  have F_base_a_11 := F_base_a_9.other W11 (Or.inr (slot_ne (Or.inr (hw _ (mI 31 rfl))) (Or.inl (hw _ (mI 52 rfl))) (by decide) (t := (.array .double)) (t' := .int) (by decide) (by decide)))
  have F_slope_a_11 := F_slope_a_9.other W11 (Or.inr (slot_ne (Or.inr (hw _ (mI 33 rfl))) (Or.inl (hw _ (mI 52 rfl))) (by decide) (t := (.array .double)) (t' := .int) (by decide) (by decide)))
  have F_origin_a_11 := F_origin_a_9.other W11 (Or.inr (slot_ne (Or.inr (hw _ (mI 35 rfl))) (Or.inl (hw _ (mI 52 rfl))) (by decide) (t := (.array .int)) (t' := .int) (by decide) (by decide)))
  have F_node_a_11 := F_node_a_9.other W11 (Or.inr (slot_ne (Or.inr (hw _ (mI 37 rfl))) (Or.inl (hw _ (mI 52 rfl))) (by decide) (t := (.array .int)) (t' := .int) (by decide) (by decide)))
  have F_pushedAt_a_11 := F_pushedAt_a_9.other W11 (Or.inr (slot_ne (Or.inr (hw _ (mI 39 rfl))) (Or.inl (hw _ (mI 52 rfl))) (by decide) (t := (.array .int)) (t' := .int) (by decide) (by decide)))
  have F_width_a_11 := F_width_a_9.other W11 (Or.inr (slot_ne (Or.inr (hw _ (mI 28 rfl))) (Or.inl (hw _ (mI 52 rfl))) (by decide) (t := .int) (t' := .int) (by decide) (by decide)))
  have F_pushes_a_11 := F_pushes_a_9.other W11 (Or.inr (slot_ne (Or.inl (hw _ (mI 50 rfl))) (Or.inl (hw _ (mI 52 rfl))) (by decide) (t := .int) (t' := .int) (by decide) (by decide)))
  have V_xn_11 := V_xn_9.other W11 (Ne.symm ne_a_xn)
  have V_xo_11 := V_xo_9.other W11 (Ne.symm ne_a_xo)
  have V_xu_11 := V_xu_9.other W11 (Ne.symm ne_a_xu)
  have V_xv_11 := V_xv_9.other W11 (Ne.symm ne_a_xv)
  have V_xw_11 := V_xw_9.other W11 (Ne.symm ne_a_xw)
  have V_xt_11 := V_xt_9.other W11 (Ne.symm ne_a_xt)
  have V_xm_11 := V_xm_9.other W11 (Ne.symm ne_a_xm)
  have K11 : Keep h0 h11 [a, xn, xo, xu, xv, xw, xt, xm] := K9.wr W11 (Or.inl (List.mem_of_getElem? (i := 0) rfl))
  show Go _ _ _ _ _ _ _ T11 (mkF m 81 #[.val (.ref a), .val (.int k), .val (.int v')] [])
  refine Go.step (fun _ k => XS.aloadN X11.here hx rfl (hb hby d8_81) rfl rfl k) ?_
  obtain ⟨T12, X12, e12, st12⟩ := getF X11 hx hZ hown (host := "") (Or.inl (hw _ (mI 36 rfl))) Via.refl e11 F_node_a_11 (g := (mkF m 82 #[.val (.ref a), .val (.int k), .val (.int v')] [(.ref a)])) rfl rfl (hb hby d8_82)
  refine Go.step st12 ?_
  show Go _ _ _ _ _ _ _ T12 (mkF m 85 #[.val (.ref a), .val (.int k), .val (.int v')] [(.ref xt)])
  refine Go.step (fun _ k => XS.iloadN X12.here hx rfl (hb hby d8_85) rfl k) ?_
  refine Go.step (fun _ k => XS.iloadN X12.here hx rfl (hb hby d8_86) rfl k) ?_
  refine Go.iastore X12 hx hZ e12 V_xt_11 (j := k) (x := v') hk (hb hby d8_87) ?_
  intro T13 h13 X13 e13 W13 Vn13
  have V_xt_13 : Iv Z h13 xt (8 : Int32) (updN fT (k).toNatClampNeg v') := Vn13
  have N13 := Fr.snoc X13 N11 ge_xt
  have E_a_13 := E_a_11.wr W13
  have F_changedNode_a_13 := F_changedNode_a_11.other W13 (Or.inl ne_a_xt)
  have F_changedLine_a_13 := F_changedLine_a_11.other W13 (Or.inl ne_a_xt)
  have F_base_a_13 := F_base_a_11.other W13 (Or.inl ne_a_xt)
  have F_slope_a_13 := F_slope_a_11.other W13 (Or.inl ne_a_xt)
  have F_origin_a_13 := F_origin_a_11.other W13 (Or.inl ne_a_xt)
  have F_node_a_13 := F_node_a_11.other W13 (Or.inl ne_a_xt)
  have F_pushedAt_a_13 := F_pushedAt_a_11.other W13 (Or.inl ne_a_xt)
  have F_width_a_13 := F_width_a_11.other W13 (Or.inl ne_a_xt)
  have F_pushes_a_13 := F_pushes_a_11.other W13 (Or.inl ne_a_xt)
  have F_changes_a_13 := F_changes_a_11.other W13 (Or.inl ne_a_xt)
  have V_xn_13 := V_xn_11.other W13 ne_xn_xt
  have V_xo_13 := V_xo_11.other W13 ne_xo_xt
  have V_xu_13 := V_xu_11.other W13 ne_xu_xt
  have V_xv_13 := V_xv_11.other W13 ne_xv_xt
  have V_xw_13 := V_xw_11.other W13 ne_xw_xt
  have V_xm_13 := V_xm_11.other W13 (Ne.symm ne_xt_xm)
  have K13 : Keep h0 h13 [a, xn, xo, xu, xv, xw, xt, xm] := K11.wr W13 (Or.inl (List.mem_of_getElem? (i := 6) rfl))
  show Go _ _ _ _ _ _ _ T13 (mkF m 88 #[.val (.ref a), .val (.int k), .val (.int v')] [])
  refine Go.retV X13 hx hlk hret (hb hby d8_88) (by decide) (by decide) ?_
  try rw [e13]
  have w1 : Iv Z h13 xn (64 : Int32) (updN fN ss k) := by have q := V_xn_13; rw [own_nat hs] at q; exact q
  have w2 : Iv Z h13 xo (64 : Int32) (updN fO ss (fT (k).toNatClampNeg)) := by have q := V_xo_13; rw [own_nat hs] at q; exact q
  have w3 : Fld Z h13 a "com/example/headroom/headroom/LowerEnvelope" "changes" "I" (.int (Int32.ofNat (ss + 1))) := by have q := F_changes_a_13; rw [own_suc] at q; exact q
  exact ⟨rfl, N13, K13, ⟨E_a_13, F_changedNode_a_13, F_changedLine_a_13, F_base_a_13, F_slope_a_13, F_origin_a_13, F_node_a_13, F_pushedAt_a_13, F_width_a_13, F_pushes_a_13, w3, w1, w2, V_xu_13, V_xv_13, V_xw_13, V_xt_13, V_xm_13⟩⟩
theorem ef_rm8 (m : MethodId) (a : Addr) (k : Int32) : entryFrame m #[(.ref a), (.int k), (.int v')] 3 = mkF m 0 #[.val (.ref a), .val (.int k), .val (.int v')] [] := by first | (simp [entryFrame, mkF, argsToLocals, Value.category]; done) | rfl
theorem rm8 (l : Launch) (Z : State) (a0 : Array Value) (hw : ∀ d ∈ tables_1, d.before a0 Z = true) (a xn xo xu xv xw xt xm : Addr) (fP fQ fC fT fM fN fO : Nat → Int32) (dd ss : Nat) (k v' : Int32) (h0 : Heap) (n0 : Nat) (Z0 : n0 ≤ h0.size) (hL : LEs Z h0 a xn xo xu xv xw xt xm fP fQ fC fT fM fN fO dd ss) (hD : Dst n0 a xn xo xu xv xw xt xm) (hk : ¬ k < (0 : Int32) ∧ k < (8 : Int32)) (hs : ss < 60) :
    Con l Z (⟨"com/example/headroom/headroom/LowerEnvelope", "write", "(II)V"⟩ : MethodName) prog_15_method_6_code 3 none ({ frames := 0, cells := 0, slots := 0, locals := 0 } : Room) #[(.ref a), (.int k), (.int v')] h0 (fun r h L => r = none ∧ Fr n0 L ∧ Keep h0 h [a, xn, xo, xu, xv, xw, xt, xm] ∧ LEs Z h a xn xo xu xv xw xt xm fP fQ fC (updN fT (k).toNatClampNeg v') fM (updN fN ss k) (updN fO ss (fT (k).toNatClampNeg)) dd (ss + 1)) :=
  con_of (plainFor_of_name pn_9) (fun p_ e_ s_ m_ b_ meth_ c_ T_ X_ hx hZ hby hml hown hnm hret hlk e0 => Go.cast (ef_rm8 m_ a k) (w8 a xn xo xu xv xw xt xm fP fQ fC fT fM fN fO dd ss k v' X_ hx hZ hw hby hml hown hnm hret hlk e0 Z0 (Fr.nil n0) hL hD hk hs))
theorem d7_58 : decode prog_15_method_2_code 58 = .ok (.aload_n 0, 1) := by decide +kernel
theorem d7_59 : decode prog_15_method_2_code 59 = .ok (.getfield 42, 3) := by decide +kernel
theorem d7_62 : decode prog_15_method_2_code 62 = .ok (.iload 8, 2) := by decide +kernel
theorem d7_64 : decode prog_15_method_2_code 64 = .ok (.iaload, 1) := by decide +kernel
theorem d7_65 : decode prog_15_method_2_code 65 = .ok (.istore 11, 2) := by decide +kernel
theorem d7_67 : decode prog_15_method_2_code 67 = .ok (.iload 11, 2) := by decide +kernel
theorem d7_69 : decode prog_15_method_2_code 69 = .ok (.ifCond .ne 12, 3) := by decide +kernel
theorem d7_72 : decode prog_15_method_2_code 72 = .ok (.aload_n 0, 1) := by decide +kernel
theorem d7_73 : decode prog_15_method_2_code 73 = .ok (.iload 8, 2) := by decide +kernel
theorem d7_75 : decode prog_15_method_2_code 75 = .ok (.iload 7, 2) := by decide +kernel
theorem d7_77 : decode prog_15_method_2_code 77 = .ok (.invokevirtual 54, 3) := by decide +kernel
theorem pd_0 : parseMethodDescriptor "(II)V" = some ⟨[.int, .int], none⟩ := by decide +kernel
theorem d7_80 : decode prog_15_method_2_code 80 = .ok (.return_, 1) := by decide +kernel
set_option maxRecDepth 65536 in
set_option maxHeartbeats 40000000 in
theorem wL2 {p : Program} {l : Launch} {e : Env} {s : State} {m : MethodId} {args : Array Value} {below : List Frame} {meth : Method} {c_ : Code} {T0 : State} {locs : List Loc} {Z : State} {a0 : Array Value} {h0 : Heap} {n0 : Nat} (hh : Heap) (a xn xo xu xv xw xt xm : Addr) (fP fQ fC fT fM fN fO : Nat → Int32) (tT tN tO : Nat → Int32) (sg nn : Nat) (li : Int32) (dp dq : UInt64) (lc cand : Int32) (nd lft rgt y11 y12 : Int32)
    (X0 : Stand p l e ({ frames := 1, cells := 0, slots := 0, locals := 24 } : Room) s m args below meth c_ T0 locs 0 0) (hx : p.tables.exec = Jvm.exec) (hZ : Z.Warmed39 s.vm) (hw : ∀ d ∈ tables_1, d.before a0 Z = true) (hby : c_.code = prog_15_method_2_code) (hml : c_.maxLocals = 13) (hown : s.vm.findClass "com/example/headroom/headroom/LowerEnvelope" = some m.cls) (hnm : meth.name = "push") (hret : meth.sig.returnType = none) (hlk : meth.locks = false) (e0 : T0.heap = h0) (Z0 : n0 ≤ h0.size) (N0 : Fr n0 locs) (hL : LEs Z h0 a xn xo xu xv xw xt xm fP fQ fC fT fM fN fO 3 (sg + nn)) (hD : Dst n0 a xn xo xu xv xw xt xm) (hG : Good tT tN tO sg fT fN fO nn) (Kh : Keep hh h0 [a, xn, xo, xu, xv, xw, xt, xm]) (hsg : sg ≤ 10) (hn : nn ≤ 2) (hk : ¬ nd < (0 : Int32) ∧ nd < (8 : Int32)) (hz : fT (nd).toNatClampNeg = (0 : Int32)) :
    Go p e below s ({ frames := 1, cells := 0, slots := 0, locals := 24 } : Room).cells ({ frames := 1, cells := 0, slots := 0, locals := 24 } : Room).slots (fun r h L => r = none ∧ Fr n0 L ∧ Keep hh h [a, xn, xo, xu, xv, xw, xt, xm] ∧ ∃ (T' N' O' : Nat → Int32) (n' : Nat), LEs Z h a xn xo xu xv xw xt xm fP fQ fC T' fM N' O' 3 (sg + n') ∧ Good tT tN tO sg T' N' O' n' ∧ n' ≤ 3) T0 (mkF m 58 #[.val (.ref a), .val (.int li), .val (.double dp), .second, .val (.double dq), .second, .val (.int lc), .val (.int cand), .val (.int nd), .val (.int lft), .val (.int rgt), .val (.int y11), .val (.int y12)] []) := by
  have hDq := hD
  obtain ⟨ne_a_xn, ne_a_xo, ne_a_xu, ne_a_xv, ne_a_xw, ne_a_xt, ne_a_xm, ne_xn_xo, ne_xn_xu, ne_xn_xv, ne_xn_xw, ne_xn_xt, ne_xn_xm, ne_xo_xu, ne_xo_xv, ne_xo_xw, ne_xo_xt, ne_xo_xm, ne_xu_xv, ne_xu_xw, ne_xu_xt, ne_xu_xm, ne_xv_xw, ne_xv_xt, ne_xv_xm, ne_xw_xt, ne_xw_xm, ne_xt_xm, ge_a, ge_xn, ge_xo, ge_xu, ge_xv, ge_xw, ge_xt, ge_xm⟩ := hDq
  obtain ⟨E_a_0, F_changedNode_a_0, F_changedLine_a_0, F_base_a_0, F_slope_a_0, F_origin_a_0, F_node_a_0, F_pushedAt_a_0, F_width_a_0, F_pushes_a_0, F_changes_a_0, V_xn_0, V_xo_0, V_xu_0, V_xv_0, V_xw_0, V_xt_0, V_xm_0⟩ := hL
  show Go _ _ _ _ _ _ _ T0 (mkF m 58 #[.val (.ref a), .val (.int li), .val (.double dp), .second, .val (.double dq), .second, .val (.int lc), .val (.int cand), .val (.int nd), .val (.int lft), .val (.int rgt), .val (.int y11), .val (.int y12)] [])
  refine Go.step (fun _ k => XS.aloadN X0.here hx rfl (hb hby d7_58) rfl rfl k) ?_
  obtain ⟨T1, X1, e1, st1⟩ := getF X0 hx hZ hown (host := "") (Or.inl (hw _ (mI 36 rfl))) Via.refl e0 F_node_a_0 (g := (mkF m 59 #[.val (.ref a), .val (.int li), .val (.double dp), .second, .val (.double dq), .second, .val (.int lc), .val (.int cand), .val (.int nd), .val (.int lft), .val (.int rgt), .val (.int y11), .val (.int y12)] [(.ref a)])) rfl rfl (hb hby d7_59)
  refine Go.step st1 ?_
  show Go _ _ _ _ _ _ _ T1 (mkF m 62 #[.val (.ref a), .val (.int li), .val (.double dp), .second, .val (.double dq), .second, .val (.int lc), .val (.int cand), .val (.int nd), .val (.int lft), .val (.int rgt), .val (.int y11), .val (.int y12)] [(.ref xt)])
  refine Go.step (fun _ k => XS.iload X1.here hx rfl (hb hby d7_62) rfl k) ?_
  refine Go.iaload X1 hx hZ e1 V_xt_0 (j := nd) (v := (fT (nd).toNatClampNeg)) hk rfl (hb hby d7_64) ?_
  show Go _ _ _ _ _ _ _ T1 (mkF m 65 #[.val (.ref a), .val (.int li), .val (.double dp), .second, .val (.double dq), .second, .val (.int lc), .val (.int cand), .val (.int nd), .val (.int lft), .val (.int rgt), .val (.int y11), .val (.int y12)] [(.int (fT (nd).toNatClampNeg))])
  refine Go.step (fun _ k => XS.istore X1.here hx rfl (hb hby d7_65) rfl (l' := #[.val (.ref a), .val (.int li), .val (.double dp), .second, .val (.double dq), .second, .val (.int lc), .val (.int cand), .val (.int nd), .val (.int lft), .val (.int rgt), .val (.int (fT (nd).toNatClampNeg)), .val (.int y12)]) rfl k) ?_
  show Go _ _ _ _ _ _ _ T1 (mkF m 67 #[.val (.ref a), .val (.int li), .val (.double dp), .second, .val (.double dq), .second, .val (.int lc), .val (.int cand), .val (.int nd), .val (.int lft), .val (.int rgt), .val (.int (fT (nd).toNatClampNeg)), .val (.int y12)] [])
  refine Go.step (fun _ k => XS.iload X1.here hx rfl (hb hby d7_67) rfl k) ?_
  refine Go.step (fun _ k => XS.ifNo X1.here hx rfl (hb hby d7_69) rfl ((if0 _ _).trans (teq hz).2) k) ?_
  show Go _ _ _ _ _ _ _ T1 (mkF m 72 #[.val (.ref a), .val (.int li), .val (.double dp), .second, .val (.double dq), .second, .val (.int lc), .val (.int cand), .val (.int nd), .val (.int lft), .val (.int rgt), .val (.int (fT (nd).toNatClampNeg)), .val (.int y12)] [])
  refine Go.step (fun _ k => XS.aloadN X1.here hx rfl (hb hby d7_72) rfl rfl k) ?_
  refine Go.step (fun _ k => XS.iload X1.here hx rfl (hb hby d7_73) rfl k) ?_
  refine Go.step (fun _ k => XS.iload X1.here hx rfl (hb hby d7_75) rfl k) ?_
  show Go _ _ _ _ _ _ _ T1 (mkF m 77 #[.val (.ref a), .val (.int li), .val (.double dp), .second, .val (.double dq), .second, .val (.int lc), .val (.int cand), .val (.int nd), .val (.int lft), .val (.int rgt), .val (.int (fT (nd).toNatClampNeg)), .val (.int y12)] [(.int cand), (.int nd), (.ref a)])
  refine Go.callP X1 hx hZ (by rw [hml]; rfl) (y := (⟨"com/example/headroom/headroom/LowerEnvelope", "write", "(II)V"⟩ : MethodName)) (a := a) (argsL := [(.int nd), (.int cand)]) (rest := []) hown (hw _ (mI 53 rfl)) (hw _ (mI 54 rfl)) (hw _ (mI 1 rfl)) (hw _ (mI 55 rfl)) (hw _ (mI 2 rfl)) (hw _ (mI 56 rfl)) (by decide) (rm8 l Z a0 hw a xn xo xu xv xw xt xm fP fQ fC fT fM fN fO 3 (sg + nn) nd cand h0 n0 Z0 ⟨E_a_0, F_changedNode_a_0, F_changedLine_a_0, F_base_a_0, F_slope_a_0, F_origin_a_0, F_node_a_0, F_pushedAt_a_0, F_width_a_0, F_pushes_a_0, F_changes_a_0, V_xn_0, V_xo_0, V_xu_0, V_xv_0, V_xw_0, V_xt_0, V_xm_0⟩ hD hk (by omega)) e1 E_a_0 (hb hby d7_77) (lenOf pd_0 rfl) rfl rfl (W := 0) (Nat.le_of_eq rfl) (by decide) (by decide) (by decide) (by decide) ?_
  intro v2 T2 L2 X2 Q2
  obtain ⟨rfl, N2q, Kc2, hL2⟩ := Q2
  have N2 := Fr.app N0 N2q
  have E_a_2 := E_a_0.keep Kc2
  have KK2 : Keep h0 T2.heap [a, xn, xo, xu, xv, xw, xt, xm] := ((Keep.refl h0 [a, xn, xo, xu, xv, xw, xt, xm]) : Keep h0 h0 [a, xn, xo, xu, xv, xw, xt, xm]).trans Kc2 (allS (Or.inl (List.mem_of_getElem? (i := 0) rfl)) (allS (Or.inl (List.mem_of_getElem? (i := 1) rfl)) (allS (Or.inl (List.mem_of_getElem? (i := 2) rfl)) (allS (Or.inl (List.mem_of_getElem? (i := 3) rfl)) (allS (Or.inl (List.mem_of_getElem? (i := 4) rfl)) (allS (Or.inl (List.mem_of_getElem? (i := 5) rfl)) (allS (Or.inl (List.mem_of_getElem? (i := 6) rfl)) (allS (Or.inl (List.mem_of_getElem? (i := 7) rfl)) all0))))))))
  have hL2x : LEs Z T2.heap a xn xo xu xv xw xt xm fP fQ fC (updN fT (nd).toNatClampNeg cand) fM (updN fN (sg + nn) nd) (updN fO (sg + nn) (fT (nd).toNatClampNeg)) 3 (sg + (nn + 1)) := hL2
  have hG2 := Good.write hG (k := nd) hk cand
  obtain ⟨E_a_2, F_changedNode_a_2, F_changedLine_a_2, F_base_a_2, F_slope_a_2, F_origin_a_2, F_node_a_2, F_pushedAt_a_2, F_width_a_2, F_pushes_a_2, F_changes_a_2, V_xn_2, V_xo_2, V_xu_2, V_xv_2, V_xw_2, V_xt_2, V_xm_2⟩ := hL2x
  show Go _ _ _ _ _ _ _ T2 (mkF m 80 #[.val (.ref a), .val (.int li), .val (.double dp), .second, .val (.double dq), .second, .val (.int lc), .val (.int cand), .val (.int nd), .val (.int lft), .val (.int rgt), .val (.int (fT (nd).toNatClampNeg)), .val (.int y12)] [])
  refine Go.retV X2 hx hlk hret (hb hby d7_80) (by decide) (by decide) ?_
  exact ⟨rfl, N2, (Kh.trans (KK2 : Keep h0 T2.heap [a, xn, xo, xu, xv, xw, xt, xm]) (fun y hy => Or.inl hy)), _, _, _, (nn + 1), ⟨E_a_2, F_changedNode_a_2, F_changedLine_a_2, F_base_a_2, F_slope_a_2, F_origin_a_2, F_node_a_2, F_pushedAt_a_2, F_width_a_2, F_pushes_a_2, F_changes_a_2, V_xn_2, V_xo_2, V_xu_2, V_xv_2, V_xw_2, V_xt_2, V_xm_2⟩, hG2, by omega⟩
theorem d7_81 : decode prog_15_method_2_code 81 = .ok (.iload 9, 2) := by decide +kernel
theorem d7_83 : decode prog_15_method_2_code 83 = .ok (.iload 10, 2) := by decide +kernel
theorem d7_85 : decode prog_15_method_2_code 85 = .ok (.iadd, 1) := by decide +kernel
theorem d7_86 : decode prog_15_method_2_code 86 = .ok (.iconst 1, 1) := by decide +kernel
theorem d7_87 : decode prog_15_method_2_code 87 = .ok (.iushr, 1) := by decide +kernel
theorem d7_88 : decode prog_15_method_2_code 88 = .ok (.istore 12, 2) := by decide +kernel
theorem d7_90 : decode prog_15_method_2_code 90 = .ok (.aload_n 0, 1) := by decide +kernel
theorem d7_91 : decode prog_15_method_2_code 91 = .ok (.iload 7, 2) := by decide +kernel
theorem d7_93 : decode prog_15_method_2_code 93 = .ok (.iload 11, 2) := by decide +kernel
theorem d7_95 : decode prog_15_method_2_code 95 = .ok (.iload 12, 2) := by decide +kernel
theorem d7_97 : decode prog_15_method_2_code 97 = .ok (.invokevirtual 58, 3) := by decide +kernel
theorem pd_1 : parseMethodDescriptor "(III)Z" = some ⟨[.int, .int, .int], some .boolean⟩ := by decide +kernel
theorem d7_100 : decode prog_15_method_2_code 100 = .ok (.ifCond .eq 15, 3) := by decide +kernel
theorem d7_115 : decode prog_15_method_2_code 115 = .ok (.iload 9, 2) := by decide +kernel
theorem d7_117 : decode prog_15_method_2_code 117 = .ok (.iload 10, 2) := by decide +kernel
theorem d7_119 : decode prog_15_method_2_code 119 = .ok (.if_icmp .ne 4, 3) := by decide +kernel
theorem d7_123 : decode prog_15_method_2_code 123 = .ok (.aload_n 0, 1) := by decide +kernel
theorem d7_124 : decode prog_15_method_2_code 124 = .ok (.iload 7, 2) := by decide +kernel
theorem d7_126 : decode prog_15_method_2_code 126 = .ok (.aload_n 0, 1) := by decide +kernel
theorem d7_127 : decode prog_15_method_2_code 127 = .ok (.getfield 42, 3) := by decide +kernel
theorem d7_130 : decode prog_15_method_2_code 130 = .ok (.iload 8, 2) := by decide +kernel
theorem d7_132 : decode prog_15_method_2_code 132 = .ok (.iaload, 1) := by decide +kernel
theorem d7_133 : decode prog_15_method_2_code 133 = .ok (.iload 9, 2) := by decide +kernel
theorem d7_135 : decode prog_15_method_2_code 135 = .ok (.invokevirtual 58, 3) := by decide +kernel
theorem d7_138 : decode prog_15_method_2_code 138 = .ok (.ifCond .eq 16, 3) := by decide +kernel
theorem d7_154 : decode prog_15_method_2_code 154 = .ok (.aload_n 0, 1) := by decide +kernel
theorem d7_155 : decode prog_15_method_2_code 155 = .ok (.iload 7, 2) := by decide +kernel
theorem d7_157 : decode prog_15_method_2_code 157 = .ok (.aload_n 0, 1) := by decide +kernel
theorem d7_158 : decode prog_15_method_2_code 158 = .ok (.getfield 42, 3) := by decide +kernel
theorem d7_161 : decode prog_15_method_2_code 161 = .ok (.iload 8, 2) := by decide +kernel
theorem d7_163 : decode prog_15_method_2_code 163 = .ok (.iaload, 1) := by decide +kernel
theorem d7_164 : decode prog_15_method_2_code 164 = .ok (.iload 10, 2) := by decide +kernel
theorem d7_166 : decode prog_15_method_2_code 166 = .ok (.invokevirtual 58, 3) := by decide +kernel
theorem d7_169 : decode prog_15_method_2_code 169 = .ok (.ifCond .eq 20, 3) := by decide +kernel
theorem d7_189 : decode prog_15_method_2_code 189 = .ok (.return_, 1) := by decide +kernel
theorem d7_172 : decode prog_15_method_2_code 172 = .ok (.iconst 2, 1) := by decide +kernel
theorem d7_173 : decode prog_15_method_2_code 173 = .ok (.iload 8, 2) := by decide +kernel
theorem d7_175 : decode prog_15_method_2_code 175 = .ok (.imul, 1) := by decide +kernel
theorem d7_176 : decode prog_15_method_2_code 176 = .ok (.iconst 1, 1) := by decide +kernel
theorem d7_177 : decode prog_15_method_2_code 177 = .ok (.iadd, 1) := by decide +kernel
theorem d7_178 : decode prog_15_method_2_code 178 = .ok (.istore 8, 2) := by decide +kernel
theorem d7_180 : decode prog_15_method_2_code 180 = .ok (.iload 12, 2) := by decide +kernel
theorem d7_182 : decode prog_15_method_2_code 182 = .ok (.iconst 1, 1) := by decide +kernel
theorem d7_183 : decode prog_15_method_2_code 183 = .ok (.iadd, 1) := by decide +kernel
theorem d7_184 : decode prog_15_method_2_code 184 = .ok (.istore 9, 2) := by decide +kernel
theorem d7_186 : decode prog_15_method_2_code 186 = .ok (.goto 4, 3) := by decide +kernel
theorem d7_190 : decode prog_15_method_2_code 190 = .ok (.goto (-132), 3) := by decide +kernel
theorem d7_103 : decode prog_15_method_2_code 103 = .ok (.aload_n 0, 1) := by decide +kernel
theorem d7_104 : decode prog_15_method_2_code 104 = .ok (.iload 8, 2) := by decide +kernel
theorem d7_106 : decode prog_15_method_2_code 106 = .ok (.iload 7, 2) := by decide +kernel
theorem d7_108 : decode prog_15_method_2_code 108 = .ok (.invokevirtual 54, 3) := by decide +kernel
theorem d7_111 : decode prog_15_method_2_code 111 = .ok (.iload 11, 2) := by decide +kernel
theorem d7_113 : decode prog_15_method_2_code 113 = .ok (.istore 7, 2) := by decide +kernel
theorem d7_141 : decode prog_15_method_2_code 141 = .ok (.iconst 2, 1) := by decide +kernel
theorem d7_142 : decode prog_15_method_2_code 142 = .ok (.iload 8, 2) := by decide +kernel
theorem d7_144 : decode prog_15_method_2_code 144 = .ok (.imul, 1) := by decide +kernel
theorem d7_145 : decode prog_15_method_2_code 145 = .ok (.istore 8, 2) := by decide +kernel
theorem d7_147 : decode prog_15_method_2_code 147 = .ok (.iload 12, 2) := by decide +kernel
theorem d7_149 : decode prog_15_method_2_code 149 = .ok (.istore 10, 2) := by decide +kernel
theorem d7_151 : decode prog_15_method_2_code 151 = .ok (.goto 39, 3) := by decide +kernel
set_option maxRecDepth 65536 in
set_option maxHeartbeats 40000000 in
theorem wL1_2 {p : Program} {l : Launch} {e : Env} {s : State} {m : MethodId} {args : Array Value} {below : List Frame} {meth : Method} {c_ : Code} {T0 : State} {locs : List Loc} {Z : State} {a0 : Array Value} {h0 : Heap} {n0 : Nat} (hh : Heap) (a xn xo xu xv xw xt xm : Addr) (fP fQ fC fT fM fN fO : Nat → Int32) (tT tN tO : Nat → Int32) (sg nn : Nat) (li : Int32) (dp dq : UInt64) (lc cand : Int32) (y11 y12 : Int32)
    (X0 : Stand p l e ({ frames := 1, cells := 0, slots := 0, locals := 24 } : Room) s m args below meth c_ T0 locs 0 0) (hx : p.tables.exec = Jvm.exec) (hZ : Z.Warmed39 s.vm) (hw : ∀ d ∈ tables_1, d.before a0 Z = true) (hby : c_.code = prog_15_method_2_code) (hml : c_.maxLocals = 13) (hown : s.vm.findClass "com/example/headroom/headroom/LowerEnvelope" = some m.cls) (hnm : meth.name = "push") (hret : meth.sig.returnType = none) (hlk : meth.locks = false) (e0 : T0.heap = h0) (Z0 : n0 ≤ h0.size) (N0 : Fr n0 locs) (hL : LEs Z h0 a xn xo xu xv xw xt xm fP fQ fC fT fM fN fO 3 (sg + nn)) (hD : Dst n0 a xn xo xu xv xw xt xm) (hG : Good tT tN tO sg fT fN fO nn) (Kh : Keep hh h0 [a, xn, xo, xu, xv, xw, xt, xm]) (hsg : sg ≤ 10) (hn : nn ≤ 1) (hR : Rng fT) (hLf : Lf fT) (hcand : ¬ cand < (0 : Int32) ∧ cand < (5 : Int32)) (hP : Sm fP) (hQ : Sm fQ) (hC : Sm fC) :
    Go p e below s ({ frames := 1, cells := 0, slots := 0, locals := 24 } : Room).cells ({ frames := 1, cells := 0, slots := 0, locals := 24 } : Room).slots (fun r h L => r = none ∧ Fr n0 L ∧ Keep hh h [a, xn, xo, xu, xv, xw, xt, xm] ∧ ∃ (T' N' O' : Nat → Int32) (n' : Nat), LEs Z h a xn xo xu xv xw xt xm fP fQ fC T' fM N' O' 3 (sg + n') ∧ Good tT tN tO sg T' N' O' n' ∧ n' ≤ 3) T0 (mkF m 58 #[.val (.ref a), .val (.int li), .val (.double dp), .second, .val (.double dq), .second, .val (.int lc), .val (.int cand), .val (.int (2 : Int32)), .val (.int (1 : Int32)), .val (.int (2 : Int32)), .val (.int y11), .val (.int y12)] []) := by
  have hDq := hD
  obtain ⟨ne_a_xn, ne_a_xo, ne_a_xu, ne_a_xv, ne_a_xw, ne_a_xt, ne_a_xm, ne_xn_xo, ne_xn_xu, ne_xn_xv, ne_xn_xw, ne_xn_xt, ne_xn_xm, ne_xo_xu, ne_xo_xv, ne_xo_xw, ne_xo_xt, ne_xo_xm, ne_xu_xv, ne_xu_xw, ne_xu_xt, ne_xu_xm, ne_xv_xw, ne_xv_xt, ne_xv_xm, ne_xw_xt, ne_xw_xm, ne_xt_xm, ge_a, ge_xn, ge_xo, ge_xu, ge_xv, ge_xw, ge_xt, ge_xm⟩ := hDq
  obtain ⟨E_a_0, F_changedNode_a_0, F_changedLine_a_0, F_base_a_0, F_slope_a_0, F_origin_a_0, F_node_a_0, F_pushedAt_a_0, F_width_a_0, F_pushes_a_0, F_changes_a_0, V_xn_0, V_xo_0, V_xu_0, V_xv_0, V_xw_0, V_xt_0, V_xm_0⟩ := hL
  show Go _ _ _ _ _ _ _ T0 (mkF m 58 #[.val (.ref a), .val (.int li), .val (.double dp), .second, .val (.double dq), .second, .val (.int lc), .val (.int cand), .val (.int (2 : Int32)), .val (.int (1 : Int32)), .val (.int (2 : Int32)), .val (.int y11), .val (.int y12)] [])
  refine Go.step (fun _ k => XS.aloadN X0.here hx rfl (hb hby d7_58) rfl rfl k) ?_
  obtain ⟨T1, X1, e1, st1⟩ := getF X0 hx hZ hown (host := "") (Or.inl (hw _ (mI 36 rfl))) Via.refl e0 F_node_a_0 (g := (mkF m 59 #[.val (.ref a), .val (.int li), .val (.double dp), .second, .val (.double dq), .second, .val (.int lc), .val (.int cand), .val (.int (2 : Int32)), .val (.int (1 : Int32)), .val (.int (2 : Int32)), .val (.int y11), .val (.int y12)] [(.ref a)])) rfl rfl (hb hby d7_59)
  refine Go.step st1 ?_
  show Go _ _ _ _ _ _ _ T1 (mkF m 62 #[.val (.ref a), .val (.int li), .val (.double dp), .second, .val (.double dq), .second, .val (.int lc), .val (.int cand), .val (.int (2 : Int32)), .val (.int (1 : Int32)), .val (.int (2 : Int32)), .val (.int y11), .val (.int y12)] [(.ref xt)])
  refine Go.step (fun _ k => XS.iload X1.here hx rfl (hb hby d7_62) rfl k) ?_
  refine Go.iaload X1 hx hZ e1 V_xt_0 (j := (2 : Int32)) (v := (fT 2)) (by decide) rfl (hb hby d7_64) ?_
  show Go _ _ _ _ _ _ _ T1 (mkF m 65 #[.val (.ref a), .val (.int li), .val (.double dp), .second, .val (.double dq), .second, .val (.int lc), .val (.int cand), .val (.int (2 : Int32)), .val (.int (1 : Int32)), .val (.int (2 : Int32)), .val (.int y11), .val (.int y12)] [(.int (fT 2))])
  refine Go.step (fun _ k => XS.istore X1.here hx rfl (hb hby d7_65) rfl (l' := #[.val (.ref a), .val (.int li), .val (.double dp), .second, .val (.double dq), .second, .val (.int lc), .val (.int cand), .val (.int (2 : Int32)), .val (.int (1 : Int32)), .val (.int (2 : Int32)), .val (.int (fT 2)), .val (.int y12)]) rfl k) ?_
  show Go _ _ _ _ _ _ _ T1 (mkF m 67 #[.val (.ref a), .val (.int li), .val (.double dp), .second, .val (.double dq), .second, .val (.int lc), .val (.int cand), .val (.int (2 : Int32)), .val (.int (1 : Int32)), .val (.int (2 : Int32)), .val (.int (fT 2)), .val (.int y12)] [])
  refine Go.step (fun _ k => XS.iload X1.here hx rfl (hb hby d7_67) rfl k) ?_
  by_cases hc69_2 : (fT 2) = (0 : Int32)
  · refine Go.step (fun _ k => XS.ifNo X1.here hx rfl (hb hby d7_69) rfl ((if0 _ _).trans (teq hc69_2).2) k) ?_
    show Go _ _ _ _ _ _ _ T1 (mkF m 72 #[.val (.ref a), .val (.int li), .val (.double dp), .second, .val (.double dq), .second, .val (.int lc), .val (.int cand), .val (.int (2 : Int32)), .val (.int (1 : Int32)), .val (.int (2 : Int32)), .val (.int (fT 2)), .val (.int y12)] [])
    refine Go.step (fun _ k => XS.aloadN X1.here hx rfl (hb hby d7_72) rfl rfl k) ?_
    refine Go.step (fun _ k => XS.iload X1.here hx rfl (hb hby d7_73) rfl k) ?_
    refine Go.step (fun _ k => XS.iload X1.here hx rfl (hb hby d7_75) rfl k) ?_
    show Go _ _ _ _ _ _ _ T1 (mkF m 77 #[.val (.ref a), .val (.int li), .val (.double dp), .second, .val (.double dq), .second, .val (.int lc), .val (.int cand), .val (.int (2 : Int32)), .val (.int (1 : Int32)), .val (.int (2 : Int32)), .val (.int (fT 2)), .val (.int y12)] [(.int cand), (.int (2 : Int32)), (.ref a)])
    refine Go.callP X1 hx hZ (by rw [hml]; rfl) (y := (⟨"com/example/headroom/headroom/LowerEnvelope", "write", "(II)V"⟩ : MethodName)) (a := a) (argsL := [(.int (2 : Int32)), (.int cand)]) (rest := []) hown (hw _ (mI 53 rfl)) (hw _ (mI 54 rfl)) (hw _ (mI 1 rfl)) (hw _ (mI 55 rfl)) (hw _ (mI 2 rfl)) (hw _ (mI 56 rfl)) (by decide) (rm8 l Z a0 hw a xn xo xu xv xw xt xm fP fQ fC fT fM fN fO 3 (sg + nn) (2 : Int32) cand h0 n0 Z0 ⟨E_a_0, F_changedNode_a_0, F_changedLine_a_0, F_base_a_0, F_slope_a_0, F_origin_a_0, F_node_a_0, F_pushedAt_a_0, F_width_a_0, F_pushes_a_0, F_changes_a_0, V_xn_0, V_xo_0, V_xu_0, V_xv_0, V_xw_0, V_xt_0, V_xm_0⟩ hD (by decide) (by omega)) e1 E_a_0 (hb hby d7_77) (lenOf pd_0 rfl) rfl rfl (W := 0) (Nat.le_of_eq rfl) (by decide) (by decide) (by decide) (by decide) ?_
    intro v3 T3 L3 X3 Q3
    obtain ⟨rfl, N3q, Kc3, hL3⟩ := Q3
    have N3 := Fr.app N0 N3q
    have E_a_3 := E_a_0.keep Kc3
    have KK3 : Keep h0 T3.heap [a, xn, xo, xu, xv, xw, xt, xm] := ((Keep.refl h0 [a, xn, xo, xu, xv, xw, xt, xm]) : Keep h0 h0 [a, xn, xo, xu, xv, xw, xt, xm]).trans Kc3 (allS (Or.inl (List.mem_of_getElem? (i := 0) rfl)) (allS (Or.inl (List.mem_of_getElem? (i := 1) rfl)) (allS (Or.inl (List.mem_of_getElem? (i := 2) rfl)) (allS (Or.inl (List.mem_of_getElem? (i := 3) rfl)) (allS (Or.inl (List.mem_of_getElem? (i := 4) rfl)) (allS (Or.inl (List.mem_of_getElem? (i := 5) rfl)) (allS (Or.inl (List.mem_of_getElem? (i := 6) rfl)) (allS (Or.inl (List.mem_of_getElem? (i := 7) rfl)) all0))))))))
    have hL3x : LEs Z T3.heap a xn xo xu xv xw xt xm fP fQ fC (updN fT 2 cand) fM (updN fN (sg + nn) (2 : Int32)) (updN fO (sg + nn) (fT 2)) 3 (sg + (nn + 1)) := hL3
    have hG3 := Good.write hG (k := (2 : Int32)) (by decide) cand
    obtain ⟨E_a_3, F_changedNode_a_3, F_changedLine_a_3, F_base_a_3, F_slope_a_3, F_origin_a_3, F_node_a_3, F_pushedAt_a_3, F_width_a_3, F_pushes_a_3, F_changes_a_3, V_xn_3, V_xo_3, V_xu_3, V_xv_3, V_xw_3, V_xt_3, V_xm_3⟩ := hL3x
    show Go _ _ _ _ _ _ _ T3 (mkF m 80 #[.val (.ref a), .val (.int li), .val (.double dp), .second, .val (.double dq), .second, .val (.int lc), .val (.int cand), .val (.int (2 : Int32)), .val (.int (1 : Int32)), .val (.int (2 : Int32)), .val (.int (fT 2)), .val (.int y12)] [])
    refine Go.retV X3 hx hlk hret (hb hby d7_80) (by decide) (by decide) ?_
    exact ⟨rfl, N3, (Kh.trans (KK3 : Keep h0 T3.heap [a, xn, xo, xu, xv, xw, xt, xm]) (fun y hy => Or.inl hy)), _, _, _, (nn + 1), ⟨E_a_3, F_changedNode_a_3, F_changedLine_a_3, F_base_a_3, F_slope_a_3, F_origin_a_3, F_node_a_3, F_pushedAt_a_3, F_width_a_3, F_pushes_a_3, F_changes_a_3, V_xn_3, V_xo_3, V_xu_3, V_xv_3, V_xw_3, V_xt_3, V_xm_3⟩, hG3, by omega⟩
  · refine Go.step (fun _ k => XS.ifYes X1.here hx rfl (pc0 := 69) (pc' := 81) rfl (hb hby d7_69) rfl ((if0 _ _).trans (feq hc69_2).2) (by decide) (by decide) k) ?_
    show Go _ _ _ _ _ _ _ T1 (mkF m 81 #[.val (.ref a), .val (.int li), .val (.double dp), .second, .val (.double dq), .second, .val (.int lc), .val (.int cand), .val (.int (2 : Int32)), .val (.int (1 : Int32)), .val (.int (2 : Int32)), .val (.int (fT 2)), .val (.int y12)] [])
    refine Go.step (fun _ k => XS.iload X1.here hx rfl (hb hby d7_81) rfl k) ?_
    refine Go.step (fun _ k => XS.iload X1.here hx rfl (hb hby d7_83) rfl k) ?_
    refine Go.step (fun _ k => XS.iadd X1.here hx rfl (hb hby d7_85) rfl k) ?_
    show Go _ _ _ _ _ _ _ T1 (mkF m 86 #[.val (.ref a), .val (.int li), .val (.double dp), .second, .val (.double dq), .second, .val (.int lc), .val (.int cand), .val (.int (2 : Int32)), .val (.int (1 : Int32)), .val (.int (2 : Int32)), .val (.int (fT 2)), .val (.int y12)] [(.int (3 : Int32))])
    refine Go.step (fun _ k => XS.iconst X1.here hx rfl (hb hby d7_86) k) ?_
    refine Go.step (fun _ k => XS.iushr X1.here hx rfl (hb hby d7_87) rfl k) ?_
    show Go _ _ _ _ _ _ _ T1 (mkF m 88 #[.val (.ref a), .val (.int li), .val (.double dp), .second, .val (.double dq), .second, .val (.int lc), .val (.int cand), .val (.int (2 : Int32)), .val (.int (1 : Int32)), .val (.int (2 : Int32)), .val (.int (fT 2)), .val (.int y12)] [(.int (1 : Int32))])
    refine Go.step (fun _ k => XS.istore X1.here hx rfl (hb hby d7_88) rfl (l' := #[.val (.ref a), .val (.int li), .val (.double dp), .second, .val (.double dq), .second, .val (.int lc), .val (.int cand), .val (.int (2 : Int32)), .val (.int (1 : Int32)), .val (.int (2 : Int32)), .val (.int (fT 2)), .val (.int (1 : Int32))]) rfl k) ?_
    show Go _ _ _ _ _ _ _ T1 (mkF m 90 #[.val (.ref a), .val (.int li), .val (.double dp), .second, .val (.double dq), .second, .val (.int lc), .val (.int cand), .val (.int (2 : Int32)), .val (.int (1 : Int32)), .val (.int (2 : Int32)), .val (.int (fT 2)), .val (.int (1 : Int32))] [])
    refine Go.step (fun _ k => XS.aloadN X1.here hx rfl (hb hby d7_90) rfl rfl k) ?_
    refine Go.step (fun _ k => XS.iload X1.here hx rfl (hb hby d7_91) rfl k) ?_
    refine Go.step (fun _ k => XS.iload X1.here hx rfl (hb hby d7_93) rfl k) ?_
    show Go _ _ _ _ _ _ _ T1 (mkF m 95 #[.val (.ref a), .val (.int li), .val (.double dp), .second, .val (.double dq), .second, .val (.int lc), .val (.int cand), .val (.int (2 : Int32)), .val (.int (1 : Int32)), .val (.int (2 : Int32)), .val (.int (fT 2)), .val (.int (1 : Int32))] [(.int (fT 2)), (.int cand), (.ref a)])
    refine Go.step (fun _ k => XS.iload X1.here hx rfl (hb hby d7_95) rfl k) ?_
    refine Go.callP X1 hx hZ (by rw [hml]; rfl) (y := (⟨"com/example/headroom/headroom/LowerEnvelope", "lower", "(III)Z"⟩ : MethodName)) (a := a) (argsL := [(.int cand), (.int (fT 2)), (.int (1 : Int32))]) (rest := []) hown (hw _ (mI 57 rfl)) (hw _ (mI 58 rfl)) (hw _ (mI 1 rfl)) (hw _ (mI 59 rfl)) (hw _ (mI 2 rfl)) (hw _ (mI 60 rfl)) (by decide) (rm9 l Z a0 hw a xu xv xw fP fQ fC cand (fT 2) (1 : Int32) h0 n0 Z0 F_base_a_0 F_slope_a_0 F_origin_a_0 V_xu_0 V_xv_0 V_xw_0 hP hQ hC hcand (hR 2) (own_in (1 : Int32) (by decide))) e1 E_a_0 (hb hby d7_97) (lenOf pd_1 rfl) rfl rfl (W := 0) (Nat.le_of_eq rfl) (by decide) (by decide) (by decide) (by decide) ?_
    intro v4 T4 L4 X4 Q4
    obtain ⟨rfl, N4q, hh4⟩ := Q4
    have N4 := Fr.app N0 N4q
    show Go _ _ _ _ _ _ _ T4 (mkF m 100 #[.val (.ref a), .val (.int li), .val (.double dp), .second, .val (.double dq), .second, .val (.int lc), .val (.int cand), .val (.int (2 : Int32)), .val (.int (1 : Int32)), .val (.int (2 : Int32)), .val (.int (fT 2)), .val (.int (1 : Int32))] [(.int (lowW fP fQ fC cand (fT 2) (1 : Int32)))])
    by_cases hc100_5 : (lowW fP fQ fC cand (fT 2) (1 : Int32)) = (0 : Int32)
    · refine Go.step (fun _ k => XS.ifYes X4.here hx rfl (pc0 := 100) (pc' := 115) rfl (hb hby d7_100) rfl ((if0 _ _).trans (teq hc100_5).1) (by decide) (by decide) k) ?_
      show Go _ _ _ _ _ _ _ T4 (mkF m 115 #[.val (.ref a), .val (.int li), .val (.double dp), .second, .val (.double dq), .second, .val (.int lc), .val (.int cand), .val (.int (2 : Int32)), .val (.int (1 : Int32)), .val (.int (2 : Int32)), .val (.int (fT 2)), .val (.int (1 : Int32))] [])
      refine Go.step (fun _ k => XS.iload X4.here hx rfl (hb hby d7_115) rfl k) ?_
      refine Go.step (fun _ k => XS.iload X4.here hx rfl (hb hby d7_117) rfl k) ?_
      refine Go.step (fun _ k => XS.icmpYes X4.here hx rfl (pc0 := 119) (pc' := 123) rfl (hb hby d7_119) rfl (feq (by decide : ¬ ((1 : Int32) = (2 : Int32)))).2 (by decide) (by decide) k) ?_
      show Go _ _ _ _ _ _ _ T4 (mkF m 123 #[.val (.ref a), .val (.int li), .val (.double dp), .second, .val (.double dq), .second, .val (.int lc), .val (.int cand), .val (.int (2 : Int32)), .val (.int (1 : Int32)), .val (.int (2 : Int32)), .val (.int (fT 2)), .val (.int (1 : Int32))] [])
      refine Go.step (fun _ k => XS.aloadN X4.here hx rfl (hb hby d7_123) rfl rfl k) ?_
      refine Go.step (fun _ k => XS.iload X4.here hx rfl (hb hby d7_124) rfl k) ?_
      refine Go.step (fun _ k => XS.aloadN X4.here hx rfl (hb hby d7_126) rfl rfl k) ?_
      show Go _ _ _ _ _ _ _ T4 (mkF m 127 #[.val (.ref a), .val (.int li), .val (.double dp), .second, .val (.double dq), .second, .val (.int lc), .val (.int cand), .val (.int (2 : Int32)), .val (.int (1 : Int32)), .val (.int (2 : Int32)), .val (.int (fT 2)), .val (.int (1 : Int32))] [(.ref a), (.int cand), (.ref a)])
      obtain ⟨T6, X6, e6, st6⟩ := getF X4 hx hZ hown (host := "") (Or.inl (hw _ (mI 36 rfl))) Via.refl hh4 F_node_a_0 (g := (mkF m 127 #[.val (.ref a), .val (.int li), .val (.double dp), .second, .val (.double dq), .second, .val (.int lc), .val (.int cand), .val (.int (2 : Int32)), .val (.int (1 : Int32)), .val (.int (2 : Int32)), .val (.int (fT 2)), .val (.int (1 : Int32))] [(.ref a), (.int cand), (.ref a)])) rfl rfl (hb hby d7_127)
      refine Go.step st6 ?_
      show Go _ _ _ _ _ _ _ T6 (mkF m 130 #[.val (.ref a), .val (.int li), .val (.double dp), .second, .val (.double dq), .second, .val (.int lc), .val (.int cand), .val (.int (2 : Int32)), .val (.int (1 : Int32)), .val (.int (2 : Int32)), .val (.int (fT 2)), .val (.int (1 : Int32))] [(.ref xt), (.int cand), (.ref a)])
      refine Go.step (fun _ k => XS.iload X6.here hx rfl (hb hby d7_130) rfl k) ?_
      refine Go.iaload X6 hx hZ e6 V_xt_0 (j := (2 : Int32)) (v := (fT 2)) (by decide) rfl (hb hby d7_132) ?_
      show Go _ _ _ _ _ _ _ T6 (mkF m 133 #[.val (.ref a), .val (.int li), .val (.double dp), .second, .val (.double dq), .second, .val (.int lc), .val (.int cand), .val (.int (2 : Int32)), .val (.int (1 : Int32)), .val (.int (2 : Int32)), .val (.int (fT 2)), .val (.int (1 : Int32))] [(.int (fT 2)), (.int cand), (.ref a)])
      refine Go.step (fun _ k => XS.iload X6.here hx rfl (hb hby d7_133) rfl k) ?_
      refine Go.callP X6 hx hZ (by rw [hml]; rfl) (y := (⟨"com/example/headroom/headroom/LowerEnvelope", "lower", "(III)Z"⟩ : MethodName)) (a := a) (argsL := [(.int cand), (.int (fT 2)), (.int (1 : Int32))]) (rest := []) hown (hw _ (mI 57 rfl)) (hw _ (mI 58 rfl)) (hw _ (mI 1 rfl)) (hw _ (mI 59 rfl)) (hw _ (mI 2 rfl)) (hw _ (mI 60 rfl)) (by decide) (rm9 l Z a0 hw a xu xv xw fP fQ fC cand (fT 2) (1 : Int32) h0 n0 Z0 F_base_a_0 F_slope_a_0 F_origin_a_0 V_xu_0 V_xv_0 V_xw_0 hP hQ hC hcand (hR 2) (own_in (1 : Int32) (by decide))) e6 E_a_0 (hb hby d7_135) (lenOf pd_1 rfl) rfl rfl (W := 0) (Nat.le_of_eq rfl) (by decide) (by decide) (by decide) (by decide) ?_
      intro v7 T7 L7 X7 Q7
      obtain ⟨rfl, N7q, hh7⟩ := Q7
      have N7 := Fr.app N4 N7q
      show Go _ _ _ _ _ _ _ T7 (mkF m 138 #[.val (.ref a), .val (.int li), .val (.double dp), .second, .val (.double dq), .second, .val (.int lc), .val (.int cand), .val (.int (2 : Int32)), .val (.int (1 : Int32)), .val (.int (2 : Int32)), .val (.int (fT 2)), .val (.int (1 : Int32))] [(.int (lowW fP fQ fC cand (fT 2) (1 : Int32)))])
      refine Go.step (fun _ k => XS.ifYes X7.here hx rfl (pc0 := 138) (pc' := 154) rfl (hb hby d7_138) rfl ((if0 _ _).trans (teq hc100_5).1) (by decide) (by decide) k) ?_
      show Go _ _ _ _ _ _ _ T7 (mkF m 154 #[.val (.ref a), .val (.int li), .val (.double dp), .second, .val (.double dq), .second, .val (.int lc), .val (.int cand), .val (.int (2 : Int32)), .val (.int (1 : Int32)), .val (.int (2 : Int32)), .val (.int (fT 2)), .val (.int (1 : Int32))] [])
      refine Go.step (fun _ k => XS.aloadN X7.here hx rfl (hb hby d7_154) rfl rfl k) ?_
      refine Go.step (fun _ k => XS.iload X7.here hx rfl (hb hby d7_155) rfl k) ?_
      refine Go.step (fun _ k => XS.aloadN X7.here hx rfl (hb hby d7_157) rfl rfl k) ?_
      show Go _ _ _ _ _ _ _ T7 (mkF m 158 #[.val (.ref a), .val (.int li), .val (.double dp), .second, .val (.double dq), .second, .val (.int lc), .val (.int cand), .val (.int (2 : Int32)), .val (.int (1 : Int32)), .val (.int (2 : Int32)), .val (.int (fT 2)), .val (.int (1 : Int32))] [(.ref a), (.int cand), (.ref a)])
      obtain ⟨T8, X8, e8, st8⟩ := getF X7 hx hZ hown (host := "") (Or.inl (hw _ (mI 36 rfl))) Via.refl hh7 F_node_a_0 (g := (mkF m 158 #[.val (.ref a), .val (.int li), .val (.double dp), .second, .val (.double dq), .second, .val (.int lc), .val (.int cand), .val (.int (2 : Int32)), .val (.int (1 : Int32)), .val (.int (2 : Int32)), .val (.int (fT 2)), .val (.int (1 : Int32))] [(.ref a), (.int cand), (.ref a)])) rfl rfl (hb hby d7_158)
      refine Go.step st8 ?_
      show Go _ _ _ _ _ _ _ T8 (mkF m 161 #[.val (.ref a), .val (.int li), .val (.double dp), .second, .val (.double dq), .second, .val (.int lc), .val (.int cand), .val (.int (2 : Int32)), .val (.int (1 : Int32)), .val (.int (2 : Int32)), .val (.int (fT 2)), .val (.int (1 : Int32))] [(.ref xt), (.int cand), (.ref a)])
      refine Go.step (fun _ k => XS.iload X8.here hx rfl (hb hby d7_161) rfl k) ?_
      refine Go.iaload X8 hx hZ e8 V_xt_0 (j := (2 : Int32)) (v := (fT 2)) (by decide) rfl (hb hby d7_163) ?_
      show Go _ _ _ _ _ _ _ T8 (mkF m 164 #[.val (.ref a), .val (.int li), .val (.double dp), .second, .val (.double dq), .second, .val (.int lc), .val (.int cand), .val (.int (2 : Int32)), .val (.int (1 : Int32)), .val (.int (2 : Int32)), .val (.int (fT 2)), .val (.int (1 : Int32))] [(.int (fT 2)), (.int cand), (.ref a)])
      refine Go.step (fun _ k => XS.iload X8.here hx rfl (hb hby d7_164) rfl k) ?_
      refine Go.callP X8 hx hZ (by rw [hml]; rfl) (y := (⟨"com/example/headroom/headroom/LowerEnvelope", "lower", "(III)Z"⟩ : MethodName)) (a := a) (argsL := [(.int cand), (.int (fT 2)), (.int (2 : Int32))]) (rest := []) hown (hw _ (mI 57 rfl)) (hw _ (mI 58 rfl)) (hw _ (mI 1 rfl)) (hw _ (mI 59 rfl)) (hw _ (mI 2 rfl)) (hw _ (mI 60 rfl)) (by decide) (rm9 l Z a0 hw a xu xv xw fP fQ fC cand (fT 2) (2 : Int32) h0 n0 Z0 F_base_a_0 F_slope_a_0 F_origin_a_0 V_xu_0 V_xv_0 V_xw_0 hP hQ hC hcand (hR 2) (own_in (2 : Int32) (by decide))) e8 E_a_0 (hb hby d7_166) (lenOf pd_1 rfl) rfl rfl (W := 0) (Nat.le_of_eq rfl) (by decide) (by decide) (by decide) (by decide) ?_
      intro v9 T9 L9 X9 Q9
      obtain ⟨rfl, N9q, hh9⟩ := Q9
      have N9 := Fr.app N7 N9q
      show Go _ _ _ _ _ _ _ T9 (mkF m 169 #[.val (.ref a), .val (.int li), .val (.double dp), .second, .val (.double dq), .second, .val (.int lc), .val (.int cand), .val (.int (2 : Int32)), .val (.int (1 : Int32)), .val (.int (2 : Int32)), .val (.int (fT 2)), .val (.int (1 : Int32))] [(.int (lowW fP fQ fC cand (fT 2) (2 : Int32)))])
      by_cases hc169_10 : (lowW fP fQ fC cand (fT 2) (2 : Int32)) = (0 : Int32)
      · refine Go.step (fun _ k => XS.ifYes X9.here hx rfl (pc0 := 169) (pc' := 189) rfl (hb hby d7_169) rfl ((if0 _ _).trans (teq hc169_10).1) (by decide) (by decide) k) ?_
        show Go _ _ _ _ _ _ _ T9 (mkF m 189 #[.val (.ref a), .val (.int li), .val (.double dp), .second, .val (.double dq), .second, .val (.int lc), .val (.int cand), .val (.int (2 : Int32)), .val (.int (1 : Int32)), .val (.int (2 : Int32)), .val (.int (fT 2)), .val (.int (1 : Int32))] [])
        refine Go.retV X9 hx hlk hret (hb hby d7_189) (by decide) (by decide) ?_
        try rw [hh9]
        exact ⟨rfl, N9, (Kh.trans ((Keep.refl h0 [a, xn, xo, xu, xv, xw, xt, xm]) : Keep h0 h0 [a, xn, xo, xu, xv, xw, xt, xm]) (fun y hy => Or.inl hy)), _, _, _, nn, ⟨E_a_0, F_changedNode_a_0, F_changedLine_a_0, F_base_a_0, F_slope_a_0, F_origin_a_0, F_node_a_0, F_pushedAt_a_0, F_width_a_0, F_pushes_a_0, F_changes_a_0, V_xn_0, V_xo_0, V_xu_0, V_xv_0, V_xw_0, V_xt_0, V_xm_0⟩, hG, by omega⟩
      · refine Go.step (fun _ k => XS.ifNo X9.here hx rfl (hb hby d7_169) rfl ((if0 _ _).trans (feq hc169_10).1) k) ?_
        show Go _ _ _ _ _ _ _ T9 (mkF m 172 #[.val (.ref a), .val (.int li), .val (.double dp), .second, .val (.double dq), .second, .val (.int lc), .val (.int cand), .val (.int (2 : Int32)), .val (.int (1 : Int32)), .val (.int (2 : Int32)), .val (.int (fT 2)), .val (.int (1 : Int32))] [])
        refine Go.step (fun _ k => XS.iconst X9.here hx rfl (hb hby d7_172) k) ?_
        refine Go.step (fun _ k => XS.iload X9.here hx rfl (hb hby d7_173) rfl k) ?_
        refine Go.step (fun _ k => XS.imul X9.here hx rfl (hb hby d7_175) rfl k) ?_
        show Go _ _ _ _ _ _ _ T9 (mkF m 176 #[.val (.ref a), .val (.int li), .val (.double dp), .second, .val (.double dq), .second, .val (.int lc), .val (.int cand), .val (.int (2 : Int32)), .val (.int (1 : Int32)), .val (.int (2 : Int32)), .val (.int (fT 2)), .val (.int (1 : Int32))] [(.int (4 : Int32))])
        refine Go.step (fun _ k => XS.iconst X9.here hx rfl (hb hby d7_176) k) ?_
        refine Go.step (fun _ k => XS.iadd X9.here hx rfl (hb hby d7_177) rfl k) ?_
        show Go _ _ _ _ _ _ _ T9 (mkF m 178 #[.val (.ref a), .val (.int li), .val (.double dp), .second, .val (.double dq), .second, .val (.int lc), .val (.int cand), .val (.int (2 : Int32)), .val (.int (1 : Int32)), .val (.int (2 : Int32)), .val (.int (fT 2)), .val (.int (1 : Int32))] [(.int (5 : Int32))])
        refine Go.step (fun _ k => XS.istore X9.here hx rfl (hb hby d7_178) rfl (l' := #[.val (.ref a), .val (.int li), .val (.double dp), .second, .val (.double dq), .second, .val (.int lc), .val (.int cand), .val (.int (5 : Int32)), .val (.int (1 : Int32)), .val (.int (2 : Int32)), .val (.int (fT 2)), .val (.int (1 : Int32))]) rfl k) ?_
        show Go _ _ _ _ _ _ _ T9 (mkF m 180 #[.val (.ref a), .val (.int li), .val (.double dp), .second, .val (.double dq), .second, .val (.int lc), .val (.int cand), .val (.int (5 : Int32)), .val (.int (1 : Int32)), .val (.int (2 : Int32)), .val (.int (fT 2)), .val (.int (1 : Int32))] [])
        refine Go.step (fun _ k => XS.iload X9.here hx rfl (hb hby d7_180) rfl k) ?_
        refine Go.step (fun _ k => XS.iconst X9.here hx rfl (hb hby d7_182) k) ?_
        refine Go.step (fun _ k => XS.iadd X9.here hx rfl (hb hby d7_183) rfl k) ?_
        show Go _ _ _ _ _ _ _ T9 (mkF m 184 #[.val (.ref a), .val (.int li), .val (.double dp), .second, .val (.double dq), .second, .val (.int lc), .val (.int cand), .val (.int (5 : Int32)), .val (.int (1 : Int32)), .val (.int (2 : Int32)), .val (.int (fT 2)), .val (.int (1 : Int32))] [(.int (2 : Int32))])
        refine Go.step (fun _ k => XS.istore X9.here hx rfl (hb hby d7_184) rfl (l' := #[.val (.ref a), .val (.int li), .val (.double dp), .second, .val (.double dq), .second, .val (.int lc), .val (.int cand), .val (.int (5 : Int32)), .val (.int (2 : Int32)), .val (.int (2 : Int32)), .val (.int (fT 2)), .val (.int (1 : Int32))]) rfl k) ?_
        show Go _ _ _ _ _ _ _ T9 (mkF m 186 #[.val (.ref a), .val (.int li), .val (.double dp), .second, .val (.double dq), .second, .val (.int lc), .val (.int cand), .val (.int (5 : Int32)), .val (.int (2 : Int32)), .val (.int (2 : Int32)), .val (.int (fT 2)), .val (.int (1 : Int32))] [])
        refine Go.step (fun _ k => XS.goto X9.here hx rfl (pc0 := 186) (pc' := 190) rfl (hb hby d7_186) (by decide) (by decide) k) ?_
        show Go _ _ _ _ _ _ _ T9 (mkF m 190 #[.val (.ref a), .val (.int li), .val (.double dp), .second, .val (.double dq), .second, .val (.int lc), .val (.int cand), .val (.int (5 : Int32)), .val (.int (2 : Int32)), .val (.int (2 : Int32)), .val (.int (fT 2)), .val (.int (1 : Int32))] [])
        refine Go.step (fun _ k => XS.goto X9.here hx rfl (pc0 := 190) (pc' := 58) rfl (hb hby d7_190) (by decide) (by decide) k) ?_
        show Go _ _ _ _ _ _ _ T9 (mkF m 58 #[.val (.ref a), .val (.int li), .val (.double dp), .second, .val (.double dq), .second, .val (.int lc), .val (.int cand), .val (.int (5 : Int32)), .val (.int (2 : Int32)), .val (.int (2 : Int32)), .val (.int (fT 2)), .val (.int (1 : Int32))] [])
        exact wL2 hh a xn xo xu xv xw xt xm fP fQ fC fT fM fN fO tT tN tO sg nn li dp dq lc cand (5 : Int32) (2 : Int32) (2 : Int32) (fT 2) (1 : Int32) X9 hx hZ hw hby hml hown hnm hret hlk hh9 Z0 N9 ⟨E_a_0, F_changedNode_a_0, F_changedLine_a_0, F_base_a_0, F_slope_a_0, F_origin_a_0, F_node_a_0, F_pushedAt_a_0, F_width_a_0, F_pushes_a_0, F_changes_a_0, V_xn_0, V_xo_0, V_xu_0, V_xv_0, V_xw_0, V_xt_0, V_xm_0⟩ hD hG (Kh.trans ((Keep.refl h0 [a, xn, xo, xu, xv, xw, xt, xm]) : Keep h0 h0 [a, xn, xo, xu, xv, xw, xt, xm]) (fun y hy => Or.inl hy)) hsg (by omega) (by decide) (show fT 5 = (0 : Int32) from hLf.2.1)
    · refine Go.step (fun _ k => XS.ifNo X4.here hx rfl (hb hby d7_100) rfl ((if0 _ _).trans (feq hc100_5).1) k) ?_
      refine Go.step (fun _ k => XS.aloadN X4.here hx rfl (hb hby d7_103) rfl rfl k) ?_
      refine Go.step (fun _ k => XS.iload X4.here hx rfl (hb hby d7_104) rfl k) ?_
      show Go _ _ _ _ _ _ _ T4 (mkF m 106 #[.val (.ref a), .val (.int li), .val (.double dp), .second, .val (.double dq), .second, .val (.int lc), .val (.int cand), .val (.int (2 : Int32)), .val (.int (1 : Int32)), .val (.int (2 : Int32)), .val (.int (fT 2)), .val (.int (1 : Int32))] [(.int (2 : Int32)), (.ref a)])
      refine Go.step (fun _ k => XS.iload X4.here hx rfl (hb hby d7_106) rfl k) ?_
      refine Go.callP X4 hx hZ (by rw [hml]; rfl) (y := (⟨"com/example/headroom/headroom/LowerEnvelope", "write", "(II)V"⟩ : MethodName)) (a := a) (argsL := [(.int (2 : Int32)), (.int cand)]) (rest := []) hown (hw _ (mI 53 rfl)) (hw _ (mI 54 rfl)) (hw _ (mI 1 rfl)) (hw _ (mI 55 rfl)) (hw _ (mI 2 rfl)) (hw _ (mI 56 rfl)) (by decide) (rm8 l Z a0 hw a xn xo xu xv xw xt xm fP fQ fC fT fM fN fO 3 (sg + nn) (2 : Int32) cand h0 n0 Z0 ⟨E_a_0, F_changedNode_a_0, F_changedLine_a_0, F_base_a_0, F_slope_a_0, F_origin_a_0, F_node_a_0, F_pushedAt_a_0, F_width_a_0, F_pushes_a_0, F_changes_a_0, V_xn_0, V_xo_0, V_xu_0, V_xv_0, V_xw_0, V_xt_0, V_xm_0⟩ hD (by decide) (by omega)) hh4 E_a_0 (hb hby d7_108) (lenOf pd_0 rfl) rfl rfl (W := 0) (Nat.le_of_eq rfl) (by decide) (by decide) (by decide) (by decide) ?_
      intro v11 T11 L11 X11 Q11
      obtain ⟨rfl, N11q, Kc11, hL11⟩ := Q11
      have N11 := Fr.app N4 N11q
      have E_a_11 := E_a_0.keep Kc11
      have KK11 : Keep h0 T11.heap [a, xn, xo, xu, xv, xw, xt, xm] := ((Keep.refl h0 [a, xn, xo, xu, xv, xw, xt, xm]) : Keep h0 h0 [a, xn, xo, xu, xv, xw, xt, xm]).trans Kc11 (allS (Or.inl (List.mem_of_getElem? (i := 0) rfl)) (allS (Or.inl (List.mem_of_getElem? (i := 1) rfl)) (allS (Or.inl (List.mem_of_getElem? (i := 2) rfl)) (allS (Or.inl (List.mem_of_getElem? (i := 3) rfl)) (allS (Or.inl (List.mem_of_getElem? (i := 4) rfl)) (allS (Or.inl (List.mem_of_getElem? (i := 5) rfl)) (allS (Or.inl (List.mem_of_getElem? (i := 6) rfl)) (allS (Or.inl (List.mem_of_getElem? (i := 7) rfl)) all0))))))))
      have hL11x : LEs Z T11.heap a xn xo xu xv xw xt xm fP fQ fC (updN fT 2 cand) fM (updN fN (sg + nn) (2 : Int32)) (updN fO (sg + nn) (fT 2)) 3 (sg + (nn + 1)) := hL11
      have hG11 := Good.write hG (k := (2 : Int32)) (by decide) cand
      obtain ⟨E_a_11, F_changedNode_a_11, F_changedLine_a_11, F_base_a_11, F_slope_a_11, F_origin_a_11, F_node_a_11, F_pushedAt_a_11, F_width_a_11, F_pushes_a_11, F_changes_a_11, V_xn_11, V_xo_11, V_xu_11, V_xv_11, V_xw_11, V_xt_11, V_xm_11⟩ := hL11x
      show Go _ _ _ _ _ _ _ T11 (mkF m 111 #[.val (.ref a), .val (.int li), .val (.double dp), .second, .val (.double dq), .second, .val (.int lc), .val (.int cand), .val (.int (2 : Int32)), .val (.int (1 : Int32)), .val (.int (2 : Int32)), .val (.int (fT 2)), .val (.int (1 : Int32))] [])
      refine Go.step (fun _ k => XS.iload X11.here hx rfl (hb hby d7_111) rfl k) ?_
      refine Go.step (fun _ k => XS.istore X11.here hx rfl (hb hby d7_113) rfl (l' := #[.val (.ref a), .val (.int li), .val (.double dp), .second, .val (.double dq), .second, .val (.int lc), .val (.int (fT 2)), .val (.int (2 : Int32)), .val (.int (1 : Int32)), .val (.int (2 : Int32)), .val (.int (fT 2)), .val (.int (1 : Int32))]) rfl k) ?_
      show Go _ _ _ _ _ _ _ T11 (mkF m 115 #[.val (.ref a), .val (.int li), .val (.double dp), .second, .val (.double dq), .second, .val (.int lc), .val (.int (fT 2)), .val (.int (2 : Int32)), .val (.int (1 : Int32)), .val (.int (2 : Int32)), .val (.int (fT 2)), .val (.int (1 : Int32))] [])
      refine Go.step (fun _ k => XS.iload X11.here hx rfl (hb hby d7_115) rfl k) ?_
      refine Go.step (fun _ k => XS.iload X11.here hx rfl (hb hby d7_117) rfl k) ?_
      refine Go.step (fun _ k => XS.icmpYes X11.here hx rfl (pc0 := 119) (pc' := 123) rfl (hb hby d7_119) rfl (feq (by decide : ¬ ((1 : Int32) = (2 : Int32)))).2 (by decide) (by decide) k) ?_
      show Go _ _ _ _ _ _ _ T11 (mkF m 123 #[.val (.ref a), .val (.int li), .val (.double dp), .second, .val (.double dq), .second, .val (.int lc), .val (.int (fT 2)), .val (.int (2 : Int32)), .val (.int (1 : Int32)), .val (.int (2 : Int32)), .val (.int (fT 2)), .val (.int (1 : Int32))] [])
      refine Go.step (fun _ k => XS.aloadN X11.here hx rfl (hb hby d7_123) rfl rfl k) ?_
      refine Go.step (fun _ k => XS.iload X11.here hx rfl (hb hby d7_124) rfl k) ?_
      refine Go.step (fun _ k => XS.aloadN X11.here hx rfl (hb hby d7_126) rfl rfl k) ?_
      show Go _ _ _ _ _ _ _ T11 (mkF m 127 #[.val (.ref a), .val (.int li), .val (.double dp), .second, .val (.double dq), .second, .val (.int lc), .val (.int (fT 2)), .val (.int (2 : Int32)), .val (.int (1 : Int32)), .val (.int (2 : Int32)), .val (.int (fT 2)), .val (.int (1 : Int32))] [(.ref a), (.int (fT 2)), (.ref a)])
      obtain ⟨T12, X12, e12, st12⟩ := getF X11 hx hZ hown (host := "") (Or.inl (hw _ (mI 36 rfl))) Via.refl rfl F_node_a_11 (g := (mkF m 127 #[.val (.ref a), .val (.int li), .val (.double dp), .second, .val (.double dq), .second, .val (.int lc), .val (.int (fT 2)), .val (.int (2 : Int32)), .val (.int (1 : Int32)), .val (.int (2 : Int32)), .val (.int (fT 2)), .val (.int (1 : Int32))] [(.ref a), (.int (fT 2)), (.ref a)])) rfl rfl (hb hby d7_127)
      refine Go.step st12 ?_
      show Go _ _ _ _ _ _ _ T12 (mkF m 130 #[.val (.ref a), .val (.int li), .val (.double dp), .second, .val (.double dq), .second, .val (.int lc), .val (.int (fT 2)), .val (.int (2 : Int32)), .val (.int (1 : Int32)), .val (.int (2 : Int32)), .val (.int (fT 2)), .val (.int (1 : Int32))] [(.ref xt), (.int (fT 2)), (.ref a)])
      refine Go.step (fun _ k => XS.iload X12.here hx rfl (hb hby d7_130) rfl k) ?_
      refine Go.iaload X12 hx hZ e12 V_xt_11 (j := (2 : Int32)) (v := cand) (by decide) rfl (hb hby d7_132) ?_
      show Go _ _ _ _ _ _ _ T12 (mkF m 133 #[.val (.ref a), .val (.int li), .val (.double dp), .second, .val (.double dq), .second, .val (.int lc), .val (.int (fT 2)), .val (.int (2 : Int32)), .val (.int (1 : Int32)), .val (.int (2 : Int32)), .val (.int (fT 2)), .val (.int (1 : Int32))] [(.int cand), (.int (fT 2)), (.ref a)])
      refine Go.step (fun _ k => XS.iload X12.here hx rfl (hb hby d7_133) rfl k) ?_
      refine Go.callP X12 hx hZ (by rw [hml]; rfl) (y := (⟨"com/example/headroom/headroom/LowerEnvelope", "lower", "(III)Z"⟩ : MethodName)) (a := a) (argsL := [(.int (fT 2)), (.int cand), (.int (1 : Int32))]) (rest := []) hown (hw _ (mI 57 rfl)) (hw _ (mI 58 rfl)) (hw _ (mI 1 rfl)) (hw _ (mI 59 rfl)) (hw _ (mI 2 rfl)) (hw _ (mI 60 rfl)) (by decide) (rm9 l Z a0 hw a xu xv xw fP fQ fC (fT 2) cand (1 : Int32) T11.heap n0 (Nat.le_trans Z0 (KK11 : Keep h0 T11.heap [a, xn, xo, xu, xv, xw, xt, xm]).1) F_base_a_11 F_slope_a_11 F_origin_a_11 V_xu_11 V_xv_11 V_xw_11 hP hQ hC (hR 2) hcand (own_in (1 : Int32) (by decide))) e12 E_a_11 (hb hby d7_135) (lenOf pd_1 rfl) rfl rfl (W := 0) (Nat.le_of_eq rfl) (by decide) (by decide) (by decide) (by decide) ?_
      intro v13 T13 L13 X13 Q13
      obtain ⟨rfl, N13q, hh13⟩ := Q13
      have N13 := Fr.app N11 N13q
      show Go _ _ _ _ _ _ _ T13 (mkF m 138 #[.val (.ref a), .val (.int li), .val (.double dp), .second, .val (.double dq), .second, .val (.int lc), .val (.int (fT 2)), .val (.int (2 : Int32)), .val (.int (1 : Int32)), .val (.int (2 : Int32)), .val (.int (fT 2)), .val (.int (1 : Int32))] [(.int (lowW fP fQ fC (fT 2) cand (1 : Int32)))])
      by_cases hc138_14 : (lowW fP fQ fC (fT 2) cand (1 : Int32)) = (0 : Int32)
      · refine Go.step (fun _ k => XS.ifYes X13.here hx rfl (pc0 := 138) (pc' := 154) rfl (hb hby d7_138) rfl ((if0 _ _).trans (teq hc138_14).1) (by decide) (by decide) k) ?_
        show Go _ _ _ _ _ _ _ T13 (mkF m 154 #[.val (.ref a), .val (.int li), .val (.double dp), .second, .val (.double dq), .second, .val (.int lc), .val (.int (fT 2)), .val (.int (2 : Int32)), .val (.int (1 : Int32)), .val (.int (2 : Int32)), .val (.int (fT 2)), .val (.int (1 : Int32))] [])
        refine Go.step (fun _ k => XS.aloadN X13.here hx rfl (hb hby d7_154) rfl rfl k) ?_
        refine Go.step (fun _ k => XS.iload X13.here hx rfl (hb hby d7_155) rfl k) ?_
        refine Go.step (fun _ k => XS.aloadN X13.here hx rfl (hb hby d7_157) rfl rfl k) ?_
        show Go _ _ _ _ _ _ _ T13 (mkF m 158 #[.val (.ref a), .val (.int li), .val (.double dp), .second, .val (.double dq), .second, .val (.int lc), .val (.int (fT 2)), .val (.int (2 : Int32)), .val (.int (1 : Int32)), .val (.int (2 : Int32)), .val (.int (fT 2)), .val (.int (1 : Int32))] [(.ref a), (.int (fT 2)), (.ref a)])
        obtain ⟨T15, X15, e15, st15⟩ := getF X13 hx hZ hown (host := "") (Or.inl (hw _ (mI 36 rfl))) Via.refl hh13 F_node_a_11 (g := (mkF m 158 #[.val (.ref a), .val (.int li), .val (.double dp), .second, .val (.double dq), .second, .val (.int lc), .val (.int (fT 2)), .val (.int (2 : Int32)), .val (.int (1 : Int32)), .val (.int (2 : Int32)), .val (.int (fT 2)), .val (.int (1 : Int32))] [(.ref a), (.int (fT 2)), (.ref a)])) rfl rfl (hb hby d7_158)
        refine Go.step st15 ?_
        show Go _ _ _ _ _ _ _ T15 (mkF m 161 #[.val (.ref a), .val (.int li), .val (.double dp), .second, .val (.double dq), .second, .val (.int lc), .val (.int (fT 2)), .val (.int (2 : Int32)), .val (.int (1 : Int32)), .val (.int (2 : Int32)), .val (.int (fT 2)), .val (.int (1 : Int32))] [(.ref xt), (.int (fT 2)), (.ref a)])
        refine Go.step (fun _ k => XS.iload X15.here hx rfl (hb hby d7_161) rfl k) ?_
        refine Go.iaload X15 hx hZ e15 V_xt_11 (j := (2 : Int32)) (v := cand) (by decide) rfl (hb hby d7_163) ?_
        show Go _ _ _ _ _ _ _ T15 (mkF m 164 #[.val (.ref a), .val (.int li), .val (.double dp), .second, .val (.double dq), .second, .val (.int lc), .val (.int (fT 2)), .val (.int (2 : Int32)), .val (.int (1 : Int32)), .val (.int (2 : Int32)), .val (.int (fT 2)), .val (.int (1 : Int32))] [(.int cand), (.int (fT 2)), (.ref a)])
        refine Go.step (fun _ k => XS.iload X15.here hx rfl (hb hby d7_164) rfl k) ?_
        refine Go.callP X15 hx hZ (by rw [hml]; rfl) (y := (⟨"com/example/headroom/headroom/LowerEnvelope", "lower", "(III)Z"⟩ : MethodName)) (a := a) (argsL := [(.int (fT 2)), (.int cand), (.int (2 : Int32))]) (rest := []) hown (hw _ (mI 57 rfl)) (hw _ (mI 58 rfl)) (hw _ (mI 1 rfl)) (hw _ (mI 59 rfl)) (hw _ (mI 2 rfl)) (hw _ (mI 60 rfl)) (by decide) (rm9 l Z a0 hw a xu xv xw fP fQ fC (fT 2) cand (2 : Int32) T11.heap n0 (Nat.le_trans Z0 (KK11 : Keep h0 T11.heap [a, xn, xo, xu, xv, xw, xt, xm]).1) F_base_a_11 F_slope_a_11 F_origin_a_11 V_xu_11 V_xv_11 V_xw_11 hP hQ hC (hR 2) hcand (own_in (2 : Int32) (by decide))) e15 E_a_11 (hb hby d7_166) (lenOf pd_1 rfl) rfl rfl (W := 0) (Nat.le_of_eq rfl) (by decide) (by decide) (by decide) (by decide) ?_
        intro v16 T16 L16 X16 Q16
        obtain ⟨rfl, N16q, hh16⟩ := Q16
        have N16 := Fr.app N13 N16q
        show Go _ _ _ _ _ _ _ T16 (mkF m 169 #[.val (.ref a), .val (.int li), .val (.double dp), .second, .val (.double dq), .second, .val (.int lc), .val (.int (fT 2)), .val (.int (2 : Int32)), .val (.int (1 : Int32)), .val (.int (2 : Int32)), .val (.int (fT 2)), .val (.int (1 : Int32))] [(.int (lowW fP fQ fC (fT 2) cand (2 : Int32)))])
        by_cases hc169_17 : (lowW fP fQ fC (fT 2) cand (2 : Int32)) = (0 : Int32)
        · refine Go.step (fun _ k => XS.ifYes X16.here hx rfl (pc0 := 169) (pc' := 189) rfl (hb hby d7_169) rfl ((if0 _ _).trans (teq hc169_17).1) (by decide) (by decide) k) ?_
          show Go _ _ _ _ _ _ _ T16 (mkF m 189 #[.val (.ref a), .val (.int li), .val (.double dp), .second, .val (.double dq), .second, .val (.int lc), .val (.int (fT 2)), .val (.int (2 : Int32)), .val (.int (1 : Int32)), .val (.int (2 : Int32)), .val (.int (fT 2)), .val (.int (1 : Int32))] [])
          refine Go.retV X16 hx hlk hret (hb hby d7_189) (by decide) (by decide) ?_
          try rw [hh16]
          exact ⟨rfl, N16, (Kh.trans (KK11 : Keep h0 T11.heap [a, xn, xo, xu, xv, xw, xt, xm]) (fun y hy => Or.inl hy)), _, _, _, (nn + 1), ⟨E_a_11, F_changedNode_a_11, F_changedLine_a_11, F_base_a_11, F_slope_a_11, F_origin_a_11, F_node_a_11, F_pushedAt_a_11, F_width_a_11, F_pushes_a_11, F_changes_a_11, V_xn_11, V_xo_11, V_xu_11, V_xv_11, V_xw_11, V_xt_11, V_xm_11⟩, hG11, by omega⟩
        · refine Go.step (fun _ k => XS.ifNo X16.here hx rfl (hb hby d7_169) rfl ((if0 _ _).trans (feq hc169_17).1) k) ?_
          show Go _ _ _ _ _ _ _ T16 (mkF m 172 #[.val (.ref a), .val (.int li), .val (.double dp), .second, .val (.double dq), .second, .val (.int lc), .val (.int (fT 2)), .val (.int (2 : Int32)), .val (.int (1 : Int32)), .val (.int (2 : Int32)), .val (.int (fT 2)), .val (.int (1 : Int32))] [])
          refine Go.step (fun _ k => XS.iconst X16.here hx rfl (hb hby d7_172) k) ?_
          refine Go.step (fun _ k => XS.iload X16.here hx rfl (hb hby d7_173) rfl k) ?_
          refine Go.step (fun _ k => XS.imul X16.here hx rfl (hb hby d7_175) rfl k) ?_
          show Go _ _ _ _ _ _ _ T16 (mkF m 176 #[.val (.ref a), .val (.int li), .val (.double dp), .second, .val (.double dq), .second, .val (.int lc), .val (.int (fT 2)), .val (.int (2 : Int32)), .val (.int (1 : Int32)), .val (.int (2 : Int32)), .val (.int (fT 2)), .val (.int (1 : Int32))] [(.int (4 : Int32))])
          refine Go.step (fun _ k => XS.iconst X16.here hx rfl (hb hby d7_176) k) ?_
          refine Go.step (fun _ k => XS.iadd X16.here hx rfl (hb hby d7_177) rfl k) ?_
          show Go _ _ _ _ _ _ _ T16 (mkF m 178 #[.val (.ref a), .val (.int li), .val (.double dp), .second, .val (.double dq), .second, .val (.int lc), .val (.int (fT 2)), .val (.int (2 : Int32)), .val (.int (1 : Int32)), .val (.int (2 : Int32)), .val (.int (fT 2)), .val (.int (1 : Int32))] [(.int (5 : Int32))])
          refine Go.step (fun _ k => XS.istore X16.here hx rfl (hb hby d7_178) rfl (l' := #[.val (.ref a), .val (.int li), .val (.double dp), .second, .val (.double dq), .second, .val (.int lc), .val (.int (fT 2)), .val (.int (5 : Int32)), .val (.int (1 : Int32)), .val (.int (2 : Int32)), .val (.int (fT 2)), .val (.int (1 : Int32))]) rfl k) ?_
          show Go _ _ _ _ _ _ _ T16 (mkF m 180 #[.val (.ref a), .val (.int li), .val (.double dp), .second, .val (.double dq), .second, .val (.int lc), .val (.int (fT 2)), .val (.int (5 : Int32)), .val (.int (1 : Int32)), .val (.int (2 : Int32)), .val (.int (fT 2)), .val (.int (1 : Int32))] [])
          refine Go.step (fun _ k => XS.iload X16.here hx rfl (hb hby d7_180) rfl k) ?_
          refine Go.step (fun _ k => XS.iconst X16.here hx rfl (hb hby d7_182) k) ?_
          refine Go.step (fun _ k => XS.iadd X16.here hx rfl (hb hby d7_183) rfl k) ?_
          show Go _ _ _ _ _ _ _ T16 (mkF m 184 #[.val (.ref a), .val (.int li), .val (.double dp), .second, .val (.double dq), .second, .val (.int lc), .val (.int (fT 2)), .val (.int (5 : Int32)), .val (.int (1 : Int32)), .val (.int (2 : Int32)), .val (.int (fT 2)), .val (.int (1 : Int32))] [(.int (2 : Int32))])
          refine Go.step (fun _ k => XS.istore X16.here hx rfl (hb hby d7_184) rfl (l' := #[.val (.ref a), .val (.int li), .val (.double dp), .second, .val (.double dq), .second, .val (.int lc), .val (.int (fT 2)), .val (.int (5 : Int32)), .val (.int (2 : Int32)), .val (.int (2 : Int32)), .val (.int (fT 2)), .val (.int (1 : Int32))]) rfl k) ?_
          show Go _ _ _ _ _ _ _ T16 (mkF m 186 #[.val (.ref a), .val (.int li), .val (.double dp), .second, .val (.double dq), .second, .val (.int lc), .val (.int (fT 2)), .val (.int (5 : Int32)), .val (.int (2 : Int32)), .val (.int (2 : Int32)), .val (.int (fT 2)), .val (.int (1 : Int32))] [])
          refine Go.step (fun _ k => XS.goto X16.here hx rfl (pc0 := 186) (pc' := 190) rfl (hb hby d7_186) (by decide) (by decide) k) ?_
          show Go _ _ _ _ _ _ _ T16 (mkF m 190 #[.val (.ref a), .val (.int li), .val (.double dp), .second, .val (.double dq), .second, .val (.int lc), .val (.int (fT 2)), .val (.int (5 : Int32)), .val (.int (2 : Int32)), .val (.int (2 : Int32)), .val (.int (fT 2)), .val (.int (1 : Int32))] [])
          refine Go.step (fun _ k => XS.goto X16.here hx rfl (pc0 := 190) (pc' := 58) rfl (hb hby d7_190) (by decide) (by decide) k) ?_
          show Go _ _ _ _ _ _ _ T16 (mkF m 58 #[.val (.ref a), .val (.int li), .val (.double dp), .second, .val (.double dq), .second, .val (.int lc), .val (.int (fT 2)), .val (.int (5 : Int32)), .val (.int (2 : Int32)), .val (.int (2 : Int32)), .val (.int (fT 2)), .val (.int (1 : Int32))] [])
          exact wL2 hh a xn xo xu xv xw xt xm fP fQ fC (updN fT 2 cand) fM (updN fN (sg + nn) (2 : Int32)) (updN fO (sg + nn) (fT 2)) tT tN tO sg (nn + 1) li dp dq lc (fT 2) (5 : Int32) (2 : Int32) (2 : Int32) (fT 2) (1 : Int32) X16 hx hZ hw hby hml hown hnm hret hlk hh16 (Nat.le_trans Z0 (KK11 : Keep h0 T11.heap [a, xn, xo, xu, xv, xw, xt, xm]).1) N16 ⟨E_a_11, F_changedNode_a_11, F_changedLine_a_11, F_base_a_11, F_slope_a_11, F_origin_a_11, F_node_a_11, F_pushedAt_a_11, F_width_a_11, F_pushes_a_11, F_changes_a_11, V_xn_11, V_xo_11, V_xu_11, V_xv_11, V_xw_11, V_xt_11, V_xm_11⟩ hD hG11 (Kh.trans (KK11 : Keep h0 T11.heap [a, xn, xo, xu, xv, xw, xt, xm]) (fun y hy => Or.inl hy)) hsg (by omega) (by decide) (show (updN fT 2 cand) 5 = (0 : Int32) from hLf.2.1)
      · refine Go.step (fun _ k => XS.ifNo X13.here hx rfl (hb hby d7_138) rfl ((if0 _ _).trans (feq hc138_14).1) k) ?_
        refine Go.step (fun _ k => XS.iconst X13.here hx rfl (hb hby d7_141) k) ?_
        refine Go.step (fun _ k => XS.iload X13.here hx rfl (hb hby d7_142) rfl k) ?_
        show Go _ _ _ _ _ _ _ T13 (mkF m 144 #[.val (.ref a), .val (.int li), .val (.double dp), .second, .val (.double dq), .second, .val (.int lc), .val (.int (fT 2)), .val (.int (2 : Int32)), .val (.int (1 : Int32)), .val (.int (2 : Int32)), .val (.int (fT 2)), .val (.int (1 : Int32))] [(.int (2 : Int32)), (.int (2 : Int32))])
        refine Go.step (fun _ k => XS.imul X13.here hx rfl (hb hby d7_144) rfl k) ?_
        show Go _ _ _ _ _ _ _ T13 (mkF m 145 #[.val (.ref a), .val (.int li), .val (.double dp), .second, .val (.double dq), .second, .val (.int lc), .val (.int (fT 2)), .val (.int (2 : Int32)), .val (.int (1 : Int32)), .val (.int (2 : Int32)), .val (.int (fT 2)), .val (.int (1 : Int32))] [(.int (4 : Int32))])
        refine Go.step (fun _ k => XS.istore X13.here hx rfl (hb hby d7_145) rfl (l' := #[.val (.ref a), .val (.int li), .val (.double dp), .second, .val (.double dq), .second, .val (.int lc), .val (.int (fT 2)), .val (.int (4 : Int32)), .val (.int (1 : Int32)), .val (.int (2 : Int32)), .val (.int (fT 2)), .val (.int (1 : Int32))]) rfl k) ?_
        show Go _ _ _ _ _ _ _ T13 (mkF m 147 #[.val (.ref a), .val (.int li), .val (.double dp), .second, .val (.double dq), .second, .val (.int lc), .val (.int (fT 2)), .val (.int (4 : Int32)), .val (.int (1 : Int32)), .val (.int (2 : Int32)), .val (.int (fT 2)), .val (.int (1 : Int32))] [])
        refine Go.step (fun _ k => XS.iload X13.here hx rfl (hb hby d7_147) rfl k) ?_
        refine Go.step (fun _ k => XS.istore X13.here hx rfl (hb hby d7_149) rfl (l' := #[.val (.ref a), .val (.int li), .val (.double dp), .second, .val (.double dq), .second, .val (.int lc), .val (.int (fT 2)), .val (.int (4 : Int32)), .val (.int (1 : Int32)), .val (.int (1 : Int32)), .val (.int (fT 2)), .val (.int (1 : Int32))]) rfl k) ?_
        show Go _ _ _ _ _ _ _ T13 (mkF m 151 #[.val (.ref a), .val (.int li), .val (.double dp), .second, .val (.double dq), .second, .val (.int lc), .val (.int (fT 2)), .val (.int (4 : Int32)), .val (.int (1 : Int32)), .val (.int (1 : Int32)), .val (.int (fT 2)), .val (.int (1 : Int32))] [])
        refine Go.step (fun _ k => XS.goto X13.here hx rfl (pc0 := 151) (pc' := 190) rfl (hb hby d7_151) (by decide) (by decide) k) ?_
        show Go _ _ _ _ _ _ _ T13 (mkF m 190 #[.val (.ref a), .val (.int li), .val (.double dp), .second, .val (.double dq), .second, .val (.int lc), .val (.int (fT 2)), .val (.int (4 : Int32)), .val (.int (1 : Int32)), .val (.int (1 : Int32)), .val (.int (fT 2)), .val (.int (1 : Int32))] [])
        refine Go.step (fun _ k => XS.goto X13.here hx rfl (pc0 := 190) (pc' := 58) rfl (hb hby d7_190) (by decide) (by decide) k) ?_
        show Go _ _ _ _ _ _ _ T13 (mkF m 58 #[.val (.ref a), .val (.int li), .val (.double dp), .second, .val (.double dq), .second, .val (.int lc), .val (.int (fT 2)), .val (.int (4 : Int32)), .val (.int (1 : Int32)), .val (.int (1 : Int32)), .val (.int (fT 2)), .val (.int (1 : Int32))] [])
        exact wL2 hh a xn xo xu xv xw xt xm fP fQ fC (updN fT 2 cand) fM (updN fN (sg + nn) (2 : Int32)) (updN fO (sg + nn) (fT 2)) tT tN tO sg (nn + 1) li dp dq lc (fT 2) (4 : Int32) (1 : Int32) (1 : Int32) (fT 2) (1 : Int32) X13 hx hZ hw hby hml hown hnm hret hlk hh13 (Nat.le_trans Z0 (KK11 : Keep h0 T11.heap [a, xn, xo, xu, xv, xw, xt, xm]).1) N13 ⟨E_a_11, F_changedNode_a_11, F_changedLine_a_11, F_base_a_11, F_slope_a_11, F_origin_a_11, F_node_a_11, F_pushedAt_a_11, F_width_a_11, F_pushes_a_11, F_changes_a_11, V_xn_11, V_xo_11, V_xu_11, V_xv_11, V_xw_11, V_xt_11, V_xm_11⟩ hD hG11 (Kh.trans (KK11 : Keep h0 T11.heap [a, xn, xo, xu, xv, xw, xt, xm]) (fun y hy => Or.inl hy)) hsg (by omega) (by decide) (show (updN fT 2 cand) 4 = (0 : Int32) from hLf.1)
set_option maxRecDepth 65536 in
set_option maxHeartbeats 40000000 in
theorem wL1_3 {p : Program} {l : Launch} {e : Env} {s : State} {m : MethodId} {args : Array Value} {below : List Frame} {meth : Method} {c_ : Code} {T0 : State} {locs : List Loc} {Z : State} {a0 : Array Value} {h0 : Heap} {n0 : Nat} (hh : Heap) (a xn xo xu xv xw xt xm : Addr) (fP fQ fC fT fM fN fO : Nat → Int32) (tT tN tO : Nat → Int32) (sg nn : Nat) (li : Int32) (dp dq : UInt64) (lc cand : Int32) (y11 y12 : Int32)
    (X0 : Stand p l e ({ frames := 1, cells := 0, slots := 0, locals := 24 } : Room) s m args below meth c_ T0 locs 0 0) (hx : p.tables.exec = Jvm.exec) (hZ : Z.Warmed39 s.vm) (hw : ∀ d ∈ tables_1, d.before a0 Z = true) (hby : c_.code = prog_15_method_2_code) (hml : c_.maxLocals = 13) (hown : s.vm.findClass "com/example/headroom/headroom/LowerEnvelope" = some m.cls) (hnm : meth.name = "push") (hret : meth.sig.returnType = none) (hlk : meth.locks = false) (e0 : T0.heap = h0) (Z0 : n0 ≤ h0.size) (N0 : Fr n0 locs) (hL : LEs Z h0 a xn xo xu xv xw xt xm fP fQ fC fT fM fN fO 3 (sg + nn)) (hD : Dst n0 a xn xo xu xv xw xt xm) (hG : Good tT tN tO sg fT fN fO nn) (Kh : Keep hh h0 [a, xn, xo, xu, xv, xw, xt, xm]) (hsg : sg ≤ 10) (hn : nn ≤ 1) (hR : Rng fT) (hLf : Lf fT) (hcand : ¬ cand < (0 : Int32) ∧ cand < (5 : Int32)) (hP : Sm fP) (hQ : Sm fQ) (hC : Sm fC) :
    Go p e below s ({ frames := 1, cells := 0, slots := 0, locals := 24 } : Room).cells ({ frames := 1, cells := 0, slots := 0, locals := 24 } : Room).slots (fun r h L => r = none ∧ Fr n0 L ∧ Keep hh h [a, xn, xo, xu, xv, xw, xt, xm] ∧ ∃ (T' N' O' : Nat → Int32) (n' : Nat), LEs Z h a xn xo xu xv xw xt xm fP fQ fC T' fM N' O' 3 (sg + n') ∧ Good tT tN tO sg T' N' O' n' ∧ n' ≤ 3) T0 (mkF m 58 #[.val (.ref a), .val (.int li), .val (.double dp), .second, .val (.double dq), .second, .val (.int lc), .val (.int cand), .val (.int (3 : Int32)), .val (.int (3 : Int32)), .val (.int (4 : Int32)), .val (.int y11), .val (.int y12)] []) := by
  have hDq := hD
  obtain ⟨ne_a_xn, ne_a_xo, ne_a_xu, ne_a_xv, ne_a_xw, ne_a_xt, ne_a_xm, ne_xn_xo, ne_xn_xu, ne_xn_xv, ne_xn_xw, ne_xn_xt, ne_xn_xm, ne_xo_xu, ne_xo_xv, ne_xo_xw, ne_xo_xt, ne_xo_xm, ne_xu_xv, ne_xu_xw, ne_xu_xt, ne_xu_xm, ne_xv_xw, ne_xv_xt, ne_xv_xm, ne_xw_xt, ne_xw_xm, ne_xt_xm, ge_a, ge_xn, ge_xo, ge_xu, ge_xv, ge_xw, ge_xt, ge_xm⟩ := hDq
  obtain ⟨E_a_0, F_changedNode_a_0, F_changedLine_a_0, F_base_a_0, F_slope_a_0, F_origin_a_0, F_node_a_0, F_pushedAt_a_0, F_width_a_0, F_pushes_a_0, F_changes_a_0, V_xn_0, V_xo_0, V_xu_0, V_xv_0, V_xw_0, V_xt_0, V_xm_0⟩ := hL
  show Go _ _ _ _ _ _ _ T0 (mkF m 58 #[.val (.ref a), .val (.int li), .val (.double dp), .second, .val (.double dq), .second, .val (.int lc), .val (.int cand), .val (.int (3 : Int32)), .val (.int (3 : Int32)), .val (.int (4 : Int32)), .val (.int y11), .val (.int y12)] [])
  refine Go.step (fun _ k => XS.aloadN X0.here hx rfl (hb hby d7_58) rfl rfl k) ?_
  obtain ⟨T1, X1, e1, st1⟩ := getF X0 hx hZ hown (host := "") (Or.inl (hw _ (mI 36 rfl))) Via.refl e0 F_node_a_0 (g := (mkF m 59 #[.val (.ref a), .val (.int li), .val (.double dp), .second, .val (.double dq), .second, .val (.int lc), .val (.int cand), .val (.int (3 : Int32)), .val (.int (3 : Int32)), .val (.int (4 : Int32)), .val (.int y11), .val (.int y12)] [(.ref a)])) rfl rfl (hb hby d7_59)
  refine Go.step st1 ?_
  show Go _ _ _ _ _ _ _ T1 (mkF m 62 #[.val (.ref a), .val (.int li), .val (.double dp), .second, .val (.double dq), .second, .val (.int lc), .val (.int cand), .val (.int (3 : Int32)), .val (.int (3 : Int32)), .val (.int (4 : Int32)), .val (.int y11), .val (.int y12)] [(.ref xt)])
  refine Go.step (fun _ k => XS.iload X1.here hx rfl (hb hby d7_62) rfl k) ?_
  refine Go.iaload X1 hx hZ e1 V_xt_0 (j := (3 : Int32)) (v := (fT 3)) (by decide) rfl (hb hby d7_64) ?_
  show Go _ _ _ _ _ _ _ T1 (mkF m 65 #[.val (.ref a), .val (.int li), .val (.double dp), .second, .val (.double dq), .second, .val (.int lc), .val (.int cand), .val (.int (3 : Int32)), .val (.int (3 : Int32)), .val (.int (4 : Int32)), .val (.int y11), .val (.int y12)] [(.int (fT 3))])
  refine Go.step (fun _ k => XS.istore X1.here hx rfl (hb hby d7_65) rfl (l' := #[.val (.ref a), .val (.int li), .val (.double dp), .second, .val (.double dq), .second, .val (.int lc), .val (.int cand), .val (.int (3 : Int32)), .val (.int (3 : Int32)), .val (.int (4 : Int32)), .val (.int (fT 3)), .val (.int y12)]) rfl k) ?_
  show Go _ _ _ _ _ _ _ T1 (mkF m 67 #[.val (.ref a), .val (.int li), .val (.double dp), .second, .val (.double dq), .second, .val (.int lc), .val (.int cand), .val (.int (3 : Int32)), .val (.int (3 : Int32)), .val (.int (4 : Int32)), .val (.int (fT 3)), .val (.int y12)] [])
  refine Go.step (fun _ k => XS.iload X1.here hx rfl (hb hby d7_67) rfl k) ?_
  by_cases hc69_2 : (fT 3) = (0 : Int32)
  · refine Go.step (fun _ k => XS.ifNo X1.here hx rfl (hb hby d7_69) rfl ((if0 _ _).trans (teq hc69_2).2) k) ?_
    show Go _ _ _ _ _ _ _ T1 (mkF m 72 #[.val (.ref a), .val (.int li), .val (.double dp), .second, .val (.double dq), .second, .val (.int lc), .val (.int cand), .val (.int (3 : Int32)), .val (.int (3 : Int32)), .val (.int (4 : Int32)), .val (.int (fT 3)), .val (.int y12)] [])
    refine Go.step (fun _ k => XS.aloadN X1.here hx rfl (hb hby d7_72) rfl rfl k) ?_
    refine Go.step (fun _ k => XS.iload X1.here hx rfl (hb hby d7_73) rfl k) ?_
    refine Go.step (fun _ k => XS.iload X1.here hx rfl (hb hby d7_75) rfl k) ?_
    show Go _ _ _ _ _ _ _ T1 (mkF m 77 #[.val (.ref a), .val (.int li), .val (.double dp), .second, .val (.double dq), .second, .val (.int lc), .val (.int cand), .val (.int (3 : Int32)), .val (.int (3 : Int32)), .val (.int (4 : Int32)), .val (.int (fT 3)), .val (.int y12)] [(.int cand), (.int (3 : Int32)), (.ref a)])
    refine Go.callP X1 hx hZ (by rw [hml]; rfl) (y := (⟨"com/example/headroom/headroom/LowerEnvelope", "write", "(II)V"⟩ : MethodName)) (a := a) (argsL := [(.int (3 : Int32)), (.int cand)]) (rest := []) hown (hw _ (mI 53 rfl)) (hw _ (mI 54 rfl)) (hw _ (mI 1 rfl)) (hw _ (mI 55 rfl)) (hw _ (mI 2 rfl)) (hw _ (mI 56 rfl)) (by decide) (rm8 l Z a0 hw a xn xo xu xv xw xt xm fP fQ fC fT fM fN fO 3 (sg + nn) (3 : Int32) cand h0 n0 Z0 ⟨E_a_0, F_changedNode_a_0, F_changedLine_a_0, F_base_a_0, F_slope_a_0, F_origin_a_0, F_node_a_0, F_pushedAt_a_0, F_width_a_0, F_pushes_a_0, F_changes_a_0, V_xn_0, V_xo_0, V_xu_0, V_xv_0, V_xw_0, V_xt_0, V_xm_0⟩ hD (by decide) (by omega)) e1 E_a_0 (hb hby d7_77) (lenOf pd_0 rfl) rfl rfl (W := 0) (Nat.le_of_eq rfl) (by decide) (by decide) (by decide) (by decide) ?_
    intro v3 T3 L3 X3 Q3
    obtain ⟨rfl, N3q, Kc3, hL3⟩ := Q3
    have N3 := Fr.app N0 N3q
    have E_a_3 := E_a_0.keep Kc3
    have KK3 : Keep h0 T3.heap [a, xn, xo, xu, xv, xw, xt, xm] := ((Keep.refl h0 [a, xn, xo, xu, xv, xw, xt, xm]) : Keep h0 h0 [a, xn, xo, xu, xv, xw, xt, xm]).trans Kc3 (allS (Or.inl (List.mem_of_getElem? (i := 0) rfl)) (allS (Or.inl (List.mem_of_getElem? (i := 1) rfl)) (allS (Or.inl (List.mem_of_getElem? (i := 2) rfl)) (allS (Or.inl (List.mem_of_getElem? (i := 3) rfl)) (allS (Or.inl (List.mem_of_getElem? (i := 4) rfl)) (allS (Or.inl (List.mem_of_getElem? (i := 5) rfl)) (allS (Or.inl (List.mem_of_getElem? (i := 6) rfl)) (allS (Or.inl (List.mem_of_getElem? (i := 7) rfl)) all0))))))))
    have hL3x : LEs Z T3.heap a xn xo xu xv xw xt xm fP fQ fC (updN fT 3 cand) fM (updN fN (sg + nn) (3 : Int32)) (updN fO (sg + nn) (fT 3)) 3 (sg + (nn + 1)) := hL3
    have hG3 := Good.write hG (k := (3 : Int32)) (by decide) cand
    obtain ⟨E_a_3, F_changedNode_a_3, F_changedLine_a_3, F_base_a_3, F_slope_a_3, F_origin_a_3, F_node_a_3, F_pushedAt_a_3, F_width_a_3, F_pushes_a_3, F_changes_a_3, V_xn_3, V_xo_3, V_xu_3, V_xv_3, V_xw_3, V_xt_3, V_xm_3⟩ := hL3x
    show Go _ _ _ _ _ _ _ T3 (mkF m 80 #[.val (.ref a), .val (.int li), .val (.double dp), .second, .val (.double dq), .second, .val (.int lc), .val (.int cand), .val (.int (3 : Int32)), .val (.int (3 : Int32)), .val (.int (4 : Int32)), .val (.int (fT 3)), .val (.int y12)] [])
    refine Go.retV X3 hx hlk hret (hb hby d7_80) (by decide) (by decide) ?_
    exact ⟨rfl, N3, (Kh.trans (KK3 : Keep h0 T3.heap [a, xn, xo, xu, xv, xw, xt, xm]) (fun y hy => Or.inl hy)), _, _, _, (nn + 1), ⟨E_a_3, F_changedNode_a_3, F_changedLine_a_3, F_base_a_3, F_slope_a_3, F_origin_a_3, F_node_a_3, F_pushedAt_a_3, F_width_a_3, F_pushes_a_3, F_changes_a_3, V_xn_3, V_xo_3, V_xu_3, V_xv_3, V_xw_3, V_xt_3, V_xm_3⟩, hG3, by omega⟩
  · refine Go.step (fun _ k => XS.ifYes X1.here hx rfl (pc0 := 69) (pc' := 81) rfl (hb hby d7_69) rfl ((if0 _ _).trans (feq hc69_2).2) (by decide) (by decide) k) ?_
    show Go _ _ _ _ _ _ _ T1 (mkF m 81 #[.val (.ref a), .val (.int li), .val (.double dp), .second, .val (.double dq), .second, .val (.int lc), .val (.int cand), .val (.int (3 : Int32)), .val (.int (3 : Int32)), .val (.int (4 : Int32)), .val (.int (fT 3)), .val (.int y12)] [])
    refine Go.step (fun _ k => XS.iload X1.here hx rfl (hb hby d7_81) rfl k) ?_
    refine Go.step (fun _ k => XS.iload X1.here hx rfl (hb hby d7_83) rfl k) ?_
    refine Go.step (fun _ k => XS.iadd X1.here hx rfl (hb hby d7_85) rfl k) ?_
    show Go _ _ _ _ _ _ _ T1 (mkF m 86 #[.val (.ref a), .val (.int li), .val (.double dp), .second, .val (.double dq), .second, .val (.int lc), .val (.int cand), .val (.int (3 : Int32)), .val (.int (3 : Int32)), .val (.int (4 : Int32)), .val (.int (fT 3)), .val (.int y12)] [(.int (7 : Int32))])
    refine Go.step (fun _ k => XS.iconst X1.here hx rfl (hb hby d7_86) k) ?_
    refine Go.step (fun _ k => XS.iushr X1.here hx rfl (hb hby d7_87) rfl k) ?_
    show Go _ _ _ _ _ _ _ T1 (mkF m 88 #[.val (.ref a), .val (.int li), .val (.double dp), .second, .val (.double dq), .second, .val (.int lc), .val (.int cand), .val (.int (3 : Int32)), .val (.int (3 : Int32)), .val (.int (4 : Int32)), .val (.int (fT 3)), .val (.int y12)] [(.int (3 : Int32))])
    refine Go.step (fun _ k => XS.istore X1.here hx rfl (hb hby d7_88) rfl (l' := #[.val (.ref a), .val (.int li), .val (.double dp), .second, .val (.double dq), .second, .val (.int lc), .val (.int cand), .val (.int (3 : Int32)), .val (.int (3 : Int32)), .val (.int (4 : Int32)), .val (.int (fT 3)), .val (.int (3 : Int32))]) rfl k) ?_
    show Go _ _ _ _ _ _ _ T1 (mkF m 90 #[.val (.ref a), .val (.int li), .val (.double dp), .second, .val (.double dq), .second, .val (.int lc), .val (.int cand), .val (.int (3 : Int32)), .val (.int (3 : Int32)), .val (.int (4 : Int32)), .val (.int (fT 3)), .val (.int (3 : Int32))] [])
    refine Go.step (fun _ k => XS.aloadN X1.here hx rfl (hb hby d7_90) rfl rfl k) ?_
    refine Go.step (fun _ k => XS.iload X1.here hx rfl (hb hby d7_91) rfl k) ?_
    refine Go.step (fun _ k => XS.iload X1.here hx rfl (hb hby d7_93) rfl k) ?_
    show Go _ _ _ _ _ _ _ T1 (mkF m 95 #[.val (.ref a), .val (.int li), .val (.double dp), .second, .val (.double dq), .second, .val (.int lc), .val (.int cand), .val (.int (3 : Int32)), .val (.int (3 : Int32)), .val (.int (4 : Int32)), .val (.int (fT 3)), .val (.int (3 : Int32))] [(.int (fT 3)), (.int cand), (.ref a)])
    refine Go.step (fun _ k => XS.iload X1.here hx rfl (hb hby d7_95) rfl k) ?_
    refine Go.callP X1 hx hZ (by rw [hml]; rfl) (y := (⟨"com/example/headroom/headroom/LowerEnvelope", "lower", "(III)Z"⟩ : MethodName)) (a := a) (argsL := [(.int cand), (.int (fT 3)), (.int (3 : Int32))]) (rest := []) hown (hw _ (mI 57 rfl)) (hw _ (mI 58 rfl)) (hw _ (mI 1 rfl)) (hw _ (mI 59 rfl)) (hw _ (mI 2 rfl)) (hw _ (mI 60 rfl)) (by decide) (rm9 l Z a0 hw a xu xv xw fP fQ fC cand (fT 3) (3 : Int32) h0 n0 Z0 F_base_a_0 F_slope_a_0 F_origin_a_0 V_xu_0 V_xv_0 V_xw_0 hP hQ hC hcand (hR 3) (own_in (3 : Int32) (by decide))) e1 E_a_0 (hb hby d7_97) (lenOf pd_1 rfl) rfl rfl (W := 0) (Nat.le_of_eq rfl) (by decide) (by decide) (by decide) (by decide) ?_
    intro v4 T4 L4 X4 Q4
    obtain ⟨rfl, N4q, hh4⟩ := Q4
    have N4 := Fr.app N0 N4q
    show Go _ _ _ _ _ _ _ T4 (mkF m 100 #[.val (.ref a), .val (.int li), .val (.double dp), .second, .val (.double dq), .second, .val (.int lc), .val (.int cand), .val (.int (3 : Int32)), .val (.int (3 : Int32)), .val (.int (4 : Int32)), .val (.int (fT 3)), .val (.int (3 : Int32))] [(.int (lowW fP fQ fC cand (fT 3) (3 : Int32)))])
    by_cases hc100_5 : (lowW fP fQ fC cand (fT 3) (3 : Int32)) = (0 : Int32)
    · refine Go.step (fun _ k => XS.ifYes X4.here hx rfl (pc0 := 100) (pc' := 115) rfl (hb hby d7_100) rfl ((if0 _ _).trans (teq hc100_5).1) (by decide) (by decide) k) ?_
      show Go _ _ _ _ _ _ _ T4 (mkF m 115 #[.val (.ref a), .val (.int li), .val (.double dp), .second, .val (.double dq), .second, .val (.int lc), .val (.int cand), .val (.int (3 : Int32)), .val (.int (3 : Int32)), .val (.int (4 : Int32)), .val (.int (fT 3)), .val (.int (3 : Int32))] [])
      refine Go.step (fun _ k => XS.iload X4.here hx rfl (hb hby d7_115) rfl k) ?_
      refine Go.step (fun _ k => XS.iload X4.here hx rfl (hb hby d7_117) rfl k) ?_
      refine Go.step (fun _ k => XS.icmpYes X4.here hx rfl (pc0 := 119) (pc' := 123) rfl (hb hby d7_119) rfl (feq (by decide : ¬ ((3 : Int32) = (4 : Int32)))).2 (by decide) (by decide) k) ?_
      show Go _ _ _ _ _ _ _ T4 (mkF m 123 #[.val (.ref a), .val (.int li), .val (.double dp), .second, .val (.double dq), .second, .val (.int lc), .val (.int cand), .val (.int (3 : Int32)), .val (.int (3 : Int32)), .val (.int (4 : Int32)), .val (.int (fT 3)), .val (.int (3 : Int32))] [])
      refine Go.step (fun _ k => XS.aloadN X4.here hx rfl (hb hby d7_123) rfl rfl k) ?_
      refine Go.step (fun _ k => XS.iload X4.here hx rfl (hb hby d7_124) rfl k) ?_
      refine Go.step (fun _ k => XS.aloadN X4.here hx rfl (hb hby d7_126) rfl rfl k) ?_
      show Go _ _ _ _ _ _ _ T4 (mkF m 127 #[.val (.ref a), .val (.int li), .val (.double dp), .second, .val (.double dq), .second, .val (.int lc), .val (.int cand), .val (.int (3 : Int32)), .val (.int (3 : Int32)), .val (.int (4 : Int32)), .val (.int (fT 3)), .val (.int (3 : Int32))] [(.ref a), (.int cand), (.ref a)])
      obtain ⟨T6, X6, e6, st6⟩ := getF X4 hx hZ hown (host := "") (Or.inl (hw _ (mI 36 rfl))) Via.refl hh4 F_node_a_0 (g := (mkF m 127 #[.val (.ref a), .val (.int li), .val (.double dp), .second, .val (.double dq), .second, .val (.int lc), .val (.int cand), .val (.int (3 : Int32)), .val (.int (3 : Int32)), .val (.int (4 : Int32)), .val (.int (fT 3)), .val (.int (3 : Int32))] [(.ref a), (.int cand), (.ref a)])) rfl rfl (hb hby d7_127)
      refine Go.step st6 ?_
      show Go _ _ _ _ _ _ _ T6 (mkF m 130 #[.val (.ref a), .val (.int li), .val (.double dp), .second, .val (.double dq), .second, .val (.int lc), .val (.int cand), .val (.int (3 : Int32)), .val (.int (3 : Int32)), .val (.int (4 : Int32)), .val (.int (fT 3)), .val (.int (3 : Int32))] [(.ref xt), (.int cand), (.ref a)])
      refine Go.step (fun _ k => XS.iload X6.here hx rfl (hb hby d7_130) rfl k) ?_
      refine Go.iaload X6 hx hZ e6 V_xt_0 (j := (3 : Int32)) (v := (fT 3)) (by decide) rfl (hb hby d7_132) ?_
      show Go _ _ _ _ _ _ _ T6 (mkF m 133 #[.val (.ref a), .val (.int li), .val (.double dp), .second, .val (.double dq), .second, .val (.int lc), .val (.int cand), .val (.int (3 : Int32)), .val (.int (3 : Int32)), .val (.int (4 : Int32)), .val (.int (fT 3)), .val (.int (3 : Int32))] [(.int (fT 3)), (.int cand), (.ref a)])
      refine Go.step (fun _ k => XS.iload X6.here hx rfl (hb hby d7_133) rfl k) ?_
      refine Go.callP X6 hx hZ (by rw [hml]; rfl) (y := (⟨"com/example/headroom/headroom/LowerEnvelope", "lower", "(III)Z"⟩ : MethodName)) (a := a) (argsL := [(.int cand), (.int (fT 3)), (.int (3 : Int32))]) (rest := []) hown (hw _ (mI 57 rfl)) (hw _ (mI 58 rfl)) (hw _ (mI 1 rfl)) (hw _ (mI 59 rfl)) (hw _ (mI 2 rfl)) (hw _ (mI 60 rfl)) (by decide) (rm9 l Z a0 hw a xu xv xw fP fQ fC cand (fT 3) (3 : Int32) h0 n0 Z0 F_base_a_0 F_slope_a_0 F_origin_a_0 V_xu_0 V_xv_0 V_xw_0 hP hQ hC hcand (hR 3) (own_in (3 : Int32) (by decide))) e6 E_a_0 (hb hby d7_135) (lenOf pd_1 rfl) rfl rfl (W := 0) (Nat.le_of_eq rfl) (by decide) (by decide) (by decide) (by decide) ?_
      intro v7 T7 L7 X7 Q7
      obtain ⟨rfl, N7q, hh7⟩ := Q7
      have N7 := Fr.app N4 N7q
      show Go _ _ _ _ _ _ _ T7 (mkF m 138 #[.val (.ref a), .val (.int li), .val (.double dp), .second, .val (.double dq), .second, .val (.int lc), .val (.int cand), .val (.int (3 : Int32)), .val (.int (3 : Int32)), .val (.int (4 : Int32)), .val (.int (fT 3)), .val (.int (3 : Int32))] [(.int (lowW fP fQ fC cand (fT 3) (3 : Int32)))])
      refine Go.step (fun _ k => XS.ifYes X7.here hx rfl (pc0 := 138) (pc' := 154) rfl (hb hby d7_138) rfl ((if0 _ _).trans (teq hc100_5).1) (by decide) (by decide) k) ?_
      show Go _ _ _ _ _ _ _ T7 (mkF m 154 #[.val (.ref a), .val (.int li), .val (.double dp), .second, .val (.double dq), .second, .val (.int lc), .val (.int cand), .val (.int (3 : Int32)), .val (.int (3 : Int32)), .val (.int (4 : Int32)), .val (.int (fT 3)), .val (.int (3 : Int32))] [])
      refine Go.step (fun _ k => XS.aloadN X7.here hx rfl (hb hby d7_154) rfl rfl k) ?_
      refine Go.step (fun _ k => XS.iload X7.here hx rfl (hb hby d7_155) rfl k) ?_
      refine Go.step (fun _ k => XS.aloadN X7.here hx rfl (hb hby d7_157) rfl rfl k) ?_
      show Go _ _ _ _ _ _ _ T7 (mkF m 158 #[.val (.ref a), .val (.int li), .val (.double dp), .second, .val (.double dq), .second, .val (.int lc), .val (.int cand), .val (.int (3 : Int32)), .val (.int (3 : Int32)), .val (.int (4 : Int32)), .val (.int (fT 3)), .val (.int (3 : Int32))] [(.ref a), (.int cand), (.ref a)])
      obtain ⟨T8, X8, e8, st8⟩ := getF X7 hx hZ hown (host := "") (Or.inl (hw _ (mI 36 rfl))) Via.refl hh7 F_node_a_0 (g := (mkF m 158 #[.val (.ref a), .val (.int li), .val (.double dp), .second, .val (.double dq), .second, .val (.int lc), .val (.int cand), .val (.int (3 : Int32)), .val (.int (3 : Int32)), .val (.int (4 : Int32)), .val (.int (fT 3)), .val (.int (3 : Int32))] [(.ref a), (.int cand), (.ref a)])) rfl rfl (hb hby d7_158)
      refine Go.step st8 ?_
      show Go _ _ _ _ _ _ _ T8 (mkF m 161 #[.val (.ref a), .val (.int li), .val (.double dp), .second, .val (.double dq), .second, .val (.int lc), .val (.int cand), .val (.int (3 : Int32)), .val (.int (3 : Int32)), .val (.int (4 : Int32)), .val (.int (fT 3)), .val (.int (3 : Int32))] [(.ref xt), (.int cand), (.ref a)])
      refine Go.step (fun _ k => XS.iload X8.here hx rfl (hb hby d7_161) rfl k) ?_
      refine Go.iaload X8 hx hZ e8 V_xt_0 (j := (3 : Int32)) (v := (fT 3)) (by decide) rfl (hb hby d7_163) ?_
      show Go _ _ _ _ _ _ _ T8 (mkF m 164 #[.val (.ref a), .val (.int li), .val (.double dp), .second, .val (.double dq), .second, .val (.int lc), .val (.int cand), .val (.int (3 : Int32)), .val (.int (3 : Int32)), .val (.int (4 : Int32)), .val (.int (fT 3)), .val (.int (3 : Int32))] [(.int (fT 3)), (.int cand), (.ref a)])
      refine Go.step (fun _ k => XS.iload X8.here hx rfl (hb hby d7_164) rfl k) ?_
      refine Go.callP X8 hx hZ (by rw [hml]; rfl) (y := (⟨"com/example/headroom/headroom/LowerEnvelope", "lower", "(III)Z"⟩ : MethodName)) (a := a) (argsL := [(.int cand), (.int (fT 3)), (.int (4 : Int32))]) (rest := []) hown (hw _ (mI 57 rfl)) (hw _ (mI 58 rfl)) (hw _ (mI 1 rfl)) (hw _ (mI 59 rfl)) (hw _ (mI 2 rfl)) (hw _ (mI 60 rfl)) (by decide) (rm9 l Z a0 hw a xu xv xw fP fQ fC cand (fT 3) (4 : Int32) h0 n0 Z0 F_base_a_0 F_slope_a_0 F_origin_a_0 V_xu_0 V_xv_0 V_xw_0 hP hQ hC hcand (hR 3) (own_in (4 : Int32) (by decide))) e8 E_a_0 (hb hby d7_166) (lenOf pd_1 rfl) rfl rfl (W := 0) (Nat.le_of_eq rfl) (by decide) (by decide) (by decide) (by decide) ?_
      intro v9 T9 L9 X9 Q9
      obtain ⟨rfl, N9q, hh9⟩ := Q9
      have N9 := Fr.app N7 N9q
      show Go _ _ _ _ _ _ _ T9 (mkF m 169 #[.val (.ref a), .val (.int li), .val (.double dp), .second, .val (.double dq), .second, .val (.int lc), .val (.int cand), .val (.int (3 : Int32)), .val (.int (3 : Int32)), .val (.int (4 : Int32)), .val (.int (fT 3)), .val (.int (3 : Int32))] [(.int (lowW fP fQ fC cand (fT 3) (4 : Int32)))])
      by_cases hc169_10 : (lowW fP fQ fC cand (fT 3) (4 : Int32)) = (0 : Int32)
      · refine Go.step (fun _ k => XS.ifYes X9.here hx rfl (pc0 := 169) (pc' := 189) rfl (hb hby d7_169) rfl ((if0 _ _).trans (teq hc169_10).1) (by decide) (by decide) k) ?_
        show Go _ _ _ _ _ _ _ T9 (mkF m 189 #[.val (.ref a), .val (.int li), .val (.double dp), .second, .val (.double dq), .second, .val (.int lc), .val (.int cand), .val (.int (3 : Int32)), .val (.int (3 : Int32)), .val (.int (4 : Int32)), .val (.int (fT 3)), .val (.int (3 : Int32))] [])
        refine Go.retV X9 hx hlk hret (hb hby d7_189) (by decide) (by decide) ?_
        try rw [hh9]
        exact ⟨rfl, N9, (Kh.trans ((Keep.refl h0 [a, xn, xo, xu, xv, xw, xt, xm]) : Keep h0 h0 [a, xn, xo, xu, xv, xw, xt, xm]) (fun y hy => Or.inl hy)), _, _, _, nn, ⟨E_a_0, F_changedNode_a_0, F_changedLine_a_0, F_base_a_0, F_slope_a_0, F_origin_a_0, F_node_a_0, F_pushedAt_a_0, F_width_a_0, F_pushes_a_0, F_changes_a_0, V_xn_0, V_xo_0, V_xu_0, V_xv_0, V_xw_0, V_xt_0, V_xm_0⟩, hG, by omega⟩
      · refine Go.step (fun _ k => XS.ifNo X9.here hx rfl (hb hby d7_169) rfl ((if0 _ _).trans (feq hc169_10).1) k) ?_
        show Go _ _ _ _ _ _ _ T9 (mkF m 172 #[.val (.ref a), .val (.int li), .val (.double dp), .second, .val (.double dq), .second, .val (.int lc), .val (.int cand), .val (.int (3 : Int32)), .val (.int (3 : Int32)), .val (.int (4 : Int32)), .val (.int (fT 3)), .val (.int (3 : Int32))] [])
        refine Go.step (fun _ k => XS.iconst X9.here hx rfl (hb hby d7_172) k) ?_
        refine Go.step (fun _ k => XS.iload X9.here hx rfl (hb hby d7_173) rfl k) ?_
        refine Go.step (fun _ k => XS.imul X9.here hx rfl (hb hby d7_175) rfl k) ?_
        show Go _ _ _ _ _ _ _ T9 (mkF m 176 #[.val (.ref a), .val (.int li), .val (.double dp), .second, .val (.double dq), .second, .val (.int lc), .val (.int cand), .val (.int (3 : Int32)), .val (.int (3 : Int32)), .val (.int (4 : Int32)), .val (.int (fT 3)), .val (.int (3 : Int32))] [(.int (6 : Int32))])
        refine Go.step (fun _ k => XS.iconst X9.here hx rfl (hb hby d7_176) k) ?_
        refine Go.step (fun _ k => XS.iadd X9.here hx rfl (hb hby d7_177) rfl k) ?_
        show Go _ _ _ _ _ _ _ T9 (mkF m 178 #[.val (.ref a), .val (.int li), .val (.double dp), .second, .val (.double dq), .second, .val (.int lc), .val (.int cand), .val (.int (3 : Int32)), .val (.int (3 : Int32)), .val (.int (4 : Int32)), .val (.int (fT 3)), .val (.int (3 : Int32))] [(.int (7 : Int32))])
        refine Go.step (fun _ k => XS.istore X9.here hx rfl (hb hby d7_178) rfl (l' := #[.val (.ref a), .val (.int li), .val (.double dp), .second, .val (.double dq), .second, .val (.int lc), .val (.int cand), .val (.int (7 : Int32)), .val (.int (3 : Int32)), .val (.int (4 : Int32)), .val (.int (fT 3)), .val (.int (3 : Int32))]) rfl k) ?_
        show Go _ _ _ _ _ _ _ T9 (mkF m 180 #[.val (.ref a), .val (.int li), .val (.double dp), .second, .val (.double dq), .second, .val (.int lc), .val (.int cand), .val (.int (7 : Int32)), .val (.int (3 : Int32)), .val (.int (4 : Int32)), .val (.int (fT 3)), .val (.int (3 : Int32))] [])
        refine Go.step (fun _ k => XS.iload X9.here hx rfl (hb hby d7_180) rfl k) ?_
        refine Go.step (fun _ k => XS.iconst X9.here hx rfl (hb hby d7_182) k) ?_
        refine Go.step (fun _ k => XS.iadd X9.here hx rfl (hb hby d7_183) rfl k) ?_
        show Go _ _ _ _ _ _ _ T9 (mkF m 184 #[.val (.ref a), .val (.int li), .val (.double dp), .second, .val (.double dq), .second, .val (.int lc), .val (.int cand), .val (.int (7 : Int32)), .val (.int (3 : Int32)), .val (.int (4 : Int32)), .val (.int (fT 3)), .val (.int (3 : Int32))] [(.int (4 : Int32))])
        refine Go.step (fun _ k => XS.istore X9.here hx rfl (hb hby d7_184) rfl (l' := #[.val (.ref a), .val (.int li), .val (.double dp), .second, .val (.double dq), .second, .val (.int lc), .val (.int cand), .val (.int (7 : Int32)), .val (.int (4 : Int32)), .val (.int (4 : Int32)), .val (.int (fT 3)), .val (.int (3 : Int32))]) rfl k) ?_
        show Go _ _ _ _ _ _ _ T9 (mkF m 186 #[.val (.ref a), .val (.int li), .val (.double dp), .second, .val (.double dq), .second, .val (.int lc), .val (.int cand), .val (.int (7 : Int32)), .val (.int (4 : Int32)), .val (.int (4 : Int32)), .val (.int (fT 3)), .val (.int (3 : Int32))] [])
        refine Go.step (fun _ k => XS.goto X9.here hx rfl (pc0 := 186) (pc' := 190) rfl (hb hby d7_186) (by decide) (by decide) k) ?_
        show Go _ _ _ _ _ _ _ T9 (mkF m 190 #[.val (.ref a), .val (.int li), .val (.double dp), .second, .val (.double dq), .second, .val (.int lc), .val (.int cand), .val (.int (7 : Int32)), .val (.int (4 : Int32)), .val (.int (4 : Int32)), .val (.int (fT 3)), .val (.int (3 : Int32))] [])
        refine Go.step (fun _ k => XS.goto X9.here hx rfl (pc0 := 190) (pc' := 58) rfl (hb hby d7_190) (by decide) (by decide) k) ?_
        show Go _ _ _ _ _ _ _ T9 (mkF m 58 #[.val (.ref a), .val (.int li), .val (.double dp), .second, .val (.double dq), .second, .val (.int lc), .val (.int cand), .val (.int (7 : Int32)), .val (.int (4 : Int32)), .val (.int (4 : Int32)), .val (.int (fT 3)), .val (.int (3 : Int32))] [])
        exact wL2 hh a xn xo xu xv xw xt xm fP fQ fC fT fM fN fO tT tN tO sg nn li dp dq lc cand (7 : Int32) (4 : Int32) (4 : Int32) (fT 3) (3 : Int32) X9 hx hZ hw hby hml hown hnm hret hlk hh9 Z0 N9 ⟨E_a_0, F_changedNode_a_0, F_changedLine_a_0, F_base_a_0, F_slope_a_0, F_origin_a_0, F_node_a_0, F_pushedAt_a_0, F_width_a_0, F_pushes_a_0, F_changes_a_0, V_xn_0, V_xo_0, V_xu_0, V_xv_0, V_xw_0, V_xt_0, V_xm_0⟩ hD hG (Kh.trans ((Keep.refl h0 [a, xn, xo, xu, xv, xw, xt, xm]) : Keep h0 h0 [a, xn, xo, xu, xv, xw, xt, xm]) (fun y hy => Or.inl hy)) hsg (by omega) (by decide) (show fT 7 = (0 : Int32) from hLf.2.2.2)
    · refine Go.step (fun _ k => XS.ifNo X4.here hx rfl (hb hby d7_100) rfl ((if0 _ _).trans (feq hc100_5).1) k) ?_
      refine Go.step (fun _ k => XS.aloadN X4.here hx rfl (hb hby d7_103) rfl rfl k) ?_
      refine Go.step (fun _ k => XS.iload X4.here hx rfl (hb hby d7_104) rfl k) ?_
      show Go _ _ _ _ _ _ _ T4 (mkF m 106 #[.val (.ref a), .val (.int li), .val (.double dp), .second, .val (.double dq), .second, .val (.int lc), .val (.int cand), .val (.int (3 : Int32)), .val (.int (3 : Int32)), .val (.int (4 : Int32)), .val (.int (fT 3)), .val (.int (3 : Int32))] [(.int (3 : Int32)), (.ref a)])
      refine Go.step (fun _ k => XS.iload X4.here hx rfl (hb hby d7_106) rfl k) ?_
      refine Go.callP X4 hx hZ (by rw [hml]; rfl) (y := (⟨"com/example/headroom/headroom/LowerEnvelope", "write", "(II)V"⟩ : MethodName)) (a := a) (argsL := [(.int (3 : Int32)), (.int cand)]) (rest := []) hown (hw _ (mI 53 rfl)) (hw _ (mI 54 rfl)) (hw _ (mI 1 rfl)) (hw _ (mI 55 rfl)) (hw _ (mI 2 rfl)) (hw _ (mI 56 rfl)) (by decide) (rm8 l Z a0 hw a xn xo xu xv xw xt xm fP fQ fC fT fM fN fO 3 (sg + nn) (3 : Int32) cand h0 n0 Z0 ⟨E_a_0, F_changedNode_a_0, F_changedLine_a_0, F_base_a_0, F_slope_a_0, F_origin_a_0, F_node_a_0, F_pushedAt_a_0, F_width_a_0, F_pushes_a_0, F_changes_a_0, V_xn_0, V_xo_0, V_xu_0, V_xv_0, V_xw_0, V_xt_0, V_xm_0⟩ hD (by decide) (by omega)) hh4 E_a_0 (hb hby d7_108) (lenOf pd_0 rfl) rfl rfl (W := 0) (Nat.le_of_eq rfl) (by decide) (by decide) (by decide) (by decide) ?_
      intro v11 T11 L11 X11 Q11
      obtain ⟨rfl, N11q, Kc11, hL11⟩ := Q11
      have N11 := Fr.app N4 N11q
      have E_a_11 := E_a_0.keep Kc11
      have KK11 : Keep h0 T11.heap [a, xn, xo, xu, xv, xw, xt, xm] := ((Keep.refl h0 [a, xn, xo, xu, xv, xw, xt, xm]) : Keep h0 h0 [a, xn, xo, xu, xv, xw, xt, xm]).trans Kc11 (allS (Or.inl (List.mem_of_getElem? (i := 0) rfl)) (allS (Or.inl (List.mem_of_getElem? (i := 1) rfl)) (allS (Or.inl (List.mem_of_getElem? (i := 2) rfl)) (allS (Or.inl (List.mem_of_getElem? (i := 3) rfl)) (allS (Or.inl (List.mem_of_getElem? (i := 4) rfl)) (allS (Or.inl (List.mem_of_getElem? (i := 5) rfl)) (allS (Or.inl (List.mem_of_getElem? (i := 6) rfl)) (allS (Or.inl (List.mem_of_getElem? (i := 7) rfl)) all0))))))))
      have hL11x : LEs Z T11.heap a xn xo xu xv xw xt xm fP fQ fC (updN fT 3 cand) fM (updN fN (sg + nn) (3 : Int32)) (updN fO (sg + nn) (fT 3)) 3 (sg + (nn + 1)) := hL11
      have hG11 := Good.write hG (k := (3 : Int32)) (by decide) cand
      obtain ⟨E_a_11, F_changedNode_a_11, F_changedLine_a_11, F_base_a_11, F_slope_a_11, F_origin_a_11, F_node_a_11, F_pushedAt_a_11, F_width_a_11, F_pushes_a_11, F_changes_a_11, V_xn_11, V_xo_11, V_xu_11, V_xv_11, V_xw_11, V_xt_11, V_xm_11⟩ := hL11x
      show Go _ _ _ _ _ _ _ T11 (mkF m 111 #[.val (.ref a), .val (.int li), .val (.double dp), .second, .val (.double dq), .second, .val (.int lc), .val (.int cand), .val (.int (3 : Int32)), .val (.int (3 : Int32)), .val (.int (4 : Int32)), .val (.int (fT 3)), .val (.int (3 : Int32))] [])
      refine Go.step (fun _ k => XS.iload X11.here hx rfl (hb hby d7_111) rfl k) ?_
      refine Go.step (fun _ k => XS.istore X11.here hx rfl (hb hby d7_113) rfl (l' := #[.val (.ref a), .val (.int li), .val (.double dp), .second, .val (.double dq), .second, .val (.int lc), .val (.int (fT 3)), .val (.int (3 : Int32)), .val (.int (3 : Int32)), .val (.int (4 : Int32)), .val (.int (fT 3)), .val (.int (3 : Int32))]) rfl k) ?_
      show Go _ _ _ _ _ _ _ T11 (mkF m 115 #[.val (.ref a), .val (.int li), .val (.double dp), .second, .val (.double dq), .second, .val (.int lc), .val (.int (fT 3)), .val (.int (3 : Int32)), .val (.int (3 : Int32)), .val (.int (4 : Int32)), .val (.int (fT 3)), .val (.int (3 : Int32))] [])
      refine Go.step (fun _ k => XS.iload X11.here hx rfl (hb hby d7_115) rfl k) ?_
      refine Go.step (fun _ k => XS.iload X11.here hx rfl (hb hby d7_117) rfl k) ?_
      refine Go.step (fun _ k => XS.icmpYes X11.here hx rfl (pc0 := 119) (pc' := 123) rfl (hb hby d7_119) rfl (feq (by decide : ¬ ((3 : Int32) = (4 : Int32)))).2 (by decide) (by decide) k) ?_
      show Go _ _ _ _ _ _ _ T11 (mkF m 123 #[.val (.ref a), .val (.int li), .val (.double dp), .second, .val (.double dq), .second, .val (.int lc), .val (.int (fT 3)), .val (.int (3 : Int32)), .val (.int (3 : Int32)), .val (.int (4 : Int32)), .val (.int (fT 3)), .val (.int (3 : Int32))] [])
      refine Go.step (fun _ k => XS.aloadN X11.here hx rfl (hb hby d7_123) rfl rfl k) ?_
      refine Go.step (fun _ k => XS.iload X11.here hx rfl (hb hby d7_124) rfl k) ?_
      refine Go.step (fun _ k => XS.aloadN X11.here hx rfl (hb hby d7_126) rfl rfl k) ?_
      show Go _ _ _ _ _ _ _ T11 (mkF m 127 #[.val (.ref a), .val (.int li), .val (.double dp), .second, .val (.double dq), .second, .val (.int lc), .val (.int (fT 3)), .val (.int (3 : Int32)), .val (.int (3 : Int32)), .val (.int (4 : Int32)), .val (.int (fT 3)), .val (.int (3 : Int32))] [(.ref a), (.int (fT 3)), (.ref a)])
      obtain ⟨T12, X12, e12, st12⟩ := getF X11 hx hZ hown (host := "") (Or.inl (hw _ (mI 36 rfl))) Via.refl rfl F_node_a_11 (g := (mkF m 127 #[.val (.ref a), .val (.int li), .val (.double dp), .second, .val (.double dq), .second, .val (.int lc), .val (.int (fT 3)), .val (.int (3 : Int32)), .val (.int (3 : Int32)), .val (.int (4 : Int32)), .val (.int (fT 3)), .val (.int (3 : Int32))] [(.ref a), (.int (fT 3)), (.ref a)])) rfl rfl (hb hby d7_127)
      refine Go.step st12 ?_
      show Go _ _ _ _ _ _ _ T12 (mkF m 130 #[.val (.ref a), .val (.int li), .val (.double dp), .second, .val (.double dq), .second, .val (.int lc), .val (.int (fT 3)), .val (.int (3 : Int32)), .val (.int (3 : Int32)), .val (.int (4 : Int32)), .val (.int (fT 3)), .val (.int (3 : Int32))] [(.ref xt), (.int (fT 3)), (.ref a)])
      refine Go.step (fun _ k => XS.iload X12.here hx rfl (hb hby d7_130) rfl k) ?_
      refine Go.iaload X12 hx hZ e12 V_xt_11 (j := (3 : Int32)) (v := cand) (by decide) rfl (hb hby d7_132) ?_
      show Go _ _ _ _ _ _ _ T12 (mkF m 133 #[.val (.ref a), .val (.int li), .val (.double dp), .second, .val (.double dq), .second, .val (.int lc), .val (.int (fT 3)), .val (.int (3 : Int32)), .val (.int (3 : Int32)), .val (.int (4 : Int32)), .val (.int (fT 3)), .val (.int (3 : Int32))] [(.int cand), (.int (fT 3)), (.ref a)])
      refine Go.step (fun _ k => XS.iload X12.here hx rfl (hb hby d7_133) rfl k) ?_
      refine Go.callP X12 hx hZ (by rw [hml]; rfl) (y := (⟨"com/example/headroom/headroom/LowerEnvelope", "lower", "(III)Z"⟩ : MethodName)) (a := a) (argsL := [(.int (fT 3)), (.int cand), (.int (3 : Int32))]) (rest := []) hown (hw _ (mI 57 rfl)) (hw _ (mI 58 rfl)) (hw _ (mI 1 rfl)) (hw _ (mI 59 rfl)) (hw _ (mI 2 rfl)) (hw _ (mI 60 rfl)) (by decide) (rm9 l Z a0 hw a xu xv xw fP fQ fC (fT 3) cand (3 : Int32) T11.heap n0 (Nat.le_trans Z0 (KK11 : Keep h0 T11.heap [a, xn, xo, xu, xv, xw, xt, xm]).1) F_base_a_11 F_slope_a_11 F_origin_a_11 V_xu_11 V_xv_11 V_xw_11 hP hQ hC (hR 3) hcand (own_in (3 : Int32) (by decide))) e12 E_a_11 (hb hby d7_135) (lenOf pd_1 rfl) rfl rfl (W := 0) (Nat.le_of_eq rfl) (by decide) (by decide) (by decide) (by decide) ?_
      intro v13 T13 L13 X13 Q13
      obtain ⟨rfl, N13q, hh13⟩ := Q13
      have N13 := Fr.app N11 N13q
      show Go _ _ _ _ _ _ _ T13 (mkF m 138 #[.val (.ref a), .val (.int li), .val (.double dp), .second, .val (.double dq), .second, .val (.int lc), .val (.int (fT 3)), .val (.int (3 : Int32)), .val (.int (3 : Int32)), .val (.int (4 : Int32)), .val (.int (fT 3)), .val (.int (3 : Int32))] [(.int (lowW fP fQ fC (fT 3) cand (3 : Int32)))])
      by_cases hc138_14 : (lowW fP fQ fC (fT 3) cand (3 : Int32)) = (0 : Int32)
      · refine Go.step (fun _ k => XS.ifYes X13.here hx rfl (pc0 := 138) (pc' := 154) rfl (hb hby d7_138) rfl ((if0 _ _).trans (teq hc138_14).1) (by decide) (by decide) k) ?_
        show Go _ _ _ _ _ _ _ T13 (mkF m 154 #[.val (.ref a), .val (.int li), .val (.double dp), .second, .val (.double dq), .second, .val (.int lc), .val (.int (fT 3)), .val (.int (3 : Int32)), .val (.int (3 : Int32)), .val (.int (4 : Int32)), .val (.int (fT 3)), .val (.int (3 : Int32))] [])
        refine Go.step (fun _ k => XS.aloadN X13.here hx rfl (hb hby d7_154) rfl rfl k) ?_
        refine Go.step (fun _ k => XS.iload X13.here hx rfl (hb hby d7_155) rfl k) ?_
        refine Go.step (fun _ k => XS.aloadN X13.here hx rfl (hb hby d7_157) rfl rfl k) ?_
        show Go _ _ _ _ _ _ _ T13 (mkF m 158 #[.val (.ref a), .val (.int li), .val (.double dp), .second, .val (.double dq), .second, .val (.int lc), .val (.int (fT 3)), .val (.int (3 : Int32)), .val (.int (3 : Int32)), .val (.int (4 : Int32)), .val (.int (fT 3)), .val (.int (3 : Int32))] [(.ref a), (.int (fT 3)), (.ref a)])
        obtain ⟨T15, X15, e15, st15⟩ := getF X13 hx hZ hown (host := "") (Or.inl (hw _ (mI 36 rfl))) Via.refl hh13 F_node_a_11 (g := (mkF m 158 #[.val (.ref a), .val (.int li), .val (.double dp), .second, .val (.double dq), .second, .val (.int lc), .val (.int (fT 3)), .val (.int (3 : Int32)), .val (.int (3 : Int32)), .val (.int (4 : Int32)), .val (.int (fT 3)), .val (.int (3 : Int32))] [(.ref a), (.int (fT 3)), (.ref a)])) rfl rfl (hb hby d7_158)
        refine Go.step st15 ?_
        show Go _ _ _ _ _ _ _ T15 (mkF m 161 #[.val (.ref a), .val (.int li), .val (.double dp), .second, .val (.double dq), .second, .val (.int lc), .val (.int (fT 3)), .val (.int (3 : Int32)), .val (.int (3 : Int32)), .val (.int (4 : Int32)), .val (.int (fT 3)), .val (.int (3 : Int32))] [(.ref xt), (.int (fT 3)), (.ref a)])
        refine Go.step (fun _ k => XS.iload X15.here hx rfl (hb hby d7_161) rfl k) ?_
        refine Go.iaload X15 hx hZ e15 V_xt_11 (j := (3 : Int32)) (v := cand) (by decide) rfl (hb hby d7_163) ?_
        show Go _ _ _ _ _ _ _ T15 (mkF m 164 #[.val (.ref a), .val (.int li), .val (.double dp), .second, .val (.double dq), .second, .val (.int lc), .val (.int (fT 3)), .val (.int (3 : Int32)), .val (.int (3 : Int32)), .val (.int (4 : Int32)), .val (.int (fT 3)), .val (.int (3 : Int32))] [(.int cand), (.int (fT 3)), (.ref a)])
        refine Go.step (fun _ k => XS.iload X15.here hx rfl (hb hby d7_164) rfl k) ?_
        refine Go.callP X15 hx hZ (by rw [hml]; rfl) (y := (⟨"com/example/headroom/headroom/LowerEnvelope", "lower", "(III)Z"⟩ : MethodName)) (a := a) (argsL := [(.int (fT 3)), (.int cand), (.int (4 : Int32))]) (rest := []) hown (hw _ (mI 57 rfl)) (hw _ (mI 58 rfl)) (hw _ (mI 1 rfl)) (hw _ (mI 59 rfl)) (hw _ (mI 2 rfl)) (hw _ (mI 60 rfl)) (by decide) (rm9 l Z a0 hw a xu xv xw fP fQ fC (fT 3) cand (4 : Int32) T11.heap n0 (Nat.le_trans Z0 (KK11 : Keep h0 T11.heap [a, xn, xo, xu, xv, xw, xt, xm]).1) F_base_a_11 F_slope_a_11 F_origin_a_11 V_xu_11 V_xv_11 V_xw_11 hP hQ hC (hR 3) hcand (own_in (4 : Int32) (by decide))) e15 E_a_11 (hb hby d7_166) (lenOf pd_1 rfl) rfl rfl (W := 0) (Nat.le_of_eq rfl) (by decide) (by decide) (by decide) (by decide) ?_
        intro v16 T16 L16 X16 Q16
        obtain ⟨rfl, N16q, hh16⟩ := Q16
        have N16 := Fr.app N13 N16q
        show Go _ _ _ _ _ _ _ T16 (mkF m 169 #[.val (.ref a), .val (.int li), .val (.double dp), .second, .val (.double dq), .second, .val (.int lc), .val (.int (fT 3)), .val (.int (3 : Int32)), .val (.int (3 : Int32)), .val (.int (4 : Int32)), .val (.int (fT 3)), .val (.int (3 : Int32))] [(.int (lowW fP fQ fC (fT 3) cand (4 : Int32)))])
        by_cases hc169_17 : (lowW fP fQ fC (fT 3) cand (4 : Int32)) = (0 : Int32)
        · refine Go.step (fun _ k => XS.ifYes X16.here hx rfl (pc0 := 169) (pc' := 189) rfl (hb hby d7_169) rfl ((if0 _ _).trans (teq hc169_17).1) (by decide) (by decide) k) ?_
          show Go _ _ _ _ _ _ _ T16 (mkF m 189 #[.val (.ref a), .val (.int li), .val (.double dp), .second, .val (.double dq), .second, .val (.int lc), .val (.int (fT 3)), .val (.int (3 : Int32)), .val (.int (3 : Int32)), .val (.int (4 : Int32)), .val (.int (fT 3)), .val (.int (3 : Int32))] [])
          refine Go.retV X16 hx hlk hret (hb hby d7_189) (by decide) (by decide) ?_
          try rw [hh16]
          exact ⟨rfl, N16, (Kh.trans (KK11 : Keep h0 T11.heap [a, xn, xo, xu, xv, xw, xt, xm]) (fun y hy => Or.inl hy)), _, _, _, (nn + 1), ⟨E_a_11, F_changedNode_a_11, F_changedLine_a_11, F_base_a_11, F_slope_a_11, F_origin_a_11, F_node_a_11, F_pushedAt_a_11, F_width_a_11, F_pushes_a_11, F_changes_a_11, V_xn_11, V_xo_11, V_xu_11, V_xv_11, V_xw_11, V_xt_11, V_xm_11⟩, hG11, by omega⟩
        · refine Go.step (fun _ k => XS.ifNo X16.here hx rfl (hb hby d7_169) rfl ((if0 _ _).trans (feq hc169_17).1) k) ?_
          show Go _ _ _ _ _ _ _ T16 (mkF m 172 #[.val (.ref a), .val (.int li), .val (.double dp), .second, .val (.double dq), .second, .val (.int lc), .val (.int (fT 3)), .val (.int (3 : Int32)), .val (.int (3 : Int32)), .val (.int (4 : Int32)), .val (.int (fT 3)), .val (.int (3 : Int32))] [])
          refine Go.step (fun _ k => XS.iconst X16.here hx rfl (hb hby d7_172) k) ?_
          refine Go.step (fun _ k => XS.iload X16.here hx rfl (hb hby d7_173) rfl k) ?_
          refine Go.step (fun _ k => XS.imul X16.here hx rfl (hb hby d7_175) rfl k) ?_
          show Go _ _ _ _ _ _ _ T16 (mkF m 176 #[.val (.ref a), .val (.int li), .val (.double dp), .second, .val (.double dq), .second, .val (.int lc), .val (.int (fT 3)), .val (.int (3 : Int32)), .val (.int (3 : Int32)), .val (.int (4 : Int32)), .val (.int (fT 3)), .val (.int (3 : Int32))] [(.int (6 : Int32))])
          refine Go.step (fun _ k => XS.iconst X16.here hx rfl (hb hby d7_176) k) ?_
          refine Go.step (fun _ k => XS.iadd X16.here hx rfl (hb hby d7_177) rfl k) ?_
          show Go _ _ _ _ _ _ _ T16 (mkF m 178 #[.val (.ref a), .val (.int li), .val (.double dp), .second, .val (.double dq), .second, .val (.int lc), .val (.int (fT 3)), .val (.int (3 : Int32)), .val (.int (3 : Int32)), .val (.int (4 : Int32)), .val (.int (fT 3)), .val (.int (3 : Int32))] [(.int (7 : Int32))])
          refine Go.step (fun _ k => XS.istore X16.here hx rfl (hb hby d7_178) rfl (l' := #[.val (.ref a), .val (.int li), .val (.double dp), .second, .val (.double dq), .second, .val (.int lc), .val (.int (fT 3)), .val (.int (7 : Int32)), .val (.int (3 : Int32)), .val (.int (4 : Int32)), .val (.int (fT 3)), .val (.int (3 : Int32))]) rfl k) ?_
          show Go _ _ _ _ _ _ _ T16 (mkF m 180 #[.val (.ref a), .val (.int li), .val (.double dp), .second, .val (.double dq), .second, .val (.int lc), .val (.int (fT 3)), .val (.int (7 : Int32)), .val (.int (3 : Int32)), .val (.int (4 : Int32)), .val (.int (fT 3)), .val (.int (3 : Int32))] [])
          refine Go.step (fun _ k => XS.iload X16.here hx rfl (hb hby d7_180) rfl k) ?_
          refine Go.step (fun _ k => XS.iconst X16.here hx rfl (hb hby d7_182) k) ?_
          refine Go.step (fun _ k => XS.iadd X16.here hx rfl (hb hby d7_183) rfl k) ?_
          show Go _ _ _ _ _ _ _ T16 (mkF m 184 #[.val (.ref a), .val (.int li), .val (.double dp), .second, .val (.double dq), .second, .val (.int lc), .val (.int (fT 3)), .val (.int (7 : Int32)), .val (.int (3 : Int32)), .val (.int (4 : Int32)), .val (.int (fT 3)), .val (.int (3 : Int32))] [(.int (4 : Int32))])
          refine Go.step (fun _ k => XS.istore X16.here hx rfl (hb hby d7_184) rfl (l' := #[.val (.ref a), .val (.int li), .val (.double dp), .second, .val (.double dq), .second, .val (.int lc), .val (.int (fT 3)), .val (.int (7 : Int32)), .val (.int (4 : Int32)), .val (.int (4 : Int32)), .val (.int (fT 3)), .val (.int (3 : Int32))]) rfl k) ?_
          show Go _ _ _ _ _ _ _ T16 (mkF m 186 #[.val (.ref a), .val (.int li), .val (.double dp), .second, .val (.double dq), .second, .val (.int lc), .val (.int (fT 3)), .val (.int (7 : Int32)), .val (.int (4 : Int32)), .val (.int (4 : Int32)), .val (.int (fT 3)), .val (.int (3 : Int32))] [])
          refine Go.step (fun _ k => XS.goto X16.here hx rfl (pc0 := 186) (pc' := 190) rfl (hb hby d7_186) (by decide) (by decide) k) ?_
          show Go _ _ _ _ _ _ _ T16 (mkF m 190 #[.val (.ref a), .val (.int li), .val (.double dp), .second, .val (.double dq), .second, .val (.int lc), .val (.int (fT 3)), .val (.int (7 : Int32)), .val (.int (4 : Int32)), .val (.int (4 : Int32)), .val (.int (fT 3)), .val (.int (3 : Int32))] [])
          refine Go.step (fun _ k => XS.goto X16.here hx rfl (pc0 := 190) (pc' := 58) rfl (hb hby d7_190) (by decide) (by decide) k) ?_
          show Go _ _ _ _ _ _ _ T16 (mkF m 58 #[.val (.ref a), .val (.int li), .val (.double dp), .second, .val (.double dq), .second, .val (.int lc), .val (.int (fT 3)), .val (.int (7 : Int32)), .val (.int (4 : Int32)), .val (.int (4 : Int32)), .val (.int (fT 3)), .val (.int (3 : Int32))] [])
          exact wL2 hh a xn xo xu xv xw xt xm fP fQ fC (updN fT 3 cand) fM (updN fN (sg + nn) (3 : Int32)) (updN fO (sg + nn) (fT 3)) tT tN tO sg (nn + 1) li dp dq lc (fT 3) (7 : Int32) (4 : Int32) (4 : Int32) (fT 3) (3 : Int32) X16 hx hZ hw hby hml hown hnm hret hlk hh16 (Nat.le_trans Z0 (KK11 : Keep h0 T11.heap [a, xn, xo, xu, xv, xw, xt, xm]).1) N16 ⟨E_a_11, F_changedNode_a_11, F_changedLine_a_11, F_base_a_11, F_slope_a_11, F_origin_a_11, F_node_a_11, F_pushedAt_a_11, F_width_a_11, F_pushes_a_11, F_changes_a_11, V_xn_11, V_xo_11, V_xu_11, V_xv_11, V_xw_11, V_xt_11, V_xm_11⟩ hD hG11 (Kh.trans (KK11 : Keep h0 T11.heap [a, xn, xo, xu, xv, xw, xt, xm]) (fun y hy => Or.inl hy)) hsg (by omega) (by decide) (show (updN fT 3 cand) 7 = (0 : Int32) from hLf.2.2.2)
      · refine Go.step (fun _ k => XS.ifNo X13.here hx rfl (hb hby d7_138) rfl ((if0 _ _).trans (feq hc138_14).1) k) ?_
        refine Go.step (fun _ k => XS.iconst X13.here hx rfl (hb hby d7_141) k) ?_
        refine Go.step (fun _ k => XS.iload X13.here hx rfl (hb hby d7_142) rfl k) ?_
        show Go _ _ _ _ _ _ _ T13 (mkF m 144 #[.val (.ref a), .val (.int li), .val (.double dp), .second, .val (.double dq), .second, .val (.int lc), .val (.int (fT 3)), .val (.int (3 : Int32)), .val (.int (3 : Int32)), .val (.int (4 : Int32)), .val (.int (fT 3)), .val (.int (3 : Int32))] [(.int (3 : Int32)), (.int (2 : Int32))])
        refine Go.step (fun _ k => XS.imul X13.here hx rfl (hb hby d7_144) rfl k) ?_
        show Go _ _ _ _ _ _ _ T13 (mkF m 145 #[.val (.ref a), .val (.int li), .val (.double dp), .second, .val (.double dq), .second, .val (.int lc), .val (.int (fT 3)), .val (.int (3 : Int32)), .val (.int (3 : Int32)), .val (.int (4 : Int32)), .val (.int (fT 3)), .val (.int (3 : Int32))] [(.int (6 : Int32))])
        refine Go.step (fun _ k => XS.istore X13.here hx rfl (hb hby d7_145) rfl (l' := #[.val (.ref a), .val (.int li), .val (.double dp), .second, .val (.double dq), .second, .val (.int lc), .val (.int (fT 3)), .val (.int (6 : Int32)), .val (.int (3 : Int32)), .val (.int (4 : Int32)), .val (.int (fT 3)), .val (.int (3 : Int32))]) rfl k) ?_
        show Go _ _ _ _ _ _ _ T13 (mkF m 147 #[.val (.ref a), .val (.int li), .val (.double dp), .second, .val (.double dq), .second, .val (.int lc), .val (.int (fT 3)), .val (.int (6 : Int32)), .val (.int (3 : Int32)), .val (.int (4 : Int32)), .val (.int (fT 3)), .val (.int (3 : Int32))] [])
        refine Go.step (fun _ k => XS.iload X13.here hx rfl (hb hby d7_147) rfl k) ?_
        refine Go.step (fun _ k => XS.istore X13.here hx rfl (hb hby d7_149) rfl (l' := #[.val (.ref a), .val (.int li), .val (.double dp), .second, .val (.double dq), .second, .val (.int lc), .val (.int (fT 3)), .val (.int (6 : Int32)), .val (.int (3 : Int32)), .val (.int (3 : Int32)), .val (.int (fT 3)), .val (.int (3 : Int32))]) rfl k) ?_
        show Go _ _ _ _ _ _ _ T13 (mkF m 151 #[.val (.ref a), .val (.int li), .val (.double dp), .second, .val (.double dq), .second, .val (.int lc), .val (.int (fT 3)), .val (.int (6 : Int32)), .val (.int (3 : Int32)), .val (.int (3 : Int32)), .val (.int (fT 3)), .val (.int (3 : Int32))] [])
        refine Go.step (fun _ k => XS.goto X13.here hx rfl (pc0 := 151) (pc' := 190) rfl (hb hby d7_151) (by decide) (by decide) k) ?_
        show Go _ _ _ _ _ _ _ T13 (mkF m 190 #[.val (.ref a), .val (.int li), .val (.double dp), .second, .val (.double dq), .second, .val (.int lc), .val (.int (fT 3)), .val (.int (6 : Int32)), .val (.int (3 : Int32)), .val (.int (3 : Int32)), .val (.int (fT 3)), .val (.int (3 : Int32))] [])
        refine Go.step (fun _ k => XS.goto X13.here hx rfl (pc0 := 190) (pc' := 58) rfl (hb hby d7_190) (by decide) (by decide) k) ?_
        show Go _ _ _ _ _ _ _ T13 (mkF m 58 #[.val (.ref a), .val (.int li), .val (.double dp), .second, .val (.double dq), .second, .val (.int lc), .val (.int (fT 3)), .val (.int (6 : Int32)), .val (.int (3 : Int32)), .val (.int (3 : Int32)), .val (.int (fT 3)), .val (.int (3 : Int32))] [])
        exact wL2 hh a xn xo xu xv xw xt xm fP fQ fC (updN fT 3 cand) fM (updN fN (sg + nn) (3 : Int32)) (updN fO (sg + nn) (fT 3)) tT tN tO sg (nn + 1) li dp dq lc (fT 3) (6 : Int32) (3 : Int32) (3 : Int32) (fT 3) (3 : Int32) X13 hx hZ hw hby hml hown hnm hret hlk hh13 (Nat.le_trans Z0 (KK11 : Keep h0 T11.heap [a, xn, xo, xu, xv, xw, xt, xm]).1) N13 ⟨E_a_11, F_changedNode_a_11, F_changedLine_a_11, F_base_a_11, F_slope_a_11, F_origin_a_11, F_node_a_11, F_pushedAt_a_11, F_width_a_11, F_pushes_a_11, F_changes_a_11, V_xn_11, V_xo_11, V_xu_11, V_xv_11, V_xw_11, V_xt_11, V_xm_11⟩ hD hG11 (Kh.trans (KK11 : Keep h0 T11.heap [a, xn, xo, xu, xv, xw, xt, xm]) (fun y hy => Or.inl hy)) hsg (by omega) (by decide) (show (updN fT 3 cand) 6 = (0 : Int32) from hLf.2.2.1)
theorem d7_0 : decode prog_15_method_2_code 0 = .ok (.aload_n 0, 1) := by decide +kernel
theorem d7_1 : decode prog_15_method_2_code 1 = .ok (.getfield 32, 3) := by decide +kernel
theorem d7_4 : decode prog_15_method_2_code 4 = .ok (.iload_n 1, 1) := by decide +kernel
theorem d7_5 : decode prog_15_method_2_code 5 = .ok (.dload_n 2, 1) := by decide +kernel
theorem d7_6 : decode prog_15_method_2_code 6 = .ok (.dastore, 1) := by decide +kernel
theorem d7_7 : decode prog_15_method_2_code 7 = .ok (.aload_n 0, 1) := by decide +kernel
theorem d7_8 : decode prog_15_method_2_code 8 = .ok (.getfield 36, 3) := by decide +kernel
theorem d7_11 : decode prog_15_method_2_code 11 = .ok (.iload_n 1, 1) := by decide +kernel
theorem d7_12 : decode prog_15_method_2_code 12 = .ok (.dload 4, 2) := by decide +kernel
theorem d7_14 : decode prog_15_method_2_code 14 = .ok (.dastore, 1) := by decide +kernel
theorem d7_15 : decode prog_15_method_2_code 15 = .ok (.aload_n 0, 1) := by decide +kernel
theorem d7_16 : decode prog_15_method_2_code 16 = .ok (.getfield 39, 3) := by decide +kernel
theorem d7_19 : decode prog_15_method_2_code 19 = .ok (.iload_n 1, 1) := by decide +kernel
theorem d7_20 : decode prog_15_method_2_code 20 = .ok (.iload 6, 2) := by decide +kernel
theorem d7_22 : decode prog_15_method_2_code 22 = .ok (.iastore, 1) := by decide +kernel
theorem d7_23 : decode prog_15_method_2_code 23 = .ok (.aload_n 0, 1) := by decide +kernel
theorem d7_24 : decode prog_15_method_2_code 24 = .ok (.getfield 45, 3) := by decide +kernel
theorem d7_27 : decode prog_15_method_2_code 27 = .ok (.aload_n 0, 1) := by decide +kernel
theorem d7_28 : decode prog_15_method_2_code 28 = .ok (.dup, 1) := by decide +kernel
theorem d7_29 : decode prog_15_method_2_code 29 = .ok (.getfield 48, 3) := by decide +kernel
theorem d7_32 : decode prog_15_method_2_code 32 = .ok (.dup_x1, 1) := by decide +kernel
theorem d7_33 : decode prog_15_method_2_code 33 = .ok (.iconst 1, 1) := by decide +kernel
theorem d7_34 : decode prog_15_method_2_code 34 = .ok (.iadd, 1) := by decide +kernel
theorem d7_35 : decode prog_15_method_2_code 35 = .ok (.putfield 48, 3) := by decide +kernel
theorem d7_38 : decode prog_15_method_2_code 38 = .ok (.aload_n 0, 1) := by decide +kernel
theorem d7_39 : decode prog_15_method_2_code 39 = .ok (.getfield 51, 3) := by decide +kernel
theorem d7_42 : decode prog_15_method_2_code 42 = .ok (.iastore, 1) := by decide +kernel
theorem d7_43 : decode prog_15_method_2_code 43 = .ok (.iload_n 1, 1) := by decide +kernel
theorem d7_44 : decode prog_15_method_2_code 44 = .ok (.istore 7, 2) := by decide +kernel
theorem d7_46 : decode prog_15_method_2_code 46 = .ok (.iconst 1, 1) := by decide +kernel
theorem d7_47 : decode prog_15_method_2_code 47 = .ok (.istore 8, 2) := by decide +kernel
theorem d7_49 : decode prog_15_method_2_code 49 = .ok (.iconst 1, 1) := by decide +kernel
theorem d7_50 : decode prog_15_method_2_code 50 = .ok (.istore 9, 2) := by decide +kernel
theorem d7_52 : decode prog_15_method_2_code 52 = .ok (.aload_n 0, 1) := by decide +kernel
theorem d7_53 : decode prog_15_method_2_code 53 = .ok (.getfield 28, 3) := by decide +kernel
theorem d7_56 : decode prog_15_method_2_code 56 = .ok (.istore 10, 2) := by decide +kernel
set_option maxRecDepth 65536 in
set_option maxHeartbeats 40000000 in
theorem w7C {p : Program} {l : Launch} {e : Env} {s : State} {m : MethodId} {args : Array Value} {below : List Frame} {meth : Method} {c_ : Code} {T0 : State} {locs : List Loc} {Z : State} {a0 : Array Value} {h0 : Heap} {n0 : Nat} (a xn xo xu xv xw xt xm : Addr) (fP fQ fC fM fN fO : Nat → Int32) (pp qq cc : Int32)
    (X0 : Stand p l e ({ frames := 1, cells := 0, slots := 0, locals := 24 } : Room) s m args below meth c_ T0 locs 0 0) (hx : p.tables.exec = Jvm.exec) (hZ : Z.Warmed39 s.vm) (hw : ∀ d ∈ tables_1, d.before a0 Z = true) (hby : c_.code = prog_15_method_2_code) (hml : c_.maxLocals = 13) (hown : s.vm.findClass "com/example/headroom/headroom/LowerEnvelope" = some m.cls) (hnm : meth.name = "push") (hret : meth.sig.returnType = none) (hlk : meth.locks = false) (e0 : T0.heap = h0) (Z0 : n0 ≤ h0.size) (N0 : Fr n0 locs) (hL : LEs Z h0 a xn xo xu xv xw xt xm fP fQ fC (fun _ => (0 : Int32)) fM fN fO 0 0) (hD : Dst n0 a xn xo xu xv xw xt xm) (hP : Sm fP) (hQ : Sm fQ) (hC : Sm fC) (hpp : -128 ≤ pp.toInt ∧ pp.toInt ≤ 127) (hqq : -128 ≤ qq.toInt ∧ qq.toInt ≤ 127) (hcc : -128 ≤ cc.toInt ∧ cc.toInt ≤ 127)  :
    Go p e below s ({ frames := 1, cells := 0, slots := 0, locals := 24 } : Room).cells ({ frames := 1, cells := 0, slots := 0, locals := 24 } : Room).slots (fun r h L => r = none ∧ Fr n0 L ∧ Keep h0 h [a, xn, xo, xu, xv, xw, xt, xm] ∧ LEs Z h a xn xo xu xv xw xt xm (updN fP 1 pp) (updN fQ 1 qq) (updN fC 1 cc) (updN (fun _ => (0 : Int32)) 1 (1 : Int32)) (updN fM 0 (0 : Int32)) (updN fN 0 (1 : Int32)) (updN fO 0 (0 : Int32)) 1 1) T0 (mkF m 0 #[.val (.ref a), .val (.int (1 : Int32)), .val (.double (FP.i2d pp)), .second, .val (.double (FP.i2d qq)), .second, .val (.int cc), .unset, .unset, .unset, .unset, .unset, .unset] []) := by
  have hDq := hD
  obtain ⟨ne_a_xn, ne_a_xo, ne_a_xu, ne_a_xv, ne_a_xw, ne_a_xt, ne_a_xm, ne_xn_xo, ne_xn_xu, ne_xn_xv, ne_xn_xw, ne_xn_xt, ne_xn_xm, ne_xo_xu, ne_xo_xv, ne_xo_xw, ne_xo_xt, ne_xo_xm, ne_xu_xv, ne_xu_xw, ne_xu_xt, ne_xu_xm, ne_xv_xw, ne_xv_xt, ne_xv_xm, ne_xw_xt, ne_xw_xm, ne_xt_xm, ge_a, ge_xn, ge_xo, ge_xu, ge_xv, ge_xw, ge_xt, ge_xm⟩ := hDq
  obtain ⟨E_a_0, F_changedNode_a_0, F_changedLine_a_0, F_base_a_0, F_slope_a_0, F_origin_a_0, F_node_a_0, F_pushedAt_a_0, F_width_a_0, F_pushes_a_0, F_changes_a_0, V_xn_0, V_xo_0, V_xu_0, V_xv_0, V_xw_0, V_xt_0, V_xm_0⟩ := hL
  show Go _ _ _ _ _ _ _ T0 (mkF m 0 #[.val (.ref a), .val (.int (1 : Int32)), .val (.double (FP.i2d pp)), .second, .val (.double (FP.i2d qq)), .second, .val (.int cc), .unset, .unset, .unset, .unset, .unset, .unset] [])
  refine Go.step (fun _ k => XS.aloadN X0.here hx rfl (hb hby d7_0) rfl rfl k) ?_
  obtain ⟨T1, X1, e1, st1⟩ := getF X0 hx hZ hown (host := "") (Or.inl (hw _ (mI 30 rfl))) Via.refl e0 F_base_a_0 (g := (mkF m 1 #[.val (.ref a), .val (.int (1 : Int32)), .val (.double (FP.i2d pp)), .second, .val (.double (FP.i2d qq)), .second, .val (.int cc), .unset, .unset, .unset, .unset, .unset, .unset] [(.ref a)])) rfl rfl (hb hby d7_1)
  refine Go.step st1 ?_
  show Go _ _ _ _ _ _ _ T1 (mkF m 4 #[.val (.ref a), .val (.int (1 : Int32)), .val (.double (FP.i2d pp)), .second, .val (.double (FP.i2d qq)), .second, .val (.int cc), .unset, .unset, .unset, .unset, .unset, .unset] [(.ref xu)])
  refine Go.step (fun _ k => XS.iloadN X1.here hx rfl (hb hby d7_4) rfl k) ?_
  refine Go.step (fun _ k => XS.dloadN X1.here hx rfl (hb hby d7_5) rfl k) ?_
  refine Go.dastore X1 hx hZ e1 V_xu_0 (j := (1 : Int32)) (x := (FP.i2d pp)) (by decide) (hb hby d7_6) ?_
  intro T2 h2 X2 e2 W2 Vn2
  have V_xu_2 : Dv Z h2 xu (5 : Int32) (updN (fun k => FP.i2d (fP k)) 1 (FP.i2d pp)) := Vn2
  have N2 := Fr.snoc X2 N0 ge_xu
  have E_a_2 := E_a_0.wr W2
  have F_changedNode_a_2 := F_changedNode_a_0.other W2 (Or.inl ne_a_xu)
  have F_changedLine_a_2 := F_changedLine_a_0.other W2 (Or.inl ne_a_xu)
  have F_base_a_2 := F_base_a_0.other W2 (Or.inl ne_a_xu)
  have F_slope_a_2 := F_slope_a_0.other W2 (Or.inl ne_a_xu)
  have F_origin_a_2 := F_origin_a_0.other W2 (Or.inl ne_a_xu)
  have F_node_a_2 := F_node_a_0.other W2 (Or.inl ne_a_xu)
  have F_pushedAt_a_2 := F_pushedAt_a_0.other W2 (Or.inl ne_a_xu)
  have F_width_a_2 := F_width_a_0.other W2 (Or.inl ne_a_xu)
  have F_pushes_a_2 := F_pushes_a_0.other W2 (Or.inl ne_a_xu)
  have F_changes_a_2 := F_changes_a_0.other W2 (Or.inl ne_a_xu)
  have V_xn_2 := V_xn_0.other W2 ne_xn_xu
  have V_xo_2 := V_xo_0.other W2 ne_xo_xu
  have V_xv_2 := V_xv_0.other W2 (Ne.symm ne_xu_xv)
  have V_xw_2 := V_xw_0.other W2 (Ne.symm ne_xu_xw)
  have V_xt_2 := V_xt_0.other W2 (Ne.symm ne_xu_xt)
  have V_xm_2 := V_xm_0.other W2 (Ne.symm ne_xu_xm)
  have K2 : Keep h0 h2 [a, xn, xo, xu, xv, xw, xt, xm] := (Keep.refl h0 [a, xn, xo, xu, xv, xw, xt, xm]).wr W2 (Or.inl (List.mem_of_getElem? (i := 3) rfl))
  show Go _ _ _ _ _ _ _ T2 (mkF m 7 #[.val (.ref a), .val (.int (1 : Int32)), .val (.double (FP.i2d pp)), .second, .val (.double (FP.i2d qq)), .second, .val (.int cc), .unset, .unset, .unset, .unset, .unset, .unset] [])
  refine Go.step (fun _ k => XS.aloadN X2.here hx rfl (hb hby d7_7) rfl rfl k) ?_
  obtain ⟨T3, X3, e3, st3⟩ := getF X2 hx hZ hown (host := "") (Or.inl (hw _ (mI 32 rfl))) Via.refl e2 F_slope_a_2 (g := (mkF m 8 #[.val (.ref a), .val (.int (1 : Int32)), .val (.double (FP.i2d pp)), .second, .val (.double (FP.i2d qq)), .second, .val (.int cc), .unset, .unset, .unset, .unset, .unset, .unset] [(.ref a)])) rfl rfl (hb hby d7_8)
  refine Go.step st3 ?_
  show Go _ _ _ _ _ _ _ T3 (mkF m 11 #[.val (.ref a), .val (.int (1 : Int32)), .val (.double (FP.i2d pp)), .second, .val (.double (FP.i2d qq)), .second, .val (.int cc), .unset, .unset, .unset, .unset, .unset, .unset] [(.ref xv)])
  refine Go.step (fun _ k => XS.iloadN X3.here hx rfl (hb hby d7_11) rfl k) ?_
  refine Go.step (fun _ k => XS.dload X3.here hx rfl (hb hby d7_12) rfl k) ?_
  refine Go.dastore X3 hx hZ e3 V_xv_2 (j := (1 : Int32)) (x := (FP.i2d qq)) (by decide) (hb hby d7_14) ?_
  intro T4 h4 X4 e4 W4 Vn4
  have V_xv_4 : Dv Z h4 xv (5 : Int32) (updN (fun k => FP.i2d (fQ k)) 1 (FP.i2d qq)) := Vn4
  have N4 := Fr.snoc X4 N2 ge_xv
  have E_a_4 := E_a_2.wr W4
  have F_changedNode_a_4 := F_changedNode_a_2.other W4 (Or.inl ne_a_xv)
  have F_changedLine_a_4 := F_changedLine_a_2.other W4 (Or.inl ne_a_xv)
  have F_base_a_4 := F_base_a_2.other W4 (Or.inl ne_a_xv)
  have F_slope_a_4 := F_slope_a_2.other W4 (Or.inl ne_a_xv)
  have F_origin_a_4 := F_origin_a_2.other W4 (Or.inl ne_a_xv)
  have F_node_a_4 := F_node_a_2.other W4 (Or.inl ne_a_xv)
  have F_pushedAt_a_4 := F_pushedAt_a_2.other W4 (Or.inl ne_a_xv)
  have F_width_a_4 := F_width_a_2.other W4 (Or.inl ne_a_xv)
  have F_pushes_a_4 := F_pushes_a_2.other W4 (Or.inl ne_a_xv)
  have F_changes_a_4 := F_changes_a_2.other W4 (Or.inl ne_a_xv)
  have V_xn_4 := V_xn_2.other W4 ne_xn_xv
  have V_xo_4 := V_xo_2.other W4 ne_xo_xv
  have V_xu_4 := V_xu_2.other W4 ne_xu_xv
  have V_xw_4 := V_xw_2.other W4 (Ne.symm ne_xv_xw)
  have V_xt_4 := V_xt_2.other W4 (Ne.symm ne_xv_xt)
  have V_xm_4 := V_xm_2.other W4 (Ne.symm ne_xv_xm)
  have K4 : Keep h0 h4 [a, xn, xo, xu, xv, xw, xt, xm] := K2.wr W4 (Or.inl (List.mem_of_getElem? (i := 4) rfl))
  show Go _ _ _ _ _ _ _ T4 (mkF m 15 #[.val (.ref a), .val (.int (1 : Int32)), .val (.double (FP.i2d pp)), .second, .val (.double (FP.i2d qq)), .second, .val (.int cc), .unset, .unset, .unset, .unset, .unset, .unset] [])
  refine Go.step (fun _ k => XS.aloadN X4.here hx rfl (hb hby d7_15) rfl rfl k) ?_
  obtain ⟨T5, X5, e5, st5⟩ := getF X4 hx hZ hown (host := "") (Or.inl (hw _ (mI 34 rfl))) Via.refl e4 F_origin_a_4 (g := (mkF m 16 #[.val (.ref a), .val (.int (1 : Int32)), .val (.double (FP.i2d pp)), .second, .val (.double (FP.i2d qq)), .second, .val (.int cc), .unset, .unset, .unset, .unset, .unset, .unset] [(.ref a)])) rfl rfl (hb hby d7_16)
  refine Go.step st5 ?_
  show Go _ _ _ _ _ _ _ T5 (mkF m 19 #[.val (.ref a), .val (.int (1 : Int32)), .val (.double (FP.i2d pp)), .second, .val (.double (FP.i2d qq)), .second, .val (.int cc), .unset, .unset, .unset, .unset, .unset, .unset] [(.ref xw)])
  refine Go.step (fun _ k => XS.iloadN X5.here hx rfl (hb hby d7_19) rfl k) ?_
  refine Go.step (fun _ k => XS.iload X5.here hx rfl (hb hby d7_20) rfl k) ?_
  refine Go.iastore X5 hx hZ e5 V_xw_4 (j := (1 : Int32)) (x := cc) (by decide) (hb hby d7_22) ?_
  intro T6 h6 X6 e6 W6 Vn6
  have V_xw_6 : Iv Z h6 xw (5 : Int32) (updN fC 1 cc) := Vn6
  have N6 := Fr.snoc X6 N4 ge_xw
  have E_a_6 := E_a_4.wr W6
  have F_changedNode_a_6 := F_changedNode_a_4.other W6 (Or.inl ne_a_xw)
  have F_changedLine_a_6 := F_changedLine_a_4.other W6 (Or.inl ne_a_xw)
  have F_base_a_6 := F_base_a_4.other W6 (Or.inl ne_a_xw)
  have F_slope_a_6 := F_slope_a_4.other W6 (Or.inl ne_a_xw)
  have F_origin_a_6 := F_origin_a_4.other W6 (Or.inl ne_a_xw)
  have F_node_a_6 := F_node_a_4.other W6 (Or.inl ne_a_xw)
  have F_pushedAt_a_6 := F_pushedAt_a_4.other W6 (Or.inl ne_a_xw)
  have F_width_a_6 := F_width_a_4.other W6 (Or.inl ne_a_xw)
  have F_pushes_a_6 := F_pushes_a_4.other W6 (Or.inl ne_a_xw)
  have F_changes_a_6 := F_changes_a_4.other W6 (Or.inl ne_a_xw)
  have V_xn_6 := V_xn_4.other W6 ne_xn_xw
  have V_xo_6 := V_xo_4.other W6 ne_xo_xw
  have V_xu_6 := V_xu_4.other W6 ne_xu_xw
  have V_xv_6 := V_xv_4.other W6 ne_xv_xw
  have V_xt_6 := V_xt_4.other W6 (Ne.symm ne_xw_xt)
  have V_xm_6 := V_xm_4.other W6 (Ne.symm ne_xw_xm)
  have K6 : Keep h0 h6 [a, xn, xo, xu, xv, xw, xt, xm] := K4.wr W6 (Or.inl (List.mem_of_getElem? (i := 5) rfl))
  show Go _ _ _ _ _ _ _ T6 (mkF m 23 #[.val (.ref a), .val (.int (1 : Int32)), .val (.double (FP.i2d pp)), .second, .val (.double (FP.i2d qq)), .second, .val (.int cc), .unset, .unset, .unset, .unset, .unset, .unset] [])
  refine Go.step (fun _ k => XS.aloadN X6.here hx rfl (hb hby d7_23) rfl rfl k) ?_
  obtain ⟨T7, X7, e7, st7⟩ := getF X6 hx hZ hown (host := "") (Or.inl (hw _ (mI 38 rfl))) Via.refl e6 F_pushedAt_a_6 (g := (mkF m 24 #[.val (.ref a), .val (.int (1 : Int32)), .val (.double (FP.i2d pp)), .second, .val (.double (FP.i2d qq)), .second, .val (.int cc), .unset, .unset, .unset, .unset, .unset, .unset] [(.ref a)])) rfl rfl (hb hby d7_24)
  refine Go.step st7 ?_
  show Go _ _ _ _ _ _ _ T7 (mkF m 27 #[.val (.ref a), .val (.int (1 : Int32)), .val (.double (FP.i2d pp)), .second, .val (.double (FP.i2d qq)), .second, .val (.int cc), .unset, .unset, .unset, .unset, .unset, .unset] [(.ref xm)])
  refine Go.step (fun _ k => XS.aloadN X7.here hx rfl (hb hby d7_27) rfl rfl k) ?_
  refine Go.step (fun _ k => XS.dup X7.here hx rfl (hb hby d7_28) rfl rfl k) ?_
  obtain ⟨T8, X8, e8, st8⟩ := getF X7 hx hZ hown (host := "") (Or.inl (hw _ (mI 49 rfl))) Via.refl e7 F_pushes_a_6 (g := (mkF m 29 #[.val (.ref a), .val (.int (1 : Int32)), .val (.double (FP.i2d pp)), .second, .val (.double (FP.i2d qq)), .second, .val (.int cc), .unset, .unset, .unset, .unset, .unset, .unset] [(.ref a), (.ref a), (.ref xm)])) rfl rfl (hb hby d7_29)
  refine Go.step st8 ?_
  show Go _ _ _ _ _ _ _ T8 (mkF m 32 #[.val (.ref a), .val (.int (1 : Int32)), .val (.double (FP.i2d pp)), .second, .val (.double (FP.i2d qq)), .second, .val (.int cc), .unset, .unset, .unset, .unset, .unset, .unset] [(.int (0 : Int32)), (.ref a), (.ref xm)])
  refine Go.step (fun _ k => XS.dupX1 X8.here hx rfl (hb hby d7_32) rfl rfl rfl k) ?_
  show Go _ _ _ _ _ _ _ T8 (mkF m 33 #[.val (.ref a), .val (.int (1 : Int32)), .val (.double (FP.i2d pp)), .second, .val (.double (FP.i2d qq)), .second, .val (.int cc), .unset, .unset, .unset, .unset, .unset, .unset] [(.int (0 : Int32)), (.ref a), (.int (0 : Int32)), (.ref xm)])
  refine Go.step (fun _ k => XS.iconst X8.here hx rfl (hb hby d7_33) k) ?_
  refine Go.step (fun _ k => XS.iadd X8.here hx rfl (hb hby d7_34) rfl k) ?_
  show Go _ _ _ _ _ _ _ T8 (mkF m 35 #[.val (.ref a), .val (.int (1 : Int32)), .val (.double (FP.i2d pp)), .second, .val (.double (FP.i2d qq)), .second, .val (.int cc), .unset, .unset, .unset, .unset, .unset, .unset] [(.int (1 : Int32)), (.ref a), (.int (0 : Int32)), (.ref xm)])
  obtain ⟨T9, h9, X9, e9, W9, st9⟩ := putF X8 hx hZ hown (host := "") (Or.inl (hw _ (mI 49 rfl))) Via.refl e8 F_pushes_a_6 E_a_6 (Or.inl (hw _ (mI 50 rfl))) (hw _ (mI 1 rfl)) (ty := .int) (by decide) rfl rfl (g := (mkF m 35 #[.val (.ref a), .val (.int (1 : Int32)), .val (.double (FP.i2d pp)), .second, .val (.double (FP.i2d qq)), .second, .val (.int cc), .unset, .unset, .unset, .unset, .unset, .unset] [(.int (1 : Int32)), (.ref a), (.int (0 : Int32)), (.ref xm)])) rfl rfl (hb hby d7_35)
  refine Go.step st9 ?_
  have N9 := Fr.snoc X9 N6 ge_a
  have F_pushes_a_9 := F_pushes_a_6.same W9
  have E_a_9 := E_a_6.wr W9
  have F_changedNode_a_9 := F_changedNode_a_6.other W9 (Or.inr (slot_ne (Or.inl (hw _ (mI 11 rfl))) (Or.inl (hw _ (mI 50 rfl))) (by decide) (t := (.array .int)) (t' := .int) (by decide) (by decide)))
  have F_changedLine_a_9 := F_changedLine_a_6.other W9 (Or.inr (slot_ne (Or.inl (hw _ (mI 13 rfl))) (Or.inl (hw _ (mI 50 rfl))) (by decide) (t := (.array .int)) (t' := .int) (by decide) (by decide)))
  have F_base_a_9 := F_base_a_6.other W9 (Or.inr (slot_ne (Or.inr (hw _ (mI 31 rfl))) (Or.inl (hw _ (mI 50 rfl))) (by decide) (t := (.array .double)) (t' := .int) (by decide) (by decide)))
  have F_slope_a_9 := F_slope_a_6.other W9 (Or.inr (slot_ne (Or.inr (hw _ (mI 33 rfl))) (Or.inl (hw _ (mI 50 rfl))) (by decide) (t := (.array .double)) (t' := .int) (by decide) (by decide)))
  have F_origin_a_9 := F_origin_a_6.other W9 (Or.inr (slot_ne (Or.inr (hw _ (mI 35 rfl))) (Or.inl (hw _ (mI 50 rfl))) (by decide) (t := (.array .int)) (t' := .int) (by decide) (by decide)))
  have F_node_a_9 := F_node_a_6.other W9 (Or.inr (slot_ne (Or.inr (hw _ (mI 37 rfl))) (Or.inl (hw _ (mI 50 rfl))) (by decide) (t := (.array .int)) (t' := .int) (by decide) (by decide)))
  have F_pushedAt_a_9 := F_pushedAt_a_6.other W9 (Or.inr (slot_ne (Or.inr (hw _ (mI 39 rfl))) (Or.inl (hw _ (mI 50 rfl))) (by decide) (t := (.array .int)) (t' := .int) (by decide) (by decide)))
  have F_width_a_9 := F_width_a_6.other W9 (Or.inr (slot_ne (Or.inr (hw _ (mI 28 rfl))) (Or.inl (hw _ (mI 50 rfl))) (by decide) (t := .int) (t' := .int) (by decide) (by decide)))
  have F_changes_a_9 := F_changes_a_6.other W9 (Or.inr (slot_ne (Or.inl (hw _ (mI 52 rfl))) (Or.inl (hw _ (mI 50 rfl))) (by decide) (t := .int) (t' := .int) (by decide) (by decide)))
  have V_xn_9 := V_xn_6.other W9 (Ne.symm ne_a_xn)
  have V_xo_9 := V_xo_6.other W9 (Ne.symm ne_a_xo)
  have V_xu_9 := V_xu_6.other W9 (Ne.symm ne_a_xu)
  have V_xv_9 := V_xv_6.other W9 (Ne.symm ne_a_xv)
  have V_xw_9 := V_xw_6.other W9 (Ne.symm ne_a_xw)
  have V_xt_9 := V_xt_6.other W9 (Ne.symm ne_a_xt)
  have V_xm_9 := V_xm_6.other W9 (Ne.symm ne_a_xm)
  have K9 : Keep h0 h9 [a, xn, xo, xu, xv, xw, xt, xm] := K6.wr W9 (Or.inl (List.mem_of_getElem? (i := 0) rfl))
  show Go _ _ _ _ _ _ _ T9 (mkF m 38 #[.val (.ref a), .val (.int (1 : Int32)), .val (.double (FP.i2d pp)), .second, .val (.double (FP.i2d qq)), .second, .val (.int cc), .unset, .unset, .unset, .unset, .unset, .unset] [(.int (0 : Int32)), (.ref xm)])
  refine Go.step (fun _ k => XS.aloadN X9.here hx rfl (hb hby d7_38) rfl rfl k) ?_
  obtain ⟨T10, X10, e10, st10⟩ := getF X9 hx hZ hown (host := "") (Or.inl (hw _ (mI 51 rfl))) Via.refl e9 F_changes_a_9 (g := (mkF m 39 #[.val (.ref a), .val (.int (1 : Int32)), .val (.double (FP.i2d pp)), .second, .val (.double (FP.i2d qq)), .second, .val (.int cc), .unset, .unset, .unset, .unset, .unset, .unset] [(.ref a), (.int (0 : Int32)), (.ref xm)])) rfl rfl (hb hby d7_39)
  refine Go.step st10 ?_
  show Go _ _ _ _ _ _ _ T10 (mkF m 42 #[.val (.ref a), .val (.int (1 : Int32)), .val (.double (FP.i2d pp)), .second, .val (.double (FP.i2d qq)), .second, .val (.int cc), .unset, .unset, .unset, .unset, .unset, .unset] [(.int (0 : Int32)), (.int (0 : Int32)), (.ref xm)])
  refine Go.iastore X10 hx hZ e10 V_xm_9 (j := (0 : Int32)) (x := (0 : Int32)) (by decide) (hb hby d7_42) ?_
  intro T11 h11 X11 e11 W11 Vn11
  have V_xm_11 : Iv Z h11 xm (4 : Int32) (updN fM 0 (0 : Int32)) := Vn11
  have N11 := Fr.snoc X11 N9 ge_xm
  have E_a_11 := E_a_9.wr W11
  have F_changedNode_a_11 := F_changedNode_a_9.other W11 (Or.inl ne_a_xm)
  have F_changedLine_a_11 := F_changedLine_a_9.other W11 (Or.inl ne_a_xm)
  have F_base_a_11 := F_base_a_9.other W11 (Or.inl ne_a_xm)
  have F_slope_a_11 := F_slope_a_9.other W11 (Or.inl ne_a_xm)
  have F_origin_a_11 := F_origin_a_9.other W11 (Or.inl ne_a_xm)
  have F_node_a_11 := F_node_a_9.other W11 (Or.inl ne_a_xm)
  have F_pushedAt_a_11 := F_pushedAt_a_9.other W11 (Or.inl ne_a_xm)
  have F_width_a_11 := F_width_a_9.other W11 (Or.inl ne_a_xm)
  have F_pushes_a_11 := F_pushes_a_9.other W11 (Or.inl ne_a_xm)
  have F_changes_a_11 := F_changes_a_9.other W11 (Or.inl ne_a_xm)
  have V_xn_11 := V_xn_9.other W11 ne_xn_xm
  have V_xo_11 := V_xo_9.other W11 ne_xo_xm
  have V_xu_11 := V_xu_9.other W11 ne_xu_xm
  have V_xv_11 := V_xv_9.other W11 ne_xv_xm
  have V_xw_11 := V_xw_9.other W11 ne_xw_xm
  have V_xt_11 := V_xt_9.other W11 ne_xt_xm
  have K11 : Keep h0 h11 [a, xn, xo, xu, xv, xw, xt, xm] := K9.wr W11 (Or.inl (List.mem_of_getElem? (i := 7) rfl))
  have u1 := own_updD (j := 1) V_xu_11
  have u2 := own_updD (j := 1) V_xv_11
  have hL43 : LEs Z h11 a xn xo xu xv xw xt xm (updN fP 1 pp) (updN fQ 1 qq) (updN fC 1 cc) (fun _ => (0 : Int32)) (updN fM 0 (0 : Int32)) fN fO 1 0 := ⟨E_a_11, F_changedNode_a_11, F_changedLine_a_11, F_base_a_11, F_slope_a_11, F_origin_a_11, F_node_a_11, F_pushedAt_a_11, F_width_a_11, F_pushes_a_11, F_changes_a_11, V_xn_11, V_xo_11, u1, u2, V_xw_11, V_xt_11, V_xm_11⟩
  obtain ⟨E_a_43, F_changedNode_a_43, F_changedLine_a_43, F_base_a_43, F_slope_a_43, F_origin_a_43, F_node_a_43, F_pushedAt_a_43, F_width_a_43, F_pushes_a_43, F_changes_a_43, V_xn_43, V_xo_43, V_xu_43, V_xv_43, V_xw_43, V_xt_43, V_xm_43⟩ := hL43
  have spp : Sm (updN fP 1 pp) := Sm.upd hP hpp 1
  have sqq : Sm (updN fQ 1 qq) := Sm.upd hQ hqq 1
  have scc : Sm (updN fC 1 cc) := Sm.upd hC hcc 1
  show Go _ _ _ _ _ _ _ T11 (mkF m 43 #[.val (.ref a), .val (.int (1 : Int32)), .val (.double (FP.i2d pp)), .second, .val (.double (FP.i2d qq)), .second, .val (.int cc), .unset, .unset, .unset, .unset, .unset, .unset] [])
  refine Go.step (fun _ k => XS.iloadN X11.here hx rfl (hb hby d7_43) rfl k) ?_
  refine Go.step (fun _ k => XS.istore X11.here hx rfl (hb hby d7_44) rfl (l' := #[.val (.ref a), .val (.int (1 : Int32)), .val (.double (FP.i2d pp)), .second, .val (.double (FP.i2d qq)), .second, .val (.int cc), .val (.int (1 : Int32)), .unset, .unset, .unset, .unset, .unset]) rfl k) ?_
  show Go _ _ _ _ _ _ _ T11 (mkF m 46 #[.val (.ref a), .val (.int (1 : Int32)), .val (.double (FP.i2d pp)), .second, .val (.double (FP.i2d qq)), .second, .val (.int cc), .val (.int (1 : Int32)), .unset, .unset, .unset, .unset, .unset] [])
  refine Go.step (fun _ k => XS.iconst X11.here hx rfl (hb hby d7_46) k) ?_
  refine Go.step (fun _ k => XS.istore X11.here hx rfl (hb hby d7_47) rfl (l' := #[.val (.ref a), .val (.int (1 : Int32)), .val (.double (FP.i2d pp)), .second, .val (.double (FP.i2d qq)), .second, .val (.int cc), .val (.int (1 : Int32)), .val (.int (1 : Int32)), .unset, .unset, .unset, .unset]) rfl k) ?_
  show Go _ _ _ _ _ _ _ T11 (mkF m 49 #[.val (.ref a), .val (.int (1 : Int32)), .val (.double (FP.i2d pp)), .second, .val (.double (FP.i2d qq)), .second, .val (.int cc), .val (.int (1 : Int32)), .val (.int (1 : Int32)), .unset, .unset, .unset, .unset] [])
  refine Go.step (fun _ k => XS.iconst X11.here hx rfl (hb hby d7_49) k) ?_
  refine Go.step (fun _ k => XS.istore X11.here hx rfl (hb hby d7_50) rfl (l' := #[.val (.ref a), .val (.int (1 : Int32)), .val (.double (FP.i2d pp)), .second, .val (.double (FP.i2d qq)), .second, .val (.int cc), .val (.int (1 : Int32)), .val (.int (1 : Int32)), .val (.int (1 : Int32)), .unset, .unset, .unset]) rfl k) ?_
  show Go _ _ _ _ _ _ _ T11 (mkF m 52 #[.val (.ref a), .val (.int (1 : Int32)), .val (.double (FP.i2d pp)), .second, .val (.double (FP.i2d qq)), .second, .val (.int cc), .val (.int (1 : Int32)), .val (.int (1 : Int32)), .val (.int (1 : Int32)), .unset, .unset, .unset] [])
  refine Go.step (fun _ k => XS.aloadN X11.here hx rfl (hb hby d7_52) rfl rfl k) ?_
  obtain ⟨T12, X12, e12, st12⟩ := getF X11 hx hZ hown (host := "") (Or.inl (hw _ (mI 27 rfl))) Via.refl e11 F_width_a_43 (g := (mkF m 53 #[.val (.ref a), .val (.int (1 : Int32)), .val (.double (FP.i2d pp)), .second, .val (.double (FP.i2d qq)), .second, .val (.int cc), .val (.int (1 : Int32)), .val (.int (1 : Int32)), .val (.int (1 : Int32)), .unset, .unset, .unset] [(.ref a)])) rfl rfl (hb hby d7_53)
  refine Go.step st12 ?_
  show Go _ _ _ _ _ _ _ T12 (mkF m 56 #[.val (.ref a), .val (.int (1 : Int32)), .val (.double (FP.i2d pp)), .second, .val (.double (FP.i2d qq)), .second, .val (.int cc), .val (.int (1 : Int32)), .val (.int (1 : Int32)), .val (.int (1 : Int32)), .unset, .unset, .unset] [(.int (4 : Int32))])
  refine Go.step (fun _ k => XS.istore X12.here hx rfl (hb hby d7_56) rfl (l' := #[.val (.ref a), .val (.int (1 : Int32)), .val (.double (FP.i2d pp)), .second, .val (.double (FP.i2d qq)), .second, .val (.int cc), .val (.int (1 : Int32)), .val (.int (1 : Int32)), .val (.int (1 : Int32)), .val (.int (4 : Int32)), .unset, .unset]) rfl k) ?_
  show Go _ _ _ _ _ _ _ T12 (mkF m 58 #[.val (.ref a), .val (.int (1 : Int32)), .val (.double (FP.i2d pp)), .second, .val (.double (FP.i2d qq)), .second, .val (.int cc), .val (.int (1 : Int32)), .val (.int (1 : Int32)), .val (.int (1 : Int32)), .val (.int (4 : Int32)), .unset, .unset] [])
  refine Go.step (fun _ k => XS.aloadN X12.here hx rfl (hb hby d7_58) rfl rfl k) ?_
  obtain ⟨T13, X13, e13, st13⟩ := getF X12 hx hZ hown (host := "") (Or.inl (hw _ (mI 36 rfl))) Via.refl e12 F_node_a_43 (g := (mkF m 59 #[.val (.ref a), .val (.int (1 : Int32)), .val (.double (FP.i2d pp)), .second, .val (.double (FP.i2d qq)), .second, .val (.int cc), .val (.int (1 : Int32)), .val (.int (1 : Int32)), .val (.int (1 : Int32)), .val (.int (4 : Int32)), .unset, .unset] [(.ref a)])) rfl rfl (hb hby d7_59)
  refine Go.step st13 ?_
  show Go _ _ _ _ _ _ _ T13 (mkF m 62 #[.val (.ref a), .val (.int (1 : Int32)), .val (.double (FP.i2d pp)), .second, .val (.double (FP.i2d qq)), .second, .val (.int cc), .val (.int (1 : Int32)), .val (.int (1 : Int32)), .val (.int (1 : Int32)), .val (.int (4 : Int32)), .unset, .unset] [(.ref xt)])
  refine Go.step (fun _ k => XS.iload X13.here hx rfl (hb hby d7_62) rfl k) ?_
  refine Go.iaload X13 hx hZ e13 V_xt_43 (j := (1 : Int32)) (v := (0 : Int32)) (by decide) rfl (hb hby d7_64) ?_
  show Go _ _ _ _ _ _ _ T13 (mkF m 65 #[.val (.ref a), .val (.int (1 : Int32)), .val (.double (FP.i2d pp)), .second, .val (.double (FP.i2d qq)), .second, .val (.int cc), .val (.int (1 : Int32)), .val (.int (1 : Int32)), .val (.int (1 : Int32)), .val (.int (4 : Int32)), .unset, .unset] [(.int (0 : Int32))])
  refine Go.step (fun _ k => XS.istore X13.here hx rfl (hb hby d7_65) rfl (l' := #[.val (.ref a), .val (.int (1 : Int32)), .val (.double (FP.i2d pp)), .second, .val (.double (FP.i2d qq)), .second, .val (.int cc), .val (.int (1 : Int32)), .val (.int (1 : Int32)), .val (.int (1 : Int32)), .val (.int (4 : Int32)), .val (.int (0 : Int32)), .unset]) rfl k) ?_
  show Go _ _ _ _ _ _ _ T13 (mkF m 67 #[.val (.ref a), .val (.int (1 : Int32)), .val (.double (FP.i2d pp)), .second, .val (.double (FP.i2d qq)), .second, .val (.int cc), .val (.int (1 : Int32)), .val (.int (1 : Int32)), .val (.int (1 : Int32)), .val (.int (4 : Int32)), .val (.int (0 : Int32)), .unset] [])
  refine Go.step (fun _ k => XS.iload X13.here hx rfl (hb hby d7_67) rfl k) ?_
  refine Go.step (fun _ k => XS.ifNo X13.here hx rfl (hb hby d7_69) rfl ((if0 _ _).trans (teq (by decide : (0 : Int32) = (0 : Int32))).2) k) ?_
  show Go _ _ _ _ _ _ _ T13 (mkF m 72 #[.val (.ref a), .val (.int (1 : Int32)), .val (.double (FP.i2d pp)), .second, .val (.double (FP.i2d qq)), .second, .val (.int cc), .val (.int (1 : Int32)), .val (.int (1 : Int32)), .val (.int (1 : Int32)), .val (.int (4 : Int32)), .val (.int (0 : Int32)), .unset] [])
  refine Go.step (fun _ k => XS.aloadN X13.here hx rfl (hb hby d7_72) rfl rfl k) ?_
  refine Go.step (fun _ k => XS.iload X13.here hx rfl (hb hby d7_73) rfl k) ?_
  refine Go.step (fun _ k => XS.iload X13.here hx rfl (hb hby d7_75) rfl k) ?_
  show Go _ _ _ _ _ _ _ T13 (mkF m 77 #[.val (.ref a), .val (.int (1 : Int32)), .val (.double (FP.i2d pp)), .second, .val (.double (FP.i2d qq)), .second, .val (.int cc), .val (.int (1 : Int32)), .val (.int (1 : Int32)), .val (.int (1 : Int32)), .val (.int (4 : Int32)), .val (.int (0 : Int32)), .unset] [(.int (1 : Int32)), (.int (1 : Int32)), (.ref a)])
  refine Go.callP X13 hx hZ (by rw [hml]; rfl) (y := (⟨"com/example/headroom/headroom/LowerEnvelope", "write", "(II)V"⟩ : MethodName)) (a := a) (argsL := [(.int (1 : Int32)), (.int (1 : Int32))]) (rest := []) hown (hw _ (mI 53 rfl)) (hw _ (mI 54 rfl)) (hw _ (mI 1 rfl)) (hw _ (mI 55 rfl)) (hw _ (mI 2 rfl)) (hw _ (mI 56 rfl)) (by decide) (rm8 l Z a0 hw a xn xo xu xv xw xt xm (updN fP 1 pp) (updN fQ 1 qq) (updN fC 1 cc) (fun _ => (0 : Int32)) (updN fM 0 (0 : Int32)) fN fO 1 0 (1 : Int32) (1 : Int32) h11 n0 (Nat.le_trans Z0 (K11 : Keep h0 h11 [a, xn, xo, xu, xv, xw, xt, xm]).1) ⟨E_a_43, F_changedNode_a_43, F_changedLine_a_43, F_base_a_43, F_slope_a_43, F_origin_a_43, F_node_a_43, F_pushedAt_a_43, F_width_a_43, F_pushes_a_43, F_changes_a_43, V_xn_43, V_xo_43, V_xu_43, V_xv_43, V_xw_43, V_xt_43, V_xm_43⟩ hD (by decide) (by omega)) e13 E_a_43 (hb hby d7_77) (lenOf pd_0 rfl) rfl rfl (W := 0) (Nat.le_of_eq rfl) (by decide) (by decide) (by decide) (by decide) ?_
  intro v14 T14 L14 X14 Q14
  obtain ⟨rfl, N14q, Kc14, hL14⟩ := Q14
  have N14 := Fr.app N11 N14q
  have E_a_14 := E_a_43.keep Kc14
  have KK14 : Keep h0 T14.heap [a, xn, xo, xu, xv, xw, xt, xm] := (K11 : Keep h0 h11 [a, xn, xo, xu, xv, xw, xt, xm]).trans Kc14 (allS (Or.inl (List.mem_of_getElem? (i := 0) rfl)) (allS (Or.inl (List.mem_of_getElem? (i := 1) rfl)) (allS (Or.inl (List.mem_of_getElem? (i := 2) rfl)) (allS (Or.inl (List.mem_of_getElem? (i := 3) rfl)) (allS (Or.inl (List.mem_of_getElem? (i := 4) rfl)) (allS (Or.inl (List.mem_of_getElem? (i := 5) rfl)) (allS (Or.inl (List.mem_of_getElem? (i := 6) rfl)) (allS (Or.inl (List.mem_of_getElem? (i := 7) rfl)) all0))))))))
  have hL14x : LEs Z T14.heap a xn xo xu xv xw xt xm (updN fP 1 pp) (updN fQ 1 qq) (updN fC 1 cc) (updN (fun _ => (0 : Int32)) 1 (1 : Int32)) (updN fM 0 (0 : Int32)) (updN fN 0 (1 : Int32)) (updN fO 0 ((fun _ => (0 : Int32)) 1)) 1 1 := hL14
  obtain ⟨E_a_14, F_changedNode_a_14, F_changedLine_a_14, F_base_a_14, F_slope_a_14, F_origin_a_14, F_node_a_14, F_pushedAt_a_14, F_width_a_14, F_pushes_a_14, F_changes_a_14, V_xn_14, V_xo_14, V_xu_14, V_xv_14, V_xw_14, V_xt_14, V_xm_14⟩ := hL14x
  show Go _ _ _ _ _ _ _ T14 (mkF m 80 #[.val (.ref a), .val (.int (1 : Int32)), .val (.double (FP.i2d pp)), .second, .val (.double (FP.i2d qq)), .second, .val (.int cc), .val (.int (1 : Int32)), .val (.int (1 : Int32)), .val (.int (1 : Int32)), .val (.int (4 : Int32)), .val (.int (0 : Int32)), .unset] [])
  refine Go.retV X14 hx hlk hret (hb hby d7_80) (by decide) (by decide) ?_
  exact ⟨rfl, N14, KK14, ⟨E_a_14, F_changedNode_a_14, F_changedLine_a_14, F_base_a_14, F_slope_a_14, F_origin_a_14, F_node_a_14, F_pushedAt_a_14, F_width_a_14, F_pushes_a_14, F_changes_a_14, V_xn_14, V_xo_14, V_xu_14, V_xv_14, V_xw_14, V_xt_14, V_xm_14⟩⟩
theorem ef_rm7C (m : MethodId) (a : Addr) (cc : Int32) (dp : UInt64) (dq : UInt64) : entryFrame m #[(.ref a), (.int (1 : Int32)), (.double dp), (.double dq), (.int cc)] 13 = mkF m 0 #[.val (.ref a), .val (.int (1 : Int32)), .val (.double dp), .second, .val (.double dq), .second, .val (.int cc), .unset, .unset, .unset, .unset, .unset, .unset] [] := by first | (simp [entryFrame, mkF, argsToLocals, Value.category]; done) | rfl
theorem rm7C (l : Launch) (Z : State) (a0 : Array Value) (hw : ∀ d ∈ tables_1, d.before a0 Z = true) (a xn xo xu xv xw xt xm : Addr) (fP fQ fC fM fN fO : Nat → Int32) (pp qq cc : Int32) (h0 : Heap) (n0 : Nat) (Z0 : n0 ≤ h0.size) (hL : LEs Z h0 a xn xo xu xv xw xt xm fP fQ fC (fun _ => (0 : Int32)) fM fN fO 0 0) (hD : Dst n0 a xn xo xu xv xw xt xm) (hP : Sm fP) (hQ : Sm fQ) (hC : Sm fC) (hpp : -128 ≤ pp.toInt ∧ pp.toInt ≤ 127) (hqq : -128 ≤ qq.toInt ∧ qq.toInt ≤ 127) (hcc : -128 ≤ cc.toInt ∧ cc.toInt ≤ 127)  :
    Con l Z (⟨"com/example/headroom/headroom/LowerEnvelope", "push", "(IDDI)V"⟩ : MethodName) prog_15_method_2_code 13 none ({ frames := 1, cells := 0, slots := 0, locals := 24 } : Room) #[(.ref a), (.int (1 : Int32)), (.double (FP.i2d pp)), (.double (FP.i2d qq)), (.int cc)] h0 (fun r h L => r = none ∧ Fr n0 L ∧ Keep h0 h [a, xn, xo, xu, xv, xw, xt, xm] ∧ LEs Z h a xn xo xu xv xw xt xm (updN fP 1 pp) (updN fQ 1 qq) (updN fC 1 cc) (updN (fun _ => (0 : Int32)) 1 (1 : Int32)) (updN fM 0 (0 : Int32)) (updN fN 0 (1 : Int32)) (updN fO 0 (0 : Int32)) 1 1) :=
  con_of (plainFor_of_name pn_9) (fun p_ e_ s_ m_ b_ meth_ c_ T_ X_ hx hZ hby hml hown hnm hret hlk e0 => Go.cast (ef_rm7C m_ a cc (FP.i2d pp) (FP.i2d qq)) (w7C a xn xo xu xv xw xt xm fP fQ fC fM fN fO pp qq cc X_ hx hZ hw hby hml hown hnm hret hlk e0 Z0 (Fr.nil n0) hL hD hP hQ hC hpp hqq hcc))
set_option maxRecDepth 65536 in
set_option maxHeartbeats 40000000 in
theorem w7B {p : Program} {l : Launch} {e : Env} {s : State} {m : MethodId} {args : Array Value} {below : List Frame} {meth : Method} {c_ : Code} {T0 : State} {locs : List Loc} {Z : State} {a0 : Array Value} {h0 : Heap} {n0 : Nat} (a xn xo xu xv xw xt xm : Addr) (fP fQ fC fM fN fO : Nat → Int32) (pp qq cc : Int32)
    (X0 : Stand p l e ({ frames := 1, cells := 0, slots := 0, locals := 24 } : Room) s m args below meth c_ T0 locs 0 0) (hx : p.tables.exec = Jvm.exec) (hZ : Z.Warmed39 s.vm) (hw : ∀ d ∈ tables_1, d.before a0 Z = true) (hby : c_.code = prog_15_method_2_code) (hml : c_.maxLocals = 13) (hown : s.vm.findClass "com/example/headroom/headroom/LowerEnvelope" = some m.cls) (hnm : meth.name = "push") (hret : meth.sig.returnType = none) (hlk : meth.locks = false) (e0 : T0.heap = h0) (Z0 : n0 ≤ h0.size) (N0 : Fr n0 locs) (hL : LEs Z h0 a xn xo xu xv xw xt xm fP fQ fC (updN (fun _ => (0 : Int32)) 1 (1 : Int32)) fM fN fO 1 1) (hD : Dst n0 a xn xo xu xv xw xt xm) (hP : Sm fP) (hQ : Sm fQ) (hC : Sm fC) (hpp : -128 ≤ pp.toInt ∧ pp.toInt ≤ 127) (hqq : -128 ≤ qq.toInt ∧ qq.toInt ≤ 127) (hcc : -128 ≤ cc.toInt ∧ cc.toInt ≤ 127)  :
    Go p e below s ({ frames := 1, cells := 0, slots := 0, locals := 24 } : Room).cells ({ frames := 1, cells := 0, slots := 0, locals := 24 } : Room).slots (fun r h L => r = none ∧ Fr n0 L ∧ Keep h0 h [a, xn, xo, xu, xv, xw, xt, xm] ∧ ∃ (T' N' O' : Nat → Int32) (n' : Nat), LEs Z h a xn xo xu xv xw xt xm (updN fP 2 pp) (updN fQ 2 qq) (updN fC 2 cc) T' (updN fM 1 (1 : Int32)) N' O' 2 (1 + n') ∧ Good (updN (fun _ => (0 : Int32)) 1 (1 : Int32)) fN fO 1 T' N' O' n' ∧ n' ≤ 2 ∧ Lf T' ∧ Rng T' ∧ ¬ T' 1 = (0 : Int32) ∧ (T' 1 = 1 ∨ T' 1 = 2) ∧ (T' 2 = 0 ∨ T' 2 = 1 ∨ T' 2 = 2) ∧ (T' 3 = 0 ∨ T' 3 = 1 ∨ T' 3 = 2) ∧ Best (updN fP 2 pp) (updN fQ 2 qq) (updN fC 2 cc) T') T0 (mkF m 0 #[.val (.ref a), .val (.int (2 : Int32)), .val (.double (FP.i2d pp)), .second, .val (.double (FP.i2d qq)), .second, .val (.int cc), .unset, .unset, .unset, .unset, .unset, .unset] []) := by
  have hDq := hD
  obtain ⟨ne_a_xn, ne_a_xo, ne_a_xu, ne_a_xv, ne_a_xw, ne_a_xt, ne_a_xm, ne_xn_xo, ne_xn_xu, ne_xn_xv, ne_xn_xw, ne_xn_xt, ne_xn_xm, ne_xo_xu, ne_xo_xv, ne_xo_xw, ne_xo_xt, ne_xo_xm, ne_xu_xv, ne_xu_xw, ne_xu_xt, ne_xu_xm, ne_xv_xw, ne_xv_xt, ne_xv_xm, ne_xw_xt, ne_xw_xm, ne_xt_xm, ge_a, ge_xn, ge_xo, ge_xu, ge_xv, ge_xw, ge_xt, ge_xm⟩ := hDq
  obtain ⟨E_a_0, F_changedNode_a_0, F_changedLine_a_0, F_base_a_0, F_slope_a_0, F_origin_a_0, F_node_a_0, F_pushedAt_a_0, F_width_a_0, F_pushes_a_0, F_changes_a_0, V_xn_0, V_xo_0, V_xu_0, V_xv_0, V_xw_0, V_xt_0, V_xm_0⟩ := hL
  show Go _ _ _ _ _ _ _ T0 (mkF m 0 #[.val (.ref a), .val (.int (2 : Int32)), .val (.double (FP.i2d pp)), .second, .val (.double (FP.i2d qq)), .second, .val (.int cc), .unset, .unset, .unset, .unset, .unset, .unset] [])
  refine Go.step (fun _ k => XS.aloadN X0.here hx rfl (hb hby d7_0) rfl rfl k) ?_
  obtain ⟨T1, X1, e1, st1⟩ := getF X0 hx hZ hown (host := "") (Or.inl (hw _ (mI 30 rfl))) Via.refl e0 F_base_a_0 (g := (mkF m 1 #[.val (.ref a), .val (.int (2 : Int32)), .val (.double (FP.i2d pp)), .second, .val (.double (FP.i2d qq)), .second, .val (.int cc), .unset, .unset, .unset, .unset, .unset, .unset] [(.ref a)])) rfl rfl (hb hby d7_1)
  refine Go.step st1 ?_
  show Go _ _ _ _ _ _ _ T1 (mkF m 4 #[.val (.ref a), .val (.int (2 : Int32)), .val (.double (FP.i2d pp)), .second, .val (.double (FP.i2d qq)), .second, .val (.int cc), .unset, .unset, .unset, .unset, .unset, .unset] [(.ref xu)])
  refine Go.step (fun _ k => XS.iloadN X1.here hx rfl (hb hby d7_4) rfl k) ?_
  refine Go.step (fun _ k => XS.dloadN X1.here hx rfl (hb hby d7_5) rfl k) ?_
  refine Go.dastore X1 hx hZ e1 V_xu_0 (j := (2 : Int32)) (x := (FP.i2d pp)) (by decide) (hb hby d7_6) ?_
  intro T2 h2 X2 e2 W2 Vn2
  have V_xu_2 : Dv Z h2 xu (5 : Int32) (updN (fun k => FP.i2d (fP k)) 2 (FP.i2d pp)) := Vn2
  have N2 := Fr.snoc X2 N0 ge_xu
  have E_a_2 := E_a_0.wr W2
  have F_changedNode_a_2 := F_changedNode_a_0.other W2 (Or.inl ne_a_xu)
  have F_changedLine_a_2 := F_changedLine_a_0.other W2 (Or.inl ne_a_xu)
  have F_base_a_2 := F_base_a_0.other W2 (Or.inl ne_a_xu)
  have F_slope_a_2 := F_slope_a_0.other W2 (Or.inl ne_a_xu)
  have F_origin_a_2 := F_origin_a_0.other W2 (Or.inl ne_a_xu)
  have F_node_a_2 := F_node_a_0.other W2 (Or.inl ne_a_xu)
  have F_pushedAt_a_2 := F_pushedAt_a_0.other W2 (Or.inl ne_a_xu)
  have F_width_a_2 := F_width_a_0.other W2 (Or.inl ne_a_xu)
  have F_pushes_a_2 := F_pushes_a_0.other W2 (Or.inl ne_a_xu)
  have F_changes_a_2 := F_changes_a_0.other W2 (Or.inl ne_a_xu)
  have V_xn_2 := V_xn_0.other W2 ne_xn_xu
  have V_xo_2 := V_xo_0.other W2 ne_xo_xu
  have V_xv_2 := V_xv_0.other W2 (Ne.symm ne_xu_xv)
  have V_xw_2 := V_xw_0.other W2 (Ne.symm ne_xu_xw)
  have V_xt_2 := V_xt_0.other W2 (Ne.symm ne_xu_xt)
  have V_xm_2 := V_xm_0.other W2 (Ne.symm ne_xu_xm)
  have K2 : Keep h0 h2 [a, xn, xo, xu, xv, xw, xt, xm] := (Keep.refl h0 [a, xn, xo, xu, xv, xw, xt, xm]).wr W2 (Or.inl (List.mem_of_getElem? (i := 3) rfl))
  show Go _ _ _ _ _ _ _ T2 (mkF m 7 #[.val (.ref a), .val (.int (2 : Int32)), .val (.double (FP.i2d pp)), .second, .val (.double (FP.i2d qq)), .second, .val (.int cc), .unset, .unset, .unset, .unset, .unset, .unset] [])
  refine Go.step (fun _ k => XS.aloadN X2.here hx rfl (hb hby d7_7) rfl rfl k) ?_
  obtain ⟨T3, X3, e3, st3⟩ := getF X2 hx hZ hown (host := "") (Or.inl (hw _ (mI 32 rfl))) Via.refl e2 F_slope_a_2 (g := (mkF m 8 #[.val (.ref a), .val (.int (2 : Int32)), .val (.double (FP.i2d pp)), .second, .val (.double (FP.i2d qq)), .second, .val (.int cc), .unset, .unset, .unset, .unset, .unset, .unset] [(.ref a)])) rfl rfl (hb hby d7_8)
  refine Go.step st3 ?_
  show Go _ _ _ _ _ _ _ T3 (mkF m 11 #[.val (.ref a), .val (.int (2 : Int32)), .val (.double (FP.i2d pp)), .second, .val (.double (FP.i2d qq)), .second, .val (.int cc), .unset, .unset, .unset, .unset, .unset, .unset] [(.ref xv)])
  refine Go.step (fun _ k => XS.iloadN X3.here hx rfl (hb hby d7_11) rfl k) ?_
  refine Go.step (fun _ k => XS.dload X3.here hx rfl (hb hby d7_12) rfl k) ?_
  refine Go.dastore X3 hx hZ e3 V_xv_2 (j := (2 : Int32)) (x := (FP.i2d qq)) (by decide) (hb hby d7_14) ?_
  intro T4 h4 X4 e4 W4 Vn4
  have V_xv_4 : Dv Z h4 xv (5 : Int32) (updN (fun k => FP.i2d (fQ k)) 2 (FP.i2d qq)) := Vn4
  have N4 := Fr.snoc X4 N2 ge_xv
  have E_a_4 := E_a_2.wr W4
  have F_changedNode_a_4 := F_changedNode_a_2.other W4 (Or.inl ne_a_xv)
  have F_changedLine_a_4 := F_changedLine_a_2.other W4 (Or.inl ne_a_xv)
  have F_base_a_4 := F_base_a_2.other W4 (Or.inl ne_a_xv)
  have F_slope_a_4 := F_slope_a_2.other W4 (Or.inl ne_a_xv)
  have F_origin_a_4 := F_origin_a_2.other W4 (Or.inl ne_a_xv)
  have F_node_a_4 := F_node_a_2.other W4 (Or.inl ne_a_xv)
  have F_pushedAt_a_4 := F_pushedAt_a_2.other W4 (Or.inl ne_a_xv)
  have F_width_a_4 := F_width_a_2.other W4 (Or.inl ne_a_xv)
  have F_pushes_a_4 := F_pushes_a_2.other W4 (Or.inl ne_a_xv)
  have F_changes_a_4 := F_changes_a_2.other W4 (Or.inl ne_a_xv)
  have V_xn_4 := V_xn_2.other W4 ne_xn_xv
  have V_xo_4 := V_xo_2.other W4 ne_xo_xv
  have V_xu_4 := V_xu_2.other W4 ne_xu_xv
  have V_xw_4 := V_xw_2.other W4 (Ne.symm ne_xv_xw)
  have V_xt_4 := V_xt_2.other W4 (Ne.symm ne_xv_xt)
  have V_xm_4 := V_xm_2.other W4 (Ne.symm ne_xv_xm)
  have K4 : Keep h0 h4 [a, xn, xo, xu, xv, xw, xt, xm] := K2.wr W4 (Or.inl (List.mem_of_getElem? (i := 4) rfl))
  show Go _ _ _ _ _ _ _ T4 (mkF m 15 #[.val (.ref a), .val (.int (2 : Int32)), .val (.double (FP.i2d pp)), .second, .val (.double (FP.i2d qq)), .second, .val (.int cc), .unset, .unset, .unset, .unset, .unset, .unset] [])
  refine Go.step (fun _ k => XS.aloadN X4.here hx rfl (hb hby d7_15) rfl rfl k) ?_
  obtain ⟨T5, X5, e5, st5⟩ := getF X4 hx hZ hown (host := "") (Or.inl (hw _ (mI 34 rfl))) Via.refl e4 F_origin_a_4 (g := (mkF m 16 #[.val (.ref a), .val (.int (2 : Int32)), .val (.double (FP.i2d pp)), .second, .val (.double (FP.i2d qq)), .second, .val (.int cc), .unset, .unset, .unset, .unset, .unset, .unset] [(.ref a)])) rfl rfl (hb hby d7_16)
  refine Go.step st5 ?_
  show Go _ _ _ _ _ _ _ T5 (mkF m 19 #[.val (.ref a), .val (.int (2 : Int32)), .val (.double (FP.i2d pp)), .second, .val (.double (FP.i2d qq)), .second, .val (.int cc), .unset, .unset, .unset, .unset, .unset, .unset] [(.ref xw)])
  refine Go.step (fun _ k => XS.iloadN X5.here hx rfl (hb hby d7_19) rfl k) ?_
  refine Go.step (fun _ k => XS.iload X5.here hx rfl (hb hby d7_20) rfl k) ?_
  refine Go.iastore X5 hx hZ e5 V_xw_4 (j := (2 : Int32)) (x := cc) (by decide) (hb hby d7_22) ?_
  intro T6 h6 X6 e6 W6 Vn6
  have V_xw_6 : Iv Z h6 xw (5 : Int32) (updN fC 2 cc) := Vn6
  have N6 := Fr.snoc X6 N4 ge_xw
  have E_a_6 := E_a_4.wr W6
  have F_changedNode_a_6 := F_changedNode_a_4.other W6 (Or.inl ne_a_xw)
  have F_changedLine_a_6 := F_changedLine_a_4.other W6 (Or.inl ne_a_xw)
  have F_base_a_6 := F_base_a_4.other W6 (Or.inl ne_a_xw)
  have F_slope_a_6 := F_slope_a_4.other W6 (Or.inl ne_a_xw)
  have F_origin_a_6 := F_origin_a_4.other W6 (Or.inl ne_a_xw)
  have F_node_a_6 := F_node_a_4.other W6 (Or.inl ne_a_xw)
  have F_pushedAt_a_6 := F_pushedAt_a_4.other W6 (Or.inl ne_a_xw)
  have F_width_a_6 := F_width_a_4.other W6 (Or.inl ne_a_xw)
  have F_pushes_a_6 := F_pushes_a_4.other W6 (Or.inl ne_a_xw)
  have F_changes_a_6 := F_changes_a_4.other W6 (Or.inl ne_a_xw)
  have V_xn_6 := V_xn_4.other W6 ne_xn_xw
  have V_xo_6 := V_xo_4.other W6 ne_xo_xw
  have V_xu_6 := V_xu_4.other W6 ne_xu_xw
  have V_xv_6 := V_xv_4.other W6 ne_xv_xw
  have V_xt_6 := V_xt_4.other W6 (Ne.symm ne_xw_xt)
  have V_xm_6 := V_xm_4.other W6 (Ne.symm ne_xw_xm)
  have K6 : Keep h0 h6 [a, xn, xo, xu, xv, xw, xt, xm] := K4.wr W6 (Or.inl (List.mem_of_getElem? (i := 5) rfl))
  show Go _ _ _ _ _ _ _ T6 (mkF m 23 #[.val (.ref a), .val (.int (2 : Int32)), .val (.double (FP.i2d pp)), .second, .val (.double (FP.i2d qq)), .second, .val (.int cc), .unset, .unset, .unset, .unset, .unset, .unset] [])
  refine Go.step (fun _ k => XS.aloadN X6.here hx rfl (hb hby d7_23) rfl rfl k) ?_
  obtain ⟨T7, X7, e7, st7⟩ := getF X6 hx hZ hown (host := "") (Or.inl (hw _ (mI 38 rfl))) Via.refl e6 F_pushedAt_a_6 (g := (mkF m 24 #[.val (.ref a), .val (.int (2 : Int32)), .val (.double (FP.i2d pp)), .second, .val (.double (FP.i2d qq)), .second, .val (.int cc), .unset, .unset, .unset, .unset, .unset, .unset] [(.ref a)])) rfl rfl (hb hby d7_24)
  refine Go.step st7 ?_
  show Go _ _ _ _ _ _ _ T7 (mkF m 27 #[.val (.ref a), .val (.int (2 : Int32)), .val (.double (FP.i2d pp)), .second, .val (.double (FP.i2d qq)), .second, .val (.int cc), .unset, .unset, .unset, .unset, .unset, .unset] [(.ref xm)])
  refine Go.step (fun _ k => XS.aloadN X7.here hx rfl (hb hby d7_27) rfl rfl k) ?_
  refine Go.step (fun _ k => XS.dup X7.here hx rfl (hb hby d7_28) rfl rfl k) ?_
  obtain ⟨T8, X8, e8, st8⟩ := getF X7 hx hZ hown (host := "") (Or.inl (hw _ (mI 49 rfl))) Via.refl e7 F_pushes_a_6 (g := (mkF m 29 #[.val (.ref a), .val (.int (2 : Int32)), .val (.double (FP.i2d pp)), .second, .val (.double (FP.i2d qq)), .second, .val (.int cc), .unset, .unset, .unset, .unset, .unset, .unset] [(.ref a), (.ref a), (.ref xm)])) rfl rfl (hb hby d7_29)
  refine Go.step st8 ?_
  show Go _ _ _ _ _ _ _ T8 (mkF m 32 #[.val (.ref a), .val (.int (2 : Int32)), .val (.double (FP.i2d pp)), .second, .val (.double (FP.i2d qq)), .second, .val (.int cc), .unset, .unset, .unset, .unset, .unset, .unset] [(.int (1 : Int32)), (.ref a), (.ref xm)])
  refine Go.step (fun _ k => XS.dupX1 X8.here hx rfl (hb hby d7_32) rfl rfl rfl k) ?_
  show Go _ _ _ _ _ _ _ T8 (mkF m 33 #[.val (.ref a), .val (.int (2 : Int32)), .val (.double (FP.i2d pp)), .second, .val (.double (FP.i2d qq)), .second, .val (.int cc), .unset, .unset, .unset, .unset, .unset, .unset] [(.int (1 : Int32)), (.ref a), (.int (1 : Int32)), (.ref xm)])
  refine Go.step (fun _ k => XS.iconst X8.here hx rfl (hb hby d7_33) k) ?_
  refine Go.step (fun _ k => XS.iadd X8.here hx rfl (hb hby d7_34) rfl k) ?_
  show Go _ _ _ _ _ _ _ T8 (mkF m 35 #[.val (.ref a), .val (.int (2 : Int32)), .val (.double (FP.i2d pp)), .second, .val (.double (FP.i2d qq)), .second, .val (.int cc), .unset, .unset, .unset, .unset, .unset, .unset] [(.int (2 : Int32)), (.ref a), (.int (1 : Int32)), (.ref xm)])
  obtain ⟨T9, h9, X9, e9, W9, st9⟩ := putF X8 hx hZ hown (host := "") (Or.inl (hw _ (mI 49 rfl))) Via.refl e8 F_pushes_a_6 E_a_6 (Or.inl (hw _ (mI 50 rfl))) (hw _ (mI 1 rfl)) (ty := .int) (by decide) rfl rfl (g := (mkF m 35 #[.val (.ref a), .val (.int (2 : Int32)), .val (.double (FP.i2d pp)), .second, .val (.double (FP.i2d qq)), .second, .val (.int cc), .unset, .unset, .unset, .unset, .unset, .unset] [(.int (2 : Int32)), (.ref a), (.int (1 : Int32)), (.ref xm)])) rfl rfl (hb hby d7_35)
  refine Go.step st9 ?_
  have N9 := Fr.snoc X9 N6 ge_a
  have F_pushes_a_9 := F_pushes_a_6.same W9
  have E_a_9 := E_a_6.wr W9
  have F_changedNode_a_9 := F_changedNode_a_6.other W9 (Or.inr (slot_ne (Or.inl (hw _ (mI 11 rfl))) (Or.inl (hw _ (mI 50 rfl))) (by decide) (t := (.array .int)) (t' := .int) (by decide) (by decide)))
  have F_changedLine_a_9 := F_changedLine_a_6.other W9 (Or.inr (slot_ne (Or.inl (hw _ (mI 13 rfl))) (Or.inl (hw _ (mI 50 rfl))) (by decide) (t := (.array .int)) (t' := .int) (by decide) (by decide)))
  have F_base_a_9 := F_base_a_6.other W9 (Or.inr (slot_ne (Or.inr (hw _ (mI 31 rfl))) (Or.inl (hw _ (mI 50 rfl))) (by decide) (t := (.array .double)) (t' := .int) (by decide) (by decide)))
  have F_slope_a_9 := F_slope_a_6.other W9 (Or.inr (slot_ne (Or.inr (hw _ (mI 33 rfl))) (Or.inl (hw _ (mI 50 rfl))) (by decide) (t := (.array .double)) (t' := .int) (by decide) (by decide)))
  have F_origin_a_9 := F_origin_a_6.other W9 (Or.inr (slot_ne (Or.inr (hw _ (mI 35 rfl))) (Or.inl (hw _ (mI 50 rfl))) (by decide) (t := (.array .int)) (t' := .int) (by decide) (by decide)))
  have F_node_a_9 := F_node_a_6.other W9 (Or.inr (slot_ne (Or.inr (hw _ (mI 37 rfl))) (Or.inl (hw _ (mI 50 rfl))) (by decide) (t := (.array .int)) (t' := .int) (by decide) (by decide)))
  have F_pushedAt_a_9 := F_pushedAt_a_6.other W9 (Or.inr (slot_ne (Or.inr (hw _ (mI 39 rfl))) (Or.inl (hw _ (mI 50 rfl))) (by decide) (t := (.array .int)) (t' := .int) (by decide) (by decide)))
  have F_width_a_9 := F_width_a_6.other W9 (Or.inr (slot_ne (Or.inr (hw _ (mI 28 rfl))) (Or.inl (hw _ (mI 50 rfl))) (by decide) (t := .int) (t' := .int) (by decide) (by decide)))
  have F_changes_a_9 := F_changes_a_6.other W9 (Or.inr (slot_ne (Or.inl (hw _ (mI 52 rfl))) (Or.inl (hw _ (mI 50 rfl))) (by decide) (t := .int) (t' := .int) (by decide) (by decide)))
  have V_xn_9 := V_xn_6.other W9 (Ne.symm ne_a_xn)
  have V_xo_9 := V_xo_6.other W9 (Ne.symm ne_a_xo)
  have V_xu_9 := V_xu_6.other W9 (Ne.symm ne_a_xu)
  have V_xv_9 := V_xv_6.other W9 (Ne.symm ne_a_xv)
  have V_xw_9 := V_xw_6.other W9 (Ne.symm ne_a_xw)
  have V_xt_9 := V_xt_6.other W9 (Ne.symm ne_a_xt)
  have V_xm_9 := V_xm_6.other W9 (Ne.symm ne_a_xm)
  have K9 : Keep h0 h9 [a, xn, xo, xu, xv, xw, xt, xm] := K6.wr W9 (Or.inl (List.mem_of_getElem? (i := 0) rfl))
  show Go _ _ _ _ _ _ _ T9 (mkF m 38 #[.val (.ref a), .val (.int (2 : Int32)), .val (.double (FP.i2d pp)), .second, .val (.double (FP.i2d qq)), .second, .val (.int cc), .unset, .unset, .unset, .unset, .unset, .unset] [(.int (1 : Int32)), (.ref xm)])
  refine Go.step (fun _ k => XS.aloadN X9.here hx rfl (hb hby d7_38) rfl rfl k) ?_
  obtain ⟨T10, X10, e10, st10⟩ := getF X9 hx hZ hown (host := "") (Or.inl (hw _ (mI 51 rfl))) Via.refl e9 F_changes_a_9 (g := (mkF m 39 #[.val (.ref a), .val (.int (2 : Int32)), .val (.double (FP.i2d pp)), .second, .val (.double (FP.i2d qq)), .second, .val (.int cc), .unset, .unset, .unset, .unset, .unset, .unset] [(.ref a), (.int (1 : Int32)), (.ref xm)])) rfl rfl (hb hby d7_39)
  refine Go.step st10 ?_
  show Go _ _ _ _ _ _ _ T10 (mkF m 42 #[.val (.ref a), .val (.int (2 : Int32)), .val (.double (FP.i2d pp)), .second, .val (.double (FP.i2d qq)), .second, .val (.int cc), .unset, .unset, .unset, .unset, .unset, .unset] [(.int (1 : Int32)), (.int (1 : Int32)), (.ref xm)])
  refine Go.iastore X10 hx hZ e10 V_xm_9 (j := (1 : Int32)) (x := (1 : Int32)) (by decide) (hb hby d7_42) ?_
  intro T11 h11 X11 e11 W11 Vn11
  have V_xm_11 : Iv Z h11 xm (4 : Int32) (updN fM 1 (1 : Int32)) := Vn11
  have N11 := Fr.snoc X11 N9 ge_xm
  have E_a_11 := E_a_9.wr W11
  have F_changedNode_a_11 := F_changedNode_a_9.other W11 (Or.inl ne_a_xm)
  have F_changedLine_a_11 := F_changedLine_a_9.other W11 (Or.inl ne_a_xm)
  have F_base_a_11 := F_base_a_9.other W11 (Or.inl ne_a_xm)
  have F_slope_a_11 := F_slope_a_9.other W11 (Or.inl ne_a_xm)
  have F_origin_a_11 := F_origin_a_9.other W11 (Or.inl ne_a_xm)
  have F_node_a_11 := F_node_a_9.other W11 (Or.inl ne_a_xm)
  have F_pushedAt_a_11 := F_pushedAt_a_9.other W11 (Or.inl ne_a_xm)
  have F_width_a_11 := F_width_a_9.other W11 (Or.inl ne_a_xm)
  have F_pushes_a_11 := F_pushes_a_9.other W11 (Or.inl ne_a_xm)
  have F_changes_a_11 := F_changes_a_9.other W11 (Or.inl ne_a_xm)
  have V_xn_11 := V_xn_9.other W11 ne_xn_xm
  have V_xo_11 := V_xo_9.other W11 ne_xo_xm
  have V_xu_11 := V_xu_9.other W11 ne_xu_xm
  have V_xv_11 := V_xv_9.other W11 ne_xv_xm
  have V_xw_11 := V_xw_9.other W11 ne_xw_xm
  have V_xt_11 := V_xt_9.other W11 ne_xt_xm
  have K11 : Keep h0 h11 [a, xn, xo, xu, xv, xw, xt, xm] := K9.wr W11 (Or.inl (List.mem_of_getElem? (i := 7) rfl))
  have u1 := own_updD (j := 2) V_xu_11
  have u2 := own_updD (j := 2) V_xv_11
  have hL43 : LEs Z h11 a xn xo xu xv xw xt xm (updN fP 2 pp) (updN fQ 2 qq) (updN fC 2 cc) (updN (fun _ => (0 : Int32)) 1 (1 : Int32)) (updN fM 1 (1 : Int32)) fN fO 2 1 := ⟨E_a_11, F_changedNode_a_11, F_changedLine_a_11, F_base_a_11, F_slope_a_11, F_origin_a_11, F_node_a_11, F_pushedAt_a_11, F_width_a_11, F_pushes_a_11, F_changes_a_11, V_xn_11, V_xo_11, u1, u2, V_xw_11, V_xt_11, V_xm_11⟩
  obtain ⟨E_a_43, F_changedNode_a_43, F_changedLine_a_43, F_base_a_43, F_slope_a_43, F_origin_a_43, F_node_a_43, F_pushedAt_a_43, F_width_a_43, F_pushes_a_43, F_changes_a_43, V_xn_43, V_xo_43, V_xu_43, V_xv_43, V_xw_43, V_xt_43, V_xm_43⟩ := hL43
  have spp : Sm (updN fP 2 pp) := Sm.upd hP hpp 2
  have sqq : Sm (updN fQ 2 qq) := Sm.upd hQ hqq 2
  have scc : Sm (updN fC 2 cc) := Sm.upd hC hcc 2
  show Go _ _ _ _ _ _ _ T11 (mkF m 43 #[.val (.ref a), .val (.int (2 : Int32)), .val (.double (FP.i2d pp)), .second, .val (.double (FP.i2d qq)), .second, .val (.int cc), .unset, .unset, .unset, .unset, .unset, .unset] [])
  refine Go.step (fun _ k => XS.iloadN X11.here hx rfl (hb hby d7_43) rfl k) ?_
  refine Go.step (fun _ k => XS.istore X11.here hx rfl (hb hby d7_44) rfl (l' := #[.val (.ref a), .val (.int (2 : Int32)), .val (.double (FP.i2d pp)), .second, .val (.double (FP.i2d qq)), .second, .val (.int cc), .val (.int (2 : Int32)), .unset, .unset, .unset, .unset, .unset]) rfl k) ?_
  show Go _ _ _ _ _ _ _ T11 (mkF m 46 #[.val (.ref a), .val (.int (2 : Int32)), .val (.double (FP.i2d pp)), .second, .val (.double (FP.i2d qq)), .second, .val (.int cc), .val (.int (2 : Int32)), .unset, .unset, .unset, .unset, .unset] [])
  refine Go.step (fun _ k => XS.iconst X11.here hx rfl (hb hby d7_46) k) ?_
  refine Go.step (fun _ k => XS.istore X11.here hx rfl (hb hby d7_47) rfl (l' := #[.val (.ref a), .val (.int (2 : Int32)), .val (.double (FP.i2d pp)), .second, .val (.double (FP.i2d qq)), .second, .val (.int cc), .val (.int (2 : Int32)), .val (.int (1 : Int32)), .unset, .unset, .unset, .unset]) rfl k) ?_
  show Go _ _ _ _ _ _ _ T11 (mkF m 49 #[.val (.ref a), .val (.int (2 : Int32)), .val (.double (FP.i2d pp)), .second, .val (.double (FP.i2d qq)), .second, .val (.int cc), .val (.int (2 : Int32)), .val (.int (1 : Int32)), .unset, .unset, .unset, .unset] [])
  refine Go.step (fun _ k => XS.iconst X11.here hx rfl (hb hby d7_49) k) ?_
  refine Go.step (fun _ k => XS.istore X11.here hx rfl (hb hby d7_50) rfl (l' := #[.val (.ref a), .val (.int (2 : Int32)), .val (.double (FP.i2d pp)), .second, .val (.double (FP.i2d qq)), .second, .val (.int cc), .val (.int (2 : Int32)), .val (.int (1 : Int32)), .val (.int (1 : Int32)), .unset, .unset, .unset]) rfl k) ?_
  show Go _ _ _ _ _ _ _ T11 (mkF m 52 #[.val (.ref a), .val (.int (2 : Int32)), .val (.double (FP.i2d pp)), .second, .val (.double (FP.i2d qq)), .second, .val (.int cc), .val (.int (2 : Int32)), .val (.int (1 : Int32)), .val (.int (1 : Int32)), .unset, .unset, .unset] [])
  refine Go.step (fun _ k => XS.aloadN X11.here hx rfl (hb hby d7_52) rfl rfl k) ?_
  obtain ⟨T12, X12, e12, st12⟩ := getF X11 hx hZ hown (host := "") (Or.inl (hw _ (mI 27 rfl))) Via.refl e11 F_width_a_43 (g := (mkF m 53 #[.val (.ref a), .val (.int (2 : Int32)), .val (.double (FP.i2d pp)), .second, .val (.double (FP.i2d qq)), .second, .val (.int cc), .val (.int (2 : Int32)), .val (.int (1 : Int32)), .val (.int (1 : Int32)), .unset, .unset, .unset] [(.ref a)])) rfl rfl (hb hby d7_53)
  refine Go.step st12 ?_
  show Go _ _ _ _ _ _ _ T12 (mkF m 56 #[.val (.ref a), .val (.int (2 : Int32)), .val (.double (FP.i2d pp)), .second, .val (.double (FP.i2d qq)), .second, .val (.int cc), .val (.int (2 : Int32)), .val (.int (1 : Int32)), .val (.int (1 : Int32)), .unset, .unset, .unset] [(.int (4 : Int32))])
  refine Go.step (fun _ k => XS.istore X12.here hx rfl (hb hby d7_56) rfl (l' := #[.val (.ref a), .val (.int (2 : Int32)), .val (.double (FP.i2d pp)), .second, .val (.double (FP.i2d qq)), .second, .val (.int cc), .val (.int (2 : Int32)), .val (.int (1 : Int32)), .val (.int (1 : Int32)), .val (.int (4 : Int32)), .unset, .unset]) rfl k) ?_
  show Go _ _ _ _ _ _ _ T12 (mkF m 58 #[.val (.ref a), .val (.int (2 : Int32)), .val (.double (FP.i2d pp)), .second, .val (.double (FP.i2d qq)), .second, .val (.int cc), .val (.int (2 : Int32)), .val (.int (1 : Int32)), .val (.int (1 : Int32)), .val (.int (4 : Int32)), .unset, .unset] [])
  refine Go.step (fun _ k => XS.aloadN X12.here hx rfl (hb hby d7_58) rfl rfl k) ?_
  obtain ⟨T13, X13, e13, st13⟩ := getF X12 hx hZ hown (host := "") (Or.inl (hw _ (mI 36 rfl))) Via.refl e12 F_node_a_43 (g := (mkF m 59 #[.val (.ref a), .val (.int (2 : Int32)), .val (.double (FP.i2d pp)), .second, .val (.double (FP.i2d qq)), .second, .val (.int cc), .val (.int (2 : Int32)), .val (.int (1 : Int32)), .val (.int (1 : Int32)), .val (.int (4 : Int32)), .unset, .unset] [(.ref a)])) rfl rfl (hb hby d7_59)
  refine Go.step st13 ?_
  show Go _ _ _ _ _ _ _ T13 (mkF m 62 #[.val (.ref a), .val (.int (2 : Int32)), .val (.double (FP.i2d pp)), .second, .val (.double (FP.i2d qq)), .second, .val (.int cc), .val (.int (2 : Int32)), .val (.int (1 : Int32)), .val (.int (1 : Int32)), .val (.int (4 : Int32)), .unset, .unset] [(.ref xt)])
  refine Go.step (fun _ k => XS.iload X13.here hx rfl (hb hby d7_62) rfl k) ?_
  refine Go.iaload X13 hx hZ e13 V_xt_43 (j := (1 : Int32)) (v := (1 : Int32)) (by decide) rfl (hb hby d7_64) ?_
  show Go _ _ _ _ _ _ _ T13 (mkF m 65 #[.val (.ref a), .val (.int (2 : Int32)), .val (.double (FP.i2d pp)), .second, .val (.double (FP.i2d qq)), .second, .val (.int cc), .val (.int (2 : Int32)), .val (.int (1 : Int32)), .val (.int (1 : Int32)), .val (.int (4 : Int32)), .unset, .unset] [(.int (1 : Int32))])
  refine Go.step (fun _ k => XS.istore X13.here hx rfl (hb hby d7_65) rfl (l' := #[.val (.ref a), .val (.int (2 : Int32)), .val (.double (FP.i2d pp)), .second, .val (.double (FP.i2d qq)), .second, .val (.int cc), .val (.int (2 : Int32)), .val (.int (1 : Int32)), .val (.int (1 : Int32)), .val (.int (4 : Int32)), .val (.int (1 : Int32)), .unset]) rfl k) ?_
  show Go _ _ _ _ _ _ _ T13 (mkF m 67 #[.val (.ref a), .val (.int (2 : Int32)), .val (.double (FP.i2d pp)), .second, .val (.double (FP.i2d qq)), .second, .val (.int cc), .val (.int (2 : Int32)), .val (.int (1 : Int32)), .val (.int (1 : Int32)), .val (.int (4 : Int32)), .val (.int (1 : Int32)), .unset] [])
  refine Go.step (fun _ k => XS.iload X13.here hx rfl (hb hby d7_67) rfl k) ?_
  refine Go.step (fun _ k => XS.ifYes X13.here hx rfl (pc0 := 69) (pc' := 81) rfl (hb hby d7_69) rfl ((if0 _ _).trans (feq (by decide : ¬ ((1 : Int32) = (0 : Int32)))).2) (by decide) (by decide) k) ?_
  show Go _ _ _ _ _ _ _ T13 (mkF m 81 #[.val (.ref a), .val (.int (2 : Int32)), .val (.double (FP.i2d pp)), .second, .val (.double (FP.i2d qq)), .second, .val (.int cc), .val (.int (2 : Int32)), .val (.int (1 : Int32)), .val (.int (1 : Int32)), .val (.int (4 : Int32)), .val (.int (1 : Int32)), .unset] [])
  refine Go.step (fun _ k => XS.iload X13.here hx rfl (hb hby d7_81) rfl k) ?_
  refine Go.step (fun _ k => XS.iload X13.here hx rfl (hb hby d7_83) rfl k) ?_
  refine Go.step (fun _ k => XS.iadd X13.here hx rfl (hb hby d7_85) rfl k) ?_
  show Go _ _ _ _ _ _ _ T13 (mkF m 86 #[.val (.ref a), .val (.int (2 : Int32)), .val (.double (FP.i2d pp)), .second, .val (.double (FP.i2d qq)), .second, .val (.int cc), .val (.int (2 : Int32)), .val (.int (1 : Int32)), .val (.int (1 : Int32)), .val (.int (4 : Int32)), .val (.int (1 : Int32)), .unset] [(.int (5 : Int32))])
  refine Go.step (fun _ k => XS.iconst X13.here hx rfl (hb hby d7_86) k) ?_
  refine Go.step (fun _ k => XS.iushr X13.here hx rfl (hb hby d7_87) rfl k) ?_
  show Go _ _ _ _ _ _ _ T13 (mkF m 88 #[.val (.ref a), .val (.int (2 : Int32)), .val (.double (FP.i2d pp)), .second, .val (.double (FP.i2d qq)), .second, .val (.int cc), .val (.int (2 : Int32)), .val (.int (1 : Int32)), .val (.int (1 : Int32)), .val (.int (4 : Int32)), .val (.int (1 : Int32)), .unset] [(.int (2 : Int32))])
  refine Go.step (fun _ k => XS.istore X13.here hx rfl (hb hby d7_88) rfl (l' := #[.val (.ref a), .val (.int (2 : Int32)), .val (.double (FP.i2d pp)), .second, .val (.double (FP.i2d qq)), .second, .val (.int cc), .val (.int (2 : Int32)), .val (.int (1 : Int32)), .val (.int (1 : Int32)), .val (.int (4 : Int32)), .val (.int (1 : Int32)), .val (.int (2 : Int32))]) rfl k) ?_
  show Go _ _ _ _ _ _ _ T13 (mkF m 90 #[.val (.ref a), .val (.int (2 : Int32)), .val (.double (FP.i2d pp)), .second, .val (.double (FP.i2d qq)), .second, .val (.int cc), .val (.int (2 : Int32)), .val (.int (1 : Int32)), .val (.int (1 : Int32)), .val (.int (4 : Int32)), .val (.int (1 : Int32)), .val (.int (2 : Int32))] [])
  refine Go.step (fun _ k => XS.aloadN X13.here hx rfl (hb hby d7_90) rfl rfl k) ?_
  refine Go.step (fun _ k => XS.iload X13.here hx rfl (hb hby d7_91) rfl k) ?_
  refine Go.step (fun _ k => XS.iload X13.here hx rfl (hb hby d7_93) rfl k) ?_
  show Go _ _ _ _ _ _ _ T13 (mkF m 95 #[.val (.ref a), .val (.int (2 : Int32)), .val (.double (FP.i2d pp)), .second, .val (.double (FP.i2d qq)), .second, .val (.int cc), .val (.int (2 : Int32)), .val (.int (1 : Int32)), .val (.int (1 : Int32)), .val (.int (4 : Int32)), .val (.int (1 : Int32)), .val (.int (2 : Int32))] [(.int (1 : Int32)), (.int (2 : Int32)), (.ref a)])
  refine Go.step (fun _ k => XS.iload X13.here hx rfl (hb hby d7_95) rfl k) ?_
  refine Go.callP X13 hx hZ (by rw [hml]; rfl) (y := (⟨"com/example/headroom/headroom/LowerEnvelope", "lower", "(III)Z"⟩ : MethodName)) (a := a) (argsL := [(.int (2 : Int32)), (.int (1 : Int32)), (.int (2 : Int32))]) (rest := []) hown (hw _ (mI 57 rfl)) (hw _ (mI 58 rfl)) (hw _ (mI 1 rfl)) (hw _ (mI 59 rfl)) (hw _ (mI 2 rfl)) (hw _ (mI 60 rfl)) (by decide) (rm9 l Z a0 hw a xu xv xw (updN fP 2 pp) (updN fQ 2 qq) (updN fC 2 cc) (2 : Int32) (1 : Int32) (2 : Int32) h11 n0 (Nat.le_trans Z0 (K11 : Keep h0 h11 [a, xn, xo, xu, xv, xw, xt, xm]).1) F_base_a_43 F_slope_a_43 F_origin_a_43 V_xu_43 V_xv_43 V_xw_43 spp sqq scc (by decide) (by decide) (own_in (2 : Int32) (by decide))) e13 E_a_43 (hb hby d7_97) (lenOf pd_1 rfl) rfl rfl (W := 0) (Nat.le_of_eq rfl) (by decide) (by decide) (by decide) (by decide) ?_
  intro v14 T14 L14 X14 Q14
  obtain ⟨rfl, N14q, hh14⟩ := Q14
  have N14 := Fr.app N11 N14q
  show Go _ _ _ _ _ _ _ T14 (mkF m 100 #[.val (.ref a), .val (.int (2 : Int32)), .val (.double (FP.i2d pp)), .second, .val (.double (FP.i2d qq)), .second, .val (.int cc), .val (.int (2 : Int32)), .val (.int (1 : Int32)), .val (.int (1 : Int32)), .val (.int (4 : Int32)), .val (.int (1 : Int32)), .val (.int (2 : Int32))] [(.int (lowW (updN fP 2 pp) (updN fQ 2 qq) (updN fC 2 cc) (2 : Int32) (1 : Int32) (2 : Int32)))])
  by_cases hc100_15 : (lowW (updN fP 2 pp) (updN fQ 2 qq) (updN fC 2 cc) (2 : Int32) (1 : Int32) (2 : Int32)) = (0 : Int32)
  · refine Go.step (fun _ k => XS.ifYes X14.here hx rfl (pc0 := 100) (pc' := 115) rfl (hb hby d7_100) rfl ((if0 _ _).trans (teq hc100_15).1) (by decide) (by decide) k) ?_
    show Go _ _ _ _ _ _ _ T14 (mkF m 115 #[.val (.ref a), .val (.int (2 : Int32)), .val (.double (FP.i2d pp)), .second, .val (.double (FP.i2d qq)), .second, .val (.int cc), .val (.int (2 : Int32)), .val (.int (1 : Int32)), .val (.int (1 : Int32)), .val (.int (4 : Int32)), .val (.int (1 : Int32)), .val (.int (2 : Int32))] [])
    refine Go.step (fun _ k => XS.iload X14.here hx rfl (hb hby d7_115) rfl k) ?_
    refine Go.step (fun _ k => XS.iload X14.here hx rfl (hb hby d7_117) rfl k) ?_
    refine Go.step (fun _ k => XS.icmpYes X14.here hx rfl (pc0 := 119) (pc' := 123) rfl (hb hby d7_119) rfl (feq (by decide : ¬ ((1 : Int32) = (4 : Int32)))).2 (by decide) (by decide) k) ?_
    show Go _ _ _ _ _ _ _ T14 (mkF m 123 #[.val (.ref a), .val (.int (2 : Int32)), .val (.double (FP.i2d pp)), .second, .val (.double (FP.i2d qq)), .second, .val (.int cc), .val (.int (2 : Int32)), .val (.int (1 : Int32)), .val (.int (1 : Int32)), .val (.int (4 : Int32)), .val (.int (1 : Int32)), .val (.int (2 : Int32))] [])
    refine Go.step (fun _ k => XS.aloadN X14.here hx rfl (hb hby d7_123) rfl rfl k) ?_
    refine Go.step (fun _ k => XS.iload X14.here hx rfl (hb hby d7_124) rfl k) ?_
    refine Go.step (fun _ k => XS.aloadN X14.here hx rfl (hb hby d7_126) rfl rfl k) ?_
    show Go _ _ _ _ _ _ _ T14 (mkF m 127 #[.val (.ref a), .val (.int (2 : Int32)), .val (.double (FP.i2d pp)), .second, .val (.double (FP.i2d qq)), .second, .val (.int cc), .val (.int (2 : Int32)), .val (.int (1 : Int32)), .val (.int (1 : Int32)), .val (.int (4 : Int32)), .val (.int (1 : Int32)), .val (.int (2 : Int32))] [(.ref a), (.int (2 : Int32)), (.ref a)])
    obtain ⟨T16, X16, e16, st16⟩ := getF X14 hx hZ hown (host := "") (Or.inl (hw _ (mI 36 rfl))) Via.refl hh14 F_node_a_43 (g := (mkF m 127 #[.val (.ref a), .val (.int (2 : Int32)), .val (.double (FP.i2d pp)), .second, .val (.double (FP.i2d qq)), .second, .val (.int cc), .val (.int (2 : Int32)), .val (.int (1 : Int32)), .val (.int (1 : Int32)), .val (.int (4 : Int32)), .val (.int (1 : Int32)), .val (.int (2 : Int32))] [(.ref a), (.int (2 : Int32)), (.ref a)])) rfl rfl (hb hby d7_127)
    refine Go.step st16 ?_
    show Go _ _ _ _ _ _ _ T16 (mkF m 130 #[.val (.ref a), .val (.int (2 : Int32)), .val (.double (FP.i2d pp)), .second, .val (.double (FP.i2d qq)), .second, .val (.int cc), .val (.int (2 : Int32)), .val (.int (1 : Int32)), .val (.int (1 : Int32)), .val (.int (4 : Int32)), .val (.int (1 : Int32)), .val (.int (2 : Int32))] [(.ref xt), (.int (2 : Int32)), (.ref a)])
    refine Go.step (fun _ k => XS.iload X16.here hx rfl (hb hby d7_130) rfl k) ?_
    refine Go.iaload X16 hx hZ e16 V_xt_43 (j := (1 : Int32)) (v := (1 : Int32)) (by decide) rfl (hb hby d7_132) ?_
    show Go _ _ _ _ _ _ _ T16 (mkF m 133 #[.val (.ref a), .val (.int (2 : Int32)), .val (.double (FP.i2d pp)), .second, .val (.double (FP.i2d qq)), .second, .val (.int cc), .val (.int (2 : Int32)), .val (.int (1 : Int32)), .val (.int (1 : Int32)), .val (.int (4 : Int32)), .val (.int (1 : Int32)), .val (.int (2 : Int32))] [(.int (1 : Int32)), (.int (2 : Int32)), (.ref a)])
    refine Go.step (fun _ k => XS.iload X16.here hx rfl (hb hby d7_133) rfl k) ?_
    refine Go.callP X16 hx hZ (by rw [hml]; rfl) (y := (⟨"com/example/headroom/headroom/LowerEnvelope", "lower", "(III)Z"⟩ : MethodName)) (a := a) (argsL := [(.int (2 : Int32)), (.int (1 : Int32)), (.int (1 : Int32))]) (rest := []) hown (hw _ (mI 57 rfl)) (hw _ (mI 58 rfl)) (hw _ (mI 1 rfl)) (hw _ (mI 59 rfl)) (hw _ (mI 2 rfl)) (hw _ (mI 60 rfl)) (by decide) (rm9 l Z a0 hw a xu xv xw (updN fP 2 pp) (updN fQ 2 qq) (updN fC 2 cc) (2 : Int32) (1 : Int32) (1 : Int32) h11 n0 (Nat.le_trans Z0 (K11 : Keep h0 h11 [a, xn, xo, xu, xv, xw, xt, xm]).1) F_base_a_43 F_slope_a_43 F_origin_a_43 V_xu_43 V_xv_43 V_xw_43 spp sqq scc (by decide) (by decide) (own_in (1 : Int32) (by decide))) e16 E_a_43 (hb hby d7_135) (lenOf pd_1 rfl) rfl rfl (W := 0) (Nat.le_of_eq rfl) (by decide) (by decide) (by decide) (by decide) ?_
    intro v17 T17 L17 X17 Q17
    obtain ⟨rfl, N17q, hh17⟩ := Q17
    have N17 := Fr.app N14 N17q
    show Go _ _ _ _ _ _ _ T17 (mkF m 138 #[.val (.ref a), .val (.int (2 : Int32)), .val (.double (FP.i2d pp)), .second, .val (.double (FP.i2d qq)), .second, .val (.int cc), .val (.int (2 : Int32)), .val (.int (1 : Int32)), .val (.int (1 : Int32)), .val (.int (4 : Int32)), .val (.int (1 : Int32)), .val (.int (2 : Int32))] [(.int (lowW (updN fP 2 pp) (updN fQ 2 qq) (updN fC 2 cc) (2 : Int32) (1 : Int32) (1 : Int32)))])
    by_cases hc138_18 : (lowW (updN fP 2 pp) (updN fQ 2 qq) (updN fC 2 cc) (2 : Int32) (1 : Int32) (1 : Int32)) = (0 : Int32)
    · refine Go.step (fun _ k => XS.ifYes X17.here hx rfl (pc0 := 138) (pc' := 154) rfl (hb hby d7_138) rfl ((if0 _ _).trans (teq hc138_18).1) (by decide) (by decide) k) ?_
      show Go _ _ _ _ _ _ _ T17 (mkF m 154 #[.val (.ref a), .val (.int (2 : Int32)), .val (.double (FP.i2d pp)), .second, .val (.double (FP.i2d qq)), .second, .val (.int cc), .val (.int (2 : Int32)), .val (.int (1 : Int32)), .val (.int (1 : Int32)), .val (.int (4 : Int32)), .val (.int (1 : Int32)), .val (.int (2 : Int32))] [])
      refine Go.step (fun _ k => XS.aloadN X17.here hx rfl (hb hby d7_154) rfl rfl k) ?_
      refine Go.step (fun _ k => XS.iload X17.here hx rfl (hb hby d7_155) rfl k) ?_
      refine Go.step (fun _ k => XS.aloadN X17.here hx rfl (hb hby d7_157) rfl rfl k) ?_
      show Go _ _ _ _ _ _ _ T17 (mkF m 158 #[.val (.ref a), .val (.int (2 : Int32)), .val (.double (FP.i2d pp)), .second, .val (.double (FP.i2d qq)), .second, .val (.int cc), .val (.int (2 : Int32)), .val (.int (1 : Int32)), .val (.int (1 : Int32)), .val (.int (4 : Int32)), .val (.int (1 : Int32)), .val (.int (2 : Int32))] [(.ref a), (.int (2 : Int32)), (.ref a)])
      obtain ⟨T19, X19, e19, st19⟩ := getF X17 hx hZ hown (host := "") (Or.inl (hw _ (mI 36 rfl))) Via.refl hh17 F_node_a_43 (g := (mkF m 158 #[.val (.ref a), .val (.int (2 : Int32)), .val (.double (FP.i2d pp)), .second, .val (.double (FP.i2d qq)), .second, .val (.int cc), .val (.int (2 : Int32)), .val (.int (1 : Int32)), .val (.int (1 : Int32)), .val (.int (4 : Int32)), .val (.int (1 : Int32)), .val (.int (2 : Int32))] [(.ref a), (.int (2 : Int32)), (.ref a)])) rfl rfl (hb hby d7_158)
      refine Go.step st19 ?_
      show Go _ _ _ _ _ _ _ T19 (mkF m 161 #[.val (.ref a), .val (.int (2 : Int32)), .val (.double (FP.i2d pp)), .second, .val (.double (FP.i2d qq)), .second, .val (.int cc), .val (.int (2 : Int32)), .val (.int (1 : Int32)), .val (.int (1 : Int32)), .val (.int (4 : Int32)), .val (.int (1 : Int32)), .val (.int (2 : Int32))] [(.ref xt), (.int (2 : Int32)), (.ref a)])
      refine Go.step (fun _ k => XS.iload X19.here hx rfl (hb hby d7_161) rfl k) ?_
      refine Go.iaload X19 hx hZ e19 V_xt_43 (j := (1 : Int32)) (v := (1 : Int32)) (by decide) rfl (hb hby d7_163) ?_
      show Go _ _ _ _ _ _ _ T19 (mkF m 164 #[.val (.ref a), .val (.int (2 : Int32)), .val (.double (FP.i2d pp)), .second, .val (.double (FP.i2d qq)), .second, .val (.int cc), .val (.int (2 : Int32)), .val (.int (1 : Int32)), .val (.int (1 : Int32)), .val (.int (4 : Int32)), .val (.int (1 : Int32)), .val (.int (2 : Int32))] [(.int (1 : Int32)), (.int (2 : Int32)), (.ref a)])
      refine Go.step (fun _ k => XS.iload X19.here hx rfl (hb hby d7_164) rfl k) ?_
      refine Go.callP X19 hx hZ (by rw [hml]; rfl) (y := (⟨"com/example/headroom/headroom/LowerEnvelope", "lower", "(III)Z"⟩ : MethodName)) (a := a) (argsL := [(.int (2 : Int32)), (.int (1 : Int32)), (.int (4 : Int32))]) (rest := []) hown (hw _ (mI 57 rfl)) (hw _ (mI 58 rfl)) (hw _ (mI 1 rfl)) (hw _ (mI 59 rfl)) (hw _ (mI 2 rfl)) (hw _ (mI 60 rfl)) (by decide) (rm9 l Z a0 hw a xu xv xw (updN fP 2 pp) (updN fQ 2 qq) (updN fC 2 cc) (2 : Int32) (1 : Int32) (4 : Int32) h11 n0 (Nat.le_trans Z0 (K11 : Keep h0 h11 [a, xn, xo, xu, xv, xw, xt, xm]).1) F_base_a_43 F_slope_a_43 F_origin_a_43 V_xu_43 V_xv_43 V_xw_43 spp sqq scc (by decide) (by decide) (own_in (4 : Int32) (by decide))) e19 E_a_43 (hb hby d7_166) (lenOf pd_1 rfl) rfl rfl (W := 0) (Nat.le_of_eq rfl) (by decide) (by decide) (by decide) (by decide) ?_
      intro v20 T20 L20 X20 Q20
      obtain ⟨rfl, N20q, hh20⟩ := Q20
      have N20 := Fr.app N17 N20q
      show Go _ _ _ _ _ _ _ T20 (mkF m 169 #[.val (.ref a), .val (.int (2 : Int32)), .val (.double (FP.i2d pp)), .second, .val (.double (FP.i2d qq)), .second, .val (.int cc), .val (.int (2 : Int32)), .val (.int (1 : Int32)), .val (.int (1 : Int32)), .val (.int (4 : Int32)), .val (.int (1 : Int32)), .val (.int (2 : Int32))] [(.int (lowW (updN fP 2 pp) (updN fQ 2 qq) (updN fC 2 cc) (2 : Int32) (1 : Int32) (4 : Int32)))])
      by_cases hc169_21 : (lowW (updN fP 2 pp) (updN fQ 2 qq) (updN fC 2 cc) (2 : Int32) (1 : Int32) (4 : Int32)) = (0 : Int32)
      · refine Go.step (fun _ k => XS.ifYes X20.here hx rfl (pc0 := 169) (pc' := 189) rfl (hb hby d7_169) rfl ((if0 _ _).trans (teq hc169_21).1) (by decide) (by decide) k) ?_
        show Go _ _ _ _ _ _ _ T20 (mkF m 189 #[.val (.ref a), .val (.int (2 : Int32)), .val (.double (FP.i2d pp)), .second, .val (.double (FP.i2d qq)), .second, .val (.int cc), .val (.int (2 : Int32)), .val (.int (1 : Int32)), .val (.int (1 : Int32)), .val (.int (4 : Int32)), .val (.int (1 : Int32)), .val (.int (2 : Int32))] [])
        refine Go.retV X20 hx hlk hret (hb hby d7_189) (by decide) (by decide) ?_
        try rw [hh20]
        obtain ⟨A, B, d1, d2, d3, d4⟩ := own_lin4 (updN fP 2 pp) (updN fQ 2 qq) (updN fC 2 cc)
        have yhc100_15 := own_lowN hc100_15
        rw [own_l21] at yhc100_15
        have yhc138_18 := own_lowN hc138_18
        rw [own_l21] at yhc138_18
        have yhc169_21 := own_lowN hc169_21
        rw [own_l21] at yhc169_21
        exact ⟨rfl, N20, K11, _, _, _, 0, ⟨E_a_43, F_changedNode_a_43, F_changedLine_a_43, F_base_a_43, F_slope_a_43, F_origin_a_43, F_node_a_43, F_pushedAt_a_43, F_width_a_43, F_pushes_a_43, F_changes_a_43, V_xn_43, V_xo_43, V_xu_43, V_xv_43, V_xw_43, V_xt_43, V_xm_43⟩, (Good.refl (updN (fun _ => (0 : Int32)) 1 (1 : Int32)) fN fO 1), by omega, ⟨rfl, rfl, rfl, rfl⟩, (Rng.upd own_r0 (by decide) 1), by decide, by decide, by decide, by decide, own_best (r := (1 : Int32)) (c2 := (0 : Int32)) (c3 := (0 : Int32)) rfl rfl rfl (Or.inr (Or.inr ⟨rfl, Or.inr ⟨rfl, by omega⟩, Or.inr ⟨rfl, by omega⟩⟩)) (Or.inr (Or.inr ⟨rfl, Or.inr ⟨rfl, by omega⟩, Or.inr ⟨rfl, by omega⟩⟩))⟩
      · refine Go.step (fun _ k => XS.ifNo X20.here hx rfl (hb hby d7_169) rfl ((if0 _ _).trans (feq hc169_21).1) k) ?_
        show Go _ _ _ _ _ _ _ T20 (mkF m 172 #[.val (.ref a), .val (.int (2 : Int32)), .val (.double (FP.i2d pp)), .second, .val (.double (FP.i2d qq)), .second, .val (.int cc), .val (.int (2 : Int32)), .val (.int (1 : Int32)), .val (.int (1 : Int32)), .val (.int (4 : Int32)), .val (.int (1 : Int32)), .val (.int (2 : Int32))] [])
        refine Go.step (fun _ k => XS.iconst X20.here hx rfl (hb hby d7_172) k) ?_
        refine Go.step (fun _ k => XS.iload X20.here hx rfl (hb hby d7_173) rfl k) ?_
        refine Go.step (fun _ k => XS.imul X20.here hx rfl (hb hby d7_175) rfl k) ?_
        show Go _ _ _ _ _ _ _ T20 (mkF m 176 #[.val (.ref a), .val (.int (2 : Int32)), .val (.double (FP.i2d pp)), .second, .val (.double (FP.i2d qq)), .second, .val (.int cc), .val (.int (2 : Int32)), .val (.int (1 : Int32)), .val (.int (1 : Int32)), .val (.int (4 : Int32)), .val (.int (1 : Int32)), .val (.int (2 : Int32))] [(.int (2 : Int32))])
        refine Go.step (fun _ k => XS.iconst X20.here hx rfl (hb hby d7_176) k) ?_
        refine Go.step (fun _ k => XS.iadd X20.here hx rfl (hb hby d7_177) rfl k) ?_
        show Go _ _ _ _ _ _ _ T20 (mkF m 178 #[.val (.ref a), .val (.int (2 : Int32)), .val (.double (FP.i2d pp)), .second, .val (.double (FP.i2d qq)), .second, .val (.int cc), .val (.int (2 : Int32)), .val (.int (1 : Int32)), .val (.int (1 : Int32)), .val (.int (4 : Int32)), .val (.int (1 : Int32)), .val (.int (2 : Int32))] [(.int (3 : Int32))])
        refine Go.step (fun _ k => XS.istore X20.here hx rfl (hb hby d7_178) rfl (l' := #[.val (.ref a), .val (.int (2 : Int32)), .val (.double (FP.i2d pp)), .second, .val (.double (FP.i2d qq)), .second, .val (.int cc), .val (.int (2 : Int32)), .val (.int (3 : Int32)), .val (.int (1 : Int32)), .val (.int (4 : Int32)), .val (.int (1 : Int32)), .val (.int (2 : Int32))]) rfl k) ?_
        show Go _ _ _ _ _ _ _ T20 (mkF m 180 #[.val (.ref a), .val (.int (2 : Int32)), .val (.double (FP.i2d pp)), .second, .val (.double (FP.i2d qq)), .second, .val (.int cc), .val (.int (2 : Int32)), .val (.int (3 : Int32)), .val (.int (1 : Int32)), .val (.int (4 : Int32)), .val (.int (1 : Int32)), .val (.int (2 : Int32))] [])
        refine Go.step (fun _ k => XS.iload X20.here hx rfl (hb hby d7_180) rfl k) ?_
        refine Go.step (fun _ k => XS.iconst X20.here hx rfl (hb hby d7_182) k) ?_
        refine Go.step (fun _ k => XS.iadd X20.here hx rfl (hb hby d7_183) rfl k) ?_
        show Go _ _ _ _ _ _ _ T20 (mkF m 184 #[.val (.ref a), .val (.int (2 : Int32)), .val (.double (FP.i2d pp)), .second, .val (.double (FP.i2d qq)), .second, .val (.int cc), .val (.int (2 : Int32)), .val (.int (3 : Int32)), .val (.int (1 : Int32)), .val (.int (4 : Int32)), .val (.int (1 : Int32)), .val (.int (2 : Int32))] [(.int (3 : Int32))])
        refine Go.step (fun _ k => XS.istore X20.here hx rfl (hb hby d7_184) rfl (l' := #[.val (.ref a), .val (.int (2 : Int32)), .val (.double (FP.i2d pp)), .second, .val (.double (FP.i2d qq)), .second, .val (.int cc), .val (.int (2 : Int32)), .val (.int (3 : Int32)), .val (.int (3 : Int32)), .val (.int (4 : Int32)), .val (.int (1 : Int32)), .val (.int (2 : Int32))]) rfl k) ?_
        show Go _ _ _ _ _ _ _ T20 (mkF m 186 #[.val (.ref a), .val (.int (2 : Int32)), .val (.double (FP.i2d pp)), .second, .val (.double (FP.i2d qq)), .second, .val (.int cc), .val (.int (2 : Int32)), .val (.int (3 : Int32)), .val (.int (3 : Int32)), .val (.int (4 : Int32)), .val (.int (1 : Int32)), .val (.int (2 : Int32))] [])
        refine Go.step (fun _ k => XS.goto X20.here hx rfl (pc0 := 186) (pc' := 190) rfl (hb hby d7_186) (by decide) (by decide) k) ?_
        show Go _ _ _ _ _ _ _ T20 (mkF m 190 #[.val (.ref a), .val (.int (2 : Int32)), .val (.double (FP.i2d pp)), .second, .val (.double (FP.i2d qq)), .second, .val (.int cc), .val (.int (2 : Int32)), .val (.int (3 : Int32)), .val (.int (3 : Int32)), .val (.int (4 : Int32)), .val (.int (1 : Int32)), .val (.int (2 : Int32))] [])
        refine Go.step (fun _ k => XS.goto X20.here hx rfl (pc0 := 190) (pc' := 58) rfl (hb hby d7_190) (by decide) (by decide) k) ?_
        show Go _ _ _ _ _ _ _ T20 (mkF m 58 #[.val (.ref a), .val (.int (2 : Int32)), .val (.double (FP.i2d pp)), .second, .val (.double (FP.i2d qq)), .second, .val (.int cc), .val (.int (2 : Int32)), .val (.int (3 : Int32)), .val (.int (3 : Int32)), .val (.int (4 : Int32)), .val (.int (1 : Int32)), .val (.int (2 : Int32))] [])
        refine Go.step (fun _ k => XS.aloadN X20.here hx rfl (hb hby d7_58) rfl rfl k) ?_
        obtain ⟨T22, X22, e22, st22⟩ := getF X20 hx hZ hown (host := "") (Or.inl (hw _ (mI 36 rfl))) Via.refl hh20 F_node_a_43 (g := (mkF m 59 #[.val (.ref a), .val (.int (2 : Int32)), .val (.double (FP.i2d pp)), .second, .val (.double (FP.i2d qq)), .second, .val (.int cc), .val (.int (2 : Int32)), .val (.int (3 : Int32)), .val (.int (3 : Int32)), .val (.int (4 : Int32)), .val (.int (1 : Int32)), .val (.int (2 : Int32))] [(.ref a)])) rfl rfl (hb hby d7_59)
        refine Go.step st22 ?_
        show Go _ _ _ _ _ _ _ T22 (mkF m 62 #[.val (.ref a), .val (.int (2 : Int32)), .val (.double (FP.i2d pp)), .second, .val (.double (FP.i2d qq)), .second, .val (.int cc), .val (.int (2 : Int32)), .val (.int (3 : Int32)), .val (.int (3 : Int32)), .val (.int (4 : Int32)), .val (.int (1 : Int32)), .val (.int (2 : Int32))] [(.ref xt)])
        refine Go.step (fun _ k => XS.iload X22.here hx rfl (hb hby d7_62) rfl k) ?_
        refine Go.iaload X22 hx hZ e22 V_xt_43 (j := (3 : Int32)) (v := (0 : Int32)) (by decide) rfl (hb hby d7_64) ?_
        show Go _ _ _ _ _ _ _ T22 (mkF m 65 #[.val (.ref a), .val (.int (2 : Int32)), .val (.double (FP.i2d pp)), .second, .val (.double (FP.i2d qq)), .second, .val (.int cc), .val (.int (2 : Int32)), .val (.int (3 : Int32)), .val (.int (3 : Int32)), .val (.int (4 : Int32)), .val (.int (1 : Int32)), .val (.int (2 : Int32))] [(.int (0 : Int32))])
        refine Go.step (fun _ k => XS.istore X22.here hx rfl (hb hby d7_65) rfl (l' := #[.val (.ref a), .val (.int (2 : Int32)), .val (.double (FP.i2d pp)), .second, .val (.double (FP.i2d qq)), .second, .val (.int cc), .val (.int (2 : Int32)), .val (.int (3 : Int32)), .val (.int (3 : Int32)), .val (.int (4 : Int32)), .val (.int (0 : Int32)), .val (.int (2 : Int32))]) rfl k) ?_
        show Go _ _ _ _ _ _ _ T22 (mkF m 67 #[.val (.ref a), .val (.int (2 : Int32)), .val (.double (FP.i2d pp)), .second, .val (.double (FP.i2d qq)), .second, .val (.int cc), .val (.int (2 : Int32)), .val (.int (3 : Int32)), .val (.int (3 : Int32)), .val (.int (4 : Int32)), .val (.int (0 : Int32)), .val (.int (2 : Int32))] [])
        refine Go.step (fun _ k => XS.iload X22.here hx rfl (hb hby d7_67) rfl k) ?_
        refine Go.step (fun _ k => XS.ifNo X22.here hx rfl (hb hby d7_69) rfl ((if0 _ _).trans (teq (by decide : (0 : Int32) = (0 : Int32))).2) k) ?_
        show Go _ _ _ _ _ _ _ T22 (mkF m 72 #[.val (.ref a), .val (.int (2 : Int32)), .val (.double (FP.i2d pp)), .second, .val (.double (FP.i2d qq)), .second, .val (.int cc), .val (.int (2 : Int32)), .val (.int (3 : Int32)), .val (.int (3 : Int32)), .val (.int (4 : Int32)), .val (.int (0 : Int32)), .val (.int (2 : Int32))] [])
        refine Go.step (fun _ k => XS.aloadN X22.here hx rfl (hb hby d7_72) rfl rfl k) ?_
        refine Go.step (fun _ k => XS.iload X22.here hx rfl (hb hby d7_73) rfl k) ?_
        refine Go.step (fun _ k => XS.iload X22.here hx rfl (hb hby d7_75) rfl k) ?_
        show Go _ _ _ _ _ _ _ T22 (mkF m 77 #[.val (.ref a), .val (.int (2 : Int32)), .val (.double (FP.i2d pp)), .second, .val (.double (FP.i2d qq)), .second, .val (.int cc), .val (.int (2 : Int32)), .val (.int (3 : Int32)), .val (.int (3 : Int32)), .val (.int (4 : Int32)), .val (.int (0 : Int32)), .val (.int (2 : Int32))] [(.int (2 : Int32)), (.int (3 : Int32)), (.ref a)])
        refine Go.callP X22 hx hZ (by rw [hml]; rfl) (y := (⟨"com/example/headroom/headroom/LowerEnvelope", "write", "(II)V"⟩ : MethodName)) (a := a) (argsL := [(.int (3 : Int32)), (.int (2 : Int32))]) (rest := []) hown (hw _ (mI 53 rfl)) (hw _ (mI 54 rfl)) (hw _ (mI 1 rfl)) (hw _ (mI 55 rfl)) (hw _ (mI 2 rfl)) (hw _ (mI 56 rfl)) (by decide) (rm8 l Z a0 hw a xn xo xu xv xw xt xm (updN fP 2 pp) (updN fQ 2 qq) (updN fC 2 cc) (updN (fun _ => (0 : Int32)) 1 (1 : Int32)) (updN fM 1 (1 : Int32)) fN fO 2 1 (3 : Int32) (2 : Int32) h11 n0 (Nat.le_trans Z0 (K11 : Keep h0 h11 [a, xn, xo, xu, xv, xw, xt, xm]).1) ⟨E_a_43, F_changedNode_a_43, F_changedLine_a_43, F_base_a_43, F_slope_a_43, F_origin_a_43, F_node_a_43, F_pushedAt_a_43, F_width_a_43, F_pushes_a_43, F_changes_a_43, V_xn_43, V_xo_43, V_xu_43, V_xv_43, V_xw_43, V_xt_43, V_xm_43⟩ hD (by decide) (by omega)) e22 E_a_43 (hb hby d7_77) (lenOf pd_0 rfl) rfl rfl (W := 0) (Nat.le_of_eq rfl) (by decide) (by decide) (by decide) (by decide) ?_
        intro v23 T23 L23 X23 Q23
        obtain ⟨rfl, N23q, Kc23, hL23⟩ := Q23
        have N23 := Fr.app N20 N23q
        have E_a_23 := E_a_43.keep Kc23
        have KK23 : Keep h0 T23.heap [a, xn, xo, xu, xv, xw, xt, xm] := (K11 : Keep h0 h11 [a, xn, xo, xu, xv, xw, xt, xm]).trans Kc23 (allS (Or.inl (List.mem_of_getElem? (i := 0) rfl)) (allS (Or.inl (List.mem_of_getElem? (i := 1) rfl)) (allS (Or.inl (List.mem_of_getElem? (i := 2) rfl)) (allS (Or.inl (List.mem_of_getElem? (i := 3) rfl)) (allS (Or.inl (List.mem_of_getElem? (i := 4) rfl)) (allS (Or.inl (List.mem_of_getElem? (i := 5) rfl)) (allS (Or.inl (List.mem_of_getElem? (i := 6) rfl)) (allS (Or.inl (List.mem_of_getElem? (i := 7) rfl)) all0))))))))
        have hL23x : LEs Z T23.heap a xn xo xu xv xw xt xm (updN fP 2 pp) (updN fQ 2 qq) (updN fC 2 cc) (updN (updN (fun _ => (0 : Int32)) 1 (1 : Int32)) 3 (2 : Int32)) (updN fM 1 (1 : Int32)) (updN fN 1 (3 : Int32)) (updN fO 1 ((updN (fun _ => (0 : Int32)) 1 (1 : Int32)) 3)) 2 (1 + 1) := hL23
        have hG23 := Good.write (Good.refl (updN (fun _ => (0 : Int32)) 1 (1 : Int32)) fN fO 1) (k := (3 : Int32)) (by decide) (2 : Int32)
        obtain ⟨E_a_23, F_changedNode_a_23, F_changedLine_a_23, F_base_a_23, F_slope_a_23, F_origin_a_23, F_node_a_23, F_pushedAt_a_23, F_width_a_23, F_pushes_a_23, F_changes_a_23, V_xn_23, V_xo_23, V_xu_23, V_xv_23, V_xw_23, V_xt_23, V_xm_23⟩ := hL23x
        show Go _ _ _ _ _ _ _ T23 (mkF m 80 #[.val (.ref a), .val (.int (2 : Int32)), .val (.double (FP.i2d pp)), .second, .val (.double (FP.i2d qq)), .second, .val (.int cc), .val (.int (2 : Int32)), .val (.int (3 : Int32)), .val (.int (3 : Int32)), .val (.int (4 : Int32)), .val (.int (0 : Int32)), .val (.int (2 : Int32))] [])
        refine Go.retV X23 hx hlk hret (hb hby d7_80) (by decide) (by decide) ?_
        obtain ⟨A, B, d1, d2, d3, d4⟩ := own_lin4 (updN fP 2 pp) (updN fQ 2 qq) (updN fC 2 cc)
        have yhc100_15 := own_lowN hc100_15
        rw [own_l21] at yhc100_15
        have yhc138_18 := own_lowN hc138_18
        rw [own_l21] at yhc138_18
        have yhc169_21 := own_lowY hc169_21
        rw [own_l21] at yhc169_21
        exact ⟨rfl, N23, KK23, _, _, _, (0 + 1), ⟨E_a_23, F_changedNode_a_23, F_changedLine_a_23, F_base_a_23, F_slope_a_23, F_origin_a_23, F_node_a_23, F_pushedAt_a_23, F_width_a_23, F_pushes_a_23, F_changes_a_23, V_xn_23, V_xo_23, V_xu_23, V_xv_23, V_xw_23, V_xt_23, V_xm_23⟩, hG23, by omega, ⟨rfl, rfl, rfl, rfl⟩, (Rng.upd (Rng.upd own_r0 (by decide) 1) (by decide) 3), by decide, by decide, by decide, by decide, own_best (r := (1 : Int32)) (c2 := (0 : Int32)) (c3 := (2 : Int32)) rfl rfl rfl (Or.inr (Or.inr ⟨rfl, Or.inr ⟨rfl, by omega⟩, Or.inr ⟨rfl, by omega⟩⟩)) (Or.inl ⟨rfl, rfl⟩)⟩
    · refine Go.step (fun _ k => XS.ifNo X17.here hx rfl (hb hby d7_138) rfl ((if0 _ _).trans (feq hc138_18).1) k) ?_
      show Go _ _ _ _ _ _ _ T17 (mkF m 141 #[.val (.ref a), .val (.int (2 : Int32)), .val (.double (FP.i2d pp)), .second, .val (.double (FP.i2d qq)), .second, .val (.int cc), .val (.int (2 : Int32)), .val (.int (1 : Int32)), .val (.int (1 : Int32)), .val (.int (4 : Int32)), .val (.int (1 : Int32)), .val (.int (2 : Int32))] [])
      refine Go.step (fun _ k => XS.iconst X17.here hx rfl (hb hby d7_141) k) ?_
      refine Go.step (fun _ k => XS.iload X17.here hx rfl (hb hby d7_142) rfl k) ?_
      refine Go.step (fun _ k => XS.imul X17.here hx rfl (hb hby d7_144) rfl k) ?_
      show Go _ _ _ _ _ _ _ T17 (mkF m 145 #[.val (.ref a), .val (.int (2 : Int32)), .val (.double (FP.i2d pp)), .second, .val (.double (FP.i2d qq)), .second, .val (.int cc), .val (.int (2 : Int32)), .val (.int (1 : Int32)), .val (.int (1 : Int32)), .val (.int (4 : Int32)), .val (.int (1 : Int32)), .val (.int (2 : Int32))] [(.int (2 : Int32))])
      refine Go.step (fun _ k => XS.istore X17.here hx rfl (hb hby d7_145) rfl (l' := #[.val (.ref a), .val (.int (2 : Int32)), .val (.double (FP.i2d pp)), .second, .val (.double (FP.i2d qq)), .second, .val (.int cc), .val (.int (2 : Int32)), .val (.int (2 : Int32)), .val (.int (1 : Int32)), .val (.int (4 : Int32)), .val (.int (1 : Int32)), .val (.int (2 : Int32))]) rfl k) ?_
      show Go _ _ _ _ _ _ _ T17 (mkF m 147 #[.val (.ref a), .val (.int (2 : Int32)), .val (.double (FP.i2d pp)), .second, .val (.double (FP.i2d qq)), .second, .val (.int cc), .val (.int (2 : Int32)), .val (.int (2 : Int32)), .val (.int (1 : Int32)), .val (.int (4 : Int32)), .val (.int (1 : Int32)), .val (.int (2 : Int32))] [])
      refine Go.step (fun _ k => XS.iload X17.here hx rfl (hb hby d7_147) rfl k) ?_
      refine Go.step (fun _ k => XS.istore X17.here hx rfl (hb hby d7_149) rfl (l' := #[.val (.ref a), .val (.int (2 : Int32)), .val (.double (FP.i2d pp)), .second, .val (.double (FP.i2d qq)), .second, .val (.int cc), .val (.int (2 : Int32)), .val (.int (2 : Int32)), .val (.int (1 : Int32)), .val (.int (2 : Int32)), .val (.int (1 : Int32)), .val (.int (2 : Int32))]) rfl k) ?_
      show Go _ _ _ _ _ _ _ T17 (mkF m 151 #[.val (.ref a), .val (.int (2 : Int32)), .val (.double (FP.i2d pp)), .second, .val (.double (FP.i2d qq)), .second, .val (.int cc), .val (.int (2 : Int32)), .val (.int (2 : Int32)), .val (.int (1 : Int32)), .val (.int (2 : Int32)), .val (.int (1 : Int32)), .val (.int (2 : Int32))] [])
      refine Go.step (fun _ k => XS.goto X17.here hx rfl (pc0 := 151) (pc' := 190) rfl (hb hby d7_151) (by decide) (by decide) k) ?_
      show Go _ _ _ _ _ _ _ T17 (mkF m 190 #[.val (.ref a), .val (.int (2 : Int32)), .val (.double (FP.i2d pp)), .second, .val (.double (FP.i2d qq)), .second, .val (.int cc), .val (.int (2 : Int32)), .val (.int (2 : Int32)), .val (.int (1 : Int32)), .val (.int (2 : Int32)), .val (.int (1 : Int32)), .val (.int (2 : Int32))] [])
      refine Go.step (fun _ k => XS.goto X17.here hx rfl (pc0 := 190) (pc' := 58) rfl (hb hby d7_190) (by decide) (by decide) k) ?_
      show Go _ _ _ _ _ _ _ T17 (mkF m 58 #[.val (.ref a), .val (.int (2 : Int32)), .val (.double (FP.i2d pp)), .second, .val (.double (FP.i2d qq)), .second, .val (.int cc), .val (.int (2 : Int32)), .val (.int (2 : Int32)), .val (.int (1 : Int32)), .val (.int (2 : Int32)), .val (.int (1 : Int32)), .val (.int (2 : Int32))] [])
      refine Go.step (fun _ k => XS.aloadN X17.here hx rfl (hb hby d7_58) rfl rfl k) ?_
      obtain ⟨T24, X24, e24, st24⟩ := getF X17 hx hZ hown (host := "") (Or.inl (hw _ (mI 36 rfl))) Via.refl hh17 F_node_a_43 (g := (mkF m 59 #[.val (.ref a), .val (.int (2 : Int32)), .val (.double (FP.i2d pp)), .second, .val (.double (FP.i2d qq)), .second, .val (.int cc), .val (.int (2 : Int32)), .val (.int (2 : Int32)), .val (.int (1 : Int32)), .val (.int (2 : Int32)), .val (.int (1 : Int32)), .val (.int (2 : Int32))] [(.ref a)])) rfl rfl (hb hby d7_59)
      refine Go.step st24 ?_
      show Go _ _ _ _ _ _ _ T24 (mkF m 62 #[.val (.ref a), .val (.int (2 : Int32)), .val (.double (FP.i2d pp)), .second, .val (.double (FP.i2d qq)), .second, .val (.int cc), .val (.int (2 : Int32)), .val (.int (2 : Int32)), .val (.int (1 : Int32)), .val (.int (2 : Int32)), .val (.int (1 : Int32)), .val (.int (2 : Int32))] [(.ref xt)])
      refine Go.step (fun _ k => XS.iload X24.here hx rfl (hb hby d7_62) rfl k) ?_
      refine Go.iaload X24 hx hZ e24 V_xt_43 (j := (2 : Int32)) (v := (0 : Int32)) (by decide) rfl (hb hby d7_64) ?_
      show Go _ _ _ _ _ _ _ T24 (mkF m 65 #[.val (.ref a), .val (.int (2 : Int32)), .val (.double (FP.i2d pp)), .second, .val (.double (FP.i2d qq)), .second, .val (.int cc), .val (.int (2 : Int32)), .val (.int (2 : Int32)), .val (.int (1 : Int32)), .val (.int (2 : Int32)), .val (.int (1 : Int32)), .val (.int (2 : Int32))] [(.int (0 : Int32))])
      refine Go.step (fun _ k => XS.istore X24.here hx rfl (hb hby d7_65) rfl (l' := #[.val (.ref a), .val (.int (2 : Int32)), .val (.double (FP.i2d pp)), .second, .val (.double (FP.i2d qq)), .second, .val (.int cc), .val (.int (2 : Int32)), .val (.int (2 : Int32)), .val (.int (1 : Int32)), .val (.int (2 : Int32)), .val (.int (0 : Int32)), .val (.int (2 : Int32))]) rfl k) ?_
      show Go _ _ _ _ _ _ _ T24 (mkF m 67 #[.val (.ref a), .val (.int (2 : Int32)), .val (.double (FP.i2d pp)), .second, .val (.double (FP.i2d qq)), .second, .val (.int cc), .val (.int (2 : Int32)), .val (.int (2 : Int32)), .val (.int (1 : Int32)), .val (.int (2 : Int32)), .val (.int (0 : Int32)), .val (.int (2 : Int32))] [])
      refine Go.step (fun _ k => XS.iload X24.here hx rfl (hb hby d7_67) rfl k) ?_
      refine Go.step (fun _ k => XS.ifNo X24.here hx rfl (hb hby d7_69) rfl ((if0 _ _).trans (teq (by decide : (0 : Int32) = (0 : Int32))).2) k) ?_
      show Go _ _ _ _ _ _ _ T24 (mkF m 72 #[.val (.ref a), .val (.int (2 : Int32)), .val (.double (FP.i2d pp)), .second, .val (.double (FP.i2d qq)), .second, .val (.int cc), .val (.int (2 : Int32)), .val (.int (2 : Int32)), .val (.int (1 : Int32)), .val (.int (2 : Int32)), .val (.int (0 : Int32)), .val (.int (2 : Int32))] [])
      refine Go.step (fun _ k => XS.aloadN X24.here hx rfl (hb hby d7_72) rfl rfl k) ?_
      refine Go.step (fun _ k => XS.iload X24.here hx rfl (hb hby d7_73) rfl k) ?_
      refine Go.step (fun _ k => XS.iload X24.here hx rfl (hb hby d7_75) rfl k) ?_
      show Go _ _ _ _ _ _ _ T24 (mkF m 77 #[.val (.ref a), .val (.int (2 : Int32)), .val (.double (FP.i2d pp)), .second, .val (.double (FP.i2d qq)), .second, .val (.int cc), .val (.int (2 : Int32)), .val (.int (2 : Int32)), .val (.int (1 : Int32)), .val (.int (2 : Int32)), .val (.int (0 : Int32)), .val (.int (2 : Int32))] [(.int (2 : Int32)), (.int (2 : Int32)), (.ref a)])
      refine Go.callP X24 hx hZ (by rw [hml]; rfl) (y := (⟨"com/example/headroom/headroom/LowerEnvelope", "write", "(II)V"⟩ : MethodName)) (a := a) (argsL := [(.int (2 : Int32)), (.int (2 : Int32))]) (rest := []) hown (hw _ (mI 53 rfl)) (hw _ (mI 54 rfl)) (hw _ (mI 1 rfl)) (hw _ (mI 55 rfl)) (hw _ (mI 2 rfl)) (hw _ (mI 56 rfl)) (by decide) (rm8 l Z a0 hw a xn xo xu xv xw xt xm (updN fP 2 pp) (updN fQ 2 qq) (updN fC 2 cc) (updN (fun _ => (0 : Int32)) 1 (1 : Int32)) (updN fM 1 (1 : Int32)) fN fO 2 1 (2 : Int32) (2 : Int32) h11 n0 (Nat.le_trans Z0 (K11 : Keep h0 h11 [a, xn, xo, xu, xv, xw, xt, xm]).1) ⟨E_a_43, F_changedNode_a_43, F_changedLine_a_43, F_base_a_43, F_slope_a_43, F_origin_a_43, F_node_a_43, F_pushedAt_a_43, F_width_a_43, F_pushes_a_43, F_changes_a_43, V_xn_43, V_xo_43, V_xu_43, V_xv_43, V_xw_43, V_xt_43, V_xm_43⟩ hD (by decide) (by omega)) e24 E_a_43 (hb hby d7_77) (lenOf pd_0 rfl) rfl rfl (W := 0) (Nat.le_of_eq rfl) (by decide) (by decide) (by decide) (by decide) ?_
      intro v25 T25 L25 X25 Q25
      obtain ⟨rfl, N25q, Kc25, hL25⟩ := Q25
      have N25 := Fr.app N17 N25q
      have E_a_25 := E_a_43.keep Kc25
      have KK25 : Keep h0 T25.heap [a, xn, xo, xu, xv, xw, xt, xm] := (K11 : Keep h0 h11 [a, xn, xo, xu, xv, xw, xt, xm]).trans Kc25 (allS (Or.inl (List.mem_of_getElem? (i := 0) rfl)) (allS (Or.inl (List.mem_of_getElem? (i := 1) rfl)) (allS (Or.inl (List.mem_of_getElem? (i := 2) rfl)) (allS (Or.inl (List.mem_of_getElem? (i := 3) rfl)) (allS (Or.inl (List.mem_of_getElem? (i := 4) rfl)) (allS (Or.inl (List.mem_of_getElem? (i := 5) rfl)) (allS (Or.inl (List.mem_of_getElem? (i := 6) rfl)) (allS (Or.inl (List.mem_of_getElem? (i := 7) rfl)) all0))))))))
      have hL25x : LEs Z T25.heap a xn xo xu xv xw xt xm (updN fP 2 pp) (updN fQ 2 qq) (updN fC 2 cc) (updN (updN (fun _ => (0 : Int32)) 1 (1 : Int32)) 2 (2 : Int32)) (updN fM 1 (1 : Int32)) (updN fN 1 (2 : Int32)) (updN fO 1 ((updN (fun _ => (0 : Int32)) 1 (1 : Int32)) 2)) 2 (1 + 1) := hL25
      have hG25 := Good.write (Good.refl (updN (fun _ => (0 : Int32)) 1 (1 : Int32)) fN fO 1) (k := (2 : Int32)) (by decide) (2 : Int32)
      obtain ⟨E_a_25, F_changedNode_a_25, F_changedLine_a_25, F_base_a_25, F_slope_a_25, F_origin_a_25, F_node_a_25, F_pushedAt_a_25, F_width_a_25, F_pushes_a_25, F_changes_a_25, V_xn_25, V_xo_25, V_xu_25, V_xv_25, V_xw_25, V_xt_25, V_xm_25⟩ := hL25x
      show Go _ _ _ _ _ _ _ T25 (mkF m 80 #[.val (.ref a), .val (.int (2 : Int32)), .val (.double (FP.i2d pp)), .second, .val (.double (FP.i2d qq)), .second, .val (.int cc), .val (.int (2 : Int32)), .val (.int (2 : Int32)), .val (.int (1 : Int32)), .val (.int (2 : Int32)), .val (.int (0 : Int32)), .val (.int (2 : Int32))] [])
      refine Go.retV X25 hx hlk hret (hb hby d7_80) (by decide) (by decide) ?_
      obtain ⟨A, B, d1, d2, d3, d4⟩ := own_lin4 (updN fP 2 pp) (updN fQ 2 qq) (updN fC 2 cc)
      have yhc100_15 := own_lowN hc100_15
      rw [own_l21] at yhc100_15
      have yhc138_18 := own_lowY hc138_18
      rw [own_l21] at yhc138_18
      exact ⟨rfl, N25, KK25, _, _, _, (0 + 1), ⟨E_a_25, F_changedNode_a_25, F_changedLine_a_25, F_base_a_25, F_slope_a_25, F_origin_a_25, F_node_a_25, F_pushedAt_a_25, F_width_a_25, F_pushes_a_25, F_changes_a_25, V_xn_25, V_xo_25, V_xu_25, V_xv_25, V_xw_25, V_xt_25, V_xm_25⟩, hG25, by omega, ⟨rfl, rfl, rfl, rfl⟩, (Rng.upd (Rng.upd own_r0 (by decide) 1) (by decide) 2), by decide, by decide, by decide, by decide, own_best (r := (1 : Int32)) (c2 := (2 : Int32)) (c3 := (0 : Int32)) rfl rfl rfl (Or.inl ⟨rfl, rfl⟩) (Or.inr (Or.inr ⟨rfl, Or.inr ⟨rfl, by omega⟩, Or.inr ⟨rfl, by omega⟩⟩))⟩
  · refine Go.step (fun _ k => XS.ifNo X14.here hx rfl (hb hby d7_100) rfl ((if0 _ _).trans (feq hc100_15).1) k) ?_
    show Go _ _ _ _ _ _ _ T14 (mkF m 103 #[.val (.ref a), .val (.int (2 : Int32)), .val (.double (FP.i2d pp)), .second, .val (.double (FP.i2d qq)), .second, .val (.int cc), .val (.int (2 : Int32)), .val (.int (1 : Int32)), .val (.int (1 : Int32)), .val (.int (4 : Int32)), .val (.int (1 : Int32)), .val (.int (2 : Int32))] [])
    refine Go.step (fun _ k => XS.aloadN X14.here hx rfl (hb hby d7_103) rfl rfl k) ?_
    refine Go.step (fun _ k => XS.iload X14.here hx rfl (hb hby d7_104) rfl k) ?_
    refine Go.step (fun _ k => XS.iload X14.here hx rfl (hb hby d7_106) rfl k) ?_
    show Go _ _ _ _ _ _ _ T14 (mkF m 108 #[.val (.ref a), .val (.int (2 : Int32)), .val (.double (FP.i2d pp)), .second, .val (.double (FP.i2d qq)), .second, .val (.int cc), .val (.int (2 : Int32)), .val (.int (1 : Int32)), .val (.int (1 : Int32)), .val (.int (4 : Int32)), .val (.int (1 : Int32)), .val (.int (2 : Int32))] [(.int (2 : Int32)), (.int (1 : Int32)), (.ref a)])
    refine Go.callP X14 hx hZ (by rw [hml]; rfl) (y := (⟨"com/example/headroom/headroom/LowerEnvelope", "write", "(II)V"⟩ : MethodName)) (a := a) (argsL := [(.int (1 : Int32)), (.int (2 : Int32))]) (rest := []) hown (hw _ (mI 53 rfl)) (hw _ (mI 54 rfl)) (hw _ (mI 1 rfl)) (hw _ (mI 55 rfl)) (hw _ (mI 2 rfl)) (hw _ (mI 56 rfl)) (by decide) (rm8 l Z a0 hw a xn xo xu xv xw xt xm (updN fP 2 pp) (updN fQ 2 qq) (updN fC 2 cc) (updN (fun _ => (0 : Int32)) 1 (1 : Int32)) (updN fM 1 (1 : Int32)) fN fO 2 1 (1 : Int32) (2 : Int32) h11 n0 (Nat.le_trans Z0 (K11 : Keep h0 h11 [a, xn, xo, xu, xv, xw, xt, xm]).1) ⟨E_a_43, F_changedNode_a_43, F_changedLine_a_43, F_base_a_43, F_slope_a_43, F_origin_a_43, F_node_a_43, F_pushedAt_a_43, F_width_a_43, F_pushes_a_43, F_changes_a_43, V_xn_43, V_xo_43, V_xu_43, V_xv_43, V_xw_43, V_xt_43, V_xm_43⟩ hD (by decide) (by omega)) hh14 E_a_43 (hb hby d7_108) (lenOf pd_0 rfl) rfl rfl (W := 0) (Nat.le_of_eq rfl) (by decide) (by decide) (by decide) (by decide) ?_
    intro v26 T26 L26 X26 Q26
    obtain ⟨rfl, N26q, Kc26, hL26⟩ := Q26
    have N26 := Fr.app N14 N26q
    have E_a_26 := E_a_43.keep Kc26
    have KK26 : Keep h0 T26.heap [a, xn, xo, xu, xv, xw, xt, xm] := (K11 : Keep h0 h11 [a, xn, xo, xu, xv, xw, xt, xm]).trans Kc26 (allS (Or.inl (List.mem_of_getElem? (i := 0) rfl)) (allS (Or.inl (List.mem_of_getElem? (i := 1) rfl)) (allS (Or.inl (List.mem_of_getElem? (i := 2) rfl)) (allS (Or.inl (List.mem_of_getElem? (i := 3) rfl)) (allS (Or.inl (List.mem_of_getElem? (i := 4) rfl)) (allS (Or.inl (List.mem_of_getElem? (i := 5) rfl)) (allS (Or.inl (List.mem_of_getElem? (i := 6) rfl)) (allS (Or.inl (List.mem_of_getElem? (i := 7) rfl)) all0))))))))
    have hL26x : LEs Z T26.heap a xn xo xu xv xw xt xm (updN fP 2 pp) (updN fQ 2 qq) (updN fC 2 cc) (updN (updN (fun _ => (0 : Int32)) 1 (1 : Int32)) 1 (2 : Int32)) (updN fM 1 (1 : Int32)) (updN fN 1 (1 : Int32)) (updN fO 1 ((updN (fun _ => (0 : Int32)) 1 (1 : Int32)) 1)) 2 (1 + 1) := hL26
    have hG26 := Good.write (Good.refl (updN (fun _ => (0 : Int32)) 1 (1 : Int32)) fN fO 1) (k := (1 : Int32)) (by decide) (2 : Int32)
    obtain ⟨E_a_26, F_changedNode_a_26, F_changedLine_a_26, F_base_a_26, F_slope_a_26, F_origin_a_26, F_node_a_26, F_pushedAt_a_26, F_width_a_26, F_pushes_a_26, F_changes_a_26, V_xn_26, V_xo_26, V_xu_26, V_xv_26, V_xw_26, V_xt_26, V_xm_26⟩ := hL26x
    show Go _ _ _ _ _ _ _ T26 (mkF m 111 #[.val (.ref a), .val (.int (2 : Int32)), .val (.double (FP.i2d pp)), .second, .val (.double (FP.i2d qq)), .second, .val (.int cc), .val (.int (2 : Int32)), .val (.int (1 : Int32)), .val (.int (1 : Int32)), .val (.int (4 : Int32)), .val (.int (1 : Int32)), .val (.int (2 : Int32))] [])
    refine Go.step (fun _ k => XS.iload X26.here hx rfl (hb hby d7_111) rfl k) ?_
    refine Go.step (fun _ k => XS.istore X26.here hx rfl (hb hby d7_113) rfl (l' := #[.val (.ref a), .val (.int (2 : Int32)), .val (.double (FP.i2d pp)), .second, .val (.double (FP.i2d qq)), .second, .val (.int cc), .val (.int (1 : Int32)), .val (.int (1 : Int32)), .val (.int (1 : Int32)), .val (.int (4 : Int32)), .val (.int (1 : Int32)), .val (.int (2 : Int32))]) rfl k) ?_
    show Go _ _ _ _ _ _ _ T26 (mkF m 115 #[.val (.ref a), .val (.int (2 : Int32)), .val (.double (FP.i2d pp)), .second, .val (.double (FP.i2d qq)), .second, .val (.int cc), .val (.int (1 : Int32)), .val (.int (1 : Int32)), .val (.int (1 : Int32)), .val (.int (4 : Int32)), .val (.int (1 : Int32)), .val (.int (2 : Int32))] [])
    refine Go.step (fun _ k => XS.iload X26.here hx rfl (hb hby d7_115) rfl k) ?_
    refine Go.step (fun _ k => XS.iload X26.here hx rfl (hb hby d7_117) rfl k) ?_
    refine Go.step (fun _ k => XS.icmpYes X26.here hx rfl (pc0 := 119) (pc' := 123) rfl (hb hby d7_119) rfl (feq (by decide : ¬ ((1 : Int32) = (4 : Int32)))).2 (by decide) (by decide) k) ?_
    show Go _ _ _ _ _ _ _ T26 (mkF m 123 #[.val (.ref a), .val (.int (2 : Int32)), .val (.double (FP.i2d pp)), .second, .val (.double (FP.i2d qq)), .second, .val (.int cc), .val (.int (1 : Int32)), .val (.int (1 : Int32)), .val (.int (1 : Int32)), .val (.int (4 : Int32)), .val (.int (1 : Int32)), .val (.int (2 : Int32))] [])
    refine Go.step (fun _ k => XS.aloadN X26.here hx rfl (hb hby d7_123) rfl rfl k) ?_
    refine Go.step (fun _ k => XS.iload X26.here hx rfl (hb hby d7_124) rfl k) ?_
    refine Go.step (fun _ k => XS.aloadN X26.here hx rfl (hb hby d7_126) rfl rfl k) ?_
    show Go _ _ _ _ _ _ _ T26 (mkF m 127 #[.val (.ref a), .val (.int (2 : Int32)), .val (.double (FP.i2d pp)), .second, .val (.double (FP.i2d qq)), .second, .val (.int cc), .val (.int (1 : Int32)), .val (.int (1 : Int32)), .val (.int (1 : Int32)), .val (.int (4 : Int32)), .val (.int (1 : Int32)), .val (.int (2 : Int32))] [(.ref a), (.int (1 : Int32)), (.ref a)])
    obtain ⟨T27, X27, e27, st27⟩ := getF X26 hx hZ hown (host := "") (Or.inl (hw _ (mI 36 rfl))) Via.refl rfl F_node_a_26 (g := (mkF m 127 #[.val (.ref a), .val (.int (2 : Int32)), .val (.double (FP.i2d pp)), .second, .val (.double (FP.i2d qq)), .second, .val (.int cc), .val (.int (1 : Int32)), .val (.int (1 : Int32)), .val (.int (1 : Int32)), .val (.int (4 : Int32)), .val (.int (1 : Int32)), .val (.int (2 : Int32))] [(.ref a), (.int (1 : Int32)), (.ref a)])) rfl rfl (hb hby d7_127)
    refine Go.step st27 ?_
    show Go _ _ _ _ _ _ _ T27 (mkF m 130 #[.val (.ref a), .val (.int (2 : Int32)), .val (.double (FP.i2d pp)), .second, .val (.double (FP.i2d qq)), .second, .val (.int cc), .val (.int (1 : Int32)), .val (.int (1 : Int32)), .val (.int (1 : Int32)), .val (.int (4 : Int32)), .val (.int (1 : Int32)), .val (.int (2 : Int32))] [(.ref xt), (.int (1 : Int32)), (.ref a)])
    refine Go.step (fun _ k => XS.iload X27.here hx rfl (hb hby d7_130) rfl k) ?_
    refine Go.iaload X27 hx hZ e27 V_xt_26 (j := (1 : Int32)) (v := (2 : Int32)) (by decide) rfl (hb hby d7_132) ?_
    show Go _ _ _ _ _ _ _ T27 (mkF m 133 #[.val (.ref a), .val (.int (2 : Int32)), .val (.double (FP.i2d pp)), .second, .val (.double (FP.i2d qq)), .second, .val (.int cc), .val (.int (1 : Int32)), .val (.int (1 : Int32)), .val (.int (1 : Int32)), .val (.int (4 : Int32)), .val (.int (1 : Int32)), .val (.int (2 : Int32))] [(.int (2 : Int32)), (.int (1 : Int32)), (.ref a)])
    refine Go.step (fun _ k => XS.iload X27.here hx rfl (hb hby d7_133) rfl k) ?_
    refine Go.callP X27 hx hZ (by rw [hml]; rfl) (y := (⟨"com/example/headroom/headroom/LowerEnvelope", "lower", "(III)Z"⟩ : MethodName)) (a := a) (argsL := [(.int (1 : Int32)), (.int (2 : Int32)), (.int (1 : Int32))]) (rest := []) hown (hw _ (mI 57 rfl)) (hw _ (mI 58 rfl)) (hw _ (mI 1 rfl)) (hw _ (mI 59 rfl)) (hw _ (mI 2 rfl)) (hw _ (mI 60 rfl)) (by decide) (rm9 l Z a0 hw a xu xv xw (updN fP 2 pp) (updN fQ 2 qq) (updN fC 2 cc) (1 : Int32) (2 : Int32) (1 : Int32) T26.heap n0 (Nat.le_trans Z0 (KK26 : Keep h0 T26.heap [a, xn, xo, xu, xv, xw, xt, xm]).1) F_base_a_26 F_slope_a_26 F_origin_a_26 V_xu_26 V_xv_26 V_xw_26 spp sqq scc (by decide) (by decide) (own_in (1 : Int32) (by decide))) e27 E_a_26 (hb hby d7_135) (lenOf pd_1 rfl) rfl rfl (W := 0) (Nat.le_of_eq rfl) (by decide) (by decide) (by decide) (by decide) ?_
    intro v28 T28 L28 X28 Q28
    obtain ⟨rfl, N28q, hh28⟩ := Q28
    have N28 := Fr.app N26 N28q
    show Go _ _ _ _ _ _ _ T28 (mkF m 138 #[.val (.ref a), .val (.int (2 : Int32)), .val (.double (FP.i2d pp)), .second, .val (.double (FP.i2d qq)), .second, .val (.int cc), .val (.int (1 : Int32)), .val (.int (1 : Int32)), .val (.int (1 : Int32)), .val (.int (4 : Int32)), .val (.int (1 : Int32)), .val (.int (2 : Int32))] [(.int (lowW (updN fP 2 pp) (updN fQ 2 qq) (updN fC 2 cc) (1 : Int32) (2 : Int32) (1 : Int32)))])
    by_cases hc138_29 : (lowW (updN fP 2 pp) (updN fQ 2 qq) (updN fC 2 cc) (1 : Int32) (2 : Int32) (1 : Int32)) = (0 : Int32)
    · refine Go.step (fun _ k => XS.ifYes X28.here hx rfl (pc0 := 138) (pc' := 154) rfl (hb hby d7_138) rfl ((if0 _ _).trans (teq hc138_29).1) (by decide) (by decide) k) ?_
      show Go _ _ _ _ _ _ _ T28 (mkF m 154 #[.val (.ref a), .val (.int (2 : Int32)), .val (.double (FP.i2d pp)), .second, .val (.double (FP.i2d qq)), .second, .val (.int cc), .val (.int (1 : Int32)), .val (.int (1 : Int32)), .val (.int (1 : Int32)), .val (.int (4 : Int32)), .val (.int (1 : Int32)), .val (.int (2 : Int32))] [])
      refine Go.step (fun _ k => XS.aloadN X28.here hx rfl (hb hby d7_154) rfl rfl k) ?_
      refine Go.step (fun _ k => XS.iload X28.here hx rfl (hb hby d7_155) rfl k) ?_
      refine Go.step (fun _ k => XS.aloadN X28.here hx rfl (hb hby d7_157) rfl rfl k) ?_
      show Go _ _ _ _ _ _ _ T28 (mkF m 158 #[.val (.ref a), .val (.int (2 : Int32)), .val (.double (FP.i2d pp)), .second, .val (.double (FP.i2d qq)), .second, .val (.int cc), .val (.int (1 : Int32)), .val (.int (1 : Int32)), .val (.int (1 : Int32)), .val (.int (4 : Int32)), .val (.int (1 : Int32)), .val (.int (2 : Int32))] [(.ref a), (.int (1 : Int32)), (.ref a)])
      obtain ⟨T30, X30, e30, st30⟩ := getF X28 hx hZ hown (host := "") (Or.inl (hw _ (mI 36 rfl))) Via.refl hh28 F_node_a_26 (g := (mkF m 158 #[.val (.ref a), .val (.int (2 : Int32)), .val (.double (FP.i2d pp)), .second, .val (.double (FP.i2d qq)), .second, .val (.int cc), .val (.int (1 : Int32)), .val (.int (1 : Int32)), .val (.int (1 : Int32)), .val (.int (4 : Int32)), .val (.int (1 : Int32)), .val (.int (2 : Int32))] [(.ref a), (.int (1 : Int32)), (.ref a)])) rfl rfl (hb hby d7_158)
      refine Go.step st30 ?_
      show Go _ _ _ _ _ _ _ T30 (mkF m 161 #[.val (.ref a), .val (.int (2 : Int32)), .val (.double (FP.i2d pp)), .second, .val (.double (FP.i2d qq)), .second, .val (.int cc), .val (.int (1 : Int32)), .val (.int (1 : Int32)), .val (.int (1 : Int32)), .val (.int (4 : Int32)), .val (.int (1 : Int32)), .val (.int (2 : Int32))] [(.ref xt), (.int (1 : Int32)), (.ref a)])
      refine Go.step (fun _ k => XS.iload X30.here hx rfl (hb hby d7_161) rfl k) ?_
      refine Go.iaload X30 hx hZ e30 V_xt_26 (j := (1 : Int32)) (v := (2 : Int32)) (by decide) rfl (hb hby d7_163) ?_
      show Go _ _ _ _ _ _ _ T30 (mkF m 164 #[.val (.ref a), .val (.int (2 : Int32)), .val (.double (FP.i2d pp)), .second, .val (.double (FP.i2d qq)), .second, .val (.int cc), .val (.int (1 : Int32)), .val (.int (1 : Int32)), .val (.int (1 : Int32)), .val (.int (4 : Int32)), .val (.int (1 : Int32)), .val (.int (2 : Int32))] [(.int (2 : Int32)), (.int (1 : Int32)), (.ref a)])
      refine Go.step (fun _ k => XS.iload X30.here hx rfl (hb hby d7_164) rfl k) ?_
      refine Go.callP X30 hx hZ (by rw [hml]; rfl) (y := (⟨"com/example/headroom/headroom/LowerEnvelope", "lower", "(III)Z"⟩ : MethodName)) (a := a) (argsL := [(.int (1 : Int32)), (.int (2 : Int32)), (.int (4 : Int32))]) (rest := []) hown (hw _ (mI 57 rfl)) (hw _ (mI 58 rfl)) (hw _ (mI 1 rfl)) (hw _ (mI 59 rfl)) (hw _ (mI 2 rfl)) (hw _ (mI 60 rfl)) (by decide) (rm9 l Z a0 hw a xu xv xw (updN fP 2 pp) (updN fQ 2 qq) (updN fC 2 cc) (1 : Int32) (2 : Int32) (4 : Int32) T26.heap n0 (Nat.le_trans Z0 (KK26 : Keep h0 T26.heap [a, xn, xo, xu, xv, xw, xt, xm]).1) F_base_a_26 F_slope_a_26 F_origin_a_26 V_xu_26 V_xv_26 V_xw_26 spp sqq scc (by decide) (by decide) (own_in (4 : Int32) (by decide))) e30 E_a_26 (hb hby d7_166) (lenOf pd_1 rfl) rfl rfl (W := 0) (Nat.le_of_eq rfl) (by decide) (by decide) (by decide) (by decide) ?_
      intro v31 T31 L31 X31 Q31
      obtain ⟨rfl, N31q, hh31⟩ := Q31
      have N31 := Fr.app N28 N31q
      show Go _ _ _ _ _ _ _ T31 (mkF m 169 #[.val (.ref a), .val (.int (2 : Int32)), .val (.double (FP.i2d pp)), .second, .val (.double (FP.i2d qq)), .second, .val (.int cc), .val (.int (1 : Int32)), .val (.int (1 : Int32)), .val (.int (1 : Int32)), .val (.int (4 : Int32)), .val (.int (1 : Int32)), .val (.int (2 : Int32))] [(.int (lowW (updN fP 2 pp) (updN fQ 2 qq) (updN fC 2 cc) (1 : Int32) (2 : Int32) (4 : Int32)))])
      by_cases hc169_32 : (lowW (updN fP 2 pp) (updN fQ 2 qq) (updN fC 2 cc) (1 : Int32) (2 : Int32) (4 : Int32)) = (0 : Int32)
      · refine Go.step (fun _ k => XS.ifYes X31.here hx rfl (pc0 := 169) (pc' := 189) rfl (hb hby d7_169) rfl ((if0 _ _).trans (teq hc169_32).1) (by decide) (by decide) k) ?_
        show Go _ _ _ _ _ _ _ T31 (mkF m 189 #[.val (.ref a), .val (.int (2 : Int32)), .val (.double (FP.i2d pp)), .second, .val (.double (FP.i2d qq)), .second, .val (.int cc), .val (.int (1 : Int32)), .val (.int (1 : Int32)), .val (.int (1 : Int32)), .val (.int (4 : Int32)), .val (.int (1 : Int32)), .val (.int (2 : Int32))] [])
        refine Go.retV X31 hx hlk hret (hb hby d7_189) (by decide) (by decide) ?_
        try rw [hh31]
        obtain ⟨A, B, d1, d2, d3, d4⟩ := own_lin4 (updN fP 2 pp) (updN fQ 2 qq) (updN fC 2 cc)
        have yhc100_15 := own_lowY hc100_15
        rw [own_l21] at yhc100_15
        have yhc138_29 := own_lowN hc138_29
        rw [own_l12] at yhc138_29
        have yhc169_32 := own_lowN hc169_32
        rw [own_l12] at yhc169_32
        exact ⟨rfl, N31, KK26, _, _, _, (0 + 1), ⟨E_a_26, F_changedNode_a_26, F_changedLine_a_26, F_base_a_26, F_slope_a_26, F_origin_a_26, F_node_a_26, F_pushedAt_a_26, F_width_a_26, F_pushes_a_26, F_changes_a_26, V_xn_26, V_xo_26, V_xu_26, V_xv_26, V_xw_26, V_xt_26, V_xm_26⟩, hG26, by omega, ⟨rfl, rfl, rfl, rfl⟩, (Rng.upd (Rng.upd own_r0 (by decide) 1) (by decide) 1), by decide, by decide, by decide, by decide, own_best (r := (2 : Int32)) (c2 := (0 : Int32)) (c3 := (0 : Int32)) rfl rfl rfl (Or.inr (Or.inr ⟨rfl, Or.inl ⟨rfl, by omega⟩, Or.inl ⟨rfl, by omega⟩⟩)) (Or.inr (Or.inr ⟨rfl, Or.inl ⟨rfl, by omega⟩, Or.inl ⟨rfl, by omega⟩⟩))⟩
      · refine Go.step (fun _ k => XS.ifNo X31.here hx rfl (hb hby d7_169) rfl ((if0 _ _).trans (feq hc169_32).1) k) ?_
        show Go _ _ _ _ _ _ _ T31 (mkF m 172 #[.val (.ref a), .val (.int (2 : Int32)), .val (.double (FP.i2d pp)), .second, .val (.double (FP.i2d qq)), .second, .val (.int cc), .val (.int (1 : Int32)), .val (.int (1 : Int32)), .val (.int (1 : Int32)), .val (.int (4 : Int32)), .val (.int (1 : Int32)), .val (.int (2 : Int32))] [])
        refine Go.step (fun _ k => XS.iconst X31.here hx rfl (hb hby d7_172) k) ?_
        refine Go.step (fun _ k => XS.iload X31.here hx rfl (hb hby d7_173) rfl k) ?_
        refine Go.step (fun _ k => XS.imul X31.here hx rfl (hb hby d7_175) rfl k) ?_
        show Go _ _ _ _ _ _ _ T31 (mkF m 176 #[.val (.ref a), .val (.int (2 : Int32)), .val (.double (FP.i2d pp)), .second, .val (.double (FP.i2d qq)), .second, .val (.int cc), .val (.int (1 : Int32)), .val (.int (1 : Int32)), .val (.int (1 : Int32)), .val (.int (4 : Int32)), .val (.int (1 : Int32)), .val (.int (2 : Int32))] [(.int (2 : Int32))])
        refine Go.step (fun _ k => XS.iconst X31.here hx rfl (hb hby d7_176) k) ?_
        refine Go.step (fun _ k => XS.iadd X31.here hx rfl (hb hby d7_177) rfl k) ?_
        show Go _ _ _ _ _ _ _ T31 (mkF m 178 #[.val (.ref a), .val (.int (2 : Int32)), .val (.double (FP.i2d pp)), .second, .val (.double (FP.i2d qq)), .second, .val (.int cc), .val (.int (1 : Int32)), .val (.int (1 : Int32)), .val (.int (1 : Int32)), .val (.int (4 : Int32)), .val (.int (1 : Int32)), .val (.int (2 : Int32))] [(.int (3 : Int32))])
        refine Go.step (fun _ k => XS.istore X31.here hx rfl (hb hby d7_178) rfl (l' := #[.val (.ref a), .val (.int (2 : Int32)), .val (.double (FP.i2d pp)), .second, .val (.double (FP.i2d qq)), .second, .val (.int cc), .val (.int (1 : Int32)), .val (.int (3 : Int32)), .val (.int (1 : Int32)), .val (.int (4 : Int32)), .val (.int (1 : Int32)), .val (.int (2 : Int32))]) rfl k) ?_
        show Go _ _ _ _ _ _ _ T31 (mkF m 180 #[.val (.ref a), .val (.int (2 : Int32)), .val (.double (FP.i2d pp)), .second, .val (.double (FP.i2d qq)), .second, .val (.int cc), .val (.int (1 : Int32)), .val (.int (3 : Int32)), .val (.int (1 : Int32)), .val (.int (4 : Int32)), .val (.int (1 : Int32)), .val (.int (2 : Int32))] [])
        refine Go.step (fun _ k => XS.iload X31.here hx rfl (hb hby d7_180) rfl k) ?_
        refine Go.step (fun _ k => XS.iconst X31.here hx rfl (hb hby d7_182) k) ?_
        refine Go.step (fun _ k => XS.iadd X31.here hx rfl (hb hby d7_183) rfl k) ?_
        show Go _ _ _ _ _ _ _ T31 (mkF m 184 #[.val (.ref a), .val (.int (2 : Int32)), .val (.double (FP.i2d pp)), .second, .val (.double (FP.i2d qq)), .second, .val (.int cc), .val (.int (1 : Int32)), .val (.int (3 : Int32)), .val (.int (1 : Int32)), .val (.int (4 : Int32)), .val (.int (1 : Int32)), .val (.int (2 : Int32))] [(.int (3 : Int32))])
        refine Go.step (fun _ k => XS.istore X31.here hx rfl (hb hby d7_184) rfl (l' := #[.val (.ref a), .val (.int (2 : Int32)), .val (.double (FP.i2d pp)), .second, .val (.double (FP.i2d qq)), .second, .val (.int cc), .val (.int (1 : Int32)), .val (.int (3 : Int32)), .val (.int (3 : Int32)), .val (.int (4 : Int32)), .val (.int (1 : Int32)), .val (.int (2 : Int32))]) rfl k) ?_
        show Go _ _ _ _ _ _ _ T31 (mkF m 186 #[.val (.ref a), .val (.int (2 : Int32)), .val (.double (FP.i2d pp)), .second, .val (.double (FP.i2d qq)), .second, .val (.int cc), .val (.int (1 : Int32)), .val (.int (3 : Int32)), .val (.int (3 : Int32)), .val (.int (4 : Int32)), .val (.int (1 : Int32)), .val (.int (2 : Int32))] [])
        refine Go.step (fun _ k => XS.goto X31.here hx rfl (pc0 := 186) (pc' := 190) rfl (hb hby d7_186) (by decide) (by decide) k) ?_
        show Go _ _ _ _ _ _ _ T31 (mkF m 190 #[.val (.ref a), .val (.int (2 : Int32)), .val (.double (FP.i2d pp)), .second, .val (.double (FP.i2d qq)), .second, .val (.int cc), .val (.int (1 : Int32)), .val (.int (3 : Int32)), .val (.int (3 : Int32)), .val (.int (4 : Int32)), .val (.int (1 : Int32)), .val (.int (2 : Int32))] [])
        refine Go.step (fun _ k => XS.goto X31.here hx rfl (pc0 := 190) (pc' := 58) rfl (hb hby d7_190) (by decide) (by decide) k) ?_
        show Go _ _ _ _ _ _ _ T31 (mkF m 58 #[.val (.ref a), .val (.int (2 : Int32)), .val (.double (FP.i2d pp)), .second, .val (.double (FP.i2d qq)), .second, .val (.int cc), .val (.int (1 : Int32)), .val (.int (3 : Int32)), .val (.int (3 : Int32)), .val (.int (4 : Int32)), .val (.int (1 : Int32)), .val (.int (2 : Int32))] [])
        refine Go.step (fun _ k => XS.aloadN X31.here hx rfl (hb hby d7_58) rfl rfl k) ?_
        obtain ⟨T33, X33, e33, st33⟩ := getF X31 hx hZ hown (host := "") (Or.inl (hw _ (mI 36 rfl))) Via.refl hh31 F_node_a_26 (g := (mkF m 59 #[.val (.ref a), .val (.int (2 : Int32)), .val (.double (FP.i2d pp)), .second, .val (.double (FP.i2d qq)), .second, .val (.int cc), .val (.int (1 : Int32)), .val (.int (3 : Int32)), .val (.int (3 : Int32)), .val (.int (4 : Int32)), .val (.int (1 : Int32)), .val (.int (2 : Int32))] [(.ref a)])) rfl rfl (hb hby d7_59)
        refine Go.step st33 ?_
        show Go _ _ _ _ _ _ _ T33 (mkF m 62 #[.val (.ref a), .val (.int (2 : Int32)), .val (.double (FP.i2d pp)), .second, .val (.double (FP.i2d qq)), .second, .val (.int cc), .val (.int (1 : Int32)), .val (.int (3 : Int32)), .val (.int (3 : Int32)), .val (.int (4 : Int32)), .val (.int (1 : Int32)), .val (.int (2 : Int32))] [(.ref xt)])
        refine Go.step (fun _ k => XS.iload X33.here hx rfl (hb hby d7_62) rfl k) ?_
        refine Go.iaload X33 hx hZ e33 V_xt_26 (j := (3 : Int32)) (v := (0 : Int32)) (by decide) rfl (hb hby d7_64) ?_
        show Go _ _ _ _ _ _ _ T33 (mkF m 65 #[.val (.ref a), .val (.int (2 : Int32)), .val (.double (FP.i2d pp)), .second, .val (.double (FP.i2d qq)), .second, .val (.int cc), .val (.int (1 : Int32)), .val (.int (3 : Int32)), .val (.int (3 : Int32)), .val (.int (4 : Int32)), .val (.int (1 : Int32)), .val (.int (2 : Int32))] [(.int (0 : Int32))])
        refine Go.step (fun _ k => XS.istore X33.here hx rfl (hb hby d7_65) rfl (l' := #[.val (.ref a), .val (.int (2 : Int32)), .val (.double (FP.i2d pp)), .second, .val (.double (FP.i2d qq)), .second, .val (.int cc), .val (.int (1 : Int32)), .val (.int (3 : Int32)), .val (.int (3 : Int32)), .val (.int (4 : Int32)), .val (.int (0 : Int32)), .val (.int (2 : Int32))]) rfl k) ?_
        show Go _ _ _ _ _ _ _ T33 (mkF m 67 #[.val (.ref a), .val (.int (2 : Int32)), .val (.double (FP.i2d pp)), .second, .val (.double (FP.i2d qq)), .second, .val (.int cc), .val (.int (1 : Int32)), .val (.int (3 : Int32)), .val (.int (3 : Int32)), .val (.int (4 : Int32)), .val (.int (0 : Int32)), .val (.int (2 : Int32))] [])
        refine Go.step (fun _ k => XS.iload X33.here hx rfl (hb hby d7_67) rfl k) ?_
        refine Go.step (fun _ k => XS.ifNo X33.here hx rfl (hb hby d7_69) rfl ((if0 _ _).trans (teq (by decide : (0 : Int32) = (0 : Int32))).2) k) ?_
        show Go _ _ _ _ _ _ _ T33 (mkF m 72 #[.val (.ref a), .val (.int (2 : Int32)), .val (.double (FP.i2d pp)), .second, .val (.double (FP.i2d qq)), .second, .val (.int cc), .val (.int (1 : Int32)), .val (.int (3 : Int32)), .val (.int (3 : Int32)), .val (.int (4 : Int32)), .val (.int (0 : Int32)), .val (.int (2 : Int32))] [])
        refine Go.step (fun _ k => XS.aloadN X33.here hx rfl (hb hby d7_72) rfl rfl k) ?_
        refine Go.step (fun _ k => XS.iload X33.here hx rfl (hb hby d7_73) rfl k) ?_
        refine Go.step (fun _ k => XS.iload X33.here hx rfl (hb hby d7_75) rfl k) ?_
        show Go _ _ _ _ _ _ _ T33 (mkF m 77 #[.val (.ref a), .val (.int (2 : Int32)), .val (.double (FP.i2d pp)), .second, .val (.double (FP.i2d qq)), .second, .val (.int cc), .val (.int (1 : Int32)), .val (.int (3 : Int32)), .val (.int (3 : Int32)), .val (.int (4 : Int32)), .val (.int (0 : Int32)), .val (.int (2 : Int32))] [(.int (1 : Int32)), (.int (3 : Int32)), (.ref a)])
        refine Go.callP X33 hx hZ (by rw [hml]; rfl) (y := (⟨"com/example/headroom/headroom/LowerEnvelope", "write", "(II)V"⟩ : MethodName)) (a := a) (argsL := [(.int (3 : Int32)), (.int (1 : Int32))]) (rest := []) hown (hw _ (mI 53 rfl)) (hw _ (mI 54 rfl)) (hw _ (mI 1 rfl)) (hw _ (mI 55 rfl)) (hw _ (mI 2 rfl)) (hw _ (mI 56 rfl)) (by decide) (rm8 l Z a0 hw a xn xo xu xv xw xt xm (updN fP 2 pp) (updN fQ 2 qq) (updN fC 2 cc) (updN (updN (fun _ => (0 : Int32)) 1 (1 : Int32)) 1 (2 : Int32)) (updN fM 1 (1 : Int32)) (updN fN 1 (1 : Int32)) (updN fO 1 ((updN (fun _ => (0 : Int32)) 1 (1 : Int32)) 1)) 2 (1 + 1) (3 : Int32) (1 : Int32) T26.heap n0 (Nat.le_trans Z0 (KK26 : Keep h0 T26.heap [a, xn, xo, xu, xv, xw, xt, xm]).1) ⟨E_a_26, F_changedNode_a_26, F_changedLine_a_26, F_base_a_26, F_slope_a_26, F_origin_a_26, F_node_a_26, F_pushedAt_a_26, F_width_a_26, F_pushes_a_26, F_changes_a_26, V_xn_26, V_xo_26, V_xu_26, V_xv_26, V_xw_26, V_xt_26, V_xm_26⟩ hD (by decide) (by omega)) e33 E_a_26 (hb hby d7_77) (lenOf pd_0 rfl) rfl rfl (W := 0) (Nat.le_of_eq rfl) (by decide) (by decide) (by decide) (by decide) ?_
        intro v34 T34 L34 X34 Q34
        obtain ⟨rfl, N34q, Kc34, hL34⟩ := Q34
        have N34 := Fr.app N31 N34q
        have E_a_34 := E_a_26.keep Kc34
        have KK34 : Keep h0 T34.heap [a, xn, xo, xu, xv, xw, xt, xm] := (KK26 : Keep h0 T26.heap [a, xn, xo, xu, xv, xw, xt, xm]).trans Kc34 (allS (Or.inl (List.mem_of_getElem? (i := 0) rfl)) (allS (Or.inl (List.mem_of_getElem? (i := 1) rfl)) (allS (Or.inl (List.mem_of_getElem? (i := 2) rfl)) (allS (Or.inl (List.mem_of_getElem? (i := 3) rfl)) (allS (Or.inl (List.mem_of_getElem? (i := 4) rfl)) (allS (Or.inl (List.mem_of_getElem? (i := 5) rfl)) (allS (Or.inl (List.mem_of_getElem? (i := 6) rfl)) (allS (Or.inl (List.mem_of_getElem? (i := 7) rfl)) all0))))))))
        have hL34x : LEs Z T34.heap a xn xo xu xv xw xt xm (updN fP 2 pp) (updN fQ 2 qq) (updN fC 2 cc) (updN (updN (updN (fun _ => (0 : Int32)) 1 (1 : Int32)) 1 (2 : Int32)) 3 (1 : Int32)) (updN fM 1 (1 : Int32)) (updN (updN fN 1 (1 : Int32)) (1 + 1) (3 : Int32)) (updN (updN fO 1 ((updN (fun _ => (0 : Int32)) 1 (1 : Int32)) 1)) (1 + 1) ((updN (updN (fun _ => (0 : Int32)) 1 (1 : Int32)) 1 (2 : Int32)) 3)) 2 (1 + (1 + 1)) := hL34
        have hG34 := Good.write hG26 (k := (3 : Int32)) (by decide) (1 : Int32)
        obtain ⟨E_a_34, F_changedNode_a_34, F_changedLine_a_34, F_base_a_34, F_slope_a_34, F_origin_a_34, F_node_a_34, F_pushedAt_a_34, F_width_a_34, F_pushes_a_34, F_changes_a_34, V_xn_34, V_xo_34, V_xu_34, V_xv_34, V_xw_34, V_xt_34, V_xm_34⟩ := hL34x
        show Go _ _ _ _ _ _ _ T34 (mkF m 80 #[.val (.ref a), .val (.int (2 : Int32)), .val (.double (FP.i2d pp)), .second, .val (.double (FP.i2d qq)), .second, .val (.int cc), .val (.int (1 : Int32)), .val (.int (3 : Int32)), .val (.int (3 : Int32)), .val (.int (4 : Int32)), .val (.int (0 : Int32)), .val (.int (2 : Int32))] [])
        refine Go.retV X34 hx hlk hret (hb hby d7_80) (by decide) (by decide) ?_
        obtain ⟨A, B, d1, d2, d3, d4⟩ := own_lin4 (updN fP 2 pp) (updN fQ 2 qq) (updN fC 2 cc)
        have yhc100_15 := own_lowY hc100_15
        rw [own_l21] at yhc100_15
        have yhc138_29 := own_lowN hc138_29
        rw [own_l12] at yhc138_29
        have yhc169_32 := own_lowY hc169_32
        rw [own_l12] at yhc169_32
        exact ⟨rfl, N34, KK34, _, _, _, ((0 + 1) + 1), ⟨E_a_34, F_changedNode_a_34, F_changedLine_a_34, F_base_a_34, F_slope_a_34, F_origin_a_34, F_node_a_34, F_pushedAt_a_34, F_width_a_34, F_pushes_a_34, F_changes_a_34, V_xn_34, V_xo_34, V_xu_34, V_xv_34, V_xw_34, V_xt_34, V_xm_34⟩, hG34, by omega, ⟨rfl, rfl, rfl, rfl⟩, (Rng.upd (Rng.upd (Rng.upd own_r0 (by decide) 1) (by decide) 1) (by decide) 3), by decide, by decide, by decide, by decide, own_best (r := (2 : Int32)) (c2 := (0 : Int32)) (c3 := (1 : Int32)) rfl rfl rfl (Or.inr (Or.inr ⟨rfl, Or.inl ⟨rfl, by omega⟩, Or.inl ⟨rfl, by omega⟩⟩)) (Or.inr (Or.inl ⟨rfl, rfl⟩))⟩
    · refine Go.step (fun _ k => XS.ifNo X28.here hx rfl (hb hby d7_138) rfl ((if0 _ _).trans (feq hc138_29).1) k) ?_
      show Go _ _ _ _ _ _ _ T28 (mkF m 141 #[.val (.ref a), .val (.int (2 : Int32)), .val (.double (FP.i2d pp)), .second, .val (.double (FP.i2d qq)), .second, .val (.int cc), .val (.int (1 : Int32)), .val (.int (1 : Int32)), .val (.int (1 : Int32)), .val (.int (4 : Int32)), .val (.int (1 : Int32)), .val (.int (2 : Int32))] [])
      refine Go.step (fun _ k => XS.iconst X28.here hx rfl (hb hby d7_141) k) ?_
      refine Go.step (fun _ k => XS.iload X28.here hx rfl (hb hby d7_142) rfl k) ?_
      refine Go.step (fun _ k => XS.imul X28.here hx rfl (hb hby d7_144) rfl k) ?_
      show Go _ _ _ _ _ _ _ T28 (mkF m 145 #[.val (.ref a), .val (.int (2 : Int32)), .val (.double (FP.i2d pp)), .second, .val (.double (FP.i2d qq)), .second, .val (.int cc), .val (.int (1 : Int32)), .val (.int (1 : Int32)), .val (.int (1 : Int32)), .val (.int (4 : Int32)), .val (.int (1 : Int32)), .val (.int (2 : Int32))] [(.int (2 : Int32))])
      refine Go.step (fun _ k => XS.istore X28.here hx rfl (hb hby d7_145) rfl (l' := #[.val (.ref a), .val (.int (2 : Int32)), .val (.double (FP.i2d pp)), .second, .val (.double (FP.i2d qq)), .second, .val (.int cc), .val (.int (1 : Int32)), .val (.int (2 : Int32)), .val (.int (1 : Int32)), .val (.int (4 : Int32)), .val (.int (1 : Int32)), .val (.int (2 : Int32))]) rfl k) ?_
      show Go _ _ _ _ _ _ _ T28 (mkF m 147 #[.val (.ref a), .val (.int (2 : Int32)), .val (.double (FP.i2d pp)), .second, .val (.double (FP.i2d qq)), .second, .val (.int cc), .val (.int (1 : Int32)), .val (.int (2 : Int32)), .val (.int (1 : Int32)), .val (.int (4 : Int32)), .val (.int (1 : Int32)), .val (.int (2 : Int32))] [])
      refine Go.step (fun _ k => XS.iload X28.here hx rfl (hb hby d7_147) rfl k) ?_
      refine Go.step (fun _ k => XS.istore X28.here hx rfl (hb hby d7_149) rfl (l' := #[.val (.ref a), .val (.int (2 : Int32)), .val (.double (FP.i2d pp)), .second, .val (.double (FP.i2d qq)), .second, .val (.int cc), .val (.int (1 : Int32)), .val (.int (2 : Int32)), .val (.int (1 : Int32)), .val (.int (2 : Int32)), .val (.int (1 : Int32)), .val (.int (2 : Int32))]) rfl k) ?_
      show Go _ _ _ _ _ _ _ T28 (mkF m 151 #[.val (.ref a), .val (.int (2 : Int32)), .val (.double (FP.i2d pp)), .second, .val (.double (FP.i2d qq)), .second, .val (.int cc), .val (.int (1 : Int32)), .val (.int (2 : Int32)), .val (.int (1 : Int32)), .val (.int (2 : Int32)), .val (.int (1 : Int32)), .val (.int (2 : Int32))] [])
      refine Go.step (fun _ k => XS.goto X28.here hx rfl (pc0 := 151) (pc' := 190) rfl (hb hby d7_151) (by decide) (by decide) k) ?_
      show Go _ _ _ _ _ _ _ T28 (mkF m 190 #[.val (.ref a), .val (.int (2 : Int32)), .val (.double (FP.i2d pp)), .second, .val (.double (FP.i2d qq)), .second, .val (.int cc), .val (.int (1 : Int32)), .val (.int (2 : Int32)), .val (.int (1 : Int32)), .val (.int (2 : Int32)), .val (.int (1 : Int32)), .val (.int (2 : Int32))] [])
      refine Go.step (fun _ k => XS.goto X28.here hx rfl (pc0 := 190) (pc' := 58) rfl (hb hby d7_190) (by decide) (by decide) k) ?_
      show Go _ _ _ _ _ _ _ T28 (mkF m 58 #[.val (.ref a), .val (.int (2 : Int32)), .val (.double (FP.i2d pp)), .second, .val (.double (FP.i2d qq)), .second, .val (.int cc), .val (.int (1 : Int32)), .val (.int (2 : Int32)), .val (.int (1 : Int32)), .val (.int (2 : Int32)), .val (.int (1 : Int32)), .val (.int (2 : Int32))] [])
      refine Go.step (fun _ k => XS.aloadN X28.here hx rfl (hb hby d7_58) rfl rfl k) ?_
      obtain ⟨T35, X35, e35, st35⟩ := getF X28 hx hZ hown (host := "") (Or.inl (hw _ (mI 36 rfl))) Via.refl hh28 F_node_a_26 (g := (mkF m 59 #[.val (.ref a), .val (.int (2 : Int32)), .val (.double (FP.i2d pp)), .second, .val (.double (FP.i2d qq)), .second, .val (.int cc), .val (.int (1 : Int32)), .val (.int (2 : Int32)), .val (.int (1 : Int32)), .val (.int (2 : Int32)), .val (.int (1 : Int32)), .val (.int (2 : Int32))] [(.ref a)])) rfl rfl (hb hby d7_59)
      refine Go.step st35 ?_
      show Go _ _ _ _ _ _ _ T35 (mkF m 62 #[.val (.ref a), .val (.int (2 : Int32)), .val (.double (FP.i2d pp)), .second, .val (.double (FP.i2d qq)), .second, .val (.int cc), .val (.int (1 : Int32)), .val (.int (2 : Int32)), .val (.int (1 : Int32)), .val (.int (2 : Int32)), .val (.int (1 : Int32)), .val (.int (2 : Int32))] [(.ref xt)])
      refine Go.step (fun _ k => XS.iload X35.here hx rfl (hb hby d7_62) rfl k) ?_
      refine Go.iaload X35 hx hZ e35 V_xt_26 (j := (2 : Int32)) (v := (0 : Int32)) (by decide) rfl (hb hby d7_64) ?_
      show Go _ _ _ _ _ _ _ T35 (mkF m 65 #[.val (.ref a), .val (.int (2 : Int32)), .val (.double (FP.i2d pp)), .second, .val (.double (FP.i2d qq)), .second, .val (.int cc), .val (.int (1 : Int32)), .val (.int (2 : Int32)), .val (.int (1 : Int32)), .val (.int (2 : Int32)), .val (.int (1 : Int32)), .val (.int (2 : Int32))] [(.int (0 : Int32))])
      refine Go.step (fun _ k => XS.istore X35.here hx rfl (hb hby d7_65) rfl (l' := #[.val (.ref a), .val (.int (2 : Int32)), .val (.double (FP.i2d pp)), .second, .val (.double (FP.i2d qq)), .second, .val (.int cc), .val (.int (1 : Int32)), .val (.int (2 : Int32)), .val (.int (1 : Int32)), .val (.int (2 : Int32)), .val (.int (0 : Int32)), .val (.int (2 : Int32))]) rfl k) ?_
      show Go _ _ _ _ _ _ _ T35 (mkF m 67 #[.val (.ref a), .val (.int (2 : Int32)), .val (.double (FP.i2d pp)), .second, .val (.double (FP.i2d qq)), .second, .val (.int cc), .val (.int (1 : Int32)), .val (.int (2 : Int32)), .val (.int (1 : Int32)), .val (.int (2 : Int32)), .val (.int (0 : Int32)), .val (.int (2 : Int32))] [])
      refine Go.step (fun _ k => XS.iload X35.here hx rfl (hb hby d7_67) rfl k) ?_
      refine Go.step (fun _ k => XS.ifNo X35.here hx rfl (hb hby d7_69) rfl ((if0 _ _).trans (teq (by decide : (0 : Int32) = (0 : Int32))).2) k) ?_
      show Go _ _ _ _ _ _ _ T35 (mkF m 72 #[.val (.ref a), .val (.int (2 : Int32)), .val (.double (FP.i2d pp)), .second, .val (.double (FP.i2d qq)), .second, .val (.int cc), .val (.int (1 : Int32)), .val (.int (2 : Int32)), .val (.int (1 : Int32)), .val (.int (2 : Int32)), .val (.int (0 : Int32)), .val (.int (2 : Int32))] [])
      refine Go.step (fun _ k => XS.aloadN X35.here hx rfl (hb hby d7_72) rfl rfl k) ?_
      refine Go.step (fun _ k => XS.iload X35.here hx rfl (hb hby d7_73) rfl k) ?_
      refine Go.step (fun _ k => XS.iload X35.here hx rfl (hb hby d7_75) rfl k) ?_
      show Go _ _ _ _ _ _ _ T35 (mkF m 77 #[.val (.ref a), .val (.int (2 : Int32)), .val (.double (FP.i2d pp)), .second, .val (.double (FP.i2d qq)), .second, .val (.int cc), .val (.int (1 : Int32)), .val (.int (2 : Int32)), .val (.int (1 : Int32)), .val (.int (2 : Int32)), .val (.int (0 : Int32)), .val (.int (2 : Int32))] [(.int (1 : Int32)), (.int (2 : Int32)), (.ref a)])
      refine Go.callP X35 hx hZ (by rw [hml]; rfl) (y := (⟨"com/example/headroom/headroom/LowerEnvelope", "write", "(II)V"⟩ : MethodName)) (a := a) (argsL := [(.int (2 : Int32)), (.int (1 : Int32))]) (rest := []) hown (hw _ (mI 53 rfl)) (hw _ (mI 54 rfl)) (hw _ (mI 1 rfl)) (hw _ (mI 55 rfl)) (hw _ (mI 2 rfl)) (hw _ (mI 56 rfl)) (by decide) (rm8 l Z a0 hw a xn xo xu xv xw xt xm (updN fP 2 pp) (updN fQ 2 qq) (updN fC 2 cc) (updN (updN (fun _ => (0 : Int32)) 1 (1 : Int32)) 1 (2 : Int32)) (updN fM 1 (1 : Int32)) (updN fN 1 (1 : Int32)) (updN fO 1 ((updN (fun _ => (0 : Int32)) 1 (1 : Int32)) 1)) 2 (1 + 1) (2 : Int32) (1 : Int32) T26.heap n0 (Nat.le_trans Z0 (KK26 : Keep h0 T26.heap [a, xn, xo, xu, xv, xw, xt, xm]).1) ⟨E_a_26, F_changedNode_a_26, F_changedLine_a_26, F_base_a_26, F_slope_a_26, F_origin_a_26, F_node_a_26, F_pushedAt_a_26, F_width_a_26, F_pushes_a_26, F_changes_a_26, V_xn_26, V_xo_26, V_xu_26, V_xv_26, V_xw_26, V_xt_26, V_xm_26⟩ hD (by decide) (by omega)) e35 E_a_26 (hb hby d7_77) (lenOf pd_0 rfl) rfl rfl (W := 0) (Nat.le_of_eq rfl) (by decide) (by decide) (by decide) (by decide) ?_
      intro v36 T36 L36 X36 Q36
      obtain ⟨rfl, N36q, Kc36, hL36⟩ := Q36
      have N36 := Fr.app N28 N36q
      have E_a_36 := E_a_26.keep Kc36
      have KK36 : Keep h0 T36.heap [a, xn, xo, xu, xv, xw, xt, xm] := (KK26 : Keep h0 T26.heap [a, xn, xo, xu, xv, xw, xt, xm]).trans Kc36 (allS (Or.inl (List.mem_of_getElem? (i := 0) rfl)) (allS (Or.inl (List.mem_of_getElem? (i := 1) rfl)) (allS (Or.inl (List.mem_of_getElem? (i := 2) rfl)) (allS (Or.inl (List.mem_of_getElem? (i := 3) rfl)) (allS (Or.inl (List.mem_of_getElem? (i := 4) rfl)) (allS (Or.inl (List.mem_of_getElem? (i := 5) rfl)) (allS (Or.inl (List.mem_of_getElem? (i := 6) rfl)) (allS (Or.inl (List.mem_of_getElem? (i := 7) rfl)) all0))))))))
      have hL36x : LEs Z T36.heap a xn xo xu xv xw xt xm (updN fP 2 pp) (updN fQ 2 qq) (updN fC 2 cc) (updN (updN (updN (fun _ => (0 : Int32)) 1 (1 : Int32)) 1 (2 : Int32)) 2 (1 : Int32)) (updN fM 1 (1 : Int32)) (updN (updN fN 1 (1 : Int32)) (1 + 1) (2 : Int32)) (updN (updN fO 1 ((updN (fun _ => (0 : Int32)) 1 (1 : Int32)) 1)) (1 + 1) ((updN (updN (fun _ => (0 : Int32)) 1 (1 : Int32)) 1 (2 : Int32)) 2)) 2 (1 + (1 + 1)) := hL36
      have hG36 := Good.write hG26 (k := (2 : Int32)) (by decide) (1 : Int32)
      obtain ⟨E_a_36, F_changedNode_a_36, F_changedLine_a_36, F_base_a_36, F_slope_a_36, F_origin_a_36, F_node_a_36, F_pushedAt_a_36, F_width_a_36, F_pushes_a_36, F_changes_a_36, V_xn_36, V_xo_36, V_xu_36, V_xv_36, V_xw_36, V_xt_36, V_xm_36⟩ := hL36x
      show Go _ _ _ _ _ _ _ T36 (mkF m 80 #[.val (.ref a), .val (.int (2 : Int32)), .val (.double (FP.i2d pp)), .second, .val (.double (FP.i2d qq)), .second, .val (.int cc), .val (.int (1 : Int32)), .val (.int (2 : Int32)), .val (.int (1 : Int32)), .val (.int (2 : Int32)), .val (.int (0 : Int32)), .val (.int (2 : Int32))] [])
      refine Go.retV X36 hx hlk hret (hb hby d7_80) (by decide) (by decide) ?_
      obtain ⟨A, B, d1, d2, d3, d4⟩ := own_lin4 (updN fP 2 pp) (updN fQ 2 qq) (updN fC 2 cc)
      have yhc100_15 := own_lowY hc100_15
      rw [own_l21] at yhc100_15
      have yhc138_29 := own_lowY hc138_29
      rw [own_l12] at yhc138_29
      exact ⟨rfl, N36, KK36, _, _, _, ((0 + 1) + 1), ⟨E_a_36, F_changedNode_a_36, F_changedLine_a_36, F_base_a_36, F_slope_a_36, F_origin_a_36, F_node_a_36, F_pushedAt_a_36, F_width_a_36, F_pushes_a_36, F_changes_a_36, V_xn_36, V_xo_36, V_xu_36, V_xv_36, V_xw_36, V_xt_36, V_xm_36⟩, hG36, by omega, ⟨rfl, rfl, rfl, rfl⟩, (Rng.upd (Rng.upd (Rng.upd own_r0 (by decide) 1) (by decide) 1) (by decide) 2), by decide, by decide, by decide, by decide, own_best (r := (2 : Int32)) (c2 := (1 : Int32)) (c3 := (0 : Int32)) rfl rfl rfl (Or.inr (Or.inl ⟨rfl, rfl⟩)) (Or.inr (Or.inr ⟨rfl, Or.inl ⟨rfl, by omega⟩, Or.inl ⟨rfl, by omega⟩⟩))⟩
theorem ef_rm7B (m : MethodId) (a : Addr) (cc : Int32) (dp : UInt64) (dq : UInt64) : entryFrame m #[(.ref a), (.int (2 : Int32)), (.double dp), (.double dq), (.int cc)] 13 = mkF m 0 #[.val (.ref a), .val (.int (2 : Int32)), .val (.double dp), .second, .val (.double dq), .second, .val (.int cc), .unset, .unset, .unset, .unset, .unset, .unset] [] := by first | (simp [entryFrame, mkF, argsToLocals, Value.category]; done) | rfl
theorem rm7B (l : Launch) (Z : State) (a0 : Array Value) (hw : ∀ d ∈ tables_1, d.before a0 Z = true) (a xn xo xu xv xw xt xm : Addr) (fP fQ fC fM fN fO : Nat → Int32) (pp qq cc : Int32) (h0 : Heap) (n0 : Nat) (Z0 : n0 ≤ h0.size) (hL : LEs Z h0 a xn xo xu xv xw xt xm fP fQ fC (updN (fun _ => (0 : Int32)) 1 (1 : Int32)) fM fN fO 1 1) (hD : Dst n0 a xn xo xu xv xw xt xm) (hP : Sm fP) (hQ : Sm fQ) (hC : Sm fC) (hpp : -128 ≤ pp.toInt ∧ pp.toInt ≤ 127) (hqq : -128 ≤ qq.toInt ∧ qq.toInt ≤ 127) (hcc : -128 ≤ cc.toInt ∧ cc.toInt ≤ 127)  :
    Con l Z (⟨"com/example/headroom/headroom/LowerEnvelope", "push", "(IDDI)V"⟩ : MethodName) prog_15_method_2_code 13 none ({ frames := 1, cells := 0, slots := 0, locals := 24 } : Room) #[(.ref a), (.int (2 : Int32)), (.double (FP.i2d pp)), (.double (FP.i2d qq)), (.int cc)] h0 (fun r h L => r = none ∧ Fr n0 L ∧ Keep h0 h [a, xn, xo, xu, xv, xw, xt, xm] ∧ ∃ (T' N' O' : Nat → Int32) (n' : Nat), LEs Z h a xn xo xu xv xw xt xm (updN fP 2 pp) (updN fQ 2 qq) (updN fC 2 cc) T' (updN fM 1 (1 : Int32)) N' O' 2 (1 + n') ∧ Good (updN (fun _ => (0 : Int32)) 1 (1 : Int32)) fN fO 1 T' N' O' n' ∧ n' ≤ 2 ∧ Lf T' ∧ Rng T' ∧ ¬ T' 1 = (0 : Int32) ∧ (T' 1 = 1 ∨ T' 1 = 2) ∧ (T' 2 = 0 ∨ T' 2 = 1 ∨ T' 2 = 2) ∧ (T' 3 = 0 ∨ T' 3 = 1 ∨ T' 3 = 2) ∧ Best (updN fP 2 pp) (updN fQ 2 qq) (updN fC 2 cc) T') :=
  con_of (plainFor_of_name pn_9) (fun p_ e_ s_ m_ b_ meth_ c_ T_ X_ hx hZ hby hml hown hnm hret hlk e0 => Go.cast (ef_rm7B m_ a cc (FP.i2d pp) (FP.i2d qq)) (w7B a xn xo xu xv xw xt xm fP fQ fC fM fN fO pp qq cc X_ hx hZ hw hby hml hown hnm hret hlk e0 Z0 (Fr.nil n0) hL hD hP hQ hC hpp hqq hcc))
set_option maxRecDepth 65536 in
set_option maxHeartbeats 40000000 in
theorem w7A {p : Program} {l : Launch} {e : Env} {s : State} {m : MethodId} {args : Array Value} {below : List Frame} {meth : Method} {c_ : Code} {T0 : State} {locs : List Loc} {Z : State} {a0 : Array Value} {h0 : Heap} {n0 : Nat} (a xn xo xu xv xw xt xm : Addr) (fP fQ fC fT fM fN fO : Nat → Int32) (sg : Nat) (pp qq cc : Int32)
    (X0 : Stand p l e ({ frames := 1, cells := 0, slots := 0, locals := 24 } : Room) s m args below meth c_ T0 locs 0 0) (hx : p.tables.exec = Jvm.exec) (hZ : Z.Warmed39 s.vm) (hw : ∀ d ∈ tables_1, d.before a0 Z = true) (hby : c_.code = prog_15_method_2_code) (hml : c_.maxLocals = 13) (hown : s.vm.findClass "com/example/headroom/headroom/LowerEnvelope" = some m.cls) (hnm : meth.name = "push") (hret : meth.sig.returnType = none) (hlk : meth.locks = false) (e0 : T0.heap = h0) (Z0 : n0 ≤ h0.size) (N0 : Fr n0 locs) (hL : LEs Z h0 a xn xo xu xv xw xt xm fP fQ fC fT fM fN fO 2 sg) (hD : Dst n0 a xn xo xu xv xw xt xm) (hP : Sm fP) (hQ : Sm fQ) (hC : Sm fC) (hpp : -128 ≤ pp.toInt ∧ pp.toInt ≤ 127) (hqq : -128 ≤ qq.toInt ∧ qq.toInt ≤ 127) (hcc : -128 ≤ cc.toInt ∧ cc.toInt ≤ 127) (hsg : sg ≤ 10) (hR : Rng fT) (hLf : Lf fT) (hr : ¬ fT 1 = (0 : Int32)) :
    Go p e below s ({ frames := 1, cells := 0, slots := 0, locals := 24 } : Room).cells ({ frames := 1, cells := 0, slots := 0, locals := 24 } : Room).slots (fun r h L => r = none ∧ Fr n0 L ∧ Keep h0 h [a, xn, xo, xu, xv, xw, xt, xm] ∧ ∃ (T' N' O' : Nat → Int32) (n' : Nat), LEs Z h a xn xo xu xv xw xt xm (updN fP 3 pp) (updN fQ 3 qq) (updN fC 3 cc) T' (updN fM 2 (Int32.ofNat sg)) N' O' 3 (sg + n') ∧ Good fT fN fO sg T' N' O' n' ∧ n' ≤ 3) T0 (mkF m 0 #[.val (.ref a), .val (.int (3 : Int32)), .val (.double (FP.i2d pp)), .second, .val (.double (FP.i2d qq)), .second, .val (.int cc), .unset, .unset, .unset, .unset, .unset, .unset] []) := by
  have hDq := hD
  obtain ⟨ne_a_xn, ne_a_xo, ne_a_xu, ne_a_xv, ne_a_xw, ne_a_xt, ne_a_xm, ne_xn_xo, ne_xn_xu, ne_xn_xv, ne_xn_xw, ne_xn_xt, ne_xn_xm, ne_xo_xu, ne_xo_xv, ne_xo_xw, ne_xo_xt, ne_xo_xm, ne_xu_xv, ne_xu_xw, ne_xu_xt, ne_xu_xm, ne_xv_xw, ne_xv_xt, ne_xv_xm, ne_xw_xt, ne_xw_xm, ne_xt_xm, ge_a, ge_xn, ge_xo, ge_xu, ge_xv, ge_xw, ge_xt, ge_xm⟩ := hDq
  obtain ⟨E_a_0, F_changedNode_a_0, F_changedLine_a_0, F_base_a_0, F_slope_a_0, F_origin_a_0, F_node_a_0, F_pushedAt_a_0, F_width_a_0, F_pushes_a_0, F_changes_a_0, V_xn_0, V_xo_0, V_xu_0, V_xv_0, V_xw_0, V_xt_0, V_xm_0⟩ := hL
  show Go _ _ _ _ _ _ _ T0 (mkF m 0 #[.val (.ref a), .val (.int (3 : Int32)), .val (.double (FP.i2d pp)), .second, .val (.double (FP.i2d qq)), .second, .val (.int cc), .unset, .unset, .unset, .unset, .unset, .unset] [])
  refine Go.step (fun _ k => XS.aloadN X0.here hx rfl (hb hby d7_0) rfl rfl k) ?_
  obtain ⟨T1, X1, e1, st1⟩ := getF X0 hx hZ hown (host := "") (Or.inl (hw _ (mI 30 rfl))) Via.refl e0 F_base_a_0 (g := (mkF m 1 #[.val (.ref a), .val (.int (3 : Int32)), .val (.double (FP.i2d pp)), .second, .val (.double (FP.i2d qq)), .second, .val (.int cc), .unset, .unset, .unset, .unset, .unset, .unset] [(.ref a)])) rfl rfl (hb hby d7_1)
  refine Go.step st1 ?_
  show Go _ _ _ _ _ _ _ T1 (mkF m 4 #[.val (.ref a), .val (.int (3 : Int32)), .val (.double (FP.i2d pp)), .second, .val (.double (FP.i2d qq)), .second, .val (.int cc), .unset, .unset, .unset, .unset, .unset, .unset] [(.ref xu)])
  refine Go.step (fun _ k => XS.iloadN X1.here hx rfl (hb hby d7_4) rfl k) ?_
  refine Go.step (fun _ k => XS.dloadN X1.here hx rfl (hb hby d7_5) rfl k) ?_
  refine Go.dastore X1 hx hZ e1 V_xu_0 (j := (3 : Int32)) (x := (FP.i2d pp)) (by decide) (hb hby d7_6) ?_
  intro T2 h2 X2 e2 W2 Vn2
  have V_xu_2 : Dv Z h2 xu (5 : Int32) (updN (fun k => FP.i2d (fP k)) 3 (FP.i2d pp)) := Vn2
  have N2 := Fr.snoc X2 N0 ge_xu
  have E_a_2 := E_a_0.wr W2
  have F_changedNode_a_2 := F_changedNode_a_0.other W2 (Or.inl ne_a_xu)
  have F_changedLine_a_2 := F_changedLine_a_0.other W2 (Or.inl ne_a_xu)
  have F_base_a_2 := F_base_a_0.other W2 (Or.inl ne_a_xu)
  have F_slope_a_2 := F_slope_a_0.other W2 (Or.inl ne_a_xu)
  have F_origin_a_2 := F_origin_a_0.other W2 (Or.inl ne_a_xu)
  have F_node_a_2 := F_node_a_0.other W2 (Or.inl ne_a_xu)
  have F_pushedAt_a_2 := F_pushedAt_a_0.other W2 (Or.inl ne_a_xu)
  have F_width_a_2 := F_width_a_0.other W2 (Or.inl ne_a_xu)
  have F_pushes_a_2 := F_pushes_a_0.other W2 (Or.inl ne_a_xu)
  have F_changes_a_2 := F_changes_a_0.other W2 (Or.inl ne_a_xu)
  have V_xn_2 := V_xn_0.other W2 ne_xn_xu
  have V_xo_2 := V_xo_0.other W2 ne_xo_xu
  have V_xv_2 := V_xv_0.other W2 (Ne.symm ne_xu_xv)
  have V_xw_2 := V_xw_0.other W2 (Ne.symm ne_xu_xw)
  have V_xt_2 := V_xt_0.other W2 (Ne.symm ne_xu_xt)
  have V_xm_2 := V_xm_0.other W2 (Ne.symm ne_xu_xm)
  have K2 : Keep h0 h2 [a, xn, xo, xu, xv, xw, xt, xm] := (Keep.refl h0 [a, xn, xo, xu, xv, xw, xt, xm]).wr W2 (Or.inl (List.mem_of_getElem? (i := 3) rfl))
  show Go _ _ _ _ _ _ _ T2 (mkF m 7 #[.val (.ref a), .val (.int (3 : Int32)), .val (.double (FP.i2d pp)), .second, .val (.double (FP.i2d qq)), .second, .val (.int cc), .unset, .unset, .unset, .unset, .unset, .unset] [])
  refine Go.step (fun _ k => XS.aloadN X2.here hx rfl (hb hby d7_7) rfl rfl k) ?_
  obtain ⟨T3, X3, e3, st3⟩ := getF X2 hx hZ hown (host := "") (Or.inl (hw _ (mI 32 rfl))) Via.refl e2 F_slope_a_2 (g := (mkF m 8 #[.val (.ref a), .val (.int (3 : Int32)), .val (.double (FP.i2d pp)), .second, .val (.double (FP.i2d qq)), .second, .val (.int cc), .unset, .unset, .unset, .unset, .unset, .unset] [(.ref a)])) rfl rfl (hb hby d7_8)
  refine Go.step st3 ?_
  show Go _ _ _ _ _ _ _ T3 (mkF m 11 #[.val (.ref a), .val (.int (3 : Int32)), .val (.double (FP.i2d pp)), .second, .val (.double (FP.i2d qq)), .second, .val (.int cc), .unset, .unset, .unset, .unset, .unset, .unset] [(.ref xv)])
  refine Go.step (fun _ k => XS.iloadN X3.here hx rfl (hb hby d7_11) rfl k) ?_
  refine Go.step (fun _ k => XS.dload X3.here hx rfl (hb hby d7_12) rfl k) ?_
  refine Go.dastore X3 hx hZ e3 V_xv_2 (j := (3 : Int32)) (x := (FP.i2d qq)) (by decide) (hb hby d7_14) ?_
  intro T4 h4 X4 e4 W4 Vn4
  have V_xv_4 : Dv Z h4 xv (5 : Int32) (updN (fun k => FP.i2d (fQ k)) 3 (FP.i2d qq)) := Vn4
  have N4 := Fr.snoc X4 N2 ge_xv
  have E_a_4 := E_a_2.wr W4
  have F_changedNode_a_4 := F_changedNode_a_2.other W4 (Or.inl ne_a_xv)
  have F_changedLine_a_4 := F_changedLine_a_2.other W4 (Or.inl ne_a_xv)
  have F_base_a_4 := F_base_a_2.other W4 (Or.inl ne_a_xv)
  have F_slope_a_4 := F_slope_a_2.other W4 (Or.inl ne_a_xv)
  have F_origin_a_4 := F_origin_a_2.other W4 (Or.inl ne_a_xv)
  have F_node_a_4 := F_node_a_2.other W4 (Or.inl ne_a_xv)
  have F_pushedAt_a_4 := F_pushedAt_a_2.other W4 (Or.inl ne_a_xv)
  have F_width_a_4 := F_width_a_2.other W4 (Or.inl ne_a_xv)
  have F_pushes_a_4 := F_pushes_a_2.other W4 (Or.inl ne_a_xv)
  have F_changes_a_4 := F_changes_a_2.other W4 (Or.inl ne_a_xv)
  have V_xn_4 := V_xn_2.other W4 ne_xn_xv
  have V_xo_4 := V_xo_2.other W4 ne_xo_xv
  have V_xu_4 := V_xu_2.other W4 ne_xu_xv
  have V_xw_4 := V_xw_2.other W4 (Ne.symm ne_xv_xw)
  have V_xt_4 := V_xt_2.other W4 (Ne.symm ne_xv_xt)
  have V_xm_4 := V_xm_2.other W4 (Ne.symm ne_xv_xm)
  have K4 : Keep h0 h4 [a, xn, xo, xu, xv, xw, xt, xm] := K2.wr W4 (Or.inl (List.mem_of_getElem? (i := 4) rfl))
  show Go _ _ _ _ _ _ _ T4 (mkF m 15 #[.val (.ref a), .val (.int (3 : Int32)), .val (.double (FP.i2d pp)), .second, .val (.double (FP.i2d qq)), .second, .val (.int cc), .unset, .unset, .unset, .unset, .unset, .unset] [])
  refine Go.step (fun _ k => XS.aloadN X4.here hx rfl (hb hby d7_15) rfl rfl k) ?_
  obtain ⟨T5, X5, e5, st5⟩ := getF X4 hx hZ hown (host := "") (Or.inl (hw _ (mI 34 rfl))) Via.refl e4 F_origin_a_4 (g := (mkF m 16 #[.val (.ref a), .val (.int (3 : Int32)), .val (.double (FP.i2d pp)), .second, .val (.double (FP.i2d qq)), .second, .val (.int cc), .unset, .unset, .unset, .unset, .unset, .unset] [(.ref a)])) rfl rfl (hb hby d7_16)
  refine Go.step st5 ?_
  show Go _ _ _ _ _ _ _ T5 (mkF m 19 #[.val (.ref a), .val (.int (3 : Int32)), .val (.double (FP.i2d pp)), .second, .val (.double (FP.i2d qq)), .second, .val (.int cc), .unset, .unset, .unset, .unset, .unset, .unset] [(.ref xw)])
  refine Go.step (fun _ k => XS.iloadN X5.here hx rfl (hb hby d7_19) rfl k) ?_
  refine Go.step (fun _ k => XS.iload X5.here hx rfl (hb hby d7_20) rfl k) ?_
  refine Go.iastore X5 hx hZ e5 V_xw_4 (j := (3 : Int32)) (x := cc) (by decide) (hb hby d7_22) ?_
  intro T6 h6 X6 e6 W6 Vn6
  have V_xw_6 : Iv Z h6 xw (5 : Int32) (updN fC 3 cc) := Vn6
  have N6 := Fr.snoc X6 N4 ge_xw
  have E_a_6 := E_a_4.wr W6
  have F_changedNode_a_6 := F_changedNode_a_4.other W6 (Or.inl ne_a_xw)
  have F_changedLine_a_6 := F_changedLine_a_4.other W6 (Or.inl ne_a_xw)
  have F_base_a_6 := F_base_a_4.other W6 (Or.inl ne_a_xw)
  have F_slope_a_6 := F_slope_a_4.other W6 (Or.inl ne_a_xw)
  have F_origin_a_6 := F_origin_a_4.other W6 (Or.inl ne_a_xw)
  have F_node_a_6 := F_node_a_4.other W6 (Or.inl ne_a_xw)
  have F_pushedAt_a_6 := F_pushedAt_a_4.other W6 (Or.inl ne_a_xw)
  have F_width_a_6 := F_width_a_4.other W6 (Or.inl ne_a_xw)
  have F_pushes_a_6 := F_pushes_a_4.other W6 (Or.inl ne_a_xw)
  have F_changes_a_6 := F_changes_a_4.other W6 (Or.inl ne_a_xw)
  have V_xn_6 := V_xn_4.other W6 ne_xn_xw
  have V_xo_6 := V_xo_4.other W6 ne_xo_xw
  have V_xu_6 := V_xu_4.other W6 ne_xu_xw
  have V_xv_6 := V_xv_4.other W6 ne_xv_xw
  have V_xt_6 := V_xt_4.other W6 (Ne.symm ne_xw_xt)
  have V_xm_6 := V_xm_4.other W6 (Ne.symm ne_xw_xm)
  have K6 : Keep h0 h6 [a, xn, xo, xu, xv, xw, xt, xm] := K4.wr W6 (Or.inl (List.mem_of_getElem? (i := 5) rfl))
  show Go _ _ _ _ _ _ _ T6 (mkF m 23 #[.val (.ref a), .val (.int (3 : Int32)), .val (.double (FP.i2d pp)), .second, .val (.double (FP.i2d qq)), .second, .val (.int cc), .unset, .unset, .unset, .unset, .unset, .unset] [])
  refine Go.step (fun _ k => XS.aloadN X6.here hx rfl (hb hby d7_23) rfl rfl k) ?_
  obtain ⟨T7, X7, e7, st7⟩ := getF X6 hx hZ hown (host := "") (Or.inl (hw _ (mI 38 rfl))) Via.refl e6 F_pushedAt_a_6 (g := (mkF m 24 #[.val (.ref a), .val (.int (3 : Int32)), .val (.double (FP.i2d pp)), .second, .val (.double (FP.i2d qq)), .second, .val (.int cc), .unset, .unset, .unset, .unset, .unset, .unset] [(.ref a)])) rfl rfl (hb hby d7_24)
  refine Go.step st7 ?_
  show Go _ _ _ _ _ _ _ T7 (mkF m 27 #[.val (.ref a), .val (.int (3 : Int32)), .val (.double (FP.i2d pp)), .second, .val (.double (FP.i2d qq)), .second, .val (.int cc), .unset, .unset, .unset, .unset, .unset, .unset] [(.ref xm)])
  refine Go.step (fun _ k => XS.aloadN X7.here hx rfl (hb hby d7_27) rfl rfl k) ?_
  refine Go.step (fun _ k => XS.dup X7.here hx rfl (hb hby d7_28) rfl rfl k) ?_
  obtain ⟨T8, X8, e8, st8⟩ := getF X7 hx hZ hown (host := "") (Or.inl (hw _ (mI 49 rfl))) Via.refl e7 F_pushes_a_6 (g := (mkF m 29 #[.val (.ref a), .val (.int (3 : Int32)), .val (.double (FP.i2d pp)), .second, .val (.double (FP.i2d qq)), .second, .val (.int cc), .unset, .unset, .unset, .unset, .unset, .unset] [(.ref a), (.ref a), (.ref xm)])) rfl rfl (hb hby d7_29)
  refine Go.step st8 ?_
  show Go _ _ _ _ _ _ _ T8 (mkF m 32 #[.val (.ref a), .val (.int (3 : Int32)), .val (.double (FP.i2d pp)), .second, .val (.double (FP.i2d qq)), .second, .val (.int cc), .unset, .unset, .unset, .unset, .unset, .unset] [(.int (2 : Int32)), (.ref a), (.ref xm)])
  refine Go.step (fun _ k => XS.dupX1 X8.here hx rfl (hb hby d7_32) rfl rfl rfl k) ?_
  show Go _ _ _ _ _ _ _ T8 (mkF m 33 #[.val (.ref a), .val (.int (3 : Int32)), .val (.double (FP.i2d pp)), .second, .val (.double (FP.i2d qq)), .second, .val (.int cc), .unset, .unset, .unset, .unset, .unset, .unset] [(.int (2 : Int32)), (.ref a), (.int (2 : Int32)), (.ref xm)])
  refine Go.step (fun _ k => XS.iconst X8.here hx rfl (hb hby d7_33) k) ?_
  refine Go.step (fun _ k => XS.iadd X8.here hx rfl (hb hby d7_34) rfl k) ?_
  show Go _ _ _ _ _ _ _ T8 (mkF m 35 #[.val (.ref a), .val (.int (3 : Int32)), .val (.double (FP.i2d pp)), .second, .val (.double (FP.i2d qq)), .second, .val (.int cc), .unset, .unset, .unset, .unset, .unset, .unset] [(.int (3 : Int32)), (.ref a), (.int (2 : Int32)), (.ref xm)])
  obtain ⟨T9, h9, X9, e9, W9, st9⟩ := putF X8 hx hZ hown (host := "") (Or.inl (hw _ (mI 49 rfl))) Via.refl e8 F_pushes_a_6 E_a_6 (Or.inl (hw _ (mI 50 rfl))) (hw _ (mI 1 rfl)) (ty := .int) (by decide) rfl rfl (g := (mkF m 35 #[.val (.ref a), .val (.int (3 : Int32)), .val (.double (FP.i2d pp)), .second, .val (.double (FP.i2d qq)), .second, .val (.int cc), .unset, .unset, .unset, .unset, .unset, .unset] [(.int (3 : Int32)), (.ref a), (.int (2 : Int32)), (.ref xm)])) rfl rfl (hb hby d7_35)
  refine Go.step st9 ?_
  have N9 := Fr.snoc X9 N6 ge_a
  have F_pushes_a_9 := F_pushes_a_6.same W9
  have E_a_9 := E_a_6.wr W9
  have F_changedNode_a_9 := F_changedNode_a_6.other W9 (Or.inr (slot_ne (Or.inl (hw _ (mI 11 rfl))) (Or.inl (hw _ (mI 50 rfl))) (by decide) (t := (.array .int)) (t' := .int) (by decide) (by decide)))
  have F_changedLine_a_9 := F_changedLine_a_6.other W9 (Or.inr (slot_ne (Or.inl (hw _ (mI 13 rfl))) (Or.inl (hw _ (mI 50 rfl))) (by decide) (t := (.array .int)) (t' := .int) (by decide) (by decide)))
  have F_base_a_9 := F_base_a_6.other W9 (Or.inr (slot_ne (Or.inr (hw _ (mI 31 rfl))) (Or.inl (hw _ (mI 50 rfl))) (by decide) (t := (.array .double)) (t' := .int) (by decide) (by decide)))
  have F_slope_a_9 := F_slope_a_6.other W9 (Or.inr (slot_ne (Or.inr (hw _ (mI 33 rfl))) (Or.inl (hw _ (mI 50 rfl))) (by decide) (t := (.array .double)) (t' := .int) (by decide) (by decide)))
  have F_origin_a_9 := F_origin_a_6.other W9 (Or.inr (slot_ne (Or.inr (hw _ (mI 35 rfl))) (Or.inl (hw _ (mI 50 rfl))) (by decide) (t := (.array .int)) (t' := .int) (by decide) (by decide)))
  have F_node_a_9 := F_node_a_6.other W9 (Or.inr (slot_ne (Or.inr (hw _ (mI 37 rfl))) (Or.inl (hw _ (mI 50 rfl))) (by decide) (t := (.array .int)) (t' := .int) (by decide) (by decide)))
  have F_pushedAt_a_9 := F_pushedAt_a_6.other W9 (Or.inr (slot_ne (Or.inr (hw _ (mI 39 rfl))) (Or.inl (hw _ (mI 50 rfl))) (by decide) (t := (.array .int)) (t' := .int) (by decide) (by decide)))
  have F_width_a_9 := F_width_a_6.other W9 (Or.inr (slot_ne (Or.inr (hw _ (mI 28 rfl))) (Or.inl (hw _ (mI 50 rfl))) (by decide) (t := .int) (t' := .int) (by decide) (by decide)))
  have F_changes_a_9 := F_changes_a_6.other W9 (Or.inr (slot_ne (Or.inl (hw _ (mI 52 rfl))) (Or.inl (hw _ (mI 50 rfl))) (by decide) (t := .int) (t' := .int) (by decide) (by decide)))
  have V_xn_9 := V_xn_6.other W9 (Ne.symm ne_a_xn)
  have V_xo_9 := V_xo_6.other W9 (Ne.symm ne_a_xo)
  have V_xu_9 := V_xu_6.other W9 (Ne.symm ne_a_xu)
  have V_xv_9 := V_xv_6.other W9 (Ne.symm ne_a_xv)
  have V_xw_9 := V_xw_6.other W9 (Ne.symm ne_a_xw)
  have V_xt_9 := V_xt_6.other W9 (Ne.symm ne_a_xt)
  have V_xm_9 := V_xm_6.other W9 (Ne.symm ne_a_xm)
  have K9 : Keep h0 h9 [a, xn, xo, xu, xv, xw, xt, xm] := K6.wr W9 (Or.inl (List.mem_of_getElem? (i := 0) rfl))
  show Go _ _ _ _ _ _ _ T9 (mkF m 38 #[.val (.ref a), .val (.int (3 : Int32)), .val (.double (FP.i2d pp)), .second, .val (.double (FP.i2d qq)), .second, .val (.int cc), .unset, .unset, .unset, .unset, .unset, .unset] [(.int (2 : Int32)), (.ref xm)])
  refine Go.step (fun _ k => XS.aloadN X9.here hx rfl (hb hby d7_38) rfl rfl k) ?_
  obtain ⟨T10, X10, e10, st10⟩ := getF X9 hx hZ hown (host := "") (Or.inl (hw _ (mI 51 rfl))) Via.refl e9 F_changes_a_9 (g := (mkF m 39 #[.val (.ref a), .val (.int (3 : Int32)), .val (.double (FP.i2d pp)), .second, .val (.double (FP.i2d qq)), .second, .val (.int cc), .unset, .unset, .unset, .unset, .unset, .unset] [(.ref a), (.int (2 : Int32)), (.ref xm)])) rfl rfl (hb hby d7_39)
  refine Go.step st10 ?_
  show Go _ _ _ _ _ _ _ T10 (mkF m 42 #[.val (.ref a), .val (.int (3 : Int32)), .val (.double (FP.i2d pp)), .second, .val (.double (FP.i2d qq)), .second, .val (.int cc), .unset, .unset, .unset, .unset, .unset, .unset] [(.int (Int32.ofNat sg)), (.int (2 : Int32)), (.ref xm)])
  refine Go.iastore X10 hx hZ e10 V_xm_9 (j := (2 : Int32)) (x := (Int32.ofNat sg)) (by decide) (hb hby d7_42) ?_
  intro T11 h11 X11 e11 W11 Vn11
  have V_xm_11 : Iv Z h11 xm (4 : Int32) (updN fM 2 (Int32.ofNat sg)) := Vn11
  have N11 := Fr.snoc X11 N9 ge_xm
  have E_a_11 := E_a_9.wr W11
  have F_changedNode_a_11 := F_changedNode_a_9.other W11 (Or.inl ne_a_xm)
  have F_changedLine_a_11 := F_changedLine_a_9.other W11 (Or.inl ne_a_xm)
  have F_base_a_11 := F_base_a_9.other W11 (Or.inl ne_a_xm)
  have F_slope_a_11 := F_slope_a_9.other W11 (Or.inl ne_a_xm)
  have F_origin_a_11 := F_origin_a_9.other W11 (Or.inl ne_a_xm)
  have F_node_a_11 := F_node_a_9.other W11 (Or.inl ne_a_xm)
  have F_pushedAt_a_11 := F_pushedAt_a_9.other W11 (Or.inl ne_a_xm)
  have F_width_a_11 := F_width_a_9.other W11 (Or.inl ne_a_xm)
  have F_pushes_a_11 := F_pushes_a_9.other W11 (Or.inl ne_a_xm)
  have F_changes_a_11 := F_changes_a_9.other W11 (Or.inl ne_a_xm)
  have V_xn_11 := V_xn_9.other W11 ne_xn_xm
  have V_xo_11 := V_xo_9.other W11 ne_xo_xm
  have V_xu_11 := V_xu_9.other W11 ne_xu_xm
  have V_xv_11 := V_xv_9.other W11 ne_xv_xm
  have V_xw_11 := V_xw_9.other W11 ne_xw_xm
  have V_xt_11 := V_xt_9.other W11 ne_xt_xm
  have K11 : Keep h0 h11 [a, xn, xo, xu, xv, xw, xt, xm] := K9.wr W11 (Or.inl (List.mem_of_getElem? (i := 7) rfl))
  have u1 := own_updD (j := 3) V_xu_11
  have u2 := own_updD (j := 3) V_xv_11
  have hL43 : LEs Z h11 a xn xo xu xv xw xt xm (updN fP 3 pp) (updN fQ 3 qq) (updN fC 3 cc) fT (updN fM 2 (Int32.ofNat sg)) fN fO 3 sg := ⟨E_a_11, F_changedNode_a_11, F_changedLine_a_11, F_base_a_11, F_slope_a_11, F_origin_a_11, F_node_a_11, F_pushedAt_a_11, F_width_a_11, F_pushes_a_11, F_changes_a_11, V_xn_11, V_xo_11, u1, u2, V_xw_11, V_xt_11, V_xm_11⟩
  obtain ⟨E_a_43, F_changedNode_a_43, F_changedLine_a_43, F_base_a_43, F_slope_a_43, F_origin_a_43, F_node_a_43, F_pushedAt_a_43, F_width_a_43, F_pushes_a_43, F_changes_a_43, V_xn_43, V_xo_43, V_xu_43, V_xv_43, V_xw_43, V_xt_43, V_xm_43⟩ := hL43
  have spp : Sm (updN fP 3 pp) := Sm.upd hP hpp 3
  have sqq : Sm (updN fQ 3 qq) := Sm.upd hQ hqq 3
  have scc : Sm (updN fC 3 cc) := Sm.upd hC hcc 3
  show Go _ _ _ _ _ _ _ T11 (mkF m 43 #[.val (.ref a), .val (.int (3 : Int32)), .val (.double (FP.i2d pp)), .second, .val (.double (FP.i2d qq)), .second, .val (.int cc), .unset, .unset, .unset, .unset, .unset, .unset] [])
  refine Go.step (fun _ k => XS.iloadN X11.here hx rfl (hb hby d7_43) rfl k) ?_
  refine Go.step (fun _ k => XS.istore X11.here hx rfl (hb hby d7_44) rfl (l' := #[.val (.ref a), .val (.int (3 : Int32)), .val (.double (FP.i2d pp)), .second, .val (.double (FP.i2d qq)), .second, .val (.int cc), .val (.int (3 : Int32)), .unset, .unset, .unset, .unset, .unset]) rfl k) ?_
  show Go _ _ _ _ _ _ _ T11 (mkF m 46 #[.val (.ref a), .val (.int (3 : Int32)), .val (.double (FP.i2d pp)), .second, .val (.double (FP.i2d qq)), .second, .val (.int cc), .val (.int (3 : Int32)), .unset, .unset, .unset, .unset, .unset] [])
  refine Go.step (fun _ k => XS.iconst X11.here hx rfl (hb hby d7_46) k) ?_
  refine Go.step (fun _ k => XS.istore X11.here hx rfl (hb hby d7_47) rfl (l' := #[.val (.ref a), .val (.int (3 : Int32)), .val (.double (FP.i2d pp)), .second, .val (.double (FP.i2d qq)), .second, .val (.int cc), .val (.int (3 : Int32)), .val (.int (1 : Int32)), .unset, .unset, .unset, .unset]) rfl k) ?_
  show Go _ _ _ _ _ _ _ T11 (mkF m 49 #[.val (.ref a), .val (.int (3 : Int32)), .val (.double (FP.i2d pp)), .second, .val (.double (FP.i2d qq)), .second, .val (.int cc), .val (.int (3 : Int32)), .val (.int (1 : Int32)), .unset, .unset, .unset, .unset] [])
  refine Go.step (fun _ k => XS.iconst X11.here hx rfl (hb hby d7_49) k) ?_
  refine Go.step (fun _ k => XS.istore X11.here hx rfl (hb hby d7_50) rfl (l' := #[.val (.ref a), .val (.int (3 : Int32)), .val (.double (FP.i2d pp)), .second, .val (.double (FP.i2d qq)), .second, .val (.int cc), .val (.int (3 : Int32)), .val (.int (1 : Int32)), .val (.int (1 : Int32)), .unset, .unset, .unset]) rfl k) ?_
  show Go _ _ _ _ _ _ _ T11 (mkF m 52 #[.val (.ref a), .val (.int (3 : Int32)), .val (.double (FP.i2d pp)), .second, .val (.double (FP.i2d qq)), .second, .val (.int cc), .val (.int (3 : Int32)), .val (.int (1 : Int32)), .val (.int (1 : Int32)), .unset, .unset, .unset] [])
  refine Go.step (fun _ k => XS.aloadN X11.here hx rfl (hb hby d7_52) rfl rfl k) ?_
  obtain ⟨T12, X12, e12, st12⟩ := getF X11 hx hZ hown (host := "") (Or.inl (hw _ (mI 27 rfl))) Via.refl e11 F_width_a_43 (g := (mkF m 53 #[.val (.ref a), .val (.int (3 : Int32)), .val (.double (FP.i2d pp)), .second, .val (.double (FP.i2d qq)), .second, .val (.int cc), .val (.int (3 : Int32)), .val (.int (1 : Int32)), .val (.int (1 : Int32)), .unset, .unset, .unset] [(.ref a)])) rfl rfl (hb hby d7_53)
  refine Go.step st12 ?_
  show Go _ _ _ _ _ _ _ T12 (mkF m 56 #[.val (.ref a), .val (.int (3 : Int32)), .val (.double (FP.i2d pp)), .second, .val (.double (FP.i2d qq)), .second, .val (.int cc), .val (.int (3 : Int32)), .val (.int (1 : Int32)), .val (.int (1 : Int32)), .unset, .unset, .unset] [(.int (4 : Int32))])
  refine Go.step (fun _ k => XS.istore X12.here hx rfl (hb hby d7_56) rfl (l' := #[.val (.ref a), .val (.int (3 : Int32)), .val (.double (FP.i2d pp)), .second, .val (.double (FP.i2d qq)), .second, .val (.int cc), .val (.int (3 : Int32)), .val (.int (1 : Int32)), .val (.int (1 : Int32)), .val (.int (4 : Int32)), .unset, .unset]) rfl k) ?_
  show Go _ _ _ _ _ _ _ T12 (mkF m 58 #[.val (.ref a), .val (.int (3 : Int32)), .val (.double (FP.i2d pp)), .second, .val (.double (FP.i2d qq)), .second, .val (.int cc), .val (.int (3 : Int32)), .val (.int (1 : Int32)), .val (.int (1 : Int32)), .val (.int (4 : Int32)), .unset, .unset] [])
  refine Go.step (fun _ k => XS.aloadN X12.here hx rfl (hb hby d7_58) rfl rfl k) ?_
  obtain ⟨T13, X13, e13, st13⟩ := getF X12 hx hZ hown (host := "") (Or.inl (hw _ (mI 36 rfl))) Via.refl e12 F_node_a_43 (g := (mkF m 59 #[.val (.ref a), .val (.int (3 : Int32)), .val (.double (FP.i2d pp)), .second, .val (.double (FP.i2d qq)), .second, .val (.int cc), .val (.int (3 : Int32)), .val (.int (1 : Int32)), .val (.int (1 : Int32)), .val (.int (4 : Int32)), .unset, .unset] [(.ref a)])) rfl rfl (hb hby d7_59)
  refine Go.step st13 ?_
  show Go _ _ _ _ _ _ _ T13 (mkF m 62 #[.val (.ref a), .val (.int (3 : Int32)), .val (.double (FP.i2d pp)), .second, .val (.double (FP.i2d qq)), .second, .val (.int cc), .val (.int (3 : Int32)), .val (.int (1 : Int32)), .val (.int (1 : Int32)), .val (.int (4 : Int32)), .unset, .unset] [(.ref xt)])
  refine Go.step (fun _ k => XS.iload X13.here hx rfl (hb hby d7_62) rfl k) ?_
  refine Go.iaload X13 hx hZ e13 V_xt_43 (j := (1 : Int32)) (v := (fT 1)) (by decide) rfl (hb hby d7_64) ?_
  show Go _ _ _ _ _ _ _ T13 (mkF m 65 #[.val (.ref a), .val (.int (3 : Int32)), .val (.double (FP.i2d pp)), .second, .val (.double (FP.i2d qq)), .second, .val (.int cc), .val (.int (3 : Int32)), .val (.int (1 : Int32)), .val (.int (1 : Int32)), .val (.int (4 : Int32)), .unset, .unset] [(.int (fT 1))])
  refine Go.step (fun _ k => XS.istore X13.here hx rfl (hb hby d7_65) rfl (l' := #[.val (.ref a), .val (.int (3 : Int32)), .val (.double (FP.i2d pp)), .second, .val (.double (FP.i2d qq)), .second, .val (.int cc), .val (.int (3 : Int32)), .val (.int (1 : Int32)), .val (.int (1 : Int32)), .val (.int (4 : Int32)), .val (.int (fT 1)), .unset]) rfl k) ?_
  show Go _ _ _ _ _ _ _ T13 (mkF m 67 #[.val (.ref a), .val (.int (3 : Int32)), .val (.double (FP.i2d pp)), .second, .val (.double (FP.i2d qq)), .second, .val (.int cc), .val (.int (3 : Int32)), .val (.int (1 : Int32)), .val (.int (1 : Int32)), .val (.int (4 : Int32)), .val (.int (fT 1)), .unset] [])
  refine Go.step (fun _ k => XS.iload X13.here hx rfl (hb hby d7_67) rfl k) ?_
  refine Go.step (fun _ k => XS.ifYes X13.here hx rfl (pc0 := 69) (pc' := 81) rfl (hb hby d7_69) rfl ((if0 _ _).trans (feq hr).2) (by decide) (by decide) k) ?_
  show Go _ _ _ _ _ _ _ T13 (mkF m 81 #[.val (.ref a), .val (.int (3 : Int32)), .val (.double (FP.i2d pp)), .second, .val (.double (FP.i2d qq)), .second, .val (.int cc), .val (.int (3 : Int32)), .val (.int (1 : Int32)), .val (.int (1 : Int32)), .val (.int (4 : Int32)), .val (.int (fT 1)), .unset] [])
  refine Go.step (fun _ k => XS.iload X13.here hx rfl (hb hby d7_81) rfl k) ?_
  refine Go.step (fun _ k => XS.iload X13.here hx rfl (hb hby d7_83) rfl k) ?_
  refine Go.step (fun _ k => XS.iadd X13.here hx rfl (hb hby d7_85) rfl k) ?_
  show Go _ _ _ _ _ _ _ T13 (mkF m 86 #[.val (.ref a), .val (.int (3 : Int32)), .val (.double (FP.i2d pp)), .second, .val (.double (FP.i2d qq)), .second, .val (.int cc), .val (.int (3 : Int32)), .val (.int (1 : Int32)), .val (.int (1 : Int32)), .val (.int (4 : Int32)), .val (.int (fT 1)), .unset] [(.int (5 : Int32))])
  refine Go.step (fun _ k => XS.iconst X13.here hx rfl (hb hby d7_86) k) ?_
  refine Go.step (fun _ k => XS.iushr X13.here hx rfl (hb hby d7_87) rfl k) ?_
  show Go _ _ _ _ _ _ _ T13 (mkF m 88 #[.val (.ref a), .val (.int (3 : Int32)), .val (.double (FP.i2d pp)), .second, .val (.double (FP.i2d qq)), .second, .val (.int cc), .val (.int (3 : Int32)), .val (.int (1 : Int32)), .val (.int (1 : Int32)), .val (.int (4 : Int32)), .val (.int (fT 1)), .unset] [(.int (2 : Int32))])
  refine Go.step (fun _ k => XS.istore X13.here hx rfl (hb hby d7_88) rfl (l' := #[.val (.ref a), .val (.int (3 : Int32)), .val (.double (FP.i2d pp)), .second, .val (.double (FP.i2d qq)), .second, .val (.int cc), .val (.int (3 : Int32)), .val (.int (1 : Int32)), .val (.int (1 : Int32)), .val (.int (4 : Int32)), .val (.int (fT 1)), .val (.int (2 : Int32))]) rfl k) ?_
  show Go _ _ _ _ _ _ _ T13 (mkF m 90 #[.val (.ref a), .val (.int (3 : Int32)), .val (.double (FP.i2d pp)), .second, .val (.double (FP.i2d qq)), .second, .val (.int cc), .val (.int (3 : Int32)), .val (.int (1 : Int32)), .val (.int (1 : Int32)), .val (.int (4 : Int32)), .val (.int (fT 1)), .val (.int (2 : Int32))] [])
  refine Go.step (fun _ k => XS.aloadN X13.here hx rfl (hb hby d7_90) rfl rfl k) ?_
  refine Go.step (fun _ k => XS.iload X13.here hx rfl (hb hby d7_91) rfl k) ?_
  refine Go.step (fun _ k => XS.iload X13.here hx rfl (hb hby d7_93) rfl k) ?_
  show Go _ _ _ _ _ _ _ T13 (mkF m 95 #[.val (.ref a), .val (.int (3 : Int32)), .val (.double (FP.i2d pp)), .second, .val (.double (FP.i2d qq)), .second, .val (.int cc), .val (.int (3 : Int32)), .val (.int (1 : Int32)), .val (.int (1 : Int32)), .val (.int (4 : Int32)), .val (.int (fT 1)), .val (.int (2 : Int32))] [(.int (fT 1)), (.int (3 : Int32)), (.ref a)])
  refine Go.step (fun _ k => XS.iload X13.here hx rfl (hb hby d7_95) rfl k) ?_
  refine Go.callP X13 hx hZ (by rw [hml]; rfl) (y := (⟨"com/example/headroom/headroom/LowerEnvelope", "lower", "(III)Z"⟩ : MethodName)) (a := a) (argsL := [(.int (3 : Int32)), (.int (fT 1)), (.int (2 : Int32))]) (rest := []) hown (hw _ (mI 57 rfl)) (hw _ (mI 58 rfl)) (hw _ (mI 1 rfl)) (hw _ (mI 59 rfl)) (hw _ (mI 2 rfl)) (hw _ (mI 60 rfl)) (by decide) (rm9 l Z a0 hw a xu xv xw (updN fP 3 pp) (updN fQ 3 qq) (updN fC 3 cc) (3 : Int32) (fT 1) (2 : Int32) h11 n0 (Nat.le_trans Z0 (K11 : Keep h0 h11 [a, xn, xo, xu, xv, xw, xt, xm]).1) F_base_a_43 F_slope_a_43 F_origin_a_43 V_xu_43 V_xv_43 V_xw_43 spp sqq scc (by decide) (hR 1) (own_in (2 : Int32) (by decide))) e13 E_a_43 (hb hby d7_97) (lenOf pd_1 rfl) rfl rfl (W := 0) (Nat.le_of_eq rfl) (by decide) (by decide) (by decide) (by decide) ?_
  intro v14 T14 L14 X14 Q14
  obtain ⟨rfl, N14q, hh14⟩ := Q14
  have N14 := Fr.app N11 N14q
  show Go _ _ _ _ _ _ _ T14 (mkF m 100 #[.val (.ref a), .val (.int (3 : Int32)), .val (.double (FP.i2d pp)), .second, .val (.double (FP.i2d qq)), .second, .val (.int cc), .val (.int (3 : Int32)), .val (.int (1 : Int32)), .val (.int (1 : Int32)), .val (.int (4 : Int32)), .val (.int (fT 1)), .val (.int (2 : Int32))] [(.int (lowW (updN fP 3 pp) (updN fQ 3 qq) (updN fC 3 cc) (3 : Int32) (fT 1) (2 : Int32)))])
  by_cases hc100_15 : (lowW (updN fP 3 pp) (updN fQ 3 qq) (updN fC 3 cc) (3 : Int32) (fT 1) (2 : Int32)) = (0 : Int32)
  · refine Go.step (fun _ k => XS.ifYes X14.here hx rfl (pc0 := 100) (pc' := 115) rfl (hb hby d7_100) rfl ((if0 _ _).trans (teq hc100_15).1) (by decide) (by decide) k) ?_
    show Go _ _ _ _ _ _ _ T14 (mkF m 115 #[.val (.ref a), .val (.int (3 : Int32)), .val (.double (FP.i2d pp)), .second, .val (.double (FP.i2d qq)), .second, .val (.int cc), .val (.int (3 : Int32)), .val (.int (1 : Int32)), .val (.int (1 : Int32)), .val (.int (4 : Int32)), .val (.int (fT 1)), .val (.int (2 : Int32))] [])
    refine Go.step (fun _ k => XS.iload X14.here hx rfl (hb hby d7_115) rfl k) ?_
    refine Go.step (fun _ k => XS.iload X14.here hx rfl (hb hby d7_117) rfl k) ?_
    refine Go.step (fun _ k => XS.icmpYes X14.here hx rfl (pc0 := 119) (pc' := 123) rfl (hb hby d7_119) rfl (feq (by decide : ¬ ((1 : Int32) = (4 : Int32)))).2 (by decide) (by decide) k) ?_
    show Go _ _ _ _ _ _ _ T14 (mkF m 123 #[.val (.ref a), .val (.int (3 : Int32)), .val (.double (FP.i2d pp)), .second, .val (.double (FP.i2d qq)), .second, .val (.int cc), .val (.int (3 : Int32)), .val (.int (1 : Int32)), .val (.int (1 : Int32)), .val (.int (4 : Int32)), .val (.int (fT 1)), .val (.int (2 : Int32))] [])
    refine Go.step (fun _ k => XS.aloadN X14.here hx rfl (hb hby d7_123) rfl rfl k) ?_
    refine Go.step (fun _ k => XS.iload X14.here hx rfl (hb hby d7_124) rfl k) ?_
    refine Go.step (fun _ k => XS.aloadN X14.here hx rfl (hb hby d7_126) rfl rfl k) ?_
    show Go _ _ _ _ _ _ _ T14 (mkF m 127 #[.val (.ref a), .val (.int (3 : Int32)), .val (.double (FP.i2d pp)), .second, .val (.double (FP.i2d qq)), .second, .val (.int cc), .val (.int (3 : Int32)), .val (.int (1 : Int32)), .val (.int (1 : Int32)), .val (.int (4 : Int32)), .val (.int (fT 1)), .val (.int (2 : Int32))] [(.ref a), (.int (3 : Int32)), (.ref a)])
    obtain ⟨T16, X16, e16, st16⟩ := getF X14 hx hZ hown (host := "") (Or.inl (hw _ (mI 36 rfl))) Via.refl hh14 F_node_a_43 (g := (mkF m 127 #[.val (.ref a), .val (.int (3 : Int32)), .val (.double (FP.i2d pp)), .second, .val (.double (FP.i2d qq)), .second, .val (.int cc), .val (.int (3 : Int32)), .val (.int (1 : Int32)), .val (.int (1 : Int32)), .val (.int (4 : Int32)), .val (.int (fT 1)), .val (.int (2 : Int32))] [(.ref a), (.int (3 : Int32)), (.ref a)])) rfl rfl (hb hby d7_127)
    refine Go.step st16 ?_
    show Go _ _ _ _ _ _ _ T16 (mkF m 130 #[.val (.ref a), .val (.int (3 : Int32)), .val (.double (FP.i2d pp)), .second, .val (.double (FP.i2d qq)), .second, .val (.int cc), .val (.int (3 : Int32)), .val (.int (1 : Int32)), .val (.int (1 : Int32)), .val (.int (4 : Int32)), .val (.int (fT 1)), .val (.int (2 : Int32))] [(.ref xt), (.int (3 : Int32)), (.ref a)])
    refine Go.step (fun _ k => XS.iload X16.here hx rfl (hb hby d7_130) rfl k) ?_
    refine Go.iaload X16 hx hZ e16 V_xt_43 (j := (1 : Int32)) (v := (fT 1)) (by decide) rfl (hb hby d7_132) ?_
    show Go _ _ _ _ _ _ _ T16 (mkF m 133 #[.val (.ref a), .val (.int (3 : Int32)), .val (.double (FP.i2d pp)), .second, .val (.double (FP.i2d qq)), .second, .val (.int cc), .val (.int (3 : Int32)), .val (.int (1 : Int32)), .val (.int (1 : Int32)), .val (.int (4 : Int32)), .val (.int (fT 1)), .val (.int (2 : Int32))] [(.int (fT 1)), (.int (3 : Int32)), (.ref a)])
    refine Go.step (fun _ k => XS.iload X16.here hx rfl (hb hby d7_133) rfl k) ?_
    refine Go.callP X16 hx hZ (by rw [hml]; rfl) (y := (⟨"com/example/headroom/headroom/LowerEnvelope", "lower", "(III)Z"⟩ : MethodName)) (a := a) (argsL := [(.int (3 : Int32)), (.int (fT 1)), (.int (1 : Int32))]) (rest := []) hown (hw _ (mI 57 rfl)) (hw _ (mI 58 rfl)) (hw _ (mI 1 rfl)) (hw _ (mI 59 rfl)) (hw _ (mI 2 rfl)) (hw _ (mI 60 rfl)) (by decide) (rm9 l Z a0 hw a xu xv xw (updN fP 3 pp) (updN fQ 3 qq) (updN fC 3 cc) (3 : Int32) (fT 1) (1 : Int32) h11 n0 (Nat.le_trans Z0 (K11 : Keep h0 h11 [a, xn, xo, xu, xv, xw, xt, xm]).1) F_base_a_43 F_slope_a_43 F_origin_a_43 V_xu_43 V_xv_43 V_xw_43 spp sqq scc (by decide) (hR 1) (own_in (1 : Int32) (by decide))) e16 E_a_43 (hb hby d7_135) (lenOf pd_1 rfl) rfl rfl (W := 0) (Nat.le_of_eq rfl) (by decide) (by decide) (by decide) (by decide) ?_
    intro v17 T17 L17 X17 Q17
    obtain ⟨rfl, N17q, hh17⟩ := Q17
    have N17 := Fr.app N14 N17q
    show Go _ _ _ _ _ _ _ T17 (mkF m 138 #[.val (.ref a), .val (.int (3 : Int32)), .val (.double (FP.i2d pp)), .second, .val (.double (FP.i2d qq)), .second, .val (.int cc), .val (.int (3 : Int32)), .val (.int (1 : Int32)), .val (.int (1 : Int32)), .val (.int (4 : Int32)), .val (.int (fT 1)), .val (.int (2 : Int32))] [(.int (lowW (updN fP 3 pp) (updN fQ 3 qq) (updN fC 3 cc) (3 : Int32) (fT 1) (1 : Int32)))])
    by_cases hc138_18 : (lowW (updN fP 3 pp) (updN fQ 3 qq) (updN fC 3 cc) (3 : Int32) (fT 1) (1 : Int32)) = (0 : Int32)
    · refine Go.step (fun _ k => XS.ifYes X17.here hx rfl (pc0 := 138) (pc' := 154) rfl (hb hby d7_138) rfl ((if0 _ _).trans (teq hc138_18).1) (by decide) (by decide) k) ?_
      show Go _ _ _ _ _ _ _ T17 (mkF m 154 #[.val (.ref a), .val (.int (3 : Int32)), .val (.double (FP.i2d pp)), .second, .val (.double (FP.i2d qq)), .second, .val (.int cc), .val (.int (3 : Int32)), .val (.int (1 : Int32)), .val (.int (1 : Int32)), .val (.int (4 : Int32)), .val (.int (fT 1)), .val (.int (2 : Int32))] [])
      refine Go.step (fun _ k => XS.aloadN X17.here hx rfl (hb hby d7_154) rfl rfl k) ?_
      refine Go.step (fun _ k => XS.iload X17.here hx rfl (hb hby d7_155) rfl k) ?_
      refine Go.step (fun _ k => XS.aloadN X17.here hx rfl (hb hby d7_157) rfl rfl k) ?_
      show Go _ _ _ _ _ _ _ T17 (mkF m 158 #[.val (.ref a), .val (.int (3 : Int32)), .val (.double (FP.i2d pp)), .second, .val (.double (FP.i2d qq)), .second, .val (.int cc), .val (.int (3 : Int32)), .val (.int (1 : Int32)), .val (.int (1 : Int32)), .val (.int (4 : Int32)), .val (.int (fT 1)), .val (.int (2 : Int32))] [(.ref a), (.int (3 : Int32)), (.ref a)])
      obtain ⟨T19, X19, e19, st19⟩ := getF X17 hx hZ hown (host := "") (Or.inl (hw _ (mI 36 rfl))) Via.refl hh17 F_node_a_43 (g := (mkF m 158 #[.val (.ref a), .val (.int (3 : Int32)), .val (.double (FP.i2d pp)), .second, .val (.double (FP.i2d qq)), .second, .val (.int cc), .val (.int (3 : Int32)), .val (.int (1 : Int32)), .val (.int (1 : Int32)), .val (.int (4 : Int32)), .val (.int (fT 1)), .val (.int (2 : Int32))] [(.ref a), (.int (3 : Int32)), (.ref a)])) rfl rfl (hb hby d7_158)
      refine Go.step st19 ?_
      show Go _ _ _ _ _ _ _ T19 (mkF m 161 #[.val (.ref a), .val (.int (3 : Int32)), .val (.double (FP.i2d pp)), .second, .val (.double (FP.i2d qq)), .second, .val (.int cc), .val (.int (3 : Int32)), .val (.int (1 : Int32)), .val (.int (1 : Int32)), .val (.int (4 : Int32)), .val (.int (fT 1)), .val (.int (2 : Int32))] [(.ref xt), (.int (3 : Int32)), (.ref a)])
      refine Go.step (fun _ k => XS.iload X19.here hx rfl (hb hby d7_161) rfl k) ?_
      refine Go.iaload X19 hx hZ e19 V_xt_43 (j := (1 : Int32)) (v := (fT 1)) (by decide) rfl (hb hby d7_163) ?_
      show Go _ _ _ _ _ _ _ T19 (mkF m 164 #[.val (.ref a), .val (.int (3 : Int32)), .val (.double (FP.i2d pp)), .second, .val (.double (FP.i2d qq)), .second, .val (.int cc), .val (.int (3 : Int32)), .val (.int (1 : Int32)), .val (.int (1 : Int32)), .val (.int (4 : Int32)), .val (.int (fT 1)), .val (.int (2 : Int32))] [(.int (fT 1)), (.int (3 : Int32)), (.ref a)])
      refine Go.step (fun _ k => XS.iload X19.here hx rfl (hb hby d7_164) rfl k) ?_
      refine Go.callP X19 hx hZ (by rw [hml]; rfl) (y := (⟨"com/example/headroom/headroom/LowerEnvelope", "lower", "(III)Z"⟩ : MethodName)) (a := a) (argsL := [(.int (3 : Int32)), (.int (fT 1)), (.int (4 : Int32))]) (rest := []) hown (hw _ (mI 57 rfl)) (hw _ (mI 58 rfl)) (hw _ (mI 1 rfl)) (hw _ (mI 59 rfl)) (hw _ (mI 2 rfl)) (hw _ (mI 60 rfl)) (by decide) (rm9 l Z a0 hw a xu xv xw (updN fP 3 pp) (updN fQ 3 qq) (updN fC 3 cc) (3 : Int32) (fT 1) (4 : Int32) h11 n0 (Nat.le_trans Z0 (K11 : Keep h0 h11 [a, xn, xo, xu, xv, xw, xt, xm]).1) F_base_a_43 F_slope_a_43 F_origin_a_43 V_xu_43 V_xv_43 V_xw_43 spp sqq scc (by decide) (hR 1) (own_in (4 : Int32) (by decide))) e19 E_a_43 (hb hby d7_166) (lenOf pd_1 rfl) rfl rfl (W := 0) (Nat.le_of_eq rfl) (by decide) (by decide) (by decide) (by decide) ?_
      intro v20 T20 L20 X20 Q20
      obtain ⟨rfl, N20q, hh20⟩ := Q20
      have N20 := Fr.app N17 N20q
      show Go _ _ _ _ _ _ _ T20 (mkF m 169 #[.val (.ref a), .val (.int (3 : Int32)), .val (.double (FP.i2d pp)), .second, .val (.double (FP.i2d qq)), .second, .val (.int cc), .val (.int (3 : Int32)), .val (.int (1 : Int32)), .val (.int (1 : Int32)), .val (.int (4 : Int32)), .val (.int (fT 1)), .val (.int (2 : Int32))] [(.int (lowW (updN fP 3 pp) (updN fQ 3 qq) (updN fC 3 cc) (3 : Int32) (fT 1) (4 : Int32)))])
      by_cases hc169_21 : (lowW (updN fP 3 pp) (updN fQ 3 qq) (updN fC 3 cc) (3 : Int32) (fT 1) (4 : Int32)) = (0 : Int32)
      · refine Go.step (fun _ k => XS.ifYes X20.here hx rfl (pc0 := 169) (pc' := 189) rfl (hb hby d7_169) rfl ((if0 _ _).trans (teq hc169_21).1) (by decide) (by decide) k) ?_
        show Go _ _ _ _ _ _ _ T20 (mkF m 189 #[.val (.ref a), .val (.int (3 : Int32)), .val (.double (FP.i2d pp)), .second, .val (.double (FP.i2d qq)), .second, .val (.int cc), .val (.int (3 : Int32)), .val (.int (1 : Int32)), .val (.int (1 : Int32)), .val (.int (4 : Int32)), .val (.int (fT 1)), .val (.int (2 : Int32))] [])
        refine Go.retV X20 hx hlk hret (hb hby d7_189) (by decide) (by decide) ?_
        try rw [hh20]
        exact ⟨rfl, N20, K11, _, _, _, 0, ⟨E_a_43, F_changedNode_a_43, F_changedLine_a_43, F_base_a_43, F_slope_a_43, F_origin_a_43, F_node_a_43, F_pushedAt_a_43, F_width_a_43, F_pushes_a_43, F_changes_a_43, V_xn_43, V_xo_43, V_xu_43, V_xv_43, V_xw_43, V_xt_43, V_xm_43⟩, (Good.refl fT fN fO sg), by omega⟩
      · refine Go.step (fun _ k => XS.ifNo X20.here hx rfl (hb hby d7_169) rfl ((if0 _ _).trans (feq hc169_21).1) k) ?_
        show Go _ _ _ _ _ _ _ T20 (mkF m 172 #[.val (.ref a), .val (.int (3 : Int32)), .val (.double (FP.i2d pp)), .second, .val (.double (FP.i2d qq)), .second, .val (.int cc), .val (.int (3 : Int32)), .val (.int (1 : Int32)), .val (.int (1 : Int32)), .val (.int (4 : Int32)), .val (.int (fT 1)), .val (.int (2 : Int32))] [])
        refine Go.step (fun _ k => XS.iconst X20.here hx rfl (hb hby d7_172) k) ?_
        refine Go.step (fun _ k => XS.iload X20.here hx rfl (hb hby d7_173) rfl k) ?_
        refine Go.step (fun _ k => XS.imul X20.here hx rfl (hb hby d7_175) rfl k) ?_
        show Go _ _ _ _ _ _ _ T20 (mkF m 176 #[.val (.ref a), .val (.int (3 : Int32)), .val (.double (FP.i2d pp)), .second, .val (.double (FP.i2d qq)), .second, .val (.int cc), .val (.int (3 : Int32)), .val (.int (1 : Int32)), .val (.int (1 : Int32)), .val (.int (4 : Int32)), .val (.int (fT 1)), .val (.int (2 : Int32))] [(.int (2 : Int32))])
        refine Go.step (fun _ k => XS.iconst X20.here hx rfl (hb hby d7_176) k) ?_
        refine Go.step (fun _ k => XS.iadd X20.here hx rfl (hb hby d7_177) rfl k) ?_
        show Go _ _ _ _ _ _ _ T20 (mkF m 178 #[.val (.ref a), .val (.int (3 : Int32)), .val (.double (FP.i2d pp)), .second, .val (.double (FP.i2d qq)), .second, .val (.int cc), .val (.int (3 : Int32)), .val (.int (1 : Int32)), .val (.int (1 : Int32)), .val (.int (4 : Int32)), .val (.int (fT 1)), .val (.int (2 : Int32))] [(.int (3 : Int32))])
        refine Go.step (fun _ k => XS.istore X20.here hx rfl (hb hby d7_178) rfl (l' := #[.val (.ref a), .val (.int (3 : Int32)), .val (.double (FP.i2d pp)), .second, .val (.double (FP.i2d qq)), .second, .val (.int cc), .val (.int (3 : Int32)), .val (.int (3 : Int32)), .val (.int (1 : Int32)), .val (.int (4 : Int32)), .val (.int (fT 1)), .val (.int (2 : Int32))]) rfl k) ?_
        show Go _ _ _ _ _ _ _ T20 (mkF m 180 #[.val (.ref a), .val (.int (3 : Int32)), .val (.double (FP.i2d pp)), .second, .val (.double (FP.i2d qq)), .second, .val (.int cc), .val (.int (3 : Int32)), .val (.int (3 : Int32)), .val (.int (1 : Int32)), .val (.int (4 : Int32)), .val (.int (fT 1)), .val (.int (2 : Int32))] [])
        refine Go.step (fun _ k => XS.iload X20.here hx rfl (hb hby d7_180) rfl k) ?_
        refine Go.step (fun _ k => XS.iconst X20.here hx rfl (hb hby d7_182) k) ?_
        refine Go.step (fun _ k => XS.iadd X20.here hx rfl (hb hby d7_183) rfl k) ?_
        show Go _ _ _ _ _ _ _ T20 (mkF m 184 #[.val (.ref a), .val (.int (3 : Int32)), .val (.double (FP.i2d pp)), .second, .val (.double (FP.i2d qq)), .second, .val (.int cc), .val (.int (3 : Int32)), .val (.int (3 : Int32)), .val (.int (1 : Int32)), .val (.int (4 : Int32)), .val (.int (fT 1)), .val (.int (2 : Int32))] [(.int (3 : Int32))])
        refine Go.step (fun _ k => XS.istore X20.here hx rfl (hb hby d7_184) rfl (l' := #[.val (.ref a), .val (.int (3 : Int32)), .val (.double (FP.i2d pp)), .second, .val (.double (FP.i2d qq)), .second, .val (.int cc), .val (.int (3 : Int32)), .val (.int (3 : Int32)), .val (.int (3 : Int32)), .val (.int (4 : Int32)), .val (.int (fT 1)), .val (.int (2 : Int32))]) rfl k) ?_
        show Go _ _ _ _ _ _ _ T20 (mkF m 186 #[.val (.ref a), .val (.int (3 : Int32)), .val (.double (FP.i2d pp)), .second, .val (.double (FP.i2d qq)), .second, .val (.int cc), .val (.int (3 : Int32)), .val (.int (3 : Int32)), .val (.int (3 : Int32)), .val (.int (4 : Int32)), .val (.int (fT 1)), .val (.int (2 : Int32))] [])
        refine Go.step (fun _ k => XS.goto X20.here hx rfl (pc0 := 186) (pc' := 190) rfl (hb hby d7_186) (by decide) (by decide) k) ?_
        show Go _ _ _ _ _ _ _ T20 (mkF m 190 #[.val (.ref a), .val (.int (3 : Int32)), .val (.double (FP.i2d pp)), .second, .val (.double (FP.i2d qq)), .second, .val (.int cc), .val (.int (3 : Int32)), .val (.int (3 : Int32)), .val (.int (3 : Int32)), .val (.int (4 : Int32)), .val (.int (fT 1)), .val (.int (2 : Int32))] [])
        refine Go.step (fun _ k => XS.goto X20.here hx rfl (pc0 := 190) (pc' := 58) rfl (hb hby d7_190) (by decide) (by decide) k) ?_
        show Go _ _ _ _ _ _ _ T20 (mkF m 58 #[.val (.ref a), .val (.int (3 : Int32)), .val (.double (FP.i2d pp)), .second, .val (.double (FP.i2d qq)), .second, .val (.int cc), .val (.int (3 : Int32)), .val (.int (3 : Int32)), .val (.int (3 : Int32)), .val (.int (4 : Int32)), .val (.int (fT 1)), .val (.int (2 : Int32))] [])
        exact wL1_3 h0 a xn xo xu xv xw xt xm (updN fP 3 pp) (updN fQ 3 qq) (updN fC 3 cc) fT (updN fM 2 (Int32.ofNat sg)) fN fO fT fN fO sg 0 (3 : Int32) (FP.i2d pp) (FP.i2d qq) cc (3 : Int32) (fT 1) (2 : Int32) X20 hx hZ hw hby hml hown hnm hret hlk hh20 (Nat.le_trans Z0 (K11 : Keep h0 h11 [a, xn, xo, xu, xv, xw, xt, xm]).1) N20 ⟨E_a_43, F_changedNode_a_43, F_changedLine_a_43, F_base_a_43, F_slope_a_43, F_origin_a_43, F_node_a_43, F_pushedAt_a_43, F_width_a_43, F_pushes_a_43, F_changes_a_43, V_xn_43, V_xo_43, V_xu_43, V_xv_43, V_xw_43, V_xt_43, V_xm_43⟩ hD (Good.refl fT fN fO sg) K11 hsg (by omega) hR ⟨hLf.1, hLf.2.1, hLf.2.2.1, hLf.2.2.2⟩ (by decide) spp sqq scc
    · refine Go.step (fun _ k => XS.ifNo X17.here hx rfl (hb hby d7_138) rfl ((if0 _ _).trans (feq hc138_18).1) k) ?_
      refine Go.step (fun _ k => XS.iconst X17.here hx rfl (hb hby d7_141) k) ?_
      refine Go.step (fun _ k => XS.iload X17.here hx rfl (hb hby d7_142) rfl k) ?_
      show Go _ _ _ _ _ _ _ T17 (mkF m 144 #[.val (.ref a), .val (.int (3 : Int32)), .val (.double (FP.i2d pp)), .second, .val (.double (FP.i2d qq)), .second, .val (.int cc), .val (.int (3 : Int32)), .val (.int (1 : Int32)), .val (.int (1 : Int32)), .val (.int (4 : Int32)), .val (.int (fT 1)), .val (.int (2 : Int32))] [(.int (1 : Int32)), (.int (2 : Int32))])
      refine Go.step (fun _ k => XS.imul X17.here hx rfl (hb hby d7_144) rfl k) ?_
      show Go _ _ _ _ _ _ _ T17 (mkF m 145 #[.val (.ref a), .val (.int (3 : Int32)), .val (.double (FP.i2d pp)), .second, .val (.double (FP.i2d qq)), .second, .val (.int cc), .val (.int (3 : Int32)), .val (.int (1 : Int32)), .val (.int (1 : Int32)), .val (.int (4 : Int32)), .val (.int (fT 1)), .val (.int (2 : Int32))] [(.int (2 : Int32))])
      refine Go.step (fun _ k => XS.istore X17.here hx rfl (hb hby d7_145) rfl (l' := #[.val (.ref a), .val (.int (3 : Int32)), .val (.double (FP.i2d pp)), .second, .val (.double (FP.i2d qq)), .second, .val (.int cc), .val (.int (3 : Int32)), .val (.int (2 : Int32)), .val (.int (1 : Int32)), .val (.int (4 : Int32)), .val (.int (fT 1)), .val (.int (2 : Int32))]) rfl k) ?_
      show Go _ _ _ _ _ _ _ T17 (mkF m 147 #[.val (.ref a), .val (.int (3 : Int32)), .val (.double (FP.i2d pp)), .second, .val (.double (FP.i2d qq)), .second, .val (.int cc), .val (.int (3 : Int32)), .val (.int (2 : Int32)), .val (.int (1 : Int32)), .val (.int (4 : Int32)), .val (.int (fT 1)), .val (.int (2 : Int32))] [])
      refine Go.step (fun _ k => XS.iload X17.here hx rfl (hb hby d7_147) rfl k) ?_
      refine Go.step (fun _ k => XS.istore X17.here hx rfl (hb hby d7_149) rfl (l' := #[.val (.ref a), .val (.int (3 : Int32)), .val (.double (FP.i2d pp)), .second, .val (.double (FP.i2d qq)), .second, .val (.int cc), .val (.int (3 : Int32)), .val (.int (2 : Int32)), .val (.int (1 : Int32)), .val (.int (2 : Int32)), .val (.int (fT 1)), .val (.int (2 : Int32))]) rfl k) ?_
      show Go _ _ _ _ _ _ _ T17 (mkF m 151 #[.val (.ref a), .val (.int (3 : Int32)), .val (.double (FP.i2d pp)), .second, .val (.double (FP.i2d qq)), .second, .val (.int cc), .val (.int (3 : Int32)), .val (.int (2 : Int32)), .val (.int (1 : Int32)), .val (.int (2 : Int32)), .val (.int (fT 1)), .val (.int (2 : Int32))] [])
      refine Go.step (fun _ k => XS.goto X17.here hx rfl (pc0 := 151) (pc' := 190) rfl (hb hby d7_151) (by decide) (by decide) k) ?_
      show Go _ _ _ _ _ _ _ T17 (mkF m 190 #[.val (.ref a), .val (.int (3 : Int32)), .val (.double (FP.i2d pp)), .second, .val (.double (FP.i2d qq)), .second, .val (.int cc), .val (.int (3 : Int32)), .val (.int (2 : Int32)), .val (.int (1 : Int32)), .val (.int (2 : Int32)), .val (.int (fT 1)), .val (.int (2 : Int32))] [])
      refine Go.step (fun _ k => XS.goto X17.here hx rfl (pc0 := 190) (pc' := 58) rfl (hb hby d7_190) (by decide) (by decide) k) ?_
      show Go _ _ _ _ _ _ _ T17 (mkF m 58 #[.val (.ref a), .val (.int (3 : Int32)), .val (.double (FP.i2d pp)), .second, .val (.double (FP.i2d qq)), .second, .val (.int cc), .val (.int (3 : Int32)), .val (.int (2 : Int32)), .val (.int (1 : Int32)), .val (.int (2 : Int32)), .val (.int (fT 1)), .val (.int (2 : Int32))] [])
      exact wL1_2 h0 a xn xo xu xv xw xt xm (updN fP 3 pp) (updN fQ 3 qq) (updN fC 3 cc) fT (updN fM 2 (Int32.ofNat sg)) fN fO fT fN fO sg 0 (3 : Int32) (FP.i2d pp) (FP.i2d qq) cc (3 : Int32) (fT 1) (2 : Int32) X17 hx hZ hw hby hml hown hnm hret hlk hh17 (Nat.le_trans Z0 (K11 : Keep h0 h11 [a, xn, xo, xu, xv, xw, xt, xm]).1) N17 ⟨E_a_43, F_changedNode_a_43, F_changedLine_a_43, F_base_a_43, F_slope_a_43, F_origin_a_43, F_node_a_43, F_pushedAt_a_43, F_width_a_43, F_pushes_a_43, F_changes_a_43, V_xn_43, V_xo_43, V_xu_43, V_xv_43, V_xw_43, V_xt_43, V_xm_43⟩ hD (Good.refl fT fN fO sg) K11 hsg (by omega) hR ⟨hLf.1, hLf.2.1, hLf.2.2.1, hLf.2.2.2⟩ (by decide) spp sqq scc
  · refine Go.step (fun _ k => XS.ifNo X14.here hx rfl (hb hby d7_100) rfl ((if0 _ _).trans (feq hc100_15).1) k) ?_
    refine Go.step (fun _ k => XS.aloadN X14.here hx rfl (hb hby d7_103) rfl rfl k) ?_
    refine Go.step (fun _ k => XS.iload X14.here hx rfl (hb hby d7_104) rfl k) ?_
    show Go _ _ _ _ _ _ _ T14 (mkF m 106 #[.val (.ref a), .val (.int (3 : Int32)), .val (.double (FP.i2d pp)), .second, .val (.double (FP.i2d qq)), .second, .val (.int cc), .val (.int (3 : Int32)), .val (.int (1 : Int32)), .val (.int (1 : Int32)), .val (.int (4 : Int32)), .val (.int (fT 1)), .val (.int (2 : Int32))] [(.int (1 : Int32)), (.ref a)])
    refine Go.step (fun _ k => XS.iload X14.here hx rfl (hb hby d7_106) rfl k) ?_
    refine Go.callP X14 hx hZ (by rw [hml]; rfl) (y := (⟨"com/example/headroom/headroom/LowerEnvelope", "write", "(II)V"⟩ : MethodName)) (a := a) (argsL := [(.int (1 : Int32)), (.int (3 : Int32))]) (rest := []) hown (hw _ (mI 53 rfl)) (hw _ (mI 54 rfl)) (hw _ (mI 1 rfl)) (hw _ (mI 55 rfl)) (hw _ (mI 2 rfl)) (hw _ (mI 56 rfl)) (by decide) (rm8 l Z a0 hw a xn xo xu xv xw xt xm (updN fP 3 pp) (updN fQ 3 qq) (updN fC 3 cc) fT (updN fM 2 (Int32.ofNat sg)) fN fO 3 (sg + 0) (1 : Int32) (3 : Int32) h11 n0 (Nat.le_trans Z0 (K11 : Keep h0 h11 [a, xn, xo, xu, xv, xw, xt, xm]).1) ⟨E_a_43, F_changedNode_a_43, F_changedLine_a_43, F_base_a_43, F_slope_a_43, F_origin_a_43, F_node_a_43, F_pushedAt_a_43, F_width_a_43, F_pushes_a_43, F_changes_a_43, V_xn_43, V_xo_43, V_xu_43, V_xv_43, V_xw_43, V_xt_43, V_xm_43⟩ hD (by decide) (by omega)) hh14 E_a_43 (hb hby d7_108) (lenOf pd_0 rfl) rfl rfl (W := 0) (Nat.le_of_eq rfl) (by decide) (by decide) (by decide) (by decide) ?_
    intro v22 T22 L22 X22 Q22
    obtain ⟨rfl, N22q, Kc22, hL22⟩ := Q22
    have N22 := Fr.app N14 N22q
    have E_a_22 := E_a_43.keep Kc22
    have KK22 : Keep h0 T22.heap [a, xn, xo, xu, xv, xw, xt, xm] := (K11 : Keep h0 h11 [a, xn, xo, xu, xv, xw, xt, xm]).trans Kc22 (allS (Or.inl (List.mem_of_getElem? (i := 0) rfl)) (allS (Or.inl (List.mem_of_getElem? (i := 1) rfl)) (allS (Or.inl (List.mem_of_getElem? (i := 2) rfl)) (allS (Or.inl (List.mem_of_getElem? (i := 3) rfl)) (allS (Or.inl (List.mem_of_getElem? (i := 4) rfl)) (allS (Or.inl (List.mem_of_getElem? (i := 5) rfl)) (allS (Or.inl (List.mem_of_getElem? (i := 6) rfl)) (allS (Or.inl (List.mem_of_getElem? (i := 7) rfl)) all0))))))))
    have hL22x : LEs Z T22.heap a xn xo xu xv xw xt xm (updN fP 3 pp) (updN fQ 3 qq) (updN fC 3 cc) (updN fT 1 (3 : Int32)) (updN fM 2 (Int32.ofNat sg)) (updN fN (sg + 0) (1 : Int32)) (updN fO (sg + 0) (fT 1)) 3 (sg + (0 + 1)) := hL22
    have hG22 := Good.write (Good.refl fT fN fO sg) (k := (1 : Int32)) (by decide) (3 : Int32)
    obtain ⟨E_a_22, F_changedNode_a_22, F_changedLine_a_22, F_base_a_22, F_slope_a_22, F_origin_a_22, F_node_a_22, F_pushedAt_a_22, F_width_a_22, F_pushes_a_22, F_changes_a_22, V_xn_22, V_xo_22, V_xu_22, V_xv_22, V_xw_22, V_xt_22, V_xm_22⟩ := hL22x
    show Go _ _ _ _ _ _ _ T22 (mkF m 111 #[.val (.ref a), .val (.int (3 : Int32)), .val (.double (FP.i2d pp)), .second, .val (.double (FP.i2d qq)), .second, .val (.int cc), .val (.int (3 : Int32)), .val (.int (1 : Int32)), .val (.int (1 : Int32)), .val (.int (4 : Int32)), .val (.int (fT 1)), .val (.int (2 : Int32))] [])
    refine Go.step (fun _ k => XS.iload X22.here hx rfl (hb hby d7_111) rfl k) ?_
    refine Go.step (fun _ k => XS.istore X22.here hx rfl (hb hby d7_113) rfl (l' := #[.val (.ref a), .val (.int (3 : Int32)), .val (.double (FP.i2d pp)), .second, .val (.double (FP.i2d qq)), .second, .val (.int cc), .val (.int (fT 1)), .val (.int (1 : Int32)), .val (.int (1 : Int32)), .val (.int (4 : Int32)), .val (.int (fT 1)), .val (.int (2 : Int32))]) rfl k) ?_
    show Go _ _ _ _ _ _ _ T22 (mkF m 115 #[.val (.ref a), .val (.int (3 : Int32)), .val (.double (FP.i2d pp)), .second, .val (.double (FP.i2d qq)), .second, .val (.int cc), .val (.int (fT 1)), .val (.int (1 : Int32)), .val (.int (1 : Int32)), .val (.int (4 : Int32)), .val (.int (fT 1)), .val (.int (2 : Int32))] [])
    refine Go.step (fun _ k => XS.iload X22.here hx rfl (hb hby d7_115) rfl k) ?_
    refine Go.step (fun _ k => XS.iload X22.here hx rfl (hb hby d7_117) rfl k) ?_
    refine Go.step (fun _ k => XS.icmpYes X22.here hx rfl (pc0 := 119) (pc' := 123) rfl (hb hby d7_119) rfl (feq (by decide : ¬ ((1 : Int32) = (4 : Int32)))).2 (by decide) (by decide) k) ?_
    show Go _ _ _ _ _ _ _ T22 (mkF m 123 #[.val (.ref a), .val (.int (3 : Int32)), .val (.double (FP.i2d pp)), .second, .val (.double (FP.i2d qq)), .second, .val (.int cc), .val (.int (fT 1)), .val (.int (1 : Int32)), .val (.int (1 : Int32)), .val (.int (4 : Int32)), .val (.int (fT 1)), .val (.int (2 : Int32))] [])
    refine Go.step (fun _ k => XS.aloadN X22.here hx rfl (hb hby d7_123) rfl rfl k) ?_
    refine Go.step (fun _ k => XS.iload X22.here hx rfl (hb hby d7_124) rfl k) ?_
    refine Go.step (fun _ k => XS.aloadN X22.here hx rfl (hb hby d7_126) rfl rfl k) ?_
    show Go _ _ _ _ _ _ _ T22 (mkF m 127 #[.val (.ref a), .val (.int (3 : Int32)), .val (.double (FP.i2d pp)), .second, .val (.double (FP.i2d qq)), .second, .val (.int cc), .val (.int (fT 1)), .val (.int (1 : Int32)), .val (.int (1 : Int32)), .val (.int (4 : Int32)), .val (.int (fT 1)), .val (.int (2 : Int32))] [(.ref a), (.int (fT 1)), (.ref a)])
    obtain ⟨T23, X23, e23, st23⟩ := getF X22 hx hZ hown (host := "") (Or.inl (hw _ (mI 36 rfl))) Via.refl rfl F_node_a_22 (g := (mkF m 127 #[.val (.ref a), .val (.int (3 : Int32)), .val (.double (FP.i2d pp)), .second, .val (.double (FP.i2d qq)), .second, .val (.int cc), .val (.int (fT 1)), .val (.int (1 : Int32)), .val (.int (1 : Int32)), .val (.int (4 : Int32)), .val (.int (fT 1)), .val (.int (2 : Int32))] [(.ref a), (.int (fT 1)), (.ref a)])) rfl rfl (hb hby d7_127)
    refine Go.step st23 ?_
    show Go _ _ _ _ _ _ _ T23 (mkF m 130 #[.val (.ref a), .val (.int (3 : Int32)), .val (.double (FP.i2d pp)), .second, .val (.double (FP.i2d qq)), .second, .val (.int cc), .val (.int (fT 1)), .val (.int (1 : Int32)), .val (.int (1 : Int32)), .val (.int (4 : Int32)), .val (.int (fT 1)), .val (.int (2 : Int32))] [(.ref xt), (.int (fT 1)), (.ref a)])
    refine Go.step (fun _ k => XS.iload X23.here hx rfl (hb hby d7_130) rfl k) ?_
    refine Go.iaload X23 hx hZ e23 V_xt_22 (j := (1 : Int32)) (v := (3 : Int32)) (by decide) rfl (hb hby d7_132) ?_
    show Go _ _ _ _ _ _ _ T23 (mkF m 133 #[.val (.ref a), .val (.int (3 : Int32)), .val (.double (FP.i2d pp)), .second, .val (.double (FP.i2d qq)), .second, .val (.int cc), .val (.int (fT 1)), .val (.int (1 : Int32)), .val (.int (1 : Int32)), .val (.int (4 : Int32)), .val (.int (fT 1)), .val (.int (2 : Int32))] [(.int (3 : Int32)), (.int (fT 1)), (.ref a)])
    refine Go.step (fun _ k => XS.iload X23.here hx rfl (hb hby d7_133) rfl k) ?_
    refine Go.callP X23 hx hZ (by rw [hml]; rfl) (y := (⟨"com/example/headroom/headroom/LowerEnvelope", "lower", "(III)Z"⟩ : MethodName)) (a := a) (argsL := [(.int (fT 1)), (.int (3 : Int32)), (.int (1 : Int32))]) (rest := []) hown (hw _ (mI 57 rfl)) (hw _ (mI 58 rfl)) (hw _ (mI 1 rfl)) (hw _ (mI 59 rfl)) (hw _ (mI 2 rfl)) (hw _ (mI 60 rfl)) (by decide) (rm9 l Z a0 hw a xu xv xw (updN fP 3 pp) (updN fQ 3 qq) (updN fC 3 cc) (fT 1) (3 : Int32) (1 : Int32) T22.heap n0 (Nat.le_trans Z0 (KK22 : Keep h0 T22.heap [a, xn, xo, xu, xv, xw, xt, xm]).1) F_base_a_22 F_slope_a_22 F_origin_a_22 V_xu_22 V_xv_22 V_xw_22 spp sqq scc (hR 1) (by decide) (own_in (1 : Int32) (by decide))) e23 E_a_22 (hb hby d7_135) (lenOf pd_1 rfl) rfl rfl (W := 0) (Nat.le_of_eq rfl) (by decide) (by decide) (by decide) (by decide) ?_
    intro v24 T24 L24 X24 Q24
    obtain ⟨rfl, N24q, hh24⟩ := Q24
    have N24 := Fr.app N22 N24q
    show Go _ _ _ _ _ _ _ T24 (mkF m 138 #[.val (.ref a), .val (.int (3 : Int32)), .val (.double (FP.i2d pp)), .second, .val (.double (FP.i2d qq)), .second, .val (.int cc), .val (.int (fT 1)), .val (.int (1 : Int32)), .val (.int (1 : Int32)), .val (.int (4 : Int32)), .val (.int (fT 1)), .val (.int (2 : Int32))] [(.int (lowW (updN fP 3 pp) (updN fQ 3 qq) (updN fC 3 cc) (fT 1) (3 : Int32) (1 : Int32)))])
    by_cases hc138_25 : (lowW (updN fP 3 pp) (updN fQ 3 qq) (updN fC 3 cc) (fT 1) (3 : Int32) (1 : Int32)) = (0 : Int32)
    · refine Go.step (fun _ k => XS.ifYes X24.here hx rfl (pc0 := 138) (pc' := 154) rfl (hb hby d7_138) rfl ((if0 _ _).trans (teq hc138_25).1) (by decide) (by decide) k) ?_
      show Go _ _ _ _ _ _ _ T24 (mkF m 154 #[.val (.ref a), .val (.int (3 : Int32)), .val (.double (FP.i2d pp)), .second, .val (.double (FP.i2d qq)), .second, .val (.int cc), .val (.int (fT 1)), .val (.int (1 : Int32)), .val (.int (1 : Int32)), .val (.int (4 : Int32)), .val (.int (fT 1)), .val (.int (2 : Int32))] [])
      refine Go.step (fun _ k => XS.aloadN X24.here hx rfl (hb hby d7_154) rfl rfl k) ?_
      refine Go.step (fun _ k => XS.iload X24.here hx rfl (hb hby d7_155) rfl k) ?_
      refine Go.step (fun _ k => XS.aloadN X24.here hx rfl (hb hby d7_157) rfl rfl k) ?_
      show Go _ _ _ _ _ _ _ T24 (mkF m 158 #[.val (.ref a), .val (.int (3 : Int32)), .val (.double (FP.i2d pp)), .second, .val (.double (FP.i2d qq)), .second, .val (.int cc), .val (.int (fT 1)), .val (.int (1 : Int32)), .val (.int (1 : Int32)), .val (.int (4 : Int32)), .val (.int (fT 1)), .val (.int (2 : Int32))] [(.ref a), (.int (fT 1)), (.ref a)])
      obtain ⟨T26, X26, e26, st26⟩ := getF X24 hx hZ hown (host := "") (Or.inl (hw _ (mI 36 rfl))) Via.refl hh24 F_node_a_22 (g := (mkF m 158 #[.val (.ref a), .val (.int (3 : Int32)), .val (.double (FP.i2d pp)), .second, .val (.double (FP.i2d qq)), .second, .val (.int cc), .val (.int (fT 1)), .val (.int (1 : Int32)), .val (.int (1 : Int32)), .val (.int (4 : Int32)), .val (.int (fT 1)), .val (.int (2 : Int32))] [(.ref a), (.int (fT 1)), (.ref a)])) rfl rfl (hb hby d7_158)
      refine Go.step st26 ?_
      show Go _ _ _ _ _ _ _ T26 (mkF m 161 #[.val (.ref a), .val (.int (3 : Int32)), .val (.double (FP.i2d pp)), .second, .val (.double (FP.i2d qq)), .second, .val (.int cc), .val (.int (fT 1)), .val (.int (1 : Int32)), .val (.int (1 : Int32)), .val (.int (4 : Int32)), .val (.int (fT 1)), .val (.int (2 : Int32))] [(.ref xt), (.int (fT 1)), (.ref a)])
      refine Go.step (fun _ k => XS.iload X26.here hx rfl (hb hby d7_161) rfl k) ?_
      refine Go.iaload X26 hx hZ e26 V_xt_22 (j := (1 : Int32)) (v := (3 : Int32)) (by decide) rfl (hb hby d7_163) ?_
      show Go _ _ _ _ _ _ _ T26 (mkF m 164 #[.val (.ref a), .val (.int (3 : Int32)), .val (.double (FP.i2d pp)), .second, .val (.double (FP.i2d qq)), .second, .val (.int cc), .val (.int (fT 1)), .val (.int (1 : Int32)), .val (.int (1 : Int32)), .val (.int (4 : Int32)), .val (.int (fT 1)), .val (.int (2 : Int32))] [(.int (3 : Int32)), (.int (fT 1)), (.ref a)])
      refine Go.step (fun _ k => XS.iload X26.here hx rfl (hb hby d7_164) rfl k) ?_
      refine Go.callP X26 hx hZ (by rw [hml]; rfl) (y := (⟨"com/example/headroom/headroom/LowerEnvelope", "lower", "(III)Z"⟩ : MethodName)) (a := a) (argsL := [(.int (fT 1)), (.int (3 : Int32)), (.int (4 : Int32))]) (rest := []) hown (hw _ (mI 57 rfl)) (hw _ (mI 58 rfl)) (hw _ (mI 1 rfl)) (hw _ (mI 59 rfl)) (hw _ (mI 2 rfl)) (hw _ (mI 60 rfl)) (by decide) (rm9 l Z a0 hw a xu xv xw (updN fP 3 pp) (updN fQ 3 qq) (updN fC 3 cc) (fT 1) (3 : Int32) (4 : Int32) T22.heap n0 (Nat.le_trans Z0 (KK22 : Keep h0 T22.heap [a, xn, xo, xu, xv, xw, xt, xm]).1) F_base_a_22 F_slope_a_22 F_origin_a_22 V_xu_22 V_xv_22 V_xw_22 spp sqq scc (hR 1) (by decide) (own_in (4 : Int32) (by decide))) e26 E_a_22 (hb hby d7_166) (lenOf pd_1 rfl) rfl rfl (W := 0) (Nat.le_of_eq rfl) (by decide) (by decide) (by decide) (by decide) ?_
      intro v27 T27 L27 X27 Q27
      obtain ⟨rfl, N27q, hh27⟩ := Q27
      have N27 := Fr.app N24 N27q
      show Go _ _ _ _ _ _ _ T27 (mkF m 169 #[.val (.ref a), .val (.int (3 : Int32)), .val (.double (FP.i2d pp)), .second, .val (.double (FP.i2d qq)), .second, .val (.int cc), .val (.int (fT 1)), .val (.int (1 : Int32)), .val (.int (1 : Int32)), .val (.int (4 : Int32)), .val (.int (fT 1)), .val (.int (2 : Int32))] [(.int (lowW (updN fP 3 pp) (updN fQ 3 qq) (updN fC 3 cc) (fT 1) (3 : Int32) (4 : Int32)))])
      by_cases hc169_28 : (lowW (updN fP 3 pp) (updN fQ 3 qq) (updN fC 3 cc) (fT 1) (3 : Int32) (4 : Int32)) = (0 : Int32)
      · refine Go.step (fun _ k => XS.ifYes X27.here hx rfl (pc0 := 169) (pc' := 189) rfl (hb hby d7_169) rfl ((if0 _ _).trans (teq hc169_28).1) (by decide) (by decide) k) ?_
        show Go _ _ _ _ _ _ _ T27 (mkF m 189 #[.val (.ref a), .val (.int (3 : Int32)), .val (.double (FP.i2d pp)), .second, .val (.double (FP.i2d qq)), .second, .val (.int cc), .val (.int (fT 1)), .val (.int (1 : Int32)), .val (.int (1 : Int32)), .val (.int (4 : Int32)), .val (.int (fT 1)), .val (.int (2 : Int32))] [])
        refine Go.retV X27 hx hlk hret (hb hby d7_189) (by decide) (by decide) ?_
        try rw [hh27]
        exact ⟨rfl, N27, KK22, _, _, _, (0 + 1), ⟨E_a_22, F_changedNode_a_22, F_changedLine_a_22, F_base_a_22, F_slope_a_22, F_origin_a_22, F_node_a_22, F_pushedAt_a_22, F_width_a_22, F_pushes_a_22, F_changes_a_22, V_xn_22, V_xo_22, V_xu_22, V_xv_22, V_xw_22, V_xt_22, V_xm_22⟩, hG22, by omega⟩
      · refine Go.step (fun _ k => XS.ifNo X27.here hx rfl (hb hby d7_169) rfl ((if0 _ _).trans (feq hc169_28).1) k) ?_
        show Go _ _ _ _ _ _ _ T27 (mkF m 172 #[.val (.ref a), .val (.int (3 : Int32)), .val (.double (FP.i2d pp)), .second, .val (.double (FP.i2d qq)), .second, .val (.int cc), .val (.int (fT 1)), .val (.int (1 : Int32)), .val (.int (1 : Int32)), .val (.int (4 : Int32)), .val (.int (fT 1)), .val (.int (2 : Int32))] [])
        refine Go.step (fun _ k => XS.iconst X27.here hx rfl (hb hby d7_172) k) ?_
        refine Go.step (fun _ k => XS.iload X27.here hx rfl (hb hby d7_173) rfl k) ?_
        refine Go.step (fun _ k => XS.imul X27.here hx rfl (hb hby d7_175) rfl k) ?_
        show Go _ _ _ _ _ _ _ T27 (mkF m 176 #[.val (.ref a), .val (.int (3 : Int32)), .val (.double (FP.i2d pp)), .second, .val (.double (FP.i2d qq)), .second, .val (.int cc), .val (.int (fT 1)), .val (.int (1 : Int32)), .val (.int (1 : Int32)), .val (.int (4 : Int32)), .val (.int (fT 1)), .val (.int (2 : Int32))] [(.int (2 : Int32))])
        refine Go.step (fun _ k => XS.iconst X27.here hx rfl (hb hby d7_176) k) ?_
        refine Go.step (fun _ k => XS.iadd X27.here hx rfl (hb hby d7_177) rfl k) ?_
        show Go _ _ _ _ _ _ _ T27 (mkF m 178 #[.val (.ref a), .val (.int (3 : Int32)), .val (.double (FP.i2d pp)), .second, .val (.double (FP.i2d qq)), .second, .val (.int cc), .val (.int (fT 1)), .val (.int (1 : Int32)), .val (.int (1 : Int32)), .val (.int (4 : Int32)), .val (.int (fT 1)), .val (.int (2 : Int32))] [(.int (3 : Int32))])
        refine Go.step (fun _ k => XS.istore X27.here hx rfl (hb hby d7_178) rfl (l' := #[.val (.ref a), .val (.int (3 : Int32)), .val (.double (FP.i2d pp)), .second, .val (.double (FP.i2d qq)), .second, .val (.int cc), .val (.int (fT 1)), .val (.int (3 : Int32)), .val (.int (1 : Int32)), .val (.int (4 : Int32)), .val (.int (fT 1)), .val (.int (2 : Int32))]) rfl k) ?_
        show Go _ _ _ _ _ _ _ T27 (mkF m 180 #[.val (.ref a), .val (.int (3 : Int32)), .val (.double (FP.i2d pp)), .second, .val (.double (FP.i2d qq)), .second, .val (.int cc), .val (.int (fT 1)), .val (.int (3 : Int32)), .val (.int (1 : Int32)), .val (.int (4 : Int32)), .val (.int (fT 1)), .val (.int (2 : Int32))] [])
        refine Go.step (fun _ k => XS.iload X27.here hx rfl (hb hby d7_180) rfl k) ?_
        refine Go.step (fun _ k => XS.iconst X27.here hx rfl (hb hby d7_182) k) ?_
        refine Go.step (fun _ k => XS.iadd X27.here hx rfl (hb hby d7_183) rfl k) ?_
        show Go _ _ _ _ _ _ _ T27 (mkF m 184 #[.val (.ref a), .val (.int (3 : Int32)), .val (.double (FP.i2d pp)), .second, .val (.double (FP.i2d qq)), .second, .val (.int cc), .val (.int (fT 1)), .val (.int (3 : Int32)), .val (.int (1 : Int32)), .val (.int (4 : Int32)), .val (.int (fT 1)), .val (.int (2 : Int32))] [(.int (3 : Int32))])
        refine Go.step (fun _ k => XS.istore X27.here hx rfl (hb hby d7_184) rfl (l' := #[.val (.ref a), .val (.int (3 : Int32)), .val (.double (FP.i2d pp)), .second, .val (.double (FP.i2d qq)), .second, .val (.int cc), .val (.int (fT 1)), .val (.int (3 : Int32)), .val (.int (3 : Int32)), .val (.int (4 : Int32)), .val (.int (fT 1)), .val (.int (2 : Int32))]) rfl k) ?_
        show Go _ _ _ _ _ _ _ T27 (mkF m 186 #[.val (.ref a), .val (.int (3 : Int32)), .val (.double (FP.i2d pp)), .second, .val (.double (FP.i2d qq)), .second, .val (.int cc), .val (.int (fT 1)), .val (.int (3 : Int32)), .val (.int (3 : Int32)), .val (.int (4 : Int32)), .val (.int (fT 1)), .val (.int (2 : Int32))] [])
        refine Go.step (fun _ k => XS.goto X27.here hx rfl (pc0 := 186) (pc' := 190) rfl (hb hby d7_186) (by decide) (by decide) k) ?_
        show Go _ _ _ _ _ _ _ T27 (mkF m 190 #[.val (.ref a), .val (.int (3 : Int32)), .val (.double (FP.i2d pp)), .second, .val (.double (FP.i2d qq)), .second, .val (.int cc), .val (.int (fT 1)), .val (.int (3 : Int32)), .val (.int (3 : Int32)), .val (.int (4 : Int32)), .val (.int (fT 1)), .val (.int (2 : Int32))] [])
        refine Go.step (fun _ k => XS.goto X27.here hx rfl (pc0 := 190) (pc' := 58) rfl (hb hby d7_190) (by decide) (by decide) k) ?_
        show Go _ _ _ _ _ _ _ T27 (mkF m 58 #[.val (.ref a), .val (.int (3 : Int32)), .val (.double (FP.i2d pp)), .second, .val (.double (FP.i2d qq)), .second, .val (.int cc), .val (.int (fT 1)), .val (.int (3 : Int32)), .val (.int (3 : Int32)), .val (.int (4 : Int32)), .val (.int (fT 1)), .val (.int (2 : Int32))] [])
        exact wL1_3 h0 a xn xo xu xv xw xt xm (updN fP 3 pp) (updN fQ 3 qq) (updN fC 3 cc) (updN fT 1 (3 : Int32)) (updN fM 2 (Int32.ofNat sg)) (updN fN (sg + 0) (1 : Int32)) (updN fO (sg + 0) (fT 1)) fT fN fO sg (0 + 1) (3 : Int32) (FP.i2d pp) (FP.i2d qq) cc (fT 1) (fT 1) (2 : Int32) X27 hx hZ hw hby hml hown hnm hret hlk hh27 (Nat.le_trans Z0 (KK22 : Keep h0 T22.heap [a, xn, xo, xu, xv, xw, xt, xm]).1) N27 ⟨E_a_22, F_changedNode_a_22, F_changedLine_a_22, F_base_a_22, F_slope_a_22, F_origin_a_22, F_node_a_22, F_pushedAt_a_22, F_width_a_22, F_pushes_a_22, F_changes_a_22, V_xn_22, V_xo_22, V_xu_22, V_xv_22, V_xw_22, V_xt_22, V_xm_22⟩ hD hG22 KK22 hsg (by omega) (Rng.upd hR (by decide) 1) ⟨hLf.1, hLf.2.1, hLf.2.2.1, hLf.2.2.2⟩ (hR 1) spp sqq scc
    · refine Go.step (fun _ k => XS.ifNo X24.here hx rfl (hb hby d7_138) rfl ((if0 _ _).trans (feq hc138_25).1) k) ?_
      refine Go.step (fun _ k => XS.iconst X24.here hx rfl (hb hby d7_141) k) ?_
      refine Go.step (fun _ k => XS.iload X24.here hx rfl (hb hby d7_142) rfl k) ?_
      show Go _ _ _ _ _ _ _ T24 (mkF m 144 #[.val (.ref a), .val (.int (3 : Int32)), .val (.double (FP.i2d pp)), .second, .val (.double (FP.i2d qq)), .second, .val (.int cc), .val (.int (fT 1)), .val (.int (1 : Int32)), .val (.int (1 : Int32)), .val (.int (4 : Int32)), .val (.int (fT 1)), .val (.int (2 : Int32))] [(.int (1 : Int32)), (.int (2 : Int32))])
      refine Go.step (fun _ k => XS.imul X24.here hx rfl (hb hby d7_144) rfl k) ?_
      show Go _ _ _ _ _ _ _ T24 (mkF m 145 #[.val (.ref a), .val (.int (3 : Int32)), .val (.double (FP.i2d pp)), .second, .val (.double (FP.i2d qq)), .second, .val (.int cc), .val (.int (fT 1)), .val (.int (1 : Int32)), .val (.int (1 : Int32)), .val (.int (4 : Int32)), .val (.int (fT 1)), .val (.int (2 : Int32))] [(.int (2 : Int32))])
      refine Go.step (fun _ k => XS.istore X24.here hx rfl (hb hby d7_145) rfl (l' := #[.val (.ref a), .val (.int (3 : Int32)), .val (.double (FP.i2d pp)), .second, .val (.double (FP.i2d qq)), .second, .val (.int cc), .val (.int (fT 1)), .val (.int (2 : Int32)), .val (.int (1 : Int32)), .val (.int (4 : Int32)), .val (.int (fT 1)), .val (.int (2 : Int32))]) rfl k) ?_
      show Go _ _ _ _ _ _ _ T24 (mkF m 147 #[.val (.ref a), .val (.int (3 : Int32)), .val (.double (FP.i2d pp)), .second, .val (.double (FP.i2d qq)), .second, .val (.int cc), .val (.int (fT 1)), .val (.int (2 : Int32)), .val (.int (1 : Int32)), .val (.int (4 : Int32)), .val (.int (fT 1)), .val (.int (2 : Int32))] [])
      refine Go.step (fun _ k => XS.iload X24.here hx rfl (hb hby d7_147) rfl k) ?_
      refine Go.step (fun _ k => XS.istore X24.here hx rfl (hb hby d7_149) rfl (l' := #[.val (.ref a), .val (.int (3 : Int32)), .val (.double (FP.i2d pp)), .second, .val (.double (FP.i2d qq)), .second, .val (.int cc), .val (.int (fT 1)), .val (.int (2 : Int32)), .val (.int (1 : Int32)), .val (.int (2 : Int32)), .val (.int (fT 1)), .val (.int (2 : Int32))]) rfl k) ?_
      show Go _ _ _ _ _ _ _ T24 (mkF m 151 #[.val (.ref a), .val (.int (3 : Int32)), .val (.double (FP.i2d pp)), .second, .val (.double (FP.i2d qq)), .second, .val (.int cc), .val (.int (fT 1)), .val (.int (2 : Int32)), .val (.int (1 : Int32)), .val (.int (2 : Int32)), .val (.int (fT 1)), .val (.int (2 : Int32))] [])
      refine Go.step (fun _ k => XS.goto X24.here hx rfl (pc0 := 151) (pc' := 190) rfl (hb hby d7_151) (by decide) (by decide) k) ?_
      show Go _ _ _ _ _ _ _ T24 (mkF m 190 #[.val (.ref a), .val (.int (3 : Int32)), .val (.double (FP.i2d pp)), .second, .val (.double (FP.i2d qq)), .second, .val (.int cc), .val (.int (fT 1)), .val (.int (2 : Int32)), .val (.int (1 : Int32)), .val (.int (2 : Int32)), .val (.int (fT 1)), .val (.int (2 : Int32))] [])
      refine Go.step (fun _ k => XS.goto X24.here hx rfl (pc0 := 190) (pc' := 58) rfl (hb hby d7_190) (by decide) (by decide) k) ?_
      show Go _ _ _ _ _ _ _ T24 (mkF m 58 #[.val (.ref a), .val (.int (3 : Int32)), .val (.double (FP.i2d pp)), .second, .val (.double (FP.i2d qq)), .second, .val (.int cc), .val (.int (fT 1)), .val (.int (2 : Int32)), .val (.int (1 : Int32)), .val (.int (2 : Int32)), .val (.int (fT 1)), .val (.int (2 : Int32))] [])
      exact wL1_2 h0 a xn xo xu xv xw xt xm (updN fP 3 pp) (updN fQ 3 qq) (updN fC 3 cc) (updN fT 1 (3 : Int32)) (updN fM 2 (Int32.ofNat sg)) (updN fN (sg + 0) (1 : Int32)) (updN fO (sg + 0) (fT 1)) fT fN fO sg (0 + 1) (3 : Int32) (FP.i2d pp) (FP.i2d qq) cc (fT 1) (fT 1) (2 : Int32) X24 hx hZ hw hby hml hown hnm hret hlk hh24 (Nat.le_trans Z0 (KK22 : Keep h0 T22.heap [a, xn, xo, xu, xv, xw, xt, xm]).1) N24 ⟨E_a_22, F_changedNode_a_22, F_changedLine_a_22, F_base_a_22, F_slope_a_22, F_origin_a_22, F_node_a_22, F_pushedAt_a_22, F_width_a_22, F_pushes_a_22, F_changes_a_22, V_xn_22, V_xo_22, V_xu_22, V_xv_22, V_xw_22, V_xt_22, V_xm_22⟩ hD hG22 KK22 hsg (by omega) (Rng.upd hR (by decide) 1) ⟨hLf.1, hLf.2.1, hLf.2.2.1, hLf.2.2.2⟩ (hR 1) spp sqq scc
theorem ef_rm7A (m : MethodId) (a : Addr) (cc : Int32) (dp : UInt64) (dq : UInt64) : entryFrame m #[(.ref a), (.int (3 : Int32)), (.double dp), (.double dq), (.int cc)] 13 = mkF m 0 #[.val (.ref a), .val (.int (3 : Int32)), .val (.double dp), .second, .val (.double dq), .second, .val (.int cc), .unset, .unset, .unset, .unset, .unset, .unset] [] := by first | (simp [entryFrame, mkF, argsToLocals, Value.category]; done) | rfl
theorem rm7A (l : Launch) (Z : State) (a0 : Array Value) (hw : ∀ d ∈ tables_1, d.before a0 Z = true) (a xn xo xu xv xw xt xm : Addr) (fP fQ fC fT fM fN fO : Nat → Int32) (sg : Nat) (pp qq cc : Int32) (h0 : Heap) (n0 : Nat) (Z0 : n0 ≤ h0.size) (hL : LEs Z h0 a xn xo xu xv xw xt xm fP fQ fC fT fM fN fO 2 sg) (hD : Dst n0 a xn xo xu xv xw xt xm) (hP : Sm fP) (hQ : Sm fQ) (hC : Sm fC) (hpp : -128 ≤ pp.toInt ∧ pp.toInt ≤ 127) (hqq : -128 ≤ qq.toInt ∧ qq.toInt ≤ 127) (hcc : -128 ≤ cc.toInt ∧ cc.toInt ≤ 127) (hsg : sg ≤ 10) (hR : Rng fT) (hLf : Lf fT) (hr : ¬ fT 1 = (0 : Int32)) :
    Con l Z (⟨"com/example/headroom/headroom/LowerEnvelope", "push", "(IDDI)V"⟩ : MethodName) prog_15_method_2_code 13 none ({ frames := 1, cells := 0, slots := 0, locals := 24 } : Room) #[(.ref a), (.int (3 : Int32)), (.double (FP.i2d pp)), (.double (FP.i2d qq)), (.int cc)] h0 (fun r h L => r = none ∧ Fr n0 L ∧ Keep h0 h [a, xn, xo, xu, xv, xw, xt, xm] ∧ ∃ (T' N' O' : Nat → Int32) (n' : Nat), LEs Z h a xn xo xu xv xw xt xm (updN fP 3 pp) (updN fQ 3 qq) (updN fC 3 cc) T' (updN fM 2 (Int32.ofNat sg)) N' O' 3 (sg + n') ∧ Good fT fN fO sg T' N' O' n' ∧ n' ≤ 3) :=
  con_of (plainFor_of_name pn_9) (fun p_ e_ s_ m_ b_ meth_ c_ T_ X_ hx hZ hby hml hown hnm hret hlk e0 => Go.cast (ef_rm7A m_ a cc (FP.i2d pp) (FP.i2d qq)) (w7A a xn xo xu xv xw xt xm fP fQ fC fT fM fN fO sg pp qq cc X_ hx hZ hw hby hml hown hnm hret hlk e0 Z0 (Fr.nil n0) hL hD hP hQ hC hpp hqq hcc hsg hR hLf hr))
theorem d10_0 : decode prog_15_method_3_code 0 = .ok (.aload_n 0, 1) := by decide +kernel
theorem d10_1 : decode prog_15_method_3_code 1 = .ok (.getfield 45, 3) := by decide +kernel
theorem d10_4 : decode prog_15_method_3_code 4 = .ok (.aload_n 0, 1) := by decide +kernel
theorem d10_5 : decode prog_15_method_3_code 5 = .ok (.dup, 1) := by decide +kernel
theorem d10_6 : decode prog_15_method_3_code 6 = .ok (.getfield 48, 3) := by decide +kernel
theorem d10_9 : decode prog_15_method_3_code 9 = .ok (.iconst 1, 1) := by decide +kernel
theorem d10_10 : decode prog_15_method_3_code 10 = .ok (.isub, 1) := by decide +kernel
theorem d10_11 : decode prog_15_method_3_code 11 = .ok (.dup_x1, 1) := by decide +kernel
theorem d10_12 : decode prog_15_method_3_code 12 = .ok (.putfield 48, 3) := by decide +kernel
theorem d10_15 : decode prog_15_method_3_code 15 = .ok (.iaload, 1) := by decide +kernel
theorem d10_16 : decode prog_15_method_3_code 16 = .ok (.istore_n 1, 1) := by decide +kernel
theorem d10_17 : decode prog_15_method_3_code 17 = .ok (.aload_n 0, 1) := by decide +kernel
theorem d10_18 : decode prog_15_method_3_code 18 = .ok (.getfield 51, 3) := by decide +kernel
theorem d10_21 : decode prog_15_method_3_code 21 = .ok (.iload_n 1, 1) := by decide +kernel
theorem d10_22 : decode prog_15_method_3_code 22 = .ok (.if_icmp .le 39, 3) := by decide +kernel
theorem d10_61 : decode prog_15_method_3_code 61 = .ok (.return_, 1) := by decide +kernel
set_option maxRecDepth 65536 in
set_option maxHeartbeats 40000000 in
theorem w10_30 {p : Program} {l : Launch} {e : Env} {s : State} {m : MethodId} {args : Array Value} {below : List Frame} {meth : Method} {c_ : Code} {T0 : State} {locs : List Loc} {Z : State} {a0 : Array Value} {h0 : Heap} {n0 : Nat} (a xn xo xu xv xw xt xm : Addr) (fP fQ fC fT fM fN fO : Nat → Int32) (tT tN tO : Nat → Int32) (sg : Nat)
    (X0 : Stand p l e ({ frames := 0, cells := 0, slots := 0, locals := 0 } : Room) s m args below meth c_ T0 locs 0 0) (hx : p.tables.exec = Jvm.exec) (hZ : Z.Warmed39 s.vm) (hw : ∀ d ∈ tables_1, d.before a0 Z = true) (hby : c_.code = prog_15_method_3_code) (hml : c_.maxLocals = 2) (hown : s.vm.findClass "com/example/headroom/headroom/LowerEnvelope" = some m.cls) (hnm : meth.name = "pop") (hret : meth.sig.returnType = none) (hlk : meth.locks = false) (e0 : T0.heap = h0) (Z0 : n0 ≤ h0.size) (N0 : Fr n0 locs) (hL : LEs Z h0 a xn xo xu xv xw xt xm fP fQ fC fT fM fN fO 3 sg) (hD : Dst n0 a xn xo xu xv xw xt xm) (hG : Good tT tN tO sg fT fN fO 0) (hM : fM 2 = Int32.ofNat sg) (hsg : sg ≤ 10) :
    Go p e below s ({ frames := 0, cells := 0, slots := 0, locals := 0 } : Room).cells ({ frames := 0, cells := 0, slots := 0, locals := 0 } : Room).slots (fun r h L => r = none ∧ Fr n0 L ∧ Keep h0 h [a, xn, xo, xu, xv, xw, xt, xm] ∧ LEs Z h a xn xo xu xv xw xt xm fP fQ fC tT fM fN fO 2 sg) T0 (mkF m 0 #[.val (.ref a), .unset] []) := by
  have hDq := hD
  obtain ⟨ne_a_xn, ne_a_xo, ne_a_xu, ne_a_xv, ne_a_xw, ne_a_xt, ne_a_xm, ne_xn_xo, ne_xn_xu, ne_xn_xv, ne_xn_xw, ne_xn_xt, ne_xn_xm, ne_xo_xu, ne_xo_xv, ne_xo_xw, ne_xo_xt, ne_xo_xm, ne_xu_xv, ne_xu_xw, ne_xu_xt, ne_xu_xm, ne_xv_xw, ne_xv_xt, ne_xv_xm, ne_xw_xt, ne_xw_xm, ne_xt_xm, ge_a, ge_xn, ge_xo, ge_xu, ge_xv, ge_xw, ge_xt, ge_xm⟩ := hDq
  obtain ⟨E_a_0, F_changedNode_a_0, F_changedLine_a_0, F_base_a_0, F_slope_a_0, F_origin_a_0, F_node_a_0, F_pushedAt_a_0, F_width_a_0, F_pushes_a_0, F_changes_a_0, V_xn_0, V_xo_0, V_xu_0, V_xv_0, V_xw_0, V_xt_0, V_xm_0⟩ := hL
  have hU := hG.1
  show Go _ _ _ _ _ _ _ T0 (mkF m 0 #[.val (.ref a), .unset] [])
  refine Go.step (fun _ k => XS.aloadN X0.here hx rfl (hb hby d10_0) rfl rfl k) ?_
  obtain ⟨T1, X1, e1, st1⟩ := getF X0 hx hZ hown (host := "") (Or.inl (hw _ (mI 38 rfl))) Via.refl e0 F_pushedAt_a_0 (g := (mkF m 1 #[.val (.ref a), .unset] [(.ref a)])) rfl rfl (hb hby d10_1)
  refine Go.step st1 ?_
  show Go _ _ _ _ _ _ _ T1 (mkF m 4 #[.val (.ref a), .unset] [(.ref xm)])
  refine Go.step (fun _ k => XS.aloadN X1.here hx rfl (hb hby d10_4) rfl rfl k) ?_
  refine Go.step (fun _ k => XS.dup X1.here hx rfl (hb hby d10_5) rfl rfl k) ?_
  obtain ⟨T2, X2, e2, st2⟩ := getF X1 hx hZ hown (host := "") (Or.inl (hw _ (mI 49 rfl))) Via.refl e1 F_pushes_a_0 (g := (mkF m 6 #[.val (.ref a), .unset] [(.ref a), (.ref a), (.ref xm)])) rfl rfl (hb hby d10_6)
  refine Go.step st2 ?_
  show Go _ _ _ _ _ _ _ T2 (mkF m 9 #[.val (.ref a), .unset] [(.int (3 : Int32)), (.ref a), (.ref xm)])
  refine Go.step (fun _ k => XS.iconst X2.here hx rfl (hb hby d10_9) k) ?_
  refine Go.step (fun _ k => XS.isub X2.here hx rfl (hb hby d10_10) rfl k) ?_
  show Go _ _ _ _ _ _ _ T2 (mkF m 11 #[.val (.ref a), .unset] [(.int (2 : Int32)), (.ref a), (.ref xm)])
  refine Go.step (fun _ k => XS.dupX1 X2.here hx rfl (hb hby d10_11) rfl rfl rfl k) ?_
  show Go _ _ _ _ _ _ _ T2 (mkF m 12 #[.val (.ref a), .unset] [(.int (2 : Int32)), (.ref a), (.int (2 : Int32)), (.ref xm)])
  obtain ⟨T3, h3, X3, e3, W3, st3⟩ := putF X2 hx hZ hown (host := "") (Or.inl (hw _ (mI 49 rfl))) Via.refl e2 F_pushes_a_0 E_a_0 (Or.inl (hw _ (mI 50 rfl))) (hw _ (mI 1 rfl)) (ty := .int) (by decide) rfl rfl (g := (mkF m 12 #[.val (.ref a), .unset] [(.int (2 : Int32)), (.ref a), (.int (2 : Int32)), (.ref xm)])) rfl rfl (hb hby d10_12)
  refine Go.step st3 ?_
  have N3 := Fr.snoc X3 N0 ge_a
  have F_pushes_a_3 := F_pushes_a_0.same W3
  have E_a_3 := E_a_0.wr W3
  have F_changedNode_a_3 := F_changedNode_a_0.other W3 (Or.inr (slot_ne (Or.inl (hw _ (mI 11 rfl))) (Or.inl (hw _ (mI 50 rfl))) (by decide) (t := (.array .int)) (t' := .int) (by decide) (by decide)))
  have F_changedLine_a_3 := F_changedLine_a_0.other W3 (Or.inr (slot_ne (Or.inl (hw _ (mI 13 rfl))) (Or.inl (hw _ (mI 50 rfl))) (by decide) (t := (.array .int)) (t' := .int) (by decide) (by decide)))
  have F_base_a_3 := F_base_a_0.other W3 (Or.inr (slot_ne (Or.inr (hw _ (mI 31 rfl))) (Or.inl (hw _ (mI 50 rfl))) (by decide) (t := (.array .double)) (t' := .int) (by decide) (by decide)))
  have F_slope_a_3 := F_slope_a_0.other W3 (Or.inr (slot_ne (Or.inr (hw _ (mI 33 rfl))) (Or.inl (hw _ (mI 50 rfl))) (by decide) (t := (.array .double)) (t' := .int) (by decide) (by decide)))
  have F_origin_a_3 := F_origin_a_0.other W3 (Or.inr (slot_ne (Or.inr (hw _ (mI 35 rfl))) (Or.inl (hw _ (mI 50 rfl))) (by decide) (t := (.array .int)) (t' := .int) (by decide) (by decide)))
  have F_node_a_3 := F_node_a_0.other W3 (Or.inr (slot_ne (Or.inr (hw _ (mI 37 rfl))) (Or.inl (hw _ (mI 50 rfl))) (by decide) (t := (.array .int)) (t' := .int) (by decide) (by decide)))
  have F_pushedAt_a_3 := F_pushedAt_a_0.other W3 (Or.inr (slot_ne (Or.inr (hw _ (mI 39 rfl))) (Or.inl (hw _ (mI 50 rfl))) (by decide) (t := (.array .int)) (t' := .int) (by decide) (by decide)))
  have F_width_a_3 := F_width_a_0.other W3 (Or.inr (slot_ne (Or.inr (hw _ (mI 28 rfl))) (Or.inl (hw _ (mI 50 rfl))) (by decide) (t := .int) (t' := .int) (by decide) (by decide)))
  have F_changes_a_3 := F_changes_a_0.other W3 (Or.inr (slot_ne (Or.inl (hw _ (mI 52 rfl))) (Or.inl (hw _ (mI 50 rfl))) (by decide) (t := .int) (t' := .int) (by decide) (by decide)))
  have V_xn_3 := V_xn_0.other W3 (Ne.symm ne_a_xn)
  have V_xo_3 := V_xo_0.other W3 (Ne.symm ne_a_xo)
  have V_xu_3 := V_xu_0.other W3 (Ne.symm ne_a_xu)
  have V_xv_3 := V_xv_0.other W3 (Ne.symm ne_a_xv)
  have V_xw_3 := V_xw_0.other W3 (Ne.symm ne_a_xw)
  have V_xt_3 := V_xt_0.other W3 (Ne.symm ne_a_xt)
  have V_xm_3 := V_xm_0.other W3 (Ne.symm ne_a_xm)
  have K3 : Keep h0 h3 [a, xn, xo, xu, xv, xw, xt, xm] := (Keep.refl h0 [a, xn, xo, xu, xv, xw, xt, xm]).wr W3 (Or.inl (List.mem_of_getElem? (i := 0) rfl))
  show Go _ _ _ _ _ _ _ T3 (mkF m 15 #[.val (.ref a), .unset] [(.int (2 : Int32)), (.ref xm)])
  refine Go.iaload X3 hx hZ e3 V_xm_3 (j := (2 : Int32)) (v := (Int32.ofNat sg)) (by decide) hM (hb hby d10_15) ?_
  show Go _ _ _ _ _ _ _ T3 (mkF m 16 #[.val (.ref a), .unset] [(.int (Int32.ofNat sg))])
  refine Go.step (fun _ k => XS.istoreN X3.here hx rfl (hb hby d10_16) rfl (l' := #[.val (.ref a), .val (.int (Int32.ofNat sg))]) rfl k) ?_
  show Go _ _ _ _ _ _ _ T3 (mkF m 17 #[.val (.ref a), .val (.int (Int32.ofNat sg))] [])
  refine Go.step (fun _ k => XS.aloadN X3.here hx rfl (hb hby d10_17) rfl rfl k) ?_
  obtain ⟨T4, X4, e4, st4⟩ := getF X3 hx hZ hown (host := "") (Or.inl (hw _ (mI 51 rfl))) Via.refl e3 F_changes_a_3 (g := (mkF m 18 #[.val (.ref a), .val (.int (Int32.ofNat sg))] [(.ref a)])) rfl rfl (hb hby d10_18)
  refine Go.step st4 ?_
  show Go _ _ _ _ _ _ _ T4 (mkF m 21 #[.val (.ref a), .val (.int (Int32.ofNat sg))] [(.int (Int32.ofNat sg))])
  refine Go.step (fun _ k => XS.iloadN X4.here hx rfl (hb hby d10_21) rfl k) ?_
  refine Go.step (fun _ k => XS.icmpYes X4.here hx rfl (pc0 := 22) (pc' := 61) rfl (hb hby d10_22) rfl (flt (own_nlt sg)).2.2.2 (by decide) (by decide) k) ?_
  show Go _ _ _ _ _ _ _ T4 (mkF m 61 #[.val (.ref a), .val (.int (Int32.ofNat sg))] [])
  refine Go.retV X4 hx hlk hret (hb hby d10_61) (by decide) (by decide) ?_
  try rw [e4]
  have w1 : Iv Z h3 xt (8 : Int32) tT := by rw [← hU]; exact V_xt_3
  exact ⟨rfl, N3, K3, ⟨E_a_3, F_changedNode_a_3, F_changedLine_a_3, F_base_a_3, F_slope_a_3, F_origin_a_3, F_node_a_3, F_pushedAt_a_3, F_width_a_3, F_pushes_a_3, F_changes_a_3, V_xn_3, V_xo_3, V_xu_3, V_xv_3, V_xw_3, w1, V_xm_3⟩⟩
theorem ef_rm10_30 (m : MethodId) (a : Addr) : entryFrame m #[(.ref a)] 2 = mkF m 0 #[.val (.ref a), .unset] [] := by first | (simp [entryFrame, mkF, argsToLocals, Value.category]; done) | rfl
theorem rm10_30 (l : Launch) (Z : State) (a0 : Array Value) (hw : ∀ d ∈ tables_1, d.before a0 Z = true) (a xn xo xu xv xw xt xm : Addr) (fP fQ fC fT fM fN fO : Nat → Int32) (tT tN tO : Nat → Int32) (sg : Nat) (h0 : Heap) (n0 : Nat) (Z0 : n0 ≤ h0.size) (hL : LEs Z h0 a xn xo xu xv xw xt xm fP fQ fC fT fM fN fO 3 sg) (hD : Dst n0 a xn xo xu xv xw xt xm) (hG : Good tT tN tO sg fT fN fO 0) (hM : fM 2 = Int32.ofNat sg) (hsg : sg ≤ 10) :
    Con l Z (⟨"com/example/headroom/headroom/LowerEnvelope", "pop", "()V"⟩ : MethodName) prog_15_method_3_code 2 none ({ frames := 0, cells := 0, slots := 0, locals := 0 } : Room) #[(.ref a)] h0 (fun r h L => r = none ∧ Fr n0 L ∧ Keep h0 h [a, xn, xo, xu, xv, xw, xt, xm] ∧ LEs Z h a xn xo xu xv xw xt xm fP fQ fC tT fM fN fO 2 sg) :=
  con_of (plainFor_of_name pn_9) (fun p_ e_ s_ m_ b_ meth_ c_ T_ X_ hx hZ hby hml hown hnm hret hlk e0 => Go.cast (ef_rm10_30 m_ a) (w10_30 a xn xo xu xv xw xt xm fP fQ fC fT fM fN fO tT tN tO sg X_ hx hZ hw hby hml hown hnm hret hlk e0 Z0 (Fr.nil n0) hL hD hG hM hsg))
theorem d10_25 : decode prog_15_method_3_code 25 = .ok (.aload_n 0, 1) := by decide +kernel
theorem d10_26 : decode prog_15_method_3_code 26 = .ok (.dup, 1) := by decide +kernel
theorem d10_27 : decode prog_15_method_3_code 27 = .ok (.getfield 51, 3) := by decide +kernel
theorem d10_30 : decode prog_15_method_3_code 30 = .ok (.iconst 1, 1) := by decide +kernel
theorem d10_31 : decode prog_15_method_3_code 31 = .ok (.isub, 1) := by decide +kernel
theorem d10_32 : decode prog_15_method_3_code 32 = .ok (.putfield 51, 3) := by decide +kernel
theorem d10_35 : decode prog_15_method_3_code 35 = .ok (.aload_n 0, 1) := by decide +kernel
theorem d10_36 : decode prog_15_method_3_code 36 = .ok (.getfield 42, 3) := by decide +kernel
theorem d10_39 : decode prog_15_method_3_code 39 = .ok (.aload_n 0, 1) := by decide +kernel
theorem d10_40 : decode prog_15_method_3_code 40 = .ok (.getfield 7, 3) := by decide +kernel
theorem d10_43 : decode prog_15_method_3_code 43 = .ok (.aload_n 0, 1) := by decide +kernel
theorem d10_44 : decode prog_15_method_3_code 44 = .ok (.getfield 51, 3) := by decide +kernel
theorem d10_47 : decode prog_15_method_3_code 47 = .ok (.iaload, 1) := by decide +kernel
theorem d10_48 : decode prog_15_method_3_code 48 = .ok (.aload_n 0, 1) := by decide +kernel
theorem d10_49 : decode prog_15_method_3_code 49 = .ok (.getfield 13, 3) := by decide +kernel
theorem d10_52 : decode prog_15_method_3_code 52 = .ok (.aload_n 0, 1) := by decide +kernel
theorem d10_53 : decode prog_15_method_3_code 53 = .ok (.getfield 51, 3) := by decide +kernel
theorem d10_56 : decode prog_15_method_3_code 56 = .ok (.iaload, 1) := by decide +kernel
theorem d10_57 : decode prog_15_method_3_code 57 = .ok (.iastore, 1) := by decide +kernel
theorem d10_58 : decode prog_15_method_3_code 58 = .ok (.goto (-41), 3) := by decide +kernel
set_option maxRecDepth 65536 in
set_option maxHeartbeats 40000000 in
theorem w10_31 {p : Program} {l : Launch} {e : Env} {s : State} {m : MethodId} {args : Array Value} {below : List Frame} {meth : Method} {c_ : Code} {T0 : State} {locs : List Loc} {Z : State} {a0 : Array Value} {h0 : Heap} {n0 : Nat} (a xn xo xu xv xw xt xm : Addr) (fP fQ fC fT fM fN fO : Nat → Int32) (tT tN tO : Nat → Int32) (sg : Nat)
    (X0 : Stand p l e ({ frames := 0, cells := 0, slots := 0, locals := 0 } : Room) s m args below meth c_ T0 locs 0 0) (hx : p.tables.exec = Jvm.exec) (hZ : Z.Warmed39 s.vm) (hw : ∀ d ∈ tables_1, d.before a0 Z = true) (hby : c_.code = prog_15_method_3_code) (hml : c_.maxLocals = 2) (hown : s.vm.findClass "com/example/headroom/headroom/LowerEnvelope" = some m.cls) (hnm : meth.name = "pop") (hret : meth.sig.returnType = none) (hlk : meth.locks = false) (e0 : T0.heap = h0) (Z0 : n0 ≤ h0.size) (N0 : Fr n0 locs) (hL : LEs Z h0 a xn xo xu xv xw xt xm fP fQ fC fT fM fN fO 3 (sg + 1)) (hD : Dst n0 a xn xo xu xv xw xt xm) (hG : Good tT tN tO sg fT fN fO 1) (hM : fM 2 = Int32.ofNat sg) (hsg : sg ≤ 10) :
    Go p e below s ({ frames := 0, cells := 0, slots := 0, locals := 0 } : Room).cells ({ frames := 0, cells := 0, slots := 0, locals := 0 } : Room).slots (fun r h L => r = none ∧ Fr n0 L ∧ Keep h0 h [a, xn, xo, xu, xv, xw, xt, xm] ∧ LEs Z h a xn xo xu xv xw xt xm fP fQ fC tT fM fN fO 2 sg) T0 (mkF m 0 #[.val (.ref a), .unset] []) := by
  have hDq := hD
  obtain ⟨ne_a_xn, ne_a_xo, ne_a_xu, ne_a_xv, ne_a_xw, ne_a_xt, ne_a_xm, ne_xn_xo, ne_xn_xu, ne_xn_xv, ne_xn_xw, ne_xn_xt, ne_xn_xm, ne_xo_xu, ne_xo_xv, ne_xo_xw, ne_xo_xt, ne_xo_xm, ne_xu_xv, ne_xu_xw, ne_xu_xt, ne_xu_xm, ne_xv_xw, ne_xv_xt, ne_xv_xm, ne_xw_xt, ne_xw_xm, ne_xt_xm, ge_a, ge_xn, ge_xo, ge_xu, ge_xv, ge_xw, ge_xt, ge_xm⟩ := hDq
  obtain ⟨E_a_0, F_changedNode_a_0, F_changedLine_a_0, F_base_a_0, F_slope_a_0, F_origin_a_0, F_node_a_0, F_pushedAt_a_0, F_width_a_0, F_pushes_a_0, F_changes_a_0, V_xn_0, V_xo_0, V_xu_0, V_xv_0, V_xw_0, V_xt_0, V_xm_0⟩ := hL
  obtain ⟨hb0, hU⟩ := hG.1
  show Go _ _ _ _ _ _ _ T0 (mkF m 0 #[.val (.ref a), .unset] [])
  refine Go.step (fun _ k => XS.aloadN X0.here hx rfl (hb hby d10_0) rfl rfl k) ?_
  obtain ⟨T1, X1, e1, st1⟩ := getF X0 hx hZ hown (host := "") (Or.inl (hw _ (mI 38 rfl))) Via.refl e0 F_pushedAt_a_0 (g := (mkF m 1 #[.val (.ref a), .unset] [(.ref a)])) rfl rfl (hb hby d10_1)
  refine Go.step st1 ?_
  show Go _ _ _ _ _ _ _ T1 (mkF m 4 #[.val (.ref a), .unset] [(.ref xm)])
  refine Go.step (fun _ k => XS.aloadN X1.here hx rfl (hb hby d10_4) rfl rfl k) ?_
  refine Go.step (fun _ k => XS.dup X1.here hx rfl (hb hby d10_5) rfl rfl k) ?_
  obtain ⟨T2, X2, e2, st2⟩ := getF X1 hx hZ hown (host := "") (Or.inl (hw _ (mI 49 rfl))) Via.refl e1 F_pushes_a_0 (g := (mkF m 6 #[.val (.ref a), .unset] [(.ref a), (.ref a), (.ref xm)])) rfl rfl (hb hby d10_6)
  refine Go.step st2 ?_
  show Go _ _ _ _ _ _ _ T2 (mkF m 9 #[.val (.ref a), .unset] [(.int (3 : Int32)), (.ref a), (.ref xm)])
  refine Go.step (fun _ k => XS.iconst X2.here hx rfl (hb hby d10_9) k) ?_
  refine Go.step (fun _ k => XS.isub X2.here hx rfl (hb hby d10_10) rfl k) ?_
  show Go _ _ _ _ _ _ _ T2 (mkF m 11 #[.val (.ref a), .unset] [(.int (2 : Int32)), (.ref a), (.ref xm)])
  refine Go.step (fun _ k => XS.dupX1 X2.here hx rfl (hb hby d10_11) rfl rfl rfl k) ?_
  show Go _ _ _ _ _ _ _ T2 (mkF m 12 #[.val (.ref a), .unset] [(.int (2 : Int32)), (.ref a), (.int (2 : Int32)), (.ref xm)])
  obtain ⟨T3, h3, X3, e3, W3, st3⟩ := putF X2 hx hZ hown (host := "") (Or.inl (hw _ (mI 49 rfl))) Via.refl e2 F_pushes_a_0 E_a_0 (Or.inl (hw _ (mI 50 rfl))) (hw _ (mI 1 rfl)) (ty := .int) (by decide) rfl rfl (g := (mkF m 12 #[.val (.ref a), .unset] [(.int (2 : Int32)), (.ref a), (.int (2 : Int32)), (.ref xm)])) rfl rfl (hb hby d10_12)
  refine Go.step st3 ?_
  have N3 := Fr.snoc X3 N0 ge_a
  have F_pushes_a_3 := F_pushes_a_0.same W3
  have E_a_3 := E_a_0.wr W3
  have F_changedNode_a_3 := F_changedNode_a_0.other W3 (Or.inr (slot_ne (Or.inl (hw _ (mI 11 rfl))) (Or.inl (hw _ (mI 50 rfl))) (by decide) (t := (.array .int)) (t' := .int) (by decide) (by decide)))
  have F_changedLine_a_3 := F_changedLine_a_0.other W3 (Or.inr (slot_ne (Or.inl (hw _ (mI 13 rfl))) (Or.inl (hw _ (mI 50 rfl))) (by decide) (t := (.array .int)) (t' := .int) (by decide) (by decide)))
  have F_base_a_3 := F_base_a_0.other W3 (Or.inr (slot_ne (Or.inr (hw _ (mI 31 rfl))) (Or.inl (hw _ (mI 50 rfl))) (by decide) (t := (.array .double)) (t' := .int) (by decide) (by decide)))
  have F_slope_a_3 := F_slope_a_0.other W3 (Or.inr (slot_ne (Or.inr (hw _ (mI 33 rfl))) (Or.inl (hw _ (mI 50 rfl))) (by decide) (t := (.array .double)) (t' := .int) (by decide) (by decide)))
  have F_origin_a_3 := F_origin_a_0.other W3 (Or.inr (slot_ne (Or.inr (hw _ (mI 35 rfl))) (Or.inl (hw _ (mI 50 rfl))) (by decide) (t := (.array .int)) (t' := .int) (by decide) (by decide)))
  have F_node_a_3 := F_node_a_0.other W3 (Or.inr (slot_ne (Or.inr (hw _ (mI 37 rfl))) (Or.inl (hw _ (mI 50 rfl))) (by decide) (t := (.array .int)) (t' := .int) (by decide) (by decide)))
  have F_pushedAt_a_3 := F_pushedAt_a_0.other W3 (Or.inr (slot_ne (Or.inr (hw _ (mI 39 rfl))) (Or.inl (hw _ (mI 50 rfl))) (by decide) (t := (.array .int)) (t' := .int) (by decide) (by decide)))
  have F_width_a_3 := F_width_a_0.other W3 (Or.inr (slot_ne (Or.inr (hw _ (mI 28 rfl))) (Or.inl (hw _ (mI 50 rfl))) (by decide) (t := .int) (t' := .int) (by decide) (by decide)))
  have F_changes_a_3 := F_changes_a_0.other W3 (Or.inr (slot_ne (Or.inl (hw _ (mI 52 rfl))) (Or.inl (hw _ (mI 50 rfl))) (by decide) (t := .int) (t' := .int) (by decide) (by decide)))
  have V_xn_3 := V_xn_0.other W3 (Ne.symm ne_a_xn)
  have V_xo_3 := V_xo_0.other W3 (Ne.symm ne_a_xo)
  have V_xu_3 := V_xu_0.other W3 (Ne.symm ne_a_xu)
  have V_xv_3 := V_xv_0.other W3 (Ne.symm ne_a_xv)
  have V_xw_3 := V_xw_0.other W3 (Ne.symm ne_a_xw)
  have V_xt_3 := V_xt_0.other W3 (Ne.symm ne_a_xt)
  have V_xm_3 := V_xm_0.other W3 (Ne.symm ne_a_xm)
  have K3 : Keep h0 h3 [a, xn, xo, xu, xv, xw, xt, xm] := (Keep.refl h0 [a, xn, xo, xu, xv, xw, xt, xm]).wr W3 (Or.inl (List.mem_of_getElem? (i := 0) rfl))
  show Go _ _ _ _ _ _ _ T3 (mkF m 15 #[.val (.ref a), .unset] [(.int (2 : Int32)), (.ref xm)])
  refine Go.iaload X3 hx hZ e3 V_xm_3 (j := (2 : Int32)) (v := (Int32.ofNat sg)) (by decide) hM (hb hby d10_15) ?_
  show Go _ _ _ _ _ _ _ T3 (mkF m 16 #[.val (.ref a), .unset] [(.int (Int32.ofNat sg))])
  refine Go.step (fun _ k => XS.istoreN X3.here hx rfl (hb hby d10_16) rfl (l' := #[.val (.ref a), .val (.int (Int32.ofNat sg))]) rfl k) ?_
  show Go _ _ _ _ _ _ _ T3 (mkF m 17 #[.val (.ref a), .val (.int (Int32.ofNat sg))] [])
  refine Go.step (fun _ k => XS.aloadN X3.here hx rfl (hb hby d10_17) rfl rfl k) ?_
  obtain ⟨T4, X4, e4, st4⟩ := getF X3 hx hZ hown (host := "") (Or.inl (hw _ (mI 51 rfl))) Via.refl e3 F_changes_a_3 (g := (mkF m 18 #[.val (.ref a), .val (.int (Int32.ofNat sg))] [(.ref a)])) rfl rfl (hb hby d10_18)
  refine Go.step st4 ?_
  show Go _ _ _ _ _ _ _ T4 (mkF m 21 #[.val (.ref a), .val (.int (Int32.ofNat sg))] [(.int (Int32.ofNat (sg + 1)))])
  refine Go.step (fun _ k => XS.iloadN X4.here hx rfl (hb hby d10_21) rfl k) ?_
  refine Go.step (fun _ k => XS.icmpNo X4.here hx rfl (hb hby d10_22) rfl (tlt (own_ltS (by omega) (by omega) (by omega))).2.2.2 k) ?_
  show Go _ _ _ _ _ _ _ T4 (mkF m 25 #[.val (.ref a), .val (.int (Int32.ofNat sg))] [])
  refine Go.step (fun _ k => XS.aloadN X4.here hx rfl (hb hby d10_25) rfl rfl k) ?_
  refine Go.step (fun _ k => XS.dup X4.here hx rfl (hb hby d10_26) rfl rfl k) ?_
  obtain ⟨T5, X5, e5, st5⟩ := getF X4 hx hZ hown (host := "") (Or.inl (hw _ (mI 51 rfl))) Via.refl e4 F_changes_a_3 (g := (mkF m 27 #[.val (.ref a), .val (.int (Int32.ofNat sg))] [(.ref a), (.ref a)])) rfl rfl (hb hby d10_27)
  refine Go.step st5 ?_
  show Go _ _ _ _ _ _ _ T5 (mkF m 30 #[.val (.ref a), .val (.int (Int32.ofNat sg))] [(.int (Int32.ofNat (sg + 1))), (.ref a)])
  refine Go.step (fun _ k => XS.iconst X5.here hx rfl (hb hby d10_30) k) ?_
  refine Go.step (fun _ k => XS.isub X5.here hx rfl (hb hby d10_31) rfl k) ?_
  show Go _ _ _ _ _ _ _ T5 (mkF m 32 #[.val (.ref a), .val (.int (Int32.ofNat sg))] [(.int ((Int32.ofNat (sg + 1)) - (1 : Int32))), (.ref a)])
  rw [show ((Int32.ofNat (sg + 1)) - (1 : Int32)) = Int32.ofNat sg from own_pre sg]
  show Go _ _ _ _ _ _ _ T5 (mkF m 32 #[.val (.ref a), .val (.int (Int32.ofNat sg))] [(.int (Int32.ofNat sg)), (.ref a)])
  obtain ⟨T6, h6, X6, e6, W6, st6⟩ := putF X5 hx hZ hown (host := "") (Or.inl (hw _ (mI 51 rfl))) Via.refl e5 F_changes_a_3 E_a_3 (Or.inl (hw _ (mI 52 rfl))) (hw _ (mI 1 rfl)) (ty := .int) (by decide) rfl rfl (g := (mkF m 32 #[.val (.ref a), .val (.int (Int32.ofNat sg))] [(.int (Int32.ofNat sg)), (.ref a)])) rfl rfl (hb hby d10_32)
  refine Go.step st6 ?_
  have N6 := Fr.snoc X6 N3 ge_a
  have F_changes_a_6 := F_changes_a_3.same W6
  have E_a_6 := E_a_3.wr W6
  have F_changedNode_a_6 := F_changedNode_a_3.other W6 (Or.inr (slot_ne (Or.inl (hw _ (mI 11 rfl))) (Or.inl (hw _ (mI 52 rfl))) (by decide) (t := (.array .int)) (t' := .int) (by decide) (by decide)))
  have F_changedLine_a_6 := F_changedLine_a_3.other W6 (Or.inr (slot_ne (Or.inl (hw _ (mI 13 rfl))) (Or.inl (hw _ (mI 52 rfl))) (by decide) (t := (.array .int)) (t' := .int) (by decide) (by decide)))
  have F_base_a_6 := F_base_a_3.other W6 (Or.inr (slot_ne (Or.inr (hw _ (mI 31 rfl))) (Or.inl (hw _ (mI 52 rfl))) (by decide) (t := (.array .double)) (t' := .int) (by decide) (by decide)))
  have F_slope_a_6 := F_slope_a_3.other W6 (Or.inr (slot_ne (Or.inr (hw _ (mI 33 rfl))) (Or.inl (hw _ (mI 52 rfl))) (by decide) (t := (.array .double)) (t' := .int) (by decide) (by decide)))
  have F_origin_a_6 := F_origin_a_3.other W6 (Or.inr (slot_ne (Or.inr (hw _ (mI 35 rfl))) (Or.inl (hw _ (mI 52 rfl))) (by decide) (t := (.array .int)) (t' := .int) (by decide) (by decide)))
  have F_node_a_6 := F_node_a_3.other W6 (Or.inr (slot_ne (Or.inr (hw _ (mI 37 rfl))) (Or.inl (hw _ (mI 52 rfl))) (by decide) (t := (.array .int)) (t' := .int) (by decide) (by decide)))
  have F_pushedAt_a_6 := F_pushedAt_a_3.other W6 (Or.inr (slot_ne (Or.inr (hw _ (mI 39 rfl))) (Or.inl (hw _ (mI 52 rfl))) (by decide) (t := (.array .int)) (t' := .int) (by decide) (by decide)))
  have F_width_a_6 := F_width_a_3.other W6 (Or.inr (slot_ne (Or.inr (hw _ (mI 28 rfl))) (Or.inl (hw _ (mI 52 rfl))) (by decide) (t := .int) (t' := .int) (by decide) (by decide)))
  have F_pushes_a_6 := F_pushes_a_3.other W6 (Or.inr (slot_ne (Or.inl (hw _ (mI 50 rfl))) (Or.inl (hw _ (mI 52 rfl))) (by decide) (t := .int) (t' := .int) (by decide) (by decide)))
  have V_xn_6 := V_xn_3.other W6 (Ne.symm ne_a_xn)
  have V_xo_6 := V_xo_3.other W6 (Ne.symm ne_a_xo)
  have V_xu_6 := V_xu_3.other W6 (Ne.symm ne_a_xu)
  have V_xv_6 := V_xv_3.other W6 (Ne.symm ne_a_xv)
  have V_xw_6 := V_xw_3.other W6 (Ne.symm ne_a_xw)
  have V_xt_6 := V_xt_3.other W6 (Ne.symm ne_a_xt)
  have V_xm_6 := V_xm_3.other W6 (Ne.symm ne_a_xm)
  have K6 : Keep h0 h6 [a, xn, xo, xu, xv, xw, xt, xm] := K3.wr W6 (Or.inl (List.mem_of_getElem? (i := 0) rfl))
  show Go _ _ _ _ _ _ _ T6 (mkF m 35 #[.val (.ref a), .val (.int (Int32.ofNat sg))] [])
  refine Go.step (fun _ k => XS.aloadN X6.here hx rfl (hb hby d10_35) rfl rfl k) ?_
  obtain ⟨T7, X7, e7, st7⟩ := getF X6 hx hZ hown (host := "") (Or.inl (hw _ (mI 36 rfl))) Via.refl e6 F_node_a_6 (g := (mkF m 36 #[.val (.ref a), .val (.int (Int32.ofNat sg))] [(.ref a)])) rfl rfl (hb hby d10_36)
  refine Go.step st7 ?_
  show Go _ _ _ _ _ _ _ T7 (mkF m 39 #[.val (.ref a), .val (.int (Int32.ofNat sg))] [(.ref xt)])
  refine Go.step (fun _ k => XS.aloadN X7.here hx rfl (hb hby d10_39) rfl rfl k) ?_
  obtain ⟨T8, X8, e8, st8⟩ := getF X7 hx hZ hown (host := "") (Or.inl (hw _ (mI 10 rfl))) Via.refl e7 F_changedNode_a_6 (g := (mkF m 40 #[.val (.ref a), .val (.int (Int32.ofNat sg))] [(.ref a), (.ref xt)])) rfl rfl (hb hby d10_40)
  refine Go.step st8 ?_
  show Go _ _ _ _ _ _ _ T8 (mkF m 43 #[.val (.ref a), .val (.int (Int32.ofNat sg))] [(.ref xn), (.ref xt)])
  refine Go.step (fun _ k => XS.aloadN X8.here hx rfl (hb hby d10_43) rfl rfl k) ?_
  obtain ⟨T9, X9, e9, st9⟩ := getF X8 hx hZ hown (host := "") (Or.inl (hw _ (mI 51 rfl))) Via.refl e8 F_changes_a_6 (g := (mkF m 44 #[.val (.ref a), .val (.int (Int32.ofNat sg))] [(.ref a), (.ref xn), (.ref xt)])) rfl rfl (hb hby d10_44)
  refine Go.step st9 ?_
  show Go _ _ _ _ _ _ _ T9 (mkF m 47 #[.val (.ref a), .val (.int (Int32.ofNat sg))] [(.int (Int32.ofNat sg)), (.ref xn), (.ref xt)])
  refine Go.iaload X9 hx hZ e9 V_xn_6 (j := (Int32.ofNat sg)) (v := (fN sg)) (own_b64 (by omega)) (by rw [own_nat (by omega)]) (hb hby d10_47) ?_
  show Go _ _ _ _ _ _ _ T9 (mkF m 48 #[.val (.ref a), .val (.int (Int32.ofNat sg))] [(.int (fN sg)), (.ref xt)])
  refine Go.step (fun _ k => XS.aloadN X9.here hx rfl (hb hby d10_48) rfl rfl k) ?_
  obtain ⟨T10, X10, e10, st10⟩ := getF X9 hx hZ hown (host := "") (Or.inl (hw _ (mI 12 rfl))) Via.refl e9 F_changedLine_a_6 (g := (mkF m 49 #[.val (.ref a), .val (.int (Int32.ofNat sg))] [(.ref a), (.int (fN sg)), (.ref xt)])) rfl rfl (hb hby d10_49)
  refine Go.step st10 ?_
  show Go _ _ _ _ _ _ _ T10 (mkF m 52 #[.val (.ref a), .val (.int (Int32.ofNat sg))] [(.ref xo), (.int (fN sg)), (.ref xt)])
  refine Go.step (fun _ k => XS.aloadN X10.here hx rfl (hb hby d10_52) rfl rfl k) ?_
  obtain ⟨T11, X11, e11, st11⟩ := getF X10 hx hZ hown (host := "") (Or.inl (hw _ (mI 51 rfl))) Via.refl e10 F_changes_a_6 (g := (mkF m 53 #[.val (.ref a), .val (.int (Int32.ofNat sg))] [(.ref a), (.ref xo), (.int (fN sg)), (.ref xt)])) rfl rfl (hb hby d10_53)
  refine Go.step st11 ?_
  show Go _ _ _ _ _ _ _ T11 (mkF m 56 #[.val (.ref a), .val (.int (Int32.ofNat sg))] [(.int (Int32.ofNat sg)), (.ref xo), (.int (fN sg)), (.ref xt)])
  refine Go.iaload X11 hx hZ e11 V_xo_6 (j := (Int32.ofNat sg)) (v := (fO sg)) (own_b64 (by omega)) (by rw [own_nat (by omega)]) (hb hby d10_56) ?_
  show Go _ _ _ _ _ _ _ T11 (mkF m 57 #[.val (.ref a), .val (.int (Int32.ofNat sg))] [(.int (fO sg)), (.int (fN sg)), (.ref xt)])
  refine Go.iastore X11 hx hZ e11 V_xt_6 (j := (fN sg)) (x := (fO sg)) hb0 (hb hby d10_57) ?_
  intro T12 h12 X12 e12 W12 Vn12
  have V_xt_12 : Iv Z h12 xt (8 : Int32) (updN fT ((fN sg)).toNatClampNeg (fO sg)) := Vn12
  have N12 := Fr.snoc X12 N6 ge_xt
  have E_a_12 := E_a_6.wr W12
  have F_changedNode_a_12 := F_changedNode_a_6.other W12 (Or.inl ne_a_xt)
  have F_changedLine_a_12 := F_changedLine_a_6.other W12 (Or.inl ne_a_xt)
  have F_base_a_12 := F_base_a_6.other W12 (Or.inl ne_a_xt)
  have F_slope_a_12 := F_slope_a_6.other W12 (Or.inl ne_a_xt)
  have F_origin_a_12 := F_origin_a_6.other W12 (Or.inl ne_a_xt)
  have F_node_a_12 := F_node_a_6.other W12 (Or.inl ne_a_xt)
  have F_pushedAt_a_12 := F_pushedAt_a_6.other W12 (Or.inl ne_a_xt)
  have F_width_a_12 := F_width_a_6.other W12 (Or.inl ne_a_xt)
  have F_pushes_a_12 := F_pushes_a_6.other W12 (Or.inl ne_a_xt)
  have F_changes_a_12 := F_changes_a_6.other W12 (Or.inl ne_a_xt)
  have V_xn_12 := V_xn_6.other W12 ne_xn_xt
  have V_xo_12 := V_xo_6.other W12 ne_xo_xt
  have V_xu_12 := V_xu_6.other W12 ne_xu_xt
  have V_xv_12 := V_xv_6.other W12 ne_xv_xt
  have V_xw_12 := V_xw_6.other W12 ne_xw_xt
  have V_xm_12 := V_xm_6.other W12 (Ne.symm ne_xt_xm)
  have K12 : Keep h0 h12 [a, xn, xo, xu, xv, xw, xt, xm] := K6.wr W12 (Or.inl (List.mem_of_getElem? (i := 6) rfl))
  show Go _ _ _ _ _ _ _ T12 (mkF m 58 #[.val (.ref a), .val (.int (Int32.ofNat sg))] [])
  refine Go.step (fun _ k => XS.goto X12.here hx rfl (pc0 := 58) (pc' := 17) rfl (hb hby d10_58) (by decide) (by decide) k) ?_
  show Go _ _ _ _ _ _ _ T12 (mkF m 17 #[.val (.ref a), .val (.int (Int32.ofNat sg))] [])
  refine Go.step (fun _ k => XS.aloadN X12.here hx rfl (hb hby d10_17) rfl rfl k) ?_
  obtain ⟨T13, X13, e13, st13⟩ := getF X12 hx hZ hown (host := "") (Or.inl (hw _ (mI 51 rfl))) Via.refl e12 F_changes_a_12 (g := (mkF m 18 #[.val (.ref a), .val (.int (Int32.ofNat sg))] [(.ref a)])) rfl rfl (hb hby d10_18)
  refine Go.step st13 ?_
  show Go _ _ _ _ _ _ _ T13 (mkF m 21 #[.val (.ref a), .val (.int (Int32.ofNat sg))] [(.int (Int32.ofNat sg))])
  refine Go.step (fun _ k => XS.iloadN X13.here hx rfl (hb hby d10_21) rfl k) ?_
  refine Go.step (fun _ k => XS.icmpYes X13.here hx rfl (pc0 := 22) (pc' := 61) rfl (hb hby d10_22) rfl (flt (own_nlt sg)).2.2.2 (by decide) (by decide) k) ?_
  show Go _ _ _ _ _ _ _ T13 (mkF m 61 #[.val (.ref a), .val (.int (Int32.ofNat sg))] [])
  refine Go.retV X13 hx hlk hret (hb hby d10_61) (by decide) (by decide) ?_
  try rw [e13]
  have w1 : Iv Z h12 xt (8 : Int32) tT := by rw [← hU]; exact V_xt_12
  exact ⟨rfl, N12, K12, ⟨E_a_12, F_changedNode_a_12, F_changedLine_a_12, F_base_a_12, F_slope_a_12, F_origin_a_12, F_node_a_12, F_pushedAt_a_12, F_width_a_12, F_pushes_a_12, F_changes_a_12, V_xn_12, V_xo_12, V_xu_12, V_xv_12, V_xw_12, w1, V_xm_12⟩⟩
theorem ef_rm10_31 (m : MethodId) (a : Addr) : entryFrame m #[(.ref a)] 2 = mkF m 0 #[.val (.ref a), .unset] [] := by first | (simp [entryFrame, mkF, argsToLocals, Value.category]; done) | rfl
theorem rm10_31 (l : Launch) (Z : State) (a0 : Array Value) (hw : ∀ d ∈ tables_1, d.before a0 Z = true) (a xn xo xu xv xw xt xm : Addr) (fP fQ fC fT fM fN fO : Nat → Int32) (tT tN tO : Nat → Int32) (sg : Nat) (h0 : Heap) (n0 : Nat) (Z0 : n0 ≤ h0.size) (hL : LEs Z h0 a xn xo xu xv xw xt xm fP fQ fC fT fM fN fO 3 (sg + 1)) (hD : Dst n0 a xn xo xu xv xw xt xm) (hG : Good tT tN tO sg fT fN fO 1) (hM : fM 2 = Int32.ofNat sg) (hsg : sg ≤ 10) :
    Con l Z (⟨"com/example/headroom/headroom/LowerEnvelope", "pop", "()V"⟩ : MethodName) prog_15_method_3_code 2 none ({ frames := 0, cells := 0, slots := 0, locals := 0 } : Room) #[(.ref a)] h0 (fun r h L => r = none ∧ Fr n0 L ∧ Keep h0 h [a, xn, xo, xu, xv, xw, xt, xm] ∧ LEs Z h a xn xo xu xv xw xt xm fP fQ fC tT fM fN fO 2 sg) :=
  con_of (plainFor_of_name pn_9) (fun p_ e_ s_ m_ b_ meth_ c_ T_ X_ hx hZ hby hml hown hnm hret hlk e0 => Go.cast (ef_rm10_31 m_ a) (w10_31 a xn xo xu xv xw xt xm fP fQ fC fT fM fN fO tT tN tO sg X_ hx hZ hw hby hml hown hnm hret hlk e0 Z0 (Fr.nil n0) hL hD hG hM hsg))
set_option maxRecDepth 65536 in
set_option maxHeartbeats 40000000 in
theorem w10_32 {p : Program} {l : Launch} {e : Env} {s : State} {m : MethodId} {args : Array Value} {below : List Frame} {meth : Method} {c_ : Code} {T0 : State} {locs : List Loc} {Z : State} {a0 : Array Value} {h0 : Heap} {n0 : Nat} (a xn xo xu xv xw xt xm : Addr) (fP fQ fC fT fM fN fO : Nat → Int32) (tT tN tO : Nat → Int32) (sg : Nat)
    (X0 : Stand p l e ({ frames := 0, cells := 0, slots := 0, locals := 0 } : Room) s m args below meth c_ T0 locs 0 0) (hx : p.tables.exec = Jvm.exec) (hZ : Z.Warmed39 s.vm) (hw : ∀ d ∈ tables_1, d.before a0 Z = true) (hby : c_.code = prog_15_method_3_code) (hml : c_.maxLocals = 2) (hown : s.vm.findClass "com/example/headroom/headroom/LowerEnvelope" = some m.cls) (hnm : meth.name = "pop") (hret : meth.sig.returnType = none) (hlk : meth.locks = false) (e0 : T0.heap = h0) (Z0 : n0 ≤ h0.size) (N0 : Fr n0 locs) (hL : LEs Z h0 a xn xo xu xv xw xt xm fP fQ fC fT fM fN fO 3 (sg + 2)) (hD : Dst n0 a xn xo xu xv xw xt xm) (hG : Good tT tN tO sg fT fN fO 2) (hM : fM 2 = Int32.ofNat sg) (hsg : sg ≤ 10) :
    Go p e below s ({ frames := 0, cells := 0, slots := 0, locals := 0 } : Room).cells ({ frames := 0, cells := 0, slots := 0, locals := 0 } : Room).slots (fun r h L => r = none ∧ Fr n0 L ∧ Keep h0 h [a, xn, xo, xu, xv, xw, xt, xm] ∧ LEs Z h a xn xo xu xv xw xt xm fP fQ fC tT fM fN fO 2 sg) T0 (mkF m 0 #[.val (.ref a), .unset] []) := by
  have hDq := hD
  obtain ⟨ne_a_xn, ne_a_xo, ne_a_xu, ne_a_xv, ne_a_xw, ne_a_xt, ne_a_xm, ne_xn_xo, ne_xn_xu, ne_xn_xv, ne_xn_xw, ne_xn_xt, ne_xn_xm, ne_xo_xu, ne_xo_xv, ne_xo_xw, ne_xo_xt, ne_xo_xm, ne_xu_xv, ne_xu_xw, ne_xu_xt, ne_xu_xm, ne_xv_xw, ne_xv_xt, ne_xv_xm, ne_xw_xt, ne_xw_xm, ne_xt_xm, ge_a, ge_xn, ge_xo, ge_xu, ge_xv, ge_xw, ge_xt, ge_xm⟩ := hDq
  obtain ⟨E_a_0, F_changedNode_a_0, F_changedLine_a_0, F_base_a_0, F_slope_a_0, F_origin_a_0, F_node_a_0, F_pushedAt_a_0, F_width_a_0, F_pushes_a_0, F_changes_a_0, V_xn_0, V_xo_0, V_xu_0, V_xv_0, V_xw_0, V_xt_0, V_xm_0⟩ := hL
  obtain ⟨hb1, hb0, hU⟩ := hG.1
  show Go _ _ _ _ _ _ _ T0 (mkF m 0 #[.val (.ref a), .unset] [])
  refine Go.step (fun _ k => XS.aloadN X0.here hx rfl (hb hby d10_0) rfl rfl k) ?_
  obtain ⟨T1, X1, e1, st1⟩ := getF X0 hx hZ hown (host := "") (Or.inl (hw _ (mI 38 rfl))) Via.refl e0 F_pushedAt_a_0 (g := (mkF m 1 #[.val (.ref a), .unset] [(.ref a)])) rfl rfl (hb hby d10_1)
  refine Go.step st1 ?_
  show Go _ _ _ _ _ _ _ T1 (mkF m 4 #[.val (.ref a), .unset] [(.ref xm)])
  refine Go.step (fun _ k => XS.aloadN X1.here hx rfl (hb hby d10_4) rfl rfl k) ?_
  refine Go.step (fun _ k => XS.dup X1.here hx rfl (hb hby d10_5) rfl rfl k) ?_
  obtain ⟨T2, X2, e2, st2⟩ := getF X1 hx hZ hown (host := "") (Or.inl (hw _ (mI 49 rfl))) Via.refl e1 F_pushes_a_0 (g := (mkF m 6 #[.val (.ref a), .unset] [(.ref a), (.ref a), (.ref xm)])) rfl rfl (hb hby d10_6)
  refine Go.step st2 ?_
  show Go _ _ _ _ _ _ _ T2 (mkF m 9 #[.val (.ref a), .unset] [(.int (3 : Int32)), (.ref a), (.ref xm)])
  refine Go.step (fun _ k => XS.iconst X2.here hx rfl (hb hby d10_9) k) ?_
  refine Go.step (fun _ k => XS.isub X2.here hx rfl (hb hby d10_10) rfl k) ?_
  show Go _ _ _ _ _ _ _ T2 (mkF m 11 #[.val (.ref a), .unset] [(.int (2 : Int32)), (.ref a), (.ref xm)])
  refine Go.step (fun _ k => XS.dupX1 X2.here hx rfl (hb hby d10_11) rfl rfl rfl k) ?_
  show Go _ _ _ _ _ _ _ T2 (mkF m 12 #[.val (.ref a), .unset] [(.int (2 : Int32)), (.ref a), (.int (2 : Int32)), (.ref xm)])
  obtain ⟨T3, h3, X3, e3, W3, st3⟩ := putF X2 hx hZ hown (host := "") (Or.inl (hw _ (mI 49 rfl))) Via.refl e2 F_pushes_a_0 E_a_0 (Or.inl (hw _ (mI 50 rfl))) (hw _ (mI 1 rfl)) (ty := .int) (by decide) rfl rfl (g := (mkF m 12 #[.val (.ref a), .unset] [(.int (2 : Int32)), (.ref a), (.int (2 : Int32)), (.ref xm)])) rfl rfl (hb hby d10_12)
  refine Go.step st3 ?_
  have N3 := Fr.snoc X3 N0 ge_a
  have F_pushes_a_3 := F_pushes_a_0.same W3
  have E_a_3 := E_a_0.wr W3
  have F_changedNode_a_3 := F_changedNode_a_0.other W3 (Or.inr (slot_ne (Or.inl (hw _ (mI 11 rfl))) (Or.inl (hw _ (mI 50 rfl))) (by decide) (t := (.array .int)) (t' := .int) (by decide) (by decide)))
  have F_changedLine_a_3 := F_changedLine_a_0.other W3 (Or.inr (slot_ne (Or.inl (hw _ (mI 13 rfl))) (Or.inl (hw _ (mI 50 rfl))) (by decide) (t := (.array .int)) (t' := .int) (by decide) (by decide)))
  have F_base_a_3 := F_base_a_0.other W3 (Or.inr (slot_ne (Or.inr (hw _ (mI 31 rfl))) (Or.inl (hw _ (mI 50 rfl))) (by decide) (t := (.array .double)) (t' := .int) (by decide) (by decide)))
  have F_slope_a_3 := F_slope_a_0.other W3 (Or.inr (slot_ne (Or.inr (hw _ (mI 33 rfl))) (Or.inl (hw _ (mI 50 rfl))) (by decide) (t := (.array .double)) (t' := .int) (by decide) (by decide)))
  have F_origin_a_3 := F_origin_a_0.other W3 (Or.inr (slot_ne (Or.inr (hw _ (mI 35 rfl))) (Or.inl (hw _ (mI 50 rfl))) (by decide) (t := (.array .int)) (t' := .int) (by decide) (by decide)))
  have F_node_a_3 := F_node_a_0.other W3 (Or.inr (slot_ne (Or.inr (hw _ (mI 37 rfl))) (Or.inl (hw _ (mI 50 rfl))) (by decide) (t := (.array .int)) (t' := .int) (by decide) (by decide)))
  have F_pushedAt_a_3 := F_pushedAt_a_0.other W3 (Or.inr (slot_ne (Or.inr (hw _ (mI 39 rfl))) (Or.inl (hw _ (mI 50 rfl))) (by decide) (t := (.array .int)) (t' := .int) (by decide) (by decide)))
  have F_width_a_3 := F_width_a_0.other W3 (Or.inr (slot_ne (Or.inr (hw _ (mI 28 rfl))) (Or.inl (hw _ (mI 50 rfl))) (by decide) (t := .int) (t' := .int) (by decide) (by decide)))
  have F_changes_a_3 := F_changes_a_0.other W3 (Or.inr (slot_ne (Or.inl (hw _ (mI 52 rfl))) (Or.inl (hw _ (mI 50 rfl))) (by decide) (t := .int) (t' := .int) (by decide) (by decide)))
  have V_xn_3 := V_xn_0.other W3 (Ne.symm ne_a_xn)
  have V_xo_3 := V_xo_0.other W3 (Ne.symm ne_a_xo)
  have V_xu_3 := V_xu_0.other W3 (Ne.symm ne_a_xu)
  have V_xv_3 := V_xv_0.other W3 (Ne.symm ne_a_xv)
  have V_xw_3 := V_xw_0.other W3 (Ne.symm ne_a_xw)
  have V_xt_3 := V_xt_0.other W3 (Ne.symm ne_a_xt)
  have V_xm_3 := V_xm_0.other W3 (Ne.symm ne_a_xm)
  have K3 : Keep h0 h3 [a, xn, xo, xu, xv, xw, xt, xm] := (Keep.refl h0 [a, xn, xo, xu, xv, xw, xt, xm]).wr W3 (Or.inl (List.mem_of_getElem? (i := 0) rfl))
  show Go _ _ _ _ _ _ _ T3 (mkF m 15 #[.val (.ref a), .unset] [(.int (2 : Int32)), (.ref xm)])
  refine Go.iaload X3 hx hZ e3 V_xm_3 (j := (2 : Int32)) (v := (Int32.ofNat sg)) (by decide) hM (hb hby d10_15) ?_
  show Go _ _ _ _ _ _ _ T3 (mkF m 16 #[.val (.ref a), .unset] [(.int (Int32.ofNat sg))])
  refine Go.step (fun _ k => XS.istoreN X3.here hx rfl (hb hby d10_16) rfl (l' := #[.val (.ref a), .val (.int (Int32.ofNat sg))]) rfl k) ?_
  show Go _ _ _ _ _ _ _ T3 (mkF m 17 #[.val (.ref a), .val (.int (Int32.ofNat sg))] [])
  refine Go.step (fun _ k => XS.aloadN X3.here hx rfl (hb hby d10_17) rfl rfl k) ?_
  obtain ⟨T4, X4, e4, st4⟩ := getF X3 hx hZ hown (host := "") (Or.inl (hw _ (mI 51 rfl))) Via.refl e3 F_changes_a_3 (g := (mkF m 18 #[.val (.ref a), .val (.int (Int32.ofNat sg))] [(.ref a)])) rfl rfl (hb hby d10_18)
  refine Go.step st4 ?_
  show Go _ _ _ _ _ _ _ T4 (mkF m 21 #[.val (.ref a), .val (.int (Int32.ofNat sg))] [(.int (Int32.ofNat (sg + 2)))])
  refine Go.step (fun _ k => XS.iloadN X4.here hx rfl (hb hby d10_21) rfl k) ?_
  refine Go.step (fun _ k => XS.icmpNo X4.here hx rfl (hb hby d10_22) rfl (tlt (own_ltS (by omega) (by omega) (by omega))).2.2.2 k) ?_
  show Go _ _ _ _ _ _ _ T4 (mkF m 25 #[.val (.ref a), .val (.int (Int32.ofNat sg))] [])
  refine Go.step (fun _ k => XS.aloadN X4.here hx rfl (hb hby d10_25) rfl rfl k) ?_
  refine Go.step (fun _ k => XS.dup X4.here hx rfl (hb hby d10_26) rfl rfl k) ?_
  obtain ⟨T5, X5, e5, st5⟩ := getF X4 hx hZ hown (host := "") (Or.inl (hw _ (mI 51 rfl))) Via.refl e4 F_changes_a_3 (g := (mkF m 27 #[.val (.ref a), .val (.int (Int32.ofNat sg))] [(.ref a), (.ref a)])) rfl rfl (hb hby d10_27)
  refine Go.step st5 ?_
  show Go _ _ _ _ _ _ _ T5 (mkF m 30 #[.val (.ref a), .val (.int (Int32.ofNat sg))] [(.int (Int32.ofNat (sg + 2))), (.ref a)])
  refine Go.step (fun _ k => XS.iconst X5.here hx rfl (hb hby d10_30) k) ?_
  refine Go.step (fun _ k => XS.isub X5.here hx rfl (hb hby d10_31) rfl k) ?_
  show Go _ _ _ _ _ _ _ T5 (mkF m 32 #[.val (.ref a), .val (.int (Int32.ofNat sg))] [(.int ((Int32.ofNat (sg + 2)) - (1 : Int32))), (.ref a)])
  rw [show ((Int32.ofNat (sg + 2)) - (1 : Int32)) = Int32.ofNat (sg + 1) from own_pre (sg + 1)]
  show Go _ _ _ _ _ _ _ T5 (mkF m 32 #[.val (.ref a), .val (.int (Int32.ofNat sg))] [(.int (Int32.ofNat (sg + 1))), (.ref a)])
  obtain ⟨T6, h6, X6, e6, W6, st6⟩ := putF X5 hx hZ hown (host := "") (Or.inl (hw _ (mI 51 rfl))) Via.refl e5 F_changes_a_3 E_a_3 (Or.inl (hw _ (mI 52 rfl))) (hw _ (mI 1 rfl)) (ty := .int) (by decide) rfl rfl (g := (mkF m 32 #[.val (.ref a), .val (.int (Int32.ofNat sg))] [(.int (Int32.ofNat (sg + 1))), (.ref a)])) rfl rfl (hb hby d10_32)
  refine Go.step st6 ?_
  have N6 := Fr.snoc X6 N3 ge_a
  have F_changes_a_6 := F_changes_a_3.same W6
  have E_a_6 := E_a_3.wr W6
  have F_changedNode_a_6 := F_changedNode_a_3.other W6 (Or.inr (slot_ne (Or.inl (hw _ (mI 11 rfl))) (Or.inl (hw _ (mI 52 rfl))) (by decide) (t := (.array .int)) (t' := .int) (by decide) (by decide)))
  have F_changedLine_a_6 := F_changedLine_a_3.other W6 (Or.inr (slot_ne (Or.inl (hw _ (mI 13 rfl))) (Or.inl (hw _ (mI 52 rfl))) (by decide) (t := (.array .int)) (t' := .int) (by decide) (by decide)))
  have F_base_a_6 := F_base_a_3.other W6 (Or.inr (slot_ne (Or.inr (hw _ (mI 31 rfl))) (Or.inl (hw _ (mI 52 rfl))) (by decide) (t := (.array .double)) (t' := .int) (by decide) (by decide)))
  have F_slope_a_6 := F_slope_a_3.other W6 (Or.inr (slot_ne (Or.inr (hw _ (mI 33 rfl))) (Or.inl (hw _ (mI 52 rfl))) (by decide) (t := (.array .double)) (t' := .int) (by decide) (by decide)))
  have F_origin_a_6 := F_origin_a_3.other W6 (Or.inr (slot_ne (Or.inr (hw _ (mI 35 rfl))) (Or.inl (hw _ (mI 52 rfl))) (by decide) (t := (.array .int)) (t' := .int) (by decide) (by decide)))
  have F_node_a_6 := F_node_a_3.other W6 (Or.inr (slot_ne (Or.inr (hw _ (mI 37 rfl))) (Or.inl (hw _ (mI 52 rfl))) (by decide) (t := (.array .int)) (t' := .int) (by decide) (by decide)))
  have F_pushedAt_a_6 := F_pushedAt_a_3.other W6 (Or.inr (slot_ne (Or.inr (hw _ (mI 39 rfl))) (Or.inl (hw _ (mI 52 rfl))) (by decide) (t := (.array .int)) (t' := .int) (by decide) (by decide)))
  have F_width_a_6 := F_width_a_3.other W6 (Or.inr (slot_ne (Or.inr (hw _ (mI 28 rfl))) (Or.inl (hw _ (mI 52 rfl))) (by decide) (t := .int) (t' := .int) (by decide) (by decide)))
  have F_pushes_a_6 := F_pushes_a_3.other W6 (Or.inr (slot_ne (Or.inl (hw _ (mI 50 rfl))) (Or.inl (hw _ (mI 52 rfl))) (by decide) (t := .int) (t' := .int) (by decide) (by decide)))
  have V_xn_6 := V_xn_3.other W6 (Ne.symm ne_a_xn)
  have V_xo_6 := V_xo_3.other W6 (Ne.symm ne_a_xo)
  have V_xu_6 := V_xu_3.other W6 (Ne.symm ne_a_xu)
  have V_xv_6 := V_xv_3.other W6 (Ne.symm ne_a_xv)
  have V_xw_6 := V_xw_3.other W6 (Ne.symm ne_a_xw)
  have V_xt_6 := V_xt_3.other W6 (Ne.symm ne_a_xt)
  have V_xm_6 := V_xm_3.other W6 (Ne.symm ne_a_xm)
  have K6 : Keep h0 h6 [a, xn, xo, xu, xv, xw, xt, xm] := K3.wr W6 (Or.inl (List.mem_of_getElem? (i := 0) rfl))
  show Go _ _ _ _ _ _ _ T6 (mkF m 35 #[.val (.ref a), .val (.int (Int32.ofNat sg))] [])
  refine Go.step (fun _ k => XS.aloadN X6.here hx rfl (hb hby d10_35) rfl rfl k) ?_
  obtain ⟨T7, X7, e7, st7⟩ := getF X6 hx hZ hown (host := "") (Or.inl (hw _ (mI 36 rfl))) Via.refl e6 F_node_a_6 (g := (mkF m 36 #[.val (.ref a), .val (.int (Int32.ofNat sg))] [(.ref a)])) rfl rfl (hb hby d10_36)
  refine Go.step st7 ?_
  show Go _ _ _ _ _ _ _ T7 (mkF m 39 #[.val (.ref a), .val (.int (Int32.ofNat sg))] [(.ref xt)])
  refine Go.step (fun _ k => XS.aloadN X7.here hx rfl (hb hby d10_39) rfl rfl k) ?_
  obtain ⟨T8, X8, e8, st8⟩ := getF X7 hx hZ hown (host := "") (Or.inl (hw _ (mI 10 rfl))) Via.refl e7 F_changedNode_a_6 (g := (mkF m 40 #[.val (.ref a), .val (.int (Int32.ofNat sg))] [(.ref a), (.ref xt)])) rfl rfl (hb hby d10_40)
  refine Go.step st8 ?_
  show Go _ _ _ _ _ _ _ T8 (mkF m 43 #[.val (.ref a), .val (.int (Int32.ofNat sg))] [(.ref xn), (.ref xt)])
  refine Go.step (fun _ k => XS.aloadN X8.here hx rfl (hb hby d10_43) rfl rfl k) ?_
  obtain ⟨T9, X9, e9, st9⟩ := getF X8 hx hZ hown (host := "") (Or.inl (hw _ (mI 51 rfl))) Via.refl e8 F_changes_a_6 (g := (mkF m 44 #[.val (.ref a), .val (.int (Int32.ofNat sg))] [(.ref a), (.ref xn), (.ref xt)])) rfl rfl (hb hby d10_44)
  refine Go.step st9 ?_
  show Go _ _ _ _ _ _ _ T9 (mkF m 47 #[.val (.ref a), .val (.int (Int32.ofNat sg))] [(.int (Int32.ofNat (sg + 1))), (.ref xn), (.ref xt)])
  refine Go.iaload X9 hx hZ e9 V_xn_6 (j := (Int32.ofNat (sg + 1))) (v := (fN (sg + 1))) (own_b64 (by omega)) (by rw [own_nat (by omega)]) (hb hby d10_47) ?_
  show Go _ _ _ _ _ _ _ T9 (mkF m 48 #[.val (.ref a), .val (.int (Int32.ofNat sg))] [(.int (fN (sg + 1))), (.ref xt)])
  refine Go.step (fun _ k => XS.aloadN X9.here hx rfl (hb hby d10_48) rfl rfl k) ?_
  obtain ⟨T10, X10, e10, st10⟩ := getF X9 hx hZ hown (host := "") (Or.inl (hw _ (mI 12 rfl))) Via.refl e9 F_changedLine_a_6 (g := (mkF m 49 #[.val (.ref a), .val (.int (Int32.ofNat sg))] [(.ref a), (.int (fN (sg + 1))), (.ref xt)])) rfl rfl (hb hby d10_49)
  refine Go.step st10 ?_
  show Go _ _ _ _ _ _ _ T10 (mkF m 52 #[.val (.ref a), .val (.int (Int32.ofNat sg))] [(.ref xo), (.int (fN (sg + 1))), (.ref xt)])
  refine Go.step (fun _ k => XS.aloadN X10.here hx rfl (hb hby d10_52) rfl rfl k) ?_
  obtain ⟨T11, X11, e11, st11⟩ := getF X10 hx hZ hown (host := "") (Or.inl (hw _ (mI 51 rfl))) Via.refl e10 F_changes_a_6 (g := (mkF m 53 #[.val (.ref a), .val (.int (Int32.ofNat sg))] [(.ref a), (.ref xo), (.int (fN (sg + 1))), (.ref xt)])) rfl rfl (hb hby d10_53)
  refine Go.step st11 ?_
  show Go _ _ _ _ _ _ _ T11 (mkF m 56 #[.val (.ref a), .val (.int (Int32.ofNat sg))] [(.int (Int32.ofNat (sg + 1))), (.ref xo), (.int (fN (sg + 1))), (.ref xt)])
  refine Go.iaload X11 hx hZ e11 V_xo_6 (j := (Int32.ofNat (sg + 1))) (v := (fO (sg + 1))) (own_b64 (by omega)) (by rw [own_nat (by omega)]) (hb hby d10_56) ?_
  show Go _ _ _ _ _ _ _ T11 (mkF m 57 #[.val (.ref a), .val (.int (Int32.ofNat sg))] [(.int (fO (sg + 1))), (.int (fN (sg + 1))), (.ref xt)])
  refine Go.iastore X11 hx hZ e11 V_xt_6 (j := (fN (sg + 1))) (x := (fO (sg + 1))) hb1 (hb hby d10_57) ?_
  intro T12 h12 X12 e12 W12 Vn12
  have V_xt_12 : Iv Z h12 xt (8 : Int32) (updN fT ((fN (sg + 1))).toNatClampNeg (fO (sg + 1))) := Vn12
  have N12 := Fr.snoc X12 N6 ge_xt
  have E_a_12 := E_a_6.wr W12
  have F_changedNode_a_12 := F_changedNode_a_6.other W12 (Or.inl ne_a_xt)
  have F_changedLine_a_12 := F_changedLine_a_6.other W12 (Or.inl ne_a_xt)
  have F_base_a_12 := F_base_a_6.other W12 (Or.inl ne_a_xt)
  have F_slope_a_12 := F_slope_a_6.other W12 (Or.inl ne_a_xt)
  have F_origin_a_12 := F_origin_a_6.other W12 (Or.inl ne_a_xt)
  have F_node_a_12 := F_node_a_6.other W12 (Or.inl ne_a_xt)
  have F_pushedAt_a_12 := F_pushedAt_a_6.other W12 (Or.inl ne_a_xt)
  have F_width_a_12 := F_width_a_6.other W12 (Or.inl ne_a_xt)
  have F_pushes_a_12 := F_pushes_a_6.other W12 (Or.inl ne_a_xt)
  have F_changes_a_12 := F_changes_a_6.other W12 (Or.inl ne_a_xt)
  have V_xn_12 := V_xn_6.other W12 ne_xn_xt
  have V_xo_12 := V_xo_6.other W12 ne_xo_xt
  have V_xu_12 := V_xu_6.other W12 ne_xu_xt
  have V_xv_12 := V_xv_6.other W12 ne_xv_xt
  have V_xw_12 := V_xw_6.other W12 ne_xw_xt
  have V_xm_12 := V_xm_6.other W12 (Ne.symm ne_xt_xm)
  have K12 : Keep h0 h12 [a, xn, xo, xu, xv, xw, xt, xm] := K6.wr W12 (Or.inl (List.mem_of_getElem? (i := 6) rfl))
  show Go _ _ _ _ _ _ _ T12 (mkF m 58 #[.val (.ref a), .val (.int (Int32.ofNat sg))] [])
  refine Go.step (fun _ k => XS.goto X12.here hx rfl (pc0 := 58) (pc' := 17) rfl (hb hby d10_58) (by decide) (by decide) k) ?_
  show Go _ _ _ _ _ _ _ T12 (mkF m 17 #[.val (.ref a), .val (.int (Int32.ofNat sg))] [])
  refine Go.step (fun _ k => XS.aloadN X12.here hx rfl (hb hby d10_17) rfl rfl k) ?_
  obtain ⟨T13, X13, e13, st13⟩ := getF X12 hx hZ hown (host := "") (Or.inl (hw _ (mI 51 rfl))) Via.refl e12 F_changes_a_12 (g := (mkF m 18 #[.val (.ref a), .val (.int (Int32.ofNat sg))] [(.ref a)])) rfl rfl (hb hby d10_18)
  refine Go.step st13 ?_
  show Go _ _ _ _ _ _ _ T13 (mkF m 21 #[.val (.ref a), .val (.int (Int32.ofNat sg))] [(.int (Int32.ofNat (sg + 1)))])
  refine Go.step (fun _ k => XS.iloadN X13.here hx rfl (hb hby d10_21) rfl k) ?_
  refine Go.step (fun _ k => XS.icmpNo X13.here hx rfl (hb hby d10_22) rfl (tlt (own_ltS (by omega) (by omega) (by omega))).2.2.2 k) ?_
  show Go _ _ _ _ _ _ _ T13 (mkF m 25 #[.val (.ref a), .val (.int (Int32.ofNat sg))] [])
  refine Go.step (fun _ k => XS.aloadN X13.here hx rfl (hb hby d10_25) rfl rfl k) ?_
  refine Go.step (fun _ k => XS.dup X13.here hx rfl (hb hby d10_26) rfl rfl k) ?_
  obtain ⟨T14, X14, e14, st14⟩ := getF X13 hx hZ hown (host := "") (Or.inl (hw _ (mI 51 rfl))) Via.refl e13 F_changes_a_12 (g := (mkF m 27 #[.val (.ref a), .val (.int (Int32.ofNat sg))] [(.ref a), (.ref a)])) rfl rfl (hb hby d10_27)
  refine Go.step st14 ?_
  show Go _ _ _ _ _ _ _ T14 (mkF m 30 #[.val (.ref a), .val (.int (Int32.ofNat sg))] [(.int (Int32.ofNat (sg + 1))), (.ref a)])
  refine Go.step (fun _ k => XS.iconst X14.here hx rfl (hb hby d10_30) k) ?_
  refine Go.step (fun _ k => XS.isub X14.here hx rfl (hb hby d10_31) rfl k) ?_
  show Go _ _ _ _ _ _ _ T14 (mkF m 32 #[.val (.ref a), .val (.int (Int32.ofNat sg))] [(.int ((Int32.ofNat (sg + 1)) - (1 : Int32))), (.ref a)])
  rw [show ((Int32.ofNat (sg + 1)) - (1 : Int32)) = Int32.ofNat sg from own_pre sg]
  show Go _ _ _ _ _ _ _ T14 (mkF m 32 #[.val (.ref a), .val (.int (Int32.ofNat sg))] [(.int (Int32.ofNat sg)), (.ref a)])
  obtain ⟨T15, h15, X15, e15, W15, st15⟩ := putF X14 hx hZ hown (host := "") (Or.inl (hw _ (mI 51 rfl))) Via.refl e14 F_changes_a_12 E_a_12 (Or.inl (hw _ (mI 52 rfl))) (hw _ (mI 1 rfl)) (ty := .int) (by decide) rfl rfl (g := (mkF m 32 #[.val (.ref a), .val (.int (Int32.ofNat sg))] [(.int (Int32.ofNat sg)), (.ref a)])) rfl rfl (hb hby d10_32)
  refine Go.step st15 ?_
  have N15 := Fr.snoc X15 N12 ge_a
  have F_changes_a_15 := F_changes_a_12.same W15
  have E_a_15 := E_a_12.wr W15
  have F_changedNode_a_15 := F_changedNode_a_12.other W15 (Or.inr (slot_ne (Or.inl (hw _ (mI 11 rfl))) (Or.inl (hw _ (mI 52 rfl))) (by decide) (t := (.array .int)) (t' := .int) (by decide) (by decide)))
  have F_changedLine_a_15 := F_changedLine_a_12.other W15 (Or.inr (slot_ne (Or.inl (hw _ (mI 13 rfl))) (Or.inl (hw _ (mI 52 rfl))) (by decide) (t := (.array .int)) (t' := .int) (by decide) (by decide)))
  have F_base_a_15 := F_base_a_12.other W15 (Or.inr (slot_ne (Or.inr (hw _ (mI 31 rfl))) (Or.inl (hw _ (mI 52 rfl))) (by decide) (t := (.array .double)) (t' := .int) (by decide) (by decide)))
  have F_slope_a_15 := F_slope_a_12.other W15 (Or.inr (slot_ne (Or.inr (hw _ (mI 33 rfl))) (Or.inl (hw _ (mI 52 rfl))) (by decide) (t := (.array .double)) (t' := .int) (by decide) (by decide)))
  have F_origin_a_15 := F_origin_a_12.other W15 (Or.inr (slot_ne (Or.inr (hw _ (mI 35 rfl))) (Or.inl (hw _ (mI 52 rfl))) (by decide) (t := (.array .int)) (t' := .int) (by decide) (by decide)))
  have F_node_a_15 := F_node_a_12.other W15 (Or.inr (slot_ne (Or.inr (hw _ (mI 37 rfl))) (Or.inl (hw _ (mI 52 rfl))) (by decide) (t := (.array .int)) (t' := .int) (by decide) (by decide)))
  have F_pushedAt_a_15 := F_pushedAt_a_12.other W15 (Or.inr (slot_ne (Or.inr (hw _ (mI 39 rfl))) (Or.inl (hw _ (mI 52 rfl))) (by decide) (t := (.array .int)) (t' := .int) (by decide) (by decide)))
  have F_width_a_15 := F_width_a_12.other W15 (Or.inr (slot_ne (Or.inr (hw _ (mI 28 rfl))) (Or.inl (hw _ (mI 52 rfl))) (by decide) (t := .int) (t' := .int) (by decide) (by decide)))
  have F_pushes_a_15 := F_pushes_a_12.other W15 (Or.inr (slot_ne (Or.inl (hw _ (mI 50 rfl))) (Or.inl (hw _ (mI 52 rfl))) (by decide) (t := .int) (t' := .int) (by decide) (by decide)))
  have V_xn_15 := V_xn_12.other W15 (Ne.symm ne_a_xn)
  have V_xo_15 := V_xo_12.other W15 (Ne.symm ne_a_xo)
  have V_xu_15 := V_xu_12.other W15 (Ne.symm ne_a_xu)
  have V_xv_15 := V_xv_12.other W15 (Ne.symm ne_a_xv)
  have V_xw_15 := V_xw_12.other W15 (Ne.symm ne_a_xw)
  have V_xt_15 := V_xt_12.other W15 (Ne.symm ne_a_xt)
  have V_xm_15 := V_xm_12.other W15 (Ne.symm ne_a_xm)
  have K15 : Keep h0 h15 [a, xn, xo, xu, xv, xw, xt, xm] := K12.wr W15 (Or.inl (List.mem_of_getElem? (i := 0) rfl))
  show Go _ _ _ _ _ _ _ T15 (mkF m 35 #[.val (.ref a), .val (.int (Int32.ofNat sg))] [])
  refine Go.step (fun _ k => XS.aloadN X15.here hx rfl (hb hby d10_35) rfl rfl k) ?_
  obtain ⟨T16, X16, e16, st16⟩ := getF X15 hx hZ hown (host := "") (Or.inl (hw _ (mI 36 rfl))) Via.refl e15 F_node_a_15 (g := (mkF m 36 #[.val (.ref a), .val (.int (Int32.ofNat sg))] [(.ref a)])) rfl rfl (hb hby d10_36)
  refine Go.step st16 ?_
  show Go _ _ _ _ _ _ _ T16 (mkF m 39 #[.val (.ref a), .val (.int (Int32.ofNat sg))] [(.ref xt)])
  refine Go.step (fun _ k => XS.aloadN X16.here hx rfl (hb hby d10_39) rfl rfl k) ?_
  obtain ⟨T17, X17, e17, st17⟩ := getF X16 hx hZ hown (host := "") (Or.inl (hw _ (mI 10 rfl))) Via.refl e16 F_changedNode_a_15 (g := (mkF m 40 #[.val (.ref a), .val (.int (Int32.ofNat sg))] [(.ref a), (.ref xt)])) rfl rfl (hb hby d10_40)
  refine Go.step st17 ?_
  show Go _ _ _ _ _ _ _ T17 (mkF m 43 #[.val (.ref a), .val (.int (Int32.ofNat sg))] [(.ref xn), (.ref xt)])
  refine Go.step (fun _ k => XS.aloadN X17.here hx rfl (hb hby d10_43) rfl rfl k) ?_
  obtain ⟨T18, X18, e18, st18⟩ := getF X17 hx hZ hown (host := "") (Or.inl (hw _ (mI 51 rfl))) Via.refl e17 F_changes_a_15 (g := (mkF m 44 #[.val (.ref a), .val (.int (Int32.ofNat sg))] [(.ref a), (.ref xn), (.ref xt)])) rfl rfl (hb hby d10_44)
  refine Go.step st18 ?_
  show Go _ _ _ _ _ _ _ T18 (mkF m 47 #[.val (.ref a), .val (.int (Int32.ofNat sg))] [(.int (Int32.ofNat sg)), (.ref xn), (.ref xt)])
  refine Go.iaload X18 hx hZ e18 V_xn_15 (j := (Int32.ofNat sg)) (v := (fN sg)) (own_b64 (by omega)) (by rw [own_nat (by omega)]) (hb hby d10_47) ?_
  show Go _ _ _ _ _ _ _ T18 (mkF m 48 #[.val (.ref a), .val (.int (Int32.ofNat sg))] [(.int (fN sg)), (.ref xt)])
  refine Go.step (fun _ k => XS.aloadN X18.here hx rfl (hb hby d10_48) rfl rfl k) ?_
  obtain ⟨T19, X19, e19, st19⟩ := getF X18 hx hZ hown (host := "") (Or.inl (hw _ (mI 12 rfl))) Via.refl e18 F_changedLine_a_15 (g := (mkF m 49 #[.val (.ref a), .val (.int (Int32.ofNat sg))] [(.ref a), (.int (fN sg)), (.ref xt)])) rfl rfl (hb hby d10_49)
  refine Go.step st19 ?_
  show Go _ _ _ _ _ _ _ T19 (mkF m 52 #[.val (.ref a), .val (.int (Int32.ofNat sg))] [(.ref xo), (.int (fN sg)), (.ref xt)])
  refine Go.step (fun _ k => XS.aloadN X19.here hx rfl (hb hby d10_52) rfl rfl k) ?_
  obtain ⟨T20, X20, e20, st20⟩ := getF X19 hx hZ hown (host := "") (Or.inl (hw _ (mI 51 rfl))) Via.refl e19 F_changes_a_15 (g := (mkF m 53 #[.val (.ref a), .val (.int (Int32.ofNat sg))] [(.ref a), (.ref xo), (.int (fN sg)), (.ref xt)])) rfl rfl (hb hby d10_53)
  refine Go.step st20 ?_
  show Go _ _ _ _ _ _ _ T20 (mkF m 56 #[.val (.ref a), .val (.int (Int32.ofNat sg))] [(.int (Int32.ofNat sg)), (.ref xo), (.int (fN sg)), (.ref xt)])
  refine Go.iaload X20 hx hZ e20 V_xo_15 (j := (Int32.ofNat sg)) (v := (fO sg)) (own_b64 (by omega)) (by rw [own_nat (by omega)]) (hb hby d10_56) ?_
  show Go _ _ _ _ _ _ _ T20 (mkF m 57 #[.val (.ref a), .val (.int (Int32.ofNat sg))] [(.int (fO sg)), (.int (fN sg)), (.ref xt)])
  refine Go.iastore X20 hx hZ e20 V_xt_15 (j := (fN sg)) (x := (fO sg)) hb0 (hb hby d10_57) ?_
  intro T21 h21 X21 e21 W21 Vn21
  have V_xt_21 : Iv Z h21 xt (8 : Int32) (updN (updN fT ((fN (sg + 1))).toNatClampNeg (fO (sg + 1))) ((fN sg)).toNatClampNeg (fO sg)) := Vn21
  have N21 := Fr.snoc X21 N15 ge_xt
  have E_a_21 := E_a_15.wr W21
  have F_changedNode_a_21 := F_changedNode_a_15.other W21 (Or.inl ne_a_xt)
  have F_changedLine_a_21 := F_changedLine_a_15.other W21 (Or.inl ne_a_xt)
  have F_base_a_21 := F_base_a_15.other W21 (Or.inl ne_a_xt)
  have F_slope_a_21 := F_slope_a_15.other W21 (Or.inl ne_a_xt)
  have F_origin_a_21 := F_origin_a_15.other W21 (Or.inl ne_a_xt)
  have F_node_a_21 := F_node_a_15.other W21 (Or.inl ne_a_xt)
  have F_pushedAt_a_21 := F_pushedAt_a_15.other W21 (Or.inl ne_a_xt)
  have F_width_a_21 := F_width_a_15.other W21 (Or.inl ne_a_xt)
  have F_pushes_a_21 := F_pushes_a_15.other W21 (Or.inl ne_a_xt)
  have F_changes_a_21 := F_changes_a_15.other W21 (Or.inl ne_a_xt)
  have V_xn_21 := V_xn_15.other W21 ne_xn_xt
  have V_xo_21 := V_xo_15.other W21 ne_xo_xt
  have V_xu_21 := V_xu_15.other W21 ne_xu_xt
  have V_xv_21 := V_xv_15.other W21 ne_xv_xt
  have V_xw_21 := V_xw_15.other W21 ne_xw_xt
  have V_xm_21 := V_xm_15.other W21 (Ne.symm ne_xt_xm)
  have K21 : Keep h0 h21 [a, xn, xo, xu, xv, xw, xt, xm] := K15.wr W21 (Or.inl (List.mem_of_getElem? (i := 6) rfl))
  show Go _ _ _ _ _ _ _ T21 (mkF m 58 #[.val (.ref a), .val (.int (Int32.ofNat sg))] [])
  refine Go.step (fun _ k => XS.goto X21.here hx rfl (pc0 := 58) (pc' := 17) rfl (hb hby d10_58) (by decide) (by decide) k) ?_
  show Go _ _ _ _ _ _ _ T21 (mkF m 17 #[.val (.ref a), .val (.int (Int32.ofNat sg))] [])
  refine Go.step (fun _ k => XS.aloadN X21.here hx rfl (hb hby d10_17) rfl rfl k) ?_
  obtain ⟨T22, X22, e22, st22⟩ := getF X21 hx hZ hown (host := "") (Or.inl (hw _ (mI 51 rfl))) Via.refl e21 F_changes_a_21 (g := (mkF m 18 #[.val (.ref a), .val (.int (Int32.ofNat sg))] [(.ref a)])) rfl rfl (hb hby d10_18)
  refine Go.step st22 ?_
  show Go _ _ _ _ _ _ _ T22 (mkF m 21 #[.val (.ref a), .val (.int (Int32.ofNat sg))] [(.int (Int32.ofNat sg))])
  refine Go.step (fun _ k => XS.iloadN X22.here hx rfl (hb hby d10_21) rfl k) ?_
  refine Go.step (fun _ k => XS.icmpYes X22.here hx rfl (pc0 := 22) (pc' := 61) rfl (hb hby d10_22) rfl (flt (own_nlt sg)).2.2.2 (by decide) (by decide) k) ?_
  show Go _ _ _ _ _ _ _ T22 (mkF m 61 #[.val (.ref a), .val (.int (Int32.ofNat sg))] [])
  refine Go.retV X22 hx hlk hret (hb hby d10_61) (by decide) (by decide) ?_
  try rw [e22]
  have w1 : Iv Z h21 xt (8 : Int32) tT := by rw [← hU]; exact V_xt_21
  exact ⟨rfl, N21, K21, ⟨E_a_21, F_changedNode_a_21, F_changedLine_a_21, F_base_a_21, F_slope_a_21, F_origin_a_21, F_node_a_21, F_pushedAt_a_21, F_width_a_21, F_pushes_a_21, F_changes_a_21, V_xn_21, V_xo_21, V_xu_21, V_xv_21, V_xw_21, w1, V_xm_21⟩⟩
theorem ef_rm10_32 (m : MethodId) (a : Addr) : entryFrame m #[(.ref a)] 2 = mkF m 0 #[.val (.ref a), .unset] [] := by first | (simp [entryFrame, mkF, argsToLocals, Value.category]; done) | rfl
theorem rm10_32 (l : Launch) (Z : State) (a0 : Array Value) (hw : ∀ d ∈ tables_1, d.before a0 Z = true) (a xn xo xu xv xw xt xm : Addr) (fP fQ fC fT fM fN fO : Nat → Int32) (tT tN tO : Nat → Int32) (sg : Nat) (h0 : Heap) (n0 : Nat) (Z0 : n0 ≤ h0.size) (hL : LEs Z h0 a xn xo xu xv xw xt xm fP fQ fC fT fM fN fO 3 (sg + 2)) (hD : Dst n0 a xn xo xu xv xw xt xm) (hG : Good tT tN tO sg fT fN fO 2) (hM : fM 2 = Int32.ofNat sg) (hsg : sg ≤ 10) :
    Con l Z (⟨"com/example/headroom/headroom/LowerEnvelope", "pop", "()V"⟩ : MethodName) prog_15_method_3_code 2 none ({ frames := 0, cells := 0, slots := 0, locals := 0 } : Room) #[(.ref a)] h0 (fun r h L => r = none ∧ Fr n0 L ∧ Keep h0 h [a, xn, xo, xu, xv, xw, xt, xm] ∧ LEs Z h a xn xo xu xv xw xt xm fP fQ fC tT fM fN fO 2 sg) :=
  con_of (plainFor_of_name pn_9) (fun p_ e_ s_ m_ b_ meth_ c_ T_ X_ hx hZ hby hml hown hnm hret hlk e0 => Go.cast (ef_rm10_32 m_ a) (w10_32 a xn xo xu xv xw xt xm fP fQ fC fT fM fN fO tT tN tO sg X_ hx hZ hw hby hml hown hnm hret hlk e0 Z0 (Fr.nil n0) hL hD hG hM hsg))
set_option maxRecDepth 65536 in
set_option maxHeartbeats 40000000 in
theorem w10_33 {p : Program} {l : Launch} {e : Env} {s : State} {m : MethodId} {args : Array Value} {below : List Frame} {meth : Method} {c_ : Code} {T0 : State} {locs : List Loc} {Z : State} {a0 : Array Value} {h0 : Heap} {n0 : Nat} (a xn xo xu xv xw xt xm : Addr) (fP fQ fC fT fM fN fO : Nat → Int32) (tT tN tO : Nat → Int32) (sg : Nat)
    (X0 : Stand p l e ({ frames := 0, cells := 0, slots := 0, locals := 0 } : Room) s m args below meth c_ T0 locs 0 0) (hx : p.tables.exec = Jvm.exec) (hZ : Z.Warmed39 s.vm) (hw : ∀ d ∈ tables_1, d.before a0 Z = true) (hby : c_.code = prog_15_method_3_code) (hml : c_.maxLocals = 2) (hown : s.vm.findClass "com/example/headroom/headroom/LowerEnvelope" = some m.cls) (hnm : meth.name = "pop") (hret : meth.sig.returnType = none) (hlk : meth.locks = false) (e0 : T0.heap = h0) (Z0 : n0 ≤ h0.size) (N0 : Fr n0 locs) (hL : LEs Z h0 a xn xo xu xv xw xt xm fP fQ fC fT fM fN fO 3 (sg + 3)) (hD : Dst n0 a xn xo xu xv xw xt xm) (hG : Good tT tN tO sg fT fN fO 3) (hM : fM 2 = Int32.ofNat sg) (hsg : sg ≤ 10) :
    Go p e below s ({ frames := 0, cells := 0, slots := 0, locals := 0 } : Room).cells ({ frames := 0, cells := 0, slots := 0, locals := 0 } : Room).slots (fun r h L => r = none ∧ Fr n0 L ∧ Keep h0 h [a, xn, xo, xu, xv, xw, xt, xm] ∧ LEs Z h a xn xo xu xv xw xt xm fP fQ fC tT fM fN fO 2 sg) T0 (mkF m 0 #[.val (.ref a), .unset] []) := by
  have hDq := hD
  obtain ⟨ne_a_xn, ne_a_xo, ne_a_xu, ne_a_xv, ne_a_xw, ne_a_xt, ne_a_xm, ne_xn_xo, ne_xn_xu, ne_xn_xv, ne_xn_xw, ne_xn_xt, ne_xn_xm, ne_xo_xu, ne_xo_xv, ne_xo_xw, ne_xo_xt, ne_xo_xm, ne_xu_xv, ne_xu_xw, ne_xu_xt, ne_xu_xm, ne_xv_xw, ne_xv_xt, ne_xv_xm, ne_xw_xt, ne_xw_xm, ne_xt_xm, ge_a, ge_xn, ge_xo, ge_xu, ge_xv, ge_xw, ge_xt, ge_xm⟩ := hDq
  obtain ⟨E_a_0, F_changedNode_a_0, F_changedLine_a_0, F_base_a_0, F_slope_a_0, F_origin_a_0, F_node_a_0, F_pushedAt_a_0, F_width_a_0, F_pushes_a_0, F_changes_a_0, V_xn_0, V_xo_0, V_xu_0, V_xv_0, V_xw_0, V_xt_0, V_xm_0⟩ := hL
  obtain ⟨hb2, hb1, hb0, hU⟩ := hG.1
  show Go _ _ _ _ _ _ _ T0 (mkF m 0 #[.val (.ref a), .unset] [])
  refine Go.step (fun _ k => XS.aloadN X0.here hx rfl (hb hby d10_0) rfl rfl k) ?_
  obtain ⟨T1, X1, e1, st1⟩ := getF X0 hx hZ hown (host := "") (Or.inl (hw _ (mI 38 rfl))) Via.refl e0 F_pushedAt_a_0 (g := (mkF m 1 #[.val (.ref a), .unset] [(.ref a)])) rfl rfl (hb hby d10_1)
  refine Go.step st1 ?_
  show Go _ _ _ _ _ _ _ T1 (mkF m 4 #[.val (.ref a), .unset] [(.ref xm)])
  refine Go.step (fun _ k => XS.aloadN X1.here hx rfl (hb hby d10_4) rfl rfl k) ?_
  refine Go.step (fun _ k => XS.dup X1.here hx rfl (hb hby d10_5) rfl rfl k) ?_
  obtain ⟨T2, X2, e2, st2⟩ := getF X1 hx hZ hown (host := "") (Or.inl (hw _ (mI 49 rfl))) Via.refl e1 F_pushes_a_0 (g := (mkF m 6 #[.val (.ref a), .unset] [(.ref a), (.ref a), (.ref xm)])) rfl rfl (hb hby d10_6)
  refine Go.step st2 ?_
  show Go _ _ _ _ _ _ _ T2 (mkF m 9 #[.val (.ref a), .unset] [(.int (3 : Int32)), (.ref a), (.ref xm)])
  refine Go.step (fun _ k => XS.iconst X2.here hx rfl (hb hby d10_9) k) ?_
  refine Go.step (fun _ k => XS.isub X2.here hx rfl (hb hby d10_10) rfl k) ?_
  show Go _ _ _ _ _ _ _ T2 (mkF m 11 #[.val (.ref a), .unset] [(.int (2 : Int32)), (.ref a), (.ref xm)])
  refine Go.step (fun _ k => XS.dupX1 X2.here hx rfl (hb hby d10_11) rfl rfl rfl k) ?_
  show Go _ _ _ _ _ _ _ T2 (mkF m 12 #[.val (.ref a), .unset] [(.int (2 : Int32)), (.ref a), (.int (2 : Int32)), (.ref xm)])
  obtain ⟨T3, h3, X3, e3, W3, st3⟩ := putF X2 hx hZ hown (host := "") (Or.inl (hw _ (mI 49 rfl))) Via.refl e2 F_pushes_a_0 E_a_0 (Or.inl (hw _ (mI 50 rfl))) (hw _ (mI 1 rfl)) (ty := .int) (by decide) rfl rfl (g := (mkF m 12 #[.val (.ref a), .unset] [(.int (2 : Int32)), (.ref a), (.int (2 : Int32)), (.ref xm)])) rfl rfl (hb hby d10_12)
  refine Go.step st3 ?_
  have N3 := Fr.snoc X3 N0 ge_a
  have F_pushes_a_3 := F_pushes_a_0.same W3
  have E_a_3 := E_a_0.wr W3
  have F_changedNode_a_3 := F_changedNode_a_0.other W3 (Or.inr (slot_ne (Or.inl (hw _ (mI 11 rfl))) (Or.inl (hw _ (mI 50 rfl))) (by decide) (t := (.array .int)) (t' := .int) (by decide) (by decide)))
  have F_changedLine_a_3 := F_changedLine_a_0.other W3 (Or.inr (slot_ne (Or.inl (hw _ (mI 13 rfl))) (Or.inl (hw _ (mI 50 rfl))) (by decide) (t := (.array .int)) (t' := .int) (by decide) (by decide)))
  have F_base_a_3 := F_base_a_0.other W3 (Or.inr (slot_ne (Or.inr (hw _ (mI 31 rfl))) (Or.inl (hw _ (mI 50 rfl))) (by decide) (t := (.array .double)) (t' := .int) (by decide) (by decide)))
  have F_slope_a_3 := F_slope_a_0.other W3 (Or.inr (slot_ne (Or.inr (hw _ (mI 33 rfl))) (Or.inl (hw _ (mI 50 rfl))) (by decide) (t := (.array .double)) (t' := .int) (by decide) (by decide)))
  have F_origin_a_3 := F_origin_a_0.other W3 (Or.inr (slot_ne (Or.inr (hw _ (mI 35 rfl))) (Or.inl (hw _ (mI 50 rfl))) (by decide) (t := (.array .int)) (t' := .int) (by decide) (by decide)))
  have F_node_a_3 := F_node_a_0.other W3 (Or.inr (slot_ne (Or.inr (hw _ (mI 37 rfl))) (Or.inl (hw _ (mI 50 rfl))) (by decide) (t := (.array .int)) (t' := .int) (by decide) (by decide)))
  have F_pushedAt_a_3 := F_pushedAt_a_0.other W3 (Or.inr (slot_ne (Or.inr (hw _ (mI 39 rfl))) (Or.inl (hw _ (mI 50 rfl))) (by decide) (t := (.array .int)) (t' := .int) (by decide) (by decide)))
  have F_width_a_3 := F_width_a_0.other W3 (Or.inr (slot_ne (Or.inr (hw _ (mI 28 rfl))) (Or.inl (hw _ (mI 50 rfl))) (by decide) (t := .int) (t' := .int) (by decide) (by decide)))
  have F_changes_a_3 := F_changes_a_0.other W3 (Or.inr (slot_ne (Or.inl (hw _ (mI 52 rfl))) (Or.inl (hw _ (mI 50 rfl))) (by decide) (t := .int) (t' := .int) (by decide) (by decide)))
  have V_xn_3 := V_xn_0.other W3 (Ne.symm ne_a_xn)
  have V_xo_3 := V_xo_0.other W3 (Ne.symm ne_a_xo)
  have V_xu_3 := V_xu_0.other W3 (Ne.symm ne_a_xu)
  have V_xv_3 := V_xv_0.other W3 (Ne.symm ne_a_xv)
  have V_xw_3 := V_xw_0.other W3 (Ne.symm ne_a_xw)
  have V_xt_3 := V_xt_0.other W3 (Ne.symm ne_a_xt)
  have V_xm_3 := V_xm_0.other W3 (Ne.symm ne_a_xm)
  have K3 : Keep h0 h3 [a, xn, xo, xu, xv, xw, xt, xm] := (Keep.refl h0 [a, xn, xo, xu, xv, xw, xt, xm]).wr W3 (Or.inl (List.mem_of_getElem? (i := 0) rfl))
  show Go _ _ _ _ _ _ _ T3 (mkF m 15 #[.val (.ref a), .unset] [(.int (2 : Int32)), (.ref xm)])
  refine Go.iaload X3 hx hZ e3 V_xm_3 (j := (2 : Int32)) (v := (Int32.ofNat sg)) (by decide) hM (hb hby d10_15) ?_
  show Go _ _ _ _ _ _ _ T3 (mkF m 16 #[.val (.ref a), .unset] [(.int (Int32.ofNat sg))])
  refine Go.step (fun _ k => XS.istoreN X3.here hx rfl (hb hby d10_16) rfl (l' := #[.val (.ref a), .val (.int (Int32.ofNat sg))]) rfl k) ?_
  show Go _ _ _ _ _ _ _ T3 (mkF m 17 #[.val (.ref a), .val (.int (Int32.ofNat sg))] [])
  refine Go.step (fun _ k => XS.aloadN X3.here hx rfl (hb hby d10_17) rfl rfl k) ?_
  obtain ⟨T4, X4, e4, st4⟩ := getF X3 hx hZ hown (host := "") (Or.inl (hw _ (mI 51 rfl))) Via.refl e3 F_changes_a_3 (g := (mkF m 18 #[.val (.ref a), .val (.int (Int32.ofNat sg))] [(.ref a)])) rfl rfl (hb hby d10_18)
  refine Go.step st4 ?_
  show Go _ _ _ _ _ _ _ T4 (mkF m 21 #[.val (.ref a), .val (.int (Int32.ofNat sg))] [(.int (Int32.ofNat (sg + 3)))])
  refine Go.step (fun _ k => XS.iloadN X4.here hx rfl (hb hby d10_21) rfl k) ?_
  refine Go.step (fun _ k => XS.icmpNo X4.here hx rfl (hb hby d10_22) rfl (tlt (own_ltS (by omega) (by omega) (by omega))).2.2.2 k) ?_
  show Go _ _ _ _ _ _ _ T4 (mkF m 25 #[.val (.ref a), .val (.int (Int32.ofNat sg))] [])
  refine Go.step (fun _ k => XS.aloadN X4.here hx rfl (hb hby d10_25) rfl rfl k) ?_
  refine Go.step (fun _ k => XS.dup X4.here hx rfl (hb hby d10_26) rfl rfl k) ?_
  obtain ⟨T5, X5, e5, st5⟩ := getF X4 hx hZ hown (host := "") (Or.inl (hw _ (mI 51 rfl))) Via.refl e4 F_changes_a_3 (g := (mkF m 27 #[.val (.ref a), .val (.int (Int32.ofNat sg))] [(.ref a), (.ref a)])) rfl rfl (hb hby d10_27)
  refine Go.step st5 ?_
  show Go _ _ _ _ _ _ _ T5 (mkF m 30 #[.val (.ref a), .val (.int (Int32.ofNat sg))] [(.int (Int32.ofNat (sg + 3))), (.ref a)])
  refine Go.step (fun _ k => XS.iconst X5.here hx rfl (hb hby d10_30) k) ?_
  refine Go.step (fun _ k => XS.isub X5.here hx rfl (hb hby d10_31) rfl k) ?_
  show Go _ _ _ _ _ _ _ T5 (mkF m 32 #[.val (.ref a), .val (.int (Int32.ofNat sg))] [(.int ((Int32.ofNat (sg + 3)) - (1 : Int32))), (.ref a)])
  rw [show ((Int32.ofNat (sg + 3)) - (1 : Int32)) = Int32.ofNat (sg + 2) from own_pre (sg + 2)]
  show Go _ _ _ _ _ _ _ T5 (mkF m 32 #[.val (.ref a), .val (.int (Int32.ofNat sg))] [(.int (Int32.ofNat (sg + 2))), (.ref a)])
  obtain ⟨T6, h6, X6, e6, W6, st6⟩ := putF X5 hx hZ hown (host := "") (Or.inl (hw _ (mI 51 rfl))) Via.refl e5 F_changes_a_3 E_a_3 (Or.inl (hw _ (mI 52 rfl))) (hw _ (mI 1 rfl)) (ty := .int) (by decide) rfl rfl (g := (mkF m 32 #[.val (.ref a), .val (.int (Int32.ofNat sg))] [(.int (Int32.ofNat (sg + 2))), (.ref a)])) rfl rfl (hb hby d10_32)
  refine Go.step st6 ?_
  have N6 := Fr.snoc X6 N3 ge_a
  have F_changes_a_6 := F_changes_a_3.same W6
  have E_a_6 := E_a_3.wr W6
  have F_changedNode_a_6 := F_changedNode_a_3.other W6 (Or.inr (slot_ne (Or.inl (hw _ (mI 11 rfl))) (Or.inl (hw _ (mI 52 rfl))) (by decide) (t := (.array .int)) (t' := .int) (by decide) (by decide)))
  have F_changedLine_a_6 := F_changedLine_a_3.other W6 (Or.inr (slot_ne (Or.inl (hw _ (mI 13 rfl))) (Or.inl (hw _ (mI 52 rfl))) (by decide) (t := (.array .int)) (t' := .int) (by decide) (by decide)))
  have F_base_a_6 := F_base_a_3.other W6 (Or.inr (slot_ne (Or.inr (hw _ (mI 31 rfl))) (Or.inl (hw _ (mI 52 rfl))) (by decide) (t := (.array .double)) (t' := .int) (by decide) (by decide)))
  have F_slope_a_6 := F_slope_a_3.other W6 (Or.inr (slot_ne (Or.inr (hw _ (mI 33 rfl))) (Or.inl (hw _ (mI 52 rfl))) (by decide) (t := (.array .double)) (t' := .int) (by decide) (by decide)))
  have F_origin_a_6 := F_origin_a_3.other W6 (Or.inr (slot_ne (Or.inr (hw _ (mI 35 rfl))) (Or.inl (hw _ (mI 52 rfl))) (by decide) (t := (.array .int)) (t' := .int) (by decide) (by decide)))
  have F_node_a_6 := F_node_a_3.other W6 (Or.inr (slot_ne (Or.inr (hw _ (mI 37 rfl))) (Or.inl (hw _ (mI 52 rfl))) (by decide) (t := (.array .int)) (t' := .int) (by decide) (by decide)))
  have F_pushedAt_a_6 := F_pushedAt_a_3.other W6 (Or.inr (slot_ne (Or.inr (hw _ (mI 39 rfl))) (Or.inl (hw _ (mI 52 rfl))) (by decide) (t := (.array .int)) (t' := .int) (by decide) (by decide)))
  have F_width_a_6 := F_width_a_3.other W6 (Or.inr (slot_ne (Or.inr (hw _ (mI 28 rfl))) (Or.inl (hw _ (mI 52 rfl))) (by decide) (t := .int) (t' := .int) (by decide) (by decide)))
  have F_pushes_a_6 := F_pushes_a_3.other W6 (Or.inr (slot_ne (Or.inl (hw _ (mI 50 rfl))) (Or.inl (hw _ (mI 52 rfl))) (by decide) (t := .int) (t' := .int) (by decide) (by decide)))
  have V_xn_6 := V_xn_3.other W6 (Ne.symm ne_a_xn)
  have V_xo_6 := V_xo_3.other W6 (Ne.symm ne_a_xo)
  have V_xu_6 := V_xu_3.other W6 (Ne.symm ne_a_xu)
  have V_xv_6 := V_xv_3.other W6 (Ne.symm ne_a_xv)
  have V_xw_6 := V_xw_3.other W6 (Ne.symm ne_a_xw)
  have V_xt_6 := V_xt_3.other W6 (Ne.symm ne_a_xt)
  have V_xm_6 := V_xm_3.other W6 (Ne.symm ne_a_xm)
  have K6 : Keep h0 h6 [a, xn, xo, xu, xv, xw, xt, xm] := K3.wr W6 (Or.inl (List.mem_of_getElem? (i := 0) rfl))
  show Go _ _ _ _ _ _ _ T6 (mkF m 35 #[.val (.ref a), .val (.int (Int32.ofNat sg))] [])
  refine Go.step (fun _ k => XS.aloadN X6.here hx rfl (hb hby d10_35) rfl rfl k) ?_
  obtain ⟨T7, X7, e7, st7⟩ := getF X6 hx hZ hown (host := "") (Or.inl (hw _ (mI 36 rfl))) Via.refl e6 F_node_a_6 (g := (mkF m 36 #[.val (.ref a), .val (.int (Int32.ofNat sg))] [(.ref a)])) rfl rfl (hb hby d10_36)
  refine Go.step st7 ?_
  show Go _ _ _ _ _ _ _ T7 (mkF m 39 #[.val (.ref a), .val (.int (Int32.ofNat sg))] [(.ref xt)])
  refine Go.step (fun _ k => XS.aloadN X7.here hx rfl (hb hby d10_39) rfl rfl k) ?_
  obtain ⟨T8, X8, e8, st8⟩ := getF X7 hx hZ hown (host := "") (Or.inl (hw _ (mI 10 rfl))) Via.refl e7 F_changedNode_a_6 (g := (mkF m 40 #[.val (.ref a), .val (.int (Int32.ofNat sg))] [(.ref a), (.ref xt)])) rfl rfl (hb hby d10_40)
  refine Go.step st8 ?_
  show Go _ _ _ _ _ _ _ T8 (mkF m 43 #[.val (.ref a), .val (.int (Int32.ofNat sg))] [(.ref xn), (.ref xt)])
  refine Go.step (fun _ k => XS.aloadN X8.here hx rfl (hb hby d10_43) rfl rfl k) ?_
  obtain ⟨T9, X9, e9, st9⟩ := getF X8 hx hZ hown (host := "") (Or.inl (hw _ (mI 51 rfl))) Via.refl e8 F_changes_a_6 (g := (mkF m 44 #[.val (.ref a), .val (.int (Int32.ofNat sg))] [(.ref a), (.ref xn), (.ref xt)])) rfl rfl (hb hby d10_44)
  refine Go.step st9 ?_
  show Go _ _ _ _ _ _ _ T9 (mkF m 47 #[.val (.ref a), .val (.int (Int32.ofNat sg))] [(.int (Int32.ofNat (sg + 2))), (.ref xn), (.ref xt)])
  refine Go.iaload X9 hx hZ e9 V_xn_6 (j := (Int32.ofNat (sg + 2))) (v := (fN (sg + 2))) (own_b64 (by omega)) (by rw [own_nat (by omega)]) (hb hby d10_47) ?_
  show Go _ _ _ _ _ _ _ T9 (mkF m 48 #[.val (.ref a), .val (.int (Int32.ofNat sg))] [(.int (fN (sg + 2))), (.ref xt)])
  refine Go.step (fun _ k => XS.aloadN X9.here hx rfl (hb hby d10_48) rfl rfl k) ?_
  obtain ⟨T10, X10, e10, st10⟩ := getF X9 hx hZ hown (host := "") (Or.inl (hw _ (mI 12 rfl))) Via.refl e9 F_changedLine_a_6 (g := (mkF m 49 #[.val (.ref a), .val (.int (Int32.ofNat sg))] [(.ref a), (.int (fN (sg + 2))), (.ref xt)])) rfl rfl (hb hby d10_49)
  refine Go.step st10 ?_
  show Go _ _ _ _ _ _ _ T10 (mkF m 52 #[.val (.ref a), .val (.int (Int32.ofNat sg))] [(.ref xo), (.int (fN (sg + 2))), (.ref xt)])
  refine Go.step (fun _ k => XS.aloadN X10.here hx rfl (hb hby d10_52) rfl rfl k) ?_
  obtain ⟨T11, X11, e11, st11⟩ := getF X10 hx hZ hown (host := "") (Or.inl (hw _ (mI 51 rfl))) Via.refl e10 F_changes_a_6 (g := (mkF m 53 #[.val (.ref a), .val (.int (Int32.ofNat sg))] [(.ref a), (.ref xo), (.int (fN (sg + 2))), (.ref xt)])) rfl rfl (hb hby d10_53)
  refine Go.step st11 ?_
  show Go _ _ _ _ _ _ _ T11 (mkF m 56 #[.val (.ref a), .val (.int (Int32.ofNat sg))] [(.int (Int32.ofNat (sg + 2))), (.ref xo), (.int (fN (sg + 2))), (.ref xt)])
  refine Go.iaload X11 hx hZ e11 V_xo_6 (j := (Int32.ofNat (sg + 2))) (v := (fO (sg + 2))) (own_b64 (by omega)) (by rw [own_nat (by omega)]) (hb hby d10_56) ?_
  show Go _ _ _ _ _ _ _ T11 (mkF m 57 #[.val (.ref a), .val (.int (Int32.ofNat sg))] [(.int (fO (sg + 2))), (.int (fN (sg + 2))), (.ref xt)])
  refine Go.iastore X11 hx hZ e11 V_xt_6 (j := (fN (sg + 2))) (x := (fO (sg + 2))) hb2 (hb hby d10_57) ?_
  intro T12 h12 X12 e12 W12 Vn12
  have V_xt_12 : Iv Z h12 xt (8 : Int32) (updN fT ((fN (sg + 2))).toNatClampNeg (fO (sg + 2))) := Vn12
  have N12 := Fr.snoc X12 N6 ge_xt
  have E_a_12 := E_a_6.wr W12
  have F_changedNode_a_12 := F_changedNode_a_6.other W12 (Or.inl ne_a_xt)
  have F_changedLine_a_12 := F_changedLine_a_6.other W12 (Or.inl ne_a_xt)
  have F_base_a_12 := F_base_a_6.other W12 (Or.inl ne_a_xt)
  have F_slope_a_12 := F_slope_a_6.other W12 (Or.inl ne_a_xt)
  have F_origin_a_12 := F_origin_a_6.other W12 (Or.inl ne_a_xt)
  have F_node_a_12 := F_node_a_6.other W12 (Or.inl ne_a_xt)
  have F_pushedAt_a_12 := F_pushedAt_a_6.other W12 (Or.inl ne_a_xt)
  have F_width_a_12 := F_width_a_6.other W12 (Or.inl ne_a_xt)
  have F_pushes_a_12 := F_pushes_a_6.other W12 (Or.inl ne_a_xt)
  have F_changes_a_12 := F_changes_a_6.other W12 (Or.inl ne_a_xt)
  have V_xn_12 := V_xn_6.other W12 ne_xn_xt
  have V_xo_12 := V_xo_6.other W12 ne_xo_xt
  have V_xu_12 := V_xu_6.other W12 ne_xu_xt
  have V_xv_12 := V_xv_6.other W12 ne_xv_xt
  have V_xw_12 := V_xw_6.other W12 ne_xw_xt
  have V_xm_12 := V_xm_6.other W12 (Ne.symm ne_xt_xm)
  have K12 : Keep h0 h12 [a, xn, xo, xu, xv, xw, xt, xm] := K6.wr W12 (Or.inl (List.mem_of_getElem? (i := 6) rfl))
  show Go _ _ _ _ _ _ _ T12 (mkF m 58 #[.val (.ref a), .val (.int (Int32.ofNat sg))] [])
  refine Go.step (fun _ k => XS.goto X12.here hx rfl (pc0 := 58) (pc' := 17) rfl (hb hby d10_58) (by decide) (by decide) k) ?_
  show Go _ _ _ _ _ _ _ T12 (mkF m 17 #[.val (.ref a), .val (.int (Int32.ofNat sg))] [])
  refine Go.step (fun _ k => XS.aloadN X12.here hx rfl (hb hby d10_17) rfl rfl k) ?_
  obtain ⟨T13, X13, e13, st13⟩ := getF X12 hx hZ hown (host := "") (Or.inl (hw _ (mI 51 rfl))) Via.refl e12 F_changes_a_12 (g := (mkF m 18 #[.val (.ref a), .val (.int (Int32.ofNat sg))] [(.ref a)])) rfl rfl (hb hby d10_18)
  refine Go.step st13 ?_
  show Go _ _ _ _ _ _ _ T13 (mkF m 21 #[.val (.ref a), .val (.int (Int32.ofNat sg))] [(.int (Int32.ofNat (sg + 2)))])
  refine Go.step (fun _ k => XS.iloadN X13.here hx rfl (hb hby d10_21) rfl k) ?_
  refine Go.step (fun _ k => XS.icmpNo X13.here hx rfl (hb hby d10_22) rfl (tlt (own_ltS (by omega) (by omega) (by omega))).2.2.2 k) ?_
  show Go _ _ _ _ _ _ _ T13 (mkF m 25 #[.val (.ref a), .val (.int (Int32.ofNat sg))] [])
  refine Go.step (fun _ k => XS.aloadN X13.here hx rfl (hb hby d10_25) rfl rfl k) ?_
  refine Go.step (fun _ k => XS.dup X13.here hx rfl (hb hby d10_26) rfl rfl k) ?_
  obtain ⟨T14, X14, e14, st14⟩ := getF X13 hx hZ hown (host := "") (Or.inl (hw _ (mI 51 rfl))) Via.refl e13 F_changes_a_12 (g := (mkF m 27 #[.val (.ref a), .val (.int (Int32.ofNat sg))] [(.ref a), (.ref a)])) rfl rfl (hb hby d10_27)
  refine Go.step st14 ?_
  show Go _ _ _ _ _ _ _ T14 (mkF m 30 #[.val (.ref a), .val (.int (Int32.ofNat sg))] [(.int (Int32.ofNat (sg + 2))), (.ref a)])
  refine Go.step (fun _ k => XS.iconst X14.here hx rfl (hb hby d10_30) k) ?_
  refine Go.step (fun _ k => XS.isub X14.here hx rfl (hb hby d10_31) rfl k) ?_
  show Go _ _ _ _ _ _ _ T14 (mkF m 32 #[.val (.ref a), .val (.int (Int32.ofNat sg))] [(.int ((Int32.ofNat (sg + 2)) - (1 : Int32))), (.ref a)])
  rw [show ((Int32.ofNat (sg + 2)) - (1 : Int32)) = Int32.ofNat (sg + 1) from own_pre (sg + 1)]
  show Go _ _ _ _ _ _ _ T14 (mkF m 32 #[.val (.ref a), .val (.int (Int32.ofNat sg))] [(.int (Int32.ofNat (sg + 1))), (.ref a)])
  obtain ⟨T15, h15, X15, e15, W15, st15⟩ := putF X14 hx hZ hown (host := "") (Or.inl (hw _ (mI 51 rfl))) Via.refl e14 F_changes_a_12 E_a_12 (Or.inl (hw _ (mI 52 rfl))) (hw _ (mI 1 rfl)) (ty := .int) (by decide) rfl rfl (g := (mkF m 32 #[.val (.ref a), .val (.int (Int32.ofNat sg))] [(.int (Int32.ofNat (sg + 1))), (.ref a)])) rfl rfl (hb hby d10_32)
  refine Go.step st15 ?_
  have N15 := Fr.snoc X15 N12 ge_a
  have F_changes_a_15 := F_changes_a_12.same W15
  have E_a_15 := E_a_12.wr W15
  have F_changedNode_a_15 := F_changedNode_a_12.other W15 (Or.inr (slot_ne (Or.inl (hw _ (mI 11 rfl))) (Or.inl (hw _ (mI 52 rfl))) (by decide) (t := (.array .int)) (t' := .int) (by decide) (by decide)))
  have F_changedLine_a_15 := F_changedLine_a_12.other W15 (Or.inr (slot_ne (Or.inl (hw _ (mI 13 rfl))) (Or.inl (hw _ (mI 52 rfl))) (by decide) (t := (.array .int)) (t' := .int) (by decide) (by decide)))
  have F_base_a_15 := F_base_a_12.other W15 (Or.inr (slot_ne (Or.inr (hw _ (mI 31 rfl))) (Or.inl (hw _ (mI 52 rfl))) (by decide) (t := (.array .double)) (t' := .int) (by decide) (by decide)))
  have F_slope_a_15 := F_slope_a_12.other W15 (Or.inr (slot_ne (Or.inr (hw _ (mI 33 rfl))) (Or.inl (hw _ (mI 52 rfl))) (by decide) (t := (.array .double)) (t' := .int) (by decide) (by decide)))
  have F_origin_a_15 := F_origin_a_12.other W15 (Or.inr (slot_ne (Or.inr (hw _ (mI 35 rfl))) (Or.inl (hw _ (mI 52 rfl))) (by decide) (t := (.array .int)) (t' := .int) (by decide) (by decide)))
  have F_node_a_15 := F_node_a_12.other W15 (Or.inr (slot_ne (Or.inr (hw _ (mI 37 rfl))) (Or.inl (hw _ (mI 52 rfl))) (by decide) (t := (.array .int)) (t' := .int) (by decide) (by decide)))
  have F_pushedAt_a_15 := F_pushedAt_a_12.other W15 (Or.inr (slot_ne (Or.inr (hw _ (mI 39 rfl))) (Or.inl (hw _ (mI 52 rfl))) (by decide) (t := (.array .int)) (t' := .int) (by decide) (by decide)))
  have F_width_a_15 := F_width_a_12.other W15 (Or.inr (slot_ne (Or.inr (hw _ (mI 28 rfl))) (Or.inl (hw _ (mI 52 rfl))) (by decide) (t := .int) (t' := .int) (by decide) (by decide)))
  have F_pushes_a_15 := F_pushes_a_12.other W15 (Or.inr (slot_ne (Or.inl (hw _ (mI 50 rfl))) (Or.inl (hw _ (mI 52 rfl))) (by decide) (t := .int) (t' := .int) (by decide) (by decide)))
  have V_xn_15 := V_xn_12.other W15 (Ne.symm ne_a_xn)
  have V_xo_15 := V_xo_12.other W15 (Ne.symm ne_a_xo)
  have V_xu_15 := V_xu_12.other W15 (Ne.symm ne_a_xu)
  have V_xv_15 := V_xv_12.other W15 (Ne.symm ne_a_xv)
  have V_xw_15 := V_xw_12.other W15 (Ne.symm ne_a_xw)
  have V_xt_15 := V_xt_12.other W15 (Ne.symm ne_a_xt)
  have V_xm_15 := V_xm_12.other W15 (Ne.symm ne_a_xm)
  have K15 : Keep h0 h15 [a, xn, xo, xu, xv, xw, xt, xm] := K12.wr W15 (Or.inl (List.mem_of_getElem? (i := 0) rfl))
  show Go _ _ _ _ _ _ _ T15 (mkF m 35 #[.val (.ref a), .val (.int (Int32.ofNat sg))] [])
  refine Go.step (fun _ k => XS.aloadN X15.here hx rfl (hb hby d10_35) rfl rfl k) ?_
  obtain ⟨T16, X16, e16, st16⟩ := getF X15 hx hZ hown (host := "") (Or.inl (hw _ (mI 36 rfl))) Via.refl e15 F_node_a_15 (g := (mkF m 36 #[.val (.ref a), .val (.int (Int32.ofNat sg))] [(.ref a)])) rfl rfl (hb hby d10_36)
  refine Go.step st16 ?_
  show Go _ _ _ _ _ _ _ T16 (mkF m 39 #[.val (.ref a), .val (.int (Int32.ofNat sg))] [(.ref xt)])
  refine Go.step (fun _ k => XS.aloadN X16.here hx rfl (hb hby d10_39) rfl rfl k) ?_
  obtain ⟨T17, X17, e17, st17⟩ := getF X16 hx hZ hown (host := "") (Or.inl (hw _ (mI 10 rfl))) Via.refl e16 F_changedNode_a_15 (g := (mkF m 40 #[.val (.ref a), .val (.int (Int32.ofNat sg))] [(.ref a), (.ref xt)])) rfl rfl (hb hby d10_40)
  refine Go.step st17 ?_
  show Go _ _ _ _ _ _ _ T17 (mkF m 43 #[.val (.ref a), .val (.int (Int32.ofNat sg))] [(.ref xn), (.ref xt)])
  refine Go.step (fun _ k => XS.aloadN X17.here hx rfl (hb hby d10_43) rfl rfl k) ?_
  obtain ⟨T18, X18, e18, st18⟩ := getF X17 hx hZ hown (host := "") (Or.inl (hw _ (mI 51 rfl))) Via.refl e17 F_changes_a_15 (g := (mkF m 44 #[.val (.ref a), .val (.int (Int32.ofNat sg))] [(.ref a), (.ref xn), (.ref xt)])) rfl rfl (hb hby d10_44)
  refine Go.step st18 ?_
  show Go _ _ _ _ _ _ _ T18 (mkF m 47 #[.val (.ref a), .val (.int (Int32.ofNat sg))] [(.int (Int32.ofNat (sg + 1))), (.ref xn), (.ref xt)])
  refine Go.iaload X18 hx hZ e18 V_xn_15 (j := (Int32.ofNat (sg + 1))) (v := (fN (sg + 1))) (own_b64 (by omega)) (by rw [own_nat (by omega)]) (hb hby d10_47) ?_
  show Go _ _ _ _ _ _ _ T18 (mkF m 48 #[.val (.ref a), .val (.int (Int32.ofNat sg))] [(.int (fN (sg + 1))), (.ref xt)])
  refine Go.step (fun _ k => XS.aloadN X18.here hx rfl (hb hby d10_48) rfl rfl k) ?_
  obtain ⟨T19, X19, e19, st19⟩ := getF X18 hx hZ hown (host := "") (Or.inl (hw _ (mI 12 rfl))) Via.refl e18 F_changedLine_a_15 (g := (mkF m 49 #[.val (.ref a), .val (.int (Int32.ofNat sg))] [(.ref a), (.int (fN (sg + 1))), (.ref xt)])) rfl rfl (hb hby d10_49)
  refine Go.step st19 ?_
  show Go _ _ _ _ _ _ _ T19 (mkF m 52 #[.val (.ref a), .val (.int (Int32.ofNat sg))] [(.ref xo), (.int (fN (sg + 1))), (.ref xt)])
  refine Go.step (fun _ k => XS.aloadN X19.here hx rfl (hb hby d10_52) rfl rfl k) ?_
  obtain ⟨T20, X20, e20, st20⟩ := getF X19 hx hZ hown (host := "") (Or.inl (hw _ (mI 51 rfl))) Via.refl e19 F_changes_a_15 (g := (mkF m 53 #[.val (.ref a), .val (.int (Int32.ofNat sg))] [(.ref a), (.ref xo), (.int (fN (sg + 1))), (.ref xt)])) rfl rfl (hb hby d10_53)
  refine Go.step st20 ?_
  show Go _ _ _ _ _ _ _ T20 (mkF m 56 #[.val (.ref a), .val (.int (Int32.ofNat sg))] [(.int (Int32.ofNat (sg + 1))), (.ref xo), (.int (fN (sg + 1))), (.ref xt)])
  refine Go.iaload X20 hx hZ e20 V_xo_15 (j := (Int32.ofNat (sg + 1))) (v := (fO (sg + 1))) (own_b64 (by omega)) (by rw [own_nat (by omega)]) (hb hby d10_56) ?_
  show Go _ _ _ _ _ _ _ T20 (mkF m 57 #[.val (.ref a), .val (.int (Int32.ofNat sg))] [(.int (fO (sg + 1))), (.int (fN (sg + 1))), (.ref xt)])
  refine Go.iastore X20 hx hZ e20 V_xt_15 (j := (fN (sg + 1))) (x := (fO (sg + 1))) hb1 (hb hby d10_57) ?_
  intro T21 h21 X21 e21 W21 Vn21
  have V_xt_21 : Iv Z h21 xt (8 : Int32) (updN (updN fT ((fN (sg + 2))).toNatClampNeg (fO (sg + 2))) ((fN (sg + 1))).toNatClampNeg (fO (sg + 1))) := Vn21
  have N21 := Fr.snoc X21 N15 ge_xt
  have E_a_21 := E_a_15.wr W21
  have F_changedNode_a_21 := F_changedNode_a_15.other W21 (Or.inl ne_a_xt)
  have F_changedLine_a_21 := F_changedLine_a_15.other W21 (Or.inl ne_a_xt)
  have F_base_a_21 := F_base_a_15.other W21 (Or.inl ne_a_xt)
  have F_slope_a_21 := F_slope_a_15.other W21 (Or.inl ne_a_xt)
  have F_origin_a_21 := F_origin_a_15.other W21 (Or.inl ne_a_xt)
  have F_node_a_21 := F_node_a_15.other W21 (Or.inl ne_a_xt)
  have F_pushedAt_a_21 := F_pushedAt_a_15.other W21 (Or.inl ne_a_xt)
  have F_width_a_21 := F_width_a_15.other W21 (Or.inl ne_a_xt)
  have F_pushes_a_21 := F_pushes_a_15.other W21 (Or.inl ne_a_xt)
  have F_changes_a_21 := F_changes_a_15.other W21 (Or.inl ne_a_xt)
  have V_xn_21 := V_xn_15.other W21 ne_xn_xt
  have V_xo_21 := V_xo_15.other W21 ne_xo_xt
  have V_xu_21 := V_xu_15.other W21 ne_xu_xt
  have V_xv_21 := V_xv_15.other W21 ne_xv_xt
  have V_xw_21 := V_xw_15.other W21 ne_xw_xt
  have V_xm_21 := V_xm_15.other W21 (Ne.symm ne_xt_xm)
  have K21 : Keep h0 h21 [a, xn, xo, xu, xv, xw, xt, xm] := K15.wr W21 (Or.inl (List.mem_of_getElem? (i := 6) rfl))
  show Go _ _ _ _ _ _ _ T21 (mkF m 58 #[.val (.ref a), .val (.int (Int32.ofNat sg))] [])
  refine Go.step (fun _ k => XS.goto X21.here hx rfl (pc0 := 58) (pc' := 17) rfl (hb hby d10_58) (by decide) (by decide) k) ?_
  show Go _ _ _ _ _ _ _ T21 (mkF m 17 #[.val (.ref a), .val (.int (Int32.ofNat sg))] [])
  refine Go.step (fun _ k => XS.aloadN X21.here hx rfl (hb hby d10_17) rfl rfl k) ?_
  obtain ⟨T22, X22, e22, st22⟩ := getF X21 hx hZ hown (host := "") (Or.inl (hw _ (mI 51 rfl))) Via.refl e21 F_changes_a_21 (g := (mkF m 18 #[.val (.ref a), .val (.int (Int32.ofNat sg))] [(.ref a)])) rfl rfl (hb hby d10_18)
  refine Go.step st22 ?_
  show Go _ _ _ _ _ _ _ T22 (mkF m 21 #[.val (.ref a), .val (.int (Int32.ofNat sg))] [(.int (Int32.ofNat (sg + 1)))])
  refine Go.step (fun _ k => XS.iloadN X22.here hx rfl (hb hby d10_21) rfl k) ?_
  refine Go.step (fun _ k => XS.icmpNo X22.here hx rfl (hb hby d10_22) rfl (tlt (own_ltS (by omega) (by omega) (by omega))).2.2.2 k) ?_
  show Go _ _ _ _ _ _ _ T22 (mkF m 25 #[.val (.ref a), .val (.int (Int32.ofNat sg))] [])
  refine Go.step (fun _ k => XS.aloadN X22.here hx rfl (hb hby d10_25) rfl rfl k) ?_
  refine Go.step (fun _ k => XS.dup X22.here hx rfl (hb hby d10_26) rfl rfl k) ?_
  obtain ⟨T23, X23, e23, st23⟩ := getF X22 hx hZ hown (host := "") (Or.inl (hw _ (mI 51 rfl))) Via.refl e22 F_changes_a_21 (g := (mkF m 27 #[.val (.ref a), .val (.int (Int32.ofNat sg))] [(.ref a), (.ref a)])) rfl rfl (hb hby d10_27)
  refine Go.step st23 ?_
  show Go _ _ _ _ _ _ _ T23 (mkF m 30 #[.val (.ref a), .val (.int (Int32.ofNat sg))] [(.int (Int32.ofNat (sg + 1))), (.ref a)])
  refine Go.step (fun _ k => XS.iconst X23.here hx rfl (hb hby d10_30) k) ?_
  refine Go.step (fun _ k => XS.isub X23.here hx rfl (hb hby d10_31) rfl k) ?_
  show Go _ _ _ _ _ _ _ T23 (mkF m 32 #[.val (.ref a), .val (.int (Int32.ofNat sg))] [(.int ((Int32.ofNat (sg + 1)) - (1 : Int32))), (.ref a)])
  rw [show ((Int32.ofNat (sg + 1)) - (1 : Int32)) = Int32.ofNat sg from own_pre sg]
  show Go _ _ _ _ _ _ _ T23 (mkF m 32 #[.val (.ref a), .val (.int (Int32.ofNat sg))] [(.int (Int32.ofNat sg)), (.ref a)])
  obtain ⟨T24, h24, X24, e24, W24, st24⟩ := putF X23 hx hZ hown (host := "") (Or.inl (hw _ (mI 51 rfl))) Via.refl e23 F_changes_a_21 E_a_21 (Or.inl (hw _ (mI 52 rfl))) (hw _ (mI 1 rfl)) (ty := .int) (by decide) rfl rfl (g := (mkF m 32 #[.val (.ref a), .val (.int (Int32.ofNat sg))] [(.int (Int32.ofNat sg)), (.ref a)])) rfl rfl (hb hby d10_32)
  refine Go.step st24 ?_
  have N24 := Fr.snoc X24 N21 ge_a
  have F_changes_a_24 := F_changes_a_21.same W24
  have E_a_24 := E_a_21.wr W24
  have F_changedNode_a_24 := F_changedNode_a_21.other W24 (Or.inr (slot_ne (Or.inl (hw _ (mI 11 rfl))) (Or.inl (hw _ (mI 52 rfl))) (by decide) (t := (.array .int)) (t' := .int) (by decide) (by decide)))
  have F_changedLine_a_24 := F_changedLine_a_21.other W24 (Or.inr (slot_ne (Or.inl (hw _ (mI 13 rfl))) (Or.inl (hw _ (mI 52 rfl))) (by decide) (t := (.array .int)) (t' := .int) (by decide) (by decide)))
  have F_base_a_24 := F_base_a_21.other W24 (Or.inr (slot_ne (Or.inr (hw _ (mI 31 rfl))) (Or.inl (hw _ (mI 52 rfl))) (by decide) (t := (.array .double)) (t' := .int) (by decide) (by decide)))
  have F_slope_a_24 := F_slope_a_21.other W24 (Or.inr (slot_ne (Or.inr (hw _ (mI 33 rfl))) (Or.inl (hw _ (mI 52 rfl))) (by decide) (t := (.array .double)) (t' := .int) (by decide) (by decide)))
  have F_origin_a_24 := F_origin_a_21.other W24 (Or.inr (slot_ne (Or.inr (hw _ (mI 35 rfl))) (Or.inl (hw _ (mI 52 rfl))) (by decide) (t := (.array .int)) (t' := .int) (by decide) (by decide)))
  have F_node_a_24 := F_node_a_21.other W24 (Or.inr (slot_ne (Or.inr (hw _ (mI 37 rfl))) (Or.inl (hw _ (mI 52 rfl))) (by decide) (t := (.array .int)) (t' := .int) (by decide) (by decide)))
  have F_pushedAt_a_24 := F_pushedAt_a_21.other W24 (Or.inr (slot_ne (Or.inr (hw _ (mI 39 rfl))) (Or.inl (hw _ (mI 52 rfl))) (by decide) (t := (.array .int)) (t' := .int) (by decide) (by decide)))
  have F_width_a_24 := F_width_a_21.other W24 (Or.inr (slot_ne (Or.inr (hw _ (mI 28 rfl))) (Or.inl (hw _ (mI 52 rfl))) (by decide) (t := .int) (t' := .int) (by decide) (by decide)))
  have F_pushes_a_24 := F_pushes_a_21.other W24 (Or.inr (slot_ne (Or.inl (hw _ (mI 50 rfl))) (Or.inl (hw _ (mI 52 rfl))) (by decide) (t := .int) (t' := .int) (by decide) (by decide)))
  have V_xn_24 := V_xn_21.other W24 (Ne.symm ne_a_xn)
  have V_xo_24 := V_xo_21.other W24 (Ne.symm ne_a_xo)
  have V_xu_24 := V_xu_21.other W24 (Ne.symm ne_a_xu)
  have V_xv_24 := V_xv_21.other W24 (Ne.symm ne_a_xv)
  have V_xw_24 := V_xw_21.other W24 (Ne.symm ne_a_xw)
  have V_xt_24 := V_xt_21.other W24 (Ne.symm ne_a_xt)
  have V_xm_24 := V_xm_21.other W24 (Ne.symm ne_a_xm)
  have K24 : Keep h0 h24 [a, xn, xo, xu, xv, xw, xt, xm] := K21.wr W24 (Or.inl (List.mem_of_getElem? (i := 0) rfl))
  show Go _ _ _ _ _ _ _ T24 (mkF m 35 #[.val (.ref a), .val (.int (Int32.ofNat sg))] [])
  refine Go.step (fun _ k => XS.aloadN X24.here hx rfl (hb hby d10_35) rfl rfl k) ?_
  obtain ⟨T25, X25, e25, st25⟩ := getF X24 hx hZ hown (host := "") (Or.inl (hw _ (mI 36 rfl))) Via.refl e24 F_node_a_24 (g := (mkF m 36 #[.val (.ref a), .val (.int (Int32.ofNat sg))] [(.ref a)])) rfl rfl (hb hby d10_36)
  refine Go.step st25 ?_
  show Go _ _ _ _ _ _ _ T25 (mkF m 39 #[.val (.ref a), .val (.int (Int32.ofNat sg))] [(.ref xt)])
  refine Go.step (fun _ k => XS.aloadN X25.here hx rfl (hb hby d10_39) rfl rfl k) ?_
  obtain ⟨T26, X26, e26, st26⟩ := getF X25 hx hZ hown (host := "") (Or.inl (hw _ (mI 10 rfl))) Via.refl e25 F_changedNode_a_24 (g := (mkF m 40 #[.val (.ref a), .val (.int (Int32.ofNat sg))] [(.ref a), (.ref xt)])) rfl rfl (hb hby d10_40)
  refine Go.step st26 ?_
  show Go _ _ _ _ _ _ _ T26 (mkF m 43 #[.val (.ref a), .val (.int (Int32.ofNat sg))] [(.ref xn), (.ref xt)])
  refine Go.step (fun _ k => XS.aloadN X26.here hx rfl (hb hby d10_43) rfl rfl k) ?_
  obtain ⟨T27, X27, e27, st27⟩ := getF X26 hx hZ hown (host := "") (Or.inl (hw _ (mI 51 rfl))) Via.refl e26 F_changes_a_24 (g := (mkF m 44 #[.val (.ref a), .val (.int (Int32.ofNat sg))] [(.ref a), (.ref xn), (.ref xt)])) rfl rfl (hb hby d10_44)
  refine Go.step st27 ?_
  show Go _ _ _ _ _ _ _ T27 (mkF m 47 #[.val (.ref a), .val (.int (Int32.ofNat sg))] [(.int (Int32.ofNat sg)), (.ref xn), (.ref xt)])
  refine Go.iaload X27 hx hZ e27 V_xn_24 (j := (Int32.ofNat sg)) (v := (fN sg)) (own_b64 (by omega)) (by rw [own_nat (by omega)]) (hb hby d10_47) ?_
  show Go _ _ _ _ _ _ _ T27 (mkF m 48 #[.val (.ref a), .val (.int (Int32.ofNat sg))] [(.int (fN sg)), (.ref xt)])
  refine Go.step (fun _ k => XS.aloadN X27.here hx rfl (hb hby d10_48) rfl rfl k) ?_
  obtain ⟨T28, X28, e28, st28⟩ := getF X27 hx hZ hown (host := "") (Or.inl (hw _ (mI 12 rfl))) Via.refl e27 F_changedLine_a_24 (g := (mkF m 49 #[.val (.ref a), .val (.int (Int32.ofNat sg))] [(.ref a), (.int (fN sg)), (.ref xt)])) rfl rfl (hb hby d10_49)
  refine Go.step st28 ?_
  show Go _ _ _ _ _ _ _ T28 (mkF m 52 #[.val (.ref a), .val (.int (Int32.ofNat sg))] [(.ref xo), (.int (fN sg)), (.ref xt)])
  refine Go.step (fun _ k => XS.aloadN X28.here hx rfl (hb hby d10_52) rfl rfl k) ?_
  obtain ⟨T29, X29, e29, st29⟩ := getF X28 hx hZ hown (host := "") (Or.inl (hw _ (mI 51 rfl))) Via.refl e28 F_changes_a_24 (g := (mkF m 53 #[.val (.ref a), .val (.int (Int32.ofNat sg))] [(.ref a), (.ref xo), (.int (fN sg)), (.ref xt)])) rfl rfl (hb hby d10_53)
  refine Go.step st29 ?_
  show Go _ _ _ _ _ _ _ T29 (mkF m 56 #[.val (.ref a), .val (.int (Int32.ofNat sg))] [(.int (Int32.ofNat sg)), (.ref xo), (.int (fN sg)), (.ref xt)])
  refine Go.iaload X29 hx hZ e29 V_xo_24 (j := (Int32.ofNat sg)) (v := (fO sg)) (own_b64 (by omega)) (by rw [own_nat (by omega)]) (hb hby d10_56) ?_
  show Go _ _ _ _ _ _ _ T29 (mkF m 57 #[.val (.ref a), .val (.int (Int32.ofNat sg))] [(.int (fO sg)), (.int (fN sg)), (.ref xt)])
  refine Go.iastore X29 hx hZ e29 V_xt_24 (j := (fN sg)) (x := (fO sg)) hb0 (hb hby d10_57) ?_
  intro T30 h30 X30 e30 W30 Vn30
  have V_xt_30 : Iv Z h30 xt (8 : Int32) (updN (updN (updN fT ((fN (sg + 2))).toNatClampNeg (fO (sg + 2))) ((fN (sg + 1))).toNatClampNeg (fO (sg + 1))) ((fN sg)).toNatClampNeg (fO sg)) := Vn30
  have N30 := Fr.snoc X30 N24 ge_xt
  have E_a_30 := E_a_24.wr W30
  have F_changedNode_a_30 := F_changedNode_a_24.other W30 (Or.inl ne_a_xt)
  have F_changedLine_a_30 := F_changedLine_a_24.other W30 (Or.inl ne_a_xt)
  have F_base_a_30 := F_base_a_24.other W30 (Or.inl ne_a_xt)
  have F_slope_a_30 := F_slope_a_24.other W30 (Or.inl ne_a_xt)
  have F_origin_a_30 := F_origin_a_24.other W30 (Or.inl ne_a_xt)
  have F_node_a_30 := F_node_a_24.other W30 (Or.inl ne_a_xt)
  have F_pushedAt_a_30 := F_pushedAt_a_24.other W30 (Or.inl ne_a_xt)
  have F_width_a_30 := F_width_a_24.other W30 (Or.inl ne_a_xt)
  have F_pushes_a_30 := F_pushes_a_24.other W30 (Or.inl ne_a_xt)
  have F_changes_a_30 := F_changes_a_24.other W30 (Or.inl ne_a_xt)
  have V_xn_30 := V_xn_24.other W30 ne_xn_xt
  have V_xo_30 := V_xo_24.other W30 ne_xo_xt
  have V_xu_30 := V_xu_24.other W30 ne_xu_xt
  have V_xv_30 := V_xv_24.other W30 ne_xv_xt
  have V_xw_30 := V_xw_24.other W30 ne_xw_xt
  have V_xm_30 := V_xm_24.other W30 (Ne.symm ne_xt_xm)
  have K30 : Keep h0 h30 [a, xn, xo, xu, xv, xw, xt, xm] := K24.wr W30 (Or.inl (List.mem_of_getElem? (i := 6) rfl))
  show Go _ _ _ _ _ _ _ T30 (mkF m 58 #[.val (.ref a), .val (.int (Int32.ofNat sg))] [])
  refine Go.step (fun _ k => XS.goto X30.here hx rfl (pc0 := 58) (pc' := 17) rfl (hb hby d10_58) (by decide) (by decide) k) ?_
  show Go _ _ _ _ _ _ _ T30 (mkF m 17 #[.val (.ref a), .val (.int (Int32.ofNat sg))] [])
  refine Go.step (fun _ k => XS.aloadN X30.here hx rfl (hb hby d10_17) rfl rfl k) ?_
  obtain ⟨T31, X31, e31, st31⟩ := getF X30 hx hZ hown (host := "") (Or.inl (hw _ (mI 51 rfl))) Via.refl e30 F_changes_a_30 (g := (mkF m 18 #[.val (.ref a), .val (.int (Int32.ofNat sg))] [(.ref a)])) rfl rfl (hb hby d10_18)
  refine Go.step st31 ?_
  show Go _ _ _ _ _ _ _ T31 (mkF m 21 #[.val (.ref a), .val (.int (Int32.ofNat sg))] [(.int (Int32.ofNat sg))])
  refine Go.step (fun _ k => XS.iloadN X31.here hx rfl (hb hby d10_21) rfl k) ?_
  refine Go.step (fun _ k => XS.icmpYes X31.here hx rfl (pc0 := 22) (pc' := 61) rfl (hb hby d10_22) rfl (flt (own_nlt sg)).2.2.2 (by decide) (by decide) k) ?_
  show Go _ _ _ _ _ _ _ T31 (mkF m 61 #[.val (.ref a), .val (.int (Int32.ofNat sg))] [])
  refine Go.retV X31 hx hlk hret (hb hby d10_61) (by decide) (by decide) ?_
  try rw [e31]
  have w1 : Iv Z h30 xt (8 : Int32) tT := by rw [← hU]; exact V_xt_30
  exact ⟨rfl, N30, K30, ⟨E_a_30, F_changedNode_a_30, F_changedLine_a_30, F_base_a_30, F_slope_a_30, F_origin_a_30, F_node_a_30, F_pushedAt_a_30, F_width_a_30, F_pushes_a_30, F_changes_a_30, V_xn_30, V_xo_30, V_xu_30, V_xv_30, V_xw_30, w1, V_xm_30⟩⟩
theorem ef_rm10_33 (m : MethodId) (a : Addr) : entryFrame m #[(.ref a)] 2 = mkF m 0 #[.val (.ref a), .unset] [] := by first | (simp [entryFrame, mkF, argsToLocals, Value.category]; done) | rfl
theorem rm10_33 (l : Launch) (Z : State) (a0 : Array Value) (hw : ∀ d ∈ tables_1, d.before a0 Z = true) (a xn xo xu xv xw xt xm : Addr) (fP fQ fC fT fM fN fO : Nat → Int32) (tT tN tO : Nat → Int32) (sg : Nat) (h0 : Heap) (n0 : Nat) (Z0 : n0 ≤ h0.size) (hL : LEs Z h0 a xn xo xu xv xw xt xm fP fQ fC fT fM fN fO 3 (sg + 3)) (hD : Dst n0 a xn xo xu xv xw xt xm) (hG : Good tT tN tO sg fT fN fO 3) (hM : fM 2 = Int32.ofNat sg) (hsg : sg ≤ 10) :
    Con l Z (⟨"com/example/headroom/headroom/LowerEnvelope", "pop", "()V"⟩ : MethodName) prog_15_method_3_code 2 none ({ frames := 0, cells := 0, slots := 0, locals := 0 } : Room) #[(.ref a)] h0 (fun r h L => r = none ∧ Fr n0 L ∧ Keep h0 h [a, xn, xo, xu, xv, xw, xt, xm] ∧ LEs Z h a xn xo xu xv xw xt xm fP fQ fC tT fM fN fO 2 sg) :=
  con_of (plainFor_of_name pn_9) (fun p_ e_ s_ m_ b_ meth_ c_ T_ X_ hx hZ hby hml hown hnm hret hlk e0 => Go.cast (ef_rm10_33 m_ a) (w10_33 a xn xo xu xv xw xt xm fP fQ fC fT fM fN fO tT tN tO sg X_ hx hZ hw hby hml hown hnm hret hlk e0 Z0 (Fr.nil n0) hL hD hG hM hsg))
theorem rm10_3 (l : Launch) (Z : State) (a0 : Array Value) (hw : ∀ d ∈ tables_1, d.before a0 Z = true) (a xn xo xu xv xw xt xm : Addr) (fP fQ fC fT fM fN fO : Nat → Int32) (tT tN tO : Nat → Int32) (sg : Nat) (nn : Nat) (h0 : Heap) (n0 : Nat) (Z0 : n0 ≤ h0.size) (hL : LEs Z h0 a xn xo xu xv xw xt xm fP fQ fC fT fM fN fO 3 (sg + nn)) (hD : Dst n0 a xn xo xu xv xw xt xm) (hG : Good tT tN tO sg fT fN fO nn) (hM : fM 2 = Int32.ofNat sg) (hsg : sg ≤ 10) (hn : nn ≤ 3) :
    Con l Z (⟨"com/example/headroom/headroom/LowerEnvelope", "pop", "()V"⟩ : MethodName) prog_15_method_3_code 2 none ({ frames := 0, cells := 0, slots := 0, locals := 0 } : Room) #[(.ref a)] h0 (fun r h L => r = none ∧ Fr n0 L ∧ Keep h0 h [a, xn, xo, xu, xv, xw, xt, xm] ∧ LEs Z h a xn xo xu xv xw xt xm fP fQ fC tT fM fN fO 2 sg) := by
  rcases (by omega : nn = 0 ∨ nn = 1 ∨ nn = 2 ∨ nn = 3) with rfl | rfl | rfl | rfl
  · exact rm10_30 l Z a0 hw a xn xo xu xv xw xt xm fP fQ fC fT fM fN fO tT tN tO sg h0 n0 Z0 hL hD hG hM hsg
  · exact rm10_31 l Z a0 hw a xn xo xu xv xw xt xm fP fQ fC fT fM fN fO tT tN tO sg h0 n0 Z0 hL hD hG hM hsg
  · exact rm10_32 l Z a0 hw a xn xo xu xv xw xt xm fP fQ fC fT fM fN fO tT tN tO sg h0 n0 Z0 hL hD hG hM hsg
  · exact rm10_33 l Z a0 hw a xn xo xu xv xw xt xm fP fQ fC fT fM fN fO tT tN tO sg h0 n0 Z0 hL hD hG hM hsg
set_option maxRecDepth 65536 in
set_option maxHeartbeats 40000000 in
theorem w10_20 {p : Program} {l : Launch} {e : Env} {s : State} {m : MethodId} {args : Array Value} {below : List Frame} {meth : Method} {c_ : Code} {T0 : State} {locs : List Loc} {Z : State} {a0 : Array Value} {h0 : Heap} {n0 : Nat} (a xn xo xu xv xw xt xm : Addr) (fP fQ fC fT fM fN fO : Nat → Int32) (tT tN tO : Nat → Int32) (sg : Nat)
    (X0 : Stand p l e ({ frames := 0, cells := 0, slots := 0, locals := 0 } : Room) s m args below meth c_ T0 locs 0 0) (hx : p.tables.exec = Jvm.exec) (hZ : Z.Warmed39 s.vm) (hw : ∀ d ∈ tables_1, d.before a0 Z = true) (hby : c_.code = prog_15_method_3_code) (hml : c_.maxLocals = 2) (hown : s.vm.findClass "com/example/headroom/headroom/LowerEnvelope" = some m.cls) (hnm : meth.name = "pop") (hret : meth.sig.returnType = none) (hlk : meth.locks = false) (e0 : T0.heap = h0) (Z0 : n0 ≤ h0.size) (N0 : Fr n0 locs) (hL : LEs Z h0 a xn xo xu xv xw xt xm fP fQ fC fT fM fN fO 2 sg) (hD : Dst n0 a xn xo xu xv xw xt xm) (hG : Good tT tN tO sg fT fN fO 0) (hM : fM 1 = Int32.ofNat sg) (hsg : sg ≤ 10) :
    Go p e below s ({ frames := 0, cells := 0, slots := 0, locals := 0 } : Room).cells ({ frames := 0, cells := 0, slots := 0, locals := 0 } : Room).slots (fun r h L => r = none ∧ Fr n0 L ∧ Keep h0 h [a, xn, xo, xu, xv, xw, xt, xm] ∧ LEs Z h a xn xo xu xv xw xt xm fP fQ fC tT fM fN fO 1 sg) T0 (mkF m 0 #[.val (.ref a), .unset] []) := by
  have hDq := hD
  obtain ⟨ne_a_xn, ne_a_xo, ne_a_xu, ne_a_xv, ne_a_xw, ne_a_xt, ne_a_xm, ne_xn_xo, ne_xn_xu, ne_xn_xv, ne_xn_xw, ne_xn_xt, ne_xn_xm, ne_xo_xu, ne_xo_xv, ne_xo_xw, ne_xo_xt, ne_xo_xm, ne_xu_xv, ne_xu_xw, ne_xu_xt, ne_xu_xm, ne_xv_xw, ne_xv_xt, ne_xv_xm, ne_xw_xt, ne_xw_xm, ne_xt_xm, ge_a, ge_xn, ge_xo, ge_xu, ge_xv, ge_xw, ge_xt, ge_xm⟩ := hDq
  obtain ⟨E_a_0, F_changedNode_a_0, F_changedLine_a_0, F_base_a_0, F_slope_a_0, F_origin_a_0, F_node_a_0, F_pushedAt_a_0, F_width_a_0, F_pushes_a_0, F_changes_a_0, V_xn_0, V_xo_0, V_xu_0, V_xv_0, V_xw_0, V_xt_0, V_xm_0⟩ := hL
  have hU := hG.1
  show Go _ _ _ _ _ _ _ T0 (mkF m 0 #[.val (.ref a), .unset] [])
  refine Go.step (fun _ k => XS.aloadN X0.here hx rfl (hb hby d10_0) rfl rfl k) ?_
  obtain ⟨T1, X1, e1, st1⟩ := getF X0 hx hZ hown (host := "") (Or.inl (hw _ (mI 38 rfl))) Via.refl e0 F_pushedAt_a_0 (g := (mkF m 1 #[.val (.ref a), .unset] [(.ref a)])) rfl rfl (hb hby d10_1)
  refine Go.step st1 ?_
  show Go _ _ _ _ _ _ _ T1 (mkF m 4 #[.val (.ref a), .unset] [(.ref xm)])
  refine Go.step (fun _ k => XS.aloadN X1.here hx rfl (hb hby d10_4) rfl rfl k) ?_
  refine Go.step (fun _ k => XS.dup X1.here hx rfl (hb hby d10_5) rfl rfl k) ?_
  obtain ⟨T2, X2, e2, st2⟩ := getF X1 hx hZ hown (host := "") (Or.inl (hw _ (mI 49 rfl))) Via.refl e1 F_pushes_a_0 (g := (mkF m 6 #[.val (.ref a), .unset] [(.ref a), (.ref a), (.ref xm)])) rfl rfl (hb hby d10_6)
  refine Go.step st2 ?_
  show Go _ _ _ _ _ _ _ T2 (mkF m 9 #[.val (.ref a), .unset] [(.int (2 : Int32)), (.ref a), (.ref xm)])
  refine Go.step (fun _ k => XS.iconst X2.here hx rfl (hb hby d10_9) k) ?_
  refine Go.step (fun _ k => XS.isub X2.here hx rfl (hb hby d10_10) rfl k) ?_
  show Go _ _ _ _ _ _ _ T2 (mkF m 11 #[.val (.ref a), .unset] [(.int (1 : Int32)), (.ref a), (.ref xm)])
  refine Go.step (fun _ k => XS.dupX1 X2.here hx rfl (hb hby d10_11) rfl rfl rfl k) ?_
  show Go _ _ _ _ _ _ _ T2 (mkF m 12 #[.val (.ref a), .unset] [(.int (1 : Int32)), (.ref a), (.int (1 : Int32)), (.ref xm)])
  obtain ⟨T3, h3, X3, e3, W3, st3⟩ := putF X2 hx hZ hown (host := "") (Or.inl (hw _ (mI 49 rfl))) Via.refl e2 F_pushes_a_0 E_a_0 (Or.inl (hw _ (mI 50 rfl))) (hw _ (mI 1 rfl)) (ty := .int) (by decide) rfl rfl (g := (mkF m 12 #[.val (.ref a), .unset] [(.int (1 : Int32)), (.ref a), (.int (1 : Int32)), (.ref xm)])) rfl rfl (hb hby d10_12)
  refine Go.step st3 ?_
  have N3 := Fr.snoc X3 N0 ge_a
  have F_pushes_a_3 := F_pushes_a_0.same W3
  have E_a_3 := E_a_0.wr W3
  have F_changedNode_a_3 := F_changedNode_a_0.other W3 (Or.inr (slot_ne (Or.inl (hw _ (mI 11 rfl))) (Or.inl (hw _ (mI 50 rfl))) (by decide) (t := (.array .int)) (t' := .int) (by decide) (by decide)))
  have F_changedLine_a_3 := F_changedLine_a_0.other W3 (Or.inr (slot_ne (Or.inl (hw _ (mI 13 rfl))) (Or.inl (hw _ (mI 50 rfl))) (by decide) (t := (.array .int)) (t' := .int) (by decide) (by decide)))
  have F_base_a_3 := F_base_a_0.other W3 (Or.inr (slot_ne (Or.inr (hw _ (mI 31 rfl))) (Or.inl (hw _ (mI 50 rfl))) (by decide) (t := (.array .double)) (t' := .int) (by decide) (by decide)))
  have F_slope_a_3 := F_slope_a_0.other W3 (Or.inr (slot_ne (Or.inr (hw _ (mI 33 rfl))) (Or.inl (hw _ (mI 50 rfl))) (by decide) (t := (.array .double)) (t' := .int) (by decide) (by decide)))
  have F_origin_a_3 := F_origin_a_0.other W3 (Or.inr (slot_ne (Or.inr (hw _ (mI 35 rfl))) (Or.inl (hw _ (mI 50 rfl))) (by decide) (t := (.array .int)) (t' := .int) (by decide) (by decide)))
  have F_node_a_3 := F_node_a_0.other W3 (Or.inr (slot_ne (Or.inr (hw _ (mI 37 rfl))) (Or.inl (hw _ (mI 50 rfl))) (by decide) (t := (.array .int)) (t' := .int) (by decide) (by decide)))
  have F_pushedAt_a_3 := F_pushedAt_a_0.other W3 (Or.inr (slot_ne (Or.inr (hw _ (mI 39 rfl))) (Or.inl (hw _ (mI 50 rfl))) (by decide) (t := (.array .int)) (t' := .int) (by decide) (by decide)))
  have F_width_a_3 := F_width_a_0.other W3 (Or.inr (slot_ne (Or.inr (hw _ (mI 28 rfl))) (Or.inl (hw _ (mI 50 rfl))) (by decide) (t := .int) (t' := .int) (by decide) (by decide)))
  have F_changes_a_3 := F_changes_a_0.other W3 (Or.inr (slot_ne (Or.inl (hw _ (mI 52 rfl))) (Or.inl (hw _ (mI 50 rfl))) (by decide) (t := .int) (t' := .int) (by decide) (by decide)))
  have V_xn_3 := V_xn_0.other W3 (Ne.symm ne_a_xn)
  have V_xo_3 := V_xo_0.other W3 (Ne.symm ne_a_xo)
  have V_xu_3 := V_xu_0.other W3 (Ne.symm ne_a_xu)
  have V_xv_3 := V_xv_0.other W3 (Ne.symm ne_a_xv)
  have V_xw_3 := V_xw_0.other W3 (Ne.symm ne_a_xw)
  have V_xt_3 := V_xt_0.other W3 (Ne.symm ne_a_xt)
  have V_xm_3 := V_xm_0.other W3 (Ne.symm ne_a_xm)
  have K3 : Keep h0 h3 [a, xn, xo, xu, xv, xw, xt, xm] := (Keep.refl h0 [a, xn, xo, xu, xv, xw, xt, xm]).wr W3 (Or.inl (List.mem_of_getElem? (i := 0) rfl))
  show Go _ _ _ _ _ _ _ T3 (mkF m 15 #[.val (.ref a), .unset] [(.int (1 : Int32)), (.ref xm)])
  refine Go.iaload X3 hx hZ e3 V_xm_3 (j := (1 : Int32)) (v := (Int32.ofNat sg)) (by decide) hM (hb hby d10_15) ?_
  show Go _ _ _ _ _ _ _ T3 (mkF m 16 #[.val (.ref a), .unset] [(.int (Int32.ofNat sg))])
  refine Go.step (fun _ k => XS.istoreN X3.here hx rfl (hb hby d10_16) rfl (l' := #[.val (.ref a), .val (.int (Int32.ofNat sg))]) rfl k) ?_
  show Go _ _ _ _ _ _ _ T3 (mkF m 17 #[.val (.ref a), .val (.int (Int32.ofNat sg))] [])
  refine Go.step (fun _ k => XS.aloadN X3.here hx rfl (hb hby d10_17) rfl rfl k) ?_
  obtain ⟨T4, X4, e4, st4⟩ := getF X3 hx hZ hown (host := "") (Or.inl (hw _ (mI 51 rfl))) Via.refl e3 F_changes_a_3 (g := (mkF m 18 #[.val (.ref a), .val (.int (Int32.ofNat sg))] [(.ref a)])) rfl rfl (hb hby d10_18)
  refine Go.step st4 ?_
  show Go _ _ _ _ _ _ _ T4 (mkF m 21 #[.val (.ref a), .val (.int (Int32.ofNat sg))] [(.int (Int32.ofNat sg))])
  refine Go.step (fun _ k => XS.iloadN X4.here hx rfl (hb hby d10_21) rfl k) ?_
  refine Go.step (fun _ k => XS.icmpYes X4.here hx rfl (pc0 := 22) (pc' := 61) rfl (hb hby d10_22) rfl (flt (own_nlt sg)).2.2.2 (by decide) (by decide) k) ?_
  show Go _ _ _ _ _ _ _ T4 (mkF m 61 #[.val (.ref a), .val (.int (Int32.ofNat sg))] [])
  refine Go.retV X4 hx hlk hret (hb hby d10_61) (by decide) (by decide) ?_
  try rw [e4]
  have w1 : Iv Z h3 xt (8 : Int32) tT := by rw [← hU]; exact V_xt_3
  exact ⟨rfl, N3, K3, ⟨E_a_3, F_changedNode_a_3, F_changedLine_a_3, F_base_a_3, F_slope_a_3, F_origin_a_3, F_node_a_3, F_pushedAt_a_3, F_width_a_3, F_pushes_a_3, F_changes_a_3, V_xn_3, V_xo_3, V_xu_3, V_xv_3, V_xw_3, w1, V_xm_3⟩⟩
theorem ef_rm10_20 (m : MethodId) (a : Addr) : entryFrame m #[(.ref a)] 2 = mkF m 0 #[.val (.ref a), .unset] [] := by first | (simp [entryFrame, mkF, argsToLocals, Value.category]; done) | rfl
theorem rm10_20 (l : Launch) (Z : State) (a0 : Array Value) (hw : ∀ d ∈ tables_1, d.before a0 Z = true) (a xn xo xu xv xw xt xm : Addr) (fP fQ fC fT fM fN fO : Nat → Int32) (tT tN tO : Nat → Int32) (sg : Nat) (h0 : Heap) (n0 : Nat) (Z0 : n0 ≤ h0.size) (hL : LEs Z h0 a xn xo xu xv xw xt xm fP fQ fC fT fM fN fO 2 sg) (hD : Dst n0 a xn xo xu xv xw xt xm) (hG : Good tT tN tO sg fT fN fO 0) (hM : fM 1 = Int32.ofNat sg) (hsg : sg ≤ 10) :
    Con l Z (⟨"com/example/headroom/headroom/LowerEnvelope", "pop", "()V"⟩ : MethodName) prog_15_method_3_code 2 none ({ frames := 0, cells := 0, slots := 0, locals := 0 } : Room) #[(.ref a)] h0 (fun r h L => r = none ∧ Fr n0 L ∧ Keep h0 h [a, xn, xo, xu, xv, xw, xt, xm] ∧ LEs Z h a xn xo xu xv xw xt xm fP fQ fC tT fM fN fO 1 sg) :=
  con_of (plainFor_of_name pn_9) (fun p_ e_ s_ m_ b_ meth_ c_ T_ X_ hx hZ hby hml hown hnm hret hlk e0 => Go.cast (ef_rm10_20 m_ a) (w10_20 a xn xo xu xv xw xt xm fP fQ fC fT fM fN fO tT tN tO sg X_ hx hZ hw hby hml hown hnm hret hlk e0 Z0 (Fr.nil n0) hL hD hG hM hsg))
set_option maxRecDepth 65536 in
set_option maxHeartbeats 40000000 in
theorem w10_21 {p : Program} {l : Launch} {e : Env} {s : State} {m : MethodId} {args : Array Value} {below : List Frame} {meth : Method} {c_ : Code} {T0 : State} {locs : List Loc} {Z : State} {a0 : Array Value} {h0 : Heap} {n0 : Nat} (a xn xo xu xv xw xt xm : Addr) (fP fQ fC fT fM fN fO : Nat → Int32) (tT tN tO : Nat → Int32) (sg : Nat)
    (X0 : Stand p l e ({ frames := 0, cells := 0, slots := 0, locals := 0 } : Room) s m args below meth c_ T0 locs 0 0) (hx : p.tables.exec = Jvm.exec) (hZ : Z.Warmed39 s.vm) (hw : ∀ d ∈ tables_1, d.before a0 Z = true) (hby : c_.code = prog_15_method_3_code) (hml : c_.maxLocals = 2) (hown : s.vm.findClass "com/example/headroom/headroom/LowerEnvelope" = some m.cls) (hnm : meth.name = "pop") (hret : meth.sig.returnType = none) (hlk : meth.locks = false) (e0 : T0.heap = h0) (Z0 : n0 ≤ h0.size) (N0 : Fr n0 locs) (hL : LEs Z h0 a xn xo xu xv xw xt xm fP fQ fC fT fM fN fO 2 (sg + 1)) (hD : Dst n0 a xn xo xu xv xw xt xm) (hG : Good tT tN tO sg fT fN fO 1) (hM : fM 1 = Int32.ofNat sg) (hsg : sg ≤ 10) :
    Go p e below s ({ frames := 0, cells := 0, slots := 0, locals := 0 } : Room).cells ({ frames := 0, cells := 0, slots := 0, locals := 0 } : Room).slots (fun r h L => r = none ∧ Fr n0 L ∧ Keep h0 h [a, xn, xo, xu, xv, xw, xt, xm] ∧ LEs Z h a xn xo xu xv xw xt xm fP fQ fC tT fM fN fO 1 sg) T0 (mkF m 0 #[.val (.ref a), .unset] []) := by
  have hDq := hD
  obtain ⟨ne_a_xn, ne_a_xo, ne_a_xu, ne_a_xv, ne_a_xw, ne_a_xt, ne_a_xm, ne_xn_xo, ne_xn_xu, ne_xn_xv, ne_xn_xw, ne_xn_xt, ne_xn_xm, ne_xo_xu, ne_xo_xv, ne_xo_xw, ne_xo_xt, ne_xo_xm, ne_xu_xv, ne_xu_xw, ne_xu_xt, ne_xu_xm, ne_xv_xw, ne_xv_xt, ne_xv_xm, ne_xw_xt, ne_xw_xm, ne_xt_xm, ge_a, ge_xn, ge_xo, ge_xu, ge_xv, ge_xw, ge_xt, ge_xm⟩ := hDq
  obtain ⟨E_a_0, F_changedNode_a_0, F_changedLine_a_0, F_base_a_0, F_slope_a_0, F_origin_a_0, F_node_a_0, F_pushedAt_a_0, F_width_a_0, F_pushes_a_0, F_changes_a_0, V_xn_0, V_xo_0, V_xu_0, V_xv_0, V_xw_0, V_xt_0, V_xm_0⟩ := hL
  obtain ⟨hb0, hU⟩ := hG.1
  show Go _ _ _ _ _ _ _ T0 (mkF m 0 #[.val (.ref a), .unset] [])
  refine Go.step (fun _ k => XS.aloadN X0.here hx rfl (hb hby d10_0) rfl rfl k) ?_
  obtain ⟨T1, X1, e1, st1⟩ := getF X0 hx hZ hown (host := "") (Or.inl (hw _ (mI 38 rfl))) Via.refl e0 F_pushedAt_a_0 (g := (mkF m 1 #[.val (.ref a), .unset] [(.ref a)])) rfl rfl (hb hby d10_1)
  refine Go.step st1 ?_
  show Go _ _ _ _ _ _ _ T1 (mkF m 4 #[.val (.ref a), .unset] [(.ref xm)])
  refine Go.step (fun _ k => XS.aloadN X1.here hx rfl (hb hby d10_4) rfl rfl k) ?_
  refine Go.step (fun _ k => XS.dup X1.here hx rfl (hb hby d10_5) rfl rfl k) ?_
  obtain ⟨T2, X2, e2, st2⟩ := getF X1 hx hZ hown (host := "") (Or.inl (hw _ (mI 49 rfl))) Via.refl e1 F_pushes_a_0 (g := (mkF m 6 #[.val (.ref a), .unset] [(.ref a), (.ref a), (.ref xm)])) rfl rfl (hb hby d10_6)
  refine Go.step st2 ?_
  show Go _ _ _ _ _ _ _ T2 (mkF m 9 #[.val (.ref a), .unset] [(.int (2 : Int32)), (.ref a), (.ref xm)])
  refine Go.step (fun _ k => XS.iconst X2.here hx rfl (hb hby d10_9) k) ?_
  refine Go.step (fun _ k => XS.isub X2.here hx rfl (hb hby d10_10) rfl k) ?_
  show Go _ _ _ _ _ _ _ T2 (mkF m 11 #[.val (.ref a), .unset] [(.int (1 : Int32)), (.ref a), (.ref xm)])
  refine Go.step (fun _ k => XS.dupX1 X2.here hx rfl (hb hby d10_11) rfl rfl rfl k) ?_
  show Go _ _ _ _ _ _ _ T2 (mkF m 12 #[.val (.ref a), .unset] [(.int (1 : Int32)), (.ref a), (.int (1 : Int32)), (.ref xm)])
  obtain ⟨T3, h3, X3, e3, W3, st3⟩ := putF X2 hx hZ hown (host := "") (Or.inl (hw _ (mI 49 rfl))) Via.refl e2 F_pushes_a_0 E_a_0 (Or.inl (hw _ (mI 50 rfl))) (hw _ (mI 1 rfl)) (ty := .int) (by decide) rfl rfl (g := (mkF m 12 #[.val (.ref a), .unset] [(.int (1 : Int32)), (.ref a), (.int (1 : Int32)), (.ref xm)])) rfl rfl (hb hby d10_12)
  refine Go.step st3 ?_
  have N3 := Fr.snoc X3 N0 ge_a
  have F_pushes_a_3 := F_pushes_a_0.same W3
  have E_a_3 := E_a_0.wr W3
  have F_changedNode_a_3 := F_changedNode_a_0.other W3 (Or.inr (slot_ne (Or.inl (hw _ (mI 11 rfl))) (Or.inl (hw _ (mI 50 rfl))) (by decide) (t := (.array .int)) (t' := .int) (by decide) (by decide)))
  have F_changedLine_a_3 := F_changedLine_a_0.other W3 (Or.inr (slot_ne (Or.inl (hw _ (mI 13 rfl))) (Or.inl (hw _ (mI 50 rfl))) (by decide) (t := (.array .int)) (t' := .int) (by decide) (by decide)))
  have F_base_a_3 := F_base_a_0.other W3 (Or.inr (slot_ne (Or.inr (hw _ (mI 31 rfl))) (Or.inl (hw _ (mI 50 rfl))) (by decide) (t := (.array .double)) (t' := .int) (by decide) (by decide)))
  have F_slope_a_3 := F_slope_a_0.other W3 (Or.inr (slot_ne (Or.inr (hw _ (mI 33 rfl))) (Or.inl (hw _ (mI 50 rfl))) (by decide) (t := (.array .double)) (t' := .int) (by decide) (by decide)))
  have F_origin_a_3 := F_origin_a_0.other W3 (Or.inr (slot_ne (Or.inr (hw _ (mI 35 rfl))) (Or.inl (hw _ (mI 50 rfl))) (by decide) (t := (.array .int)) (t' := .int) (by decide) (by decide)))
  have F_node_a_3 := F_node_a_0.other W3 (Or.inr (slot_ne (Or.inr (hw _ (mI 37 rfl))) (Or.inl (hw _ (mI 50 rfl))) (by decide) (t := (.array .int)) (t' := .int) (by decide) (by decide)))
  have F_pushedAt_a_3 := F_pushedAt_a_0.other W3 (Or.inr (slot_ne (Or.inr (hw _ (mI 39 rfl))) (Or.inl (hw _ (mI 50 rfl))) (by decide) (t := (.array .int)) (t' := .int) (by decide) (by decide)))
  have F_width_a_3 := F_width_a_0.other W3 (Or.inr (slot_ne (Or.inr (hw _ (mI 28 rfl))) (Or.inl (hw _ (mI 50 rfl))) (by decide) (t := .int) (t' := .int) (by decide) (by decide)))
  have F_changes_a_3 := F_changes_a_0.other W3 (Or.inr (slot_ne (Or.inl (hw _ (mI 52 rfl))) (Or.inl (hw _ (mI 50 rfl))) (by decide) (t := .int) (t' := .int) (by decide) (by decide)))
  have V_xn_3 := V_xn_0.other W3 (Ne.symm ne_a_xn)
  have V_xo_3 := V_xo_0.other W3 (Ne.symm ne_a_xo)
  have V_xu_3 := V_xu_0.other W3 (Ne.symm ne_a_xu)
  have V_xv_3 := V_xv_0.other W3 (Ne.symm ne_a_xv)
  have V_xw_3 := V_xw_0.other W3 (Ne.symm ne_a_xw)
  have V_xt_3 := V_xt_0.other W3 (Ne.symm ne_a_xt)
  have V_xm_3 := V_xm_0.other W3 (Ne.symm ne_a_xm)
  have K3 : Keep h0 h3 [a, xn, xo, xu, xv, xw, xt, xm] := (Keep.refl h0 [a, xn, xo, xu, xv, xw, xt, xm]).wr W3 (Or.inl (List.mem_of_getElem? (i := 0) rfl))
  show Go _ _ _ _ _ _ _ T3 (mkF m 15 #[.val (.ref a), .unset] [(.int (1 : Int32)), (.ref xm)])
  refine Go.iaload X3 hx hZ e3 V_xm_3 (j := (1 : Int32)) (v := (Int32.ofNat sg)) (by decide) hM (hb hby d10_15) ?_
  show Go _ _ _ _ _ _ _ T3 (mkF m 16 #[.val (.ref a), .unset] [(.int (Int32.ofNat sg))])
  refine Go.step (fun _ k => XS.istoreN X3.here hx rfl (hb hby d10_16) rfl (l' := #[.val (.ref a), .val (.int (Int32.ofNat sg))]) rfl k) ?_
  show Go _ _ _ _ _ _ _ T3 (mkF m 17 #[.val (.ref a), .val (.int (Int32.ofNat sg))] [])
  refine Go.step (fun _ k => XS.aloadN X3.here hx rfl (hb hby d10_17) rfl rfl k) ?_
  obtain ⟨T4, X4, e4, st4⟩ := getF X3 hx hZ hown (host := "") (Or.inl (hw _ (mI 51 rfl))) Via.refl e3 F_changes_a_3 (g := (mkF m 18 #[.val (.ref a), .val (.int (Int32.ofNat sg))] [(.ref a)])) rfl rfl (hb hby d10_18)
  refine Go.step st4 ?_
  show Go _ _ _ _ _ _ _ T4 (mkF m 21 #[.val (.ref a), .val (.int (Int32.ofNat sg))] [(.int (Int32.ofNat (sg + 1)))])
  refine Go.step (fun _ k => XS.iloadN X4.here hx rfl (hb hby d10_21) rfl k) ?_
  refine Go.step (fun _ k => XS.icmpNo X4.here hx rfl (hb hby d10_22) rfl (tlt (own_ltS (by omega) (by omega) (by omega))).2.2.2 k) ?_
  show Go _ _ _ _ _ _ _ T4 (mkF m 25 #[.val (.ref a), .val (.int (Int32.ofNat sg))] [])
  refine Go.step (fun _ k => XS.aloadN X4.here hx rfl (hb hby d10_25) rfl rfl k) ?_
  refine Go.step (fun _ k => XS.dup X4.here hx rfl (hb hby d10_26) rfl rfl k) ?_
  obtain ⟨T5, X5, e5, st5⟩ := getF X4 hx hZ hown (host := "") (Or.inl (hw _ (mI 51 rfl))) Via.refl e4 F_changes_a_3 (g := (mkF m 27 #[.val (.ref a), .val (.int (Int32.ofNat sg))] [(.ref a), (.ref a)])) rfl rfl (hb hby d10_27)
  refine Go.step st5 ?_
  show Go _ _ _ _ _ _ _ T5 (mkF m 30 #[.val (.ref a), .val (.int (Int32.ofNat sg))] [(.int (Int32.ofNat (sg + 1))), (.ref a)])
  refine Go.step (fun _ k => XS.iconst X5.here hx rfl (hb hby d10_30) k) ?_
  refine Go.step (fun _ k => XS.isub X5.here hx rfl (hb hby d10_31) rfl k) ?_
  show Go _ _ _ _ _ _ _ T5 (mkF m 32 #[.val (.ref a), .val (.int (Int32.ofNat sg))] [(.int ((Int32.ofNat (sg + 1)) - (1 : Int32))), (.ref a)])
  rw [show ((Int32.ofNat (sg + 1)) - (1 : Int32)) = Int32.ofNat sg from own_pre sg]
  show Go _ _ _ _ _ _ _ T5 (mkF m 32 #[.val (.ref a), .val (.int (Int32.ofNat sg))] [(.int (Int32.ofNat sg)), (.ref a)])
  obtain ⟨T6, h6, X6, e6, W6, st6⟩ := putF X5 hx hZ hown (host := "") (Or.inl (hw _ (mI 51 rfl))) Via.refl e5 F_changes_a_3 E_a_3 (Or.inl (hw _ (mI 52 rfl))) (hw _ (mI 1 rfl)) (ty := .int) (by decide) rfl rfl (g := (mkF m 32 #[.val (.ref a), .val (.int (Int32.ofNat sg))] [(.int (Int32.ofNat sg)), (.ref a)])) rfl rfl (hb hby d10_32)
  refine Go.step st6 ?_
  have N6 := Fr.snoc X6 N3 ge_a
  have F_changes_a_6 := F_changes_a_3.same W6
  have E_a_6 := E_a_3.wr W6
  have F_changedNode_a_6 := F_changedNode_a_3.other W6 (Or.inr (slot_ne (Or.inl (hw _ (mI 11 rfl))) (Or.inl (hw _ (mI 52 rfl))) (by decide) (t := (.array .int)) (t' := .int) (by decide) (by decide)))
  have F_changedLine_a_6 := F_changedLine_a_3.other W6 (Or.inr (slot_ne (Or.inl (hw _ (mI 13 rfl))) (Or.inl (hw _ (mI 52 rfl))) (by decide) (t := (.array .int)) (t' := .int) (by decide) (by decide)))
  have F_base_a_6 := F_base_a_3.other W6 (Or.inr (slot_ne (Or.inr (hw _ (mI 31 rfl))) (Or.inl (hw _ (mI 52 rfl))) (by decide) (t := (.array .double)) (t' := .int) (by decide) (by decide)))
  have F_slope_a_6 := F_slope_a_3.other W6 (Or.inr (slot_ne (Or.inr (hw _ (mI 33 rfl))) (Or.inl (hw _ (mI 52 rfl))) (by decide) (t := (.array .double)) (t' := .int) (by decide) (by decide)))
  have F_origin_a_6 := F_origin_a_3.other W6 (Or.inr (slot_ne (Or.inr (hw _ (mI 35 rfl))) (Or.inl (hw _ (mI 52 rfl))) (by decide) (t := (.array .int)) (t' := .int) (by decide) (by decide)))
  have F_node_a_6 := F_node_a_3.other W6 (Or.inr (slot_ne (Or.inr (hw _ (mI 37 rfl))) (Or.inl (hw _ (mI 52 rfl))) (by decide) (t := (.array .int)) (t' := .int) (by decide) (by decide)))
  have F_pushedAt_a_6 := F_pushedAt_a_3.other W6 (Or.inr (slot_ne (Or.inr (hw _ (mI 39 rfl))) (Or.inl (hw _ (mI 52 rfl))) (by decide) (t := (.array .int)) (t' := .int) (by decide) (by decide)))
  have F_width_a_6 := F_width_a_3.other W6 (Or.inr (slot_ne (Or.inr (hw _ (mI 28 rfl))) (Or.inl (hw _ (mI 52 rfl))) (by decide) (t := .int) (t' := .int) (by decide) (by decide)))
  have F_pushes_a_6 := F_pushes_a_3.other W6 (Or.inr (slot_ne (Or.inl (hw _ (mI 50 rfl))) (Or.inl (hw _ (mI 52 rfl))) (by decide) (t := .int) (t' := .int) (by decide) (by decide)))
  have V_xn_6 := V_xn_3.other W6 (Ne.symm ne_a_xn)
  have V_xo_6 := V_xo_3.other W6 (Ne.symm ne_a_xo)
  have V_xu_6 := V_xu_3.other W6 (Ne.symm ne_a_xu)
  have V_xv_6 := V_xv_3.other W6 (Ne.symm ne_a_xv)
  have V_xw_6 := V_xw_3.other W6 (Ne.symm ne_a_xw)
  have V_xt_6 := V_xt_3.other W6 (Ne.symm ne_a_xt)
  have V_xm_6 := V_xm_3.other W6 (Ne.symm ne_a_xm)
  have K6 : Keep h0 h6 [a, xn, xo, xu, xv, xw, xt, xm] := K3.wr W6 (Or.inl (List.mem_of_getElem? (i := 0) rfl))
  show Go _ _ _ _ _ _ _ T6 (mkF m 35 #[.val (.ref a), .val (.int (Int32.ofNat sg))] [])
  refine Go.step (fun _ k => XS.aloadN X6.here hx rfl (hb hby d10_35) rfl rfl k) ?_
  obtain ⟨T7, X7, e7, st7⟩ := getF X6 hx hZ hown (host := "") (Or.inl (hw _ (mI 36 rfl))) Via.refl e6 F_node_a_6 (g := (mkF m 36 #[.val (.ref a), .val (.int (Int32.ofNat sg))] [(.ref a)])) rfl rfl (hb hby d10_36)
  refine Go.step st7 ?_
  show Go _ _ _ _ _ _ _ T7 (mkF m 39 #[.val (.ref a), .val (.int (Int32.ofNat sg))] [(.ref xt)])
  refine Go.step (fun _ k => XS.aloadN X7.here hx rfl (hb hby d10_39) rfl rfl k) ?_
  obtain ⟨T8, X8, e8, st8⟩ := getF X7 hx hZ hown (host := "") (Or.inl (hw _ (mI 10 rfl))) Via.refl e7 F_changedNode_a_6 (g := (mkF m 40 #[.val (.ref a), .val (.int (Int32.ofNat sg))] [(.ref a), (.ref xt)])) rfl rfl (hb hby d10_40)
  refine Go.step st8 ?_
  show Go _ _ _ _ _ _ _ T8 (mkF m 43 #[.val (.ref a), .val (.int (Int32.ofNat sg))] [(.ref xn), (.ref xt)])
  refine Go.step (fun _ k => XS.aloadN X8.here hx rfl (hb hby d10_43) rfl rfl k) ?_
  obtain ⟨T9, X9, e9, st9⟩ := getF X8 hx hZ hown (host := "") (Or.inl (hw _ (mI 51 rfl))) Via.refl e8 F_changes_a_6 (g := (mkF m 44 #[.val (.ref a), .val (.int (Int32.ofNat sg))] [(.ref a), (.ref xn), (.ref xt)])) rfl rfl (hb hby d10_44)
  refine Go.step st9 ?_
  show Go _ _ _ _ _ _ _ T9 (mkF m 47 #[.val (.ref a), .val (.int (Int32.ofNat sg))] [(.int (Int32.ofNat sg)), (.ref xn), (.ref xt)])
  refine Go.iaload X9 hx hZ e9 V_xn_6 (j := (Int32.ofNat sg)) (v := (fN sg)) (own_b64 (by omega)) (by rw [own_nat (by omega)]) (hb hby d10_47) ?_
  show Go _ _ _ _ _ _ _ T9 (mkF m 48 #[.val (.ref a), .val (.int (Int32.ofNat sg))] [(.int (fN sg)), (.ref xt)])
  refine Go.step (fun _ k => XS.aloadN X9.here hx rfl (hb hby d10_48) rfl rfl k) ?_
  obtain ⟨T10, X10, e10, st10⟩ := getF X9 hx hZ hown (host := "") (Or.inl (hw _ (mI 12 rfl))) Via.refl e9 F_changedLine_a_6 (g := (mkF m 49 #[.val (.ref a), .val (.int (Int32.ofNat sg))] [(.ref a), (.int (fN sg)), (.ref xt)])) rfl rfl (hb hby d10_49)
  refine Go.step st10 ?_
  show Go _ _ _ _ _ _ _ T10 (mkF m 52 #[.val (.ref a), .val (.int (Int32.ofNat sg))] [(.ref xo), (.int (fN sg)), (.ref xt)])
  refine Go.step (fun _ k => XS.aloadN X10.here hx rfl (hb hby d10_52) rfl rfl k) ?_
  obtain ⟨T11, X11, e11, st11⟩ := getF X10 hx hZ hown (host := "") (Or.inl (hw _ (mI 51 rfl))) Via.refl e10 F_changes_a_6 (g := (mkF m 53 #[.val (.ref a), .val (.int (Int32.ofNat sg))] [(.ref a), (.ref xo), (.int (fN sg)), (.ref xt)])) rfl rfl (hb hby d10_53)
  refine Go.step st11 ?_
  show Go _ _ _ _ _ _ _ T11 (mkF m 56 #[.val (.ref a), .val (.int (Int32.ofNat sg))] [(.int (Int32.ofNat sg)), (.ref xo), (.int (fN sg)), (.ref xt)])
  refine Go.iaload X11 hx hZ e11 V_xo_6 (j := (Int32.ofNat sg)) (v := (fO sg)) (own_b64 (by omega)) (by rw [own_nat (by omega)]) (hb hby d10_56) ?_
  show Go _ _ _ _ _ _ _ T11 (mkF m 57 #[.val (.ref a), .val (.int (Int32.ofNat sg))] [(.int (fO sg)), (.int (fN sg)), (.ref xt)])
  refine Go.iastore X11 hx hZ e11 V_xt_6 (j := (fN sg)) (x := (fO sg)) hb0 (hb hby d10_57) ?_
  intro T12 h12 X12 e12 W12 Vn12
  have V_xt_12 : Iv Z h12 xt (8 : Int32) (updN fT ((fN sg)).toNatClampNeg (fO sg)) := Vn12
  have N12 := Fr.snoc X12 N6 ge_xt
  have E_a_12 := E_a_6.wr W12
  have F_changedNode_a_12 := F_changedNode_a_6.other W12 (Or.inl ne_a_xt)
  have F_changedLine_a_12 := F_changedLine_a_6.other W12 (Or.inl ne_a_xt)
  have F_base_a_12 := F_base_a_6.other W12 (Or.inl ne_a_xt)
  have F_slope_a_12 := F_slope_a_6.other W12 (Or.inl ne_a_xt)
  have F_origin_a_12 := F_origin_a_6.other W12 (Or.inl ne_a_xt)
  have F_node_a_12 := F_node_a_6.other W12 (Or.inl ne_a_xt)
  have F_pushedAt_a_12 := F_pushedAt_a_6.other W12 (Or.inl ne_a_xt)
  have F_width_a_12 := F_width_a_6.other W12 (Or.inl ne_a_xt)
  have F_pushes_a_12 := F_pushes_a_6.other W12 (Or.inl ne_a_xt)
  have F_changes_a_12 := F_changes_a_6.other W12 (Or.inl ne_a_xt)
  have V_xn_12 := V_xn_6.other W12 ne_xn_xt
  have V_xo_12 := V_xo_6.other W12 ne_xo_xt
  have V_xu_12 := V_xu_6.other W12 ne_xu_xt
  have V_xv_12 := V_xv_6.other W12 ne_xv_xt
  have V_xw_12 := V_xw_6.other W12 ne_xw_xt
  have V_xm_12 := V_xm_6.other W12 (Ne.symm ne_xt_xm)
  have K12 : Keep h0 h12 [a, xn, xo, xu, xv, xw, xt, xm] := K6.wr W12 (Or.inl (List.mem_of_getElem? (i := 6) rfl))
  show Go _ _ _ _ _ _ _ T12 (mkF m 58 #[.val (.ref a), .val (.int (Int32.ofNat sg))] [])
  refine Go.step (fun _ k => XS.goto X12.here hx rfl (pc0 := 58) (pc' := 17) rfl (hb hby d10_58) (by decide) (by decide) k) ?_
  show Go _ _ _ _ _ _ _ T12 (mkF m 17 #[.val (.ref a), .val (.int (Int32.ofNat sg))] [])
  refine Go.step (fun _ k => XS.aloadN X12.here hx rfl (hb hby d10_17) rfl rfl k) ?_
  obtain ⟨T13, X13, e13, st13⟩ := getF X12 hx hZ hown (host := "") (Or.inl (hw _ (mI 51 rfl))) Via.refl e12 F_changes_a_12 (g := (mkF m 18 #[.val (.ref a), .val (.int (Int32.ofNat sg))] [(.ref a)])) rfl rfl (hb hby d10_18)
  refine Go.step st13 ?_
  show Go _ _ _ _ _ _ _ T13 (mkF m 21 #[.val (.ref a), .val (.int (Int32.ofNat sg))] [(.int (Int32.ofNat sg))])
  refine Go.step (fun _ k => XS.iloadN X13.here hx rfl (hb hby d10_21) rfl k) ?_
  refine Go.step (fun _ k => XS.icmpYes X13.here hx rfl (pc0 := 22) (pc' := 61) rfl (hb hby d10_22) rfl (flt (own_nlt sg)).2.2.2 (by decide) (by decide) k) ?_
  show Go _ _ _ _ _ _ _ T13 (mkF m 61 #[.val (.ref a), .val (.int (Int32.ofNat sg))] [])
  refine Go.retV X13 hx hlk hret (hb hby d10_61) (by decide) (by decide) ?_
  try rw [e13]
  have w1 : Iv Z h12 xt (8 : Int32) tT := by rw [← hU]; exact V_xt_12
  exact ⟨rfl, N12, K12, ⟨E_a_12, F_changedNode_a_12, F_changedLine_a_12, F_base_a_12, F_slope_a_12, F_origin_a_12, F_node_a_12, F_pushedAt_a_12, F_width_a_12, F_pushes_a_12, F_changes_a_12, V_xn_12, V_xo_12, V_xu_12, V_xv_12, V_xw_12, w1, V_xm_12⟩⟩
theorem ef_rm10_21 (m : MethodId) (a : Addr) : entryFrame m #[(.ref a)] 2 = mkF m 0 #[.val (.ref a), .unset] [] := by first | (simp [entryFrame, mkF, argsToLocals, Value.category]; done) | rfl
theorem rm10_21 (l : Launch) (Z : State) (a0 : Array Value) (hw : ∀ d ∈ tables_1, d.before a0 Z = true) (a xn xo xu xv xw xt xm : Addr) (fP fQ fC fT fM fN fO : Nat → Int32) (tT tN tO : Nat → Int32) (sg : Nat) (h0 : Heap) (n0 : Nat) (Z0 : n0 ≤ h0.size) (hL : LEs Z h0 a xn xo xu xv xw xt xm fP fQ fC fT fM fN fO 2 (sg + 1)) (hD : Dst n0 a xn xo xu xv xw xt xm) (hG : Good tT tN tO sg fT fN fO 1) (hM : fM 1 = Int32.ofNat sg) (hsg : sg ≤ 10) :
    Con l Z (⟨"com/example/headroom/headroom/LowerEnvelope", "pop", "()V"⟩ : MethodName) prog_15_method_3_code 2 none ({ frames := 0, cells := 0, slots := 0, locals := 0 } : Room) #[(.ref a)] h0 (fun r h L => r = none ∧ Fr n0 L ∧ Keep h0 h [a, xn, xo, xu, xv, xw, xt, xm] ∧ LEs Z h a xn xo xu xv xw xt xm fP fQ fC tT fM fN fO 1 sg) :=
  con_of (plainFor_of_name pn_9) (fun p_ e_ s_ m_ b_ meth_ c_ T_ X_ hx hZ hby hml hown hnm hret hlk e0 => Go.cast (ef_rm10_21 m_ a) (w10_21 a xn xo xu xv xw xt xm fP fQ fC fT fM fN fO tT tN tO sg X_ hx hZ hw hby hml hown hnm hret hlk e0 Z0 (Fr.nil n0) hL hD hG hM hsg))
set_option maxRecDepth 65536 in
set_option maxHeartbeats 40000000 in
theorem w10_22 {p : Program} {l : Launch} {e : Env} {s : State} {m : MethodId} {args : Array Value} {below : List Frame} {meth : Method} {c_ : Code} {T0 : State} {locs : List Loc} {Z : State} {a0 : Array Value} {h0 : Heap} {n0 : Nat} (a xn xo xu xv xw xt xm : Addr) (fP fQ fC fT fM fN fO : Nat → Int32) (tT tN tO : Nat → Int32) (sg : Nat)
    (X0 : Stand p l e ({ frames := 0, cells := 0, slots := 0, locals := 0 } : Room) s m args below meth c_ T0 locs 0 0) (hx : p.tables.exec = Jvm.exec) (hZ : Z.Warmed39 s.vm) (hw : ∀ d ∈ tables_1, d.before a0 Z = true) (hby : c_.code = prog_15_method_3_code) (hml : c_.maxLocals = 2) (hown : s.vm.findClass "com/example/headroom/headroom/LowerEnvelope" = some m.cls) (hnm : meth.name = "pop") (hret : meth.sig.returnType = none) (hlk : meth.locks = false) (e0 : T0.heap = h0) (Z0 : n0 ≤ h0.size) (N0 : Fr n0 locs) (hL : LEs Z h0 a xn xo xu xv xw xt xm fP fQ fC fT fM fN fO 2 (sg + 2)) (hD : Dst n0 a xn xo xu xv xw xt xm) (hG : Good tT tN tO sg fT fN fO 2) (hM : fM 1 = Int32.ofNat sg) (hsg : sg ≤ 10) :
    Go p e below s ({ frames := 0, cells := 0, slots := 0, locals := 0 } : Room).cells ({ frames := 0, cells := 0, slots := 0, locals := 0 } : Room).slots (fun r h L => r = none ∧ Fr n0 L ∧ Keep h0 h [a, xn, xo, xu, xv, xw, xt, xm] ∧ LEs Z h a xn xo xu xv xw xt xm fP fQ fC tT fM fN fO 1 sg) T0 (mkF m 0 #[.val (.ref a), .unset] []) := by
  have hDq := hD
  obtain ⟨ne_a_xn, ne_a_xo, ne_a_xu, ne_a_xv, ne_a_xw, ne_a_xt, ne_a_xm, ne_xn_xo, ne_xn_xu, ne_xn_xv, ne_xn_xw, ne_xn_xt, ne_xn_xm, ne_xo_xu, ne_xo_xv, ne_xo_xw, ne_xo_xt, ne_xo_xm, ne_xu_xv, ne_xu_xw, ne_xu_xt, ne_xu_xm, ne_xv_xw, ne_xv_xt, ne_xv_xm, ne_xw_xt, ne_xw_xm, ne_xt_xm, ge_a, ge_xn, ge_xo, ge_xu, ge_xv, ge_xw, ge_xt, ge_xm⟩ := hDq
  obtain ⟨E_a_0, F_changedNode_a_0, F_changedLine_a_0, F_base_a_0, F_slope_a_0, F_origin_a_0, F_node_a_0, F_pushedAt_a_0, F_width_a_0, F_pushes_a_0, F_changes_a_0, V_xn_0, V_xo_0, V_xu_0, V_xv_0, V_xw_0, V_xt_0, V_xm_0⟩ := hL
  obtain ⟨hb1, hb0, hU⟩ := hG.1
  show Go _ _ _ _ _ _ _ T0 (mkF m 0 #[.val (.ref a), .unset] [])
  refine Go.step (fun _ k => XS.aloadN X0.here hx rfl (hb hby d10_0) rfl rfl k) ?_
  obtain ⟨T1, X1, e1, st1⟩ := getF X0 hx hZ hown (host := "") (Or.inl (hw _ (mI 38 rfl))) Via.refl e0 F_pushedAt_a_0 (g := (mkF m 1 #[.val (.ref a), .unset] [(.ref a)])) rfl rfl (hb hby d10_1)
  refine Go.step st1 ?_
  show Go _ _ _ _ _ _ _ T1 (mkF m 4 #[.val (.ref a), .unset] [(.ref xm)])
  refine Go.step (fun _ k => XS.aloadN X1.here hx rfl (hb hby d10_4) rfl rfl k) ?_
  refine Go.step (fun _ k => XS.dup X1.here hx rfl (hb hby d10_5) rfl rfl k) ?_
  obtain ⟨T2, X2, e2, st2⟩ := getF X1 hx hZ hown (host := "") (Or.inl (hw _ (mI 49 rfl))) Via.refl e1 F_pushes_a_0 (g := (mkF m 6 #[.val (.ref a), .unset] [(.ref a), (.ref a), (.ref xm)])) rfl rfl (hb hby d10_6)
  refine Go.step st2 ?_
  show Go _ _ _ _ _ _ _ T2 (mkF m 9 #[.val (.ref a), .unset] [(.int (2 : Int32)), (.ref a), (.ref xm)])
  refine Go.step (fun _ k => XS.iconst X2.here hx rfl (hb hby d10_9) k) ?_
  refine Go.step (fun _ k => XS.isub X2.here hx rfl (hb hby d10_10) rfl k) ?_
  show Go _ _ _ _ _ _ _ T2 (mkF m 11 #[.val (.ref a), .unset] [(.int (1 : Int32)), (.ref a), (.ref xm)])
  refine Go.step (fun _ k => XS.dupX1 X2.here hx rfl (hb hby d10_11) rfl rfl rfl k) ?_
  show Go _ _ _ _ _ _ _ T2 (mkF m 12 #[.val (.ref a), .unset] [(.int (1 : Int32)), (.ref a), (.int (1 : Int32)), (.ref xm)])
  obtain ⟨T3, h3, X3, e3, W3, st3⟩ := putF X2 hx hZ hown (host := "") (Or.inl (hw _ (mI 49 rfl))) Via.refl e2 F_pushes_a_0 E_a_0 (Or.inl (hw _ (mI 50 rfl))) (hw _ (mI 1 rfl)) (ty := .int) (by decide) rfl rfl (g := (mkF m 12 #[.val (.ref a), .unset] [(.int (1 : Int32)), (.ref a), (.int (1 : Int32)), (.ref xm)])) rfl rfl (hb hby d10_12)
  refine Go.step st3 ?_
  have N3 := Fr.snoc X3 N0 ge_a
  have F_pushes_a_3 := F_pushes_a_0.same W3
  have E_a_3 := E_a_0.wr W3
  have F_changedNode_a_3 := F_changedNode_a_0.other W3 (Or.inr (slot_ne (Or.inl (hw _ (mI 11 rfl))) (Or.inl (hw _ (mI 50 rfl))) (by decide) (t := (.array .int)) (t' := .int) (by decide) (by decide)))
  have F_changedLine_a_3 := F_changedLine_a_0.other W3 (Or.inr (slot_ne (Or.inl (hw _ (mI 13 rfl))) (Or.inl (hw _ (mI 50 rfl))) (by decide) (t := (.array .int)) (t' := .int) (by decide) (by decide)))
  have F_base_a_3 := F_base_a_0.other W3 (Or.inr (slot_ne (Or.inr (hw _ (mI 31 rfl))) (Or.inl (hw _ (mI 50 rfl))) (by decide) (t := (.array .double)) (t' := .int) (by decide) (by decide)))
  have F_slope_a_3 := F_slope_a_0.other W3 (Or.inr (slot_ne (Or.inr (hw _ (mI 33 rfl))) (Or.inl (hw _ (mI 50 rfl))) (by decide) (t := (.array .double)) (t' := .int) (by decide) (by decide)))
  have F_origin_a_3 := F_origin_a_0.other W3 (Or.inr (slot_ne (Or.inr (hw _ (mI 35 rfl))) (Or.inl (hw _ (mI 50 rfl))) (by decide) (t := (.array .int)) (t' := .int) (by decide) (by decide)))
  have F_node_a_3 := F_node_a_0.other W3 (Or.inr (slot_ne (Or.inr (hw _ (mI 37 rfl))) (Or.inl (hw _ (mI 50 rfl))) (by decide) (t := (.array .int)) (t' := .int) (by decide) (by decide)))
  have F_pushedAt_a_3 := F_pushedAt_a_0.other W3 (Or.inr (slot_ne (Or.inr (hw _ (mI 39 rfl))) (Or.inl (hw _ (mI 50 rfl))) (by decide) (t := (.array .int)) (t' := .int) (by decide) (by decide)))
  have F_width_a_3 := F_width_a_0.other W3 (Or.inr (slot_ne (Or.inr (hw _ (mI 28 rfl))) (Or.inl (hw _ (mI 50 rfl))) (by decide) (t := .int) (t' := .int) (by decide) (by decide)))
  have F_changes_a_3 := F_changes_a_0.other W3 (Or.inr (slot_ne (Or.inl (hw _ (mI 52 rfl))) (Or.inl (hw _ (mI 50 rfl))) (by decide) (t := .int) (t' := .int) (by decide) (by decide)))
  have V_xn_3 := V_xn_0.other W3 (Ne.symm ne_a_xn)
  have V_xo_3 := V_xo_0.other W3 (Ne.symm ne_a_xo)
  have V_xu_3 := V_xu_0.other W3 (Ne.symm ne_a_xu)
  have V_xv_3 := V_xv_0.other W3 (Ne.symm ne_a_xv)
  have V_xw_3 := V_xw_0.other W3 (Ne.symm ne_a_xw)
  have V_xt_3 := V_xt_0.other W3 (Ne.symm ne_a_xt)
  have V_xm_3 := V_xm_0.other W3 (Ne.symm ne_a_xm)
  have K3 : Keep h0 h3 [a, xn, xo, xu, xv, xw, xt, xm] := (Keep.refl h0 [a, xn, xo, xu, xv, xw, xt, xm]).wr W3 (Or.inl (List.mem_of_getElem? (i := 0) rfl))
  show Go _ _ _ _ _ _ _ T3 (mkF m 15 #[.val (.ref a), .unset] [(.int (1 : Int32)), (.ref xm)])
  refine Go.iaload X3 hx hZ e3 V_xm_3 (j := (1 : Int32)) (v := (Int32.ofNat sg)) (by decide) hM (hb hby d10_15) ?_
  show Go _ _ _ _ _ _ _ T3 (mkF m 16 #[.val (.ref a), .unset] [(.int (Int32.ofNat sg))])
  refine Go.step (fun _ k => XS.istoreN X3.here hx rfl (hb hby d10_16) rfl (l' := #[.val (.ref a), .val (.int (Int32.ofNat sg))]) rfl k) ?_
  show Go _ _ _ _ _ _ _ T3 (mkF m 17 #[.val (.ref a), .val (.int (Int32.ofNat sg))] [])
  refine Go.step (fun _ k => XS.aloadN X3.here hx rfl (hb hby d10_17) rfl rfl k) ?_
  obtain ⟨T4, X4, e4, st4⟩ := getF X3 hx hZ hown (host := "") (Or.inl (hw _ (mI 51 rfl))) Via.refl e3 F_changes_a_3 (g := (mkF m 18 #[.val (.ref a), .val (.int (Int32.ofNat sg))] [(.ref a)])) rfl rfl (hb hby d10_18)
  refine Go.step st4 ?_
  show Go _ _ _ _ _ _ _ T4 (mkF m 21 #[.val (.ref a), .val (.int (Int32.ofNat sg))] [(.int (Int32.ofNat (sg + 2)))])
  refine Go.step (fun _ k => XS.iloadN X4.here hx rfl (hb hby d10_21) rfl k) ?_
  refine Go.step (fun _ k => XS.icmpNo X4.here hx rfl (hb hby d10_22) rfl (tlt (own_ltS (by omega) (by omega) (by omega))).2.2.2 k) ?_
  show Go _ _ _ _ _ _ _ T4 (mkF m 25 #[.val (.ref a), .val (.int (Int32.ofNat sg))] [])
  refine Go.step (fun _ k => XS.aloadN X4.here hx rfl (hb hby d10_25) rfl rfl k) ?_
  refine Go.step (fun _ k => XS.dup X4.here hx rfl (hb hby d10_26) rfl rfl k) ?_
  obtain ⟨T5, X5, e5, st5⟩ := getF X4 hx hZ hown (host := "") (Or.inl (hw _ (mI 51 rfl))) Via.refl e4 F_changes_a_3 (g := (mkF m 27 #[.val (.ref a), .val (.int (Int32.ofNat sg))] [(.ref a), (.ref a)])) rfl rfl (hb hby d10_27)
  refine Go.step st5 ?_
  show Go _ _ _ _ _ _ _ T5 (mkF m 30 #[.val (.ref a), .val (.int (Int32.ofNat sg))] [(.int (Int32.ofNat (sg + 2))), (.ref a)])
  refine Go.step (fun _ k => XS.iconst X5.here hx rfl (hb hby d10_30) k) ?_
  refine Go.step (fun _ k => XS.isub X5.here hx rfl (hb hby d10_31) rfl k) ?_
  show Go _ _ _ _ _ _ _ T5 (mkF m 32 #[.val (.ref a), .val (.int (Int32.ofNat sg))] [(.int ((Int32.ofNat (sg + 2)) - (1 : Int32))), (.ref a)])
  rw [show ((Int32.ofNat (sg + 2)) - (1 : Int32)) = Int32.ofNat (sg + 1) from own_pre (sg + 1)]
  show Go _ _ _ _ _ _ _ T5 (mkF m 32 #[.val (.ref a), .val (.int (Int32.ofNat sg))] [(.int (Int32.ofNat (sg + 1))), (.ref a)])
  obtain ⟨T6, h6, X6, e6, W6, st6⟩ := putF X5 hx hZ hown (host := "") (Or.inl (hw _ (mI 51 rfl))) Via.refl e5 F_changes_a_3 E_a_3 (Or.inl (hw _ (mI 52 rfl))) (hw _ (mI 1 rfl)) (ty := .int) (by decide) rfl rfl (g := (mkF m 32 #[.val (.ref a), .val (.int (Int32.ofNat sg))] [(.int (Int32.ofNat (sg + 1))), (.ref a)])) rfl rfl (hb hby d10_32)
  refine Go.step st6 ?_
  have N6 := Fr.snoc X6 N3 ge_a
  have F_changes_a_6 := F_changes_a_3.same W6
  have E_a_6 := E_a_3.wr W6
  have F_changedNode_a_6 := F_changedNode_a_3.other W6 (Or.inr (slot_ne (Or.inl (hw _ (mI 11 rfl))) (Or.inl (hw _ (mI 52 rfl))) (by decide) (t := (.array .int)) (t' := .int) (by decide) (by decide)))
  have F_changedLine_a_6 := F_changedLine_a_3.other W6 (Or.inr (slot_ne (Or.inl (hw _ (mI 13 rfl))) (Or.inl (hw _ (mI 52 rfl))) (by decide) (t := (.array .int)) (t' := .int) (by decide) (by decide)))
  have F_base_a_6 := F_base_a_3.other W6 (Or.inr (slot_ne (Or.inr (hw _ (mI 31 rfl))) (Or.inl (hw _ (mI 52 rfl))) (by decide) (t := (.array .double)) (t' := .int) (by decide) (by decide)))
  have F_slope_a_6 := F_slope_a_3.other W6 (Or.inr (slot_ne (Or.inr (hw _ (mI 33 rfl))) (Or.inl (hw _ (mI 52 rfl))) (by decide) (t := (.array .double)) (t' := .int) (by decide) (by decide)))
  have F_origin_a_6 := F_origin_a_3.other W6 (Or.inr (slot_ne (Or.inr (hw _ (mI 35 rfl))) (Or.inl (hw _ (mI 52 rfl))) (by decide) (t := (.array .int)) (t' := .int) (by decide) (by decide)))
  have F_node_a_6 := F_node_a_3.other W6 (Or.inr (slot_ne (Or.inr (hw _ (mI 37 rfl))) (Or.inl (hw _ (mI 52 rfl))) (by decide) (t := (.array .int)) (t' := .int) (by decide) (by decide)))
  have F_pushedAt_a_6 := F_pushedAt_a_3.other W6 (Or.inr (slot_ne (Or.inr (hw _ (mI 39 rfl))) (Or.inl (hw _ (mI 52 rfl))) (by decide) (t := (.array .int)) (t' := .int) (by decide) (by decide)))
  have F_width_a_6 := F_width_a_3.other W6 (Or.inr (slot_ne (Or.inr (hw _ (mI 28 rfl))) (Or.inl (hw _ (mI 52 rfl))) (by decide) (t := .int) (t' := .int) (by decide) (by decide)))
  have F_pushes_a_6 := F_pushes_a_3.other W6 (Or.inr (slot_ne (Or.inl (hw _ (mI 50 rfl))) (Or.inl (hw _ (mI 52 rfl))) (by decide) (t := .int) (t' := .int) (by decide) (by decide)))
  have V_xn_6 := V_xn_3.other W6 (Ne.symm ne_a_xn)
  have V_xo_6 := V_xo_3.other W6 (Ne.symm ne_a_xo)
  have V_xu_6 := V_xu_3.other W6 (Ne.symm ne_a_xu)
  have V_xv_6 := V_xv_3.other W6 (Ne.symm ne_a_xv)
  have V_xw_6 := V_xw_3.other W6 (Ne.symm ne_a_xw)
  have V_xt_6 := V_xt_3.other W6 (Ne.symm ne_a_xt)
  have V_xm_6 := V_xm_3.other W6 (Ne.symm ne_a_xm)
  have K6 : Keep h0 h6 [a, xn, xo, xu, xv, xw, xt, xm] := K3.wr W6 (Or.inl (List.mem_of_getElem? (i := 0) rfl))
  show Go _ _ _ _ _ _ _ T6 (mkF m 35 #[.val (.ref a), .val (.int (Int32.ofNat sg))] [])
  refine Go.step (fun _ k => XS.aloadN X6.here hx rfl (hb hby d10_35) rfl rfl k) ?_
  obtain ⟨T7, X7, e7, st7⟩ := getF X6 hx hZ hown (host := "") (Or.inl (hw _ (mI 36 rfl))) Via.refl e6 F_node_a_6 (g := (mkF m 36 #[.val (.ref a), .val (.int (Int32.ofNat sg))] [(.ref a)])) rfl rfl (hb hby d10_36)
  refine Go.step st7 ?_
  show Go _ _ _ _ _ _ _ T7 (mkF m 39 #[.val (.ref a), .val (.int (Int32.ofNat sg))] [(.ref xt)])
  refine Go.step (fun _ k => XS.aloadN X7.here hx rfl (hb hby d10_39) rfl rfl k) ?_
  obtain ⟨T8, X8, e8, st8⟩ := getF X7 hx hZ hown (host := "") (Or.inl (hw _ (mI 10 rfl))) Via.refl e7 F_changedNode_a_6 (g := (mkF m 40 #[.val (.ref a), .val (.int (Int32.ofNat sg))] [(.ref a), (.ref xt)])) rfl rfl (hb hby d10_40)
  refine Go.step st8 ?_
  show Go _ _ _ _ _ _ _ T8 (mkF m 43 #[.val (.ref a), .val (.int (Int32.ofNat sg))] [(.ref xn), (.ref xt)])
  refine Go.step (fun _ k => XS.aloadN X8.here hx rfl (hb hby d10_43) rfl rfl k) ?_
  obtain ⟨T9, X9, e9, st9⟩ := getF X8 hx hZ hown (host := "") (Or.inl (hw _ (mI 51 rfl))) Via.refl e8 F_changes_a_6 (g := (mkF m 44 #[.val (.ref a), .val (.int (Int32.ofNat sg))] [(.ref a), (.ref xn), (.ref xt)])) rfl rfl (hb hby d10_44)
  refine Go.step st9 ?_
  show Go _ _ _ _ _ _ _ T9 (mkF m 47 #[.val (.ref a), .val (.int (Int32.ofNat sg))] [(.int (Int32.ofNat (sg + 1))), (.ref xn), (.ref xt)])
  refine Go.iaload X9 hx hZ e9 V_xn_6 (j := (Int32.ofNat (sg + 1))) (v := (fN (sg + 1))) (own_b64 (by omega)) (by rw [own_nat (by omega)]) (hb hby d10_47) ?_
  show Go _ _ _ _ _ _ _ T9 (mkF m 48 #[.val (.ref a), .val (.int (Int32.ofNat sg))] [(.int (fN (sg + 1))), (.ref xt)])
  refine Go.step (fun _ k => XS.aloadN X9.here hx rfl (hb hby d10_48) rfl rfl k) ?_
  obtain ⟨T10, X10, e10, st10⟩ := getF X9 hx hZ hown (host := "") (Or.inl (hw _ (mI 12 rfl))) Via.refl e9 F_changedLine_a_6 (g := (mkF m 49 #[.val (.ref a), .val (.int (Int32.ofNat sg))] [(.ref a), (.int (fN (sg + 1))), (.ref xt)])) rfl rfl (hb hby d10_49)
  refine Go.step st10 ?_
  show Go _ _ _ _ _ _ _ T10 (mkF m 52 #[.val (.ref a), .val (.int (Int32.ofNat sg))] [(.ref xo), (.int (fN (sg + 1))), (.ref xt)])
  refine Go.step (fun _ k => XS.aloadN X10.here hx rfl (hb hby d10_52) rfl rfl k) ?_
  obtain ⟨T11, X11, e11, st11⟩ := getF X10 hx hZ hown (host := "") (Or.inl (hw _ (mI 51 rfl))) Via.refl e10 F_changes_a_6 (g := (mkF m 53 #[.val (.ref a), .val (.int (Int32.ofNat sg))] [(.ref a), (.ref xo), (.int (fN (sg + 1))), (.ref xt)])) rfl rfl (hb hby d10_53)
  refine Go.step st11 ?_
  show Go _ _ _ _ _ _ _ T11 (mkF m 56 #[.val (.ref a), .val (.int (Int32.ofNat sg))] [(.int (Int32.ofNat (sg + 1))), (.ref xo), (.int (fN (sg + 1))), (.ref xt)])
  refine Go.iaload X11 hx hZ e11 V_xo_6 (j := (Int32.ofNat (sg + 1))) (v := (fO (sg + 1))) (own_b64 (by omega)) (by rw [own_nat (by omega)]) (hb hby d10_56) ?_
  show Go _ _ _ _ _ _ _ T11 (mkF m 57 #[.val (.ref a), .val (.int (Int32.ofNat sg))] [(.int (fO (sg + 1))), (.int (fN (sg + 1))), (.ref xt)])
  refine Go.iastore X11 hx hZ e11 V_xt_6 (j := (fN (sg + 1))) (x := (fO (sg + 1))) hb1 (hb hby d10_57) ?_
  intro T12 h12 X12 e12 W12 Vn12
  have V_xt_12 : Iv Z h12 xt (8 : Int32) (updN fT ((fN (sg + 1))).toNatClampNeg (fO (sg + 1))) := Vn12
  have N12 := Fr.snoc X12 N6 ge_xt
  have E_a_12 := E_a_6.wr W12
  have F_changedNode_a_12 := F_changedNode_a_6.other W12 (Or.inl ne_a_xt)
  have F_changedLine_a_12 := F_changedLine_a_6.other W12 (Or.inl ne_a_xt)
  have F_base_a_12 := F_base_a_6.other W12 (Or.inl ne_a_xt)
  have F_slope_a_12 := F_slope_a_6.other W12 (Or.inl ne_a_xt)
  have F_origin_a_12 := F_origin_a_6.other W12 (Or.inl ne_a_xt)
  have F_node_a_12 := F_node_a_6.other W12 (Or.inl ne_a_xt)
  have F_pushedAt_a_12 := F_pushedAt_a_6.other W12 (Or.inl ne_a_xt)
  have F_width_a_12 := F_width_a_6.other W12 (Or.inl ne_a_xt)
  have F_pushes_a_12 := F_pushes_a_6.other W12 (Or.inl ne_a_xt)
  have F_changes_a_12 := F_changes_a_6.other W12 (Or.inl ne_a_xt)
  have V_xn_12 := V_xn_6.other W12 ne_xn_xt
  have V_xo_12 := V_xo_6.other W12 ne_xo_xt
  have V_xu_12 := V_xu_6.other W12 ne_xu_xt
  have V_xv_12 := V_xv_6.other W12 ne_xv_xt
  have V_xw_12 := V_xw_6.other W12 ne_xw_xt
  have V_xm_12 := V_xm_6.other W12 (Ne.symm ne_xt_xm)
  have K12 : Keep h0 h12 [a, xn, xo, xu, xv, xw, xt, xm] := K6.wr W12 (Or.inl (List.mem_of_getElem? (i := 6) rfl))
  show Go _ _ _ _ _ _ _ T12 (mkF m 58 #[.val (.ref a), .val (.int (Int32.ofNat sg))] [])
  refine Go.step (fun _ k => XS.goto X12.here hx rfl (pc0 := 58) (pc' := 17) rfl (hb hby d10_58) (by decide) (by decide) k) ?_
  show Go _ _ _ _ _ _ _ T12 (mkF m 17 #[.val (.ref a), .val (.int (Int32.ofNat sg))] [])
  refine Go.step (fun _ k => XS.aloadN X12.here hx rfl (hb hby d10_17) rfl rfl k) ?_
  obtain ⟨T13, X13, e13, st13⟩ := getF X12 hx hZ hown (host := "") (Or.inl (hw _ (mI 51 rfl))) Via.refl e12 F_changes_a_12 (g := (mkF m 18 #[.val (.ref a), .val (.int (Int32.ofNat sg))] [(.ref a)])) rfl rfl (hb hby d10_18)
  refine Go.step st13 ?_
  show Go _ _ _ _ _ _ _ T13 (mkF m 21 #[.val (.ref a), .val (.int (Int32.ofNat sg))] [(.int (Int32.ofNat (sg + 1)))])
  refine Go.step (fun _ k => XS.iloadN X13.here hx rfl (hb hby d10_21) rfl k) ?_
  refine Go.step (fun _ k => XS.icmpNo X13.here hx rfl (hb hby d10_22) rfl (tlt (own_ltS (by omega) (by omega) (by omega))).2.2.2 k) ?_
  show Go _ _ _ _ _ _ _ T13 (mkF m 25 #[.val (.ref a), .val (.int (Int32.ofNat sg))] [])
  refine Go.step (fun _ k => XS.aloadN X13.here hx rfl (hb hby d10_25) rfl rfl k) ?_
  refine Go.step (fun _ k => XS.dup X13.here hx rfl (hb hby d10_26) rfl rfl k) ?_
  obtain ⟨T14, X14, e14, st14⟩ := getF X13 hx hZ hown (host := "") (Or.inl (hw _ (mI 51 rfl))) Via.refl e13 F_changes_a_12 (g := (mkF m 27 #[.val (.ref a), .val (.int (Int32.ofNat sg))] [(.ref a), (.ref a)])) rfl rfl (hb hby d10_27)
  refine Go.step st14 ?_
  show Go _ _ _ _ _ _ _ T14 (mkF m 30 #[.val (.ref a), .val (.int (Int32.ofNat sg))] [(.int (Int32.ofNat (sg + 1))), (.ref a)])
  refine Go.step (fun _ k => XS.iconst X14.here hx rfl (hb hby d10_30) k) ?_
  refine Go.step (fun _ k => XS.isub X14.here hx rfl (hb hby d10_31) rfl k) ?_
  show Go _ _ _ _ _ _ _ T14 (mkF m 32 #[.val (.ref a), .val (.int (Int32.ofNat sg))] [(.int ((Int32.ofNat (sg + 1)) - (1 : Int32))), (.ref a)])
  rw [show ((Int32.ofNat (sg + 1)) - (1 : Int32)) = Int32.ofNat sg from own_pre sg]
  show Go _ _ _ _ _ _ _ T14 (mkF m 32 #[.val (.ref a), .val (.int (Int32.ofNat sg))] [(.int (Int32.ofNat sg)), (.ref a)])
  obtain ⟨T15, h15, X15, e15, W15, st15⟩ := putF X14 hx hZ hown (host := "") (Or.inl (hw _ (mI 51 rfl))) Via.refl e14 F_changes_a_12 E_a_12 (Or.inl (hw _ (mI 52 rfl))) (hw _ (mI 1 rfl)) (ty := .int) (by decide) rfl rfl (g := (mkF m 32 #[.val (.ref a), .val (.int (Int32.ofNat sg))] [(.int (Int32.ofNat sg)), (.ref a)])) rfl rfl (hb hby d10_32)
  refine Go.step st15 ?_
  have N15 := Fr.snoc X15 N12 ge_a
  have F_changes_a_15 := F_changes_a_12.same W15
  have E_a_15 := E_a_12.wr W15
  have F_changedNode_a_15 := F_changedNode_a_12.other W15 (Or.inr (slot_ne (Or.inl (hw _ (mI 11 rfl))) (Or.inl (hw _ (mI 52 rfl))) (by decide) (t := (.array .int)) (t' := .int) (by decide) (by decide)))
  have F_changedLine_a_15 := F_changedLine_a_12.other W15 (Or.inr (slot_ne (Or.inl (hw _ (mI 13 rfl))) (Or.inl (hw _ (mI 52 rfl))) (by decide) (t := (.array .int)) (t' := .int) (by decide) (by decide)))
  have F_base_a_15 := F_base_a_12.other W15 (Or.inr (slot_ne (Or.inr (hw _ (mI 31 rfl))) (Or.inl (hw _ (mI 52 rfl))) (by decide) (t := (.array .double)) (t' := .int) (by decide) (by decide)))
  have F_slope_a_15 := F_slope_a_12.other W15 (Or.inr (slot_ne (Or.inr (hw _ (mI 33 rfl))) (Or.inl (hw _ (mI 52 rfl))) (by decide) (t := (.array .double)) (t' := .int) (by decide) (by decide)))
  have F_origin_a_15 := F_origin_a_12.other W15 (Or.inr (slot_ne (Or.inr (hw _ (mI 35 rfl))) (Or.inl (hw _ (mI 52 rfl))) (by decide) (t := (.array .int)) (t' := .int) (by decide) (by decide)))
  have F_node_a_15 := F_node_a_12.other W15 (Or.inr (slot_ne (Or.inr (hw _ (mI 37 rfl))) (Or.inl (hw _ (mI 52 rfl))) (by decide) (t := (.array .int)) (t' := .int) (by decide) (by decide)))
  have F_pushedAt_a_15 := F_pushedAt_a_12.other W15 (Or.inr (slot_ne (Or.inr (hw _ (mI 39 rfl))) (Or.inl (hw _ (mI 52 rfl))) (by decide) (t := (.array .int)) (t' := .int) (by decide) (by decide)))
  have F_width_a_15 := F_width_a_12.other W15 (Or.inr (slot_ne (Or.inr (hw _ (mI 28 rfl))) (Or.inl (hw _ (mI 52 rfl))) (by decide) (t := .int) (t' := .int) (by decide) (by decide)))
  have F_pushes_a_15 := F_pushes_a_12.other W15 (Or.inr (slot_ne (Or.inl (hw _ (mI 50 rfl))) (Or.inl (hw _ (mI 52 rfl))) (by decide) (t := .int) (t' := .int) (by decide) (by decide)))
  have V_xn_15 := V_xn_12.other W15 (Ne.symm ne_a_xn)
  have V_xo_15 := V_xo_12.other W15 (Ne.symm ne_a_xo)
  have V_xu_15 := V_xu_12.other W15 (Ne.symm ne_a_xu)
  have V_xv_15 := V_xv_12.other W15 (Ne.symm ne_a_xv)
  have V_xw_15 := V_xw_12.other W15 (Ne.symm ne_a_xw)
  have V_xt_15 := V_xt_12.other W15 (Ne.symm ne_a_xt)
  have V_xm_15 := V_xm_12.other W15 (Ne.symm ne_a_xm)
  have K15 : Keep h0 h15 [a, xn, xo, xu, xv, xw, xt, xm] := K12.wr W15 (Or.inl (List.mem_of_getElem? (i := 0) rfl))
  show Go _ _ _ _ _ _ _ T15 (mkF m 35 #[.val (.ref a), .val (.int (Int32.ofNat sg))] [])
  refine Go.step (fun _ k => XS.aloadN X15.here hx rfl (hb hby d10_35) rfl rfl k) ?_
  obtain ⟨T16, X16, e16, st16⟩ := getF X15 hx hZ hown (host := "") (Or.inl (hw _ (mI 36 rfl))) Via.refl e15 F_node_a_15 (g := (mkF m 36 #[.val (.ref a), .val (.int (Int32.ofNat sg))] [(.ref a)])) rfl rfl (hb hby d10_36)
  refine Go.step st16 ?_
  show Go _ _ _ _ _ _ _ T16 (mkF m 39 #[.val (.ref a), .val (.int (Int32.ofNat sg))] [(.ref xt)])
  refine Go.step (fun _ k => XS.aloadN X16.here hx rfl (hb hby d10_39) rfl rfl k) ?_
  obtain ⟨T17, X17, e17, st17⟩ := getF X16 hx hZ hown (host := "") (Or.inl (hw _ (mI 10 rfl))) Via.refl e16 F_changedNode_a_15 (g := (mkF m 40 #[.val (.ref a), .val (.int (Int32.ofNat sg))] [(.ref a), (.ref xt)])) rfl rfl (hb hby d10_40)
  refine Go.step st17 ?_
  show Go _ _ _ _ _ _ _ T17 (mkF m 43 #[.val (.ref a), .val (.int (Int32.ofNat sg))] [(.ref xn), (.ref xt)])
  refine Go.step (fun _ k => XS.aloadN X17.here hx rfl (hb hby d10_43) rfl rfl k) ?_
  obtain ⟨T18, X18, e18, st18⟩ := getF X17 hx hZ hown (host := "") (Or.inl (hw _ (mI 51 rfl))) Via.refl e17 F_changes_a_15 (g := (mkF m 44 #[.val (.ref a), .val (.int (Int32.ofNat sg))] [(.ref a), (.ref xn), (.ref xt)])) rfl rfl (hb hby d10_44)
  refine Go.step st18 ?_
  show Go _ _ _ _ _ _ _ T18 (mkF m 47 #[.val (.ref a), .val (.int (Int32.ofNat sg))] [(.int (Int32.ofNat sg)), (.ref xn), (.ref xt)])
  refine Go.iaload X18 hx hZ e18 V_xn_15 (j := (Int32.ofNat sg)) (v := (fN sg)) (own_b64 (by omega)) (by rw [own_nat (by omega)]) (hb hby d10_47) ?_
  show Go _ _ _ _ _ _ _ T18 (mkF m 48 #[.val (.ref a), .val (.int (Int32.ofNat sg))] [(.int (fN sg)), (.ref xt)])
  refine Go.step (fun _ k => XS.aloadN X18.here hx rfl (hb hby d10_48) rfl rfl k) ?_
  obtain ⟨T19, X19, e19, st19⟩ := getF X18 hx hZ hown (host := "") (Or.inl (hw _ (mI 12 rfl))) Via.refl e18 F_changedLine_a_15 (g := (mkF m 49 #[.val (.ref a), .val (.int (Int32.ofNat sg))] [(.ref a), (.int (fN sg)), (.ref xt)])) rfl rfl (hb hby d10_49)
  refine Go.step st19 ?_
  show Go _ _ _ _ _ _ _ T19 (mkF m 52 #[.val (.ref a), .val (.int (Int32.ofNat sg))] [(.ref xo), (.int (fN sg)), (.ref xt)])
  refine Go.step (fun _ k => XS.aloadN X19.here hx rfl (hb hby d10_52) rfl rfl k) ?_
  obtain ⟨T20, X20, e20, st20⟩ := getF X19 hx hZ hown (host := "") (Or.inl (hw _ (mI 51 rfl))) Via.refl e19 F_changes_a_15 (g := (mkF m 53 #[.val (.ref a), .val (.int (Int32.ofNat sg))] [(.ref a), (.ref xo), (.int (fN sg)), (.ref xt)])) rfl rfl (hb hby d10_53)
  refine Go.step st20 ?_
  show Go _ _ _ _ _ _ _ T20 (mkF m 56 #[.val (.ref a), .val (.int (Int32.ofNat sg))] [(.int (Int32.ofNat sg)), (.ref xo), (.int (fN sg)), (.ref xt)])
  refine Go.iaload X20 hx hZ e20 V_xo_15 (j := (Int32.ofNat sg)) (v := (fO sg)) (own_b64 (by omega)) (by rw [own_nat (by omega)]) (hb hby d10_56) ?_
  show Go _ _ _ _ _ _ _ T20 (mkF m 57 #[.val (.ref a), .val (.int (Int32.ofNat sg))] [(.int (fO sg)), (.int (fN sg)), (.ref xt)])
  refine Go.iastore X20 hx hZ e20 V_xt_15 (j := (fN sg)) (x := (fO sg)) hb0 (hb hby d10_57) ?_
  intro T21 h21 X21 e21 W21 Vn21
  have V_xt_21 : Iv Z h21 xt (8 : Int32) (updN (updN fT ((fN (sg + 1))).toNatClampNeg (fO (sg + 1))) ((fN sg)).toNatClampNeg (fO sg)) := Vn21
  have N21 := Fr.snoc X21 N15 ge_xt
  have E_a_21 := E_a_15.wr W21
  have F_changedNode_a_21 := F_changedNode_a_15.other W21 (Or.inl ne_a_xt)
  have F_changedLine_a_21 := F_changedLine_a_15.other W21 (Or.inl ne_a_xt)
  have F_base_a_21 := F_base_a_15.other W21 (Or.inl ne_a_xt)
  have F_slope_a_21 := F_slope_a_15.other W21 (Or.inl ne_a_xt)
  have F_origin_a_21 := F_origin_a_15.other W21 (Or.inl ne_a_xt)
  have F_node_a_21 := F_node_a_15.other W21 (Or.inl ne_a_xt)
  have F_pushedAt_a_21 := F_pushedAt_a_15.other W21 (Or.inl ne_a_xt)
  have F_width_a_21 := F_width_a_15.other W21 (Or.inl ne_a_xt)
  have F_pushes_a_21 := F_pushes_a_15.other W21 (Or.inl ne_a_xt)
  have F_changes_a_21 := F_changes_a_15.other W21 (Or.inl ne_a_xt)
  have V_xn_21 := V_xn_15.other W21 ne_xn_xt
  have V_xo_21 := V_xo_15.other W21 ne_xo_xt
  have V_xu_21 := V_xu_15.other W21 ne_xu_xt
  have V_xv_21 := V_xv_15.other W21 ne_xv_xt
  have V_xw_21 := V_xw_15.other W21 ne_xw_xt
  have V_xm_21 := V_xm_15.other W21 (Ne.symm ne_xt_xm)
  have K21 : Keep h0 h21 [a, xn, xo, xu, xv, xw, xt, xm] := K15.wr W21 (Or.inl (List.mem_of_getElem? (i := 6) rfl))
  show Go _ _ _ _ _ _ _ T21 (mkF m 58 #[.val (.ref a), .val (.int (Int32.ofNat sg))] [])
  refine Go.step (fun _ k => XS.goto X21.here hx rfl (pc0 := 58) (pc' := 17) rfl (hb hby d10_58) (by decide) (by decide) k) ?_
  show Go _ _ _ _ _ _ _ T21 (mkF m 17 #[.val (.ref a), .val (.int (Int32.ofNat sg))] [])
  refine Go.step (fun _ k => XS.aloadN X21.here hx rfl (hb hby d10_17) rfl rfl k) ?_
  obtain ⟨T22, X22, e22, st22⟩ := getF X21 hx hZ hown (host := "") (Or.inl (hw _ (mI 51 rfl))) Via.refl e21 F_changes_a_21 (g := (mkF m 18 #[.val (.ref a), .val (.int (Int32.ofNat sg))] [(.ref a)])) rfl rfl (hb hby d10_18)
  refine Go.step st22 ?_
  show Go _ _ _ _ _ _ _ T22 (mkF m 21 #[.val (.ref a), .val (.int (Int32.ofNat sg))] [(.int (Int32.ofNat sg))])
  refine Go.step (fun _ k => XS.iloadN X22.here hx rfl (hb hby d10_21) rfl k) ?_
  refine Go.step (fun _ k => XS.icmpYes X22.here hx rfl (pc0 := 22) (pc' := 61) rfl (hb hby d10_22) rfl (flt (own_nlt sg)).2.2.2 (by decide) (by decide) k) ?_
  show Go _ _ _ _ _ _ _ T22 (mkF m 61 #[.val (.ref a), .val (.int (Int32.ofNat sg))] [])
  refine Go.retV X22 hx hlk hret (hb hby d10_61) (by decide) (by decide) ?_
  try rw [e22]
  have w1 : Iv Z h21 xt (8 : Int32) tT := by rw [← hU]; exact V_xt_21
  exact ⟨rfl, N21, K21, ⟨E_a_21, F_changedNode_a_21, F_changedLine_a_21, F_base_a_21, F_slope_a_21, F_origin_a_21, F_node_a_21, F_pushedAt_a_21, F_width_a_21, F_pushes_a_21, F_changes_a_21, V_xn_21, V_xo_21, V_xu_21, V_xv_21, V_xw_21, w1, V_xm_21⟩⟩
theorem ef_rm10_22 (m : MethodId) (a : Addr) : entryFrame m #[(.ref a)] 2 = mkF m 0 #[.val (.ref a), .unset] [] := by first | (simp [entryFrame, mkF, argsToLocals, Value.category]; done) | rfl
theorem rm10_22 (l : Launch) (Z : State) (a0 : Array Value) (hw : ∀ d ∈ tables_1, d.before a0 Z = true) (a xn xo xu xv xw xt xm : Addr) (fP fQ fC fT fM fN fO : Nat → Int32) (tT tN tO : Nat → Int32) (sg : Nat) (h0 : Heap) (n0 : Nat) (Z0 : n0 ≤ h0.size) (hL : LEs Z h0 a xn xo xu xv xw xt xm fP fQ fC fT fM fN fO 2 (sg + 2)) (hD : Dst n0 a xn xo xu xv xw xt xm) (hG : Good tT tN tO sg fT fN fO 2) (hM : fM 1 = Int32.ofNat sg) (hsg : sg ≤ 10) :
    Con l Z (⟨"com/example/headroom/headroom/LowerEnvelope", "pop", "()V"⟩ : MethodName) prog_15_method_3_code 2 none ({ frames := 0, cells := 0, slots := 0, locals := 0 } : Room) #[(.ref a)] h0 (fun r h L => r = none ∧ Fr n0 L ∧ Keep h0 h [a, xn, xo, xu, xv, xw, xt, xm] ∧ LEs Z h a xn xo xu xv xw xt xm fP fQ fC tT fM fN fO 1 sg) :=
  con_of (plainFor_of_name pn_9) (fun p_ e_ s_ m_ b_ meth_ c_ T_ X_ hx hZ hby hml hown hnm hret hlk e0 => Go.cast (ef_rm10_22 m_ a) (w10_22 a xn xo xu xv xw xt xm fP fQ fC fT fM fN fO tT tN tO sg X_ hx hZ hw hby hml hown hnm hret hlk e0 Z0 (Fr.nil n0) hL hD hG hM hsg))
theorem rm10_2 (l : Launch) (Z : State) (a0 : Array Value) (hw : ∀ d ∈ tables_1, d.before a0 Z = true) (a xn xo xu xv xw xt xm : Addr) (fP fQ fC fT fM fN fO : Nat → Int32) (tT tN tO : Nat → Int32) (sg : Nat) (nn : Nat) (h0 : Heap) (n0 : Nat) (Z0 : n0 ≤ h0.size) (hL : LEs Z h0 a xn xo xu xv xw xt xm fP fQ fC fT fM fN fO 2 (sg + nn)) (hD : Dst n0 a xn xo xu xv xw xt xm) (hG : Good tT tN tO sg fT fN fO nn) (hM : fM 1 = Int32.ofNat sg) (hsg : sg ≤ 10) (hn : nn ≤ 2) :
    Con l Z (⟨"com/example/headroom/headroom/LowerEnvelope", "pop", "()V"⟩ : MethodName) prog_15_method_3_code 2 none ({ frames := 0, cells := 0, slots := 0, locals := 0 } : Room) #[(.ref a)] h0 (fun r h L => r = none ∧ Fr n0 L ∧ Keep h0 h [a, xn, xo, xu, xv, xw, xt, xm] ∧ LEs Z h a xn xo xu xv xw xt xm fP fQ fC tT fM fN fO 1 sg) := by
  rcases (by omega : nn = 0 ∨ nn = 1 ∨ nn = 2) with rfl | rfl | rfl
  · exact rm10_20 l Z a0 hw a xn xo xu xv xw xt xm fP fQ fC fT fM fN fO tT tN tO sg h0 n0 Z0 hL hD hG hM hsg
  · exact rm10_21 l Z a0 hw a xn xo xu xv xw xt xm fP fQ fC fT fM fN fO tT tN tO sg h0 n0 Z0 hL hD hG hM hsg
  · exact rm10_22 l Z a0 hw a xn xo xu xv xw xt xm fP fQ fC fT fM fN fO tT tN tO sg h0 n0 Z0 hL hD hG hM hsg
theorem d11_0 : decode prog_15_method_4_code 0 = .ok (.iconst 0, 1) := by decide +kernel
theorem d11_1 : decode prog_15_method_4_code 1 = .ok (.istore_n 2, 1) := by decide +kernel
theorem d11_2 : decode prog_15_method_4_code 2 = .ok (.iconst 1, 1) := by decide +kernel
theorem d11_3 : decode prog_15_method_4_code 3 = .ok (.istore_n 3, 1) := by decide +kernel
theorem d11_4 : decode prog_15_method_4_code 4 = .ok (.iconst 1, 1) := by decide +kernel
theorem d11_5 : decode prog_15_method_4_code 5 = .ok (.istore 4, 2) := by decide +kernel
theorem d11_7 : decode prog_15_method_4_code 7 = .ok (.aload_n 0, 1) := by decide +kernel
theorem d11_8 : decode prog_15_method_4_code 8 = .ok (.getfield 28, 3) := by decide +kernel
theorem d11_11 : decode prog_15_method_4_code 11 = .ok (.istore 5, 2) := by decide +kernel
theorem d11_13 : decode prog_15_method_4_code 13 = .ok (.aload_n 0, 1) := by decide +kernel
theorem d11_14 : decode prog_15_method_4_code 14 = .ok (.getfield 42, 3) := by decide +kernel
theorem d11_17 : decode prog_15_method_4_code 17 = .ok (.iload_n 3, 1) := by decide +kernel
theorem d11_18 : decode prog_15_method_4_code 18 = .ok (.iaload, 1) := by decide +kernel
theorem d11_19 : decode prog_15_method_4_code 19 = .ok (.istore 6, 2) := by decide +kernel
theorem d11_21 : decode prog_15_method_4_code 21 = .ok (.iload 6, 2) := by decide +kernel
theorem d11_23 : decode prog_15_method_4_code 23 = .ok (.ifCond .eq 21, 3) := by decide +kernel
theorem d11_26 : decode prog_15_method_4_code 26 = .ok (.iload_n 2, 1) := by decide +kernel
theorem d11_27 : decode prog_15_method_4_code 27 = .ok (.ifCond .eq 14, 3) := by decide +kernel
theorem d11_41 : decode prog_15_method_4_code 41 = .ok (.iload 6, 2) := by decide +kernel
theorem d11_43 : decode prog_15_method_4_code 43 = .ok (.istore_n 2, 1) := by decide +kernel
theorem d11_44 : decode prog_15_method_4_code 44 = .ok (.iload 4, 2) := by decide +kernel
theorem d11_46 : decode prog_15_method_4_code 46 = .ok (.iload 5, 2) := by decide +kernel
theorem d11_48 : decode prog_15_method_4_code 48 = .ok (.if_icmp .ne 5, 3) := by decide +kernel
theorem d11_53 : decode prog_15_method_4_code 53 = .ok (.iload 4, 2) := by decide +kernel
theorem d11_55 : decode prog_15_method_4_code 55 = .ok (.iload 5, 2) := by decide +kernel
theorem d11_57 : decode prog_15_method_4_code 57 = .ok (.iadd, 1) := by decide +kernel
theorem d11_58 : decode prog_15_method_4_code 58 = .ok (.iconst 1, 1) := by decide +kernel
theorem d11_59 : decode prog_15_method_4_code 59 = .ok (.iushr, 1) := by decide +kernel
theorem d11_60 : decode prog_15_method_4_code 60 = .ok (.istore 7, 2) := by decide +kernel
theorem d11_62 : decode prog_15_method_4_code 62 = .ok (.iload_n 1, 1) := by decide +kernel
theorem d11_63 : decode prog_15_method_4_code 63 = .ok (.iload 7, 2) := by decide +kernel
theorem d11_65 : decode prog_15_method_4_code 65 = .ok (.if_icmp .gt 14, 3) := by decide +kernel
theorem d11_68 : decode prog_15_method_4_code 68 = .ok (.iconst 2, 1) := by decide +kernel
theorem d11_69 : decode prog_15_method_4_code 69 = .ok (.iload_n 3, 1) := by decide +kernel
theorem d11_70 : decode prog_15_method_4_code 70 = .ok (.imul, 1) := by decide +kernel
theorem d11_71 : decode prog_15_method_4_code 71 = .ok (.istore_n 3, 1) := by decide +kernel
theorem d11_72 : decode prog_15_method_4_code 72 = .ok (.iload 7, 2) := by decide +kernel
theorem d11_74 : decode prog_15_method_4_code 74 = .ok (.istore 5, 2) := by decide +kernel
theorem d11_76 : decode prog_15_method_4_code 76 = .ok (.goto 15, 3) := by decide +kernel
theorem d11_91 : decode prog_15_method_4_code 91 = .ok (.goto (-78), 3) := by decide +kernel
theorem d11_51 : decode prog_15_method_4_code 51 = .ok (.iload_n 2, 1) := by decide +kernel
theorem d11_52 : decode prog_15_method_4_code 52 = .ok (.ireturn, 1) := by decide +kernel
theorem d11_30 : decode prog_15_method_4_code 30 = .ok (.aload_n 0, 1) := by decide +kernel
theorem d11_31 : decode prog_15_method_4_code 31 = .ok (.iload 6, 2) := by decide +kernel
theorem d11_33 : decode prog_15_method_4_code 33 = .ok (.iload_n 2, 1) := by decide +kernel
theorem d11_34 : decode prog_15_method_4_code 34 = .ok (.iload_n 1, 1) := by decide +kernel
theorem d11_35 : decode prog_15_method_4_code 35 = .ok (.invokevirtual 58, 3) := by decide +kernel
theorem d11_38 : decode prog_15_method_4_code 38 = .ok (.ifCond .eq 6, 3) := by decide +kernel
set_option maxRecDepth 65536 in
set_option maxHeartbeats 40000000 in
theorem w11_1 {p : Program} {l : Launch} {e : Env} {s : State} {m : MethodId} {args : Array Value} {below : List Frame} {meth : Method} {c_ : Code} {T0 : State} {locs : List Loc} {Z : State} {a0 : Array Value} {h0 : Heap} {n0 : Nat} (a xn xo xu xv xw xt xm : Addr) (fP fQ fC fT fM fN fO : Nat → Int32) (dd ss : Nat)
    (X0 : Stand p l e ({ frames := 1, cells := 0, slots := 0, locals := 24 } : Room) s m args below meth c_ T0 locs 0 0) (hx : p.tables.exec = Jvm.exec) (hZ : Z.Warmed39 s.vm) (hw : ∀ d ∈ tables_1, d.before a0 Z = true) (hby : c_.code = prog_15_method_4_code) (hml : c_.maxLocals = 8) (hown : s.vm.findClass "com/example/headroom/headroom/LowerEnvelope" = some m.cls) (hnm : meth.name = "lowest") (hret : meth.sig.returnType = some .int) (hlk : meth.locks = false) (e0 : T0.heap = h0) (Z0 : n0 ≤ h0.size) (N0 : Fr n0 locs) (hL : LEs Z h0 a xn xo xu xv xw xt xm fP fQ fC fT fM fN fO dd ss) (hP : Sm fP) (hQ : Sm fQ) (hC : Sm fC) (hR : Rng fT) (hLf : Lf fT) (hr : ¬ fT 1 = (0 : Int32)) :
    Go p e below s ({ frames := 1, cells := 0, slots := 0, locals := 24 } : Room).cells ({ frames := 1, cells := 0, slots := 0, locals := 24 } : Room).slots (fun r h L => r = some (.int (lowestW fP fQ fC fT 2 (1 : Int32))) ∧ Fr n0 L ∧ h = h0) T0 (mkF m 0 #[.val (.ref a), .val (.int (1 : Int32)), .unset, .unset, .unset, .unset, .unset, .unset] []) := by
  obtain ⟨E_a_0, F_changedNode_a_0, F_changedLine_a_0, F_base_a_0, F_slope_a_0, F_origin_a_0, F_node_a_0, F_pushedAt_a_0, F_width_a_0, F_pushes_a_0, F_changes_a_0, V_xn_0, V_xo_0, V_xu_0, V_xv_0, V_xw_0, V_xt_0, V_xm_0⟩ := hL
  show Go _ _ _ _ _ _ _ T0 (mkF m 0 #[.val (.ref a), .val (.int (1 : Int32)), .unset, .unset, .unset, .unset, .unset, .unset] [])
  refine Go.step (fun _ k => XS.iconst X0.here hx rfl (hb hby d11_0) k) ?_
  refine Go.step (fun _ k => XS.istoreN X0.here hx rfl (hb hby d11_1) rfl (l' := #[.val (.ref a), .val (.int (1 : Int32)), .val (.int (0 : Int32)), .unset, .unset, .unset, .unset, .unset]) rfl k) ?_
  show Go _ _ _ _ _ _ _ T0 (mkF m 2 #[.val (.ref a), .val (.int (1 : Int32)), .val (.int (0 : Int32)), .unset, .unset, .unset, .unset, .unset] [])
  refine Go.step (fun _ k => XS.iconst X0.here hx rfl (hb hby d11_2) k) ?_
  refine Go.step (fun _ k => XS.istoreN X0.here hx rfl (hb hby d11_3) rfl (l' := #[.val (.ref a), .val (.int (1 : Int32)), .val (.int (0 : Int32)), .val (.int (1 : Int32)), .unset, .unset, .unset, .unset]) rfl k) ?_
  show Go _ _ _ _ _ _ _ T0 (mkF m 4 #[.val (.ref a), .val (.int (1 : Int32)), .val (.int (0 : Int32)), .val (.int (1 : Int32)), .unset, .unset, .unset, .unset] [])
  refine Go.step (fun _ k => XS.iconst X0.here hx rfl (hb hby d11_4) k) ?_
  refine Go.step (fun _ k => XS.istore X0.here hx rfl (hb hby d11_5) rfl (l' := #[.val (.ref a), .val (.int (1 : Int32)), .val (.int (0 : Int32)), .val (.int (1 : Int32)), .val (.int (1 : Int32)), .unset, .unset, .unset]) rfl k) ?_
  show Go _ _ _ _ _ _ _ T0 (mkF m 7 #[.val (.ref a), .val (.int (1 : Int32)), .val (.int (0 : Int32)), .val (.int (1 : Int32)), .val (.int (1 : Int32)), .unset, .unset, .unset] [])
  refine Go.step (fun _ k => XS.aloadN X0.here hx rfl (hb hby d11_7) rfl rfl k) ?_
  obtain ⟨T1, X1, e1, st1⟩ := getF X0 hx hZ hown (host := "") (Or.inl (hw _ (mI 27 rfl))) Via.refl e0 F_width_a_0 (g := (mkF m 8 #[.val (.ref a), .val (.int (1 : Int32)), .val (.int (0 : Int32)), .val (.int (1 : Int32)), .val (.int (1 : Int32)), .unset, .unset, .unset] [(.ref a)])) rfl rfl (hb hby d11_8)
  refine Go.step st1 ?_
  show Go _ _ _ _ _ _ _ T1 (mkF m 11 #[.val (.ref a), .val (.int (1 : Int32)), .val (.int (0 : Int32)), .val (.int (1 : Int32)), .val (.int (1 : Int32)), .unset, .unset, .unset] [(.int (4 : Int32))])
  refine Go.step (fun _ k => XS.istore X1.here hx rfl (hb hby d11_11) rfl (l' := #[.val (.ref a), .val (.int (1 : Int32)), .val (.int (0 : Int32)), .val (.int (1 : Int32)), .val (.int (1 : Int32)), .val (.int (4 : Int32)), .unset, .unset]) rfl k) ?_
  show Go _ _ _ _ _ _ _ T1 (mkF m 13 #[.val (.ref a), .val (.int (1 : Int32)), .val (.int (0 : Int32)), .val (.int (1 : Int32)), .val (.int (1 : Int32)), .val (.int (4 : Int32)), .unset, .unset] [])
  refine Go.step (fun _ k => XS.aloadN X1.here hx rfl (hb hby d11_13) rfl rfl k) ?_
  obtain ⟨T2, X2, e2, st2⟩ := getF X1 hx hZ hown (host := "") (Or.inl (hw _ (mI 36 rfl))) Via.refl e1 F_node_a_0 (g := (mkF m 14 #[.val (.ref a), .val (.int (1 : Int32)), .val (.int (0 : Int32)), .val (.int (1 : Int32)), .val (.int (1 : Int32)), .val (.int (4 : Int32)), .unset, .unset] [(.ref a)])) rfl rfl (hb hby d11_14)
  refine Go.step st2 ?_
  show Go _ _ _ _ _ _ _ T2 (mkF m 17 #[.val (.ref a), .val (.int (1 : Int32)), .val (.int (0 : Int32)), .val (.int (1 : Int32)), .val (.int (1 : Int32)), .val (.int (4 : Int32)), .unset, .unset] [(.ref xt)])
  refine Go.step (fun _ k => XS.iloadN X2.here hx rfl (hb hby d11_17) rfl k) ?_
  refine Go.iaload X2 hx hZ e2 V_xt_0 (j := (1 : Int32)) (v := (fT 1)) (by decide) rfl (hb hby d11_18) ?_
  show Go _ _ _ _ _ _ _ T2 (mkF m 19 #[.val (.ref a), .val (.int (1 : Int32)), .val (.int (0 : Int32)), .val (.int (1 : Int32)), .val (.int (1 : Int32)), .val (.int (4 : Int32)), .unset, .unset] [(.int (fT 1))])
  refine Go.step (fun _ k => XS.istore X2.here hx rfl (hb hby d11_19) rfl (l' := #[.val (.ref a), .val (.int (1 : Int32)), .val (.int (0 : Int32)), .val (.int (1 : Int32)), .val (.int (1 : Int32)), .val (.int (4 : Int32)), .val (.int (fT 1)), .unset]) rfl k) ?_
  show Go _ _ _ _ _ _ _ T2 (mkF m 21 #[.val (.ref a), .val (.int (1 : Int32)), .val (.int (0 : Int32)), .val (.int (1 : Int32)), .val (.int (1 : Int32)), .val (.int (4 : Int32)), .val (.int (fT 1)), .unset] [])
  refine Go.step (fun _ k => XS.iload X2.here hx rfl (hb hby d11_21) rfl k) ?_
  refine Go.step (fun _ k => XS.ifNo X2.here hx rfl (hb hby d11_23) rfl ((if0 _ _).trans (feq hr).1) k) ?_
  show Go _ _ _ _ _ _ _ T2 (mkF m 26 #[.val (.ref a), .val (.int (1 : Int32)), .val (.int (0 : Int32)), .val (.int (1 : Int32)), .val (.int (1 : Int32)), .val (.int (4 : Int32)), .val (.int (fT 1)), .unset] [])
  refine Go.step (fun _ k => XS.iloadN X2.here hx rfl (hb hby d11_26) rfl k) ?_
  refine Go.step (fun _ k => XS.ifYes X2.here hx rfl (pc0 := 27) (pc' := 41) rfl (hb hby d11_27) rfl ((if0 _ _).trans (teq (by decide : (0 : Int32) = (0 : Int32))).1) (by decide) (by decide) k) ?_
  show Go _ _ _ _ _ _ _ T2 (mkF m 41 #[.val (.ref a), .val (.int (1 : Int32)), .val (.int (0 : Int32)), .val (.int (1 : Int32)), .val (.int (1 : Int32)), .val (.int (4 : Int32)), .val (.int (fT 1)), .unset] [])
  refine Go.step (fun _ k => XS.iload X2.here hx rfl (hb hby d11_41) rfl k) ?_
  refine Go.step (fun _ k => XS.istoreN X2.here hx rfl (hb hby d11_43) rfl (l' := #[.val (.ref a), .val (.int (1 : Int32)), .val (.int (fT 1)), .val (.int (1 : Int32)), .val (.int (1 : Int32)), .val (.int (4 : Int32)), .val (.int (fT 1)), .unset]) rfl k) ?_
  show Go _ _ _ _ _ _ _ T2 (mkF m 44 #[.val (.ref a), .val (.int (1 : Int32)), .val (.int (fT 1)), .val (.int (1 : Int32)), .val (.int (1 : Int32)), .val (.int (4 : Int32)), .val (.int (fT 1)), .unset] [])
  refine Go.step (fun _ k => XS.iload X2.here hx rfl (hb hby d11_44) rfl k) ?_
  refine Go.step (fun _ k => XS.iload X2.here hx rfl (hb hby d11_46) rfl k) ?_
  refine Go.step (fun _ k => XS.icmpYes X2.here hx rfl (pc0 := 48) (pc' := 53) rfl (hb hby d11_48) rfl (feq (by decide : ¬ ((1 : Int32) = (4 : Int32)))).2 (by decide) (by decide) k) ?_
  show Go _ _ _ _ _ _ _ T2 (mkF m 53 #[.val (.ref a), .val (.int (1 : Int32)), .val (.int (fT 1)), .val (.int (1 : Int32)), .val (.int (1 : Int32)), .val (.int (4 : Int32)), .val (.int (fT 1)), .unset] [])
  refine Go.step (fun _ k => XS.iload X2.here hx rfl (hb hby d11_53) rfl k) ?_
  refine Go.step (fun _ k => XS.iload X2.here hx rfl (hb hby d11_55) rfl k) ?_
  refine Go.step (fun _ k => XS.iadd X2.here hx rfl (hb hby d11_57) rfl k) ?_
  show Go _ _ _ _ _ _ _ T2 (mkF m 58 #[.val (.ref a), .val (.int (1 : Int32)), .val (.int (fT 1)), .val (.int (1 : Int32)), .val (.int (1 : Int32)), .val (.int (4 : Int32)), .val (.int (fT 1)), .unset] [(.int (5 : Int32))])
  refine Go.step (fun _ k => XS.iconst X2.here hx rfl (hb hby d11_58) k) ?_
  refine Go.step (fun _ k => XS.iushr X2.here hx rfl (hb hby d11_59) rfl k) ?_
  show Go _ _ _ _ _ _ _ T2 (mkF m 60 #[.val (.ref a), .val (.int (1 : Int32)), .val (.int (fT 1)), .val (.int (1 : Int32)), .val (.int (1 : Int32)), .val (.int (4 : Int32)), .val (.int (fT 1)), .unset] [(.int (2 : Int32))])
  refine Go.step (fun _ k => XS.istore X2.here hx rfl (hb hby d11_60) rfl (l' := #[.val (.ref a), .val (.int (1 : Int32)), .val (.int (fT 1)), .val (.int (1 : Int32)), .val (.int (1 : Int32)), .val (.int (4 : Int32)), .val (.int (fT 1)), .val (.int (2 : Int32))]) rfl k) ?_
  show Go _ _ _ _ _ _ _ T2 (mkF m 62 #[.val (.ref a), .val (.int (1 : Int32)), .val (.int (fT 1)), .val (.int (1 : Int32)), .val (.int (1 : Int32)), .val (.int (4 : Int32)), .val (.int (fT 1)), .val (.int (2 : Int32))] [])
  refine Go.step (fun _ k => XS.iloadN X2.here hx rfl (hb hby d11_62) rfl k) ?_
  refine Go.step (fun _ k => XS.iload X2.here hx rfl (hb hby d11_63) rfl k) ?_
  refine Go.step (fun _ k => XS.icmpNo X2.here hx rfl (hb hby d11_65) rfl (flt (by decide : ¬ ((2 : Int32) < (1 : Int32)))).2.2.1 k) ?_
  show Go _ _ _ _ _ _ _ T2 (mkF m 68 #[.val (.ref a), .val (.int (1 : Int32)), .val (.int (fT 1)), .val (.int (1 : Int32)), .val (.int (1 : Int32)), .val (.int (4 : Int32)), .val (.int (fT 1)), .val (.int (2 : Int32))] [])
  refine Go.step (fun _ k => XS.iconst X2.here hx rfl (hb hby d11_68) k) ?_
  refine Go.step (fun _ k => XS.iloadN X2.here hx rfl (hb hby d11_69) rfl k) ?_
  refine Go.step (fun _ k => XS.imul X2.here hx rfl (hb hby d11_70) rfl k) ?_
  show Go _ _ _ _ _ _ _ T2 (mkF m 71 #[.val (.ref a), .val (.int (1 : Int32)), .val (.int (fT 1)), .val (.int (1 : Int32)), .val (.int (1 : Int32)), .val (.int (4 : Int32)), .val (.int (fT 1)), .val (.int (2 : Int32))] [(.int (2 : Int32))])
  refine Go.step (fun _ k => XS.istoreN X2.here hx rfl (hb hby d11_71) rfl (l' := #[.val (.ref a), .val (.int (1 : Int32)), .val (.int (fT 1)), .val (.int (2 : Int32)), .val (.int (1 : Int32)), .val (.int (4 : Int32)), .val (.int (fT 1)), .val (.int (2 : Int32))]) rfl k) ?_
  show Go _ _ _ _ _ _ _ T2 (mkF m 72 #[.val (.ref a), .val (.int (1 : Int32)), .val (.int (fT 1)), .val (.int (2 : Int32)), .val (.int (1 : Int32)), .val (.int (4 : Int32)), .val (.int (fT 1)), .val (.int (2 : Int32))] [])
  refine Go.step (fun _ k => XS.iload X2.here hx rfl (hb hby d11_72) rfl k) ?_
  refine Go.step (fun _ k => XS.istore X2.here hx rfl (hb hby d11_74) rfl (l' := #[.val (.ref a), .val (.int (1 : Int32)), .val (.int (fT 1)), .val (.int (2 : Int32)), .val (.int (1 : Int32)), .val (.int (2 : Int32)), .val (.int (fT 1)), .val (.int (2 : Int32))]) rfl k) ?_
  show Go _ _ _ _ _ _ _ T2 (mkF m 76 #[.val (.ref a), .val (.int (1 : Int32)), .val (.int (fT 1)), .val (.int (2 : Int32)), .val (.int (1 : Int32)), .val (.int (2 : Int32)), .val (.int (fT 1)), .val (.int (2 : Int32))] [])
  refine Go.step (fun _ k => XS.goto X2.here hx rfl (pc0 := 76) (pc' := 91) rfl (hb hby d11_76) (by decide) (by decide) k) ?_
  show Go _ _ _ _ _ _ _ T2 (mkF m 91 #[.val (.ref a), .val (.int (1 : Int32)), .val (.int (fT 1)), .val (.int (2 : Int32)), .val (.int (1 : Int32)), .val (.int (2 : Int32)), .val (.int (fT 1)), .val (.int (2 : Int32))] [])
  refine Go.step (fun _ k => XS.goto X2.here hx rfl (pc0 := 91) (pc' := 13) rfl (hb hby d11_91) (by decide) (by decide) k) ?_
  show Go _ _ _ _ _ _ _ T2 (mkF m 13 #[.val (.ref a), .val (.int (1 : Int32)), .val (.int (fT 1)), .val (.int (2 : Int32)), .val (.int (1 : Int32)), .val (.int (2 : Int32)), .val (.int (fT 1)), .val (.int (2 : Int32))] [])
  refine Go.step (fun _ k => XS.aloadN X2.here hx rfl (hb hby d11_13) rfl rfl k) ?_
  obtain ⟨T3, X3, e3, st3⟩ := getF X2 hx hZ hown (host := "") (Or.inl (hw _ (mI 36 rfl))) Via.refl e2 F_node_a_0 (g := (mkF m 14 #[.val (.ref a), .val (.int (1 : Int32)), .val (.int (fT 1)), .val (.int (2 : Int32)), .val (.int (1 : Int32)), .val (.int (2 : Int32)), .val (.int (fT 1)), .val (.int (2 : Int32))] [(.ref a)])) rfl rfl (hb hby d11_14)
  refine Go.step st3 ?_
  show Go _ _ _ _ _ _ _ T3 (mkF m 17 #[.val (.ref a), .val (.int (1 : Int32)), .val (.int (fT 1)), .val (.int (2 : Int32)), .val (.int (1 : Int32)), .val (.int (2 : Int32)), .val (.int (fT 1)), .val (.int (2 : Int32))] [(.ref xt)])
  refine Go.step (fun _ k => XS.iloadN X3.here hx rfl (hb hby d11_17) rfl k) ?_
  refine Go.iaload X3 hx hZ e3 V_xt_0 (j := (2 : Int32)) (v := (fT 2)) (by decide) rfl (hb hby d11_18) ?_
  show Go _ _ _ _ _ _ _ T3 (mkF m 19 #[.val (.ref a), .val (.int (1 : Int32)), .val (.int (fT 1)), .val (.int (2 : Int32)), .val (.int (1 : Int32)), .val (.int (2 : Int32)), .val (.int (fT 1)), .val (.int (2 : Int32))] [(.int (fT 2))])
  refine Go.step (fun _ k => XS.istore X3.here hx rfl (hb hby d11_19) rfl (l' := #[.val (.ref a), .val (.int (1 : Int32)), .val (.int (fT 1)), .val (.int (2 : Int32)), .val (.int (1 : Int32)), .val (.int (2 : Int32)), .val (.int (fT 2)), .val (.int (2 : Int32))]) rfl k) ?_
  show Go _ _ _ _ _ _ _ T3 (mkF m 21 #[.val (.ref a), .val (.int (1 : Int32)), .val (.int (fT 1)), .val (.int (2 : Int32)), .val (.int (1 : Int32)), .val (.int (2 : Int32)), .val (.int (fT 2)), .val (.int (2 : Int32))] [])
  refine Go.step (fun _ k => XS.iload X3.here hx rfl (hb hby d11_21) rfl k) ?_
  by_cases hc23_4 : (fT 2) = (0 : Int32)
  · refine Go.step (fun _ k => XS.ifYes X3.here hx rfl (pc0 := 23) (pc' := 44) rfl (hb hby d11_23) rfl ((if0 _ _).trans (teq hc23_4).1) (by decide) (by decide) k) ?_
    show Go _ _ _ _ _ _ _ T3 (mkF m 44 #[.val (.ref a), .val (.int (1 : Int32)), .val (.int (fT 1)), .val (.int (2 : Int32)), .val (.int (1 : Int32)), .val (.int (2 : Int32)), .val (.int (fT 2)), .val (.int (2 : Int32))] [])
    refine Go.step (fun _ k => XS.iload X3.here hx rfl (hb hby d11_44) rfl k) ?_
    refine Go.step (fun _ k => XS.iload X3.here hx rfl (hb hby d11_46) rfl k) ?_
    refine Go.step (fun _ k => XS.icmpYes X3.here hx rfl (pc0 := 48) (pc' := 53) rfl (hb hby d11_48) rfl (feq (by decide : ¬ ((1 : Int32) = (2 : Int32)))).2 (by decide) (by decide) k) ?_
    show Go _ _ _ _ _ _ _ T3 (mkF m 53 #[.val (.ref a), .val (.int (1 : Int32)), .val (.int (fT 1)), .val (.int (2 : Int32)), .val (.int (1 : Int32)), .val (.int (2 : Int32)), .val (.int (fT 2)), .val (.int (2 : Int32))] [])
    refine Go.step (fun _ k => XS.iload X3.here hx rfl (hb hby d11_53) rfl k) ?_
    refine Go.step (fun _ k => XS.iload X3.here hx rfl (hb hby d11_55) rfl k) ?_
    refine Go.step (fun _ k => XS.iadd X3.here hx rfl (hb hby d11_57) rfl k) ?_
    show Go _ _ _ _ _ _ _ T3 (mkF m 58 #[.val (.ref a), .val (.int (1 : Int32)), .val (.int (fT 1)), .val (.int (2 : Int32)), .val (.int (1 : Int32)), .val (.int (2 : Int32)), .val (.int (fT 2)), .val (.int (2 : Int32))] [(.int (3 : Int32))])
    refine Go.step (fun _ k => XS.iconst X3.here hx rfl (hb hby d11_58) k) ?_
    refine Go.step (fun _ k => XS.iushr X3.here hx rfl (hb hby d11_59) rfl k) ?_
    show Go _ _ _ _ _ _ _ T3 (mkF m 60 #[.val (.ref a), .val (.int (1 : Int32)), .val (.int (fT 1)), .val (.int (2 : Int32)), .val (.int (1 : Int32)), .val (.int (2 : Int32)), .val (.int (fT 2)), .val (.int (2 : Int32))] [(.int (1 : Int32))])
    refine Go.step (fun _ k => XS.istore X3.here hx rfl (hb hby d11_60) rfl (l' := #[.val (.ref a), .val (.int (1 : Int32)), .val (.int (fT 1)), .val (.int (2 : Int32)), .val (.int (1 : Int32)), .val (.int (2 : Int32)), .val (.int (fT 2)), .val (.int (1 : Int32))]) rfl k) ?_
    show Go _ _ _ _ _ _ _ T3 (mkF m 62 #[.val (.ref a), .val (.int (1 : Int32)), .val (.int (fT 1)), .val (.int (2 : Int32)), .val (.int (1 : Int32)), .val (.int (2 : Int32)), .val (.int (fT 2)), .val (.int (1 : Int32))] [])
    refine Go.step (fun _ k => XS.iloadN X3.here hx rfl (hb hby d11_62) rfl k) ?_
    refine Go.step (fun _ k => XS.iload X3.here hx rfl (hb hby d11_63) rfl k) ?_
    refine Go.step (fun _ k => XS.icmpNo X3.here hx rfl (hb hby d11_65) rfl (flt (by decide : ¬ ((1 : Int32) < (1 : Int32)))).2.2.1 k) ?_
    show Go _ _ _ _ _ _ _ T3 (mkF m 68 #[.val (.ref a), .val (.int (1 : Int32)), .val (.int (fT 1)), .val (.int (2 : Int32)), .val (.int (1 : Int32)), .val (.int (2 : Int32)), .val (.int (fT 2)), .val (.int (1 : Int32))] [])
    refine Go.step (fun _ k => XS.iconst X3.here hx rfl (hb hby d11_68) k) ?_
    refine Go.step (fun _ k => XS.iloadN X3.here hx rfl (hb hby d11_69) rfl k) ?_
    refine Go.step (fun _ k => XS.imul X3.here hx rfl (hb hby d11_70) rfl k) ?_
    show Go _ _ _ _ _ _ _ T3 (mkF m 71 #[.val (.ref a), .val (.int (1 : Int32)), .val (.int (fT 1)), .val (.int (2 : Int32)), .val (.int (1 : Int32)), .val (.int (2 : Int32)), .val (.int (fT 2)), .val (.int (1 : Int32))] [(.int (4 : Int32))])
    refine Go.step (fun _ k => XS.istoreN X3.here hx rfl (hb hby d11_71) rfl (l' := #[.val (.ref a), .val (.int (1 : Int32)), .val (.int (fT 1)), .val (.int (4 : Int32)), .val (.int (1 : Int32)), .val (.int (2 : Int32)), .val (.int (fT 2)), .val (.int (1 : Int32))]) rfl k) ?_
    show Go _ _ _ _ _ _ _ T3 (mkF m 72 #[.val (.ref a), .val (.int (1 : Int32)), .val (.int (fT 1)), .val (.int (4 : Int32)), .val (.int (1 : Int32)), .val (.int (2 : Int32)), .val (.int (fT 2)), .val (.int (1 : Int32))] [])
    refine Go.step (fun _ k => XS.iload X3.here hx rfl (hb hby d11_72) rfl k) ?_
    refine Go.step (fun _ k => XS.istore X3.here hx rfl (hb hby d11_74) rfl (l' := #[.val (.ref a), .val (.int (1 : Int32)), .val (.int (fT 1)), .val (.int (4 : Int32)), .val (.int (1 : Int32)), .val (.int (1 : Int32)), .val (.int (fT 2)), .val (.int (1 : Int32))]) rfl k) ?_
    show Go _ _ _ _ _ _ _ T3 (mkF m 76 #[.val (.ref a), .val (.int (1 : Int32)), .val (.int (fT 1)), .val (.int (4 : Int32)), .val (.int (1 : Int32)), .val (.int (1 : Int32)), .val (.int (fT 2)), .val (.int (1 : Int32))] [])
    refine Go.step (fun _ k => XS.goto X3.here hx rfl (pc0 := 76) (pc' := 91) rfl (hb hby d11_76) (by decide) (by decide) k) ?_
    show Go _ _ _ _ _ _ _ T3 (mkF m 91 #[.val (.ref a), .val (.int (1 : Int32)), .val (.int (fT 1)), .val (.int (4 : Int32)), .val (.int (1 : Int32)), .val (.int (1 : Int32)), .val (.int (fT 2)), .val (.int (1 : Int32))] [])
    refine Go.step (fun _ k => XS.goto X3.here hx rfl (pc0 := 91) (pc' := 13) rfl (hb hby d11_91) (by decide) (by decide) k) ?_
    show Go _ _ _ _ _ _ _ T3 (mkF m 13 #[.val (.ref a), .val (.int (1 : Int32)), .val (.int (fT 1)), .val (.int (4 : Int32)), .val (.int (1 : Int32)), .val (.int (1 : Int32)), .val (.int (fT 2)), .val (.int (1 : Int32))] [])
    refine Go.step (fun _ k => XS.aloadN X3.here hx rfl (hb hby d11_13) rfl rfl k) ?_
    obtain ⟨T5, X5, e5, st5⟩ := getF X3 hx hZ hown (host := "") (Or.inl (hw _ (mI 36 rfl))) Via.refl e3 F_node_a_0 (g := (mkF m 14 #[.val (.ref a), .val (.int (1 : Int32)), .val (.int (fT 1)), .val (.int (4 : Int32)), .val (.int (1 : Int32)), .val (.int (1 : Int32)), .val (.int (fT 2)), .val (.int (1 : Int32))] [(.ref a)])) rfl rfl (hb hby d11_14)
    refine Go.step st5 ?_
    show Go _ _ _ _ _ _ _ T5 (mkF m 17 #[.val (.ref a), .val (.int (1 : Int32)), .val (.int (fT 1)), .val (.int (4 : Int32)), .val (.int (1 : Int32)), .val (.int (1 : Int32)), .val (.int (fT 2)), .val (.int (1 : Int32))] [(.ref xt)])
    refine Go.step (fun _ k => XS.iloadN X5.here hx rfl (hb hby d11_17) rfl k) ?_
    refine Go.iaload X5 hx hZ e5 V_xt_0 (j := (4 : Int32)) (v := (fT 4)) (by decide) rfl (hb hby d11_18) ?_
    show Go _ _ _ _ _ _ _ T5 (mkF m 19 #[.val (.ref a), .val (.int (1 : Int32)), .val (.int (fT 1)), .val (.int (4 : Int32)), .val (.int (1 : Int32)), .val (.int (1 : Int32)), .val (.int (fT 2)), .val (.int (1 : Int32))] [(.int (fT 4))])
    refine Go.step (fun _ k => XS.istore X5.here hx rfl (hb hby d11_19) rfl (l' := #[.val (.ref a), .val (.int (1 : Int32)), .val (.int (fT 1)), .val (.int (4 : Int32)), .val (.int (1 : Int32)), .val (.int (1 : Int32)), .val (.int (fT 4)), .val (.int (1 : Int32))]) rfl k) ?_
    show Go _ _ _ _ _ _ _ T5 (mkF m 21 #[.val (.ref a), .val (.int (1 : Int32)), .val (.int (fT 1)), .val (.int (4 : Int32)), .val (.int (1 : Int32)), .val (.int (1 : Int32)), .val (.int (fT 4)), .val (.int (1 : Int32))] [])
    refine Go.step (fun _ k => XS.iload X5.here hx rfl (hb hby d11_21) rfl k) ?_
    refine Go.step (fun _ k => XS.ifYes X5.here hx rfl (pc0 := 23) (pc' := 44) rfl (hb hby d11_23) rfl ((if0 _ _).trans (teq hLf.1).1) (by decide) (by decide) k) ?_
    show Go _ _ _ _ _ _ _ T5 (mkF m 44 #[.val (.ref a), .val (.int (1 : Int32)), .val (.int (fT 1)), .val (.int (4 : Int32)), .val (.int (1 : Int32)), .val (.int (1 : Int32)), .val (.int (fT 4)), .val (.int (1 : Int32))] [])
    refine Go.step (fun _ k => XS.iload X5.here hx rfl (hb hby d11_44) rfl k) ?_
    refine Go.step (fun _ k => XS.iload X5.here hx rfl (hb hby d11_46) rfl k) ?_
    refine Go.step (fun _ k => XS.icmpNo X5.here hx rfl (hb hby d11_48) rfl (teq (by decide : (1 : Int32) = (1 : Int32))).2 k) ?_
    show Go _ _ _ _ _ _ _ T5 (mkF m 51 #[.val (.ref a), .val (.int (1 : Int32)), .val (.int (fT 1)), .val (.int (4 : Int32)), .val (.int (1 : Int32)), .val (.int (1 : Int32)), .val (.int (fT 4)), .val (.int (1 : Int32))] [])
    refine Go.step (fun _ k => XS.iloadN X5.here hx rfl (hb hby d11_51) rfl k) ?_
    refine Go.retI X5 hx hlk hret (hb hby d11_52) (by decide) (by decide) ?_
    try rw [e5]
    exact ⟨by simp only [lowestW]; rw [if_pos hc23_4], N0, rfl⟩
  · refine Go.step (fun _ k => XS.ifNo X3.here hx rfl (hb hby d11_23) rfl ((if0 _ _).trans (feq hc23_4).1) k) ?_
    show Go _ _ _ _ _ _ _ T3 (mkF m 26 #[.val (.ref a), .val (.int (1 : Int32)), .val (.int (fT 1)), .val (.int (2 : Int32)), .val (.int (1 : Int32)), .val (.int (2 : Int32)), .val (.int (fT 2)), .val (.int (2 : Int32))] [])
    refine Go.step (fun _ k => XS.iloadN X3.here hx rfl (hb hby d11_26) rfl k) ?_
    refine Go.step (fun _ k => XS.ifNo X3.here hx rfl (hb hby d11_27) rfl ((if0 _ _).trans (feq hr).1) k) ?_
    show Go _ _ _ _ _ _ _ T3 (mkF m 30 #[.val (.ref a), .val (.int (1 : Int32)), .val (.int (fT 1)), .val (.int (2 : Int32)), .val (.int (1 : Int32)), .val (.int (2 : Int32)), .val (.int (fT 2)), .val (.int (2 : Int32))] [])
    refine Go.step (fun _ k => XS.aloadN X3.here hx rfl (hb hby d11_30) rfl rfl k) ?_
    refine Go.step (fun _ k => XS.iload X3.here hx rfl (hb hby d11_31) rfl k) ?_
    refine Go.step (fun _ k => XS.iloadN X3.here hx rfl (hb hby d11_33) rfl k) ?_
    show Go _ _ _ _ _ _ _ T3 (mkF m 34 #[.val (.ref a), .val (.int (1 : Int32)), .val (.int (fT 1)), .val (.int (2 : Int32)), .val (.int (1 : Int32)), .val (.int (2 : Int32)), .val (.int (fT 2)), .val (.int (2 : Int32))] [(.int (fT 1)), (.int (fT 2)), (.ref a)])
    refine Go.step (fun _ k => XS.iloadN X3.here hx rfl (hb hby d11_34) rfl k) ?_
    refine Go.callP X3 hx hZ (by rw [hml]; rfl) (y := (⟨"com/example/headroom/headroom/LowerEnvelope", "lower", "(III)Z"⟩ : MethodName)) (a := a) (argsL := [(.int (fT 2)), (.int (fT 1)), (.int (1 : Int32))]) (rest := []) hown (hw _ (mI 57 rfl)) (hw _ (mI 58 rfl)) (hw _ (mI 1 rfl)) (hw _ (mI 59 rfl)) (hw _ (mI 2 rfl)) (hw _ (mI 60 rfl)) (by decide) (rm9 l Z a0 hw a xu xv xw fP fQ fC (fT 2) (fT 1) (1 : Int32) h0 n0 Z0 F_base_a_0 F_slope_a_0 F_origin_a_0 V_xu_0 V_xv_0 V_xw_0 hP hQ hC (hR 2) (hR 1) (own_in (1 : Int32) (by decide))) e3 E_a_0 (hb hby d11_35) (lenOf pd_1 rfl) rfl rfl (W := 0) (Nat.le_of_eq rfl) (by decide) (by decide) (by decide) (by decide) ?_
    intro v6 T6 L6 X6 Q6
    obtain ⟨rfl, N6q, hh6⟩ := Q6
    have N6 := Fr.app N0 N6q
    show Go _ _ _ _ _ _ _ T6 (mkF m 38 #[.val (.ref a), .val (.int (1 : Int32)), .val (.int (fT 1)), .val (.int (2 : Int32)), .val (.int (1 : Int32)), .val (.int (2 : Int32)), .val (.int (fT 2)), .val (.int (2 : Int32))] [(.int (lowW fP fQ fC (fT 2) (fT 1) (1 : Int32)))])
    by_cases hc38_7 : (lowW fP fQ fC (fT 2) (fT 1) (1 : Int32)) = (0 : Int32)
    · refine Go.step (fun _ k => XS.ifYes X6.here hx rfl (pc0 := 38) (pc' := 44) rfl (hb hby d11_38) rfl ((if0 _ _).trans (teq hc38_7).1) (by decide) (by decide) k) ?_
      show Go _ _ _ _ _ _ _ T6 (mkF m 44 #[.val (.ref a), .val (.int (1 : Int32)), .val (.int (fT 1)), .val (.int (2 : Int32)), .val (.int (1 : Int32)), .val (.int (2 : Int32)), .val (.int (fT 2)), .val (.int (2 : Int32))] [])
      refine Go.step (fun _ k => XS.iload X6.here hx rfl (hb hby d11_44) rfl k) ?_
      refine Go.step (fun _ k => XS.iload X6.here hx rfl (hb hby d11_46) rfl k) ?_
      refine Go.step (fun _ k => XS.icmpYes X6.here hx rfl (pc0 := 48) (pc' := 53) rfl (hb hby d11_48) rfl (feq (by decide : ¬ ((1 : Int32) = (2 : Int32)))).2 (by decide) (by decide) k) ?_
      show Go _ _ _ _ _ _ _ T6 (mkF m 53 #[.val (.ref a), .val (.int (1 : Int32)), .val (.int (fT 1)), .val (.int (2 : Int32)), .val (.int (1 : Int32)), .val (.int (2 : Int32)), .val (.int (fT 2)), .val (.int (2 : Int32))] [])
      refine Go.step (fun _ k => XS.iload X6.here hx rfl (hb hby d11_53) rfl k) ?_
      refine Go.step (fun _ k => XS.iload X6.here hx rfl (hb hby d11_55) rfl k) ?_
      refine Go.step (fun _ k => XS.iadd X6.here hx rfl (hb hby d11_57) rfl k) ?_
      show Go _ _ _ _ _ _ _ T6 (mkF m 58 #[.val (.ref a), .val (.int (1 : Int32)), .val (.int (fT 1)), .val (.int (2 : Int32)), .val (.int (1 : Int32)), .val (.int (2 : Int32)), .val (.int (fT 2)), .val (.int (2 : Int32))] [(.int (3 : Int32))])
      refine Go.step (fun _ k => XS.iconst X6.here hx rfl (hb hby d11_58) k) ?_
      refine Go.step (fun _ k => XS.iushr X6.here hx rfl (hb hby d11_59) rfl k) ?_
      show Go _ _ _ _ _ _ _ T6 (mkF m 60 #[.val (.ref a), .val (.int (1 : Int32)), .val (.int (fT 1)), .val (.int (2 : Int32)), .val (.int (1 : Int32)), .val (.int (2 : Int32)), .val (.int (fT 2)), .val (.int (2 : Int32))] [(.int (1 : Int32))])
      refine Go.step (fun _ k => XS.istore X6.here hx rfl (hb hby d11_60) rfl (l' := #[.val (.ref a), .val (.int (1 : Int32)), .val (.int (fT 1)), .val (.int (2 : Int32)), .val (.int (1 : Int32)), .val (.int (2 : Int32)), .val (.int (fT 2)), .val (.int (1 : Int32))]) rfl k) ?_
      show Go _ _ _ _ _ _ _ T6 (mkF m 62 #[.val (.ref a), .val (.int (1 : Int32)), .val (.int (fT 1)), .val (.int (2 : Int32)), .val (.int (1 : Int32)), .val (.int (2 : Int32)), .val (.int (fT 2)), .val (.int (1 : Int32))] [])
      refine Go.step (fun _ k => XS.iloadN X6.here hx rfl (hb hby d11_62) rfl k) ?_
      refine Go.step (fun _ k => XS.iload X6.here hx rfl (hb hby d11_63) rfl k) ?_
      refine Go.step (fun _ k => XS.icmpNo X6.here hx rfl (hb hby d11_65) rfl (flt (by decide : ¬ ((1 : Int32) < (1 : Int32)))).2.2.1 k) ?_
      show Go _ _ _ _ _ _ _ T6 (mkF m 68 #[.val (.ref a), .val (.int (1 : Int32)), .val (.int (fT 1)), .val (.int (2 : Int32)), .val (.int (1 : Int32)), .val (.int (2 : Int32)), .val (.int (fT 2)), .val (.int (1 : Int32))] [])
      refine Go.step (fun _ k => XS.iconst X6.here hx rfl (hb hby d11_68) k) ?_
      refine Go.step (fun _ k => XS.iloadN X6.here hx rfl (hb hby d11_69) rfl k) ?_
      refine Go.step (fun _ k => XS.imul X6.here hx rfl (hb hby d11_70) rfl k) ?_
      show Go _ _ _ _ _ _ _ T6 (mkF m 71 #[.val (.ref a), .val (.int (1 : Int32)), .val (.int (fT 1)), .val (.int (2 : Int32)), .val (.int (1 : Int32)), .val (.int (2 : Int32)), .val (.int (fT 2)), .val (.int (1 : Int32))] [(.int (4 : Int32))])
      refine Go.step (fun _ k => XS.istoreN X6.here hx rfl (hb hby d11_71) rfl (l' := #[.val (.ref a), .val (.int (1 : Int32)), .val (.int (fT 1)), .val (.int (4 : Int32)), .val (.int (1 : Int32)), .val (.int (2 : Int32)), .val (.int (fT 2)), .val (.int (1 : Int32))]) rfl k) ?_
      show Go _ _ _ _ _ _ _ T6 (mkF m 72 #[.val (.ref a), .val (.int (1 : Int32)), .val (.int (fT 1)), .val (.int (4 : Int32)), .val (.int (1 : Int32)), .val (.int (2 : Int32)), .val (.int (fT 2)), .val (.int (1 : Int32))] [])
      refine Go.step (fun _ k => XS.iload X6.here hx rfl (hb hby d11_72) rfl k) ?_
      refine Go.step (fun _ k => XS.istore X6.here hx rfl (hb hby d11_74) rfl (l' := #[.val (.ref a), .val (.int (1 : Int32)), .val (.int (fT 1)), .val (.int (4 : Int32)), .val (.int (1 : Int32)), .val (.int (1 : Int32)), .val (.int (fT 2)), .val (.int (1 : Int32))]) rfl k) ?_
      show Go _ _ _ _ _ _ _ T6 (mkF m 76 #[.val (.ref a), .val (.int (1 : Int32)), .val (.int (fT 1)), .val (.int (4 : Int32)), .val (.int (1 : Int32)), .val (.int (1 : Int32)), .val (.int (fT 2)), .val (.int (1 : Int32))] [])
      refine Go.step (fun _ k => XS.goto X6.here hx rfl (pc0 := 76) (pc' := 91) rfl (hb hby d11_76) (by decide) (by decide) k) ?_
      show Go _ _ _ _ _ _ _ T6 (mkF m 91 #[.val (.ref a), .val (.int (1 : Int32)), .val (.int (fT 1)), .val (.int (4 : Int32)), .val (.int (1 : Int32)), .val (.int (1 : Int32)), .val (.int (fT 2)), .val (.int (1 : Int32))] [])
      refine Go.step (fun _ k => XS.goto X6.here hx rfl (pc0 := 91) (pc' := 13) rfl (hb hby d11_91) (by decide) (by decide) k) ?_
      show Go _ _ _ _ _ _ _ T6 (mkF m 13 #[.val (.ref a), .val (.int (1 : Int32)), .val (.int (fT 1)), .val (.int (4 : Int32)), .val (.int (1 : Int32)), .val (.int (1 : Int32)), .val (.int (fT 2)), .val (.int (1 : Int32))] [])
      refine Go.step (fun _ k => XS.aloadN X6.here hx rfl (hb hby d11_13) rfl rfl k) ?_
      obtain ⟨T8, X8, e8, st8⟩ := getF X6 hx hZ hown (host := "") (Or.inl (hw _ (mI 36 rfl))) Via.refl hh6 F_node_a_0 (g := (mkF m 14 #[.val (.ref a), .val (.int (1 : Int32)), .val (.int (fT 1)), .val (.int (4 : Int32)), .val (.int (1 : Int32)), .val (.int (1 : Int32)), .val (.int (fT 2)), .val (.int (1 : Int32))] [(.ref a)])) rfl rfl (hb hby d11_14)
      refine Go.step st8 ?_
      show Go _ _ _ _ _ _ _ T8 (mkF m 17 #[.val (.ref a), .val (.int (1 : Int32)), .val (.int (fT 1)), .val (.int (4 : Int32)), .val (.int (1 : Int32)), .val (.int (1 : Int32)), .val (.int (fT 2)), .val (.int (1 : Int32))] [(.ref xt)])
      refine Go.step (fun _ k => XS.iloadN X8.here hx rfl (hb hby d11_17) rfl k) ?_
      refine Go.iaload X8 hx hZ e8 V_xt_0 (j := (4 : Int32)) (v := (fT 4)) (by decide) rfl (hb hby d11_18) ?_
      show Go _ _ _ _ _ _ _ T8 (mkF m 19 #[.val (.ref a), .val (.int (1 : Int32)), .val (.int (fT 1)), .val (.int (4 : Int32)), .val (.int (1 : Int32)), .val (.int (1 : Int32)), .val (.int (fT 2)), .val (.int (1 : Int32))] [(.int (fT 4))])
      refine Go.step (fun _ k => XS.istore X8.here hx rfl (hb hby d11_19) rfl (l' := #[.val (.ref a), .val (.int (1 : Int32)), .val (.int (fT 1)), .val (.int (4 : Int32)), .val (.int (1 : Int32)), .val (.int (1 : Int32)), .val (.int (fT 4)), .val (.int (1 : Int32))]) rfl k) ?_
      show Go _ _ _ _ _ _ _ T8 (mkF m 21 #[.val (.ref a), .val (.int (1 : Int32)), .val (.int (fT 1)), .val (.int (4 : Int32)), .val (.int (1 : Int32)), .val (.int (1 : Int32)), .val (.int (fT 4)), .val (.int (1 : Int32))] [])
      refine Go.step (fun _ k => XS.iload X8.here hx rfl (hb hby d11_21) rfl k) ?_
      refine Go.step (fun _ k => XS.ifYes X8.here hx rfl (pc0 := 23) (pc' := 44) rfl (hb hby d11_23) rfl ((if0 _ _).trans (teq hLf.1).1) (by decide) (by decide) k) ?_
      show Go _ _ _ _ _ _ _ T8 (mkF m 44 #[.val (.ref a), .val (.int (1 : Int32)), .val (.int (fT 1)), .val (.int (4 : Int32)), .val (.int (1 : Int32)), .val (.int (1 : Int32)), .val (.int (fT 4)), .val (.int (1 : Int32))] [])
      refine Go.step (fun _ k => XS.iload X8.here hx rfl (hb hby d11_44) rfl k) ?_
      refine Go.step (fun _ k => XS.iload X8.here hx rfl (hb hby d11_46) rfl k) ?_
      refine Go.step (fun _ k => XS.icmpNo X8.here hx rfl (hb hby d11_48) rfl (teq (by decide : (1 : Int32) = (1 : Int32))).2 k) ?_
      show Go _ _ _ _ _ _ _ T8 (mkF m 51 #[.val (.ref a), .val (.int (1 : Int32)), .val (.int (fT 1)), .val (.int (4 : Int32)), .val (.int (1 : Int32)), .val (.int (1 : Int32)), .val (.int (fT 4)), .val (.int (1 : Int32))] [])
      refine Go.step (fun _ k => XS.iloadN X8.here hx rfl (hb hby d11_51) rfl k) ?_
      refine Go.retI X8 hx hlk hret (hb hby d11_52) (by decide) (by decide) ?_
      try rw [e8]
      exact ⟨by simp only [lowestW]; rw [if_neg hc23_4, if_pos hc38_7], N6, rfl⟩
    · refine Go.step (fun _ k => XS.ifNo X6.here hx rfl (hb hby d11_38) rfl ((if0 _ _).trans (feq hc38_7).1) k) ?_
      show Go _ _ _ _ _ _ _ T6 (mkF m 41 #[.val (.ref a), .val (.int (1 : Int32)), .val (.int (fT 1)), .val (.int (2 : Int32)), .val (.int (1 : Int32)), .val (.int (2 : Int32)), .val (.int (fT 2)), .val (.int (2 : Int32))] [])
      refine Go.step (fun _ k => XS.iload X6.here hx rfl (hb hby d11_41) rfl k) ?_
      refine Go.step (fun _ k => XS.istoreN X6.here hx rfl (hb hby d11_43) rfl (l' := #[.val (.ref a), .val (.int (1 : Int32)), .val (.int (fT 2)), .val (.int (2 : Int32)), .val (.int (1 : Int32)), .val (.int (2 : Int32)), .val (.int (fT 2)), .val (.int (2 : Int32))]) rfl k) ?_
      show Go _ _ _ _ _ _ _ T6 (mkF m 44 #[.val (.ref a), .val (.int (1 : Int32)), .val (.int (fT 2)), .val (.int (2 : Int32)), .val (.int (1 : Int32)), .val (.int (2 : Int32)), .val (.int (fT 2)), .val (.int (2 : Int32))] [])
      refine Go.step (fun _ k => XS.iload X6.here hx rfl (hb hby d11_44) rfl k) ?_
      refine Go.step (fun _ k => XS.iload X6.here hx rfl (hb hby d11_46) rfl k) ?_
      refine Go.step (fun _ k => XS.icmpYes X6.here hx rfl (pc0 := 48) (pc' := 53) rfl (hb hby d11_48) rfl (feq (by decide : ¬ ((1 : Int32) = (2 : Int32)))).2 (by decide) (by decide) k) ?_
      show Go _ _ _ _ _ _ _ T6 (mkF m 53 #[.val (.ref a), .val (.int (1 : Int32)), .val (.int (fT 2)), .val (.int (2 : Int32)), .val (.int (1 : Int32)), .val (.int (2 : Int32)), .val (.int (fT 2)), .val (.int (2 : Int32))] [])
      refine Go.step (fun _ k => XS.iload X6.here hx rfl (hb hby d11_53) rfl k) ?_
      refine Go.step (fun _ k => XS.iload X6.here hx rfl (hb hby d11_55) rfl k) ?_
      refine Go.step (fun _ k => XS.iadd X6.here hx rfl (hb hby d11_57) rfl k) ?_
      show Go _ _ _ _ _ _ _ T6 (mkF m 58 #[.val (.ref a), .val (.int (1 : Int32)), .val (.int (fT 2)), .val (.int (2 : Int32)), .val (.int (1 : Int32)), .val (.int (2 : Int32)), .val (.int (fT 2)), .val (.int (2 : Int32))] [(.int (3 : Int32))])
      refine Go.step (fun _ k => XS.iconst X6.here hx rfl (hb hby d11_58) k) ?_
      refine Go.step (fun _ k => XS.iushr X6.here hx rfl (hb hby d11_59) rfl k) ?_
      show Go _ _ _ _ _ _ _ T6 (mkF m 60 #[.val (.ref a), .val (.int (1 : Int32)), .val (.int (fT 2)), .val (.int (2 : Int32)), .val (.int (1 : Int32)), .val (.int (2 : Int32)), .val (.int (fT 2)), .val (.int (2 : Int32))] [(.int (1 : Int32))])
      refine Go.step (fun _ k => XS.istore X6.here hx rfl (hb hby d11_60) rfl (l' := #[.val (.ref a), .val (.int (1 : Int32)), .val (.int (fT 2)), .val (.int (2 : Int32)), .val (.int (1 : Int32)), .val (.int (2 : Int32)), .val (.int (fT 2)), .val (.int (1 : Int32))]) rfl k) ?_
      show Go _ _ _ _ _ _ _ T6 (mkF m 62 #[.val (.ref a), .val (.int (1 : Int32)), .val (.int (fT 2)), .val (.int (2 : Int32)), .val (.int (1 : Int32)), .val (.int (2 : Int32)), .val (.int (fT 2)), .val (.int (1 : Int32))] [])
      refine Go.step (fun _ k => XS.iloadN X6.here hx rfl (hb hby d11_62) rfl k) ?_
      refine Go.step (fun _ k => XS.iload X6.here hx rfl (hb hby d11_63) rfl k) ?_
      refine Go.step (fun _ k => XS.icmpNo X6.here hx rfl (hb hby d11_65) rfl (flt (by decide : ¬ ((1 : Int32) < (1 : Int32)))).2.2.1 k) ?_
      show Go _ _ _ _ _ _ _ T6 (mkF m 68 #[.val (.ref a), .val (.int (1 : Int32)), .val (.int (fT 2)), .val (.int (2 : Int32)), .val (.int (1 : Int32)), .val (.int (2 : Int32)), .val (.int (fT 2)), .val (.int (1 : Int32))] [])
      refine Go.step (fun _ k => XS.iconst X6.here hx rfl (hb hby d11_68) k) ?_
      refine Go.step (fun _ k => XS.iloadN X6.here hx rfl (hb hby d11_69) rfl k) ?_
      refine Go.step (fun _ k => XS.imul X6.here hx rfl (hb hby d11_70) rfl k) ?_
      show Go _ _ _ _ _ _ _ T6 (mkF m 71 #[.val (.ref a), .val (.int (1 : Int32)), .val (.int (fT 2)), .val (.int (2 : Int32)), .val (.int (1 : Int32)), .val (.int (2 : Int32)), .val (.int (fT 2)), .val (.int (1 : Int32))] [(.int (4 : Int32))])
      refine Go.step (fun _ k => XS.istoreN X6.here hx rfl (hb hby d11_71) rfl (l' := #[.val (.ref a), .val (.int (1 : Int32)), .val (.int (fT 2)), .val (.int (4 : Int32)), .val (.int (1 : Int32)), .val (.int (2 : Int32)), .val (.int (fT 2)), .val (.int (1 : Int32))]) rfl k) ?_
      show Go _ _ _ _ _ _ _ T6 (mkF m 72 #[.val (.ref a), .val (.int (1 : Int32)), .val (.int (fT 2)), .val (.int (4 : Int32)), .val (.int (1 : Int32)), .val (.int (2 : Int32)), .val (.int (fT 2)), .val (.int (1 : Int32))] [])
      refine Go.step (fun _ k => XS.iload X6.here hx rfl (hb hby d11_72) rfl k) ?_
      refine Go.step (fun _ k => XS.istore X6.here hx rfl (hb hby d11_74) rfl (l' := #[.val (.ref a), .val (.int (1 : Int32)), .val (.int (fT 2)), .val (.int (4 : Int32)), .val (.int (1 : Int32)), .val (.int (1 : Int32)), .val (.int (fT 2)), .val (.int (1 : Int32))]) rfl k) ?_
      show Go _ _ _ _ _ _ _ T6 (mkF m 76 #[.val (.ref a), .val (.int (1 : Int32)), .val (.int (fT 2)), .val (.int (4 : Int32)), .val (.int (1 : Int32)), .val (.int (1 : Int32)), .val (.int (fT 2)), .val (.int (1 : Int32))] [])
      refine Go.step (fun _ k => XS.goto X6.here hx rfl (pc0 := 76) (pc' := 91) rfl (hb hby d11_76) (by decide) (by decide) k) ?_
      show Go _ _ _ _ _ _ _ T6 (mkF m 91 #[.val (.ref a), .val (.int (1 : Int32)), .val (.int (fT 2)), .val (.int (4 : Int32)), .val (.int (1 : Int32)), .val (.int (1 : Int32)), .val (.int (fT 2)), .val (.int (1 : Int32))] [])
      refine Go.step (fun _ k => XS.goto X6.here hx rfl (pc0 := 91) (pc' := 13) rfl (hb hby d11_91) (by decide) (by decide) k) ?_
      show Go _ _ _ _ _ _ _ T6 (mkF m 13 #[.val (.ref a), .val (.int (1 : Int32)), .val (.int (fT 2)), .val (.int (4 : Int32)), .val (.int (1 : Int32)), .val (.int (1 : Int32)), .val (.int (fT 2)), .val (.int (1 : Int32))] [])
      refine Go.step (fun _ k => XS.aloadN X6.here hx rfl (hb hby d11_13) rfl rfl k) ?_
      obtain ⟨T9, X9, e9, st9⟩ := getF X6 hx hZ hown (host := "") (Or.inl (hw _ (mI 36 rfl))) Via.refl hh6 F_node_a_0 (g := (mkF m 14 #[.val (.ref a), .val (.int (1 : Int32)), .val (.int (fT 2)), .val (.int (4 : Int32)), .val (.int (1 : Int32)), .val (.int (1 : Int32)), .val (.int (fT 2)), .val (.int (1 : Int32))] [(.ref a)])) rfl rfl (hb hby d11_14)
      refine Go.step st9 ?_
      show Go _ _ _ _ _ _ _ T9 (mkF m 17 #[.val (.ref a), .val (.int (1 : Int32)), .val (.int (fT 2)), .val (.int (4 : Int32)), .val (.int (1 : Int32)), .val (.int (1 : Int32)), .val (.int (fT 2)), .val (.int (1 : Int32))] [(.ref xt)])
      refine Go.step (fun _ k => XS.iloadN X9.here hx rfl (hb hby d11_17) rfl k) ?_
      refine Go.iaload X9 hx hZ e9 V_xt_0 (j := (4 : Int32)) (v := (fT 4)) (by decide) rfl (hb hby d11_18) ?_
      show Go _ _ _ _ _ _ _ T9 (mkF m 19 #[.val (.ref a), .val (.int (1 : Int32)), .val (.int (fT 2)), .val (.int (4 : Int32)), .val (.int (1 : Int32)), .val (.int (1 : Int32)), .val (.int (fT 2)), .val (.int (1 : Int32))] [(.int (fT 4))])
      refine Go.step (fun _ k => XS.istore X9.here hx rfl (hb hby d11_19) rfl (l' := #[.val (.ref a), .val (.int (1 : Int32)), .val (.int (fT 2)), .val (.int (4 : Int32)), .val (.int (1 : Int32)), .val (.int (1 : Int32)), .val (.int (fT 4)), .val (.int (1 : Int32))]) rfl k) ?_
      show Go _ _ _ _ _ _ _ T9 (mkF m 21 #[.val (.ref a), .val (.int (1 : Int32)), .val (.int (fT 2)), .val (.int (4 : Int32)), .val (.int (1 : Int32)), .val (.int (1 : Int32)), .val (.int (fT 4)), .val (.int (1 : Int32))] [])
      refine Go.step (fun _ k => XS.iload X9.here hx rfl (hb hby d11_21) rfl k) ?_
      refine Go.step (fun _ k => XS.ifYes X9.here hx rfl (pc0 := 23) (pc' := 44) rfl (hb hby d11_23) rfl ((if0 _ _).trans (teq hLf.1).1) (by decide) (by decide) k) ?_
      show Go _ _ _ _ _ _ _ T9 (mkF m 44 #[.val (.ref a), .val (.int (1 : Int32)), .val (.int (fT 2)), .val (.int (4 : Int32)), .val (.int (1 : Int32)), .val (.int (1 : Int32)), .val (.int (fT 4)), .val (.int (1 : Int32))] [])
      refine Go.step (fun _ k => XS.iload X9.here hx rfl (hb hby d11_44) rfl k) ?_
      refine Go.step (fun _ k => XS.iload X9.here hx rfl (hb hby d11_46) rfl k) ?_
      refine Go.step (fun _ k => XS.icmpNo X9.here hx rfl (hb hby d11_48) rfl (teq (by decide : (1 : Int32) = (1 : Int32))).2 k) ?_
      show Go _ _ _ _ _ _ _ T9 (mkF m 51 #[.val (.ref a), .val (.int (1 : Int32)), .val (.int (fT 2)), .val (.int (4 : Int32)), .val (.int (1 : Int32)), .val (.int (1 : Int32)), .val (.int (fT 4)), .val (.int (1 : Int32))] [])
      refine Go.step (fun _ k => XS.iloadN X9.here hx rfl (hb hby d11_51) rfl k) ?_
      refine Go.retI X9 hx hlk hret (hb hby d11_52) (by decide) (by decide) ?_
      try rw [e9]
      exact ⟨by simp only [lowestW]; rw [if_neg hc23_4, if_neg hc38_7], N6, rfl⟩
theorem ef_rm11_1 (m : MethodId) (a : Addr) : entryFrame m #[(.ref a), (.int (1 : Int32))] 8 = mkF m 0 #[.val (.ref a), .val (.int (1 : Int32)), .unset, .unset, .unset, .unset, .unset, .unset] [] := by first | (simp [entryFrame, mkF, argsToLocals, Value.category]; done) | rfl
theorem rm11_1 (l : Launch) (Z : State) (a0 : Array Value) (hw : ∀ d ∈ tables_1, d.before a0 Z = true) (a xn xo xu xv xw xt xm : Addr) (fP fQ fC fT fM fN fO : Nat → Int32) (dd ss : Nat) (h0 : Heap) (n0 : Nat) (Z0 : n0 ≤ h0.size) (hL : LEs Z h0 a xn xo xu xv xw xt xm fP fQ fC fT fM fN fO dd ss) (hP : Sm fP) (hQ : Sm fQ) (hC : Sm fC) (hR : Rng fT) (hLf : Lf fT) (hr : ¬ fT 1 = (0 : Int32)) :
    Con l Z (⟨"com/example/headroom/headroom/LowerEnvelope", "lowest", "(I)I"⟩ : MethodName) prog_15_method_4_code 8 (some .int) ({ frames := 1, cells := 0, slots := 0, locals := 24 } : Room) #[(.ref a), (.int (1 : Int32))] h0 (fun r h L => r = some (.int (lowestW fP fQ fC fT 2 (1 : Int32))) ∧ Fr n0 L ∧ h = h0) :=
  con_of (plainFor_of_name pn_9) (fun p_ e_ s_ m_ b_ meth_ c_ T_ X_ hx hZ hby hml hown hnm hret hlk e0 => Go.cast (ef_rm11_1 m_ a) (w11_1 a xn xo xu xv xw xt xm fP fQ fC fT fM fN fO dd ss X_ hx hZ hw hby hml hown hnm hret hlk e0 Z0 (Fr.nil n0) hL hP hQ hC hR hLf hr))
theorem d11_79 : decode prog_15_method_4_code 79 = .ok (.iconst 2, 1) := by decide +kernel
theorem d11_80 : decode prog_15_method_4_code 80 = .ok (.iload_n 3, 1) := by decide +kernel
theorem d11_81 : decode prog_15_method_4_code 81 = .ok (.imul, 1) := by decide +kernel
theorem d11_82 : decode prog_15_method_4_code 82 = .ok (.iconst 1, 1) := by decide +kernel
theorem d11_83 : decode prog_15_method_4_code 83 = .ok (.iadd, 1) := by decide +kernel
theorem d11_84 : decode prog_15_method_4_code 84 = .ok (.istore_n 3, 1) := by decide +kernel
theorem d11_85 : decode prog_15_method_4_code 85 = .ok (.iload 7, 2) := by decide +kernel
theorem d11_87 : decode prog_15_method_4_code 87 = .ok (.iconst 1, 1) := by decide +kernel
theorem d11_88 : decode prog_15_method_4_code 88 = .ok (.iadd, 1) := by decide +kernel
theorem d11_89 : decode prog_15_method_4_code 89 = .ok (.istore 4, 2) := by decide +kernel
set_option maxRecDepth 65536 in
set_option maxHeartbeats 40000000 in
theorem w11_2 {p : Program} {l : Launch} {e : Env} {s : State} {m : MethodId} {args : Array Value} {below : List Frame} {meth : Method} {c_ : Code} {T0 : State} {locs : List Loc} {Z : State} {a0 : Array Value} {h0 : Heap} {n0 : Nat} (a xn xo xu xv xw xt xm : Addr) (fP fQ fC fT fM fN fO : Nat → Int32) (dd ss : Nat)
    (X0 : Stand p l e ({ frames := 1, cells := 0, slots := 0, locals := 24 } : Room) s m args below meth c_ T0 locs 0 0) (hx : p.tables.exec = Jvm.exec) (hZ : Z.Warmed39 s.vm) (hw : ∀ d ∈ tables_1, d.before a0 Z = true) (hby : c_.code = prog_15_method_4_code) (hml : c_.maxLocals = 8) (hown : s.vm.findClass "com/example/headroom/headroom/LowerEnvelope" = some m.cls) (hnm : meth.name = "lowest") (hret : meth.sig.returnType = some .int) (hlk : meth.locks = false) (e0 : T0.heap = h0) (Z0 : n0 ≤ h0.size) (N0 : Fr n0 locs) (hL : LEs Z h0 a xn xo xu xv xw xt xm fP fQ fC fT fM fN fO dd ss) (hP : Sm fP) (hQ : Sm fQ) (hC : Sm fC) (hR : Rng fT) (hLf : Lf fT) (hr : ¬ fT 1 = (0 : Int32)) :
    Go p e below s ({ frames := 1, cells := 0, slots := 0, locals := 24 } : Room).cells ({ frames := 1, cells := 0, slots := 0, locals := 24 } : Room).slots (fun r h L => r = some (.int (lowestW fP fQ fC fT 2 (2 : Int32))) ∧ Fr n0 L ∧ h = h0) T0 (mkF m 0 #[.val (.ref a), .val (.int (2 : Int32)), .unset, .unset, .unset, .unset, .unset, .unset] []) := by
  obtain ⟨E_a_0, F_changedNode_a_0, F_changedLine_a_0, F_base_a_0, F_slope_a_0, F_origin_a_0, F_node_a_0, F_pushedAt_a_0, F_width_a_0, F_pushes_a_0, F_changes_a_0, V_xn_0, V_xo_0, V_xu_0, V_xv_0, V_xw_0, V_xt_0, V_xm_0⟩ := hL
  show Go _ _ _ _ _ _ _ T0 (mkF m 0 #[.val (.ref a), .val (.int (2 : Int32)), .unset, .unset, .unset, .unset, .unset, .unset] [])
  refine Go.step (fun _ k => XS.iconst X0.here hx rfl (hb hby d11_0) k) ?_
  refine Go.step (fun _ k => XS.istoreN X0.here hx rfl (hb hby d11_1) rfl (l' := #[.val (.ref a), .val (.int (2 : Int32)), .val (.int (0 : Int32)), .unset, .unset, .unset, .unset, .unset]) rfl k) ?_
  show Go _ _ _ _ _ _ _ T0 (mkF m 2 #[.val (.ref a), .val (.int (2 : Int32)), .val (.int (0 : Int32)), .unset, .unset, .unset, .unset, .unset] [])
  refine Go.step (fun _ k => XS.iconst X0.here hx rfl (hb hby d11_2) k) ?_
  refine Go.step (fun _ k => XS.istoreN X0.here hx rfl (hb hby d11_3) rfl (l' := #[.val (.ref a), .val (.int (2 : Int32)), .val (.int (0 : Int32)), .val (.int (1 : Int32)), .unset, .unset, .unset, .unset]) rfl k) ?_
  show Go _ _ _ _ _ _ _ T0 (mkF m 4 #[.val (.ref a), .val (.int (2 : Int32)), .val (.int (0 : Int32)), .val (.int (1 : Int32)), .unset, .unset, .unset, .unset] [])
  refine Go.step (fun _ k => XS.iconst X0.here hx rfl (hb hby d11_4) k) ?_
  refine Go.step (fun _ k => XS.istore X0.here hx rfl (hb hby d11_5) rfl (l' := #[.val (.ref a), .val (.int (2 : Int32)), .val (.int (0 : Int32)), .val (.int (1 : Int32)), .val (.int (1 : Int32)), .unset, .unset, .unset]) rfl k) ?_
  show Go _ _ _ _ _ _ _ T0 (mkF m 7 #[.val (.ref a), .val (.int (2 : Int32)), .val (.int (0 : Int32)), .val (.int (1 : Int32)), .val (.int (1 : Int32)), .unset, .unset, .unset] [])
  refine Go.step (fun _ k => XS.aloadN X0.here hx rfl (hb hby d11_7) rfl rfl k) ?_
  obtain ⟨T1, X1, e1, st1⟩ := getF X0 hx hZ hown (host := "") (Or.inl (hw _ (mI 27 rfl))) Via.refl e0 F_width_a_0 (g := (mkF m 8 #[.val (.ref a), .val (.int (2 : Int32)), .val (.int (0 : Int32)), .val (.int (1 : Int32)), .val (.int (1 : Int32)), .unset, .unset, .unset] [(.ref a)])) rfl rfl (hb hby d11_8)
  refine Go.step st1 ?_
  show Go _ _ _ _ _ _ _ T1 (mkF m 11 #[.val (.ref a), .val (.int (2 : Int32)), .val (.int (0 : Int32)), .val (.int (1 : Int32)), .val (.int (1 : Int32)), .unset, .unset, .unset] [(.int (4 : Int32))])
  refine Go.step (fun _ k => XS.istore X1.here hx rfl (hb hby d11_11) rfl (l' := #[.val (.ref a), .val (.int (2 : Int32)), .val (.int (0 : Int32)), .val (.int (1 : Int32)), .val (.int (1 : Int32)), .val (.int (4 : Int32)), .unset, .unset]) rfl k) ?_
  show Go _ _ _ _ _ _ _ T1 (mkF m 13 #[.val (.ref a), .val (.int (2 : Int32)), .val (.int (0 : Int32)), .val (.int (1 : Int32)), .val (.int (1 : Int32)), .val (.int (4 : Int32)), .unset, .unset] [])
  refine Go.step (fun _ k => XS.aloadN X1.here hx rfl (hb hby d11_13) rfl rfl k) ?_
  obtain ⟨T2, X2, e2, st2⟩ := getF X1 hx hZ hown (host := "") (Or.inl (hw _ (mI 36 rfl))) Via.refl e1 F_node_a_0 (g := (mkF m 14 #[.val (.ref a), .val (.int (2 : Int32)), .val (.int (0 : Int32)), .val (.int (1 : Int32)), .val (.int (1 : Int32)), .val (.int (4 : Int32)), .unset, .unset] [(.ref a)])) rfl rfl (hb hby d11_14)
  refine Go.step st2 ?_
  show Go _ _ _ _ _ _ _ T2 (mkF m 17 #[.val (.ref a), .val (.int (2 : Int32)), .val (.int (0 : Int32)), .val (.int (1 : Int32)), .val (.int (1 : Int32)), .val (.int (4 : Int32)), .unset, .unset] [(.ref xt)])
  refine Go.step (fun _ k => XS.iloadN X2.here hx rfl (hb hby d11_17) rfl k) ?_
  refine Go.iaload X2 hx hZ e2 V_xt_0 (j := (1 : Int32)) (v := (fT 1)) (by decide) rfl (hb hby d11_18) ?_
  show Go _ _ _ _ _ _ _ T2 (mkF m 19 #[.val (.ref a), .val (.int (2 : Int32)), .val (.int (0 : Int32)), .val (.int (1 : Int32)), .val (.int (1 : Int32)), .val (.int (4 : Int32)), .unset, .unset] [(.int (fT 1))])
  refine Go.step (fun _ k => XS.istore X2.here hx rfl (hb hby d11_19) rfl (l' := #[.val (.ref a), .val (.int (2 : Int32)), .val (.int (0 : Int32)), .val (.int (1 : Int32)), .val (.int (1 : Int32)), .val (.int (4 : Int32)), .val (.int (fT 1)), .unset]) rfl k) ?_
  show Go _ _ _ _ _ _ _ T2 (mkF m 21 #[.val (.ref a), .val (.int (2 : Int32)), .val (.int (0 : Int32)), .val (.int (1 : Int32)), .val (.int (1 : Int32)), .val (.int (4 : Int32)), .val (.int (fT 1)), .unset] [])
  refine Go.step (fun _ k => XS.iload X2.here hx rfl (hb hby d11_21) rfl k) ?_
  refine Go.step (fun _ k => XS.ifNo X2.here hx rfl (hb hby d11_23) rfl ((if0 _ _).trans (feq hr).1) k) ?_
  show Go _ _ _ _ _ _ _ T2 (mkF m 26 #[.val (.ref a), .val (.int (2 : Int32)), .val (.int (0 : Int32)), .val (.int (1 : Int32)), .val (.int (1 : Int32)), .val (.int (4 : Int32)), .val (.int (fT 1)), .unset] [])
  refine Go.step (fun _ k => XS.iloadN X2.here hx rfl (hb hby d11_26) rfl k) ?_
  refine Go.step (fun _ k => XS.ifYes X2.here hx rfl (pc0 := 27) (pc' := 41) rfl (hb hby d11_27) rfl ((if0 _ _).trans (teq (by decide : (0 : Int32) = (0 : Int32))).1) (by decide) (by decide) k) ?_
  show Go _ _ _ _ _ _ _ T2 (mkF m 41 #[.val (.ref a), .val (.int (2 : Int32)), .val (.int (0 : Int32)), .val (.int (1 : Int32)), .val (.int (1 : Int32)), .val (.int (4 : Int32)), .val (.int (fT 1)), .unset] [])
  refine Go.step (fun _ k => XS.iload X2.here hx rfl (hb hby d11_41) rfl k) ?_
  refine Go.step (fun _ k => XS.istoreN X2.here hx rfl (hb hby d11_43) rfl (l' := #[.val (.ref a), .val (.int (2 : Int32)), .val (.int (fT 1)), .val (.int (1 : Int32)), .val (.int (1 : Int32)), .val (.int (4 : Int32)), .val (.int (fT 1)), .unset]) rfl k) ?_
  show Go _ _ _ _ _ _ _ T2 (mkF m 44 #[.val (.ref a), .val (.int (2 : Int32)), .val (.int (fT 1)), .val (.int (1 : Int32)), .val (.int (1 : Int32)), .val (.int (4 : Int32)), .val (.int (fT 1)), .unset] [])
  refine Go.step (fun _ k => XS.iload X2.here hx rfl (hb hby d11_44) rfl k) ?_
  refine Go.step (fun _ k => XS.iload X2.here hx rfl (hb hby d11_46) rfl k) ?_
  refine Go.step (fun _ k => XS.icmpYes X2.here hx rfl (pc0 := 48) (pc' := 53) rfl (hb hby d11_48) rfl (feq (by decide : ¬ ((1 : Int32) = (4 : Int32)))).2 (by decide) (by decide) k) ?_
  show Go _ _ _ _ _ _ _ T2 (mkF m 53 #[.val (.ref a), .val (.int (2 : Int32)), .val (.int (fT 1)), .val (.int (1 : Int32)), .val (.int (1 : Int32)), .val (.int (4 : Int32)), .val (.int (fT 1)), .unset] [])
  refine Go.step (fun _ k => XS.iload X2.here hx rfl (hb hby d11_53) rfl k) ?_
  refine Go.step (fun _ k => XS.iload X2.here hx rfl (hb hby d11_55) rfl k) ?_
  refine Go.step (fun _ k => XS.iadd X2.here hx rfl (hb hby d11_57) rfl k) ?_
  show Go _ _ _ _ _ _ _ T2 (mkF m 58 #[.val (.ref a), .val (.int (2 : Int32)), .val (.int (fT 1)), .val (.int (1 : Int32)), .val (.int (1 : Int32)), .val (.int (4 : Int32)), .val (.int (fT 1)), .unset] [(.int (5 : Int32))])
  refine Go.step (fun _ k => XS.iconst X2.here hx rfl (hb hby d11_58) k) ?_
  refine Go.step (fun _ k => XS.iushr X2.here hx rfl (hb hby d11_59) rfl k) ?_
  show Go _ _ _ _ _ _ _ T2 (mkF m 60 #[.val (.ref a), .val (.int (2 : Int32)), .val (.int (fT 1)), .val (.int (1 : Int32)), .val (.int (1 : Int32)), .val (.int (4 : Int32)), .val (.int (fT 1)), .unset] [(.int (2 : Int32))])
  refine Go.step (fun _ k => XS.istore X2.here hx rfl (hb hby d11_60) rfl (l' := #[.val (.ref a), .val (.int (2 : Int32)), .val (.int (fT 1)), .val (.int (1 : Int32)), .val (.int (1 : Int32)), .val (.int (4 : Int32)), .val (.int (fT 1)), .val (.int (2 : Int32))]) rfl k) ?_
  show Go _ _ _ _ _ _ _ T2 (mkF m 62 #[.val (.ref a), .val (.int (2 : Int32)), .val (.int (fT 1)), .val (.int (1 : Int32)), .val (.int (1 : Int32)), .val (.int (4 : Int32)), .val (.int (fT 1)), .val (.int (2 : Int32))] [])
  refine Go.step (fun _ k => XS.iloadN X2.here hx rfl (hb hby d11_62) rfl k) ?_
  refine Go.step (fun _ k => XS.iload X2.here hx rfl (hb hby d11_63) rfl k) ?_
  refine Go.step (fun _ k => XS.icmpNo X2.here hx rfl (hb hby d11_65) rfl (flt (by decide : ¬ ((2 : Int32) < (2 : Int32)))).2.2.1 k) ?_
  show Go _ _ _ _ _ _ _ T2 (mkF m 68 #[.val (.ref a), .val (.int (2 : Int32)), .val (.int (fT 1)), .val (.int (1 : Int32)), .val (.int (1 : Int32)), .val (.int (4 : Int32)), .val (.int (fT 1)), .val (.int (2 : Int32))] [])
  refine Go.step (fun _ k => XS.iconst X2.here hx rfl (hb hby d11_68) k) ?_
  refine Go.step (fun _ k => XS.iloadN X2.here hx rfl (hb hby d11_69) rfl k) ?_
  refine Go.step (fun _ k => XS.imul X2.here hx rfl (hb hby d11_70) rfl k) ?_
  show Go _ _ _ _ _ _ _ T2 (mkF m 71 #[.val (.ref a), .val (.int (2 : Int32)), .val (.int (fT 1)), .val (.int (1 : Int32)), .val (.int (1 : Int32)), .val (.int (4 : Int32)), .val (.int (fT 1)), .val (.int (2 : Int32))] [(.int (2 : Int32))])
  refine Go.step (fun _ k => XS.istoreN X2.here hx rfl (hb hby d11_71) rfl (l' := #[.val (.ref a), .val (.int (2 : Int32)), .val (.int (fT 1)), .val (.int (2 : Int32)), .val (.int (1 : Int32)), .val (.int (4 : Int32)), .val (.int (fT 1)), .val (.int (2 : Int32))]) rfl k) ?_
  show Go _ _ _ _ _ _ _ T2 (mkF m 72 #[.val (.ref a), .val (.int (2 : Int32)), .val (.int (fT 1)), .val (.int (2 : Int32)), .val (.int (1 : Int32)), .val (.int (4 : Int32)), .val (.int (fT 1)), .val (.int (2 : Int32))] [])
  refine Go.step (fun _ k => XS.iload X2.here hx rfl (hb hby d11_72) rfl k) ?_
  refine Go.step (fun _ k => XS.istore X2.here hx rfl (hb hby d11_74) rfl (l' := #[.val (.ref a), .val (.int (2 : Int32)), .val (.int (fT 1)), .val (.int (2 : Int32)), .val (.int (1 : Int32)), .val (.int (2 : Int32)), .val (.int (fT 1)), .val (.int (2 : Int32))]) rfl k) ?_
  show Go _ _ _ _ _ _ _ T2 (mkF m 76 #[.val (.ref a), .val (.int (2 : Int32)), .val (.int (fT 1)), .val (.int (2 : Int32)), .val (.int (1 : Int32)), .val (.int (2 : Int32)), .val (.int (fT 1)), .val (.int (2 : Int32))] [])
  refine Go.step (fun _ k => XS.goto X2.here hx rfl (pc0 := 76) (pc' := 91) rfl (hb hby d11_76) (by decide) (by decide) k) ?_
  show Go _ _ _ _ _ _ _ T2 (mkF m 91 #[.val (.ref a), .val (.int (2 : Int32)), .val (.int (fT 1)), .val (.int (2 : Int32)), .val (.int (1 : Int32)), .val (.int (2 : Int32)), .val (.int (fT 1)), .val (.int (2 : Int32))] [])
  refine Go.step (fun _ k => XS.goto X2.here hx rfl (pc0 := 91) (pc' := 13) rfl (hb hby d11_91) (by decide) (by decide) k) ?_
  show Go _ _ _ _ _ _ _ T2 (mkF m 13 #[.val (.ref a), .val (.int (2 : Int32)), .val (.int (fT 1)), .val (.int (2 : Int32)), .val (.int (1 : Int32)), .val (.int (2 : Int32)), .val (.int (fT 1)), .val (.int (2 : Int32))] [])
  refine Go.step (fun _ k => XS.aloadN X2.here hx rfl (hb hby d11_13) rfl rfl k) ?_
  obtain ⟨T3, X3, e3, st3⟩ := getF X2 hx hZ hown (host := "") (Or.inl (hw _ (mI 36 rfl))) Via.refl e2 F_node_a_0 (g := (mkF m 14 #[.val (.ref a), .val (.int (2 : Int32)), .val (.int (fT 1)), .val (.int (2 : Int32)), .val (.int (1 : Int32)), .val (.int (2 : Int32)), .val (.int (fT 1)), .val (.int (2 : Int32))] [(.ref a)])) rfl rfl (hb hby d11_14)
  refine Go.step st3 ?_
  show Go _ _ _ _ _ _ _ T3 (mkF m 17 #[.val (.ref a), .val (.int (2 : Int32)), .val (.int (fT 1)), .val (.int (2 : Int32)), .val (.int (1 : Int32)), .val (.int (2 : Int32)), .val (.int (fT 1)), .val (.int (2 : Int32))] [(.ref xt)])
  refine Go.step (fun _ k => XS.iloadN X3.here hx rfl (hb hby d11_17) rfl k) ?_
  refine Go.iaload X3 hx hZ e3 V_xt_0 (j := (2 : Int32)) (v := (fT 2)) (by decide) rfl (hb hby d11_18) ?_
  show Go _ _ _ _ _ _ _ T3 (mkF m 19 #[.val (.ref a), .val (.int (2 : Int32)), .val (.int (fT 1)), .val (.int (2 : Int32)), .val (.int (1 : Int32)), .val (.int (2 : Int32)), .val (.int (fT 1)), .val (.int (2 : Int32))] [(.int (fT 2))])
  refine Go.step (fun _ k => XS.istore X3.here hx rfl (hb hby d11_19) rfl (l' := #[.val (.ref a), .val (.int (2 : Int32)), .val (.int (fT 1)), .val (.int (2 : Int32)), .val (.int (1 : Int32)), .val (.int (2 : Int32)), .val (.int (fT 2)), .val (.int (2 : Int32))]) rfl k) ?_
  show Go _ _ _ _ _ _ _ T3 (mkF m 21 #[.val (.ref a), .val (.int (2 : Int32)), .val (.int (fT 1)), .val (.int (2 : Int32)), .val (.int (1 : Int32)), .val (.int (2 : Int32)), .val (.int (fT 2)), .val (.int (2 : Int32))] [])
  refine Go.step (fun _ k => XS.iload X3.here hx rfl (hb hby d11_21) rfl k) ?_
  by_cases hc23_4 : (fT 2) = (0 : Int32)
  · refine Go.step (fun _ k => XS.ifYes X3.here hx rfl (pc0 := 23) (pc' := 44) rfl (hb hby d11_23) rfl ((if0 _ _).trans (teq hc23_4).1) (by decide) (by decide) k) ?_
    show Go _ _ _ _ _ _ _ T3 (mkF m 44 #[.val (.ref a), .val (.int (2 : Int32)), .val (.int (fT 1)), .val (.int (2 : Int32)), .val (.int (1 : Int32)), .val (.int (2 : Int32)), .val (.int (fT 2)), .val (.int (2 : Int32))] [])
    refine Go.step (fun _ k => XS.iload X3.here hx rfl (hb hby d11_44) rfl k) ?_
    refine Go.step (fun _ k => XS.iload X3.here hx rfl (hb hby d11_46) rfl k) ?_
    refine Go.step (fun _ k => XS.icmpYes X3.here hx rfl (pc0 := 48) (pc' := 53) rfl (hb hby d11_48) rfl (feq (by decide : ¬ ((1 : Int32) = (2 : Int32)))).2 (by decide) (by decide) k) ?_
    show Go _ _ _ _ _ _ _ T3 (mkF m 53 #[.val (.ref a), .val (.int (2 : Int32)), .val (.int (fT 1)), .val (.int (2 : Int32)), .val (.int (1 : Int32)), .val (.int (2 : Int32)), .val (.int (fT 2)), .val (.int (2 : Int32))] [])
    refine Go.step (fun _ k => XS.iload X3.here hx rfl (hb hby d11_53) rfl k) ?_
    refine Go.step (fun _ k => XS.iload X3.here hx rfl (hb hby d11_55) rfl k) ?_
    refine Go.step (fun _ k => XS.iadd X3.here hx rfl (hb hby d11_57) rfl k) ?_
    show Go _ _ _ _ _ _ _ T3 (mkF m 58 #[.val (.ref a), .val (.int (2 : Int32)), .val (.int (fT 1)), .val (.int (2 : Int32)), .val (.int (1 : Int32)), .val (.int (2 : Int32)), .val (.int (fT 2)), .val (.int (2 : Int32))] [(.int (3 : Int32))])
    refine Go.step (fun _ k => XS.iconst X3.here hx rfl (hb hby d11_58) k) ?_
    refine Go.step (fun _ k => XS.iushr X3.here hx rfl (hb hby d11_59) rfl k) ?_
    show Go _ _ _ _ _ _ _ T3 (mkF m 60 #[.val (.ref a), .val (.int (2 : Int32)), .val (.int (fT 1)), .val (.int (2 : Int32)), .val (.int (1 : Int32)), .val (.int (2 : Int32)), .val (.int (fT 2)), .val (.int (2 : Int32))] [(.int (1 : Int32))])
    refine Go.step (fun _ k => XS.istore X3.here hx rfl (hb hby d11_60) rfl (l' := #[.val (.ref a), .val (.int (2 : Int32)), .val (.int (fT 1)), .val (.int (2 : Int32)), .val (.int (1 : Int32)), .val (.int (2 : Int32)), .val (.int (fT 2)), .val (.int (1 : Int32))]) rfl k) ?_
    show Go _ _ _ _ _ _ _ T3 (mkF m 62 #[.val (.ref a), .val (.int (2 : Int32)), .val (.int (fT 1)), .val (.int (2 : Int32)), .val (.int (1 : Int32)), .val (.int (2 : Int32)), .val (.int (fT 2)), .val (.int (1 : Int32))] [])
    refine Go.step (fun _ k => XS.iloadN X3.here hx rfl (hb hby d11_62) rfl k) ?_
    refine Go.step (fun _ k => XS.iload X3.here hx rfl (hb hby d11_63) rfl k) ?_
    refine Go.step (fun _ k => XS.icmpYes X3.here hx rfl (pc0 := 65) (pc' := 79) rfl (hb hby d11_65) rfl (tlt (by decide : (1 : Int32) < (2 : Int32))).2.2.1 (by decide) (by decide) k) ?_
    show Go _ _ _ _ _ _ _ T3 (mkF m 79 #[.val (.ref a), .val (.int (2 : Int32)), .val (.int (fT 1)), .val (.int (2 : Int32)), .val (.int (1 : Int32)), .val (.int (2 : Int32)), .val (.int (fT 2)), .val (.int (1 : Int32))] [])
    refine Go.step (fun _ k => XS.iconst X3.here hx rfl (hb hby d11_79) k) ?_
    refine Go.step (fun _ k => XS.iloadN X3.here hx rfl (hb hby d11_80) rfl k) ?_
    refine Go.step (fun _ k => XS.imul X3.here hx rfl (hb hby d11_81) rfl k) ?_
    show Go _ _ _ _ _ _ _ T3 (mkF m 82 #[.val (.ref a), .val (.int (2 : Int32)), .val (.int (fT 1)), .val (.int (2 : Int32)), .val (.int (1 : Int32)), .val (.int (2 : Int32)), .val (.int (fT 2)), .val (.int (1 : Int32))] [(.int (4 : Int32))])
    refine Go.step (fun _ k => XS.iconst X3.here hx rfl (hb hby d11_82) k) ?_
    refine Go.step (fun _ k => XS.iadd X3.here hx rfl (hb hby d11_83) rfl k) ?_
    show Go _ _ _ _ _ _ _ T3 (mkF m 84 #[.val (.ref a), .val (.int (2 : Int32)), .val (.int (fT 1)), .val (.int (2 : Int32)), .val (.int (1 : Int32)), .val (.int (2 : Int32)), .val (.int (fT 2)), .val (.int (1 : Int32))] [(.int (5 : Int32))])
    refine Go.step (fun _ k => XS.istoreN X3.here hx rfl (hb hby d11_84) rfl (l' := #[.val (.ref a), .val (.int (2 : Int32)), .val (.int (fT 1)), .val (.int (5 : Int32)), .val (.int (1 : Int32)), .val (.int (2 : Int32)), .val (.int (fT 2)), .val (.int (1 : Int32))]) rfl k) ?_
    show Go _ _ _ _ _ _ _ T3 (mkF m 85 #[.val (.ref a), .val (.int (2 : Int32)), .val (.int (fT 1)), .val (.int (5 : Int32)), .val (.int (1 : Int32)), .val (.int (2 : Int32)), .val (.int (fT 2)), .val (.int (1 : Int32))] [])
    refine Go.step (fun _ k => XS.iload X3.here hx rfl (hb hby d11_85) rfl k) ?_
    refine Go.step (fun _ k => XS.iconst X3.here hx rfl (hb hby d11_87) k) ?_
    refine Go.step (fun _ k => XS.iadd X3.here hx rfl (hb hby d11_88) rfl k) ?_
    show Go _ _ _ _ _ _ _ T3 (mkF m 89 #[.val (.ref a), .val (.int (2 : Int32)), .val (.int (fT 1)), .val (.int (5 : Int32)), .val (.int (1 : Int32)), .val (.int (2 : Int32)), .val (.int (fT 2)), .val (.int (1 : Int32))] [(.int (2 : Int32))])
    refine Go.step (fun _ k => XS.istore X3.here hx rfl (hb hby d11_89) rfl (l' := #[.val (.ref a), .val (.int (2 : Int32)), .val (.int (fT 1)), .val (.int (5 : Int32)), .val (.int (2 : Int32)), .val (.int (2 : Int32)), .val (.int (fT 2)), .val (.int (1 : Int32))]) rfl k) ?_
    show Go _ _ _ _ _ _ _ T3 (mkF m 91 #[.val (.ref a), .val (.int (2 : Int32)), .val (.int (fT 1)), .val (.int (5 : Int32)), .val (.int (2 : Int32)), .val (.int (2 : Int32)), .val (.int (fT 2)), .val (.int (1 : Int32))] [])
    refine Go.step (fun _ k => XS.goto X3.here hx rfl (pc0 := 91) (pc' := 13) rfl (hb hby d11_91) (by decide) (by decide) k) ?_
    show Go _ _ _ _ _ _ _ T3 (mkF m 13 #[.val (.ref a), .val (.int (2 : Int32)), .val (.int (fT 1)), .val (.int (5 : Int32)), .val (.int (2 : Int32)), .val (.int (2 : Int32)), .val (.int (fT 2)), .val (.int (1 : Int32))] [])
    refine Go.step (fun _ k => XS.aloadN X3.here hx rfl (hb hby d11_13) rfl rfl k) ?_
    obtain ⟨T5, X5, e5, st5⟩ := getF X3 hx hZ hown (host := "") (Or.inl (hw _ (mI 36 rfl))) Via.refl e3 F_node_a_0 (g := (mkF m 14 #[.val (.ref a), .val (.int (2 : Int32)), .val (.int (fT 1)), .val (.int (5 : Int32)), .val (.int (2 : Int32)), .val (.int (2 : Int32)), .val (.int (fT 2)), .val (.int (1 : Int32))] [(.ref a)])) rfl rfl (hb hby d11_14)
    refine Go.step st5 ?_
    show Go _ _ _ _ _ _ _ T5 (mkF m 17 #[.val (.ref a), .val (.int (2 : Int32)), .val (.int (fT 1)), .val (.int (5 : Int32)), .val (.int (2 : Int32)), .val (.int (2 : Int32)), .val (.int (fT 2)), .val (.int (1 : Int32))] [(.ref xt)])
    refine Go.step (fun _ k => XS.iloadN X5.here hx rfl (hb hby d11_17) rfl k) ?_
    refine Go.iaload X5 hx hZ e5 V_xt_0 (j := (5 : Int32)) (v := (fT 5)) (by decide) rfl (hb hby d11_18) ?_
    show Go _ _ _ _ _ _ _ T5 (mkF m 19 #[.val (.ref a), .val (.int (2 : Int32)), .val (.int (fT 1)), .val (.int (5 : Int32)), .val (.int (2 : Int32)), .val (.int (2 : Int32)), .val (.int (fT 2)), .val (.int (1 : Int32))] [(.int (fT 5))])
    refine Go.step (fun _ k => XS.istore X5.here hx rfl (hb hby d11_19) rfl (l' := #[.val (.ref a), .val (.int (2 : Int32)), .val (.int (fT 1)), .val (.int (5 : Int32)), .val (.int (2 : Int32)), .val (.int (2 : Int32)), .val (.int (fT 5)), .val (.int (1 : Int32))]) rfl k) ?_
    show Go _ _ _ _ _ _ _ T5 (mkF m 21 #[.val (.ref a), .val (.int (2 : Int32)), .val (.int (fT 1)), .val (.int (5 : Int32)), .val (.int (2 : Int32)), .val (.int (2 : Int32)), .val (.int (fT 5)), .val (.int (1 : Int32))] [])
    refine Go.step (fun _ k => XS.iload X5.here hx rfl (hb hby d11_21) rfl k) ?_
    refine Go.step (fun _ k => XS.ifYes X5.here hx rfl (pc0 := 23) (pc' := 44) rfl (hb hby d11_23) rfl ((if0 _ _).trans (teq hLf.2.1).1) (by decide) (by decide) k) ?_
    show Go _ _ _ _ _ _ _ T5 (mkF m 44 #[.val (.ref a), .val (.int (2 : Int32)), .val (.int (fT 1)), .val (.int (5 : Int32)), .val (.int (2 : Int32)), .val (.int (2 : Int32)), .val (.int (fT 5)), .val (.int (1 : Int32))] [])
    refine Go.step (fun _ k => XS.iload X5.here hx rfl (hb hby d11_44) rfl k) ?_
    refine Go.step (fun _ k => XS.iload X5.here hx rfl (hb hby d11_46) rfl k) ?_
    refine Go.step (fun _ k => XS.icmpNo X5.here hx rfl (hb hby d11_48) rfl (teq (by decide : (2 : Int32) = (2 : Int32))).2 k) ?_
    show Go _ _ _ _ _ _ _ T5 (mkF m 51 #[.val (.ref a), .val (.int (2 : Int32)), .val (.int (fT 1)), .val (.int (5 : Int32)), .val (.int (2 : Int32)), .val (.int (2 : Int32)), .val (.int (fT 5)), .val (.int (1 : Int32))] [])
    refine Go.step (fun _ k => XS.iloadN X5.here hx rfl (hb hby d11_51) rfl k) ?_
    refine Go.retI X5 hx hlk hret (hb hby d11_52) (by decide) (by decide) ?_
    try rw [e5]
    exact ⟨by simp only [lowestW]; rw [if_pos hc23_4], N0, rfl⟩
  · refine Go.step (fun _ k => XS.ifNo X3.here hx rfl (hb hby d11_23) rfl ((if0 _ _).trans (feq hc23_4).1) k) ?_
    show Go _ _ _ _ _ _ _ T3 (mkF m 26 #[.val (.ref a), .val (.int (2 : Int32)), .val (.int (fT 1)), .val (.int (2 : Int32)), .val (.int (1 : Int32)), .val (.int (2 : Int32)), .val (.int (fT 2)), .val (.int (2 : Int32))] [])
    refine Go.step (fun _ k => XS.iloadN X3.here hx rfl (hb hby d11_26) rfl k) ?_
    refine Go.step (fun _ k => XS.ifNo X3.here hx rfl (hb hby d11_27) rfl ((if0 _ _).trans (feq hr).1) k) ?_
    show Go _ _ _ _ _ _ _ T3 (mkF m 30 #[.val (.ref a), .val (.int (2 : Int32)), .val (.int (fT 1)), .val (.int (2 : Int32)), .val (.int (1 : Int32)), .val (.int (2 : Int32)), .val (.int (fT 2)), .val (.int (2 : Int32))] [])
    refine Go.step (fun _ k => XS.aloadN X3.here hx rfl (hb hby d11_30) rfl rfl k) ?_
    refine Go.step (fun _ k => XS.iload X3.here hx rfl (hb hby d11_31) rfl k) ?_
    refine Go.step (fun _ k => XS.iloadN X3.here hx rfl (hb hby d11_33) rfl k) ?_
    show Go _ _ _ _ _ _ _ T3 (mkF m 34 #[.val (.ref a), .val (.int (2 : Int32)), .val (.int (fT 1)), .val (.int (2 : Int32)), .val (.int (1 : Int32)), .val (.int (2 : Int32)), .val (.int (fT 2)), .val (.int (2 : Int32))] [(.int (fT 1)), (.int (fT 2)), (.ref a)])
    refine Go.step (fun _ k => XS.iloadN X3.here hx rfl (hb hby d11_34) rfl k) ?_
    refine Go.callP X3 hx hZ (by rw [hml]; rfl) (y := (⟨"com/example/headroom/headroom/LowerEnvelope", "lower", "(III)Z"⟩ : MethodName)) (a := a) (argsL := [(.int (fT 2)), (.int (fT 1)), (.int (2 : Int32))]) (rest := []) hown (hw _ (mI 57 rfl)) (hw _ (mI 58 rfl)) (hw _ (mI 1 rfl)) (hw _ (mI 59 rfl)) (hw _ (mI 2 rfl)) (hw _ (mI 60 rfl)) (by decide) (rm9 l Z a0 hw a xu xv xw fP fQ fC (fT 2) (fT 1) (2 : Int32) h0 n0 Z0 F_base_a_0 F_slope_a_0 F_origin_a_0 V_xu_0 V_xv_0 V_xw_0 hP hQ hC (hR 2) (hR 1) (own_in (2 : Int32) (by decide))) e3 E_a_0 (hb hby d11_35) (lenOf pd_1 rfl) rfl rfl (W := 0) (Nat.le_of_eq rfl) (by decide) (by decide) (by decide) (by decide) ?_
    intro v6 T6 L6 X6 Q6
    obtain ⟨rfl, N6q, hh6⟩ := Q6
    have N6 := Fr.app N0 N6q
    show Go _ _ _ _ _ _ _ T6 (mkF m 38 #[.val (.ref a), .val (.int (2 : Int32)), .val (.int (fT 1)), .val (.int (2 : Int32)), .val (.int (1 : Int32)), .val (.int (2 : Int32)), .val (.int (fT 2)), .val (.int (2 : Int32))] [(.int (lowW fP fQ fC (fT 2) (fT 1) (2 : Int32)))])
    by_cases hc38_7 : (lowW fP fQ fC (fT 2) (fT 1) (2 : Int32)) = (0 : Int32)
    · refine Go.step (fun _ k => XS.ifYes X6.here hx rfl (pc0 := 38) (pc' := 44) rfl (hb hby d11_38) rfl ((if0 _ _).trans (teq hc38_7).1) (by decide) (by decide) k) ?_
      show Go _ _ _ _ _ _ _ T6 (mkF m 44 #[.val (.ref a), .val (.int (2 : Int32)), .val (.int (fT 1)), .val (.int (2 : Int32)), .val (.int (1 : Int32)), .val (.int (2 : Int32)), .val (.int (fT 2)), .val (.int (2 : Int32))] [])
      refine Go.step (fun _ k => XS.iload X6.here hx rfl (hb hby d11_44) rfl k) ?_
      refine Go.step (fun _ k => XS.iload X6.here hx rfl (hb hby d11_46) rfl k) ?_
      refine Go.step (fun _ k => XS.icmpYes X6.here hx rfl (pc0 := 48) (pc' := 53) rfl (hb hby d11_48) rfl (feq (by decide : ¬ ((1 : Int32) = (2 : Int32)))).2 (by decide) (by decide) k) ?_
      show Go _ _ _ _ _ _ _ T6 (mkF m 53 #[.val (.ref a), .val (.int (2 : Int32)), .val (.int (fT 1)), .val (.int (2 : Int32)), .val (.int (1 : Int32)), .val (.int (2 : Int32)), .val (.int (fT 2)), .val (.int (2 : Int32))] [])
      refine Go.step (fun _ k => XS.iload X6.here hx rfl (hb hby d11_53) rfl k) ?_
      refine Go.step (fun _ k => XS.iload X6.here hx rfl (hb hby d11_55) rfl k) ?_
      refine Go.step (fun _ k => XS.iadd X6.here hx rfl (hb hby d11_57) rfl k) ?_
      show Go _ _ _ _ _ _ _ T6 (mkF m 58 #[.val (.ref a), .val (.int (2 : Int32)), .val (.int (fT 1)), .val (.int (2 : Int32)), .val (.int (1 : Int32)), .val (.int (2 : Int32)), .val (.int (fT 2)), .val (.int (2 : Int32))] [(.int (3 : Int32))])
      refine Go.step (fun _ k => XS.iconst X6.here hx rfl (hb hby d11_58) k) ?_
      refine Go.step (fun _ k => XS.iushr X6.here hx rfl (hb hby d11_59) rfl k) ?_
      show Go _ _ _ _ _ _ _ T6 (mkF m 60 #[.val (.ref a), .val (.int (2 : Int32)), .val (.int (fT 1)), .val (.int (2 : Int32)), .val (.int (1 : Int32)), .val (.int (2 : Int32)), .val (.int (fT 2)), .val (.int (2 : Int32))] [(.int (1 : Int32))])
      refine Go.step (fun _ k => XS.istore X6.here hx rfl (hb hby d11_60) rfl (l' := #[.val (.ref a), .val (.int (2 : Int32)), .val (.int (fT 1)), .val (.int (2 : Int32)), .val (.int (1 : Int32)), .val (.int (2 : Int32)), .val (.int (fT 2)), .val (.int (1 : Int32))]) rfl k) ?_
      show Go _ _ _ _ _ _ _ T6 (mkF m 62 #[.val (.ref a), .val (.int (2 : Int32)), .val (.int (fT 1)), .val (.int (2 : Int32)), .val (.int (1 : Int32)), .val (.int (2 : Int32)), .val (.int (fT 2)), .val (.int (1 : Int32))] [])
      refine Go.step (fun _ k => XS.iloadN X6.here hx rfl (hb hby d11_62) rfl k) ?_
      refine Go.step (fun _ k => XS.iload X6.here hx rfl (hb hby d11_63) rfl k) ?_
      refine Go.step (fun _ k => XS.icmpYes X6.here hx rfl (pc0 := 65) (pc' := 79) rfl (hb hby d11_65) rfl (tlt (by decide : (1 : Int32) < (2 : Int32))).2.2.1 (by decide) (by decide) k) ?_
      show Go _ _ _ _ _ _ _ T6 (mkF m 79 #[.val (.ref a), .val (.int (2 : Int32)), .val (.int (fT 1)), .val (.int (2 : Int32)), .val (.int (1 : Int32)), .val (.int (2 : Int32)), .val (.int (fT 2)), .val (.int (1 : Int32))] [])
      refine Go.step (fun _ k => XS.iconst X6.here hx rfl (hb hby d11_79) k) ?_
      refine Go.step (fun _ k => XS.iloadN X6.here hx rfl (hb hby d11_80) rfl k) ?_
      refine Go.step (fun _ k => XS.imul X6.here hx rfl (hb hby d11_81) rfl k) ?_
      show Go _ _ _ _ _ _ _ T6 (mkF m 82 #[.val (.ref a), .val (.int (2 : Int32)), .val (.int (fT 1)), .val (.int (2 : Int32)), .val (.int (1 : Int32)), .val (.int (2 : Int32)), .val (.int (fT 2)), .val (.int (1 : Int32))] [(.int (4 : Int32))])
      refine Go.step (fun _ k => XS.iconst X6.here hx rfl (hb hby d11_82) k) ?_
      refine Go.step (fun _ k => XS.iadd X6.here hx rfl (hb hby d11_83) rfl k) ?_
      show Go _ _ _ _ _ _ _ T6 (mkF m 84 #[.val (.ref a), .val (.int (2 : Int32)), .val (.int (fT 1)), .val (.int (2 : Int32)), .val (.int (1 : Int32)), .val (.int (2 : Int32)), .val (.int (fT 2)), .val (.int (1 : Int32))] [(.int (5 : Int32))])
      refine Go.step (fun _ k => XS.istoreN X6.here hx rfl (hb hby d11_84) rfl (l' := #[.val (.ref a), .val (.int (2 : Int32)), .val (.int (fT 1)), .val (.int (5 : Int32)), .val (.int (1 : Int32)), .val (.int (2 : Int32)), .val (.int (fT 2)), .val (.int (1 : Int32))]) rfl k) ?_
      show Go _ _ _ _ _ _ _ T6 (mkF m 85 #[.val (.ref a), .val (.int (2 : Int32)), .val (.int (fT 1)), .val (.int (5 : Int32)), .val (.int (1 : Int32)), .val (.int (2 : Int32)), .val (.int (fT 2)), .val (.int (1 : Int32))] [])
      refine Go.step (fun _ k => XS.iload X6.here hx rfl (hb hby d11_85) rfl k) ?_
      refine Go.step (fun _ k => XS.iconst X6.here hx rfl (hb hby d11_87) k) ?_
      refine Go.step (fun _ k => XS.iadd X6.here hx rfl (hb hby d11_88) rfl k) ?_
      show Go _ _ _ _ _ _ _ T6 (mkF m 89 #[.val (.ref a), .val (.int (2 : Int32)), .val (.int (fT 1)), .val (.int (5 : Int32)), .val (.int (1 : Int32)), .val (.int (2 : Int32)), .val (.int (fT 2)), .val (.int (1 : Int32))] [(.int (2 : Int32))])
      refine Go.step (fun _ k => XS.istore X6.here hx rfl (hb hby d11_89) rfl (l' := #[.val (.ref a), .val (.int (2 : Int32)), .val (.int (fT 1)), .val (.int (5 : Int32)), .val (.int (2 : Int32)), .val (.int (2 : Int32)), .val (.int (fT 2)), .val (.int (1 : Int32))]) rfl k) ?_
      show Go _ _ _ _ _ _ _ T6 (mkF m 91 #[.val (.ref a), .val (.int (2 : Int32)), .val (.int (fT 1)), .val (.int (5 : Int32)), .val (.int (2 : Int32)), .val (.int (2 : Int32)), .val (.int (fT 2)), .val (.int (1 : Int32))] [])
      refine Go.step (fun _ k => XS.goto X6.here hx rfl (pc0 := 91) (pc' := 13) rfl (hb hby d11_91) (by decide) (by decide) k) ?_
      show Go _ _ _ _ _ _ _ T6 (mkF m 13 #[.val (.ref a), .val (.int (2 : Int32)), .val (.int (fT 1)), .val (.int (5 : Int32)), .val (.int (2 : Int32)), .val (.int (2 : Int32)), .val (.int (fT 2)), .val (.int (1 : Int32))] [])
      refine Go.step (fun _ k => XS.aloadN X6.here hx rfl (hb hby d11_13) rfl rfl k) ?_
      obtain ⟨T8, X8, e8, st8⟩ := getF X6 hx hZ hown (host := "") (Or.inl (hw _ (mI 36 rfl))) Via.refl hh6 F_node_a_0 (g := (mkF m 14 #[.val (.ref a), .val (.int (2 : Int32)), .val (.int (fT 1)), .val (.int (5 : Int32)), .val (.int (2 : Int32)), .val (.int (2 : Int32)), .val (.int (fT 2)), .val (.int (1 : Int32))] [(.ref a)])) rfl rfl (hb hby d11_14)
      refine Go.step st8 ?_
      show Go _ _ _ _ _ _ _ T8 (mkF m 17 #[.val (.ref a), .val (.int (2 : Int32)), .val (.int (fT 1)), .val (.int (5 : Int32)), .val (.int (2 : Int32)), .val (.int (2 : Int32)), .val (.int (fT 2)), .val (.int (1 : Int32))] [(.ref xt)])
      refine Go.step (fun _ k => XS.iloadN X8.here hx rfl (hb hby d11_17) rfl k) ?_
      refine Go.iaload X8 hx hZ e8 V_xt_0 (j := (5 : Int32)) (v := (fT 5)) (by decide) rfl (hb hby d11_18) ?_
      show Go _ _ _ _ _ _ _ T8 (mkF m 19 #[.val (.ref a), .val (.int (2 : Int32)), .val (.int (fT 1)), .val (.int (5 : Int32)), .val (.int (2 : Int32)), .val (.int (2 : Int32)), .val (.int (fT 2)), .val (.int (1 : Int32))] [(.int (fT 5))])
      refine Go.step (fun _ k => XS.istore X8.here hx rfl (hb hby d11_19) rfl (l' := #[.val (.ref a), .val (.int (2 : Int32)), .val (.int (fT 1)), .val (.int (5 : Int32)), .val (.int (2 : Int32)), .val (.int (2 : Int32)), .val (.int (fT 5)), .val (.int (1 : Int32))]) rfl k) ?_
      show Go _ _ _ _ _ _ _ T8 (mkF m 21 #[.val (.ref a), .val (.int (2 : Int32)), .val (.int (fT 1)), .val (.int (5 : Int32)), .val (.int (2 : Int32)), .val (.int (2 : Int32)), .val (.int (fT 5)), .val (.int (1 : Int32))] [])
      refine Go.step (fun _ k => XS.iload X8.here hx rfl (hb hby d11_21) rfl k) ?_
      refine Go.step (fun _ k => XS.ifYes X8.here hx rfl (pc0 := 23) (pc' := 44) rfl (hb hby d11_23) rfl ((if0 _ _).trans (teq hLf.2.1).1) (by decide) (by decide) k) ?_
      show Go _ _ _ _ _ _ _ T8 (mkF m 44 #[.val (.ref a), .val (.int (2 : Int32)), .val (.int (fT 1)), .val (.int (5 : Int32)), .val (.int (2 : Int32)), .val (.int (2 : Int32)), .val (.int (fT 5)), .val (.int (1 : Int32))] [])
      refine Go.step (fun _ k => XS.iload X8.here hx rfl (hb hby d11_44) rfl k) ?_
      refine Go.step (fun _ k => XS.iload X8.here hx rfl (hb hby d11_46) rfl k) ?_
      refine Go.step (fun _ k => XS.icmpNo X8.here hx rfl (hb hby d11_48) rfl (teq (by decide : (2 : Int32) = (2 : Int32))).2 k) ?_
      show Go _ _ _ _ _ _ _ T8 (mkF m 51 #[.val (.ref a), .val (.int (2 : Int32)), .val (.int (fT 1)), .val (.int (5 : Int32)), .val (.int (2 : Int32)), .val (.int (2 : Int32)), .val (.int (fT 5)), .val (.int (1 : Int32))] [])
      refine Go.step (fun _ k => XS.iloadN X8.here hx rfl (hb hby d11_51) rfl k) ?_
      refine Go.retI X8 hx hlk hret (hb hby d11_52) (by decide) (by decide) ?_
      try rw [e8]
      exact ⟨by simp only [lowestW]; rw [if_neg hc23_4, if_pos hc38_7], N6, rfl⟩
    · refine Go.step (fun _ k => XS.ifNo X6.here hx rfl (hb hby d11_38) rfl ((if0 _ _).trans (feq hc38_7).1) k) ?_
      show Go _ _ _ _ _ _ _ T6 (mkF m 41 #[.val (.ref a), .val (.int (2 : Int32)), .val (.int (fT 1)), .val (.int (2 : Int32)), .val (.int (1 : Int32)), .val (.int (2 : Int32)), .val (.int (fT 2)), .val (.int (2 : Int32))] [])
      refine Go.step (fun _ k => XS.iload X6.here hx rfl (hb hby d11_41) rfl k) ?_
      refine Go.step (fun _ k => XS.istoreN X6.here hx rfl (hb hby d11_43) rfl (l' := #[.val (.ref a), .val (.int (2 : Int32)), .val (.int (fT 2)), .val (.int (2 : Int32)), .val (.int (1 : Int32)), .val (.int (2 : Int32)), .val (.int (fT 2)), .val (.int (2 : Int32))]) rfl k) ?_
      show Go _ _ _ _ _ _ _ T6 (mkF m 44 #[.val (.ref a), .val (.int (2 : Int32)), .val (.int (fT 2)), .val (.int (2 : Int32)), .val (.int (1 : Int32)), .val (.int (2 : Int32)), .val (.int (fT 2)), .val (.int (2 : Int32))] [])
      refine Go.step (fun _ k => XS.iload X6.here hx rfl (hb hby d11_44) rfl k) ?_
      refine Go.step (fun _ k => XS.iload X6.here hx rfl (hb hby d11_46) rfl k) ?_
      refine Go.step (fun _ k => XS.icmpYes X6.here hx rfl (pc0 := 48) (pc' := 53) rfl (hb hby d11_48) rfl (feq (by decide : ¬ ((1 : Int32) = (2 : Int32)))).2 (by decide) (by decide) k) ?_
      show Go _ _ _ _ _ _ _ T6 (mkF m 53 #[.val (.ref a), .val (.int (2 : Int32)), .val (.int (fT 2)), .val (.int (2 : Int32)), .val (.int (1 : Int32)), .val (.int (2 : Int32)), .val (.int (fT 2)), .val (.int (2 : Int32))] [])
      refine Go.step (fun _ k => XS.iload X6.here hx rfl (hb hby d11_53) rfl k) ?_
      refine Go.step (fun _ k => XS.iload X6.here hx rfl (hb hby d11_55) rfl k) ?_
      refine Go.step (fun _ k => XS.iadd X6.here hx rfl (hb hby d11_57) rfl k) ?_
      show Go _ _ _ _ _ _ _ T6 (mkF m 58 #[.val (.ref a), .val (.int (2 : Int32)), .val (.int (fT 2)), .val (.int (2 : Int32)), .val (.int (1 : Int32)), .val (.int (2 : Int32)), .val (.int (fT 2)), .val (.int (2 : Int32))] [(.int (3 : Int32))])
      refine Go.step (fun _ k => XS.iconst X6.here hx rfl (hb hby d11_58) k) ?_
      refine Go.step (fun _ k => XS.iushr X6.here hx rfl (hb hby d11_59) rfl k) ?_
      show Go _ _ _ _ _ _ _ T6 (mkF m 60 #[.val (.ref a), .val (.int (2 : Int32)), .val (.int (fT 2)), .val (.int (2 : Int32)), .val (.int (1 : Int32)), .val (.int (2 : Int32)), .val (.int (fT 2)), .val (.int (2 : Int32))] [(.int (1 : Int32))])
      refine Go.step (fun _ k => XS.istore X6.here hx rfl (hb hby d11_60) rfl (l' := #[.val (.ref a), .val (.int (2 : Int32)), .val (.int (fT 2)), .val (.int (2 : Int32)), .val (.int (1 : Int32)), .val (.int (2 : Int32)), .val (.int (fT 2)), .val (.int (1 : Int32))]) rfl k) ?_
      show Go _ _ _ _ _ _ _ T6 (mkF m 62 #[.val (.ref a), .val (.int (2 : Int32)), .val (.int (fT 2)), .val (.int (2 : Int32)), .val (.int (1 : Int32)), .val (.int (2 : Int32)), .val (.int (fT 2)), .val (.int (1 : Int32))] [])
      refine Go.step (fun _ k => XS.iloadN X6.here hx rfl (hb hby d11_62) rfl k) ?_
      refine Go.step (fun _ k => XS.iload X6.here hx rfl (hb hby d11_63) rfl k) ?_
      refine Go.step (fun _ k => XS.icmpYes X6.here hx rfl (pc0 := 65) (pc' := 79) rfl (hb hby d11_65) rfl (tlt (by decide : (1 : Int32) < (2 : Int32))).2.2.1 (by decide) (by decide) k) ?_
      show Go _ _ _ _ _ _ _ T6 (mkF m 79 #[.val (.ref a), .val (.int (2 : Int32)), .val (.int (fT 2)), .val (.int (2 : Int32)), .val (.int (1 : Int32)), .val (.int (2 : Int32)), .val (.int (fT 2)), .val (.int (1 : Int32))] [])
      refine Go.step (fun _ k => XS.iconst X6.here hx rfl (hb hby d11_79) k) ?_
      refine Go.step (fun _ k => XS.iloadN X6.here hx rfl (hb hby d11_80) rfl k) ?_
      refine Go.step (fun _ k => XS.imul X6.here hx rfl (hb hby d11_81) rfl k) ?_
      show Go _ _ _ _ _ _ _ T6 (mkF m 82 #[.val (.ref a), .val (.int (2 : Int32)), .val (.int (fT 2)), .val (.int (2 : Int32)), .val (.int (1 : Int32)), .val (.int (2 : Int32)), .val (.int (fT 2)), .val (.int (1 : Int32))] [(.int (4 : Int32))])
      refine Go.step (fun _ k => XS.iconst X6.here hx rfl (hb hby d11_82) k) ?_
      refine Go.step (fun _ k => XS.iadd X6.here hx rfl (hb hby d11_83) rfl k) ?_
      show Go _ _ _ _ _ _ _ T6 (mkF m 84 #[.val (.ref a), .val (.int (2 : Int32)), .val (.int (fT 2)), .val (.int (2 : Int32)), .val (.int (1 : Int32)), .val (.int (2 : Int32)), .val (.int (fT 2)), .val (.int (1 : Int32))] [(.int (5 : Int32))])
      refine Go.step (fun _ k => XS.istoreN X6.here hx rfl (hb hby d11_84) rfl (l' := #[.val (.ref a), .val (.int (2 : Int32)), .val (.int (fT 2)), .val (.int (5 : Int32)), .val (.int (1 : Int32)), .val (.int (2 : Int32)), .val (.int (fT 2)), .val (.int (1 : Int32))]) rfl k) ?_
      show Go _ _ _ _ _ _ _ T6 (mkF m 85 #[.val (.ref a), .val (.int (2 : Int32)), .val (.int (fT 2)), .val (.int (5 : Int32)), .val (.int (1 : Int32)), .val (.int (2 : Int32)), .val (.int (fT 2)), .val (.int (1 : Int32))] [])
      refine Go.step (fun _ k => XS.iload X6.here hx rfl (hb hby d11_85) rfl k) ?_
      refine Go.step (fun _ k => XS.iconst X6.here hx rfl (hb hby d11_87) k) ?_
      refine Go.step (fun _ k => XS.iadd X6.here hx rfl (hb hby d11_88) rfl k) ?_
      show Go _ _ _ _ _ _ _ T6 (mkF m 89 #[.val (.ref a), .val (.int (2 : Int32)), .val (.int (fT 2)), .val (.int (5 : Int32)), .val (.int (1 : Int32)), .val (.int (2 : Int32)), .val (.int (fT 2)), .val (.int (1 : Int32))] [(.int (2 : Int32))])
      refine Go.step (fun _ k => XS.istore X6.here hx rfl (hb hby d11_89) rfl (l' := #[.val (.ref a), .val (.int (2 : Int32)), .val (.int (fT 2)), .val (.int (5 : Int32)), .val (.int (2 : Int32)), .val (.int (2 : Int32)), .val (.int (fT 2)), .val (.int (1 : Int32))]) rfl k) ?_
      show Go _ _ _ _ _ _ _ T6 (mkF m 91 #[.val (.ref a), .val (.int (2 : Int32)), .val (.int (fT 2)), .val (.int (5 : Int32)), .val (.int (2 : Int32)), .val (.int (2 : Int32)), .val (.int (fT 2)), .val (.int (1 : Int32))] [])
      refine Go.step (fun _ k => XS.goto X6.here hx rfl (pc0 := 91) (pc' := 13) rfl (hb hby d11_91) (by decide) (by decide) k) ?_
      show Go _ _ _ _ _ _ _ T6 (mkF m 13 #[.val (.ref a), .val (.int (2 : Int32)), .val (.int (fT 2)), .val (.int (5 : Int32)), .val (.int (2 : Int32)), .val (.int (2 : Int32)), .val (.int (fT 2)), .val (.int (1 : Int32))] [])
      refine Go.step (fun _ k => XS.aloadN X6.here hx rfl (hb hby d11_13) rfl rfl k) ?_
      obtain ⟨T9, X9, e9, st9⟩ := getF X6 hx hZ hown (host := "") (Or.inl (hw _ (mI 36 rfl))) Via.refl hh6 F_node_a_0 (g := (mkF m 14 #[.val (.ref a), .val (.int (2 : Int32)), .val (.int (fT 2)), .val (.int (5 : Int32)), .val (.int (2 : Int32)), .val (.int (2 : Int32)), .val (.int (fT 2)), .val (.int (1 : Int32))] [(.ref a)])) rfl rfl (hb hby d11_14)
      refine Go.step st9 ?_
      show Go _ _ _ _ _ _ _ T9 (mkF m 17 #[.val (.ref a), .val (.int (2 : Int32)), .val (.int (fT 2)), .val (.int (5 : Int32)), .val (.int (2 : Int32)), .val (.int (2 : Int32)), .val (.int (fT 2)), .val (.int (1 : Int32))] [(.ref xt)])
      refine Go.step (fun _ k => XS.iloadN X9.here hx rfl (hb hby d11_17) rfl k) ?_
      refine Go.iaload X9 hx hZ e9 V_xt_0 (j := (5 : Int32)) (v := (fT 5)) (by decide) rfl (hb hby d11_18) ?_
      show Go _ _ _ _ _ _ _ T9 (mkF m 19 #[.val (.ref a), .val (.int (2 : Int32)), .val (.int (fT 2)), .val (.int (5 : Int32)), .val (.int (2 : Int32)), .val (.int (2 : Int32)), .val (.int (fT 2)), .val (.int (1 : Int32))] [(.int (fT 5))])
      refine Go.step (fun _ k => XS.istore X9.here hx rfl (hb hby d11_19) rfl (l' := #[.val (.ref a), .val (.int (2 : Int32)), .val (.int (fT 2)), .val (.int (5 : Int32)), .val (.int (2 : Int32)), .val (.int (2 : Int32)), .val (.int (fT 5)), .val (.int (1 : Int32))]) rfl k) ?_
      show Go _ _ _ _ _ _ _ T9 (mkF m 21 #[.val (.ref a), .val (.int (2 : Int32)), .val (.int (fT 2)), .val (.int (5 : Int32)), .val (.int (2 : Int32)), .val (.int (2 : Int32)), .val (.int (fT 5)), .val (.int (1 : Int32))] [])
      refine Go.step (fun _ k => XS.iload X9.here hx rfl (hb hby d11_21) rfl k) ?_
      refine Go.step (fun _ k => XS.ifYes X9.here hx rfl (pc0 := 23) (pc' := 44) rfl (hb hby d11_23) rfl ((if0 _ _).trans (teq hLf.2.1).1) (by decide) (by decide) k) ?_
      show Go _ _ _ _ _ _ _ T9 (mkF m 44 #[.val (.ref a), .val (.int (2 : Int32)), .val (.int (fT 2)), .val (.int (5 : Int32)), .val (.int (2 : Int32)), .val (.int (2 : Int32)), .val (.int (fT 5)), .val (.int (1 : Int32))] [])
      refine Go.step (fun _ k => XS.iload X9.here hx rfl (hb hby d11_44) rfl k) ?_
      refine Go.step (fun _ k => XS.iload X9.here hx rfl (hb hby d11_46) rfl k) ?_
      refine Go.step (fun _ k => XS.icmpNo X9.here hx rfl (hb hby d11_48) rfl (teq (by decide : (2 : Int32) = (2 : Int32))).2 k) ?_
      show Go _ _ _ _ _ _ _ T9 (mkF m 51 #[.val (.ref a), .val (.int (2 : Int32)), .val (.int (fT 2)), .val (.int (5 : Int32)), .val (.int (2 : Int32)), .val (.int (2 : Int32)), .val (.int (fT 5)), .val (.int (1 : Int32))] [])
      refine Go.step (fun _ k => XS.iloadN X9.here hx rfl (hb hby d11_51) rfl k) ?_
      refine Go.retI X9 hx hlk hret (hb hby d11_52) (by decide) (by decide) ?_
      try rw [e9]
      exact ⟨by simp only [lowestW]; rw [if_neg hc23_4, if_neg hc38_7], N6, rfl⟩
theorem ef_rm11_2 (m : MethodId) (a : Addr) : entryFrame m #[(.ref a), (.int (2 : Int32))] 8 = mkF m 0 #[.val (.ref a), .val (.int (2 : Int32)), .unset, .unset, .unset, .unset, .unset, .unset] [] := by first | (simp [entryFrame, mkF, argsToLocals, Value.category]; done) | rfl
theorem rm11_2 (l : Launch) (Z : State) (a0 : Array Value) (hw : ∀ d ∈ tables_1, d.before a0 Z = true) (a xn xo xu xv xw xt xm : Addr) (fP fQ fC fT fM fN fO : Nat → Int32) (dd ss : Nat) (h0 : Heap) (n0 : Nat) (Z0 : n0 ≤ h0.size) (hL : LEs Z h0 a xn xo xu xv xw xt xm fP fQ fC fT fM fN fO dd ss) (hP : Sm fP) (hQ : Sm fQ) (hC : Sm fC) (hR : Rng fT) (hLf : Lf fT) (hr : ¬ fT 1 = (0 : Int32)) :
    Con l Z (⟨"com/example/headroom/headroom/LowerEnvelope", "lowest", "(I)I"⟩ : MethodName) prog_15_method_4_code 8 (some .int) ({ frames := 1, cells := 0, slots := 0, locals := 24 } : Room) #[(.ref a), (.int (2 : Int32))] h0 (fun r h L => r = some (.int (lowestW fP fQ fC fT 2 (2 : Int32))) ∧ Fr n0 L ∧ h = h0) :=
  con_of (plainFor_of_name pn_9) (fun p_ e_ s_ m_ b_ meth_ c_ T_ X_ hx hZ hby hml hown hnm hret hlk e0 => Go.cast (ef_rm11_2 m_ a) (w11_2 a xn xo xu xv xw xt xm fP fQ fC fT fM fN fO dd ss X_ hx hZ hw hby hml hown hnm hret hlk e0 Z0 (Fr.nil n0) hL hP hQ hC hR hLf hr))
set_option maxRecDepth 65536 in
set_option maxHeartbeats 40000000 in
theorem w11_3 {p : Program} {l : Launch} {e : Env} {s : State} {m : MethodId} {args : Array Value} {below : List Frame} {meth : Method} {c_ : Code} {T0 : State} {locs : List Loc} {Z : State} {a0 : Array Value} {h0 : Heap} {n0 : Nat} (a xn xo xu xv xw xt xm : Addr) (fP fQ fC fT fM fN fO : Nat → Int32) (dd ss : Nat)
    (X0 : Stand p l e ({ frames := 1, cells := 0, slots := 0, locals := 24 } : Room) s m args below meth c_ T0 locs 0 0) (hx : p.tables.exec = Jvm.exec) (hZ : Z.Warmed39 s.vm) (hw : ∀ d ∈ tables_1, d.before a0 Z = true) (hby : c_.code = prog_15_method_4_code) (hml : c_.maxLocals = 8) (hown : s.vm.findClass "com/example/headroom/headroom/LowerEnvelope" = some m.cls) (hnm : meth.name = "lowest") (hret : meth.sig.returnType = some .int) (hlk : meth.locks = false) (e0 : T0.heap = h0) (Z0 : n0 ≤ h0.size) (N0 : Fr n0 locs) (hL : LEs Z h0 a xn xo xu xv xw xt xm fP fQ fC fT fM fN fO dd ss) (hP : Sm fP) (hQ : Sm fQ) (hC : Sm fC) (hR : Rng fT) (hLf : Lf fT) (hr : ¬ fT 1 = (0 : Int32)) :
    Go p e below s ({ frames := 1, cells := 0, slots := 0, locals := 24 } : Room).cells ({ frames := 1, cells := 0, slots := 0, locals := 24 } : Room).slots (fun r h L => r = some (.int (lowestW fP fQ fC fT 3 (3 : Int32))) ∧ Fr n0 L ∧ h = h0) T0 (mkF m 0 #[.val (.ref a), .val (.int (3 : Int32)), .unset, .unset, .unset, .unset, .unset, .unset] []) := by
  obtain ⟨E_a_0, F_changedNode_a_0, F_changedLine_a_0, F_base_a_0, F_slope_a_0, F_origin_a_0, F_node_a_0, F_pushedAt_a_0, F_width_a_0, F_pushes_a_0, F_changes_a_0, V_xn_0, V_xo_0, V_xu_0, V_xv_0, V_xw_0, V_xt_0, V_xm_0⟩ := hL
  show Go _ _ _ _ _ _ _ T0 (mkF m 0 #[.val (.ref a), .val (.int (3 : Int32)), .unset, .unset, .unset, .unset, .unset, .unset] [])
  refine Go.step (fun _ k => XS.iconst X0.here hx rfl (hb hby d11_0) k) ?_
  refine Go.step (fun _ k => XS.istoreN X0.here hx rfl (hb hby d11_1) rfl (l' := #[.val (.ref a), .val (.int (3 : Int32)), .val (.int (0 : Int32)), .unset, .unset, .unset, .unset, .unset]) rfl k) ?_
  show Go _ _ _ _ _ _ _ T0 (mkF m 2 #[.val (.ref a), .val (.int (3 : Int32)), .val (.int (0 : Int32)), .unset, .unset, .unset, .unset, .unset] [])
  refine Go.step (fun _ k => XS.iconst X0.here hx rfl (hb hby d11_2) k) ?_
  refine Go.step (fun _ k => XS.istoreN X0.here hx rfl (hb hby d11_3) rfl (l' := #[.val (.ref a), .val (.int (3 : Int32)), .val (.int (0 : Int32)), .val (.int (1 : Int32)), .unset, .unset, .unset, .unset]) rfl k) ?_
  show Go _ _ _ _ _ _ _ T0 (mkF m 4 #[.val (.ref a), .val (.int (3 : Int32)), .val (.int (0 : Int32)), .val (.int (1 : Int32)), .unset, .unset, .unset, .unset] [])
  refine Go.step (fun _ k => XS.iconst X0.here hx rfl (hb hby d11_4) k) ?_
  refine Go.step (fun _ k => XS.istore X0.here hx rfl (hb hby d11_5) rfl (l' := #[.val (.ref a), .val (.int (3 : Int32)), .val (.int (0 : Int32)), .val (.int (1 : Int32)), .val (.int (1 : Int32)), .unset, .unset, .unset]) rfl k) ?_
  show Go _ _ _ _ _ _ _ T0 (mkF m 7 #[.val (.ref a), .val (.int (3 : Int32)), .val (.int (0 : Int32)), .val (.int (1 : Int32)), .val (.int (1 : Int32)), .unset, .unset, .unset] [])
  refine Go.step (fun _ k => XS.aloadN X0.here hx rfl (hb hby d11_7) rfl rfl k) ?_
  obtain ⟨T1, X1, e1, st1⟩ := getF X0 hx hZ hown (host := "") (Or.inl (hw _ (mI 27 rfl))) Via.refl e0 F_width_a_0 (g := (mkF m 8 #[.val (.ref a), .val (.int (3 : Int32)), .val (.int (0 : Int32)), .val (.int (1 : Int32)), .val (.int (1 : Int32)), .unset, .unset, .unset] [(.ref a)])) rfl rfl (hb hby d11_8)
  refine Go.step st1 ?_
  show Go _ _ _ _ _ _ _ T1 (mkF m 11 #[.val (.ref a), .val (.int (3 : Int32)), .val (.int (0 : Int32)), .val (.int (1 : Int32)), .val (.int (1 : Int32)), .unset, .unset, .unset] [(.int (4 : Int32))])
  refine Go.step (fun _ k => XS.istore X1.here hx rfl (hb hby d11_11) rfl (l' := #[.val (.ref a), .val (.int (3 : Int32)), .val (.int (0 : Int32)), .val (.int (1 : Int32)), .val (.int (1 : Int32)), .val (.int (4 : Int32)), .unset, .unset]) rfl k) ?_
  show Go _ _ _ _ _ _ _ T1 (mkF m 13 #[.val (.ref a), .val (.int (3 : Int32)), .val (.int (0 : Int32)), .val (.int (1 : Int32)), .val (.int (1 : Int32)), .val (.int (4 : Int32)), .unset, .unset] [])
  refine Go.step (fun _ k => XS.aloadN X1.here hx rfl (hb hby d11_13) rfl rfl k) ?_
  obtain ⟨T2, X2, e2, st2⟩ := getF X1 hx hZ hown (host := "") (Or.inl (hw _ (mI 36 rfl))) Via.refl e1 F_node_a_0 (g := (mkF m 14 #[.val (.ref a), .val (.int (3 : Int32)), .val (.int (0 : Int32)), .val (.int (1 : Int32)), .val (.int (1 : Int32)), .val (.int (4 : Int32)), .unset, .unset] [(.ref a)])) rfl rfl (hb hby d11_14)
  refine Go.step st2 ?_
  show Go _ _ _ _ _ _ _ T2 (mkF m 17 #[.val (.ref a), .val (.int (3 : Int32)), .val (.int (0 : Int32)), .val (.int (1 : Int32)), .val (.int (1 : Int32)), .val (.int (4 : Int32)), .unset, .unset] [(.ref xt)])
  refine Go.step (fun _ k => XS.iloadN X2.here hx rfl (hb hby d11_17) rfl k) ?_
  refine Go.iaload X2 hx hZ e2 V_xt_0 (j := (1 : Int32)) (v := (fT 1)) (by decide) rfl (hb hby d11_18) ?_
  show Go _ _ _ _ _ _ _ T2 (mkF m 19 #[.val (.ref a), .val (.int (3 : Int32)), .val (.int (0 : Int32)), .val (.int (1 : Int32)), .val (.int (1 : Int32)), .val (.int (4 : Int32)), .unset, .unset] [(.int (fT 1))])
  refine Go.step (fun _ k => XS.istore X2.here hx rfl (hb hby d11_19) rfl (l' := #[.val (.ref a), .val (.int (3 : Int32)), .val (.int (0 : Int32)), .val (.int (1 : Int32)), .val (.int (1 : Int32)), .val (.int (4 : Int32)), .val (.int (fT 1)), .unset]) rfl k) ?_
  show Go _ _ _ _ _ _ _ T2 (mkF m 21 #[.val (.ref a), .val (.int (3 : Int32)), .val (.int (0 : Int32)), .val (.int (1 : Int32)), .val (.int (1 : Int32)), .val (.int (4 : Int32)), .val (.int (fT 1)), .unset] [])
  refine Go.step (fun _ k => XS.iload X2.here hx rfl (hb hby d11_21) rfl k) ?_
  refine Go.step (fun _ k => XS.ifNo X2.here hx rfl (hb hby d11_23) rfl ((if0 _ _).trans (feq hr).1) k) ?_
  show Go _ _ _ _ _ _ _ T2 (mkF m 26 #[.val (.ref a), .val (.int (3 : Int32)), .val (.int (0 : Int32)), .val (.int (1 : Int32)), .val (.int (1 : Int32)), .val (.int (4 : Int32)), .val (.int (fT 1)), .unset] [])
  refine Go.step (fun _ k => XS.iloadN X2.here hx rfl (hb hby d11_26) rfl k) ?_
  refine Go.step (fun _ k => XS.ifYes X2.here hx rfl (pc0 := 27) (pc' := 41) rfl (hb hby d11_27) rfl ((if0 _ _).trans (teq (by decide : (0 : Int32) = (0 : Int32))).1) (by decide) (by decide) k) ?_
  show Go _ _ _ _ _ _ _ T2 (mkF m 41 #[.val (.ref a), .val (.int (3 : Int32)), .val (.int (0 : Int32)), .val (.int (1 : Int32)), .val (.int (1 : Int32)), .val (.int (4 : Int32)), .val (.int (fT 1)), .unset] [])
  refine Go.step (fun _ k => XS.iload X2.here hx rfl (hb hby d11_41) rfl k) ?_
  refine Go.step (fun _ k => XS.istoreN X2.here hx rfl (hb hby d11_43) rfl (l' := #[.val (.ref a), .val (.int (3 : Int32)), .val (.int (fT 1)), .val (.int (1 : Int32)), .val (.int (1 : Int32)), .val (.int (4 : Int32)), .val (.int (fT 1)), .unset]) rfl k) ?_
  show Go _ _ _ _ _ _ _ T2 (mkF m 44 #[.val (.ref a), .val (.int (3 : Int32)), .val (.int (fT 1)), .val (.int (1 : Int32)), .val (.int (1 : Int32)), .val (.int (4 : Int32)), .val (.int (fT 1)), .unset] [])
  refine Go.step (fun _ k => XS.iload X2.here hx rfl (hb hby d11_44) rfl k) ?_
  refine Go.step (fun _ k => XS.iload X2.here hx rfl (hb hby d11_46) rfl k) ?_
  refine Go.step (fun _ k => XS.icmpYes X2.here hx rfl (pc0 := 48) (pc' := 53) rfl (hb hby d11_48) rfl (feq (by decide : ¬ ((1 : Int32) = (4 : Int32)))).2 (by decide) (by decide) k) ?_
  show Go _ _ _ _ _ _ _ T2 (mkF m 53 #[.val (.ref a), .val (.int (3 : Int32)), .val (.int (fT 1)), .val (.int (1 : Int32)), .val (.int (1 : Int32)), .val (.int (4 : Int32)), .val (.int (fT 1)), .unset] [])
  refine Go.step (fun _ k => XS.iload X2.here hx rfl (hb hby d11_53) rfl k) ?_
  refine Go.step (fun _ k => XS.iload X2.here hx rfl (hb hby d11_55) rfl k) ?_
  refine Go.step (fun _ k => XS.iadd X2.here hx rfl (hb hby d11_57) rfl k) ?_
  show Go _ _ _ _ _ _ _ T2 (mkF m 58 #[.val (.ref a), .val (.int (3 : Int32)), .val (.int (fT 1)), .val (.int (1 : Int32)), .val (.int (1 : Int32)), .val (.int (4 : Int32)), .val (.int (fT 1)), .unset] [(.int (5 : Int32))])
  refine Go.step (fun _ k => XS.iconst X2.here hx rfl (hb hby d11_58) k) ?_
  refine Go.step (fun _ k => XS.iushr X2.here hx rfl (hb hby d11_59) rfl k) ?_
  show Go _ _ _ _ _ _ _ T2 (mkF m 60 #[.val (.ref a), .val (.int (3 : Int32)), .val (.int (fT 1)), .val (.int (1 : Int32)), .val (.int (1 : Int32)), .val (.int (4 : Int32)), .val (.int (fT 1)), .unset] [(.int (2 : Int32))])
  refine Go.step (fun _ k => XS.istore X2.here hx rfl (hb hby d11_60) rfl (l' := #[.val (.ref a), .val (.int (3 : Int32)), .val (.int (fT 1)), .val (.int (1 : Int32)), .val (.int (1 : Int32)), .val (.int (4 : Int32)), .val (.int (fT 1)), .val (.int (2 : Int32))]) rfl k) ?_
  show Go _ _ _ _ _ _ _ T2 (mkF m 62 #[.val (.ref a), .val (.int (3 : Int32)), .val (.int (fT 1)), .val (.int (1 : Int32)), .val (.int (1 : Int32)), .val (.int (4 : Int32)), .val (.int (fT 1)), .val (.int (2 : Int32))] [])
  refine Go.step (fun _ k => XS.iloadN X2.here hx rfl (hb hby d11_62) rfl k) ?_
  refine Go.step (fun _ k => XS.iload X2.here hx rfl (hb hby d11_63) rfl k) ?_
  refine Go.step (fun _ k => XS.icmpYes X2.here hx rfl (pc0 := 65) (pc' := 79) rfl (hb hby d11_65) rfl (tlt (by decide : (2 : Int32) < (3 : Int32))).2.2.1 (by decide) (by decide) k) ?_
  show Go _ _ _ _ _ _ _ T2 (mkF m 79 #[.val (.ref a), .val (.int (3 : Int32)), .val (.int (fT 1)), .val (.int (1 : Int32)), .val (.int (1 : Int32)), .val (.int (4 : Int32)), .val (.int (fT 1)), .val (.int (2 : Int32))] [])
  refine Go.step (fun _ k => XS.iconst X2.here hx rfl (hb hby d11_79) k) ?_
  refine Go.step (fun _ k => XS.iloadN X2.here hx rfl (hb hby d11_80) rfl k) ?_
  refine Go.step (fun _ k => XS.imul X2.here hx rfl (hb hby d11_81) rfl k) ?_
  show Go _ _ _ _ _ _ _ T2 (mkF m 82 #[.val (.ref a), .val (.int (3 : Int32)), .val (.int (fT 1)), .val (.int (1 : Int32)), .val (.int (1 : Int32)), .val (.int (4 : Int32)), .val (.int (fT 1)), .val (.int (2 : Int32))] [(.int (2 : Int32))])
  refine Go.step (fun _ k => XS.iconst X2.here hx rfl (hb hby d11_82) k) ?_
  refine Go.step (fun _ k => XS.iadd X2.here hx rfl (hb hby d11_83) rfl k) ?_
  show Go _ _ _ _ _ _ _ T2 (mkF m 84 #[.val (.ref a), .val (.int (3 : Int32)), .val (.int (fT 1)), .val (.int (1 : Int32)), .val (.int (1 : Int32)), .val (.int (4 : Int32)), .val (.int (fT 1)), .val (.int (2 : Int32))] [(.int (3 : Int32))])
  refine Go.step (fun _ k => XS.istoreN X2.here hx rfl (hb hby d11_84) rfl (l' := #[.val (.ref a), .val (.int (3 : Int32)), .val (.int (fT 1)), .val (.int (3 : Int32)), .val (.int (1 : Int32)), .val (.int (4 : Int32)), .val (.int (fT 1)), .val (.int (2 : Int32))]) rfl k) ?_
  show Go _ _ _ _ _ _ _ T2 (mkF m 85 #[.val (.ref a), .val (.int (3 : Int32)), .val (.int (fT 1)), .val (.int (3 : Int32)), .val (.int (1 : Int32)), .val (.int (4 : Int32)), .val (.int (fT 1)), .val (.int (2 : Int32))] [])
  refine Go.step (fun _ k => XS.iload X2.here hx rfl (hb hby d11_85) rfl k) ?_
  refine Go.step (fun _ k => XS.iconst X2.here hx rfl (hb hby d11_87) k) ?_
  refine Go.step (fun _ k => XS.iadd X2.here hx rfl (hb hby d11_88) rfl k) ?_
  show Go _ _ _ _ _ _ _ T2 (mkF m 89 #[.val (.ref a), .val (.int (3 : Int32)), .val (.int (fT 1)), .val (.int (3 : Int32)), .val (.int (1 : Int32)), .val (.int (4 : Int32)), .val (.int (fT 1)), .val (.int (2 : Int32))] [(.int (3 : Int32))])
  refine Go.step (fun _ k => XS.istore X2.here hx rfl (hb hby d11_89) rfl (l' := #[.val (.ref a), .val (.int (3 : Int32)), .val (.int (fT 1)), .val (.int (3 : Int32)), .val (.int (3 : Int32)), .val (.int (4 : Int32)), .val (.int (fT 1)), .val (.int (2 : Int32))]) rfl k) ?_
  show Go _ _ _ _ _ _ _ T2 (mkF m 91 #[.val (.ref a), .val (.int (3 : Int32)), .val (.int (fT 1)), .val (.int (3 : Int32)), .val (.int (3 : Int32)), .val (.int (4 : Int32)), .val (.int (fT 1)), .val (.int (2 : Int32))] [])
  refine Go.step (fun _ k => XS.goto X2.here hx rfl (pc0 := 91) (pc' := 13) rfl (hb hby d11_91) (by decide) (by decide) k) ?_
  show Go _ _ _ _ _ _ _ T2 (mkF m 13 #[.val (.ref a), .val (.int (3 : Int32)), .val (.int (fT 1)), .val (.int (3 : Int32)), .val (.int (3 : Int32)), .val (.int (4 : Int32)), .val (.int (fT 1)), .val (.int (2 : Int32))] [])
  refine Go.step (fun _ k => XS.aloadN X2.here hx rfl (hb hby d11_13) rfl rfl k) ?_
  obtain ⟨T3, X3, e3, st3⟩ := getF X2 hx hZ hown (host := "") (Or.inl (hw _ (mI 36 rfl))) Via.refl e2 F_node_a_0 (g := (mkF m 14 #[.val (.ref a), .val (.int (3 : Int32)), .val (.int (fT 1)), .val (.int (3 : Int32)), .val (.int (3 : Int32)), .val (.int (4 : Int32)), .val (.int (fT 1)), .val (.int (2 : Int32))] [(.ref a)])) rfl rfl (hb hby d11_14)
  refine Go.step st3 ?_
  show Go _ _ _ _ _ _ _ T3 (mkF m 17 #[.val (.ref a), .val (.int (3 : Int32)), .val (.int (fT 1)), .val (.int (3 : Int32)), .val (.int (3 : Int32)), .val (.int (4 : Int32)), .val (.int (fT 1)), .val (.int (2 : Int32))] [(.ref xt)])
  refine Go.step (fun _ k => XS.iloadN X3.here hx rfl (hb hby d11_17) rfl k) ?_
  refine Go.iaload X3 hx hZ e3 V_xt_0 (j := (3 : Int32)) (v := (fT 3)) (by decide) rfl (hb hby d11_18) ?_
  show Go _ _ _ _ _ _ _ T3 (mkF m 19 #[.val (.ref a), .val (.int (3 : Int32)), .val (.int (fT 1)), .val (.int (3 : Int32)), .val (.int (3 : Int32)), .val (.int (4 : Int32)), .val (.int (fT 1)), .val (.int (2 : Int32))] [(.int (fT 3))])
  refine Go.step (fun _ k => XS.istore X3.here hx rfl (hb hby d11_19) rfl (l' := #[.val (.ref a), .val (.int (3 : Int32)), .val (.int (fT 1)), .val (.int (3 : Int32)), .val (.int (3 : Int32)), .val (.int (4 : Int32)), .val (.int (fT 3)), .val (.int (2 : Int32))]) rfl k) ?_
  show Go _ _ _ _ _ _ _ T3 (mkF m 21 #[.val (.ref a), .val (.int (3 : Int32)), .val (.int (fT 1)), .val (.int (3 : Int32)), .val (.int (3 : Int32)), .val (.int (4 : Int32)), .val (.int (fT 3)), .val (.int (2 : Int32))] [])
  refine Go.step (fun _ k => XS.iload X3.here hx rfl (hb hby d11_21) rfl k) ?_
  by_cases hc23_4 : (fT 3) = (0 : Int32)
  · refine Go.step (fun _ k => XS.ifYes X3.here hx rfl (pc0 := 23) (pc' := 44) rfl (hb hby d11_23) rfl ((if0 _ _).trans (teq hc23_4).1) (by decide) (by decide) k) ?_
    show Go _ _ _ _ _ _ _ T3 (mkF m 44 #[.val (.ref a), .val (.int (3 : Int32)), .val (.int (fT 1)), .val (.int (3 : Int32)), .val (.int (3 : Int32)), .val (.int (4 : Int32)), .val (.int (fT 3)), .val (.int (2 : Int32))] [])
    refine Go.step (fun _ k => XS.iload X3.here hx rfl (hb hby d11_44) rfl k) ?_
    refine Go.step (fun _ k => XS.iload X3.here hx rfl (hb hby d11_46) rfl k) ?_
    refine Go.step (fun _ k => XS.icmpYes X3.here hx rfl (pc0 := 48) (pc' := 53) rfl (hb hby d11_48) rfl (feq (by decide : ¬ ((3 : Int32) = (4 : Int32)))).2 (by decide) (by decide) k) ?_
    show Go _ _ _ _ _ _ _ T3 (mkF m 53 #[.val (.ref a), .val (.int (3 : Int32)), .val (.int (fT 1)), .val (.int (3 : Int32)), .val (.int (3 : Int32)), .val (.int (4 : Int32)), .val (.int (fT 3)), .val (.int (2 : Int32))] [])
    refine Go.step (fun _ k => XS.iload X3.here hx rfl (hb hby d11_53) rfl k) ?_
    refine Go.step (fun _ k => XS.iload X3.here hx rfl (hb hby d11_55) rfl k) ?_
    refine Go.step (fun _ k => XS.iadd X3.here hx rfl (hb hby d11_57) rfl k) ?_
    show Go _ _ _ _ _ _ _ T3 (mkF m 58 #[.val (.ref a), .val (.int (3 : Int32)), .val (.int (fT 1)), .val (.int (3 : Int32)), .val (.int (3 : Int32)), .val (.int (4 : Int32)), .val (.int (fT 3)), .val (.int (2 : Int32))] [(.int (7 : Int32))])
    refine Go.step (fun _ k => XS.iconst X3.here hx rfl (hb hby d11_58) k) ?_
    refine Go.step (fun _ k => XS.iushr X3.here hx rfl (hb hby d11_59) rfl k) ?_
    show Go _ _ _ _ _ _ _ T3 (mkF m 60 #[.val (.ref a), .val (.int (3 : Int32)), .val (.int (fT 1)), .val (.int (3 : Int32)), .val (.int (3 : Int32)), .val (.int (4 : Int32)), .val (.int (fT 3)), .val (.int (2 : Int32))] [(.int (3 : Int32))])
    refine Go.step (fun _ k => XS.istore X3.here hx rfl (hb hby d11_60) rfl (l' := #[.val (.ref a), .val (.int (3 : Int32)), .val (.int (fT 1)), .val (.int (3 : Int32)), .val (.int (3 : Int32)), .val (.int (4 : Int32)), .val (.int (fT 3)), .val (.int (3 : Int32))]) rfl k) ?_
    show Go _ _ _ _ _ _ _ T3 (mkF m 62 #[.val (.ref a), .val (.int (3 : Int32)), .val (.int (fT 1)), .val (.int (3 : Int32)), .val (.int (3 : Int32)), .val (.int (4 : Int32)), .val (.int (fT 3)), .val (.int (3 : Int32))] [])
    refine Go.step (fun _ k => XS.iloadN X3.here hx rfl (hb hby d11_62) rfl k) ?_
    refine Go.step (fun _ k => XS.iload X3.here hx rfl (hb hby d11_63) rfl k) ?_
    refine Go.step (fun _ k => XS.icmpNo X3.here hx rfl (hb hby d11_65) rfl (flt (by decide : ¬ ((3 : Int32) < (3 : Int32)))).2.2.1 k) ?_
    show Go _ _ _ _ _ _ _ T3 (mkF m 68 #[.val (.ref a), .val (.int (3 : Int32)), .val (.int (fT 1)), .val (.int (3 : Int32)), .val (.int (3 : Int32)), .val (.int (4 : Int32)), .val (.int (fT 3)), .val (.int (3 : Int32))] [])
    refine Go.step (fun _ k => XS.iconst X3.here hx rfl (hb hby d11_68) k) ?_
    refine Go.step (fun _ k => XS.iloadN X3.here hx rfl (hb hby d11_69) rfl k) ?_
    refine Go.step (fun _ k => XS.imul X3.here hx rfl (hb hby d11_70) rfl k) ?_
    show Go _ _ _ _ _ _ _ T3 (mkF m 71 #[.val (.ref a), .val (.int (3 : Int32)), .val (.int (fT 1)), .val (.int (3 : Int32)), .val (.int (3 : Int32)), .val (.int (4 : Int32)), .val (.int (fT 3)), .val (.int (3 : Int32))] [(.int (6 : Int32))])
    refine Go.step (fun _ k => XS.istoreN X3.here hx rfl (hb hby d11_71) rfl (l' := #[.val (.ref a), .val (.int (3 : Int32)), .val (.int (fT 1)), .val (.int (6 : Int32)), .val (.int (3 : Int32)), .val (.int (4 : Int32)), .val (.int (fT 3)), .val (.int (3 : Int32))]) rfl k) ?_
    show Go _ _ _ _ _ _ _ T3 (mkF m 72 #[.val (.ref a), .val (.int (3 : Int32)), .val (.int (fT 1)), .val (.int (6 : Int32)), .val (.int (3 : Int32)), .val (.int (4 : Int32)), .val (.int (fT 3)), .val (.int (3 : Int32))] [])
    refine Go.step (fun _ k => XS.iload X3.here hx rfl (hb hby d11_72) rfl k) ?_
    refine Go.step (fun _ k => XS.istore X3.here hx rfl (hb hby d11_74) rfl (l' := #[.val (.ref a), .val (.int (3 : Int32)), .val (.int (fT 1)), .val (.int (6 : Int32)), .val (.int (3 : Int32)), .val (.int (3 : Int32)), .val (.int (fT 3)), .val (.int (3 : Int32))]) rfl k) ?_
    show Go _ _ _ _ _ _ _ T3 (mkF m 76 #[.val (.ref a), .val (.int (3 : Int32)), .val (.int (fT 1)), .val (.int (6 : Int32)), .val (.int (3 : Int32)), .val (.int (3 : Int32)), .val (.int (fT 3)), .val (.int (3 : Int32))] [])
    refine Go.step (fun _ k => XS.goto X3.here hx rfl (pc0 := 76) (pc' := 91) rfl (hb hby d11_76) (by decide) (by decide) k) ?_
    show Go _ _ _ _ _ _ _ T3 (mkF m 91 #[.val (.ref a), .val (.int (3 : Int32)), .val (.int (fT 1)), .val (.int (6 : Int32)), .val (.int (3 : Int32)), .val (.int (3 : Int32)), .val (.int (fT 3)), .val (.int (3 : Int32))] [])
    refine Go.step (fun _ k => XS.goto X3.here hx rfl (pc0 := 91) (pc' := 13) rfl (hb hby d11_91) (by decide) (by decide) k) ?_
    show Go _ _ _ _ _ _ _ T3 (mkF m 13 #[.val (.ref a), .val (.int (3 : Int32)), .val (.int (fT 1)), .val (.int (6 : Int32)), .val (.int (3 : Int32)), .val (.int (3 : Int32)), .val (.int (fT 3)), .val (.int (3 : Int32))] [])
    refine Go.step (fun _ k => XS.aloadN X3.here hx rfl (hb hby d11_13) rfl rfl k) ?_
    obtain ⟨T5, X5, e5, st5⟩ := getF X3 hx hZ hown (host := "") (Or.inl (hw _ (mI 36 rfl))) Via.refl e3 F_node_a_0 (g := (mkF m 14 #[.val (.ref a), .val (.int (3 : Int32)), .val (.int (fT 1)), .val (.int (6 : Int32)), .val (.int (3 : Int32)), .val (.int (3 : Int32)), .val (.int (fT 3)), .val (.int (3 : Int32))] [(.ref a)])) rfl rfl (hb hby d11_14)
    refine Go.step st5 ?_
    show Go _ _ _ _ _ _ _ T5 (mkF m 17 #[.val (.ref a), .val (.int (3 : Int32)), .val (.int (fT 1)), .val (.int (6 : Int32)), .val (.int (3 : Int32)), .val (.int (3 : Int32)), .val (.int (fT 3)), .val (.int (3 : Int32))] [(.ref xt)])
    refine Go.step (fun _ k => XS.iloadN X5.here hx rfl (hb hby d11_17) rfl k) ?_
    refine Go.iaload X5 hx hZ e5 V_xt_0 (j := (6 : Int32)) (v := (fT 6)) (by decide) rfl (hb hby d11_18) ?_
    show Go _ _ _ _ _ _ _ T5 (mkF m 19 #[.val (.ref a), .val (.int (3 : Int32)), .val (.int (fT 1)), .val (.int (6 : Int32)), .val (.int (3 : Int32)), .val (.int (3 : Int32)), .val (.int (fT 3)), .val (.int (3 : Int32))] [(.int (fT 6))])
    refine Go.step (fun _ k => XS.istore X5.here hx rfl (hb hby d11_19) rfl (l' := #[.val (.ref a), .val (.int (3 : Int32)), .val (.int (fT 1)), .val (.int (6 : Int32)), .val (.int (3 : Int32)), .val (.int (3 : Int32)), .val (.int (fT 6)), .val (.int (3 : Int32))]) rfl k) ?_
    show Go _ _ _ _ _ _ _ T5 (mkF m 21 #[.val (.ref a), .val (.int (3 : Int32)), .val (.int (fT 1)), .val (.int (6 : Int32)), .val (.int (3 : Int32)), .val (.int (3 : Int32)), .val (.int (fT 6)), .val (.int (3 : Int32))] [])
    refine Go.step (fun _ k => XS.iload X5.here hx rfl (hb hby d11_21) rfl k) ?_
    refine Go.step (fun _ k => XS.ifYes X5.here hx rfl (pc0 := 23) (pc' := 44) rfl (hb hby d11_23) rfl ((if0 _ _).trans (teq hLf.2.2.1).1) (by decide) (by decide) k) ?_
    show Go _ _ _ _ _ _ _ T5 (mkF m 44 #[.val (.ref a), .val (.int (3 : Int32)), .val (.int (fT 1)), .val (.int (6 : Int32)), .val (.int (3 : Int32)), .val (.int (3 : Int32)), .val (.int (fT 6)), .val (.int (3 : Int32))] [])
    refine Go.step (fun _ k => XS.iload X5.here hx rfl (hb hby d11_44) rfl k) ?_
    refine Go.step (fun _ k => XS.iload X5.here hx rfl (hb hby d11_46) rfl k) ?_
    refine Go.step (fun _ k => XS.icmpNo X5.here hx rfl (hb hby d11_48) rfl (teq (by decide : (3 : Int32) = (3 : Int32))).2 k) ?_
    show Go _ _ _ _ _ _ _ T5 (mkF m 51 #[.val (.ref a), .val (.int (3 : Int32)), .val (.int (fT 1)), .val (.int (6 : Int32)), .val (.int (3 : Int32)), .val (.int (3 : Int32)), .val (.int (fT 6)), .val (.int (3 : Int32))] [])
    refine Go.step (fun _ k => XS.iloadN X5.here hx rfl (hb hby d11_51) rfl k) ?_
    refine Go.retI X5 hx hlk hret (hb hby d11_52) (by decide) (by decide) ?_
    try rw [e5]
    exact ⟨by simp only [lowestW]; rw [if_pos hc23_4], N0, rfl⟩
  · refine Go.step (fun _ k => XS.ifNo X3.here hx rfl (hb hby d11_23) rfl ((if0 _ _).trans (feq hc23_4).1) k) ?_
    show Go _ _ _ _ _ _ _ T3 (mkF m 26 #[.val (.ref a), .val (.int (3 : Int32)), .val (.int (fT 1)), .val (.int (3 : Int32)), .val (.int (3 : Int32)), .val (.int (4 : Int32)), .val (.int (fT 3)), .val (.int (2 : Int32))] [])
    refine Go.step (fun _ k => XS.iloadN X3.here hx rfl (hb hby d11_26) rfl k) ?_
    refine Go.step (fun _ k => XS.ifNo X3.here hx rfl (hb hby d11_27) rfl ((if0 _ _).trans (feq hr).1) k) ?_
    show Go _ _ _ _ _ _ _ T3 (mkF m 30 #[.val (.ref a), .val (.int (3 : Int32)), .val (.int (fT 1)), .val (.int (3 : Int32)), .val (.int (3 : Int32)), .val (.int (4 : Int32)), .val (.int (fT 3)), .val (.int (2 : Int32))] [])
    refine Go.step (fun _ k => XS.aloadN X3.here hx rfl (hb hby d11_30) rfl rfl k) ?_
    refine Go.step (fun _ k => XS.iload X3.here hx rfl (hb hby d11_31) rfl k) ?_
    refine Go.step (fun _ k => XS.iloadN X3.here hx rfl (hb hby d11_33) rfl k) ?_
    show Go _ _ _ _ _ _ _ T3 (mkF m 34 #[.val (.ref a), .val (.int (3 : Int32)), .val (.int (fT 1)), .val (.int (3 : Int32)), .val (.int (3 : Int32)), .val (.int (4 : Int32)), .val (.int (fT 3)), .val (.int (2 : Int32))] [(.int (fT 1)), (.int (fT 3)), (.ref a)])
    refine Go.step (fun _ k => XS.iloadN X3.here hx rfl (hb hby d11_34) rfl k) ?_
    refine Go.callP X3 hx hZ (by rw [hml]; rfl) (y := (⟨"com/example/headroom/headroom/LowerEnvelope", "lower", "(III)Z"⟩ : MethodName)) (a := a) (argsL := [(.int (fT 3)), (.int (fT 1)), (.int (3 : Int32))]) (rest := []) hown (hw _ (mI 57 rfl)) (hw _ (mI 58 rfl)) (hw _ (mI 1 rfl)) (hw _ (mI 59 rfl)) (hw _ (mI 2 rfl)) (hw _ (mI 60 rfl)) (by decide) (rm9 l Z a0 hw a xu xv xw fP fQ fC (fT 3) (fT 1) (3 : Int32) h0 n0 Z0 F_base_a_0 F_slope_a_0 F_origin_a_0 V_xu_0 V_xv_0 V_xw_0 hP hQ hC (hR 3) (hR 1) (own_in (3 : Int32) (by decide))) e3 E_a_0 (hb hby d11_35) (lenOf pd_1 rfl) rfl rfl (W := 0) (Nat.le_of_eq rfl) (by decide) (by decide) (by decide) (by decide) ?_
    intro v6 T6 L6 X6 Q6
    obtain ⟨rfl, N6q, hh6⟩ := Q6
    have N6 := Fr.app N0 N6q
    show Go _ _ _ _ _ _ _ T6 (mkF m 38 #[.val (.ref a), .val (.int (3 : Int32)), .val (.int (fT 1)), .val (.int (3 : Int32)), .val (.int (3 : Int32)), .val (.int (4 : Int32)), .val (.int (fT 3)), .val (.int (2 : Int32))] [(.int (lowW fP fQ fC (fT 3) (fT 1) (3 : Int32)))])
    by_cases hc38_7 : (lowW fP fQ fC (fT 3) (fT 1) (3 : Int32)) = (0 : Int32)
    · refine Go.step (fun _ k => XS.ifYes X6.here hx rfl (pc0 := 38) (pc' := 44) rfl (hb hby d11_38) rfl ((if0 _ _).trans (teq hc38_7).1) (by decide) (by decide) k) ?_
      show Go _ _ _ _ _ _ _ T6 (mkF m 44 #[.val (.ref a), .val (.int (3 : Int32)), .val (.int (fT 1)), .val (.int (3 : Int32)), .val (.int (3 : Int32)), .val (.int (4 : Int32)), .val (.int (fT 3)), .val (.int (2 : Int32))] [])
      refine Go.step (fun _ k => XS.iload X6.here hx rfl (hb hby d11_44) rfl k) ?_
      refine Go.step (fun _ k => XS.iload X6.here hx rfl (hb hby d11_46) rfl k) ?_
      refine Go.step (fun _ k => XS.icmpYes X6.here hx rfl (pc0 := 48) (pc' := 53) rfl (hb hby d11_48) rfl (feq (by decide : ¬ ((3 : Int32) = (4 : Int32)))).2 (by decide) (by decide) k) ?_
      show Go _ _ _ _ _ _ _ T6 (mkF m 53 #[.val (.ref a), .val (.int (3 : Int32)), .val (.int (fT 1)), .val (.int (3 : Int32)), .val (.int (3 : Int32)), .val (.int (4 : Int32)), .val (.int (fT 3)), .val (.int (2 : Int32))] [])
      refine Go.step (fun _ k => XS.iload X6.here hx rfl (hb hby d11_53) rfl k) ?_
      refine Go.step (fun _ k => XS.iload X6.here hx rfl (hb hby d11_55) rfl k) ?_
      refine Go.step (fun _ k => XS.iadd X6.here hx rfl (hb hby d11_57) rfl k) ?_
      show Go _ _ _ _ _ _ _ T6 (mkF m 58 #[.val (.ref a), .val (.int (3 : Int32)), .val (.int (fT 1)), .val (.int (3 : Int32)), .val (.int (3 : Int32)), .val (.int (4 : Int32)), .val (.int (fT 3)), .val (.int (2 : Int32))] [(.int (7 : Int32))])
      refine Go.step (fun _ k => XS.iconst X6.here hx rfl (hb hby d11_58) k) ?_
      refine Go.step (fun _ k => XS.iushr X6.here hx rfl (hb hby d11_59) rfl k) ?_
      show Go _ _ _ _ _ _ _ T6 (mkF m 60 #[.val (.ref a), .val (.int (3 : Int32)), .val (.int (fT 1)), .val (.int (3 : Int32)), .val (.int (3 : Int32)), .val (.int (4 : Int32)), .val (.int (fT 3)), .val (.int (2 : Int32))] [(.int (3 : Int32))])
      refine Go.step (fun _ k => XS.istore X6.here hx rfl (hb hby d11_60) rfl (l' := #[.val (.ref a), .val (.int (3 : Int32)), .val (.int (fT 1)), .val (.int (3 : Int32)), .val (.int (3 : Int32)), .val (.int (4 : Int32)), .val (.int (fT 3)), .val (.int (3 : Int32))]) rfl k) ?_
      show Go _ _ _ _ _ _ _ T6 (mkF m 62 #[.val (.ref a), .val (.int (3 : Int32)), .val (.int (fT 1)), .val (.int (3 : Int32)), .val (.int (3 : Int32)), .val (.int (4 : Int32)), .val (.int (fT 3)), .val (.int (3 : Int32))] [])
      refine Go.step (fun _ k => XS.iloadN X6.here hx rfl (hb hby d11_62) rfl k) ?_
      refine Go.step (fun _ k => XS.iload X6.here hx rfl (hb hby d11_63) rfl k) ?_
      refine Go.step (fun _ k => XS.icmpNo X6.here hx rfl (hb hby d11_65) rfl (flt (by decide : ¬ ((3 : Int32) < (3 : Int32)))).2.2.1 k) ?_
      show Go _ _ _ _ _ _ _ T6 (mkF m 68 #[.val (.ref a), .val (.int (3 : Int32)), .val (.int (fT 1)), .val (.int (3 : Int32)), .val (.int (3 : Int32)), .val (.int (4 : Int32)), .val (.int (fT 3)), .val (.int (3 : Int32))] [])
      refine Go.step (fun _ k => XS.iconst X6.here hx rfl (hb hby d11_68) k) ?_
      refine Go.step (fun _ k => XS.iloadN X6.here hx rfl (hb hby d11_69) rfl k) ?_
      refine Go.step (fun _ k => XS.imul X6.here hx rfl (hb hby d11_70) rfl k) ?_
      show Go _ _ _ _ _ _ _ T6 (mkF m 71 #[.val (.ref a), .val (.int (3 : Int32)), .val (.int (fT 1)), .val (.int (3 : Int32)), .val (.int (3 : Int32)), .val (.int (4 : Int32)), .val (.int (fT 3)), .val (.int (3 : Int32))] [(.int (6 : Int32))])
      refine Go.step (fun _ k => XS.istoreN X6.here hx rfl (hb hby d11_71) rfl (l' := #[.val (.ref a), .val (.int (3 : Int32)), .val (.int (fT 1)), .val (.int (6 : Int32)), .val (.int (3 : Int32)), .val (.int (4 : Int32)), .val (.int (fT 3)), .val (.int (3 : Int32))]) rfl k) ?_
      show Go _ _ _ _ _ _ _ T6 (mkF m 72 #[.val (.ref a), .val (.int (3 : Int32)), .val (.int (fT 1)), .val (.int (6 : Int32)), .val (.int (3 : Int32)), .val (.int (4 : Int32)), .val (.int (fT 3)), .val (.int (3 : Int32))] [])
      refine Go.step (fun _ k => XS.iload X6.here hx rfl (hb hby d11_72) rfl k) ?_
      refine Go.step (fun _ k => XS.istore X6.here hx rfl (hb hby d11_74) rfl (l' := #[.val (.ref a), .val (.int (3 : Int32)), .val (.int (fT 1)), .val (.int (6 : Int32)), .val (.int (3 : Int32)), .val (.int (3 : Int32)), .val (.int (fT 3)), .val (.int (3 : Int32))]) rfl k) ?_
      show Go _ _ _ _ _ _ _ T6 (mkF m 76 #[.val (.ref a), .val (.int (3 : Int32)), .val (.int (fT 1)), .val (.int (6 : Int32)), .val (.int (3 : Int32)), .val (.int (3 : Int32)), .val (.int (fT 3)), .val (.int (3 : Int32))] [])
      refine Go.step (fun _ k => XS.goto X6.here hx rfl (pc0 := 76) (pc' := 91) rfl (hb hby d11_76) (by decide) (by decide) k) ?_
      show Go _ _ _ _ _ _ _ T6 (mkF m 91 #[.val (.ref a), .val (.int (3 : Int32)), .val (.int (fT 1)), .val (.int (6 : Int32)), .val (.int (3 : Int32)), .val (.int (3 : Int32)), .val (.int (fT 3)), .val (.int (3 : Int32))] [])
      refine Go.step (fun _ k => XS.goto X6.here hx rfl (pc0 := 91) (pc' := 13) rfl (hb hby d11_91) (by decide) (by decide) k) ?_
      show Go _ _ _ _ _ _ _ T6 (mkF m 13 #[.val (.ref a), .val (.int (3 : Int32)), .val (.int (fT 1)), .val (.int (6 : Int32)), .val (.int (3 : Int32)), .val (.int (3 : Int32)), .val (.int (fT 3)), .val (.int (3 : Int32))] [])
      refine Go.step (fun _ k => XS.aloadN X6.here hx rfl (hb hby d11_13) rfl rfl k) ?_
      obtain ⟨T8, X8, e8, st8⟩ := getF X6 hx hZ hown (host := "") (Or.inl (hw _ (mI 36 rfl))) Via.refl hh6 F_node_a_0 (g := (mkF m 14 #[.val (.ref a), .val (.int (3 : Int32)), .val (.int (fT 1)), .val (.int (6 : Int32)), .val (.int (3 : Int32)), .val (.int (3 : Int32)), .val (.int (fT 3)), .val (.int (3 : Int32))] [(.ref a)])) rfl rfl (hb hby d11_14)
      refine Go.step st8 ?_
      show Go _ _ _ _ _ _ _ T8 (mkF m 17 #[.val (.ref a), .val (.int (3 : Int32)), .val (.int (fT 1)), .val (.int (6 : Int32)), .val (.int (3 : Int32)), .val (.int (3 : Int32)), .val (.int (fT 3)), .val (.int (3 : Int32))] [(.ref xt)])
      refine Go.step (fun _ k => XS.iloadN X8.here hx rfl (hb hby d11_17) rfl k) ?_
      refine Go.iaload X8 hx hZ e8 V_xt_0 (j := (6 : Int32)) (v := (fT 6)) (by decide) rfl (hb hby d11_18) ?_
      show Go _ _ _ _ _ _ _ T8 (mkF m 19 #[.val (.ref a), .val (.int (3 : Int32)), .val (.int (fT 1)), .val (.int (6 : Int32)), .val (.int (3 : Int32)), .val (.int (3 : Int32)), .val (.int (fT 3)), .val (.int (3 : Int32))] [(.int (fT 6))])
      refine Go.step (fun _ k => XS.istore X8.here hx rfl (hb hby d11_19) rfl (l' := #[.val (.ref a), .val (.int (3 : Int32)), .val (.int (fT 1)), .val (.int (6 : Int32)), .val (.int (3 : Int32)), .val (.int (3 : Int32)), .val (.int (fT 6)), .val (.int (3 : Int32))]) rfl k) ?_
      show Go _ _ _ _ _ _ _ T8 (mkF m 21 #[.val (.ref a), .val (.int (3 : Int32)), .val (.int (fT 1)), .val (.int (6 : Int32)), .val (.int (3 : Int32)), .val (.int (3 : Int32)), .val (.int (fT 6)), .val (.int (3 : Int32))] [])
      refine Go.step (fun _ k => XS.iload X8.here hx rfl (hb hby d11_21) rfl k) ?_
      refine Go.step (fun _ k => XS.ifYes X8.here hx rfl (pc0 := 23) (pc' := 44) rfl (hb hby d11_23) rfl ((if0 _ _).trans (teq hLf.2.2.1).1) (by decide) (by decide) k) ?_
      show Go _ _ _ _ _ _ _ T8 (mkF m 44 #[.val (.ref a), .val (.int (3 : Int32)), .val (.int (fT 1)), .val (.int (6 : Int32)), .val (.int (3 : Int32)), .val (.int (3 : Int32)), .val (.int (fT 6)), .val (.int (3 : Int32))] [])
      refine Go.step (fun _ k => XS.iload X8.here hx rfl (hb hby d11_44) rfl k) ?_
      refine Go.step (fun _ k => XS.iload X8.here hx rfl (hb hby d11_46) rfl k) ?_
      refine Go.step (fun _ k => XS.icmpNo X8.here hx rfl (hb hby d11_48) rfl (teq (by decide : (3 : Int32) = (3 : Int32))).2 k) ?_
      show Go _ _ _ _ _ _ _ T8 (mkF m 51 #[.val (.ref a), .val (.int (3 : Int32)), .val (.int (fT 1)), .val (.int (6 : Int32)), .val (.int (3 : Int32)), .val (.int (3 : Int32)), .val (.int (fT 6)), .val (.int (3 : Int32))] [])
      refine Go.step (fun _ k => XS.iloadN X8.here hx rfl (hb hby d11_51) rfl k) ?_
      refine Go.retI X8 hx hlk hret (hb hby d11_52) (by decide) (by decide) ?_
      try rw [e8]
      exact ⟨by simp only [lowestW]; rw [if_neg hc23_4, if_pos hc38_7], N6, rfl⟩
    · refine Go.step (fun _ k => XS.ifNo X6.here hx rfl (hb hby d11_38) rfl ((if0 _ _).trans (feq hc38_7).1) k) ?_
      show Go _ _ _ _ _ _ _ T6 (mkF m 41 #[.val (.ref a), .val (.int (3 : Int32)), .val (.int (fT 1)), .val (.int (3 : Int32)), .val (.int (3 : Int32)), .val (.int (4 : Int32)), .val (.int (fT 3)), .val (.int (2 : Int32))] [])
      refine Go.step (fun _ k => XS.iload X6.here hx rfl (hb hby d11_41) rfl k) ?_
      refine Go.step (fun _ k => XS.istoreN X6.here hx rfl (hb hby d11_43) rfl (l' := #[.val (.ref a), .val (.int (3 : Int32)), .val (.int (fT 3)), .val (.int (3 : Int32)), .val (.int (3 : Int32)), .val (.int (4 : Int32)), .val (.int (fT 3)), .val (.int (2 : Int32))]) rfl k) ?_
      show Go _ _ _ _ _ _ _ T6 (mkF m 44 #[.val (.ref a), .val (.int (3 : Int32)), .val (.int (fT 3)), .val (.int (3 : Int32)), .val (.int (3 : Int32)), .val (.int (4 : Int32)), .val (.int (fT 3)), .val (.int (2 : Int32))] [])
      refine Go.step (fun _ k => XS.iload X6.here hx rfl (hb hby d11_44) rfl k) ?_
      refine Go.step (fun _ k => XS.iload X6.here hx rfl (hb hby d11_46) rfl k) ?_
      refine Go.step (fun _ k => XS.icmpYes X6.here hx rfl (pc0 := 48) (pc' := 53) rfl (hb hby d11_48) rfl (feq (by decide : ¬ ((3 : Int32) = (4 : Int32)))).2 (by decide) (by decide) k) ?_
      show Go _ _ _ _ _ _ _ T6 (mkF m 53 #[.val (.ref a), .val (.int (3 : Int32)), .val (.int (fT 3)), .val (.int (3 : Int32)), .val (.int (3 : Int32)), .val (.int (4 : Int32)), .val (.int (fT 3)), .val (.int (2 : Int32))] [])
      refine Go.step (fun _ k => XS.iload X6.here hx rfl (hb hby d11_53) rfl k) ?_
      refine Go.step (fun _ k => XS.iload X6.here hx rfl (hb hby d11_55) rfl k) ?_
      refine Go.step (fun _ k => XS.iadd X6.here hx rfl (hb hby d11_57) rfl k) ?_
      show Go _ _ _ _ _ _ _ T6 (mkF m 58 #[.val (.ref a), .val (.int (3 : Int32)), .val (.int (fT 3)), .val (.int (3 : Int32)), .val (.int (3 : Int32)), .val (.int (4 : Int32)), .val (.int (fT 3)), .val (.int (2 : Int32))] [(.int (7 : Int32))])
      refine Go.step (fun _ k => XS.iconst X6.here hx rfl (hb hby d11_58) k) ?_
      refine Go.step (fun _ k => XS.iushr X6.here hx rfl (hb hby d11_59) rfl k) ?_
      show Go _ _ _ _ _ _ _ T6 (mkF m 60 #[.val (.ref a), .val (.int (3 : Int32)), .val (.int (fT 3)), .val (.int (3 : Int32)), .val (.int (3 : Int32)), .val (.int (4 : Int32)), .val (.int (fT 3)), .val (.int (2 : Int32))] [(.int (3 : Int32))])
      refine Go.step (fun _ k => XS.istore X6.here hx rfl (hb hby d11_60) rfl (l' := #[.val (.ref a), .val (.int (3 : Int32)), .val (.int (fT 3)), .val (.int (3 : Int32)), .val (.int (3 : Int32)), .val (.int (4 : Int32)), .val (.int (fT 3)), .val (.int (3 : Int32))]) rfl k) ?_
      show Go _ _ _ _ _ _ _ T6 (mkF m 62 #[.val (.ref a), .val (.int (3 : Int32)), .val (.int (fT 3)), .val (.int (3 : Int32)), .val (.int (3 : Int32)), .val (.int (4 : Int32)), .val (.int (fT 3)), .val (.int (3 : Int32))] [])
      refine Go.step (fun _ k => XS.iloadN X6.here hx rfl (hb hby d11_62) rfl k) ?_
      refine Go.step (fun _ k => XS.iload X6.here hx rfl (hb hby d11_63) rfl k) ?_
      refine Go.step (fun _ k => XS.icmpNo X6.here hx rfl (hb hby d11_65) rfl (flt (by decide : ¬ ((3 : Int32) < (3 : Int32)))).2.2.1 k) ?_
      show Go _ _ _ _ _ _ _ T6 (mkF m 68 #[.val (.ref a), .val (.int (3 : Int32)), .val (.int (fT 3)), .val (.int (3 : Int32)), .val (.int (3 : Int32)), .val (.int (4 : Int32)), .val (.int (fT 3)), .val (.int (3 : Int32))] [])
      refine Go.step (fun _ k => XS.iconst X6.here hx rfl (hb hby d11_68) k) ?_
      refine Go.step (fun _ k => XS.iloadN X6.here hx rfl (hb hby d11_69) rfl k) ?_
      refine Go.step (fun _ k => XS.imul X6.here hx rfl (hb hby d11_70) rfl k) ?_
      show Go _ _ _ _ _ _ _ T6 (mkF m 71 #[.val (.ref a), .val (.int (3 : Int32)), .val (.int (fT 3)), .val (.int (3 : Int32)), .val (.int (3 : Int32)), .val (.int (4 : Int32)), .val (.int (fT 3)), .val (.int (3 : Int32))] [(.int (6 : Int32))])
      refine Go.step (fun _ k => XS.istoreN X6.here hx rfl (hb hby d11_71) rfl (l' := #[.val (.ref a), .val (.int (3 : Int32)), .val (.int (fT 3)), .val (.int (6 : Int32)), .val (.int (3 : Int32)), .val (.int (4 : Int32)), .val (.int (fT 3)), .val (.int (3 : Int32))]) rfl k) ?_
      show Go _ _ _ _ _ _ _ T6 (mkF m 72 #[.val (.ref a), .val (.int (3 : Int32)), .val (.int (fT 3)), .val (.int (6 : Int32)), .val (.int (3 : Int32)), .val (.int (4 : Int32)), .val (.int (fT 3)), .val (.int (3 : Int32))] [])
      refine Go.step (fun _ k => XS.iload X6.here hx rfl (hb hby d11_72) rfl k) ?_
      refine Go.step (fun _ k => XS.istore X6.here hx rfl (hb hby d11_74) rfl (l' := #[.val (.ref a), .val (.int (3 : Int32)), .val (.int (fT 3)), .val (.int (6 : Int32)), .val (.int (3 : Int32)), .val (.int (3 : Int32)), .val (.int (fT 3)), .val (.int (3 : Int32))]) rfl k) ?_
      show Go _ _ _ _ _ _ _ T6 (mkF m 76 #[.val (.ref a), .val (.int (3 : Int32)), .val (.int (fT 3)), .val (.int (6 : Int32)), .val (.int (3 : Int32)), .val (.int (3 : Int32)), .val (.int (fT 3)), .val (.int (3 : Int32))] [])
      refine Go.step (fun _ k => XS.goto X6.here hx rfl (pc0 := 76) (pc' := 91) rfl (hb hby d11_76) (by decide) (by decide) k) ?_
      show Go _ _ _ _ _ _ _ T6 (mkF m 91 #[.val (.ref a), .val (.int (3 : Int32)), .val (.int (fT 3)), .val (.int (6 : Int32)), .val (.int (3 : Int32)), .val (.int (3 : Int32)), .val (.int (fT 3)), .val (.int (3 : Int32))] [])
      refine Go.step (fun _ k => XS.goto X6.here hx rfl (pc0 := 91) (pc' := 13) rfl (hb hby d11_91) (by decide) (by decide) k) ?_
      show Go _ _ _ _ _ _ _ T6 (mkF m 13 #[.val (.ref a), .val (.int (3 : Int32)), .val (.int (fT 3)), .val (.int (6 : Int32)), .val (.int (3 : Int32)), .val (.int (3 : Int32)), .val (.int (fT 3)), .val (.int (3 : Int32))] [])
      refine Go.step (fun _ k => XS.aloadN X6.here hx rfl (hb hby d11_13) rfl rfl k) ?_
      obtain ⟨T9, X9, e9, st9⟩ := getF X6 hx hZ hown (host := "") (Or.inl (hw _ (mI 36 rfl))) Via.refl hh6 F_node_a_0 (g := (mkF m 14 #[.val (.ref a), .val (.int (3 : Int32)), .val (.int (fT 3)), .val (.int (6 : Int32)), .val (.int (3 : Int32)), .val (.int (3 : Int32)), .val (.int (fT 3)), .val (.int (3 : Int32))] [(.ref a)])) rfl rfl (hb hby d11_14)
      refine Go.step st9 ?_
      show Go _ _ _ _ _ _ _ T9 (mkF m 17 #[.val (.ref a), .val (.int (3 : Int32)), .val (.int (fT 3)), .val (.int (6 : Int32)), .val (.int (3 : Int32)), .val (.int (3 : Int32)), .val (.int (fT 3)), .val (.int (3 : Int32))] [(.ref xt)])
      refine Go.step (fun _ k => XS.iloadN X9.here hx rfl (hb hby d11_17) rfl k) ?_
      refine Go.iaload X9 hx hZ e9 V_xt_0 (j := (6 : Int32)) (v := (fT 6)) (by decide) rfl (hb hby d11_18) ?_
      show Go _ _ _ _ _ _ _ T9 (mkF m 19 #[.val (.ref a), .val (.int (3 : Int32)), .val (.int (fT 3)), .val (.int (6 : Int32)), .val (.int (3 : Int32)), .val (.int (3 : Int32)), .val (.int (fT 3)), .val (.int (3 : Int32))] [(.int (fT 6))])
      refine Go.step (fun _ k => XS.istore X9.here hx rfl (hb hby d11_19) rfl (l' := #[.val (.ref a), .val (.int (3 : Int32)), .val (.int (fT 3)), .val (.int (6 : Int32)), .val (.int (3 : Int32)), .val (.int (3 : Int32)), .val (.int (fT 6)), .val (.int (3 : Int32))]) rfl k) ?_
      show Go _ _ _ _ _ _ _ T9 (mkF m 21 #[.val (.ref a), .val (.int (3 : Int32)), .val (.int (fT 3)), .val (.int (6 : Int32)), .val (.int (3 : Int32)), .val (.int (3 : Int32)), .val (.int (fT 6)), .val (.int (3 : Int32))] [])
      refine Go.step (fun _ k => XS.iload X9.here hx rfl (hb hby d11_21) rfl k) ?_
      refine Go.step (fun _ k => XS.ifYes X9.here hx rfl (pc0 := 23) (pc' := 44) rfl (hb hby d11_23) rfl ((if0 _ _).trans (teq hLf.2.2.1).1) (by decide) (by decide) k) ?_
      show Go _ _ _ _ _ _ _ T9 (mkF m 44 #[.val (.ref a), .val (.int (3 : Int32)), .val (.int (fT 3)), .val (.int (6 : Int32)), .val (.int (3 : Int32)), .val (.int (3 : Int32)), .val (.int (fT 6)), .val (.int (3 : Int32))] [])
      refine Go.step (fun _ k => XS.iload X9.here hx rfl (hb hby d11_44) rfl k) ?_
      refine Go.step (fun _ k => XS.iload X9.here hx rfl (hb hby d11_46) rfl k) ?_
      refine Go.step (fun _ k => XS.icmpNo X9.here hx rfl (hb hby d11_48) rfl (teq (by decide : (3 : Int32) = (3 : Int32))).2 k) ?_
      show Go _ _ _ _ _ _ _ T9 (mkF m 51 #[.val (.ref a), .val (.int (3 : Int32)), .val (.int (fT 3)), .val (.int (6 : Int32)), .val (.int (3 : Int32)), .val (.int (3 : Int32)), .val (.int (fT 6)), .val (.int (3 : Int32))] [])
      refine Go.step (fun _ k => XS.iloadN X9.here hx rfl (hb hby d11_51) rfl k) ?_
      refine Go.retI X9 hx hlk hret (hb hby d11_52) (by decide) (by decide) ?_
      try rw [e9]
      exact ⟨by simp only [lowestW]; rw [if_neg hc23_4, if_neg hc38_7], N6, rfl⟩
theorem ef_rm11_3 (m : MethodId) (a : Addr) : entryFrame m #[(.ref a), (.int (3 : Int32))] 8 = mkF m 0 #[.val (.ref a), .val (.int (3 : Int32)), .unset, .unset, .unset, .unset, .unset, .unset] [] := by first | (simp [entryFrame, mkF, argsToLocals, Value.category]; done) | rfl
theorem rm11_3 (l : Launch) (Z : State) (a0 : Array Value) (hw : ∀ d ∈ tables_1, d.before a0 Z = true) (a xn xo xu xv xw xt xm : Addr) (fP fQ fC fT fM fN fO : Nat → Int32) (dd ss : Nat) (h0 : Heap) (n0 : Nat) (Z0 : n0 ≤ h0.size) (hL : LEs Z h0 a xn xo xu xv xw xt xm fP fQ fC fT fM fN fO dd ss) (hP : Sm fP) (hQ : Sm fQ) (hC : Sm fC) (hR : Rng fT) (hLf : Lf fT) (hr : ¬ fT 1 = (0 : Int32)) :
    Con l Z (⟨"com/example/headroom/headroom/LowerEnvelope", "lowest", "(I)I"⟩ : MethodName) prog_15_method_4_code 8 (some .int) ({ frames := 1, cells := 0, slots := 0, locals := 24 } : Room) #[(.ref a), (.int (3 : Int32))] h0 (fun r h L => r = some (.int (lowestW fP fQ fC fT 3 (3 : Int32))) ∧ Fr n0 L ∧ h = h0) :=
  con_of (plainFor_of_name pn_9) (fun p_ e_ s_ m_ b_ meth_ c_ T_ X_ hx hZ hby hml hown hnm hret hlk e0 => Go.cast (ef_rm11_3 m_ a) (w11_3 a xn xo xu xv xw xt xm fP fQ fC fT fM fN fO dd ss X_ hx hZ hw hby hml hown hnm hret hlk e0 Z0 (Fr.nil n0) hL hP hQ hC hR hLf hr))
set_option maxRecDepth 65536 in
set_option maxHeartbeats 40000000 in
theorem w11_4 {p : Program} {l : Launch} {e : Env} {s : State} {m : MethodId} {args : Array Value} {below : List Frame} {meth : Method} {c_ : Code} {T0 : State} {locs : List Loc} {Z : State} {a0 : Array Value} {h0 : Heap} {n0 : Nat} (a xn xo xu xv xw xt xm : Addr) (fP fQ fC fT fM fN fO : Nat → Int32) (dd ss : Nat)
    (X0 : Stand p l e ({ frames := 1, cells := 0, slots := 0, locals := 24 } : Room) s m args below meth c_ T0 locs 0 0) (hx : p.tables.exec = Jvm.exec) (hZ : Z.Warmed39 s.vm) (hw : ∀ d ∈ tables_1, d.before a0 Z = true) (hby : c_.code = prog_15_method_4_code) (hml : c_.maxLocals = 8) (hown : s.vm.findClass "com/example/headroom/headroom/LowerEnvelope" = some m.cls) (hnm : meth.name = "lowest") (hret : meth.sig.returnType = some .int) (hlk : meth.locks = false) (e0 : T0.heap = h0) (Z0 : n0 ≤ h0.size) (N0 : Fr n0 locs) (hL : LEs Z h0 a xn xo xu xv xw xt xm fP fQ fC fT fM fN fO dd ss) (hP : Sm fP) (hQ : Sm fQ) (hC : Sm fC) (hR : Rng fT) (hLf : Lf fT) (hr : ¬ fT 1 = (0 : Int32)) :
    Go p e below s ({ frames := 1, cells := 0, slots := 0, locals := 24 } : Room).cells ({ frames := 1, cells := 0, slots := 0, locals := 24 } : Room).slots (fun r h L => r = some (.int (lowestW fP fQ fC fT 3 (4 : Int32))) ∧ Fr n0 L ∧ h = h0) T0 (mkF m 0 #[.val (.ref a), .val (.int (4 : Int32)), .unset, .unset, .unset, .unset, .unset, .unset] []) := by
  obtain ⟨E_a_0, F_changedNode_a_0, F_changedLine_a_0, F_base_a_0, F_slope_a_0, F_origin_a_0, F_node_a_0, F_pushedAt_a_0, F_width_a_0, F_pushes_a_0, F_changes_a_0, V_xn_0, V_xo_0, V_xu_0, V_xv_0, V_xw_0, V_xt_0, V_xm_0⟩ := hL
  show Go _ _ _ _ _ _ _ T0 (mkF m 0 #[.val (.ref a), .val (.int (4 : Int32)), .unset, .unset, .unset, .unset, .unset, .unset] [])
  refine Go.step (fun _ k => XS.iconst X0.here hx rfl (hb hby d11_0) k) ?_
  refine Go.step (fun _ k => XS.istoreN X0.here hx rfl (hb hby d11_1) rfl (l' := #[.val (.ref a), .val (.int (4 : Int32)), .val (.int (0 : Int32)), .unset, .unset, .unset, .unset, .unset]) rfl k) ?_
  show Go _ _ _ _ _ _ _ T0 (mkF m 2 #[.val (.ref a), .val (.int (4 : Int32)), .val (.int (0 : Int32)), .unset, .unset, .unset, .unset, .unset] [])
  refine Go.step (fun _ k => XS.iconst X0.here hx rfl (hb hby d11_2) k) ?_
  refine Go.step (fun _ k => XS.istoreN X0.here hx rfl (hb hby d11_3) rfl (l' := #[.val (.ref a), .val (.int (4 : Int32)), .val (.int (0 : Int32)), .val (.int (1 : Int32)), .unset, .unset, .unset, .unset]) rfl k) ?_
  show Go _ _ _ _ _ _ _ T0 (mkF m 4 #[.val (.ref a), .val (.int (4 : Int32)), .val (.int (0 : Int32)), .val (.int (1 : Int32)), .unset, .unset, .unset, .unset] [])
  refine Go.step (fun _ k => XS.iconst X0.here hx rfl (hb hby d11_4) k) ?_
  refine Go.step (fun _ k => XS.istore X0.here hx rfl (hb hby d11_5) rfl (l' := #[.val (.ref a), .val (.int (4 : Int32)), .val (.int (0 : Int32)), .val (.int (1 : Int32)), .val (.int (1 : Int32)), .unset, .unset, .unset]) rfl k) ?_
  show Go _ _ _ _ _ _ _ T0 (mkF m 7 #[.val (.ref a), .val (.int (4 : Int32)), .val (.int (0 : Int32)), .val (.int (1 : Int32)), .val (.int (1 : Int32)), .unset, .unset, .unset] [])
  refine Go.step (fun _ k => XS.aloadN X0.here hx rfl (hb hby d11_7) rfl rfl k) ?_
  obtain ⟨T1, X1, e1, st1⟩ := getF X0 hx hZ hown (host := "") (Or.inl (hw _ (mI 27 rfl))) Via.refl e0 F_width_a_0 (g := (mkF m 8 #[.val (.ref a), .val (.int (4 : Int32)), .val (.int (0 : Int32)), .val (.int (1 : Int32)), .val (.int (1 : Int32)), .unset, .unset, .unset] [(.ref a)])) rfl rfl (hb hby d11_8)
  refine Go.step st1 ?_
  show Go _ _ _ _ _ _ _ T1 (mkF m 11 #[.val (.ref a), .val (.int (4 : Int32)), .val (.int (0 : Int32)), .val (.int (1 : Int32)), .val (.int (1 : Int32)), .unset, .unset, .unset] [(.int (4 : Int32))])
  refine Go.step (fun _ k => XS.istore X1.here hx rfl (hb hby d11_11) rfl (l' := #[.val (.ref a), .val (.int (4 : Int32)), .val (.int (0 : Int32)), .val (.int (1 : Int32)), .val (.int (1 : Int32)), .val (.int (4 : Int32)), .unset, .unset]) rfl k) ?_
  show Go _ _ _ _ _ _ _ T1 (mkF m 13 #[.val (.ref a), .val (.int (4 : Int32)), .val (.int (0 : Int32)), .val (.int (1 : Int32)), .val (.int (1 : Int32)), .val (.int (4 : Int32)), .unset, .unset] [])
  refine Go.step (fun _ k => XS.aloadN X1.here hx rfl (hb hby d11_13) rfl rfl k) ?_
  obtain ⟨T2, X2, e2, st2⟩ := getF X1 hx hZ hown (host := "") (Or.inl (hw _ (mI 36 rfl))) Via.refl e1 F_node_a_0 (g := (mkF m 14 #[.val (.ref a), .val (.int (4 : Int32)), .val (.int (0 : Int32)), .val (.int (1 : Int32)), .val (.int (1 : Int32)), .val (.int (4 : Int32)), .unset, .unset] [(.ref a)])) rfl rfl (hb hby d11_14)
  refine Go.step st2 ?_
  show Go _ _ _ _ _ _ _ T2 (mkF m 17 #[.val (.ref a), .val (.int (4 : Int32)), .val (.int (0 : Int32)), .val (.int (1 : Int32)), .val (.int (1 : Int32)), .val (.int (4 : Int32)), .unset, .unset] [(.ref xt)])
  refine Go.step (fun _ k => XS.iloadN X2.here hx rfl (hb hby d11_17) rfl k) ?_
  refine Go.iaload X2 hx hZ e2 V_xt_0 (j := (1 : Int32)) (v := (fT 1)) (by decide) rfl (hb hby d11_18) ?_
  show Go _ _ _ _ _ _ _ T2 (mkF m 19 #[.val (.ref a), .val (.int (4 : Int32)), .val (.int (0 : Int32)), .val (.int (1 : Int32)), .val (.int (1 : Int32)), .val (.int (4 : Int32)), .unset, .unset] [(.int (fT 1))])
  refine Go.step (fun _ k => XS.istore X2.here hx rfl (hb hby d11_19) rfl (l' := #[.val (.ref a), .val (.int (4 : Int32)), .val (.int (0 : Int32)), .val (.int (1 : Int32)), .val (.int (1 : Int32)), .val (.int (4 : Int32)), .val (.int (fT 1)), .unset]) rfl k) ?_
  show Go _ _ _ _ _ _ _ T2 (mkF m 21 #[.val (.ref a), .val (.int (4 : Int32)), .val (.int (0 : Int32)), .val (.int (1 : Int32)), .val (.int (1 : Int32)), .val (.int (4 : Int32)), .val (.int (fT 1)), .unset] [])
  refine Go.step (fun _ k => XS.iload X2.here hx rfl (hb hby d11_21) rfl k) ?_
  refine Go.step (fun _ k => XS.ifNo X2.here hx rfl (hb hby d11_23) rfl ((if0 _ _).trans (feq hr).1) k) ?_
  show Go _ _ _ _ _ _ _ T2 (mkF m 26 #[.val (.ref a), .val (.int (4 : Int32)), .val (.int (0 : Int32)), .val (.int (1 : Int32)), .val (.int (1 : Int32)), .val (.int (4 : Int32)), .val (.int (fT 1)), .unset] [])
  refine Go.step (fun _ k => XS.iloadN X2.here hx rfl (hb hby d11_26) rfl k) ?_
  refine Go.step (fun _ k => XS.ifYes X2.here hx rfl (pc0 := 27) (pc' := 41) rfl (hb hby d11_27) rfl ((if0 _ _).trans (teq (by decide : (0 : Int32) = (0 : Int32))).1) (by decide) (by decide) k) ?_
  show Go _ _ _ _ _ _ _ T2 (mkF m 41 #[.val (.ref a), .val (.int (4 : Int32)), .val (.int (0 : Int32)), .val (.int (1 : Int32)), .val (.int (1 : Int32)), .val (.int (4 : Int32)), .val (.int (fT 1)), .unset] [])
  refine Go.step (fun _ k => XS.iload X2.here hx rfl (hb hby d11_41) rfl k) ?_
  refine Go.step (fun _ k => XS.istoreN X2.here hx rfl (hb hby d11_43) rfl (l' := #[.val (.ref a), .val (.int (4 : Int32)), .val (.int (fT 1)), .val (.int (1 : Int32)), .val (.int (1 : Int32)), .val (.int (4 : Int32)), .val (.int (fT 1)), .unset]) rfl k) ?_
  show Go _ _ _ _ _ _ _ T2 (mkF m 44 #[.val (.ref a), .val (.int (4 : Int32)), .val (.int (fT 1)), .val (.int (1 : Int32)), .val (.int (1 : Int32)), .val (.int (4 : Int32)), .val (.int (fT 1)), .unset] [])
  refine Go.step (fun _ k => XS.iload X2.here hx rfl (hb hby d11_44) rfl k) ?_
  refine Go.step (fun _ k => XS.iload X2.here hx rfl (hb hby d11_46) rfl k) ?_
  refine Go.step (fun _ k => XS.icmpYes X2.here hx rfl (pc0 := 48) (pc' := 53) rfl (hb hby d11_48) rfl (feq (by decide : ¬ ((1 : Int32) = (4 : Int32)))).2 (by decide) (by decide) k) ?_
  show Go _ _ _ _ _ _ _ T2 (mkF m 53 #[.val (.ref a), .val (.int (4 : Int32)), .val (.int (fT 1)), .val (.int (1 : Int32)), .val (.int (1 : Int32)), .val (.int (4 : Int32)), .val (.int (fT 1)), .unset] [])
  refine Go.step (fun _ k => XS.iload X2.here hx rfl (hb hby d11_53) rfl k) ?_
  refine Go.step (fun _ k => XS.iload X2.here hx rfl (hb hby d11_55) rfl k) ?_
  refine Go.step (fun _ k => XS.iadd X2.here hx rfl (hb hby d11_57) rfl k) ?_
  show Go _ _ _ _ _ _ _ T2 (mkF m 58 #[.val (.ref a), .val (.int (4 : Int32)), .val (.int (fT 1)), .val (.int (1 : Int32)), .val (.int (1 : Int32)), .val (.int (4 : Int32)), .val (.int (fT 1)), .unset] [(.int (5 : Int32))])
  refine Go.step (fun _ k => XS.iconst X2.here hx rfl (hb hby d11_58) k) ?_
  refine Go.step (fun _ k => XS.iushr X2.here hx rfl (hb hby d11_59) rfl k) ?_
  show Go _ _ _ _ _ _ _ T2 (mkF m 60 #[.val (.ref a), .val (.int (4 : Int32)), .val (.int (fT 1)), .val (.int (1 : Int32)), .val (.int (1 : Int32)), .val (.int (4 : Int32)), .val (.int (fT 1)), .unset] [(.int (2 : Int32))])
  refine Go.step (fun _ k => XS.istore X2.here hx rfl (hb hby d11_60) rfl (l' := #[.val (.ref a), .val (.int (4 : Int32)), .val (.int (fT 1)), .val (.int (1 : Int32)), .val (.int (1 : Int32)), .val (.int (4 : Int32)), .val (.int (fT 1)), .val (.int (2 : Int32))]) rfl k) ?_
  show Go _ _ _ _ _ _ _ T2 (mkF m 62 #[.val (.ref a), .val (.int (4 : Int32)), .val (.int (fT 1)), .val (.int (1 : Int32)), .val (.int (1 : Int32)), .val (.int (4 : Int32)), .val (.int (fT 1)), .val (.int (2 : Int32))] [])
  refine Go.step (fun _ k => XS.iloadN X2.here hx rfl (hb hby d11_62) rfl k) ?_
  refine Go.step (fun _ k => XS.iload X2.here hx rfl (hb hby d11_63) rfl k) ?_
  refine Go.step (fun _ k => XS.icmpYes X2.here hx rfl (pc0 := 65) (pc' := 79) rfl (hb hby d11_65) rfl (tlt (by decide : (2 : Int32) < (4 : Int32))).2.2.1 (by decide) (by decide) k) ?_
  show Go _ _ _ _ _ _ _ T2 (mkF m 79 #[.val (.ref a), .val (.int (4 : Int32)), .val (.int (fT 1)), .val (.int (1 : Int32)), .val (.int (1 : Int32)), .val (.int (4 : Int32)), .val (.int (fT 1)), .val (.int (2 : Int32))] [])
  refine Go.step (fun _ k => XS.iconst X2.here hx rfl (hb hby d11_79) k) ?_
  refine Go.step (fun _ k => XS.iloadN X2.here hx rfl (hb hby d11_80) rfl k) ?_
  refine Go.step (fun _ k => XS.imul X2.here hx rfl (hb hby d11_81) rfl k) ?_
  show Go _ _ _ _ _ _ _ T2 (mkF m 82 #[.val (.ref a), .val (.int (4 : Int32)), .val (.int (fT 1)), .val (.int (1 : Int32)), .val (.int (1 : Int32)), .val (.int (4 : Int32)), .val (.int (fT 1)), .val (.int (2 : Int32))] [(.int (2 : Int32))])
  refine Go.step (fun _ k => XS.iconst X2.here hx rfl (hb hby d11_82) k) ?_
  refine Go.step (fun _ k => XS.iadd X2.here hx rfl (hb hby d11_83) rfl k) ?_
  show Go _ _ _ _ _ _ _ T2 (mkF m 84 #[.val (.ref a), .val (.int (4 : Int32)), .val (.int (fT 1)), .val (.int (1 : Int32)), .val (.int (1 : Int32)), .val (.int (4 : Int32)), .val (.int (fT 1)), .val (.int (2 : Int32))] [(.int (3 : Int32))])
  refine Go.step (fun _ k => XS.istoreN X2.here hx rfl (hb hby d11_84) rfl (l' := #[.val (.ref a), .val (.int (4 : Int32)), .val (.int (fT 1)), .val (.int (3 : Int32)), .val (.int (1 : Int32)), .val (.int (4 : Int32)), .val (.int (fT 1)), .val (.int (2 : Int32))]) rfl k) ?_
  show Go _ _ _ _ _ _ _ T2 (mkF m 85 #[.val (.ref a), .val (.int (4 : Int32)), .val (.int (fT 1)), .val (.int (3 : Int32)), .val (.int (1 : Int32)), .val (.int (4 : Int32)), .val (.int (fT 1)), .val (.int (2 : Int32))] [])
  refine Go.step (fun _ k => XS.iload X2.here hx rfl (hb hby d11_85) rfl k) ?_
  refine Go.step (fun _ k => XS.iconst X2.here hx rfl (hb hby d11_87) k) ?_
  refine Go.step (fun _ k => XS.iadd X2.here hx rfl (hb hby d11_88) rfl k) ?_
  show Go _ _ _ _ _ _ _ T2 (mkF m 89 #[.val (.ref a), .val (.int (4 : Int32)), .val (.int (fT 1)), .val (.int (3 : Int32)), .val (.int (1 : Int32)), .val (.int (4 : Int32)), .val (.int (fT 1)), .val (.int (2 : Int32))] [(.int (3 : Int32))])
  refine Go.step (fun _ k => XS.istore X2.here hx rfl (hb hby d11_89) rfl (l' := #[.val (.ref a), .val (.int (4 : Int32)), .val (.int (fT 1)), .val (.int (3 : Int32)), .val (.int (3 : Int32)), .val (.int (4 : Int32)), .val (.int (fT 1)), .val (.int (2 : Int32))]) rfl k) ?_
  show Go _ _ _ _ _ _ _ T2 (mkF m 91 #[.val (.ref a), .val (.int (4 : Int32)), .val (.int (fT 1)), .val (.int (3 : Int32)), .val (.int (3 : Int32)), .val (.int (4 : Int32)), .val (.int (fT 1)), .val (.int (2 : Int32))] [])
  refine Go.step (fun _ k => XS.goto X2.here hx rfl (pc0 := 91) (pc' := 13) rfl (hb hby d11_91) (by decide) (by decide) k) ?_
  show Go _ _ _ _ _ _ _ T2 (mkF m 13 #[.val (.ref a), .val (.int (4 : Int32)), .val (.int (fT 1)), .val (.int (3 : Int32)), .val (.int (3 : Int32)), .val (.int (4 : Int32)), .val (.int (fT 1)), .val (.int (2 : Int32))] [])
  refine Go.step (fun _ k => XS.aloadN X2.here hx rfl (hb hby d11_13) rfl rfl k) ?_
  obtain ⟨T3, X3, e3, st3⟩ := getF X2 hx hZ hown (host := "") (Or.inl (hw _ (mI 36 rfl))) Via.refl e2 F_node_a_0 (g := (mkF m 14 #[.val (.ref a), .val (.int (4 : Int32)), .val (.int (fT 1)), .val (.int (3 : Int32)), .val (.int (3 : Int32)), .val (.int (4 : Int32)), .val (.int (fT 1)), .val (.int (2 : Int32))] [(.ref a)])) rfl rfl (hb hby d11_14)
  refine Go.step st3 ?_
  show Go _ _ _ _ _ _ _ T3 (mkF m 17 #[.val (.ref a), .val (.int (4 : Int32)), .val (.int (fT 1)), .val (.int (3 : Int32)), .val (.int (3 : Int32)), .val (.int (4 : Int32)), .val (.int (fT 1)), .val (.int (2 : Int32))] [(.ref xt)])
  refine Go.step (fun _ k => XS.iloadN X3.here hx rfl (hb hby d11_17) rfl k) ?_
  refine Go.iaload X3 hx hZ e3 V_xt_0 (j := (3 : Int32)) (v := (fT 3)) (by decide) rfl (hb hby d11_18) ?_
  show Go _ _ _ _ _ _ _ T3 (mkF m 19 #[.val (.ref a), .val (.int (4 : Int32)), .val (.int (fT 1)), .val (.int (3 : Int32)), .val (.int (3 : Int32)), .val (.int (4 : Int32)), .val (.int (fT 1)), .val (.int (2 : Int32))] [(.int (fT 3))])
  refine Go.step (fun _ k => XS.istore X3.here hx rfl (hb hby d11_19) rfl (l' := #[.val (.ref a), .val (.int (4 : Int32)), .val (.int (fT 1)), .val (.int (3 : Int32)), .val (.int (3 : Int32)), .val (.int (4 : Int32)), .val (.int (fT 3)), .val (.int (2 : Int32))]) rfl k) ?_
  show Go _ _ _ _ _ _ _ T3 (mkF m 21 #[.val (.ref a), .val (.int (4 : Int32)), .val (.int (fT 1)), .val (.int (3 : Int32)), .val (.int (3 : Int32)), .val (.int (4 : Int32)), .val (.int (fT 3)), .val (.int (2 : Int32))] [])
  refine Go.step (fun _ k => XS.iload X3.here hx rfl (hb hby d11_21) rfl k) ?_
  by_cases hc23_4 : (fT 3) = (0 : Int32)
  · refine Go.step (fun _ k => XS.ifYes X3.here hx rfl (pc0 := 23) (pc' := 44) rfl (hb hby d11_23) rfl ((if0 _ _).trans (teq hc23_4).1) (by decide) (by decide) k) ?_
    show Go _ _ _ _ _ _ _ T3 (mkF m 44 #[.val (.ref a), .val (.int (4 : Int32)), .val (.int (fT 1)), .val (.int (3 : Int32)), .val (.int (3 : Int32)), .val (.int (4 : Int32)), .val (.int (fT 3)), .val (.int (2 : Int32))] [])
    refine Go.step (fun _ k => XS.iload X3.here hx rfl (hb hby d11_44) rfl k) ?_
    refine Go.step (fun _ k => XS.iload X3.here hx rfl (hb hby d11_46) rfl k) ?_
    refine Go.step (fun _ k => XS.icmpYes X3.here hx rfl (pc0 := 48) (pc' := 53) rfl (hb hby d11_48) rfl (feq (by decide : ¬ ((3 : Int32) = (4 : Int32)))).2 (by decide) (by decide) k) ?_
    show Go _ _ _ _ _ _ _ T3 (mkF m 53 #[.val (.ref a), .val (.int (4 : Int32)), .val (.int (fT 1)), .val (.int (3 : Int32)), .val (.int (3 : Int32)), .val (.int (4 : Int32)), .val (.int (fT 3)), .val (.int (2 : Int32))] [])
    refine Go.step (fun _ k => XS.iload X3.here hx rfl (hb hby d11_53) rfl k) ?_
    refine Go.step (fun _ k => XS.iload X3.here hx rfl (hb hby d11_55) rfl k) ?_
    refine Go.step (fun _ k => XS.iadd X3.here hx rfl (hb hby d11_57) rfl k) ?_
    show Go _ _ _ _ _ _ _ T3 (mkF m 58 #[.val (.ref a), .val (.int (4 : Int32)), .val (.int (fT 1)), .val (.int (3 : Int32)), .val (.int (3 : Int32)), .val (.int (4 : Int32)), .val (.int (fT 3)), .val (.int (2 : Int32))] [(.int (7 : Int32))])
    refine Go.step (fun _ k => XS.iconst X3.here hx rfl (hb hby d11_58) k) ?_
    refine Go.step (fun _ k => XS.iushr X3.here hx rfl (hb hby d11_59) rfl k) ?_
    show Go _ _ _ _ _ _ _ T3 (mkF m 60 #[.val (.ref a), .val (.int (4 : Int32)), .val (.int (fT 1)), .val (.int (3 : Int32)), .val (.int (3 : Int32)), .val (.int (4 : Int32)), .val (.int (fT 3)), .val (.int (2 : Int32))] [(.int (3 : Int32))])
    refine Go.step (fun _ k => XS.istore X3.here hx rfl (hb hby d11_60) rfl (l' := #[.val (.ref a), .val (.int (4 : Int32)), .val (.int (fT 1)), .val (.int (3 : Int32)), .val (.int (3 : Int32)), .val (.int (4 : Int32)), .val (.int (fT 3)), .val (.int (3 : Int32))]) rfl k) ?_
    show Go _ _ _ _ _ _ _ T3 (mkF m 62 #[.val (.ref a), .val (.int (4 : Int32)), .val (.int (fT 1)), .val (.int (3 : Int32)), .val (.int (3 : Int32)), .val (.int (4 : Int32)), .val (.int (fT 3)), .val (.int (3 : Int32))] [])
    refine Go.step (fun _ k => XS.iloadN X3.here hx rfl (hb hby d11_62) rfl k) ?_
    refine Go.step (fun _ k => XS.iload X3.here hx rfl (hb hby d11_63) rfl k) ?_
    refine Go.step (fun _ k => XS.icmpYes X3.here hx rfl (pc0 := 65) (pc' := 79) rfl (hb hby d11_65) rfl (tlt (by decide : (3 : Int32) < (4 : Int32))).2.2.1 (by decide) (by decide) k) ?_
    show Go _ _ _ _ _ _ _ T3 (mkF m 79 #[.val (.ref a), .val (.int (4 : Int32)), .val (.int (fT 1)), .val (.int (3 : Int32)), .val (.int (3 : Int32)), .val (.int (4 : Int32)), .val (.int (fT 3)), .val (.int (3 : Int32))] [])
    refine Go.step (fun _ k => XS.iconst X3.here hx rfl (hb hby d11_79) k) ?_
    refine Go.step (fun _ k => XS.iloadN X3.here hx rfl (hb hby d11_80) rfl k) ?_
    refine Go.step (fun _ k => XS.imul X3.here hx rfl (hb hby d11_81) rfl k) ?_
    show Go _ _ _ _ _ _ _ T3 (mkF m 82 #[.val (.ref a), .val (.int (4 : Int32)), .val (.int (fT 1)), .val (.int (3 : Int32)), .val (.int (3 : Int32)), .val (.int (4 : Int32)), .val (.int (fT 3)), .val (.int (3 : Int32))] [(.int (6 : Int32))])
    refine Go.step (fun _ k => XS.iconst X3.here hx rfl (hb hby d11_82) k) ?_
    refine Go.step (fun _ k => XS.iadd X3.here hx rfl (hb hby d11_83) rfl k) ?_
    show Go _ _ _ _ _ _ _ T3 (mkF m 84 #[.val (.ref a), .val (.int (4 : Int32)), .val (.int (fT 1)), .val (.int (3 : Int32)), .val (.int (3 : Int32)), .val (.int (4 : Int32)), .val (.int (fT 3)), .val (.int (3 : Int32))] [(.int (7 : Int32))])
    refine Go.step (fun _ k => XS.istoreN X3.here hx rfl (hb hby d11_84) rfl (l' := #[.val (.ref a), .val (.int (4 : Int32)), .val (.int (fT 1)), .val (.int (7 : Int32)), .val (.int (3 : Int32)), .val (.int (4 : Int32)), .val (.int (fT 3)), .val (.int (3 : Int32))]) rfl k) ?_
    show Go _ _ _ _ _ _ _ T3 (mkF m 85 #[.val (.ref a), .val (.int (4 : Int32)), .val (.int (fT 1)), .val (.int (7 : Int32)), .val (.int (3 : Int32)), .val (.int (4 : Int32)), .val (.int (fT 3)), .val (.int (3 : Int32))] [])
    refine Go.step (fun _ k => XS.iload X3.here hx rfl (hb hby d11_85) rfl k) ?_
    refine Go.step (fun _ k => XS.iconst X3.here hx rfl (hb hby d11_87) k) ?_
    refine Go.step (fun _ k => XS.iadd X3.here hx rfl (hb hby d11_88) rfl k) ?_
    show Go _ _ _ _ _ _ _ T3 (mkF m 89 #[.val (.ref a), .val (.int (4 : Int32)), .val (.int (fT 1)), .val (.int (7 : Int32)), .val (.int (3 : Int32)), .val (.int (4 : Int32)), .val (.int (fT 3)), .val (.int (3 : Int32))] [(.int (4 : Int32))])
    refine Go.step (fun _ k => XS.istore X3.here hx rfl (hb hby d11_89) rfl (l' := #[.val (.ref a), .val (.int (4 : Int32)), .val (.int (fT 1)), .val (.int (7 : Int32)), .val (.int (4 : Int32)), .val (.int (4 : Int32)), .val (.int (fT 3)), .val (.int (3 : Int32))]) rfl k) ?_
    show Go _ _ _ _ _ _ _ T3 (mkF m 91 #[.val (.ref a), .val (.int (4 : Int32)), .val (.int (fT 1)), .val (.int (7 : Int32)), .val (.int (4 : Int32)), .val (.int (4 : Int32)), .val (.int (fT 3)), .val (.int (3 : Int32))] [])
    refine Go.step (fun _ k => XS.goto X3.here hx rfl (pc0 := 91) (pc' := 13) rfl (hb hby d11_91) (by decide) (by decide) k) ?_
    show Go _ _ _ _ _ _ _ T3 (mkF m 13 #[.val (.ref a), .val (.int (4 : Int32)), .val (.int (fT 1)), .val (.int (7 : Int32)), .val (.int (4 : Int32)), .val (.int (4 : Int32)), .val (.int (fT 3)), .val (.int (3 : Int32))] [])
    refine Go.step (fun _ k => XS.aloadN X3.here hx rfl (hb hby d11_13) rfl rfl k) ?_
    obtain ⟨T5, X5, e5, st5⟩ := getF X3 hx hZ hown (host := "") (Or.inl (hw _ (mI 36 rfl))) Via.refl e3 F_node_a_0 (g := (mkF m 14 #[.val (.ref a), .val (.int (4 : Int32)), .val (.int (fT 1)), .val (.int (7 : Int32)), .val (.int (4 : Int32)), .val (.int (4 : Int32)), .val (.int (fT 3)), .val (.int (3 : Int32))] [(.ref a)])) rfl rfl (hb hby d11_14)
    refine Go.step st5 ?_
    show Go _ _ _ _ _ _ _ T5 (mkF m 17 #[.val (.ref a), .val (.int (4 : Int32)), .val (.int (fT 1)), .val (.int (7 : Int32)), .val (.int (4 : Int32)), .val (.int (4 : Int32)), .val (.int (fT 3)), .val (.int (3 : Int32))] [(.ref xt)])
    refine Go.step (fun _ k => XS.iloadN X5.here hx rfl (hb hby d11_17) rfl k) ?_
    refine Go.iaload X5 hx hZ e5 V_xt_0 (j := (7 : Int32)) (v := (fT 7)) (by decide) rfl (hb hby d11_18) ?_
    show Go _ _ _ _ _ _ _ T5 (mkF m 19 #[.val (.ref a), .val (.int (4 : Int32)), .val (.int (fT 1)), .val (.int (7 : Int32)), .val (.int (4 : Int32)), .val (.int (4 : Int32)), .val (.int (fT 3)), .val (.int (3 : Int32))] [(.int (fT 7))])
    refine Go.step (fun _ k => XS.istore X5.here hx rfl (hb hby d11_19) rfl (l' := #[.val (.ref a), .val (.int (4 : Int32)), .val (.int (fT 1)), .val (.int (7 : Int32)), .val (.int (4 : Int32)), .val (.int (4 : Int32)), .val (.int (fT 7)), .val (.int (3 : Int32))]) rfl k) ?_
    show Go _ _ _ _ _ _ _ T5 (mkF m 21 #[.val (.ref a), .val (.int (4 : Int32)), .val (.int (fT 1)), .val (.int (7 : Int32)), .val (.int (4 : Int32)), .val (.int (4 : Int32)), .val (.int (fT 7)), .val (.int (3 : Int32))] [])
    refine Go.step (fun _ k => XS.iload X5.here hx rfl (hb hby d11_21) rfl k) ?_
    refine Go.step (fun _ k => XS.ifYes X5.here hx rfl (pc0 := 23) (pc' := 44) rfl (hb hby d11_23) rfl ((if0 _ _).trans (teq hLf.2.2.2).1) (by decide) (by decide) k) ?_
    show Go _ _ _ _ _ _ _ T5 (mkF m 44 #[.val (.ref a), .val (.int (4 : Int32)), .val (.int (fT 1)), .val (.int (7 : Int32)), .val (.int (4 : Int32)), .val (.int (4 : Int32)), .val (.int (fT 7)), .val (.int (3 : Int32))] [])
    refine Go.step (fun _ k => XS.iload X5.here hx rfl (hb hby d11_44) rfl k) ?_
    refine Go.step (fun _ k => XS.iload X5.here hx rfl (hb hby d11_46) rfl k) ?_
    refine Go.step (fun _ k => XS.icmpNo X5.here hx rfl (hb hby d11_48) rfl (teq (by decide : (4 : Int32) = (4 : Int32))).2 k) ?_
    show Go _ _ _ _ _ _ _ T5 (mkF m 51 #[.val (.ref a), .val (.int (4 : Int32)), .val (.int (fT 1)), .val (.int (7 : Int32)), .val (.int (4 : Int32)), .val (.int (4 : Int32)), .val (.int (fT 7)), .val (.int (3 : Int32))] [])
    refine Go.step (fun _ k => XS.iloadN X5.here hx rfl (hb hby d11_51) rfl k) ?_
    refine Go.retI X5 hx hlk hret (hb hby d11_52) (by decide) (by decide) ?_
    try rw [e5]
    exact ⟨by simp only [lowestW]; rw [if_pos hc23_4], N0, rfl⟩
  · refine Go.step (fun _ k => XS.ifNo X3.here hx rfl (hb hby d11_23) rfl ((if0 _ _).trans (feq hc23_4).1) k) ?_
    show Go _ _ _ _ _ _ _ T3 (mkF m 26 #[.val (.ref a), .val (.int (4 : Int32)), .val (.int (fT 1)), .val (.int (3 : Int32)), .val (.int (3 : Int32)), .val (.int (4 : Int32)), .val (.int (fT 3)), .val (.int (2 : Int32))] [])
    refine Go.step (fun _ k => XS.iloadN X3.here hx rfl (hb hby d11_26) rfl k) ?_
    refine Go.step (fun _ k => XS.ifNo X3.here hx rfl (hb hby d11_27) rfl ((if0 _ _).trans (feq hr).1) k) ?_
    show Go _ _ _ _ _ _ _ T3 (mkF m 30 #[.val (.ref a), .val (.int (4 : Int32)), .val (.int (fT 1)), .val (.int (3 : Int32)), .val (.int (3 : Int32)), .val (.int (4 : Int32)), .val (.int (fT 3)), .val (.int (2 : Int32))] [])
    refine Go.step (fun _ k => XS.aloadN X3.here hx rfl (hb hby d11_30) rfl rfl k) ?_
    refine Go.step (fun _ k => XS.iload X3.here hx rfl (hb hby d11_31) rfl k) ?_
    refine Go.step (fun _ k => XS.iloadN X3.here hx rfl (hb hby d11_33) rfl k) ?_
    show Go _ _ _ _ _ _ _ T3 (mkF m 34 #[.val (.ref a), .val (.int (4 : Int32)), .val (.int (fT 1)), .val (.int (3 : Int32)), .val (.int (3 : Int32)), .val (.int (4 : Int32)), .val (.int (fT 3)), .val (.int (2 : Int32))] [(.int (fT 1)), (.int (fT 3)), (.ref a)])
    refine Go.step (fun _ k => XS.iloadN X3.here hx rfl (hb hby d11_34) rfl k) ?_
    refine Go.callP X3 hx hZ (by rw [hml]; rfl) (y := (⟨"com/example/headroom/headroom/LowerEnvelope", "lower", "(III)Z"⟩ : MethodName)) (a := a) (argsL := [(.int (fT 3)), (.int (fT 1)), (.int (4 : Int32))]) (rest := []) hown (hw _ (mI 57 rfl)) (hw _ (mI 58 rfl)) (hw _ (mI 1 rfl)) (hw _ (mI 59 rfl)) (hw _ (mI 2 rfl)) (hw _ (mI 60 rfl)) (by decide) (rm9 l Z a0 hw a xu xv xw fP fQ fC (fT 3) (fT 1) (4 : Int32) h0 n0 Z0 F_base_a_0 F_slope_a_0 F_origin_a_0 V_xu_0 V_xv_0 V_xw_0 hP hQ hC (hR 3) (hR 1) (own_in (4 : Int32) (by decide))) e3 E_a_0 (hb hby d11_35) (lenOf pd_1 rfl) rfl rfl (W := 0) (Nat.le_of_eq rfl) (by decide) (by decide) (by decide) (by decide) ?_
    intro v6 T6 L6 X6 Q6
    obtain ⟨rfl, N6q, hh6⟩ := Q6
    have N6 := Fr.app N0 N6q
    show Go _ _ _ _ _ _ _ T6 (mkF m 38 #[.val (.ref a), .val (.int (4 : Int32)), .val (.int (fT 1)), .val (.int (3 : Int32)), .val (.int (3 : Int32)), .val (.int (4 : Int32)), .val (.int (fT 3)), .val (.int (2 : Int32))] [(.int (lowW fP fQ fC (fT 3) (fT 1) (4 : Int32)))])
    by_cases hc38_7 : (lowW fP fQ fC (fT 3) (fT 1) (4 : Int32)) = (0 : Int32)
    · refine Go.step (fun _ k => XS.ifYes X6.here hx rfl (pc0 := 38) (pc' := 44) rfl (hb hby d11_38) rfl ((if0 _ _).trans (teq hc38_7).1) (by decide) (by decide) k) ?_
      show Go _ _ _ _ _ _ _ T6 (mkF m 44 #[.val (.ref a), .val (.int (4 : Int32)), .val (.int (fT 1)), .val (.int (3 : Int32)), .val (.int (3 : Int32)), .val (.int (4 : Int32)), .val (.int (fT 3)), .val (.int (2 : Int32))] [])
      refine Go.step (fun _ k => XS.iload X6.here hx rfl (hb hby d11_44) rfl k) ?_
      refine Go.step (fun _ k => XS.iload X6.here hx rfl (hb hby d11_46) rfl k) ?_
      refine Go.step (fun _ k => XS.icmpYes X6.here hx rfl (pc0 := 48) (pc' := 53) rfl (hb hby d11_48) rfl (feq (by decide : ¬ ((3 : Int32) = (4 : Int32)))).2 (by decide) (by decide) k) ?_
      show Go _ _ _ _ _ _ _ T6 (mkF m 53 #[.val (.ref a), .val (.int (4 : Int32)), .val (.int (fT 1)), .val (.int (3 : Int32)), .val (.int (3 : Int32)), .val (.int (4 : Int32)), .val (.int (fT 3)), .val (.int (2 : Int32))] [])
      refine Go.step (fun _ k => XS.iload X6.here hx rfl (hb hby d11_53) rfl k) ?_
      refine Go.step (fun _ k => XS.iload X6.here hx rfl (hb hby d11_55) rfl k) ?_
      refine Go.step (fun _ k => XS.iadd X6.here hx rfl (hb hby d11_57) rfl k) ?_
      show Go _ _ _ _ _ _ _ T6 (mkF m 58 #[.val (.ref a), .val (.int (4 : Int32)), .val (.int (fT 1)), .val (.int (3 : Int32)), .val (.int (3 : Int32)), .val (.int (4 : Int32)), .val (.int (fT 3)), .val (.int (2 : Int32))] [(.int (7 : Int32))])
      refine Go.step (fun _ k => XS.iconst X6.here hx rfl (hb hby d11_58) k) ?_
      refine Go.step (fun _ k => XS.iushr X6.here hx rfl (hb hby d11_59) rfl k) ?_
      show Go _ _ _ _ _ _ _ T6 (mkF m 60 #[.val (.ref a), .val (.int (4 : Int32)), .val (.int (fT 1)), .val (.int (3 : Int32)), .val (.int (3 : Int32)), .val (.int (4 : Int32)), .val (.int (fT 3)), .val (.int (2 : Int32))] [(.int (3 : Int32))])
      refine Go.step (fun _ k => XS.istore X6.here hx rfl (hb hby d11_60) rfl (l' := #[.val (.ref a), .val (.int (4 : Int32)), .val (.int (fT 1)), .val (.int (3 : Int32)), .val (.int (3 : Int32)), .val (.int (4 : Int32)), .val (.int (fT 3)), .val (.int (3 : Int32))]) rfl k) ?_
      show Go _ _ _ _ _ _ _ T6 (mkF m 62 #[.val (.ref a), .val (.int (4 : Int32)), .val (.int (fT 1)), .val (.int (3 : Int32)), .val (.int (3 : Int32)), .val (.int (4 : Int32)), .val (.int (fT 3)), .val (.int (3 : Int32))] [])
      refine Go.step (fun _ k => XS.iloadN X6.here hx rfl (hb hby d11_62) rfl k) ?_
      refine Go.step (fun _ k => XS.iload X6.here hx rfl (hb hby d11_63) rfl k) ?_
      refine Go.step (fun _ k => XS.icmpYes X6.here hx rfl (pc0 := 65) (pc' := 79) rfl (hb hby d11_65) rfl (tlt (by decide : (3 : Int32) < (4 : Int32))).2.2.1 (by decide) (by decide) k) ?_
      show Go _ _ _ _ _ _ _ T6 (mkF m 79 #[.val (.ref a), .val (.int (4 : Int32)), .val (.int (fT 1)), .val (.int (3 : Int32)), .val (.int (3 : Int32)), .val (.int (4 : Int32)), .val (.int (fT 3)), .val (.int (3 : Int32))] [])
      refine Go.step (fun _ k => XS.iconst X6.here hx rfl (hb hby d11_79) k) ?_
      refine Go.step (fun _ k => XS.iloadN X6.here hx rfl (hb hby d11_80) rfl k) ?_
      refine Go.step (fun _ k => XS.imul X6.here hx rfl (hb hby d11_81) rfl k) ?_
      show Go _ _ _ _ _ _ _ T6 (mkF m 82 #[.val (.ref a), .val (.int (4 : Int32)), .val (.int (fT 1)), .val (.int (3 : Int32)), .val (.int (3 : Int32)), .val (.int (4 : Int32)), .val (.int (fT 3)), .val (.int (3 : Int32))] [(.int (6 : Int32))])
      refine Go.step (fun _ k => XS.iconst X6.here hx rfl (hb hby d11_82) k) ?_
      refine Go.step (fun _ k => XS.iadd X6.here hx rfl (hb hby d11_83) rfl k) ?_
      show Go _ _ _ _ _ _ _ T6 (mkF m 84 #[.val (.ref a), .val (.int (4 : Int32)), .val (.int (fT 1)), .val (.int (3 : Int32)), .val (.int (3 : Int32)), .val (.int (4 : Int32)), .val (.int (fT 3)), .val (.int (3 : Int32))] [(.int (7 : Int32))])
      refine Go.step (fun _ k => XS.istoreN X6.here hx rfl (hb hby d11_84) rfl (l' := #[.val (.ref a), .val (.int (4 : Int32)), .val (.int (fT 1)), .val (.int (7 : Int32)), .val (.int (3 : Int32)), .val (.int (4 : Int32)), .val (.int (fT 3)), .val (.int (3 : Int32))]) rfl k) ?_
      show Go _ _ _ _ _ _ _ T6 (mkF m 85 #[.val (.ref a), .val (.int (4 : Int32)), .val (.int (fT 1)), .val (.int (7 : Int32)), .val (.int (3 : Int32)), .val (.int (4 : Int32)), .val (.int (fT 3)), .val (.int (3 : Int32))] [])
      refine Go.step (fun _ k => XS.iload X6.here hx rfl (hb hby d11_85) rfl k) ?_
      refine Go.step (fun _ k => XS.iconst X6.here hx rfl (hb hby d11_87) k) ?_
      refine Go.step (fun _ k => XS.iadd X6.here hx rfl (hb hby d11_88) rfl k) ?_
      show Go _ _ _ _ _ _ _ T6 (mkF m 89 #[.val (.ref a), .val (.int (4 : Int32)), .val (.int (fT 1)), .val (.int (7 : Int32)), .val (.int (3 : Int32)), .val (.int (4 : Int32)), .val (.int (fT 3)), .val (.int (3 : Int32))] [(.int (4 : Int32))])
      refine Go.step (fun _ k => XS.istore X6.here hx rfl (hb hby d11_89) rfl (l' := #[.val (.ref a), .val (.int (4 : Int32)), .val (.int (fT 1)), .val (.int (7 : Int32)), .val (.int (4 : Int32)), .val (.int (4 : Int32)), .val (.int (fT 3)), .val (.int (3 : Int32))]) rfl k) ?_
      show Go _ _ _ _ _ _ _ T6 (mkF m 91 #[.val (.ref a), .val (.int (4 : Int32)), .val (.int (fT 1)), .val (.int (7 : Int32)), .val (.int (4 : Int32)), .val (.int (4 : Int32)), .val (.int (fT 3)), .val (.int (3 : Int32))] [])
      refine Go.step (fun _ k => XS.goto X6.here hx rfl (pc0 := 91) (pc' := 13) rfl (hb hby d11_91) (by decide) (by decide) k) ?_
      show Go _ _ _ _ _ _ _ T6 (mkF m 13 #[.val (.ref a), .val (.int (4 : Int32)), .val (.int (fT 1)), .val (.int (7 : Int32)), .val (.int (4 : Int32)), .val (.int (4 : Int32)), .val (.int (fT 3)), .val (.int (3 : Int32))] [])
      refine Go.step (fun _ k => XS.aloadN X6.here hx rfl (hb hby d11_13) rfl rfl k) ?_
      obtain ⟨T8, X8, e8, st8⟩ := getF X6 hx hZ hown (host := "") (Or.inl (hw _ (mI 36 rfl))) Via.refl hh6 F_node_a_0 (g := (mkF m 14 #[.val (.ref a), .val (.int (4 : Int32)), .val (.int (fT 1)), .val (.int (7 : Int32)), .val (.int (4 : Int32)), .val (.int (4 : Int32)), .val (.int (fT 3)), .val (.int (3 : Int32))] [(.ref a)])) rfl rfl (hb hby d11_14)
      refine Go.step st8 ?_
      show Go _ _ _ _ _ _ _ T8 (mkF m 17 #[.val (.ref a), .val (.int (4 : Int32)), .val (.int (fT 1)), .val (.int (7 : Int32)), .val (.int (4 : Int32)), .val (.int (4 : Int32)), .val (.int (fT 3)), .val (.int (3 : Int32))] [(.ref xt)])
      refine Go.step (fun _ k => XS.iloadN X8.here hx rfl (hb hby d11_17) rfl k) ?_
      refine Go.iaload X8 hx hZ e8 V_xt_0 (j := (7 : Int32)) (v := (fT 7)) (by decide) rfl (hb hby d11_18) ?_
      show Go _ _ _ _ _ _ _ T8 (mkF m 19 #[.val (.ref a), .val (.int (4 : Int32)), .val (.int (fT 1)), .val (.int (7 : Int32)), .val (.int (4 : Int32)), .val (.int (4 : Int32)), .val (.int (fT 3)), .val (.int (3 : Int32))] [(.int (fT 7))])
      refine Go.step (fun _ k => XS.istore X8.here hx rfl (hb hby d11_19) rfl (l' := #[.val (.ref a), .val (.int (4 : Int32)), .val (.int (fT 1)), .val (.int (7 : Int32)), .val (.int (4 : Int32)), .val (.int (4 : Int32)), .val (.int (fT 7)), .val (.int (3 : Int32))]) rfl k) ?_
      show Go _ _ _ _ _ _ _ T8 (mkF m 21 #[.val (.ref a), .val (.int (4 : Int32)), .val (.int (fT 1)), .val (.int (7 : Int32)), .val (.int (4 : Int32)), .val (.int (4 : Int32)), .val (.int (fT 7)), .val (.int (3 : Int32))] [])
      refine Go.step (fun _ k => XS.iload X8.here hx rfl (hb hby d11_21) rfl k) ?_
      refine Go.step (fun _ k => XS.ifYes X8.here hx rfl (pc0 := 23) (pc' := 44) rfl (hb hby d11_23) rfl ((if0 _ _).trans (teq hLf.2.2.2).1) (by decide) (by decide) k) ?_
      show Go _ _ _ _ _ _ _ T8 (mkF m 44 #[.val (.ref a), .val (.int (4 : Int32)), .val (.int (fT 1)), .val (.int (7 : Int32)), .val (.int (4 : Int32)), .val (.int (4 : Int32)), .val (.int (fT 7)), .val (.int (3 : Int32))] [])
      refine Go.step (fun _ k => XS.iload X8.here hx rfl (hb hby d11_44) rfl k) ?_
      refine Go.step (fun _ k => XS.iload X8.here hx rfl (hb hby d11_46) rfl k) ?_
      refine Go.step (fun _ k => XS.icmpNo X8.here hx rfl (hb hby d11_48) rfl (teq (by decide : (4 : Int32) = (4 : Int32))).2 k) ?_
      show Go _ _ _ _ _ _ _ T8 (mkF m 51 #[.val (.ref a), .val (.int (4 : Int32)), .val (.int (fT 1)), .val (.int (7 : Int32)), .val (.int (4 : Int32)), .val (.int (4 : Int32)), .val (.int (fT 7)), .val (.int (3 : Int32))] [])
      refine Go.step (fun _ k => XS.iloadN X8.here hx rfl (hb hby d11_51) rfl k) ?_
      refine Go.retI X8 hx hlk hret (hb hby d11_52) (by decide) (by decide) ?_
      try rw [e8]
      exact ⟨by simp only [lowestW]; rw [if_neg hc23_4, if_pos hc38_7], N6, rfl⟩
    · refine Go.step (fun _ k => XS.ifNo X6.here hx rfl (hb hby d11_38) rfl ((if0 _ _).trans (feq hc38_7).1) k) ?_
      show Go _ _ _ _ _ _ _ T6 (mkF m 41 #[.val (.ref a), .val (.int (4 : Int32)), .val (.int (fT 1)), .val (.int (3 : Int32)), .val (.int (3 : Int32)), .val (.int (4 : Int32)), .val (.int (fT 3)), .val (.int (2 : Int32))] [])
      refine Go.step (fun _ k => XS.iload X6.here hx rfl (hb hby d11_41) rfl k) ?_
      refine Go.step (fun _ k => XS.istoreN X6.here hx rfl (hb hby d11_43) rfl (l' := #[.val (.ref a), .val (.int (4 : Int32)), .val (.int (fT 3)), .val (.int (3 : Int32)), .val (.int (3 : Int32)), .val (.int (4 : Int32)), .val (.int (fT 3)), .val (.int (2 : Int32))]) rfl k) ?_
      show Go _ _ _ _ _ _ _ T6 (mkF m 44 #[.val (.ref a), .val (.int (4 : Int32)), .val (.int (fT 3)), .val (.int (3 : Int32)), .val (.int (3 : Int32)), .val (.int (4 : Int32)), .val (.int (fT 3)), .val (.int (2 : Int32))] [])
      refine Go.step (fun _ k => XS.iload X6.here hx rfl (hb hby d11_44) rfl k) ?_
      refine Go.step (fun _ k => XS.iload X6.here hx rfl (hb hby d11_46) rfl k) ?_
      refine Go.step (fun _ k => XS.icmpYes X6.here hx rfl (pc0 := 48) (pc' := 53) rfl (hb hby d11_48) rfl (feq (by decide : ¬ ((3 : Int32) = (4 : Int32)))).2 (by decide) (by decide) k) ?_
      show Go _ _ _ _ _ _ _ T6 (mkF m 53 #[.val (.ref a), .val (.int (4 : Int32)), .val (.int (fT 3)), .val (.int (3 : Int32)), .val (.int (3 : Int32)), .val (.int (4 : Int32)), .val (.int (fT 3)), .val (.int (2 : Int32))] [])
      refine Go.step (fun _ k => XS.iload X6.here hx rfl (hb hby d11_53) rfl k) ?_
      refine Go.step (fun _ k => XS.iload X6.here hx rfl (hb hby d11_55) rfl k) ?_
      refine Go.step (fun _ k => XS.iadd X6.here hx rfl (hb hby d11_57) rfl k) ?_
      show Go _ _ _ _ _ _ _ T6 (mkF m 58 #[.val (.ref a), .val (.int (4 : Int32)), .val (.int (fT 3)), .val (.int (3 : Int32)), .val (.int (3 : Int32)), .val (.int (4 : Int32)), .val (.int (fT 3)), .val (.int (2 : Int32))] [(.int (7 : Int32))])
      refine Go.step (fun _ k => XS.iconst X6.here hx rfl (hb hby d11_58) k) ?_
      refine Go.step (fun _ k => XS.iushr X6.here hx rfl (hb hby d11_59) rfl k) ?_
      show Go _ _ _ _ _ _ _ T6 (mkF m 60 #[.val (.ref a), .val (.int (4 : Int32)), .val (.int (fT 3)), .val (.int (3 : Int32)), .val (.int (3 : Int32)), .val (.int (4 : Int32)), .val (.int (fT 3)), .val (.int (2 : Int32))] [(.int (3 : Int32))])
      refine Go.step (fun _ k => XS.istore X6.here hx rfl (hb hby d11_60) rfl (l' := #[.val (.ref a), .val (.int (4 : Int32)), .val (.int (fT 3)), .val (.int (3 : Int32)), .val (.int (3 : Int32)), .val (.int (4 : Int32)), .val (.int (fT 3)), .val (.int (3 : Int32))]) rfl k) ?_
      show Go _ _ _ _ _ _ _ T6 (mkF m 62 #[.val (.ref a), .val (.int (4 : Int32)), .val (.int (fT 3)), .val (.int (3 : Int32)), .val (.int (3 : Int32)), .val (.int (4 : Int32)), .val (.int (fT 3)), .val (.int (3 : Int32))] [])
      refine Go.step (fun _ k => XS.iloadN X6.here hx rfl (hb hby d11_62) rfl k) ?_
      refine Go.step (fun _ k => XS.iload X6.here hx rfl (hb hby d11_63) rfl k) ?_
      refine Go.step (fun _ k => XS.icmpYes X6.here hx rfl (pc0 := 65) (pc' := 79) rfl (hb hby d11_65) rfl (tlt (by decide : (3 : Int32) < (4 : Int32))).2.2.1 (by decide) (by decide) k) ?_
      show Go _ _ _ _ _ _ _ T6 (mkF m 79 #[.val (.ref a), .val (.int (4 : Int32)), .val (.int (fT 3)), .val (.int (3 : Int32)), .val (.int (3 : Int32)), .val (.int (4 : Int32)), .val (.int (fT 3)), .val (.int (3 : Int32))] [])
      refine Go.step (fun _ k => XS.iconst X6.here hx rfl (hb hby d11_79) k) ?_
      refine Go.step (fun _ k => XS.iloadN X6.here hx rfl (hb hby d11_80) rfl k) ?_
      refine Go.step (fun _ k => XS.imul X6.here hx rfl (hb hby d11_81) rfl k) ?_
      show Go _ _ _ _ _ _ _ T6 (mkF m 82 #[.val (.ref a), .val (.int (4 : Int32)), .val (.int (fT 3)), .val (.int (3 : Int32)), .val (.int (3 : Int32)), .val (.int (4 : Int32)), .val (.int (fT 3)), .val (.int (3 : Int32))] [(.int (6 : Int32))])
      refine Go.step (fun _ k => XS.iconst X6.here hx rfl (hb hby d11_82) k) ?_
      refine Go.step (fun _ k => XS.iadd X6.here hx rfl (hb hby d11_83) rfl k) ?_
      show Go _ _ _ _ _ _ _ T6 (mkF m 84 #[.val (.ref a), .val (.int (4 : Int32)), .val (.int (fT 3)), .val (.int (3 : Int32)), .val (.int (3 : Int32)), .val (.int (4 : Int32)), .val (.int (fT 3)), .val (.int (3 : Int32))] [(.int (7 : Int32))])
      refine Go.step (fun _ k => XS.istoreN X6.here hx rfl (hb hby d11_84) rfl (l' := #[.val (.ref a), .val (.int (4 : Int32)), .val (.int (fT 3)), .val (.int (7 : Int32)), .val (.int (3 : Int32)), .val (.int (4 : Int32)), .val (.int (fT 3)), .val (.int (3 : Int32))]) rfl k) ?_
      show Go _ _ _ _ _ _ _ T6 (mkF m 85 #[.val (.ref a), .val (.int (4 : Int32)), .val (.int (fT 3)), .val (.int (7 : Int32)), .val (.int (3 : Int32)), .val (.int (4 : Int32)), .val (.int (fT 3)), .val (.int (3 : Int32))] [])
      refine Go.step (fun _ k => XS.iload X6.here hx rfl (hb hby d11_85) rfl k) ?_
      refine Go.step (fun _ k => XS.iconst X6.here hx rfl (hb hby d11_87) k) ?_
      refine Go.step (fun _ k => XS.iadd X6.here hx rfl (hb hby d11_88) rfl k) ?_
      show Go _ _ _ _ _ _ _ T6 (mkF m 89 #[.val (.ref a), .val (.int (4 : Int32)), .val (.int (fT 3)), .val (.int (7 : Int32)), .val (.int (3 : Int32)), .val (.int (4 : Int32)), .val (.int (fT 3)), .val (.int (3 : Int32))] [(.int (4 : Int32))])
      refine Go.step (fun _ k => XS.istore X6.here hx rfl (hb hby d11_89) rfl (l' := #[.val (.ref a), .val (.int (4 : Int32)), .val (.int (fT 3)), .val (.int (7 : Int32)), .val (.int (4 : Int32)), .val (.int (4 : Int32)), .val (.int (fT 3)), .val (.int (3 : Int32))]) rfl k) ?_
      show Go _ _ _ _ _ _ _ T6 (mkF m 91 #[.val (.ref a), .val (.int (4 : Int32)), .val (.int (fT 3)), .val (.int (7 : Int32)), .val (.int (4 : Int32)), .val (.int (4 : Int32)), .val (.int (fT 3)), .val (.int (3 : Int32))] [])
      refine Go.step (fun _ k => XS.goto X6.here hx rfl (pc0 := 91) (pc' := 13) rfl (hb hby d11_91) (by decide) (by decide) k) ?_
      show Go _ _ _ _ _ _ _ T6 (mkF m 13 #[.val (.ref a), .val (.int (4 : Int32)), .val (.int (fT 3)), .val (.int (7 : Int32)), .val (.int (4 : Int32)), .val (.int (4 : Int32)), .val (.int (fT 3)), .val (.int (3 : Int32))] [])
      refine Go.step (fun _ k => XS.aloadN X6.here hx rfl (hb hby d11_13) rfl rfl k) ?_
      obtain ⟨T9, X9, e9, st9⟩ := getF X6 hx hZ hown (host := "") (Or.inl (hw _ (mI 36 rfl))) Via.refl hh6 F_node_a_0 (g := (mkF m 14 #[.val (.ref a), .val (.int (4 : Int32)), .val (.int (fT 3)), .val (.int (7 : Int32)), .val (.int (4 : Int32)), .val (.int (4 : Int32)), .val (.int (fT 3)), .val (.int (3 : Int32))] [(.ref a)])) rfl rfl (hb hby d11_14)
      refine Go.step st9 ?_
      show Go _ _ _ _ _ _ _ T9 (mkF m 17 #[.val (.ref a), .val (.int (4 : Int32)), .val (.int (fT 3)), .val (.int (7 : Int32)), .val (.int (4 : Int32)), .val (.int (4 : Int32)), .val (.int (fT 3)), .val (.int (3 : Int32))] [(.ref xt)])
      refine Go.step (fun _ k => XS.iloadN X9.here hx rfl (hb hby d11_17) rfl k) ?_
      refine Go.iaload X9 hx hZ e9 V_xt_0 (j := (7 : Int32)) (v := (fT 7)) (by decide) rfl (hb hby d11_18) ?_
      show Go _ _ _ _ _ _ _ T9 (mkF m 19 #[.val (.ref a), .val (.int (4 : Int32)), .val (.int (fT 3)), .val (.int (7 : Int32)), .val (.int (4 : Int32)), .val (.int (4 : Int32)), .val (.int (fT 3)), .val (.int (3 : Int32))] [(.int (fT 7))])
      refine Go.step (fun _ k => XS.istore X9.here hx rfl (hb hby d11_19) rfl (l' := #[.val (.ref a), .val (.int (4 : Int32)), .val (.int (fT 3)), .val (.int (7 : Int32)), .val (.int (4 : Int32)), .val (.int (4 : Int32)), .val (.int (fT 7)), .val (.int (3 : Int32))]) rfl k) ?_
      show Go _ _ _ _ _ _ _ T9 (mkF m 21 #[.val (.ref a), .val (.int (4 : Int32)), .val (.int (fT 3)), .val (.int (7 : Int32)), .val (.int (4 : Int32)), .val (.int (4 : Int32)), .val (.int (fT 7)), .val (.int (3 : Int32))] [])
      refine Go.step (fun _ k => XS.iload X9.here hx rfl (hb hby d11_21) rfl k) ?_
      refine Go.step (fun _ k => XS.ifYes X9.here hx rfl (pc0 := 23) (pc' := 44) rfl (hb hby d11_23) rfl ((if0 _ _).trans (teq hLf.2.2.2).1) (by decide) (by decide) k) ?_
      show Go _ _ _ _ _ _ _ T9 (mkF m 44 #[.val (.ref a), .val (.int (4 : Int32)), .val (.int (fT 3)), .val (.int (7 : Int32)), .val (.int (4 : Int32)), .val (.int (4 : Int32)), .val (.int (fT 7)), .val (.int (3 : Int32))] [])
      refine Go.step (fun _ k => XS.iload X9.here hx rfl (hb hby d11_44) rfl k) ?_
      refine Go.step (fun _ k => XS.iload X9.here hx rfl (hb hby d11_46) rfl k) ?_
      refine Go.step (fun _ k => XS.icmpNo X9.here hx rfl (hb hby d11_48) rfl (teq (by decide : (4 : Int32) = (4 : Int32))).2 k) ?_
      show Go _ _ _ _ _ _ _ T9 (mkF m 51 #[.val (.ref a), .val (.int (4 : Int32)), .val (.int (fT 3)), .val (.int (7 : Int32)), .val (.int (4 : Int32)), .val (.int (4 : Int32)), .val (.int (fT 7)), .val (.int (3 : Int32))] [])
      refine Go.step (fun _ k => XS.iloadN X9.here hx rfl (hb hby d11_51) rfl k) ?_
      refine Go.retI X9 hx hlk hret (hb hby d11_52) (by decide) (by decide) ?_
      try rw [e9]
      exact ⟨by simp only [lowestW]; rw [if_neg hc23_4, if_neg hc38_7], N6, rfl⟩
theorem ef_rm11_4 (m : MethodId) (a : Addr) : entryFrame m #[(.ref a), (.int (4 : Int32))] 8 = mkF m 0 #[.val (.ref a), .val (.int (4 : Int32)), .unset, .unset, .unset, .unset, .unset, .unset] [] := by first | (simp [entryFrame, mkF, argsToLocals, Value.category]; done) | rfl
theorem rm11_4 (l : Launch) (Z : State) (a0 : Array Value) (hw : ∀ d ∈ tables_1, d.before a0 Z = true) (a xn xo xu xv xw xt xm : Addr) (fP fQ fC fT fM fN fO : Nat → Int32) (dd ss : Nat) (h0 : Heap) (n0 : Nat) (Z0 : n0 ≤ h0.size) (hL : LEs Z h0 a xn xo xu xv xw xt xm fP fQ fC fT fM fN fO dd ss) (hP : Sm fP) (hQ : Sm fQ) (hC : Sm fC) (hR : Rng fT) (hLf : Lf fT) (hr : ¬ fT 1 = (0 : Int32)) :
    Con l Z (⟨"com/example/headroom/headroom/LowerEnvelope", "lowest", "(I)I"⟩ : MethodName) prog_15_method_4_code 8 (some .int) ({ frames := 1, cells := 0, slots := 0, locals := 24 } : Room) #[(.ref a), (.int (4 : Int32))] h0 (fun r h L => r = some (.int (lowestW fP fQ fC fT 3 (4 : Int32))) ∧ Fr n0 L ∧ h = h0) :=
  con_of (plainFor_of_name pn_9) (fun p_ e_ s_ m_ b_ meth_ c_ T_ X_ hx hZ hby hml hown hnm hret hlk e0 => Go.cast (ef_rm11_4 m_ a) (w11_4 a xn xo xu xv xw xt xm fP fQ fC fT fM fN fO dd ss X_ hx hZ hw hby hml hown hnm hret hlk e0 Z0 (Fr.nil n0) hL hP hQ hC hR hLf hr))
theorem rm11 (l : Launch) (Z : State) (a0 : Array Value) (hw : ∀ d ∈ tables_1, d.before a0 Z = true) (a xn xo xu xv xw xt xm : Addr) (fP fQ fC fT fM fN fO : Nat → Int32) (dd ss : Nat) (x : Int32) (h0 : Heap) (n0 : Nat) (Z0 : n0 ≤ h0.size) (hL : LEs Z h0 a xn xo xu xv xw xt xm fP fQ fC fT fM fN fO dd ss) (hP : Sm fP) (hQ : Sm fQ) (hC : Sm fC) (hR : Rng fT) (hLf : Lf fT) (hr : ¬ fT 1 = (0 : Int32)) (h4 : In4 x) :
    Con l Z (⟨"com/example/headroom/headroom/LowerEnvelope", "lowest", "(I)I"⟩ : MethodName) prog_15_method_4_code 8 (some .int) ({ frames := 1, cells := 0, slots := 0, locals := 24 } : Room) #[(.ref a), (.int x)] h0 (fun r h L => r = some (.int (lowestW fP fQ fC fT (chX x) x)) ∧ Fr n0 L ∧ h = h0) := by
  rcases own_in' h4 with rfl | rfl | rfl | rfl
  · exact rm11_1 l Z a0 hw a xn xo xu xv xw xt xm fP fQ fC fT fM fN fO dd ss h0 n0 Z0 hL hP hQ hC hR hLf hr
  · exact rm11_2 l Z a0 hw a xn xo xu xv xw xt xm fP fQ fC fT fM fN fO dd ss h0 n0 Z0 hL hP hQ hC hR hLf hr
  · exact rm11_3 l Z a0 hw a xn xo xu xv xw xt xm fP fQ fC fT fM fN fO dd ss h0 n0 Z0 hL hP hQ hC hR hLf hr
  · exact rm11_4 l Z a0 hw a xn xo xu xv xw xt xm fP fQ fC fT fM fN fO dd ss h0 n0 Z0 hL hP hQ hC hR hLf hr
theorem d6_0 : decode method_2_code 0 = .ok (.iload_n 0, 1) := by decide +kernel
theorem d6_1 : decode method_2_code 1 = .ok (.bipush 24, 2) := by decide +kernel
theorem d6_3 : decode method_2_code 3 = .ok (.iload_n 1, 1) := by decide +kernel
theorem d6_4 : decode method_2_code 4 = .ok (.isub, 1) := by decide +kernel
theorem d6_5 : decode method_2_code 5 = .ok (.ishl, 1) := by decide +kernel
theorem d6_6 : decode method_2_code 6 = .ok (.bipush 24, 2) := by decide +kernel
theorem d6_8 : decode method_2_code 8 = .ok (.ishr, 1) := by decide +kernel
theorem d6_9 : decode method_2_code 9 = .ok (.ireturn, 1) := by decide +kernel
set_option maxRecDepth 65536 in
set_option maxHeartbeats 40000000 in
theorem w6 {p : Program} {l : Launch} {e : Env} {s : State} {m : MethodId} {args : Array Value} {below : List Frame} {meth : Method} {c_ : Code} {T0 : State} {locs : List Loc} {Z : State} {a0 : Array Value} {h0 : Heap} {n0 : Nat} (pv s' : Int32)
    (X0 : Stand p l e ({ frames := 0, cells := 0, slots := 0, locals := 0 } : Room) s m args below meth c_ T0 locs 0 0) (hx : p.tables.exec = Jvm.exec) (hZ : Z.Warmed39 s.vm) (hw : ∀ d ∈ tables_1, d.before a0 Z = true) (hby : c_.code = method_2_code) (hml : c_.maxLocals = 2) (hown : s.vm.findClass "com/example/headroom/headroom/LowerEnvelopePopPinLaw" = some m.cls) (hnm : meth.name = "b8") (hret : meth.sig.returnType = some .int) (hlk : meth.locks = false) (e0 : T0.heap = h0) (Z0 : n0 ≤ h0.size) (N0 : Fr n0 locs)  :
    Go p e below s ({ frames := 0, cells := 0, slots := 0, locals := 0 } : Room).cells ({ frames := 0, cells := 0, slots := 0, locals := 0 } : Room).slots (fun r h L => r = some (.int (b8W pv s')) ∧ Fr n0 L ∧ h = h0) T0 (mkF m 0 #[.val (.int pv), .val (.int s')] []) := by
  show Go _ _ _ _ _ _ _ T0 (mkF m 0 #[.val (.int pv), .val (.int s')] [])
  refine Go.step (fun _ k => XS.iloadN X0.here hx rfl (hb hby d6_0) rfl k) ?_
  refine Go.step (fun _ k => XS.bipush X0.here hx rfl (hb hby d6_1) k) ?_
  refine Go.step (fun _ k => XS.iloadN X0.here hx rfl (hb hby d6_3) rfl k) ?_
  show Go _ _ _ _ _ _ _ T0 (mkF m 4 #[.val (.int pv), .val (.int s')] [(.int s'), (.int (24 : Int32)), (.int pv)])
  refine Go.step (fun _ k => XS.isub X0.here hx rfl (hb hby d6_4) rfl k) ?_
  show Go _ _ _ _ _ _ _ T0 (mkF m 5 #[.val (.int pv), .val (.int s')] [(.int ((24 : Int32) - s')), (.int pv)])
  refine Go.step (fun _ k => XS.ishl X0.here hx rfl (hb hby d6_5) rfl k) ?_
  show Go _ _ _ _ _ _ _ T0 (mkF m 6 #[.val (.int pv), .val (.int s')] [(.int (pv <<< (((24 : Int32) - s') &&& 31)))])
  refine Go.step (fun _ k => XS.bipush X0.here hx rfl (hb hby d6_6) k) ?_
  refine Go.step (fun _ k => XS.ishr X0.here hx rfl (hb hby d6_8) rfl k) ?_
  show Go _ _ _ _ _ _ _ T0 (mkF m 9 #[.val (.int pv), .val (.int s')] [(.int ((pv <<< (((24 : Int32) - s') &&& 31)) >>> ((24 : Int32) &&& 31)))])
  refine Go.retI X0 hx hlk hret (hb hby d6_9) (by decide) (by decide) ?_
  try rw [e0]
  exact ⟨rfl, N0, rfl⟩
theorem pn_6 : plainName "com/example/headroom/headroom/LowerEnvelopePopPinLaw" = true := by first | (simp [plainName, overriddenIn]; done) | decide +kernel
theorem ef_rm6 (m : MethodId) (pv : Int32) (s' : Int32) : entryFrame m #[(.int pv), (.int s')] 2 = mkF m 0 #[.val (.int pv), .val (.int s')] [] := by first | (simp [entryFrame, mkF, argsToLocals, Value.category]; done) | rfl
theorem rm6 (l : Launch) (Z : State) (a0 : Array Value) (hw : ∀ d ∈ tables_1, d.before a0 Z = true) (pv s' : Int32) (h0 : Heap) (n0 : Nat) (Z0 : n0 ≤ h0.size)  :
    Con l Z (⟨"com/example/headroom/headroom/LowerEnvelopePopPinLaw", "b8", "(II)I"⟩ : MethodName) method_2_code 2 (some .int) ({ frames := 0, cells := 0, slots := 0, locals := 0 } : Room) #[(.int pv), (.int s')] h0 (fun r h L => r = some (.int (b8W pv s')) ∧ Fr n0 L ∧ h = h0) :=
  con_of (plainFor_of_name pn_6) (fun p_ e_ s_ m_ b_ meth_ c_ T_ X_ hx hZ hby hml hown hnm hret hlk e0 => Go.cast (ef_rm6 m_ pv s') (w6 pv s' X_ hx hZ hw hby hml hown hnm hret hlk e0 Z0 (Fr.nil n0) ))
theorem d12_0 : decode method_3_code 0 = .ok (.iload_n 0, 1) := by decide +kernel
theorem d12_1 : decode method_3_code 1 = .ok (.iconst 0, 1) := by decide +kernel
theorem d12_2 : decode method_3_code 2 = .ok (.invokestatic 7, 3) := by decide +kernel
theorem pd_2 : parseMethodDescriptor "(II)I" = some ⟨[.int, .int], some .int⟩ := by decide +kernel
theorem d12_5 : decode method_3_code 5 = .ok (.i2l, 1) := by decide +kernel
theorem d12_6 : decode method_3_code 6 = .ok (.iload_n 0, 1) := by decide +kernel
theorem d12_7 : decode method_3_code 7 = .ok (.bipush 8, 2) := by decide +kernel
theorem d12_9 : decode method_3_code 9 = .ok (.invokestatic 7, 3) := by decide +kernel
theorem d12_12 : decode method_3_code 12 = .ok (.i2l, 1) := by decide +kernel
theorem d12_13 : decode method_3_code 13 = .ok (.iload_n 1, 1) := by decide +kernel
theorem d12_14 : decode method_3_code 14 = .ok (.iload_n 0, 1) := by decide +kernel
theorem d12_15 : decode method_3_code 15 = .ok (.bipush 16, 2) := by decide +kernel
theorem d12_17 : decode method_3_code 17 = .ok (.invokestatic 7, 3) := by decide +kernel
theorem d12_20 : decode method_3_code 20 = .ok (.isub, 1) := by decide +kernel
theorem d12_21 : decode method_3_code 21 = .ok (.i2l, 1) := by decide +kernel
theorem d12_22 : decode method_3_code 22 = .ok (.lmul, 1) := by decide +kernel
theorem d12_23 : decode method_3_code 23 = .ok (.ladd, 1) := by decide +kernel
theorem d12_24 : decode method_3_code 24 = .ok (.lreturn, 1) := by decide +kernel
set_option maxRecDepth 65536 in
set_option maxHeartbeats 40000000 in
theorem w12 {p : Program} {l : Launch} {e : Env} {s : State} {m : MethodId} {args : Array Value} {below : List Frame} {meth : Method} {c_ : Code} {T0 : State} {locs : List Loc} {Z : State} {a0 : Array Value} {h0 : Heap} {n0 : Nat} (pv x : Int32)
    (X0 : Stand p l e ({ frames := 1, cells := 0, slots := 0, locals := 24 } : Room) s m args below meth c_ T0 locs 0 0) (hx : p.tables.exec = Jvm.exec) (hZ : Z.Warmed39 s.vm) (hw : ∀ d ∈ tables_1, d.before a0 Z = true) (hby : c_.code = method_3_code) (hml : c_.maxLocals = 2) (hown : s.vm.findClass "com/example/headroom/headroom/LowerEnvelopePopPinLaw" = some m.cls) (hnm : meth.name = "value") (hret : meth.sig.returnType = some .long) (hlk : meth.locks = false) (e0 : T0.heap = h0) (Z0 : n0 ≤ h0.size) (N0 : Fr n0 locs)  :
    Go p e below s ({ frames := 1, cells := 0, slots := 0, locals := 24 } : Room).cells ({ frames := 1, cells := 0, slots := 0, locals := 24 } : Room).slots (fun r h L => r = some (.long (valW pv x)) ∧ Fr n0 L ∧ h = h0) T0 (mkF m 0 #[.val (.int pv), .val (.int x)] []) := by
  show Go _ _ _ _ _ _ _ T0 (mkF m 0 #[.val (.int pv), .val (.int x)] [])
  refine Go.step (fun _ k => XS.iloadN X0.here hx rfl (hb hby d12_0) rfl k) ?_
  refine Go.step (fun _ k => XS.iconst X0.here hx rfl (hb hby d12_1) k) ?_
  refine Go.callS X0 hx hZ (by rw [hml]; rfl) (y := (⟨"com/example/headroom/headroom/LowerEnvelopePopPinLaw", "b8", "(II)I"⟩ : MethodName)) (argsL := [(.int pv), (.int (0 : Int32))]) (rest := []) hown (hw _ (mI 40 rfl)) (hw _ (mI 41 rfl)) (hw _ (mI 42 rfl)) (hw _ (mI 43 rfl)) (by decide) (rm6 l Z a0 hw pv (0 : Int32) h0 n0 Z0) e0 (hb hby d12_2) (lenOf pd_2 rfl) rfl rfl (W := 0) (Nat.le_of_eq rfl) (by decide) (by decide) (by decide) (by decide) ?_
  intro v1 T1 L1 X1 Q1
  obtain ⟨rfl, N1q, hh1⟩ := Q1
  have N1 := Fr.app N0 N1q
  show Go _ _ _ _ _ _ _ T1 (mkF m 5 #[.val (.int pv), .val (.int x)] [(.int (b8W pv (0 : Int32)))])
  refine Go.step (fun _ k => XS.i2l X1.here hx rfl (hb hby d12_5) rfl k) ?_
  show Go _ _ _ _ _ _ _ T1 (mkF m 6 #[.val (.int pv), .val (.int x)] [(.long ((b8W pv (0 : Int32)).toInt64))])
  refine Go.step (fun _ k => XS.iloadN X1.here hx rfl (hb hby d12_6) rfl k) ?_
  refine Go.step (fun _ k => XS.bipush X1.here hx rfl (hb hby d12_7) k) ?_
  refine Go.callS X1 hx hZ (by rw [hml]; rfl) (y := (⟨"com/example/headroom/headroom/LowerEnvelopePopPinLaw", "b8", "(II)I"⟩ : MethodName)) (argsL := [(.int pv), (.int (8 : Int32))]) (rest := [(.long ((b8W pv (0 : Int32)).toInt64))]) hown (hw _ (mI 40 rfl)) (hw _ (mI 41 rfl)) (hw _ (mI 42 rfl)) (hw _ (mI 43 rfl)) (by decide) (rm6 l Z a0 hw pv (8 : Int32) h0 n0 Z0) hh1 (hb hby d12_9) (lenOf pd_2 rfl) rfl rfl (W := 2) (Nat.le_of_eq rfl) (by decide) (by decide) (by decide) (by decide) ?_
  intro v2 T2 L2 X2 Q2
  obtain ⟨rfl, N2q, hh2⟩ := Q2
  have N2 := Fr.app N1 N2q
  show Go _ _ _ _ _ _ _ T2 (mkF m 12 #[.val (.int pv), .val (.int x)] [(.int (b8W pv (8 : Int32))), (.long ((b8W pv (0 : Int32)).toInt64))])
  refine Go.step (fun _ k => XS.i2l X2.here hx rfl (hb hby d12_12) rfl k) ?_
  show Go _ _ _ _ _ _ _ T2 (mkF m 13 #[.val (.int pv), .val (.int x)] [(.long ((b8W pv (8 : Int32)).toInt64)), (.long ((b8W pv (0 : Int32)).toInt64))])
  refine Go.step (fun _ k => XS.iloadN X2.here hx rfl (hb hby d12_13) rfl k) ?_
  refine Go.step (fun _ k => XS.iloadN X2.here hx rfl (hb hby d12_14) rfl k) ?_
  refine Go.step (fun _ k => XS.bipush X2.here hx rfl (hb hby d12_15) k) ?_
  show Go _ _ _ _ _ _ _ T2 (mkF m 17 #[.val (.int pv), .val (.int x)] [(.int (16 : Int32)), (.int pv), (.int x), (.long ((b8W pv (8 : Int32)).toInt64)), (.long ((b8W pv (0 : Int32)).toInt64))])
  refine Go.callS X2 hx hZ (by rw [hml]; rfl) (y := (⟨"com/example/headroom/headroom/LowerEnvelopePopPinLaw", "b8", "(II)I"⟩ : MethodName)) (argsL := [(.int pv), (.int (16 : Int32))]) (rest := [(.int x), (.long ((b8W pv (8 : Int32)).toInt64)), (.long ((b8W pv (0 : Int32)).toInt64))]) hown (hw _ (mI 40 rfl)) (hw _ (mI 41 rfl)) (hw _ (mI 42 rfl)) (hw _ (mI 43 rfl)) (by decide) (rm6 l Z a0 hw pv (16 : Int32) h0 n0 Z0) hh2 (hb hby d12_17) (lenOf pd_2 rfl) rfl rfl (W := 5) (Nat.le_of_eq rfl) (by decide) (by decide) (by decide) (by decide) ?_
  intro v3 T3 L3 X3 Q3
  obtain ⟨rfl, N3q, hh3⟩ := Q3
  have N3 := Fr.app N2 N3q
  show Go _ _ _ _ _ _ _ T3 (mkF m 20 #[.val (.int pv), .val (.int x)] [(.int (b8W pv (16 : Int32))), (.int x), (.long ((b8W pv (8 : Int32)).toInt64)), (.long ((b8W pv (0 : Int32)).toInt64))])
  refine Go.step (fun _ k => XS.isub X3.here hx rfl (hb hby d12_20) rfl k) ?_
  show Go _ _ _ _ _ _ _ T3 (mkF m 21 #[.val (.int pv), .val (.int x)] [(.int (x - (b8W pv (16 : Int32)))), (.long ((b8W pv (8 : Int32)).toInt64)), (.long ((b8W pv (0 : Int32)).toInt64))])
  refine Go.step (fun _ k => XS.i2l X3.here hx rfl (hb hby d12_21) rfl k) ?_
  show Go _ _ _ _ _ _ _ T3 (mkF m 22 #[.val (.int pv), .val (.int x)] [(.long ((x - (b8W pv (16 : Int32))).toInt64)), (.long ((b8W pv (8 : Int32)).toInt64)), (.long ((b8W pv (0 : Int32)).toInt64))])
  refine Go.step (fun _ k => XS.lmul X3.here hx rfl (hb hby d12_22) rfl k) ?_
  show Go _ _ _ _ _ _ _ T3 (mkF m 23 #[.val (.int pv), .val (.int x)] [(.long (((b8W pv (8 : Int32)).toInt64) * ((x - (b8W pv (16 : Int32))).toInt64))), (.long ((b8W pv (0 : Int32)).toInt64))])
  refine Go.step (fun _ k => XS.ladd X3.here hx rfl (hb hby d12_23) rfl k) ?_
  show Go _ _ _ _ _ _ _ T3 (mkF m 24 #[.val (.int pv), .val (.int x)] [(.long (((b8W pv (0 : Int32)).toInt64) + (((b8W pv (8 : Int32)).toInt64) * ((x - (b8W pv (16 : Int32))).toInt64))))])
  refine Go.retJ X3 hx hlk hret (hb hby d12_24) (by decide) (by decide) ?_
  try rw [hh3]
  exact ⟨rfl, N3, rfl⟩
theorem ef_rm12 (m : MethodId) (pv : Int32) (x : Int32) : entryFrame m #[(.int pv), (.int x)] 2 = mkF m 0 #[.val (.int pv), .val (.int x)] [] := by first | (simp [entryFrame, mkF, argsToLocals, Value.category]; done) | rfl
theorem rm12 (l : Launch) (Z : State) (a0 : Array Value) (hw : ∀ d ∈ tables_1, d.before a0 Z = true) (pv x : Int32) (h0 : Heap) (n0 : Nat) (Z0 : n0 ≤ h0.size)  :
    Con l Z (⟨"com/example/headroom/headroom/LowerEnvelopePopPinLaw", "value", "(II)J"⟩ : MethodName) method_3_code 2 (some .long) ({ frames := 1, cells := 0, slots := 0, locals := 24 } : Room) #[(.int pv), (.int x)] h0 (fun r h L => r = some (.long (valW pv x)) ∧ Fr n0 L ∧ h = h0) :=
  con_of (plainFor_of_name pn_6) (fun p_ e_ s_ m_ b_ meth_ c_ T_ X_ hx hZ hby hml hown hnm hret hlk e0 => Go.cast (ef_rm12 m_ pv x) (w12 pv x X_ hx hZ hw hby hml hown hnm hret hlk e0 Z0 (Fr.nil n0) ))
theorem d3_0 : decode jdk_29_method_65_code 0 = .ok (.iload_n 0, 1) := by decide +kernel
theorem d3_1 : decode jdk_29_method_65_code 1 = .ok (.iload_n 1, 1) := by decide +kernel
theorem d3_2 : decode jdk_29_method_65_code 2 = .ok (.if_icmp .lt 7, 3) := by decide +kernel
theorem d3_5 : decode jdk_29_method_65_code 5 = .ok (.iload_n 0, 1) := by decide +kernel
theorem d3_6 : decode jdk_29_method_65_code 6 = .ok (.goto 4, 3) := by decide +kernel
theorem d3_10 : decode jdk_29_method_65_code 10 = .ok (.ireturn, 1) := by decide +kernel
set_option maxRecDepth 65536 in
set_option maxHeartbeats 40000000 in
theorem w3 {p : Program} {l : Launch} {e : Env} {s : State} {m : MethodId} {args : Array Value} {below : List Frame} {meth : Method} {c_ : Code} {T0 : State} {locs : List Loc} {Z : State} {a0 : Array Value} {h0 : Heap} {n0 : Nat} 
    (X0 : Stand p l e ({ frames := 0, cells := 0, slots := 0, locals := 0 } : Room) s m args below meth c_ T0 locs 0 0) (hx : p.tables.exec = Jvm.exec) (hZ : Z.Warmed39 s.vm) (hw : ∀ d ∈ tables_1, d.before a0 Z = true) (hby : c_.code = jdk_29_method_65_code) (hml : c_.maxLocals = 2) (hown : s.vm.findClass "java/lang/Math" = some m.cls) (hnm : meth.name = "max") (hret : meth.sig.returnType = some .int) (hlk : meth.locks = false) (e0 : T0.heap = h0) (Z0 : n0 ≤ h0.size) (N0 : Fr n0 locs)  :
    Go p e below s ({ frames := 0, cells := 0, slots := 0, locals := 0 } : Room).cells ({ frames := 0, cells := 0, slots := 0, locals := 0 } : Room).slots (fun r h L => r = some (.int (4 : Int32)) ∧ Fr n0 L ∧ h = h0) T0 (mkF m 0 #[.val (.int (4 : Int32)), .val (.int (1 : Int32))] []) := by
  show Go _ _ _ _ _ _ _ T0 (mkF m 0 #[.val (.int (4 : Int32)), .val (.int (1 : Int32))] [])
  refine Go.step (fun _ k => XS.iloadN X0.here hx rfl (hb hby d3_0) rfl k) ?_
  refine Go.step (fun _ k => XS.iloadN X0.here hx rfl (hb hby d3_1) rfl k) ?_
  refine Go.step (fun _ k => XS.icmpNo X0.here hx rfl (hb hby d3_2) rfl (flt (by decide : ¬ ((4 : Int32) < (1 : Int32)))).1 k) ?_
  show Go _ _ _ _ _ _ _ T0 (mkF m 5 #[.val (.int (4 : Int32)), .val (.int (1 : Int32))] [])
  refine Go.step (fun _ k => XS.iloadN X0.here hx rfl (hb hby d3_5) rfl k) ?_
  refine Go.step (fun _ k => XS.goto X0.here hx rfl (pc0 := 6) (pc' := 10) rfl (hb hby d3_6) (by decide) (by decide) k) ?_
  show Go _ _ _ _ _ _ _ T0 (mkF m 10 #[.val (.int (4 : Int32)), .val (.int (1 : Int32))] [(.int (4 : Int32))])
  refine Go.retI X0 hx hlk hret (hb hby d3_10) (by decide) (by decide) ?_
  try rw [e0]
  exact ⟨congrArg (fun z => some (Value.int z)) (by decide), N0, rfl⟩
theorem ef_rm3 (m : MethodId)  : entryFrame m #[(.int (4 : Int32)), (.int (1 : Int32))] 2 = mkF m 0 #[.val (.int (4 : Int32)), .val (.int (1 : Int32))] [] := by first | (simp [entryFrame, mkF, argsToLocals, Value.category]; done) | rfl
theorem rm3 (l : Launch) (Z : State) (a0 : Array Value) (hw : ∀ d ∈ tables_1, d.before a0 Z = true)  (h0 : Heap) (n0 : Nat) (Z0 : n0 ≤ h0.size)  :
    Con l Z (⟨"java/lang/Math", "max", "(II)I"⟩ : MethodName) jdk_29_method_65_code 2 (some .int) ({ frames := 0, cells := 0, slots := 0, locals := 0 } : Room) #[(.int (4 : Int32)), (.int (1 : Int32))] h0 (fun r h L => r = some (.int (4 : Int32)) ∧ Fr n0 L ∧ h = h0) :=
  con_of (Jvm.Free.JP.mathPlain rfl (by decide +kernel)) (fun p_ e_ s_ m_ b_ meth_ c_ T_ X_ hx hZ hby hml hown hnm hret hlk e0 => Go.cast (ef_rm3 m_ ) (w3  X_ hx hZ hw hby hml hown hnm hret hlk e0 Z0 (Fr.nil n0) ))
theorem d5_0 : decode jdk_33_method_47_code 0 = .ok (.iload_n 0, 1) := by decide +kernel
theorem d5_1 : decode jdk_33_method_47_code 1 = .ok (.ifCond .gt 14, 3) := by decide +kernel
theorem d5_15 : decode jdk_33_method_47_code 15 = .ok (.bipush 31, 2) := by decide +kernel
theorem d5_17 : decode jdk_33_method_47_code 17 = .ok (.istore_n 1, 1) := by decide +kernel
theorem d5_18 : decode jdk_33_method_47_code 18 = .ok (.iload_n 0, 1) := by decide +kernel
theorem d5_19 : decode jdk_33_method_47_code 19 = .ok (.ldc_w 264, 3) := by decide +kernel
theorem d5_22 : decode jdk_33_method_47_code 22 = .ok (.if_icmp .lt 11, 3) := by decide +kernel
theorem d5_33 : decode jdk_33_method_47_code 33 = .ok (.iload_n 0, 1) := by decide +kernel
theorem d5_34 : decode jdk_33_method_47_code 34 = .ok (.sipush 256, 3) := by decide +kernel
theorem d5_37 : decode jdk_33_method_47_code 37 = .ok (.if_icmp .lt 11, 3) := by decide +kernel
theorem d5_48 : decode jdk_33_method_47_code 48 = .ok (.iload_n 0, 1) := by decide +kernel
theorem d5_49 : decode jdk_33_method_47_code 49 = .ok (.bipush 16, 2) := by decide +kernel
theorem d5_51 : decode jdk_33_method_47_code 51 = .ok (.if_icmp .lt 10, 3) := by decide +kernel
theorem d5_61 : decode jdk_33_method_47_code 61 = .ok (.iload_n 0, 1) := by decide +kernel
theorem d5_62 : decode jdk_33_method_47_code 62 = .ok (.iconst 4, 1) := by decide +kernel
theorem d5_63 : decode jdk_33_method_47_code 63 = .ok (.if_icmp .lt 10, 3) := by decide +kernel
theorem d5_66 : decode jdk_33_method_47_code 66 = .ok (.iinc 1 (-2), 3) := by decide +kernel
theorem d5_69 : decode jdk_33_method_47_code 69 = .ok (.iload_n 0, 1) := by decide +kernel
theorem d5_70 : decode jdk_33_method_47_code 70 = .ok (.iconst 2, 1) := by decide +kernel
theorem d5_71 : decode jdk_33_method_47_code 71 = .ok (.iushr, 1) := by decide +kernel
theorem d5_72 : decode jdk_33_method_47_code 72 = .ok (.istore_n 0, 1) := by decide +kernel
theorem d5_73 : decode jdk_33_method_47_code 73 = .ok (.iload_n 1, 1) := by decide +kernel
theorem d5_74 : decode jdk_33_method_47_code 74 = .ok (.iload_n 0, 1) := by decide +kernel
theorem d5_75 : decode jdk_33_method_47_code 75 = .ok (.iconst 1, 1) := by decide +kernel
theorem d5_76 : decode jdk_33_method_47_code 76 = .ok (.iushr, 1) := by decide +kernel
theorem d5_77 : decode jdk_33_method_47_code 77 = .ok (.isub, 1) := by decide +kernel
theorem d5_78 : decode jdk_33_method_47_code 78 = .ok (.ireturn, 1) := by decide +kernel
set_option maxRecDepth 65536 in
set_option maxHeartbeats 40000000 in
theorem w5 {p : Program} {l : Launch} {e : Env} {s : State} {m : MethodId} {args : Array Value} {below : List Frame} {meth : Method} {c_ : Code} {T0 : State} {locs : List Loc} {Z : State} {a0 : Array Value} {h0 : Heap} {n0 : Nat} 
    (X0 : Stand p l e ({ frames := 0, cells := 0, slots := 0, locals := 0 } : Room) s m args below meth c_ T0 locs 0 0) (hx : p.tables.exec = Jvm.exec) (hZ : Z.Warmed39 s.vm) (hw : ∀ d ∈ tables_1, d.before a0 Z = true) (hby : c_.code = jdk_33_method_47_code) (hml : c_.maxLocals = 2) (hown : s.vm.findClass "java/lang/Integer" = some m.cls) (hnm : meth.name = "numberOfLeadingZeros") (hret : meth.sig.returnType = some .int) (hlk : meth.locks = false) (e0 : T0.heap = h0) (Z0 : n0 ≤ h0.size) (N0 : Fr n0 locs)  :
    Go p e below s ({ frames := 0, cells := 0, slots := 0, locals := 0 } : Room).cells ({ frames := 0, cells := 0, slots := 0, locals := 0 } : Room).slots (fun r h L => r = some (.int (29 : Int32)) ∧ Fr n0 L ∧ h = h0) T0 (mkF m 0 #[.val (.int (7 : Int32)), .unset] []) := by
  show Go _ _ _ _ _ _ _ T0 (mkF m 0 #[.val (.int (7 : Int32)), .unset] [])
  refine Go.step (fun _ k => XS.iloadN X0.here hx rfl (hb hby d5_0) rfl k) ?_
  refine Go.step (fun _ k => XS.ifYes X0.here hx rfl (pc0 := 1) (pc' := 15) rfl (hb hby d5_1) rfl ((if0 _ _).trans (tlt (by decide : (0 : Int32) < (7 : Int32))).2.2.1) (by decide) (by decide) k) ?_
  show Go _ _ _ _ _ _ _ T0 (mkF m 15 #[.val (.int (7 : Int32)), .unset] [])
  refine Go.step (fun _ k => XS.bipush X0.here hx rfl (hb hby d5_15) k) ?_
  refine Go.step (fun _ k => XS.istoreN X0.here hx rfl (hb hby d5_17) rfl (l' := #[.val (.int (7 : Int32)), .val (.int (31 : Int32))]) rfl k) ?_
  show Go _ _ _ _ _ _ _ T0 (mkF m 18 #[.val (.int (7 : Int32)), .val (.int (31 : Int32))] [])
  refine Go.step (fun _ k => XS.iloadN X0.here hx rfl (hb hby d5_18) rfl k) ?_
  refine Go.step (X0.ldcwInt hx hown (mvT hZ (hw _ (mI 26 rfl))) (g := (mkF m 19 #[.val (.int (7 : Int32)), .val (.int (31 : Int32))] [(.int (7 : Int32))])) rfl (hb hby d5_19)) ?_
  show Go _ _ _ _ _ _ _ T0 (mkF m 22 #[.val (.int (7 : Int32)), .val (.int (31 : Int32))] [(.int (65536 : Int32)), (.int (7 : Int32))])
  refine Go.step (fun _ k => XS.icmpYes X0.here hx rfl (pc0 := 22) (pc' := 33) rfl (hb hby d5_22) rfl (tlt (by decide : (7 : Int32) < (65536 : Int32))).1 (by decide) (by decide) k) ?_
  show Go _ _ _ _ _ _ _ T0 (mkF m 33 #[.val (.int (7 : Int32)), .val (.int (31 : Int32))] [])
  refine Go.step (fun _ k => XS.iloadN X0.here hx rfl (hb hby d5_33) rfl k) ?_
  refine Go.step (fun _ k => XS.sipush X0.here hx rfl (hb hby d5_34) k) ?_
  refine Go.step (fun _ k => XS.icmpYes X0.here hx rfl (pc0 := 37) (pc' := 48) rfl (hb hby d5_37) rfl (tlt (by decide : (7 : Int32) < (256 : Int32))).1 (by decide) (by decide) k) ?_
  show Go _ _ _ _ _ _ _ T0 (mkF m 48 #[.val (.int (7 : Int32)), .val (.int (31 : Int32))] [])
  refine Go.step (fun _ k => XS.iloadN X0.here hx rfl (hb hby d5_48) rfl k) ?_
  refine Go.step (fun _ k => XS.bipush X0.here hx rfl (hb hby d5_49) k) ?_
  refine Go.step (fun _ k => XS.icmpYes X0.here hx rfl (pc0 := 51) (pc' := 61) rfl (hb hby d5_51) rfl (tlt (by decide : (7 : Int32) < (16 : Int32))).1 (by decide) (by decide) k) ?_
  show Go _ _ _ _ _ _ _ T0 (mkF m 61 #[.val (.int (7 : Int32)), .val (.int (31 : Int32))] [])
  refine Go.step (fun _ k => XS.iloadN X0.here hx rfl (hb hby d5_61) rfl k) ?_
  refine Go.step (fun _ k => XS.iconst X0.here hx rfl (hb hby d5_62) k) ?_
  refine Go.step (fun _ k => XS.icmpNo X0.here hx rfl (hb hby d5_63) rfl (flt (by decide : ¬ ((7 : Int32) < (4 : Int32)))).1 k) ?_
  show Go _ _ _ _ _ _ _ T0 (mkF m 66 #[.val (.int (7 : Int32)), .val (.int (31 : Int32))] [])
  refine Go.step (fun _ k => XS.iinc X0.here hx rfl (hb hby d5_66) rfl (l' := #[.val (.int (7 : Int32)), .val (.int (29 : Int32))]) rfl k) ?_
  show Go _ _ _ _ _ _ _ T0 (mkF m 69 #[.val (.int (7 : Int32)), .val (.int (29 : Int32))] [])
  refine Go.step (fun _ k => XS.iloadN X0.here hx rfl (hb hby d5_69) rfl k) ?_
  refine Go.step (fun _ k => XS.iconst X0.here hx rfl (hb hby d5_70) k) ?_
  refine Go.step (fun _ k => XS.iushr X0.here hx rfl (hb hby d5_71) rfl k) ?_
  show Go _ _ _ _ _ _ _ T0 (mkF m 72 #[.val (.int (7 : Int32)), .val (.int (29 : Int32))] [(.int (1 : Int32))])
  refine Go.step (fun _ k => XS.istoreN X0.here hx rfl (hb hby d5_72) rfl (l' := #[.val (.int (1 : Int32)), .val (.int (29 : Int32))]) rfl k) ?_
  show Go _ _ _ _ _ _ _ T0 (mkF m 73 #[.val (.int (1 : Int32)), .val (.int (29 : Int32))] [])
  refine Go.step (fun _ k => XS.iloadN X0.here hx rfl (hb hby d5_73) rfl k) ?_
  refine Go.step (fun _ k => XS.iloadN X0.here hx rfl (hb hby d5_74) rfl k) ?_
  refine Go.step (fun _ k => XS.iconst X0.here hx rfl (hb hby d5_75) k) ?_
  show Go _ _ _ _ _ _ _ T0 (mkF m 76 #[.val (.int (1 : Int32)), .val (.int (29 : Int32))] [(.int (1 : Int32)), (.int (1 : Int32)), (.int (29 : Int32))])
  refine Go.step (fun _ k => XS.iushr X0.here hx rfl (hb hby d5_76) rfl k) ?_
  show Go _ _ _ _ _ _ _ T0 (mkF m 77 #[.val (.int (1 : Int32)), .val (.int (29 : Int32))] [(.int (0 : Int32)), (.int (29 : Int32))])
  refine Go.step (fun _ k => XS.isub X0.here hx rfl (hb hby d5_77) rfl k) ?_
  show Go _ _ _ _ _ _ _ T0 (mkF m 78 #[.val (.int (1 : Int32)), .val (.int (29 : Int32))] [(.int (29 : Int32))])
  refine Go.retI X0 hx hlk hret (hb hby d5_78) (by decide) (by decide) ?_
  try rw [e0]
  exact ⟨congrArg (fun z => some (Value.int z)) (by decide), N0, rfl⟩
theorem pn_5 : plainName "java/lang/Integer" = true := by first | (simp [plainName, overriddenIn]; done) | decide +kernel
theorem ef_rm5 (m : MethodId)  : entryFrame m #[(.int (7 : Int32))] 2 = mkF m 0 #[.val (.int (7 : Int32)), .unset] [] := by first | (simp [entryFrame, mkF, argsToLocals, Value.category]; done) | rfl
theorem rm5 (l : Launch) (Z : State) (a0 : Array Value) (hw : ∀ d ∈ tables_1, d.before a0 Z = true)  (h0 : Heap) (n0 : Nat) (Z0 : n0 ≤ h0.size)  :
    Con l Z (⟨"java/lang/Integer", "numberOfLeadingZeros", "(I)I"⟩ : MethodName) jdk_33_method_47_code 2 (some .int) ({ frames := 0, cells := 0, slots := 0, locals := 0 } : Room) #[(.int (7 : Int32))] h0 (fun r h L => r = some (.int (29 : Int32)) ∧ Fr n0 L ∧ h = h0) :=
  con_of (plainFor_of_name pn_5) (fun p_ e_ s_ m_ b_ meth_ c_ T_ X_ hx hZ hby hml hown hnm hret hlk e0 => Go.cast (ef_rm5 m_ ) (w5  X_ hx hZ hw hby hml hown hnm hret hlk e0 Z0 (Fr.nil n0) ))
theorem d4_0 : decode jdk_33_method_45_code 0 = .ok (.iload_n 0, 1) := by decide +kernel
theorem d4_1 : decode jdk_33_method_45_code 1 = .ok (.ldc 127, 2) := by decide +kernel
theorem d4_3 : decode jdk_33_method_45_code 3 = .ok (.iload_n 0, 1) := by decide +kernel
theorem d4_4 : decode jdk_33_method_45_code 4 = .ok (.invokestatic 51, 3) := by decide +kernel
theorem pd_3 : parseMethodDescriptor "(I)I" = some ⟨[.int], some .int⟩ := by decide +kernel
theorem d4_7 : decode jdk_33_method_45_code 7 = .ok (.iushr, 1) := by decide +kernel
theorem d4_8 : decode jdk_33_method_45_code 8 = .ok (.iand, 1) := by decide +kernel
theorem d4_9 : decode jdk_33_method_45_code 9 = .ok (.ireturn, 1) := by decide +kernel
set_option maxRecDepth 65536 in
set_option maxHeartbeats 40000000 in
theorem w4 {p : Program} {l : Launch} {e : Env} {s : State} {m : MethodId} {args : Array Value} {below : List Frame} {meth : Method} {c_ : Code} {T0 : State} {locs : List Loc} {Z : State} {a0 : Array Value} {h0 : Heap} {n0 : Nat} 
    (X0 : Stand p l e ({ frames := 1, cells := 0, slots := 0, locals := 20 } : Room) s m args below meth c_ T0 locs 0 0) (hx : p.tables.exec = Jvm.exec) (hZ : Z.Warmed39 s.vm) (hw : ∀ d ∈ tables_1, d.before a0 Z = true) (hby : c_.code = jdk_33_method_45_code) (hml : c_.maxLocals = 1) (hown : s.vm.findClass "java/lang/Integer" = some m.cls) (hnm : meth.name = "highestOneBit") (hret : meth.sig.returnType = some .int) (hlk : meth.locks = false) (e0 : T0.heap = h0) (Z0 : n0 ≤ h0.size) (N0 : Fr n0 locs)  :
    Go p e below s ({ frames := 1, cells := 0, slots := 0, locals := 20 } : Room).cells ({ frames := 1, cells := 0, slots := 0, locals := 20 } : Room).slots (fun r h L => r = some (.int (4 : Int32)) ∧ Fr n0 L ∧ h = h0) T0 (mkF m 0 #[.val (.int (7 : Int32))] []) := by
  show Go _ _ _ _ _ _ _ T0 (mkF m 0 #[.val (.int (7 : Int32))] [])
  refine Go.step (fun _ k => XS.iloadN X0.here hx rfl (hb hby d4_0) rfl k) ?_
  refine Go.step (X0.ldcInt hx hown (mvT hZ (hw _ (mI 22 rfl))) (g := (mkF m 1 #[.val (.int (7 : Int32))] [(.int (7 : Int32))])) rfl (hb hby d4_1)) ?_
  show Go _ _ _ _ _ _ _ T0 (mkF m 3 #[.val (.int (7 : Int32))] [(.int (-2147483648 : Int32)), (.int (7 : Int32))])
  refine Go.step (fun _ k => XS.iloadN X0.here hx rfl (hb hby d4_3) rfl k) ?_
  refine Go.callS X0 hx hZ (by rw [hml]; rfl) (y := (⟨"java/lang/Integer", "numberOfLeadingZeros", "(I)I"⟩ : MethodName)) (argsL := [(.int (7 : Int32))]) (rest := [(.int (-2147483648 : Int32)), (.int (7 : Int32))]) hown (hw _ (mI 23 rfl)) (hw _ (mI 24 rfl)) (hw _ (mI 20 rfl)) (hw _ (mI 25 rfl)) (by decide) (rm5 l Z a0 hw h0 n0 Z0) e0 (hb hby d4_4) (lenOf pd_3 rfl) rfl rfl (W := 2) (Nat.le_of_eq rfl) (by decide) (by decide) (by decide) (by decide) ?_
  intro v1 T1 L1 X1 Q1
  obtain ⟨rfl, N1q, hh1⟩ := Q1
  have N1 := Fr.app N0 N1q
  show Go _ _ _ _ _ _ _ T1 (mkF m 7 #[.val (.int (7 : Int32))] [(.int (29 : Int32)), (.int (-2147483648 : Int32)), (.int (7 : Int32))])
  refine Go.step (fun _ k => XS.iushr X1.here hx rfl (hb hby d4_7) rfl k) ?_
  show Go _ _ _ _ _ _ _ T1 (mkF m 8 #[.val (.int (7 : Int32))] [(.int (4 : Int32)), (.int (7 : Int32))])
  refine Go.step (fun _ k => XS.iand X1.here hx rfl (hb hby d4_8) rfl k) ?_
  show Go _ _ _ _ _ _ _ T1 (mkF m 9 #[.val (.int (7 : Int32))] [(.int (4 : Int32))])
  refine Go.retI X1 hx hlk hret (hb hby d4_9) (by decide) (by decide) ?_
  try rw [hh1]
  exact ⟨congrArg (fun z => some (Value.int z)) (by decide), N1, rfl⟩
theorem ef_rm4 (m : MethodId)  : entryFrame m #[(.int (7 : Int32))] 1 = mkF m 0 #[.val (.int (7 : Int32))] [] := by first | (simp [entryFrame, mkF, argsToLocals, Value.category]; done) | rfl
theorem rm4 (l : Launch) (Z : State) (a0 : Array Value) (hw : ∀ d ∈ tables_1, d.before a0 Z = true)  (h0 : Heap) (n0 : Nat) (Z0 : n0 ≤ h0.size)  :
    Con l Z (⟨"java/lang/Integer", "highestOneBit", "(I)I"⟩ : MethodName) jdk_33_method_45_code 1 (some .int) ({ frames := 1, cells := 0, slots := 0, locals := 20 } : Room) #[(.int (7 : Int32))] h0 (fun r h L => r = some (.int (4 : Int32)) ∧ Fr n0 L ∧ h = h0) :=
  con_of (plainFor_of_name pn_5) (fun p_ e_ s_ m_ b_ meth_ c_ T_ X_ hx hZ hby hml hown hnm hret hlk e0 => Go.cast (ef_rm4 m_ ) (w4  X_ hx hZ hw hby hml hown hnm hret hlk e0 Z0 (Fr.nil n0) ))
theorem d1_0 : decode prog_15_method_1_code 0 = .ok (.aload_n 0, 1) := by decide +kernel
theorem d1_1 : decode prog_15_method_1_code 1 = .ok (.invokespecial 1, 3) := by decide +kernel
theorem d1_4 : decode prog_15_method_1_code 4 = .ok (.aload_n 0, 1) := by decide +kernel
theorem d1_5 : decode prog_15_method_1_code 5 = .ok (.bipush 64, 2) := by decide +kernel
theorem d1_7 : decode prog_15_method_1_code 7 = .ok (.newarray .int, 2) := by decide +kernel
theorem d1_9 : decode prog_15_method_1_code 9 = .ok (.putfield 7, 3) := by decide +kernel
theorem d1_12 : decode prog_15_method_1_code 12 = .ok (.aload_n 0, 1) := by decide +kernel
theorem d1_13 : decode prog_15_method_1_code 13 = .ok (.bipush 64, 2) := by decide +kernel
theorem d1_15 : decode prog_15_method_1_code 15 = .ok (.newarray .int, 2) := by decide +kernel
theorem d1_17 : decode prog_15_method_1_code 17 = .ok (.putfield 13, 3) := by decide +kernel
theorem d1_20 : decode prog_15_method_1_code 20 = .ok (.aload_n 0, 1) := by decide +kernel
theorem d1_21 : decode prog_15_method_1_code 21 = .ok (.iload_n 1, 1) := by decide +kernel
theorem d1_22 : decode prog_15_method_1_code 22 = .ok (.iconst 1, 1) := by decide +kernel
theorem d1_23 : decode prog_15_method_1_code 23 = .ok (.invokestatic 16, 3) := by decide +kernel
theorem d1_26 : decode prog_15_method_1_code 26 = .ok (.iconst 2, 1) := by decide +kernel
theorem d1_27 : decode prog_15_method_1_code 27 = .ok (.imul, 1) := by decide +kernel
theorem d1_28 : decode prog_15_method_1_code 28 = .ok (.iconst 1, 1) := by decide +kernel
theorem d1_29 : decode prog_15_method_1_code 29 = .ok (.isub, 1) := by decide +kernel
theorem d1_30 : decode prog_15_method_1_code 30 = .ok (.invokestatic 22, 3) := by decide +kernel
theorem d1_33 : decode prog_15_method_1_code 33 = .ok (.putfield 28, 3) := by decide +kernel
theorem d1_36 : decode prog_15_method_1_code 36 = .ok (.aload_n 0, 1) := by decide +kernel
theorem d1_37 : decode prog_15_method_1_code 37 = .ok (.iload_n 1, 1) := by decide +kernel
theorem d1_38 : decode prog_15_method_1_code 38 = .ok (.iconst 1, 1) := by decide +kernel
theorem d1_39 : decode prog_15_method_1_code 39 = .ok (.iadd, 1) := by decide +kernel
theorem d1_40 : decode prog_15_method_1_code 40 = .ok (.newarray .double, 2) := by decide +kernel
theorem d1_42 : decode prog_15_method_1_code 42 = .ok (.putfield 32, 3) := by decide +kernel
theorem d1_45 : decode prog_15_method_1_code 45 = .ok (.aload_n 0, 1) := by decide +kernel
theorem d1_46 : decode prog_15_method_1_code 46 = .ok (.iload_n 1, 1) := by decide +kernel
theorem d1_47 : decode prog_15_method_1_code 47 = .ok (.iconst 1, 1) := by decide +kernel
theorem d1_48 : decode prog_15_method_1_code 48 = .ok (.iadd, 1) := by decide +kernel
theorem d1_49 : decode prog_15_method_1_code 49 = .ok (.newarray .double, 2) := by decide +kernel
theorem d1_51 : decode prog_15_method_1_code 51 = .ok (.putfield 36, 3) := by decide +kernel
theorem d1_54 : decode prog_15_method_1_code 54 = .ok (.aload_n 0, 1) := by decide +kernel
theorem d1_55 : decode prog_15_method_1_code 55 = .ok (.iload_n 1, 1) := by decide +kernel
theorem d1_56 : decode prog_15_method_1_code 56 = .ok (.iconst 1, 1) := by decide +kernel
theorem d1_57 : decode prog_15_method_1_code 57 = .ok (.iadd, 1) := by decide +kernel
theorem d1_58 : decode prog_15_method_1_code 58 = .ok (.newarray .int, 2) := by decide +kernel
theorem d1_60 : decode prog_15_method_1_code 60 = .ok (.putfield 39, 3) := by decide +kernel
theorem d1_63 : decode prog_15_method_1_code 63 = .ok (.aload_n 0, 1) := by decide +kernel
theorem d1_64 : decode prog_15_method_1_code 64 = .ok (.iconst 2, 1) := by decide +kernel
theorem d1_65 : decode prog_15_method_1_code 65 = .ok (.aload_n 0, 1) := by decide +kernel
theorem d1_66 : decode prog_15_method_1_code 66 = .ok (.getfield 28, 3) := by decide +kernel
theorem d1_69 : decode prog_15_method_1_code 69 = .ok (.imul, 1) := by decide +kernel
theorem d1_70 : decode prog_15_method_1_code 70 = .ok (.newarray .int, 2) := by decide +kernel
theorem d1_72 : decode prog_15_method_1_code 72 = .ok (.putfield 42, 3) := by decide +kernel
theorem d1_75 : decode prog_15_method_1_code 75 = .ok (.aload_n 0, 1) := by decide +kernel
theorem d1_76 : decode prog_15_method_1_code 76 = .ok (.iload_n 1, 1) := by decide +kernel
theorem d1_77 : decode prog_15_method_1_code 77 = .ok (.newarray .int, 2) := by decide +kernel
theorem d1_79 : decode prog_15_method_1_code 79 = .ok (.putfield 45, 3) := by decide +kernel
theorem d1_82 : decode prog_15_method_1_code 82 = .ok (.return_, 1) := by decide +kernel
set_option maxRecDepth 65536 in
set_option maxHeartbeats 40000000 in
theorem w1 {p : Program} {l : Launch} {e : Env} {s : State} {m : MethodId} {args : Array Value} {below : List Frame} {meth : Method} {c_ : Code} {T0 : State} {locs : List Loc} {Z : State} {a0 : Array Value} {h0 : Heap} {n0 : Nat} (a : Addr)
    (X0 : Stand p l e ({ frames := 2, cells := 7, slots := 155, locals := 48 } : Room) s m args below meth c_ T0 locs 0 0) (hx : p.tables.exec = Jvm.exec) (hZ : Z.Warmed39 s.vm) (hw : ∀ d ∈ tables_1, d.before a0 Z = true) (hby : c_.code = prog_15_method_1_code) (hml : c_.maxLocals = 2) (hown : s.vm.findClass "com/example/headroom/headroom/LowerEnvelope" = some m.cls) (hnm : meth.name = "<init>") (hret : meth.sig.returnType = none) (hlk : meth.locks = false) (e0 : T0.heap = h0) (Z0 : n0 ≤ h0.size) (N0 : Fr n0 locs) (E_a : Exa Z h0 a "com/example/headroom/headroom/LowerEnvelope") (F_changedNode_a : Fld Z h0 a "com/example/headroom/headroom/LowerEnvelope" "changedNode" "[I" .null) (F_changedLine_a : Fld Z h0 a "com/example/headroom/headroom/LowerEnvelope" "changedLine" "[I" .null) (F_base_a : Fld Z h0 a "com/example/headroom/headroom/LowerEnvelope" "base" "[D" .null) (F_slope_a : Fld Z h0 a "com/example/headroom/headroom/LowerEnvelope" "slope" "[D" .null) (F_origin_a : Fld Z h0 a "com/example/headroom/headroom/LowerEnvelope" "origin" "[I" .null) (F_node_a : Fld Z h0 a "com/example/headroom/headroom/LowerEnvelope" "node" "[I" .null) (F_pushedAt_a : Fld Z h0 a "com/example/headroom/headroom/LowerEnvelope" "pushedAt" "[I" .null) (F_width_a : Fld Z h0 a "com/example/headroom/headroom/LowerEnvelope" "width" "I" (.int (0 : Int32))) (F_pushes_a : Fld Z h0 a "com/example/headroom/headroom/LowerEnvelope" "pushes" "I" (.int (0 : Int32))) (F_changes_a : Fld Z h0 a "com/example/headroom/headroom/LowerEnvelope" "changes" "I" (.int (0 : Int32))) (ge_a : n0 ≤ a) :
    Go p e below s ({ frames := 2, cells := 7, slots := 155, locals := 48 } : Room).cells ({ frames := 2, cells := 7, slots := 155, locals := 48 } : Room).slots (fun r h L => r = none ∧ Fr n0 L ∧ Keep h0 h [a] ∧ ∃ xn xo xu xv xw xt xm : Addr, LEs Z h a xn xo xu xv xw xt xm (fun _ => (0 : Int32)) (fun _ => (0 : Int32)) (fun _ => (0 : Int32)) (fun _ => (0 : Int32)) (fun _ => (0 : Int32)) (fun _ => (0 : Int32)) (fun _ => (0 : Int32)) 0 0 ∧ Dst n0 a xn xo xu xv xw xt xm ∧ h0.size ≤ xn ∧ h0.size ≤ xo ∧ h0.size ≤ xu ∧ h0.size ≤ xv ∧ h0.size ≤ xw ∧ h0.size ≤ xt ∧ h0.size ≤ xm) T0 (mkF m 0 #[.val (.ref a), .val (.int (4 : Int32))] []) := by
  show Go _ _ _ _ _ _ _ T0 (mkF m 0 #[.val (.ref a), .val (.int (4 : Int32))] [])
  refine Go.step (fun _ k => XS.aloadN X0.here hx rfl (hb hby d1_0) rfl rfl k) ?_
  obtain ⟨T1, X1, e1, st1⟩ := initO X0 hx hZ hown (hw _ (mI 6 rfl)) (hw _ (mI 7 rfl)) (hw _ (mI 8 rfl)) e0 (g := (mkF m 1 #[.val (.ref a), .val (.int (4 : Int32))] [(.ref a)])) rfl (by rw [hml]; rfl) rfl (hb hby d1_1) (by decide) (W := 0) (by show 2 * 0 + _ ≤ _; exact Nat.le_of_eq rfl) (by decide)
  refine Go.step st1 ?_
  show Go _ _ _ _ _ _ _ T1 (mkF m 4 #[.val (.ref a), .val (.int (4 : Int32))] [])
  refine Go.step (fun _ k => XS.aloadN X1.here hx rfl (hb hby d1_4) rfl rfl k) ?_
  refine Go.step (fun _ k => XS.bipush X1.here hx rfl (hb hby d1_5) k) ?_
  obtain ⟨T2, h2, k2, X2, e2, E2, A2, st2⟩ := newP X1 hx hZ (hw _ (mI 9 rfl)) e1 (g := (mkF m 7 #[.val (.ref a), .val (.int (4 : Int32))] [(.int (64 : Int32)), (.ref a)])) rfl (hb hby d1_7) rfl (by decide) (cap := 64) (by decide) (by decide) (by decide) (by decide)
  obtain ⟨b2, g2⟩ : ∃ z, z = h0.size := ⟨_, rfl⟩
  rw [← g2] at A2 st2
  refine Go.step st2 ?_
  have K2 : Keep h0 h2 [a] := (Keep.refl h0 [a]).ext E2
  have sz_b2 : h0.size ≤ b2 := Nat.le_trans ((Keep.refl h0 [a]) : Keep h0 h0 [a]).1 (Nat.le_of_eq g2.symm)
  have ge_b2 : n0 ≤ b2 := Nat.le_trans Z0 sz_b2
  have ne_a_b2 : a ≠ b2 := Nat.ne_of_lt (Nat.lt_of_lt_of_le E_a.lt (Nat.le_of_eq g2.symm))
  have E_a_2 := E_a.ext E2
  have F_changedNode_a_2 := F_changedNode_a.ext E2
  have F_changedLine_a_2 := F_changedLine_a.ext E2
  have F_base_a_2 := F_base_a.ext E2
  have F_slope_a_2 := F_slope_a.ext E2
  have F_origin_a_2 := F_origin_a.ext E2
  have F_node_a_2 := F_node_a.ext E2
  have F_pushedAt_a_2 := F_pushedAt_a.ext E2
  have F_width_a_2 := F_width_a.ext E2
  have F_pushes_a_2 := F_pushes_a.ext E2
  have F_changes_a_2 := F_changes_a.ext E2
  have V_b2 : Iv Z h2 b2 (64 : Int32) (fun _ => (0 : Int32)) := Fv.new A2 (by decide)
  show Go _ _ _ _ _ _ _ T2 (mkF m 9 #[.val (.ref a), .val (.int (4 : Int32))] [(.ref b2), (.ref a)])
  obtain ⟨T3, h3, X3, e3, W3, st3⟩ := putF X2 hx hZ hown (host := "") (Or.inl (hw _ (mI 10 rfl))) Via.refl e2 F_changedNode_a_2 E_a_2 (Or.inl (hw _ (mI 11 rfl))) (hw _ (mI 1 rfl)) (ty := (.array .int)) (by decide) rfl rfl (g := (mkF m 9 #[.val (.ref a), .val (.int (4 : Int32))] [(.ref b2), (.ref a)])) rfl rfl (hb hby d1_9)
  refine Go.step st3 ?_
  have N3 := Fr.snoc X3 N0 ge_a
  have F_changedNode_a_3 := F_changedNode_a_2.same W3
  have E_a_3 := E_a_2.wr W3
  have F_changedLine_a_3 := F_changedLine_a_2.other W3 (Or.inr (slot_ne (Or.inl (hw _ (mI 13 rfl))) (Or.inl (hw _ (mI 11 rfl))) (by decide) (t := (.array .int)) (t' := (.array .int)) (by decide) (by decide)))
  have F_base_a_3 := F_base_a_2.other W3 (Or.inr (slot_ne (Or.inr (hw _ (mI 31 rfl))) (Or.inl (hw _ (mI 11 rfl))) (by decide) (t := (.array .double)) (t' := (.array .int)) (by decide) (by decide)))
  have F_slope_a_3 := F_slope_a_2.other W3 (Or.inr (slot_ne (Or.inr (hw _ (mI 33 rfl))) (Or.inl (hw _ (mI 11 rfl))) (by decide) (t := (.array .double)) (t' := (.array .int)) (by decide) (by decide)))
  have F_origin_a_3 := F_origin_a_2.other W3 (Or.inr (slot_ne (Or.inr (hw _ (mI 35 rfl))) (Or.inl (hw _ (mI 11 rfl))) (by decide) (t := (.array .int)) (t' := (.array .int)) (by decide) (by decide)))
  have F_node_a_3 := F_node_a_2.other W3 (Or.inr (slot_ne (Or.inr (hw _ (mI 37 rfl))) (Or.inl (hw _ (mI 11 rfl))) (by decide) (t := (.array .int)) (t' := (.array .int)) (by decide) (by decide)))
  have F_pushedAt_a_3 := F_pushedAt_a_2.other W3 (Or.inr (slot_ne (Or.inr (hw _ (mI 39 rfl))) (Or.inl (hw _ (mI 11 rfl))) (by decide) (t := (.array .int)) (t' := (.array .int)) (by decide) (by decide)))
  have F_width_a_3 := F_width_a_2.other W3 (Or.inr (slot_ne (Or.inr (hw _ (mI 28 rfl))) (Or.inl (hw _ (mI 11 rfl))) (by decide) (t := .int) (t' := (.array .int)) (by decide) (by decide)))
  have F_pushes_a_3 := F_pushes_a_2.other W3 (Or.inr (slot_ne (Or.inl (hw _ (mI 50 rfl))) (Or.inl (hw _ (mI 11 rfl))) (by decide) (t := .int) (t' := (.array .int)) (by decide) (by decide)))
  have F_changes_a_3 := F_changes_a_2.other W3 (Or.inr (slot_ne (Or.inl (hw _ (mI 52 rfl))) (Or.inl (hw _ (mI 11 rfl))) (by decide) (t := .int) (t' := (.array .int)) (by decide) (by decide)))
  have V_b2_3 := V_b2.other W3 (Ne.symm ne_a_b2)
  have K3 : Keep h0 h3 [a] := K2.wr W3 (Or.inl (List.mem_of_getElem? (i := 0) rfl))
  show Go _ _ _ _ _ _ _ T3 (mkF m 12 #[.val (.ref a), .val (.int (4 : Int32))] [])
  refine Go.step (fun _ k => XS.aloadN X3.here hx rfl (hb hby d1_12) rfl rfl k) ?_
  refine Go.step (fun _ k => XS.bipush X3.here hx rfl (hb hby d1_13) k) ?_
  obtain ⟨T4, h4, k4, X4, e4, E4, A4, st4⟩ := newP X3 hx hZ (hw _ (mI 9 rfl)) e3 (g := (mkF m 15 #[.val (.ref a), .val (.int (4 : Int32))] [(.int (64 : Int32)), (.ref a)])) rfl (hb hby d1_15) rfl (by decide) (cap := 64) (by decide) (by decide) (by decide) (by decide)
  obtain ⟨b4, g4⟩ : ∃ z, z = h3.size := ⟨_, rfl⟩
  rw [← g4] at A4 st4
  refine Go.step st4 ?_
  have K4 : Keep h0 h4 [a] := K3.ext E4
  have sz_b4 : h0.size ≤ b4 := Nat.le_trans (K3 : Keep h0 h3 [a]).1 (Nat.le_of_eq g4.symm)
  have ge_b4 : n0 ≤ b4 := Nat.le_trans Z0 sz_b4
  have ne_a_b4 : a ≠ b4 := Nat.ne_of_lt (Nat.lt_of_lt_of_le E_a_3.lt (Nat.le_of_eq g4.symm))
  have ne_b2_b4 : b2 ≠ b4 := Nat.ne_of_lt (Nat.lt_of_lt_of_le V_b2_3.lt (Nat.le_of_eq g4.symm))
  have E_a_4 := E_a_3.ext E4
  have F_changedNode_a_4 := F_changedNode_a_3.ext E4
  have F_changedLine_a_4 := F_changedLine_a_3.ext E4
  have F_base_a_4 := F_base_a_3.ext E4
  have F_slope_a_4 := F_slope_a_3.ext E4
  have F_origin_a_4 := F_origin_a_3.ext E4
  have F_node_a_4 := F_node_a_3.ext E4
  have F_pushedAt_a_4 := F_pushedAt_a_3.ext E4
  have F_width_a_4 := F_width_a_3.ext E4
  have F_pushes_a_4 := F_pushes_a_3.ext E4
  have F_changes_a_4 := F_changes_a_3.ext E4
  have V_b2_4 := V_b2_3.ext E4
  have V_b4 : Iv Z h4 b4 (64 : Int32) (fun _ => (0 : Int32)) := Fv.new A4 (by decide)
  show Go _ _ _ _ _ _ _ T4 (mkF m 17 #[.val (.ref a), .val (.int (4 : Int32))] [(.ref b4), (.ref a)])
  obtain ⟨T5, h5, X5, e5, W5, st5⟩ := putF X4 hx hZ hown (host := "") (Or.inl (hw _ (mI 12 rfl))) Via.refl e4 F_changedLine_a_4 E_a_4 (Or.inl (hw _ (mI 13 rfl))) (hw _ (mI 1 rfl)) (ty := (.array .int)) (by decide) rfl rfl (g := (mkF m 17 #[.val (.ref a), .val (.int (4 : Int32))] [(.ref b4), (.ref a)])) rfl rfl (hb hby d1_17)
  refine Go.step st5 ?_
  have N5 := Fr.snoc X5 N3 ge_a
  have F_changedLine_a_5 := F_changedLine_a_4.same W5
  have E_a_5 := E_a_4.wr W5
  have F_changedNode_a_5 := F_changedNode_a_4.other W5 (Or.inr (slot_ne (Or.inl (hw _ (mI 11 rfl))) (Or.inl (hw _ (mI 13 rfl))) (by decide) (t := (.array .int)) (t' := (.array .int)) (by decide) (by decide)))
  have F_base_a_5 := F_base_a_4.other W5 (Or.inr (slot_ne (Or.inr (hw _ (mI 31 rfl))) (Or.inl (hw _ (mI 13 rfl))) (by decide) (t := (.array .double)) (t' := (.array .int)) (by decide) (by decide)))
  have F_slope_a_5 := F_slope_a_4.other W5 (Or.inr (slot_ne (Or.inr (hw _ (mI 33 rfl))) (Or.inl (hw _ (mI 13 rfl))) (by decide) (t := (.array .double)) (t' := (.array .int)) (by decide) (by decide)))
  have F_origin_a_5 := F_origin_a_4.other W5 (Or.inr (slot_ne (Or.inr (hw _ (mI 35 rfl))) (Or.inl (hw _ (mI 13 rfl))) (by decide) (t := (.array .int)) (t' := (.array .int)) (by decide) (by decide)))
  have F_node_a_5 := F_node_a_4.other W5 (Or.inr (slot_ne (Or.inr (hw _ (mI 37 rfl))) (Or.inl (hw _ (mI 13 rfl))) (by decide) (t := (.array .int)) (t' := (.array .int)) (by decide) (by decide)))
  have F_pushedAt_a_5 := F_pushedAt_a_4.other W5 (Or.inr (slot_ne (Or.inr (hw _ (mI 39 rfl))) (Or.inl (hw _ (mI 13 rfl))) (by decide) (t := (.array .int)) (t' := (.array .int)) (by decide) (by decide)))
  have F_width_a_5 := F_width_a_4.other W5 (Or.inr (slot_ne (Or.inr (hw _ (mI 28 rfl))) (Or.inl (hw _ (mI 13 rfl))) (by decide) (t := .int) (t' := (.array .int)) (by decide) (by decide)))
  have F_pushes_a_5 := F_pushes_a_4.other W5 (Or.inr (slot_ne (Or.inl (hw _ (mI 50 rfl))) (Or.inl (hw _ (mI 13 rfl))) (by decide) (t := .int) (t' := (.array .int)) (by decide) (by decide)))
  have F_changes_a_5 := F_changes_a_4.other W5 (Or.inr (slot_ne (Or.inl (hw _ (mI 52 rfl))) (Or.inl (hw _ (mI 13 rfl))) (by decide) (t := .int) (t' := (.array .int)) (by decide) (by decide)))
  have V_b2_5 := V_b2_4.other W5 (Ne.symm ne_a_b2)
  have V_b4_5 := V_b4.other W5 (Ne.symm ne_a_b4)
  have K5 : Keep h0 h5 [a] := K4.wr W5 (Or.inl (List.mem_of_getElem? (i := 0) rfl))
  show Go _ _ _ _ _ _ _ T5 (mkF m 20 #[.val (.ref a), .val (.int (4 : Int32))] [])
  refine Go.step (fun _ k => XS.aloadN X5.here hx rfl (hb hby d1_20) rfl rfl k) ?_
  refine Go.step (fun _ k => XS.iloadN X5.here hx rfl (hb hby d1_21) rfl k) ?_
  refine Go.step (fun _ k => XS.iconst X5.here hx rfl (hb hby d1_22) k) ?_
  show Go _ _ _ _ _ _ _ T5 (mkF m 23 #[.val (.ref a), .val (.int (4 : Int32))] [(.int (1 : Int32)), (.int (4 : Int32)), (.ref a)])
  refine Go.callS X5 hx hZ (by rw [hml]; rfl) (y := (⟨"java/lang/Math", "max", "(II)I"⟩ : MethodName)) (argsL := [(.int (4 : Int32)), (.int (1 : Int32))]) (rest := [(.ref a)]) hown (hw _ (mI 14 rfl)) (hw _ (mI 15 rfl)) (hw _ (mI 16 rfl)) (hw _ (mI 17 rfl)) (by decide) (rm3 l Z a0 hw h5 n0 (Nat.le_trans Z0 (K5 : Keep h0 h5 [a]).1)) e5 (hb hby d1_23) (lenOf pd_2 rfl) rfl rfl (W := 1) (Nat.le_of_eq rfl) (by decide) (by decide) (by decide) (by decide) ?_
  intro v6 T6 L6 X6 Q6
  obtain ⟨rfl, N6q, hh6⟩ := Q6
  have N6 := Fr.app N5 N6q
  show Go _ _ _ _ _ _ _ T6 (mkF m 26 #[.val (.ref a), .val (.int (4 : Int32))] [(.int (4 : Int32)), (.ref a)])
  refine Go.step (fun _ k => XS.iconst X6.here hx rfl (hb hby d1_26) k) ?_
  refine Go.step (fun _ k => XS.imul X6.here hx rfl (hb hby d1_27) rfl k) ?_
  show Go _ _ _ _ _ _ _ T6 (mkF m 28 #[.val (.ref a), .val (.int (4 : Int32))] [(.int (8 : Int32)), (.ref a)])
  refine Go.step (fun _ k => XS.iconst X6.here hx rfl (hb hby d1_28) k) ?_
  refine Go.step (fun _ k => XS.isub X6.here hx rfl (hb hby d1_29) rfl k) ?_
  show Go _ _ _ _ _ _ _ T6 (mkF m 30 #[.val (.ref a), .val (.int (4 : Int32))] [(.int (7 : Int32)), (.ref a)])
  refine Go.callS X6 hx hZ (by rw [hml]; rfl) (y := (⟨"java/lang/Integer", "highestOneBit", "(I)I"⟩ : MethodName)) (argsL := [(.int (7 : Int32))]) (rest := [(.ref a)]) hown (hw _ (mI 18 rfl)) (hw _ (mI 19 rfl)) (hw _ (mI 20 rfl)) (hw _ (mI 21 rfl)) (by decide) (rm4 l Z a0 hw h5 n0 (Nat.le_trans Z0 (K5 : Keep h0 h5 [a]).1)) hh6 (hb hby d1_30) (lenOf pd_3 rfl) rfl rfl (W := 1) (Nat.le_of_eq rfl) (by decide) (by decide) (by decide) (by decide) ?_
  intro v7 T7 L7 X7 Q7
  obtain ⟨rfl, N7q, hh7⟩ := Q7
  have N7 := Fr.app N6 N7q
  show Go _ _ _ _ _ _ _ T7 (mkF m 33 #[.val (.ref a), .val (.int (4 : Int32))] [(.int (4 : Int32)), (.ref a)])
  obtain ⟨T8, h8, X8, e8, W8, st8⟩ := putF X7 hx hZ hown (host := "") (Or.inl (hw _ (mI 27 rfl))) Via.refl hh7 F_width_a_5 E_a_5 (Or.inr ⟨(hw _ (mI 28 rfl)), rfl, hnm⟩) (hw _ (mI 1 rfl)) (ty := .int) (by decide) rfl rfl (g := (mkF m 33 #[.val (.ref a), .val (.int (4 : Int32))] [(.int (4 : Int32)), (.ref a)])) rfl rfl (hb hby d1_33)
  refine Go.step st8 ?_
  have N8 := Fr.snoc X8 N7 ge_a
  have F_width_a_8 := F_width_a_5.same W8
  have E_a_8 := E_a_5.wr W8
  have F_changedNode_a_8 := F_changedNode_a_5.other W8 (Or.inr (slot_ne (Or.inl (hw _ (mI 11 rfl))) (Or.inr (hw _ (mI 28 rfl))) (by decide) (t := (.array .int)) (t' := .int) (by decide) (by decide)))
  have F_changedLine_a_8 := F_changedLine_a_5.other W8 (Or.inr (slot_ne (Or.inl (hw _ (mI 13 rfl))) (Or.inr (hw _ (mI 28 rfl))) (by decide) (t := (.array .int)) (t' := .int) (by decide) (by decide)))
  have F_base_a_8 := F_base_a_5.other W8 (Or.inr (slot_ne (Or.inr (hw _ (mI 31 rfl))) (Or.inr (hw _ (mI 28 rfl))) (by decide) (t := (.array .double)) (t' := .int) (by decide) (by decide)))
  have F_slope_a_8 := F_slope_a_5.other W8 (Or.inr (slot_ne (Or.inr (hw _ (mI 33 rfl))) (Or.inr (hw _ (mI 28 rfl))) (by decide) (t := (.array .double)) (t' := .int) (by decide) (by decide)))
  have F_origin_a_8 := F_origin_a_5.other W8 (Or.inr (slot_ne (Or.inr (hw _ (mI 35 rfl))) (Or.inr (hw _ (mI 28 rfl))) (by decide) (t := (.array .int)) (t' := .int) (by decide) (by decide)))
  have F_node_a_8 := F_node_a_5.other W8 (Or.inr (slot_ne (Or.inr (hw _ (mI 37 rfl))) (Or.inr (hw _ (mI 28 rfl))) (by decide) (t := (.array .int)) (t' := .int) (by decide) (by decide)))
  have F_pushedAt_a_8 := F_pushedAt_a_5.other W8 (Or.inr (slot_ne (Or.inr (hw _ (mI 39 rfl))) (Or.inr (hw _ (mI 28 rfl))) (by decide) (t := (.array .int)) (t' := .int) (by decide) (by decide)))
  have F_pushes_a_8 := F_pushes_a_5.other W8 (Or.inr (slot_ne (Or.inl (hw _ (mI 50 rfl))) (Or.inr (hw _ (mI 28 rfl))) (by decide) (t := .int) (t' := .int) (by decide) (by decide)))
  have F_changes_a_8 := F_changes_a_5.other W8 (Or.inr (slot_ne (Or.inl (hw _ (mI 52 rfl))) (Or.inr (hw _ (mI 28 rfl))) (by decide) (t := .int) (t' := .int) (by decide) (by decide)))
  have V_b2_8 := V_b2_5.other W8 (Ne.symm ne_a_b2)
  have V_b4_8 := V_b4_5.other W8 (Ne.symm ne_a_b4)
  have K8 : Keep h0 h8 [a] := K5.wr W8 (Or.inl (List.mem_of_getElem? (i := 0) rfl))
  show Go _ _ _ _ _ _ _ T8 (mkF m 36 #[.val (.ref a), .val (.int (4 : Int32))] [])
  refine Go.step (fun _ k => XS.aloadN X8.here hx rfl (hb hby d1_36) rfl rfl k) ?_
  refine Go.step (fun _ k => XS.iloadN X8.here hx rfl (hb hby d1_37) rfl k) ?_
  refine Go.step (fun _ k => XS.iconst X8.here hx rfl (hb hby d1_38) k) ?_
  show Go _ _ _ _ _ _ _ T8 (mkF m 39 #[.val (.ref a), .val (.int (4 : Int32))] [(.int (1 : Int32)), (.int (4 : Int32)), (.ref a)])
  refine Go.step (fun _ k => XS.iadd X8.here hx rfl (hb hby d1_39) rfl k) ?_
  show Go _ _ _ _ _ _ _ T8 (mkF m 40 #[.val (.ref a), .val (.int (4 : Int32))] [(.int (5 : Int32)), (.ref a)])
  obtain ⟨T9, h9, k9, X9, e9, E9, A9, st9⟩ := newP X8 hx hZ (hw _ (mI 29 rfl)) e8 (g := (mkF m 40 #[.val (.ref a), .val (.int (4 : Int32))] [(.int (5 : Int32)), (.ref a)])) rfl (hb hby d1_40) rfl (by decide) (cap := 5) (by decide) (by decide) (by decide) (by decide)
  obtain ⟨b9, g9⟩ : ∃ z, z = h8.size := ⟨_, rfl⟩
  rw [← g9] at A9 st9
  refine Go.step st9 ?_
  have K9 : Keep h0 h9 [a] := K8.ext E9
  have sz_b9 : h0.size ≤ b9 := Nat.le_trans (K8 : Keep h0 h8 [a]).1 (Nat.le_of_eq g9.symm)
  have ge_b9 : n0 ≤ b9 := Nat.le_trans Z0 sz_b9
  have ne_a_b9 : a ≠ b9 := Nat.ne_of_lt (Nat.lt_of_lt_of_le E_a_8.lt (Nat.le_of_eq g9.symm))
  have ne_b2_b9 : b2 ≠ b9 := Nat.ne_of_lt (Nat.lt_of_lt_of_le V_b2_8.lt (Nat.le_of_eq g9.symm))
  have ne_b4_b9 : b4 ≠ b9 := Nat.ne_of_lt (Nat.lt_of_lt_of_le V_b4_8.lt (Nat.le_of_eq g9.symm))
  have E_a_9 := E_a_8.ext E9
  have F_changedNode_a_9 := F_changedNode_a_8.ext E9
  have F_changedLine_a_9 := F_changedLine_a_8.ext E9
  have F_base_a_9 := F_base_a_8.ext E9
  have F_slope_a_9 := F_slope_a_8.ext E9
  have F_origin_a_9 := F_origin_a_8.ext E9
  have F_node_a_9 := F_node_a_8.ext E9
  have F_pushedAt_a_9 := F_pushedAt_a_8.ext E9
  have F_width_a_9 := F_width_a_8.ext E9
  have F_pushes_a_9 := F_pushes_a_8.ext E9
  have F_changes_a_9 := F_changes_a_8.ext E9
  have V_b2_9 := V_b2_8.ext E9
  have V_b4_9 := V_b4_8.ext E9
  have V_b9 : Dv Z h9 b9 (5 : Int32) (fun _ => (0 : UInt64)) := Fv.new A9 (by decide)
  show Go _ _ _ _ _ _ _ T9 (mkF m 42 #[.val (.ref a), .val (.int (4 : Int32))] [(.ref b9), (.ref a)])
  obtain ⟨T10, h10, X10, e10, W10, st10⟩ := putF X9 hx hZ hown (host := "") (Or.inl (hw _ (mI 30 rfl))) Via.refl e9 F_base_a_9 E_a_9 (Or.inr ⟨(hw _ (mI 31 rfl)), rfl, hnm⟩) (hw _ (mI 1 rfl)) (ty := (.array .double)) (by decide) rfl rfl (g := (mkF m 42 #[.val (.ref a), .val (.int (4 : Int32))] [(.ref b9), (.ref a)])) rfl rfl (hb hby d1_42)
  refine Go.step st10 ?_
  have N10 := Fr.snoc X10 N8 ge_a
  have F_base_a_10 := F_base_a_9.same W10
  have E_a_10 := E_a_9.wr W10
  have F_changedNode_a_10 := F_changedNode_a_9.other W10 (Or.inr (slot_ne (Or.inl (hw _ (mI 11 rfl))) (Or.inr (hw _ (mI 31 rfl))) (by decide) (t := (.array .int)) (t' := (.array .double)) (by decide) (by decide)))
  have F_changedLine_a_10 := F_changedLine_a_9.other W10 (Or.inr (slot_ne (Or.inl (hw _ (mI 13 rfl))) (Or.inr (hw _ (mI 31 rfl))) (by decide) (t := (.array .int)) (t' := (.array .double)) (by decide) (by decide)))
  have F_slope_a_10 := F_slope_a_9.other W10 (Or.inr (slot_ne (Or.inr (hw _ (mI 33 rfl))) (Or.inr (hw _ (mI 31 rfl))) (by decide) (t := (.array .double)) (t' := (.array .double)) (by decide) (by decide)))
  have F_origin_a_10 := F_origin_a_9.other W10 (Or.inr (slot_ne (Or.inr (hw _ (mI 35 rfl))) (Or.inr (hw _ (mI 31 rfl))) (by decide) (t := (.array .int)) (t' := (.array .double)) (by decide) (by decide)))
  have F_node_a_10 := F_node_a_9.other W10 (Or.inr (slot_ne (Or.inr (hw _ (mI 37 rfl))) (Or.inr (hw _ (mI 31 rfl))) (by decide) (t := (.array .int)) (t' := (.array .double)) (by decide) (by decide)))
  have F_pushedAt_a_10 := F_pushedAt_a_9.other W10 (Or.inr (slot_ne (Or.inr (hw _ (mI 39 rfl))) (Or.inr (hw _ (mI 31 rfl))) (by decide) (t := (.array .int)) (t' := (.array .double)) (by decide) (by decide)))
  have F_width_a_10 := F_width_a_9.other W10 (Or.inr (slot_ne (Or.inr (hw _ (mI 28 rfl))) (Or.inr (hw _ (mI 31 rfl))) (by decide) (t := .int) (t' := (.array .double)) (by decide) (by decide)))
  have F_pushes_a_10 := F_pushes_a_9.other W10 (Or.inr (slot_ne (Or.inl (hw _ (mI 50 rfl))) (Or.inr (hw _ (mI 31 rfl))) (by decide) (t := .int) (t' := (.array .double)) (by decide) (by decide)))
  have F_changes_a_10 := F_changes_a_9.other W10 (Or.inr (slot_ne (Or.inl (hw _ (mI 52 rfl))) (Or.inr (hw _ (mI 31 rfl))) (by decide) (t := .int) (t' := (.array .double)) (by decide) (by decide)))
  have V_b2_10 := V_b2_9.other W10 (Ne.symm ne_a_b2)
  have V_b4_10 := V_b4_9.other W10 (Ne.symm ne_a_b4)
  have V_b9_10 := V_b9.other W10 (Ne.symm ne_a_b9)
  have K10 : Keep h0 h10 [a] := K9.wr W10 (Or.inl (List.mem_of_getElem? (i := 0) rfl))
  show Go _ _ _ _ _ _ _ T10 (mkF m 45 #[.val (.ref a), .val (.int (4 : Int32))] [])
  refine Go.step (fun _ k => XS.aloadN X10.here hx rfl (hb hby d1_45) rfl rfl k) ?_
  refine Go.step (fun _ k => XS.iloadN X10.here hx rfl (hb hby d1_46) rfl k) ?_
  refine Go.step (fun _ k => XS.iconst X10.here hx rfl (hb hby d1_47) k) ?_
  show Go _ _ _ _ _ _ _ T10 (mkF m 48 #[.val (.ref a), .val (.int (4 : Int32))] [(.int (1 : Int32)), (.int (4 : Int32)), (.ref a)])
  refine Go.step (fun _ k => XS.iadd X10.here hx rfl (hb hby d1_48) rfl k) ?_
  show Go _ _ _ _ _ _ _ T10 (mkF m 49 #[.val (.ref a), .val (.int (4 : Int32))] [(.int (5 : Int32)), (.ref a)])
  obtain ⟨T11, h11, k11, X11, e11, E11, A11, st11⟩ := newP X10 hx hZ (hw _ (mI 29 rfl)) e10 (g := (mkF m 49 #[.val (.ref a), .val (.int (4 : Int32))] [(.int (5 : Int32)), (.ref a)])) rfl (hb hby d1_49) rfl (by decide) (cap := 5) (by decide) (by decide) (by decide) (by decide)
  obtain ⟨b11, g11⟩ : ∃ z, z = h10.size := ⟨_, rfl⟩
  rw [← g11] at A11 st11
  refine Go.step st11 ?_
  have K11 : Keep h0 h11 [a] := K10.ext E11
  have sz_b11 : h0.size ≤ b11 := Nat.le_trans (K10 : Keep h0 h10 [a]).1 (Nat.le_of_eq g11.symm)
  have ge_b11 : n0 ≤ b11 := Nat.le_trans Z0 sz_b11
  have ne_a_b11 : a ≠ b11 := Nat.ne_of_lt (Nat.lt_of_lt_of_le E_a_10.lt (Nat.le_of_eq g11.symm))
  have ne_b2_b11 : b2 ≠ b11 := Nat.ne_of_lt (Nat.lt_of_lt_of_le V_b2_10.lt (Nat.le_of_eq g11.symm))
  have ne_b4_b11 : b4 ≠ b11 := Nat.ne_of_lt (Nat.lt_of_lt_of_le V_b4_10.lt (Nat.le_of_eq g11.symm))
  have ne_b9_b11 : b9 ≠ b11 := Nat.ne_of_lt (Nat.lt_of_lt_of_le V_b9_10.lt (Nat.le_of_eq g11.symm))
  have E_a_11 := E_a_10.ext E11
  have F_changedNode_a_11 := F_changedNode_a_10.ext E11
  have F_changedLine_a_11 := F_changedLine_a_10.ext E11
  have F_base_a_11 := F_base_a_10.ext E11
  have F_slope_a_11 := F_slope_a_10.ext E11
  have F_origin_a_11 := F_origin_a_10.ext E11
  have F_node_a_11 := F_node_a_10.ext E11
  have F_pushedAt_a_11 := F_pushedAt_a_10.ext E11
  have F_width_a_11 := F_width_a_10.ext E11
  have F_pushes_a_11 := F_pushes_a_10.ext E11
  have F_changes_a_11 := F_changes_a_10.ext E11
  have V_b2_11 := V_b2_10.ext E11
  have V_b4_11 := V_b4_10.ext E11
  have V_b9_11 := V_b9_10.ext E11
  have V_b11 : Dv Z h11 b11 (5 : Int32) (fun _ => (0 : UInt64)) := Fv.new A11 (by decide)
  show Go _ _ _ _ _ _ _ T11 (mkF m 51 #[.val (.ref a), .val (.int (4 : Int32))] [(.ref b11), (.ref a)])
  obtain ⟨T12, h12, X12, e12, W12, st12⟩ := putF X11 hx hZ hown (host := "") (Or.inl (hw _ (mI 32 rfl))) Via.refl e11 F_slope_a_11 E_a_11 (Or.inr ⟨(hw _ (mI 33 rfl)), rfl, hnm⟩) (hw _ (mI 1 rfl)) (ty := (.array .double)) (by decide) rfl rfl (g := (mkF m 51 #[.val (.ref a), .val (.int (4 : Int32))] [(.ref b11), (.ref a)])) rfl rfl (hb hby d1_51)
  refine Go.step st12 ?_
  have N12 := Fr.snoc X12 N10 ge_a
  have F_slope_a_12 := F_slope_a_11.same W12
  have E_a_12 := E_a_11.wr W12
  have F_changedNode_a_12 := F_changedNode_a_11.other W12 (Or.inr (slot_ne (Or.inl (hw _ (mI 11 rfl))) (Or.inr (hw _ (mI 33 rfl))) (by decide) (t := (.array .int)) (t' := (.array .double)) (by decide) (by decide)))
  have F_changedLine_a_12 := F_changedLine_a_11.other W12 (Or.inr (slot_ne (Or.inl (hw _ (mI 13 rfl))) (Or.inr (hw _ (mI 33 rfl))) (by decide) (t := (.array .int)) (t' := (.array .double)) (by decide) (by decide)))
  have F_base_a_12 := F_base_a_11.other W12 (Or.inr (slot_ne (Or.inr (hw _ (mI 31 rfl))) (Or.inr (hw _ (mI 33 rfl))) (by decide) (t := (.array .double)) (t' := (.array .double)) (by decide) (by decide)))
  have F_origin_a_12 := F_origin_a_11.other W12 (Or.inr (slot_ne (Or.inr (hw _ (mI 35 rfl))) (Or.inr (hw _ (mI 33 rfl))) (by decide) (t := (.array .int)) (t' := (.array .double)) (by decide) (by decide)))
  have F_node_a_12 := F_node_a_11.other W12 (Or.inr (slot_ne (Or.inr (hw _ (mI 37 rfl))) (Or.inr (hw _ (mI 33 rfl))) (by decide) (t := (.array .int)) (t' := (.array .double)) (by decide) (by decide)))
  have F_pushedAt_a_12 := F_pushedAt_a_11.other W12 (Or.inr (slot_ne (Or.inr (hw _ (mI 39 rfl))) (Or.inr (hw _ (mI 33 rfl))) (by decide) (t := (.array .int)) (t' := (.array .double)) (by decide) (by decide)))
  have F_width_a_12 := F_width_a_11.other W12 (Or.inr (slot_ne (Or.inr (hw _ (mI 28 rfl))) (Or.inr (hw _ (mI 33 rfl))) (by decide) (t := .int) (t' := (.array .double)) (by decide) (by decide)))
  have F_pushes_a_12 := F_pushes_a_11.other W12 (Or.inr (slot_ne (Or.inl (hw _ (mI 50 rfl))) (Or.inr (hw _ (mI 33 rfl))) (by decide) (t := .int) (t' := (.array .double)) (by decide) (by decide)))
  have F_changes_a_12 := F_changes_a_11.other W12 (Or.inr (slot_ne (Or.inl (hw _ (mI 52 rfl))) (Or.inr (hw _ (mI 33 rfl))) (by decide) (t := .int) (t' := (.array .double)) (by decide) (by decide)))
  have V_b2_12 := V_b2_11.other W12 (Ne.symm ne_a_b2)
  have V_b4_12 := V_b4_11.other W12 (Ne.symm ne_a_b4)
  have V_b9_12 := V_b9_11.other W12 (Ne.symm ne_a_b9)
  have V_b11_12 := V_b11.other W12 (Ne.symm ne_a_b11)
  have K12 : Keep h0 h12 [a] := K11.wr W12 (Or.inl (List.mem_of_getElem? (i := 0) rfl))
  show Go _ _ _ _ _ _ _ T12 (mkF m 54 #[.val (.ref a), .val (.int (4 : Int32))] [])
  refine Go.step (fun _ k => XS.aloadN X12.here hx rfl (hb hby d1_54) rfl rfl k) ?_
  refine Go.step (fun _ k => XS.iloadN X12.here hx rfl (hb hby d1_55) rfl k) ?_
  refine Go.step (fun _ k => XS.iconst X12.here hx rfl (hb hby d1_56) k) ?_
  show Go _ _ _ _ _ _ _ T12 (mkF m 57 #[.val (.ref a), .val (.int (4 : Int32))] [(.int (1 : Int32)), (.int (4 : Int32)), (.ref a)])
  refine Go.step (fun _ k => XS.iadd X12.here hx rfl (hb hby d1_57) rfl k) ?_
  show Go _ _ _ _ _ _ _ T12 (mkF m 58 #[.val (.ref a), .val (.int (4 : Int32))] [(.int (5 : Int32)), (.ref a)])
  obtain ⟨T13, h13, k13, X13, e13, E13, A13, st13⟩ := newP X12 hx hZ (hw _ (mI 9 rfl)) e12 (g := (mkF m 58 #[.val (.ref a), .val (.int (4 : Int32))] [(.int (5 : Int32)), (.ref a)])) rfl (hb hby d1_58) rfl (by decide) (cap := 5) (by decide) (by decide) (by decide) (by decide)
  obtain ⟨b13, g13⟩ : ∃ z, z = h12.size := ⟨_, rfl⟩
  rw [← g13] at A13 st13
  refine Go.step st13 ?_
  have K13 : Keep h0 h13 [a] := K12.ext E13
  have sz_b13 : h0.size ≤ b13 := Nat.le_trans (K12 : Keep h0 h12 [a]).1 (Nat.le_of_eq g13.symm)
  have ge_b13 : n0 ≤ b13 := Nat.le_trans Z0 sz_b13
  have ne_a_b13 : a ≠ b13 := Nat.ne_of_lt (Nat.lt_of_lt_of_le E_a_12.lt (Nat.le_of_eq g13.symm))
  have ne_b2_b13 : b2 ≠ b13 := Nat.ne_of_lt (Nat.lt_of_lt_of_le V_b2_12.lt (Nat.le_of_eq g13.symm))
  have ne_b4_b13 : b4 ≠ b13 := Nat.ne_of_lt (Nat.lt_of_lt_of_le V_b4_12.lt (Nat.le_of_eq g13.symm))
  have ne_b9_b13 : b9 ≠ b13 := Nat.ne_of_lt (Nat.lt_of_lt_of_le V_b9_12.lt (Nat.le_of_eq g13.symm))
  have ne_b11_b13 : b11 ≠ b13 := Nat.ne_of_lt (Nat.lt_of_lt_of_le V_b11_12.lt (Nat.le_of_eq g13.symm))
  have E_a_13 := E_a_12.ext E13
  have F_changedNode_a_13 := F_changedNode_a_12.ext E13
  have F_changedLine_a_13 := F_changedLine_a_12.ext E13
  have F_base_a_13 := F_base_a_12.ext E13
  have F_slope_a_13 := F_slope_a_12.ext E13
  have F_origin_a_13 := F_origin_a_12.ext E13
  have F_node_a_13 := F_node_a_12.ext E13
  have F_pushedAt_a_13 := F_pushedAt_a_12.ext E13
  have F_width_a_13 := F_width_a_12.ext E13
  have F_pushes_a_13 := F_pushes_a_12.ext E13
  have F_changes_a_13 := F_changes_a_12.ext E13
  have V_b2_13 := V_b2_12.ext E13
  have V_b4_13 := V_b4_12.ext E13
  have V_b9_13 := V_b9_12.ext E13
  have V_b11_13 := V_b11_12.ext E13
  have V_b13 : Iv Z h13 b13 (5 : Int32) (fun _ => (0 : Int32)) := Fv.new A13 (by decide)
  show Go _ _ _ _ _ _ _ T13 (mkF m 60 #[.val (.ref a), .val (.int (4 : Int32))] [(.ref b13), (.ref a)])
  obtain ⟨T14, h14, X14, e14, W14, st14⟩ := putF X13 hx hZ hown (host := "") (Or.inl (hw _ (mI 34 rfl))) Via.refl e13 F_origin_a_13 E_a_13 (Or.inr ⟨(hw _ (mI 35 rfl)), rfl, hnm⟩) (hw _ (mI 1 rfl)) (ty := (.array .int)) (by decide) rfl rfl (g := (mkF m 60 #[.val (.ref a), .val (.int (4 : Int32))] [(.ref b13), (.ref a)])) rfl rfl (hb hby d1_60)
  refine Go.step st14 ?_
  have N14 := Fr.snoc X14 N12 ge_a
  have F_origin_a_14 := F_origin_a_13.same W14
  have E_a_14 := E_a_13.wr W14
  have F_changedNode_a_14 := F_changedNode_a_13.other W14 (Or.inr (slot_ne (Or.inl (hw _ (mI 11 rfl))) (Or.inr (hw _ (mI 35 rfl))) (by decide) (t := (.array .int)) (t' := (.array .int)) (by decide) (by decide)))
  have F_changedLine_a_14 := F_changedLine_a_13.other W14 (Or.inr (slot_ne (Or.inl (hw _ (mI 13 rfl))) (Or.inr (hw _ (mI 35 rfl))) (by decide) (t := (.array .int)) (t' := (.array .int)) (by decide) (by decide)))
  have F_base_a_14 := F_base_a_13.other W14 (Or.inr (slot_ne (Or.inr (hw _ (mI 31 rfl))) (Or.inr (hw _ (mI 35 rfl))) (by decide) (t := (.array .double)) (t' := (.array .int)) (by decide) (by decide)))
  have F_slope_a_14 := F_slope_a_13.other W14 (Or.inr (slot_ne (Or.inr (hw _ (mI 33 rfl))) (Or.inr (hw _ (mI 35 rfl))) (by decide) (t := (.array .double)) (t' := (.array .int)) (by decide) (by decide)))
  have F_node_a_14 := F_node_a_13.other W14 (Or.inr (slot_ne (Or.inr (hw _ (mI 37 rfl))) (Or.inr (hw _ (mI 35 rfl))) (by decide) (t := (.array .int)) (t' := (.array .int)) (by decide) (by decide)))
  have F_pushedAt_a_14 := F_pushedAt_a_13.other W14 (Or.inr (slot_ne (Or.inr (hw _ (mI 39 rfl))) (Or.inr (hw _ (mI 35 rfl))) (by decide) (t := (.array .int)) (t' := (.array .int)) (by decide) (by decide)))
  have F_width_a_14 := F_width_a_13.other W14 (Or.inr (slot_ne (Or.inr (hw _ (mI 28 rfl))) (Or.inr (hw _ (mI 35 rfl))) (by decide) (t := .int) (t' := (.array .int)) (by decide) (by decide)))
  have F_pushes_a_14 := F_pushes_a_13.other W14 (Or.inr (slot_ne (Or.inl (hw _ (mI 50 rfl))) (Or.inr (hw _ (mI 35 rfl))) (by decide) (t := .int) (t' := (.array .int)) (by decide) (by decide)))
  have F_changes_a_14 := F_changes_a_13.other W14 (Or.inr (slot_ne (Or.inl (hw _ (mI 52 rfl))) (Or.inr (hw _ (mI 35 rfl))) (by decide) (t := .int) (t' := (.array .int)) (by decide) (by decide)))
  have V_b2_14 := V_b2_13.other W14 (Ne.symm ne_a_b2)
  have V_b4_14 := V_b4_13.other W14 (Ne.symm ne_a_b4)
  have V_b9_14 := V_b9_13.other W14 (Ne.symm ne_a_b9)
  have V_b11_14 := V_b11_13.other W14 (Ne.symm ne_a_b11)
  have V_b13_14 := V_b13.other W14 (Ne.symm ne_a_b13)
  have K14 : Keep h0 h14 [a] := K13.wr W14 (Or.inl (List.mem_of_getElem? (i := 0) rfl))
  show Go _ _ _ _ _ _ _ T14 (mkF m 63 #[.val (.ref a), .val (.int (4 : Int32))] [])
  refine Go.step (fun _ k => XS.aloadN X14.here hx rfl (hb hby d1_63) rfl rfl k) ?_
  refine Go.step (fun _ k => XS.iconst X14.here hx rfl (hb hby d1_64) k) ?_
  refine Go.step (fun _ k => XS.aloadN X14.here hx rfl (hb hby d1_65) rfl rfl k) ?_
  show Go _ _ _ _ _ _ _ T14 (mkF m 66 #[.val (.ref a), .val (.int (4 : Int32))] [(.ref a), (.int (2 : Int32)), (.ref a)])
  obtain ⟨T15, X15, e15, st15⟩ := getF X14 hx hZ hown (host := "") (Or.inl (hw _ (mI 27 rfl))) Via.refl e14 F_width_a_14 (g := (mkF m 66 #[.val (.ref a), .val (.int (4 : Int32))] [(.ref a), (.int (2 : Int32)), (.ref a)])) rfl rfl (hb hby d1_66)
  refine Go.step st15 ?_
  show Go _ _ _ _ _ _ _ T15 (mkF m 69 #[.val (.ref a), .val (.int (4 : Int32))] [(.int (4 : Int32)), (.int (2 : Int32)), (.ref a)])
  refine Go.step (fun _ k => XS.imul X15.here hx rfl (hb hby d1_69) rfl k) ?_
  show Go _ _ _ _ _ _ _ T15 (mkF m 70 #[.val (.ref a), .val (.int (4 : Int32))] [(.int (8 : Int32)), (.ref a)])
  obtain ⟨T16, h16, k16, X16, e16, E16, A16, st16⟩ := newP X15 hx hZ (hw _ (mI 9 rfl)) e15 (g := (mkF m 70 #[.val (.ref a), .val (.int (4 : Int32))] [(.int (8 : Int32)), (.ref a)])) rfl (hb hby d1_70) rfl (by decide) (cap := 8) (by decide) (by decide) (by decide) (by decide)
  obtain ⟨b16, g16⟩ : ∃ z, z = h14.size := ⟨_, rfl⟩
  rw [← g16] at A16 st16
  refine Go.step st16 ?_
  have K16 : Keep h0 h16 [a] := K14.ext E16
  have sz_b16 : h0.size ≤ b16 := Nat.le_trans (K14 : Keep h0 h14 [a]).1 (Nat.le_of_eq g16.symm)
  have ge_b16 : n0 ≤ b16 := Nat.le_trans Z0 sz_b16
  have ne_a_b16 : a ≠ b16 := Nat.ne_of_lt (Nat.lt_of_lt_of_le E_a_14.lt (Nat.le_of_eq g16.symm))
  have ne_b2_b16 : b2 ≠ b16 := Nat.ne_of_lt (Nat.lt_of_lt_of_le V_b2_14.lt (Nat.le_of_eq g16.symm))
  have ne_b4_b16 : b4 ≠ b16 := Nat.ne_of_lt (Nat.lt_of_lt_of_le V_b4_14.lt (Nat.le_of_eq g16.symm))
  have ne_b9_b16 : b9 ≠ b16 := Nat.ne_of_lt (Nat.lt_of_lt_of_le V_b9_14.lt (Nat.le_of_eq g16.symm))
  have ne_b11_b16 : b11 ≠ b16 := Nat.ne_of_lt (Nat.lt_of_lt_of_le V_b11_14.lt (Nat.le_of_eq g16.symm))
  have ne_b13_b16 : b13 ≠ b16 := Nat.ne_of_lt (Nat.lt_of_lt_of_le V_b13_14.lt (Nat.le_of_eq g16.symm))
  have E_a_16 := E_a_14.ext E16
  have F_changedNode_a_16 := F_changedNode_a_14.ext E16
  have F_changedLine_a_16 := F_changedLine_a_14.ext E16
  have F_base_a_16 := F_base_a_14.ext E16
  have F_slope_a_16 := F_slope_a_14.ext E16
  have F_origin_a_16 := F_origin_a_14.ext E16
  have F_node_a_16 := F_node_a_14.ext E16
  have F_pushedAt_a_16 := F_pushedAt_a_14.ext E16
  have F_width_a_16 := F_width_a_14.ext E16
  have F_pushes_a_16 := F_pushes_a_14.ext E16
  have F_changes_a_16 := F_changes_a_14.ext E16
  have V_b2_16 := V_b2_14.ext E16
  have V_b4_16 := V_b4_14.ext E16
  have V_b9_16 := V_b9_14.ext E16
  have V_b11_16 := V_b11_14.ext E16
  have V_b13_16 := V_b13_14.ext E16
  have V_b16 : Iv Z h16 b16 (8 : Int32) (fun _ => (0 : Int32)) := Fv.new A16 (by decide)
  show Go _ _ _ _ _ _ _ T16 (mkF m 72 #[.val (.ref a), .val (.int (4 : Int32))] [(.ref b16), (.ref a)])
  obtain ⟨T17, h17, X17, e17, W17, st17⟩ := putF X16 hx hZ hown (host := "") (Or.inl (hw _ (mI 36 rfl))) Via.refl e16 F_node_a_16 E_a_16 (Or.inr ⟨(hw _ (mI 37 rfl)), rfl, hnm⟩) (hw _ (mI 1 rfl)) (ty := (.array .int)) (by decide) rfl rfl (g := (mkF m 72 #[.val (.ref a), .val (.int (4 : Int32))] [(.ref b16), (.ref a)])) rfl rfl (hb hby d1_72)
  refine Go.step st17 ?_
  have N17 := Fr.snoc X17 N14 ge_a
  have F_node_a_17 := F_node_a_16.same W17
  have E_a_17 := E_a_16.wr W17
  have F_changedNode_a_17 := F_changedNode_a_16.other W17 (Or.inr (slot_ne (Or.inl (hw _ (mI 11 rfl))) (Or.inr (hw _ (mI 37 rfl))) (by decide) (t := (.array .int)) (t' := (.array .int)) (by decide) (by decide)))
  have F_changedLine_a_17 := F_changedLine_a_16.other W17 (Or.inr (slot_ne (Or.inl (hw _ (mI 13 rfl))) (Or.inr (hw _ (mI 37 rfl))) (by decide) (t := (.array .int)) (t' := (.array .int)) (by decide) (by decide)))
  have F_base_a_17 := F_base_a_16.other W17 (Or.inr (slot_ne (Or.inr (hw _ (mI 31 rfl))) (Or.inr (hw _ (mI 37 rfl))) (by decide) (t := (.array .double)) (t' := (.array .int)) (by decide) (by decide)))
  have F_slope_a_17 := F_slope_a_16.other W17 (Or.inr (slot_ne (Or.inr (hw _ (mI 33 rfl))) (Or.inr (hw _ (mI 37 rfl))) (by decide) (t := (.array .double)) (t' := (.array .int)) (by decide) (by decide)))
  have F_origin_a_17 := F_origin_a_16.other W17 (Or.inr (slot_ne (Or.inr (hw _ (mI 35 rfl))) (Or.inr (hw _ (mI 37 rfl))) (by decide) (t := (.array .int)) (t' := (.array .int)) (by decide) (by decide)))
  have F_pushedAt_a_17 := F_pushedAt_a_16.other W17 (Or.inr (slot_ne (Or.inr (hw _ (mI 39 rfl))) (Or.inr (hw _ (mI 37 rfl))) (by decide) (t := (.array .int)) (t' := (.array .int)) (by decide) (by decide)))
  have F_width_a_17 := F_width_a_16.other W17 (Or.inr (slot_ne (Or.inr (hw _ (mI 28 rfl))) (Or.inr (hw _ (mI 37 rfl))) (by decide) (t := .int) (t' := (.array .int)) (by decide) (by decide)))
  have F_pushes_a_17 := F_pushes_a_16.other W17 (Or.inr (slot_ne (Or.inl (hw _ (mI 50 rfl))) (Or.inr (hw _ (mI 37 rfl))) (by decide) (t := .int) (t' := (.array .int)) (by decide) (by decide)))
  have F_changes_a_17 := F_changes_a_16.other W17 (Or.inr (slot_ne (Or.inl (hw _ (mI 52 rfl))) (Or.inr (hw _ (mI 37 rfl))) (by decide) (t := .int) (t' := (.array .int)) (by decide) (by decide)))
  have V_b2_17 := V_b2_16.other W17 (Ne.symm ne_a_b2)
  have V_b4_17 := V_b4_16.other W17 (Ne.symm ne_a_b4)
  have V_b9_17 := V_b9_16.other W17 (Ne.symm ne_a_b9)
  have V_b11_17 := V_b11_16.other W17 (Ne.symm ne_a_b11)
  have V_b13_17 := V_b13_16.other W17 (Ne.symm ne_a_b13)
  have V_b16_17 := V_b16.other W17 (Ne.symm ne_a_b16)
  have K17 : Keep h0 h17 [a] := K16.wr W17 (Or.inl (List.mem_of_getElem? (i := 0) rfl))
  show Go _ _ _ _ _ _ _ T17 (mkF m 75 #[.val (.ref a), .val (.int (4 : Int32))] [])
  refine Go.step (fun _ k => XS.aloadN X17.here hx rfl (hb hby d1_75) rfl rfl k) ?_
  refine Go.step (fun _ k => XS.iloadN X17.here hx rfl (hb hby d1_76) rfl k) ?_
  obtain ⟨T18, h18, k18, X18, e18, E18, A18, st18⟩ := newP X17 hx hZ (hw _ (mI 9 rfl)) e17 (g := (mkF m 77 #[.val (.ref a), .val (.int (4 : Int32))] [(.int (4 : Int32)), (.ref a)])) rfl (hb hby d1_77) rfl (by decide) (cap := 4) (by decide) (by decide) (by decide) (by decide)
  obtain ⟨b18, g18⟩ : ∃ z, z = h17.size := ⟨_, rfl⟩
  rw [← g18] at A18 st18
  refine Go.step st18 ?_
  have K18 : Keep h0 h18 [a] := K17.ext E18
  have sz_b18 : h0.size ≤ b18 := Nat.le_trans (K17 : Keep h0 h17 [a]).1 (Nat.le_of_eq g18.symm)
  have ge_b18 : n0 ≤ b18 := Nat.le_trans Z0 sz_b18
  have ne_a_b18 : a ≠ b18 := Nat.ne_of_lt (Nat.lt_of_lt_of_le E_a_17.lt (Nat.le_of_eq g18.symm))
  have ne_b2_b18 : b2 ≠ b18 := Nat.ne_of_lt (Nat.lt_of_lt_of_le V_b2_17.lt (Nat.le_of_eq g18.symm))
  have ne_b4_b18 : b4 ≠ b18 := Nat.ne_of_lt (Nat.lt_of_lt_of_le V_b4_17.lt (Nat.le_of_eq g18.symm))
  have ne_b9_b18 : b9 ≠ b18 := Nat.ne_of_lt (Nat.lt_of_lt_of_le V_b9_17.lt (Nat.le_of_eq g18.symm))
  have ne_b11_b18 : b11 ≠ b18 := Nat.ne_of_lt (Nat.lt_of_lt_of_le V_b11_17.lt (Nat.le_of_eq g18.symm))
  have ne_b13_b18 : b13 ≠ b18 := Nat.ne_of_lt (Nat.lt_of_lt_of_le V_b13_17.lt (Nat.le_of_eq g18.symm))
  have ne_b16_b18 : b16 ≠ b18 := Nat.ne_of_lt (Nat.lt_of_lt_of_le V_b16_17.lt (Nat.le_of_eq g18.symm))
  have E_a_18 := E_a_17.ext E18
  have F_changedNode_a_18 := F_changedNode_a_17.ext E18
  have F_changedLine_a_18 := F_changedLine_a_17.ext E18
  have F_base_a_18 := F_base_a_17.ext E18
  have F_slope_a_18 := F_slope_a_17.ext E18
  have F_origin_a_18 := F_origin_a_17.ext E18
  have F_node_a_18 := F_node_a_17.ext E18
  have F_pushedAt_a_18 := F_pushedAt_a_17.ext E18
  have F_width_a_18 := F_width_a_17.ext E18
  have F_pushes_a_18 := F_pushes_a_17.ext E18
  have F_changes_a_18 := F_changes_a_17.ext E18
  have V_b2_18 := V_b2_17.ext E18
  have V_b4_18 := V_b4_17.ext E18
  have V_b9_18 := V_b9_17.ext E18
  have V_b11_18 := V_b11_17.ext E18
  have V_b13_18 := V_b13_17.ext E18
  have V_b16_18 := V_b16_17.ext E18
  have V_b18 : Iv Z h18 b18 (4 : Int32) (fun _ => (0 : Int32)) := Fv.new A18 (by decide)
  show Go _ _ _ _ _ _ _ T18 (mkF m 79 #[.val (.ref a), .val (.int (4 : Int32))] [(.ref b18), (.ref a)])
  obtain ⟨T19, h19, X19, e19, W19, st19⟩ := putF X18 hx hZ hown (host := "") (Or.inl (hw _ (mI 38 rfl))) Via.refl e18 F_pushedAt_a_18 E_a_18 (Or.inr ⟨(hw _ (mI 39 rfl)), rfl, hnm⟩) (hw _ (mI 1 rfl)) (ty := (.array .int)) (by decide) rfl rfl (g := (mkF m 79 #[.val (.ref a), .val (.int (4 : Int32))] [(.ref b18), (.ref a)])) rfl rfl (hb hby d1_79)
  refine Go.step st19 ?_
  have N19 := Fr.snoc X19 N17 ge_a
  have F_pushedAt_a_19 := F_pushedAt_a_18.same W19
  have E_a_19 := E_a_18.wr W19
  have F_changedNode_a_19 := F_changedNode_a_18.other W19 (Or.inr (slot_ne (Or.inl (hw _ (mI 11 rfl))) (Or.inr (hw _ (mI 39 rfl))) (by decide) (t := (.array .int)) (t' := (.array .int)) (by decide) (by decide)))
  have F_changedLine_a_19 := F_changedLine_a_18.other W19 (Or.inr (slot_ne (Or.inl (hw _ (mI 13 rfl))) (Or.inr (hw _ (mI 39 rfl))) (by decide) (t := (.array .int)) (t' := (.array .int)) (by decide) (by decide)))
  have F_base_a_19 := F_base_a_18.other W19 (Or.inr (slot_ne (Or.inr (hw _ (mI 31 rfl))) (Or.inr (hw _ (mI 39 rfl))) (by decide) (t := (.array .double)) (t' := (.array .int)) (by decide) (by decide)))
  have F_slope_a_19 := F_slope_a_18.other W19 (Or.inr (slot_ne (Or.inr (hw _ (mI 33 rfl))) (Or.inr (hw _ (mI 39 rfl))) (by decide) (t := (.array .double)) (t' := (.array .int)) (by decide) (by decide)))
  have F_origin_a_19 := F_origin_a_18.other W19 (Or.inr (slot_ne (Or.inr (hw _ (mI 35 rfl))) (Or.inr (hw _ (mI 39 rfl))) (by decide) (t := (.array .int)) (t' := (.array .int)) (by decide) (by decide)))
  have F_node_a_19 := F_node_a_18.other W19 (Or.inr (slot_ne (Or.inr (hw _ (mI 37 rfl))) (Or.inr (hw _ (mI 39 rfl))) (by decide) (t := (.array .int)) (t' := (.array .int)) (by decide) (by decide)))
  have F_width_a_19 := F_width_a_18.other W19 (Or.inr (slot_ne (Or.inr (hw _ (mI 28 rfl))) (Or.inr (hw _ (mI 39 rfl))) (by decide) (t := .int) (t' := (.array .int)) (by decide) (by decide)))
  have F_pushes_a_19 := F_pushes_a_18.other W19 (Or.inr (slot_ne (Or.inl (hw _ (mI 50 rfl))) (Or.inr (hw _ (mI 39 rfl))) (by decide) (t := .int) (t' := (.array .int)) (by decide) (by decide)))
  have F_changes_a_19 := F_changes_a_18.other W19 (Or.inr (slot_ne (Or.inl (hw _ (mI 52 rfl))) (Or.inr (hw _ (mI 39 rfl))) (by decide) (t := .int) (t' := (.array .int)) (by decide) (by decide)))
  have V_b2_19 := V_b2_18.other W19 (Ne.symm ne_a_b2)
  have V_b4_19 := V_b4_18.other W19 (Ne.symm ne_a_b4)
  have V_b9_19 := V_b9_18.other W19 (Ne.symm ne_a_b9)
  have V_b11_19 := V_b11_18.other W19 (Ne.symm ne_a_b11)
  have V_b13_19 := V_b13_18.other W19 (Ne.symm ne_a_b13)
  have V_b16_19 := V_b16_18.other W19 (Ne.symm ne_a_b16)
  have V_b18_19 := V_b18.other W19 (Ne.symm ne_a_b18)
  have K19 : Keep h0 h19 [a] := K18.wr W19 (Or.inl (List.mem_of_getElem? (i := 0) rfl))
  show Go _ _ _ _ _ _ _ T19 (mkF m 82 #[.val (.ref a), .val (.int (4 : Int32))] [])
  refine Go.retV X19 hx hlk hret (hb hby d1_82) (by decide) (by decide) ?_
  try rw [e19]
  exact ⟨rfl, N19, K19, b2, b4, b9, b11, b13, b16, b18, ⟨E_a_19, F_changedNode_a_19, F_changedLine_a_19, F_base_a_19, F_slope_a_19, F_origin_a_19, F_node_a_19, F_pushedAt_a_19, F_width_a_19, F_pushes_a_19, F_changes_a_19, V_b2_19, V_b4_19, own_zD V_b9_19, own_zD V_b11_19, V_b13_19, V_b16_19, V_b18_19⟩, ⟨ne_a_b2, ne_a_b4, ne_a_b9, ne_a_b11, ne_a_b13, ne_a_b16, ne_a_b18, ne_b2_b4, ne_b2_b9, ne_b2_b11, ne_b2_b13, ne_b2_b16, ne_b2_b18, ne_b4_b9, ne_b4_b11, ne_b4_b13, ne_b4_b16, ne_b4_b18, ne_b9_b11, ne_b9_b13, ne_b9_b16, ne_b9_b18, ne_b11_b13, ne_b11_b16, ne_b11_b18, ne_b13_b16, ne_b13_b18, ne_b16_b18, ge_a, ge_b2, ge_b4, ge_b9, ge_b11, ge_b13, ge_b16, ge_b18⟩, sz_b2, sz_b4, sz_b9, sz_b11, sz_b13, sz_b16, sz_b18⟩
theorem ef_rm1 (m : MethodId) (a : Addr) : entryFrame m #[(.ref a), (.int (4 : Int32))] 2 = mkF m 0 #[.val (.ref a), .val (.int (4 : Int32))] [] := by first | (simp [entryFrame, mkF, argsToLocals, Value.category]; done) | rfl
theorem rm1 (l : Launch) (Z : State) (a0 : Array Value) (hw : ∀ d ∈ tables_1, d.before a0 Z = true) (a : Addr) (h0 : Heap) (n0 : Nat) (Z0 : n0 ≤ h0.size) (E_a : Exa Z h0 a "com/example/headroom/headroom/LowerEnvelope") (F_changedNode_a : Fld Z h0 a "com/example/headroom/headroom/LowerEnvelope" "changedNode" "[I" .null) (F_changedLine_a : Fld Z h0 a "com/example/headroom/headroom/LowerEnvelope" "changedLine" "[I" .null) (F_base_a : Fld Z h0 a "com/example/headroom/headroom/LowerEnvelope" "base" "[D" .null) (F_slope_a : Fld Z h0 a "com/example/headroom/headroom/LowerEnvelope" "slope" "[D" .null) (F_origin_a : Fld Z h0 a "com/example/headroom/headroom/LowerEnvelope" "origin" "[I" .null) (F_node_a : Fld Z h0 a "com/example/headroom/headroom/LowerEnvelope" "node" "[I" .null) (F_pushedAt_a : Fld Z h0 a "com/example/headroom/headroom/LowerEnvelope" "pushedAt" "[I" .null) (F_width_a : Fld Z h0 a "com/example/headroom/headroom/LowerEnvelope" "width" "I" (.int (0 : Int32))) (F_pushes_a : Fld Z h0 a "com/example/headroom/headroom/LowerEnvelope" "pushes" "I" (.int (0 : Int32))) (F_changes_a : Fld Z h0 a "com/example/headroom/headroom/LowerEnvelope" "changes" "I" (.int (0 : Int32))) (ge_a : n0 ≤ a) :
    Con l Z (⟨"com/example/headroom/headroom/LowerEnvelope", "<init>", "(I)V"⟩ : MethodName) prog_15_method_1_code 2 none ({ frames := 2, cells := 7, slots := 155, locals := 48 } : Room) #[(.ref a), (.int (4 : Int32))] h0 (fun r h L => r = none ∧ Fr n0 L ∧ Keep h0 h [a] ∧ ∃ xn xo xu xv xw xt xm : Addr, LEs Z h a xn xo xu xv xw xt xm (fun _ => (0 : Int32)) (fun _ => (0 : Int32)) (fun _ => (0 : Int32)) (fun _ => (0 : Int32)) (fun _ => (0 : Int32)) (fun _ => (0 : Int32)) (fun _ => (0 : Int32)) 0 0 ∧ Dst n0 a xn xo xu xv xw xt xm ∧ h0.size ≤ xn ∧ h0.size ≤ xo ∧ h0.size ≤ xu ∧ h0.size ≤ xv ∧ h0.size ≤ xw ∧ h0.size ≤ xt ∧ h0.size ≤ xm) :=
  con_of (plainFor_of_name pn_9) (fun p_ e_ s_ m_ b_ meth_ c_ T_ X_ hx hZ hby hml hown hnm hret hlk e0 => Go.cast (ef_rm1 m_ a) (w1 a X_ hx hZ hw hby hml hown hnm hret hlk e0 Z0 (Fr.nil n0) E_a F_changedNode_a F_changedLine_a F_base_a F_slope_a F_origin_a F_node_a F_pushedAt_a F_width_a F_pushes_a F_changes_a ge_a))
section OwnLaw
theorem own_x1 (x : Int32) : In4 ((x &&& (3 : Int32)) + (1 : Int32)) := by
  have h := c_mask x 3 2 (by decide) (by decide); have h2 := c_iadd (x &&& 3) 1
  have h3 := Int32.toInt_lt ((x &&& (3 : Int32)) + (1 : Int32)); have h4 := Int32.le_toInt ((x &&& (3 : Int32)) + (1 : Int32)); have h5 : (1 : Int32).toInt = 1 := rfl
  unfold In4; omega
theorem own_lowU {P Q C P' Q' C' T : Nat → Int32} {c : Nat} {x : Int32} (h1 : T 1 = 1 ∨ T 1 = 2) (h2 : T c = 0 ∨ T c = 1 ∨ T c = 2) (e1 : P' 1 = P 1 ∧ Q' 1 = Q 1 ∧ C' 1 = C 1) (e2 : P' 2 = P 2 ∧ Q' 2 = Q 2 ∧ C' 2 = C 2) : lowestW P' Q' C' T c x = lowestW P Q C T c x := by
  have v1 : Vx P' Q' C' 1 x = Vx P Q C 1 x := by unfold Vx; rw [e1.1, e1.2.1, e1.2.2]
  have v2 : Vx P' Q' C' 2 x = Vx P Q C 2 x := by unfold Vx; rw [e2.1, e2.2.1, e2.2.2]
  have k1 : Vx P' Q' C' (1 : Int32).toNatClampNeg x = Vx P Q C (1 : Int32).toNatClampNeg x := v1
  have k2 : Vx P' Q' C' (2 : Int32).toNatClampNeg x = Vx P Q C (2 : Int32).toNatClampNeg x := v2
  have L : ∀ i j : Int32, (i = 1 ∨ i = 2) → (j = 1 ∨ j = 2) → lowW P' Q' C' i j x = lowW P Q C i j x := by
    intro i j hi hj
    have e : lowP P' Q' C' i j x ↔ lowP P Q C i j x := by
      have ki : Vx P' Q' C' i.toNatClampNeg x = Vx P Q C i.toNatClampNeg x := by rcases hi with h | h <;> rw [h] <;> assumption
      have kj : Vx P' Q' C' j.toNatClampNeg x = Vx P Q C j.toNatClampNeg x := by rcases hj with h | h <;> rw [h] <;> assumption
      unfold lowP; rw [ki, kj]
    unfold lowW
    by_cases q : lowP P Q C i j x
    · rw [if_pos q, if_pos (e.mpr q)]
    · rw [if_neg q, if_neg (fun z => q (e.mp z))]
  unfold lowestW
  by_cases hz : T c = 0
  · rw [if_pos hz, if_pos hz]
  · rw [if_neg hz, if_neg hz, L (T c) (T 1) (h2.resolve_left hz) h1]
end OwnLaw
section OwnLaw2
theorem own_ev {P Q C : Nat → Int32} {k : Nat} {p x : Int32} (h4 : In4 x) (h1 : P k = b8W p 0) (h2 : Q k = b8W p 8) (h3 : C k = b8W p 16) : (valW p x).toInt = Vx P Q C k x := by
  unfold Vx; rw [h1, h2, h3]; exact own_valW h4
theorem own_ch {T : Nat → Int32} (h2 : T 2 = 0 ∨ T 2 = 1 ∨ T 2 = 2) (h3 : T 3 = 0 ∨ T 3 = 1 ∨ T 3 = 2) (x : Int32) : T (chX x) = 0 ∨ T (chX x) = 1 ∨ T (chX x) = 2 := by
  unfold chX; split
  · exact h2
  · exact h3
theorem own_fin1 {af : Int32} {u v : Int64} {V1 V2 : Int} (hB : af = if V2 ≤ V1 then 2 else 1) (e1 : u.toInt = V1) (e2 : v.toInt = V2) (h : u < v) : af = (1 : Int32) := by
  rw [Int64.lt_iff_toInt_lt, e1, e2] at h; rw [hB, if_neg (by omega)]
theorem own_fin2 {af : Int32} {u v : Int64} {V1 V2 : Int} (hB : af = if V2 ≤ V1 then 2 else 1) (e1 : u.toInt = V1) (e2 : v.toInt = V2) (h : ¬ u < v) : af = (2 : Int32) := by
  rw [Int64.lt_iff_toInt_lt, e1, e2] at h; rw [hB, if_pos (by omega)]
theorem own_af2 (P Q C : Nat → Int32) (x : Int32) : lowestW P Q C (updN (fun _ => (0 : Int32)) 1 (1 : Int32)) (chX x) x = 1 := by
  have e : (updN (fun _ => (0 : Int32)) 1 (1 : Int32)) (chX x) = 0 := by
    unfold chX; split <;> rfl
  unfold lowestW; rw [if_pos e]; rfl
end OwnLaw2
theorem pd_4 : parseMethodDescriptor "(I)V" = some ⟨[.int], none⟩ := by decide +kernel
theorem pd_5 : parseMethodDescriptor "(IDDI)V" = some ⟨[.int, .double, .double, .int], none⟩ := by decide +kernel
theorem pd_6 : parseMethodDescriptor "()V" = some ⟨[], none⟩ := by decide +kernel
theorem pd_7 : parseMethodDescriptor "(II)J" = some ⟨[.int, .int], some .long⟩ := by decide +kernel
set_option maxRecDepth 65536 in
set_option maxHeartbeats 40000000 in
theorem w0 {p : Program} {l : Launch} {e : Env} {s : State} {m : MethodId} {args : Array Value} {below : List Frame} {meth : Method} {c_ : Code} {T0 : State} {locs : List Loc} {Z : State} {a0 : Array Value} {h0 : Heap} {n0 : Nat} (p0 p1 p2 p3 : Int32)
    (X0 : Stand p l e room_1 s m args below meth c_ T0 locs 0 0) (hx : p.tables.exec = Jvm.exec) (hZ : Z.Warmed39 s.vm) (hw : ∀ d ∈ tables_1, d.before a0 Z = true) (hby : c_.code = code) (hml : c_.maxLocals = maxLocals) (hown : s.vm.findClass "com/example/headroom/headroom/LowerEnvelopePopPinLaw" = some m.cls) (hnm : meth.name = "law") (hret : meth.sig.returnType = ret) (hlk : meth.locks = false) (e0 : T0.heap = h0) (Z0 : n0 ≤ h0.size) (N0 : Fr n0 locs)  :
    Go p e below s room_1.cells room_1.slots (fun r h L => r = some (.int 1) ∧ Fr n0 L) T0 (mkF m 0 #[.val (.int p0), .val (.int p1), .val (.int p2), .val (.int p3), .unset, .unset, .unset, .unset, .unset, .unset] []) := by
  have hret : meth.sig.returnType = some .boolean := hret
  show Go _ _ _ _ _ _ _ T0 (mkF m 0 #[.val (.int p0), .val (.int p1), .val (.int p2), .val (.int p3), .unset, .unset, .unset, .unset, .unset, .unset] [])
  obtain ⟨T1, h1, X1, e1, E1, A1, D1, -, st1⟩ := newO X0 hx hZ hown (hw _ (mI 0 rfl)) (hw _ (mI 1 rfl)) (hw _ (mI 2 rfl)) e0 (g := (mkF m 0 #[.val (.int p0), .val (.int p1), .val (.int p2), .val (.int p3), .unset, .unset, .unset, .unset, .unset, .unset] [])) rfl (hb hby at_0) (by decide) (by decide)
  obtain ⟨b1, g1⟩ : ∃ z, z = h0.size := ⟨_, rfl⟩
  rw [← g1] at A1 D1 st1
  refine Go.step st1 ?_
  have K1 : Keep h0 h1 [] := (Keep.refl h0 []).ext E1
  have sz_b1 : h0.size ≤ b1 := Nat.le_trans ((Keep.refl h0 []) : Keep h0 h0 []).1 (Nat.le_of_eq g1.symm)
  have ge_b1 : n0 ≤ b1 := Nat.le_trans Z0 sz_b1
  have E_b1 := A1
  have F_changedNode_b1 : Fld Z h1 b1 "com/example/headroom/headroom/LowerEnvelope" "changedNode" "[I" .null := D1 (Or.inl (hw _ (mI 11 rfl))) (ty := (.array .int)) (by decide)
  have F_changedLine_b1 : Fld Z h1 b1 "com/example/headroom/headroom/LowerEnvelope" "changedLine" "[I" .null := D1 (Or.inl (hw _ (mI 13 rfl))) (ty := (.array .int)) (by decide)
  have F_width_b1 : Fld Z h1 b1 "com/example/headroom/headroom/LowerEnvelope" "width" "I" (.int (0 : Int32)) := D1 (Or.inr (hw _ (mI 28 rfl))) (ty := .int) (by decide)
  have F_base_b1 : Fld Z h1 b1 "com/example/headroom/headroom/LowerEnvelope" "base" "[D" .null := D1 (Or.inr (hw _ (mI 31 rfl))) (ty := (.array .double)) (by decide)
  have F_slope_b1 : Fld Z h1 b1 "com/example/headroom/headroom/LowerEnvelope" "slope" "[D" .null := D1 (Or.inr (hw _ (mI 33 rfl))) (ty := (.array .double)) (by decide)
  have F_origin_b1 : Fld Z h1 b1 "com/example/headroom/headroom/LowerEnvelope" "origin" "[I" .null := D1 (Or.inr (hw _ (mI 35 rfl))) (ty := (.array .int)) (by decide)
  have F_node_b1 : Fld Z h1 b1 "com/example/headroom/headroom/LowerEnvelope" "node" "[I" .null := D1 (Or.inr (hw _ (mI 37 rfl))) (ty := (.array .int)) (by decide)
  have F_pushedAt_b1 : Fld Z h1 b1 "com/example/headroom/headroom/LowerEnvelope" "pushedAt" "[I" .null := D1 (Or.inr (hw _ (mI 39 rfl))) (ty := (.array .int)) (by decide)
  have F_pushes_b1 : Fld Z h1 b1 "com/example/headroom/headroom/LowerEnvelope" "pushes" "I" (.int (0 : Int32)) := D1 (Or.inl (hw _ (mI 50 rfl))) (ty := .int) (by decide)
  have F_changes_b1 : Fld Z h1 b1 "com/example/headroom/headroom/LowerEnvelope" "changes" "I" (.int (0 : Int32)) := D1 (Or.inl (hw _ (mI 52 rfl))) (ty := .int) (by decide)
  show Go _ _ _ _ _ _ _ T1 (mkF m 3 #[.val (.int p0), .val (.int p1), .val (.int p2), .val (.int p3), .unset, .unset, .unset, .unset, .unset, .unset] [(.ref b1)])
  refine Go.step (fun _ k => XS.dup X1.here hx rfl (hb hby at_3) rfl rfl k) ?_
  refine Go.step (fun _ k => XS.iconst X1.here hx rfl (hb hby at_4) k) ?_
  refine Go.callI X1 hx hZ (by rw [hml]; rfl) (y := (⟨"com/example/headroom/headroom/LowerEnvelope", "<init>", "(I)V"⟩ : MethodName)) (a := b1) (argsL := [(.int (4 : Int32))]) (rest := [(.ref b1)]) rfl hown (hw _ (mI 3 rfl)) (hw _ (mI 4 rfl)) (hw _ (mI 2 rfl)) (hw _ (mI 5 rfl)) (by decide) (rm1 l Z a0 hw b1 h1 n0 (Nat.le_trans Z0 (K1 : Keep h0 h1 []).1) E_b1 F_changedNode_b1 F_changedLine_b1 F_base_b1 F_slope_b1 F_origin_b1 F_node_b1 F_pushedAt_b1 F_width_b1 F_pushes_b1 F_changes_b1 ge_b1) e1 (hb hby at_5) (lenOf pd_4 rfl) rfl rfl (W := 1) (Nat.le_of_eq rfl) (by decide) (by decide) (by decide) (by decide) ?_
  intro v2 T2 L2 X2 Q2
  obtain ⟨rfl, N2q, Kc2, xn, xo, xu, xv, xw, xt, xm, hL2, hD, sc_xn, sc_xo, sc_xu, sc_xv, sc_xw, sc_xt, sc_xm⟩ := Q2
  have N2 := Fr.app N0 N2q
  have E_b1_2 := E_b1.keep Kc2
  have KK2 : Keep h0 T2.heap [] := (K1 : Keep h0 h1 []).trans Kc2 (allS (Or.inr sz_b1) all0)
  have sz_xn : h0.size ≤ xn := Nat.le_trans (K1 : Keep h0 h1 []).1 sc_xn
  have sz_xo : h0.size ≤ xo := Nat.le_trans (K1 : Keep h0 h1 []).1 sc_xo
  have sz_xu : h0.size ≤ xu := Nat.le_trans (K1 : Keep h0 h1 []).1 sc_xu
  have sz_xv : h0.size ≤ xv := Nat.le_trans (K1 : Keep h0 h1 []).1 sc_xv
  have sz_xw : h0.size ≤ xw := Nat.le_trans (K1 : Keep h0 h1 []).1 sc_xw
  have sz_xt : h0.size ≤ xt := Nat.le_trans (K1 : Keep h0 h1 []).1 sc_xt
  have sz_xm : h0.size ≤ xm := Nat.le_trans (K1 : Keep h0 h1 []).1 sc_xm
  show Go _ _ _ _ _ _ _ T2 (mkF m 8 #[.val (.int p0), .val (.int p1), .val (.int p2), .val (.int p3), .unset, .unset, .unset, .unset, .unset, .unset] [(.ref b1)])
  refine Go.step (fun _ k => XS.astore X2.here hx rfl (hb hby at_8) rfl rfl (l' := #[.val (.int p0), .val (.int p1), .val (.int p2), .val (.int p3), .val (.ref b1), .unset, .unset, .unset, .unset, .unset]) rfl k) ?_
  show Go _ _ _ _ _ _ _ T2 (mkF m 10 #[.val (.int p0), .val (.int p1), .val (.int p2), .val (.int p3), .val (.ref b1), .unset, .unset, .unset, .unset, .unset] [])
  refine Go.step (fun _ k => XS.aload X2.here hx rfl (hb hby at_10) rfl rfl k) ?_
  refine Go.step (fun _ k => XS.iconst X2.here hx rfl (hb hby at_12) k) ?_
  refine Go.step (fun _ k => XS.iloadN X2.here hx rfl (hb hby at_13) rfl k) ?_
  show Go _ _ _ _ _ _ _ T2 (mkF m 14 #[.val (.int p0), .val (.int p1), .val (.int p2), .val (.int p3), .val (.ref b1), .unset, .unset, .unset, .unset, .unset] [(.int p0), (.int (1 : Int32)), (.ref b1)])
  refine Go.step (fun _ k => XS.iconst X2.here hx rfl (hb hby at_14) k) ?_
  refine Go.callS X2 hx hZ (by rw [hml]; rfl) (y := (⟨"com/example/headroom/headroom/LowerEnvelopePopPinLaw", "b8", "(II)I"⟩ : MethodName)) (argsL := [(.int p0), (.int (0 : Int32))]) (rest := [(.int (1 : Int32)), (.ref b1)]) hown (hw _ (mI 40 rfl)) (hw _ (mI 41 rfl)) (hw _ (mI 42 rfl)) (hw _ (mI 43 rfl)) (by decide) (rm6 l Z a0 hw p0 (0 : Int32) T2.heap n0 (Nat.le_trans Z0 (KK2 : Keep h0 T2.heap []).1)) rfl (hb hby at_15) (lenOf pd_2 rfl) rfl rfl (W := 2) (Nat.le_of_eq rfl) (by decide) (by decide) (by decide) (by decide) ?_
  intro v3 T3 L3 X3 Q3
  obtain ⟨rfl, N3q, hh3⟩ := Q3
  have N3 := Fr.app N2 N3q
  show Go _ _ _ _ _ _ _ T3 (mkF m 18 #[.val (.int p0), .val (.int p1), .val (.int p2), .val (.int p3), .val (.ref b1), .unset, .unset, .unset, .unset, .unset] [(.int (b8W p0 (0 : Int32))), (.int (1 : Int32)), (.ref b1)])
  refine Go.step (fun _ k => XS.i2dS X3.here hx rfl (hb hby at_18) rfl rfl k) ?_
  show Go _ _ _ _ _ _ _ T3 (mkF m 19 #[.val (.int p0), .val (.int p1), .val (.int p2), .val (.int p3), .val (.ref b1), .unset, .unset, .unset, .unset, .unset] [(.double (FP.i2d (b8W p0 (0 : Int32)))), (.int (1 : Int32)), (.ref b1)])
  refine Go.step (fun _ k => XS.iloadN X3.here hx rfl (hb hby at_19) rfl k) ?_
  refine Go.step (fun _ k => XS.bipush X3.here hx rfl (hb hby at_20) k) ?_
  refine Go.callS X3 hx hZ (by rw [hml]; rfl) (y := (⟨"com/example/headroom/headroom/LowerEnvelopePopPinLaw", "b8", "(II)I"⟩ : MethodName)) (argsL := [(.int p0), (.int (8 : Int32))]) (rest := [(.double (FP.i2d (b8W p0 (0 : Int32)))), (.int (1 : Int32)), (.ref b1)]) hown (hw _ (mI 40 rfl)) (hw _ (mI 41 rfl)) (hw _ (mI 42 rfl)) (hw _ (mI 43 rfl)) (by decide) (rm6 l Z a0 hw p0 (8 : Int32) T2.heap n0 (Nat.le_trans Z0 (KK2 : Keep h0 T2.heap []).1)) hh3 (hb hby at_22) (lenOf pd_2 rfl) rfl rfl (W := 4) (Nat.le_of_eq rfl) (by decide) (by decide) (by decide) (by decide) ?_
  intro v4 T4 L4 X4 Q4
  obtain ⟨rfl, N4q, hh4⟩ := Q4
  have N4 := Fr.app N3 N4q
  show Go _ _ _ _ _ _ _ T4 (mkF m 25 #[.val (.int p0), .val (.int p1), .val (.int p2), .val (.int p3), .val (.ref b1), .unset, .unset, .unset, .unset, .unset] [(.int (b8W p0 (8 : Int32))), (.double (FP.i2d (b8W p0 (0 : Int32)))), (.int (1 : Int32)), (.ref b1)])
  refine Go.step (fun _ k => XS.i2dS X4.here hx rfl (hb hby at_25) rfl rfl k) ?_
  show Go _ _ _ _ _ _ _ T4 (mkF m 26 #[.val (.int p0), .val (.int p1), .val (.int p2), .val (.int p3), .val (.ref b1), .unset, .unset, .unset, .unset, .unset] [(.double (FP.i2d (b8W p0 (8 : Int32)))), (.double (FP.i2d (b8W p0 (0 : Int32)))), (.int (1 : Int32)), (.ref b1)])
  refine Go.step (fun _ k => XS.iloadN X4.here hx rfl (hb hby at_26) rfl k) ?_
  refine Go.step (fun _ k => XS.bipush X4.here hx rfl (hb hby at_27) k) ?_
  refine Go.callS X4 hx hZ (by rw [hml]; rfl) (y := (⟨"com/example/headroom/headroom/LowerEnvelopePopPinLaw", "b8", "(II)I"⟩ : MethodName)) (argsL := [(.int p0), (.int (16 : Int32))]) (rest := [(.double (FP.i2d (b8W p0 (8 : Int32)))), (.double (FP.i2d (b8W p0 (0 : Int32)))), (.int (1 : Int32)), (.ref b1)]) hown (hw _ (mI 40 rfl)) (hw _ (mI 41 rfl)) (hw _ (mI 42 rfl)) (hw _ (mI 43 rfl)) (by decide) (rm6 l Z a0 hw p0 (16 : Int32) T2.heap n0 (Nat.le_trans Z0 (KK2 : Keep h0 T2.heap []).1)) hh4 (hb hby at_29) (lenOf pd_2 rfl) rfl rfl (W := 6) (Nat.le_of_eq rfl) (by decide) (by decide) (by decide) (by decide) ?_
  intro v5 T5 L5 X5 Q5
  obtain ⟨rfl, N5q, hh5⟩ := Q5
  have N5 := Fr.app N4 N5q
  show Go _ _ _ _ _ _ _ T5 (mkF m 32 #[.val (.int p0), .val (.int p1), .val (.int p2), .val (.int p3), .val (.ref b1), .unset, .unset, .unset, .unset, .unset] [(.int (b8W p0 (16 : Int32))), (.double (FP.i2d (b8W p0 (8 : Int32)))), (.double (FP.i2d (b8W p0 (0 : Int32)))), (.int (1 : Int32)), (.ref b1)])
  refine Go.callV X5 hx hZ (by rw [hml]; rfl) (y := (⟨"com/example/headroom/headroom/LowerEnvelope", "push", "(IDDI)V"⟩ : MethodName)) (z := (⟨"com/example/headroom/headroom/LowerEnvelope", "push", "(IDDI)V"⟩ : MethodName)) (a := b1) (argsL := [(.int (1 : Int32)), (.double (FP.i2d (b8W p0 (0 : Int32)))), (.double (FP.i2d (b8W p0 (8 : Int32)))), (.int (b8W p0 (16 : Int32)))]) (rest := []) hown (hw _ (mI 44 rfl)) (hw _ (mI 45 rfl)) (notFace_of_selects (args := #[]) (mvT hZ (hw _ (mI 47 rfl)))) (hw _ (mI 47 rfl)) (hw _ (mI 46 rfl)) (hw _ (mI 2 rfl)) (hw _ (mI 48 rfl)) (by decide) (rm7C l Z a0 hw b1 xn xo xu xv xw xt xm (fun _ => (0 : Int32)) (fun _ => (0 : Int32)) (fun _ => (0 : Int32)) (fun _ => (0 : Int32)) (fun _ => (0 : Int32)) (fun _ => (0 : Int32)) (b8W p0 (0 : Int32)) (b8W p0 (8 : Int32)) (b8W p0 (16 : Int32)) T2.heap n0 (Nat.le_trans Z0 (KK2 : Keep h0 T2.heap []).1) hL2 hD ((fun _ => (by decide : -128 ≤ (0 : Int32).toInt ∧ (0 : Int32).toInt ≤ 127)) : Sm (fun _ => (0 : Int32))) ((fun _ => (by decide : -128 ≤ (0 : Int32).toInt ∧ (0 : Int32).toInt ≤ 127)) : Sm (fun _ => (0 : Int32))) ((fun _ => (by decide : -128 ≤ (0 : Int32).toInt ∧ (0 : Int32).toInt ≤ 127)) : Sm (fun _ => (0 : Int32))) (own_b8 p0 (0 : Int32)) (own_b8 p0 (8 : Int32)) (own_b8 p0 (16 : Int32))) hh5 E_b1_2 (hb hby at_32) (lenOf pd_5 rfl) rfl rfl (W := 0) (Nat.le_of_eq rfl) (by decide) (by decide) (by decide) (by decide) ?_
  intro v6 T6 L6 X6 Q6
  obtain ⟨rfl, N6q, Kc6, hL6⟩ := Q6
  have N6 := Fr.app N5 N6q
  have E_b1_6 := E_b1_2.keep Kc6
  have KK6 : Keep h0 T6.heap [] := (KK2 : Keep h0 T2.heap []).trans Kc6 (allS (Or.inr sz_b1) (allS (Or.inr sz_xn) (allS (Or.inr sz_xo) (allS (Or.inr sz_xu) (allS (Or.inr sz_xv) (allS (Or.inr sz_xw) (allS (Or.inr sz_xt) (allS (Or.inr sz_xm) all0))))))))
  show Go _ _ _ _ _ _ _ T6 (mkF m 35 #[.val (.int p0), .val (.int p1), .val (.int p2), .val (.int p3), .val (.ref b1), .unset, .unset, .unset, .unset, .unset] [])
  refine Go.step (fun _ k => XS.aload X6.here hx rfl (hb hby at_35) rfl rfl k) ?_
  refine Go.step (fun _ k => XS.iconst X6.here hx rfl (hb hby at_37) k) ?_
  refine Go.step (fun _ k => XS.iloadN X6.here hx rfl (hb hby at_38) rfl k) ?_
  show Go _ _ _ _ _ _ _ T6 (mkF m 39 #[.val (.int p0), .val (.int p1), .val (.int p2), .val (.int p3), .val (.ref b1), .unset, .unset, .unset, .unset, .unset] [(.int p1), (.int (2 : Int32)), (.ref b1)])
  refine Go.step (fun _ k => XS.iconst X6.here hx rfl (hb hby at_39) k) ?_
  refine Go.callS X6 hx hZ (by rw [hml]; rfl) (y := (⟨"com/example/headroom/headroom/LowerEnvelopePopPinLaw", "b8", "(II)I"⟩ : MethodName)) (argsL := [(.int p1), (.int (0 : Int32))]) (rest := [(.int (2 : Int32)), (.ref b1)]) hown (hw _ (mI 40 rfl)) (hw _ (mI 41 rfl)) (hw _ (mI 42 rfl)) (hw _ (mI 43 rfl)) (by decide) (rm6 l Z a0 hw p1 (0 : Int32) T6.heap n0 (Nat.le_trans Z0 (KK6 : Keep h0 T6.heap []).1)) rfl (hb hby at_40) (lenOf pd_2 rfl) rfl rfl (W := 2) (Nat.le_of_eq rfl) (by decide) (by decide) (by decide) (by decide) ?_
  intro v7 T7 L7 X7 Q7
  obtain ⟨rfl, N7q, hh7⟩ := Q7
  have N7 := Fr.app N6 N7q
  show Go _ _ _ _ _ _ _ T7 (mkF m 43 #[.val (.int p0), .val (.int p1), .val (.int p2), .val (.int p3), .val (.ref b1), .unset, .unset, .unset, .unset, .unset] [(.int (b8W p1 (0 : Int32))), (.int (2 : Int32)), (.ref b1)])
  refine Go.step (fun _ k => XS.i2dS X7.here hx rfl (hb hby at_43) rfl rfl k) ?_
  show Go _ _ _ _ _ _ _ T7 (mkF m 44 #[.val (.int p0), .val (.int p1), .val (.int p2), .val (.int p3), .val (.ref b1), .unset, .unset, .unset, .unset, .unset] [(.double (FP.i2d (b8W p1 (0 : Int32)))), (.int (2 : Int32)), (.ref b1)])
  refine Go.step (fun _ k => XS.iloadN X7.here hx rfl (hb hby at_44) rfl k) ?_
  refine Go.step (fun _ k => XS.bipush X7.here hx rfl (hb hby at_45) k) ?_
  refine Go.callS X7 hx hZ (by rw [hml]; rfl) (y := (⟨"com/example/headroom/headroom/LowerEnvelopePopPinLaw", "b8", "(II)I"⟩ : MethodName)) (argsL := [(.int p1), (.int (8 : Int32))]) (rest := [(.double (FP.i2d (b8W p1 (0 : Int32)))), (.int (2 : Int32)), (.ref b1)]) hown (hw _ (mI 40 rfl)) (hw _ (mI 41 rfl)) (hw _ (mI 42 rfl)) (hw _ (mI 43 rfl)) (by decide) (rm6 l Z a0 hw p1 (8 : Int32) T6.heap n0 (Nat.le_trans Z0 (KK6 : Keep h0 T6.heap []).1)) hh7 (hb hby at_47) (lenOf pd_2 rfl) rfl rfl (W := 4) (Nat.le_of_eq rfl) (by decide) (by decide) (by decide) (by decide) ?_
  intro v8 T8 L8 X8 Q8
  obtain ⟨rfl, N8q, hh8⟩ := Q8
  have N8 := Fr.app N7 N8q
  show Go _ _ _ _ _ _ _ T8 (mkF m 50 #[.val (.int p0), .val (.int p1), .val (.int p2), .val (.int p3), .val (.ref b1), .unset, .unset, .unset, .unset, .unset] [(.int (b8W p1 (8 : Int32))), (.double (FP.i2d (b8W p1 (0 : Int32)))), (.int (2 : Int32)), (.ref b1)])
  refine Go.step (fun _ k => XS.i2dS X8.here hx rfl (hb hby at_50) rfl rfl k) ?_
  show Go _ _ _ _ _ _ _ T8 (mkF m 51 #[.val (.int p0), .val (.int p1), .val (.int p2), .val (.int p3), .val (.ref b1), .unset, .unset, .unset, .unset, .unset] [(.double (FP.i2d (b8W p1 (8 : Int32)))), (.double (FP.i2d (b8W p1 (0 : Int32)))), (.int (2 : Int32)), (.ref b1)])
  refine Go.step (fun _ k => XS.iloadN X8.here hx rfl (hb hby at_51) rfl k) ?_
  refine Go.step (fun _ k => XS.bipush X8.here hx rfl (hb hby at_52) k) ?_
  refine Go.callS X8 hx hZ (by rw [hml]; rfl) (y := (⟨"com/example/headroom/headroom/LowerEnvelopePopPinLaw", "b8", "(II)I"⟩ : MethodName)) (argsL := [(.int p1), (.int (16 : Int32))]) (rest := [(.double (FP.i2d (b8W p1 (8 : Int32)))), (.double (FP.i2d (b8W p1 (0 : Int32)))), (.int (2 : Int32)), (.ref b1)]) hown (hw _ (mI 40 rfl)) (hw _ (mI 41 rfl)) (hw _ (mI 42 rfl)) (hw _ (mI 43 rfl)) (by decide) (rm6 l Z a0 hw p1 (16 : Int32) T6.heap n0 (Nat.le_trans Z0 (KK6 : Keep h0 T6.heap []).1)) hh8 (hb hby at_54) (lenOf pd_2 rfl) rfl rfl (W := 6) (Nat.le_of_eq rfl) (by decide) (by decide) (by decide) (by decide) ?_
  intro v9 T9 L9 X9 Q9
  obtain ⟨rfl, N9q, hh9⟩ := Q9
  have N9 := Fr.app N8 N9q
  show Go _ _ _ _ _ _ _ T9 (mkF m 57 #[.val (.int p0), .val (.int p1), .val (.int p2), .val (.int p3), .val (.ref b1), .unset, .unset, .unset, .unset, .unset] [(.int (b8W p1 (16 : Int32))), (.double (FP.i2d (b8W p1 (8 : Int32)))), (.double (FP.i2d (b8W p1 (0 : Int32)))), (.int (2 : Int32)), (.ref b1)])
  refine Go.callV X9 hx hZ (by rw [hml]; rfl) (y := (⟨"com/example/headroom/headroom/LowerEnvelope", "push", "(IDDI)V"⟩ : MethodName)) (z := (⟨"com/example/headroom/headroom/LowerEnvelope", "push", "(IDDI)V"⟩ : MethodName)) (a := b1) (argsL := [(.int (2 : Int32)), (.double (FP.i2d (b8W p1 (0 : Int32)))), (.double (FP.i2d (b8W p1 (8 : Int32)))), (.int (b8W p1 (16 : Int32)))]) (rest := []) hown (hw _ (mI 44 rfl)) (hw _ (mI 45 rfl)) (notFace_of_selects (args := #[]) (mvT hZ (hw _ (mI 47 rfl)))) (hw _ (mI 47 rfl)) (hw _ (mI 46 rfl)) (hw _ (mI 2 rfl)) (hw _ (mI 48 rfl)) (by decide) (rm7B l Z a0 hw b1 xn xo xu xv xw xt xm (updN (fun _ => (0 : Int32)) 1 (b8W p0 (0 : Int32))) (updN (fun _ => (0 : Int32)) 1 (b8W p0 (8 : Int32))) (updN (fun _ => (0 : Int32)) 1 (b8W p0 (16 : Int32))) (updN (fun _ => (0 : Int32)) 0 (0 : Int32)) (updN (fun _ => (0 : Int32)) 0 (1 : Int32)) (updN (fun _ => (0 : Int32)) 0 (0 : Int32)) (b8W p1 (0 : Int32)) (b8W p1 (8 : Int32)) (b8W p1 (16 : Int32)) T6.heap n0 (Nat.le_trans Z0 (KK6 : Keep h0 T6.heap []).1) hL6 hD ((Sm.upd (fun _ => (by decide : -128 ≤ (0 : Int32).toInt ∧ (0 : Int32).toInt ≤ 127)) (own_b8 _ _) 1) : Sm (updN (fun _ => (0 : Int32)) 1 (b8W p0 (0 : Int32)))) ((Sm.upd (fun _ => (by decide : -128 ≤ (0 : Int32).toInt ∧ (0 : Int32).toInt ≤ 127)) (own_b8 _ _) 1) : Sm (updN (fun _ => (0 : Int32)) 1 (b8W p0 (8 : Int32)))) ((Sm.upd (fun _ => (by decide : -128 ≤ (0 : Int32).toInt ∧ (0 : Int32).toInt ≤ 127)) (own_b8 _ _) 1) : Sm (updN (fun _ => (0 : Int32)) 1 (b8W p0 (16 : Int32)))) (own_b8 p1 (0 : Int32)) (own_b8 p1 (8 : Int32)) (own_b8 p1 (16 : Int32))) hh9 E_b1_6 (hb hby at_57) (lenOf pd_5 rfl) rfl rfl (W := 0) (Nat.le_of_eq rfl) (by decide) (by decide) (by decide) (by decide) ?_
  intro v10 T10 L10 X10 Q10
  obtain ⟨rfl, N10q, Kc10, T2, N2, O2, n2, hL10, hG2, hn2, hLf2, hR2, hr2, hT1, hT2, hT3, hB2⟩ := Q10
  have N10 := Fr.app N9 N10q
  have E_b1_10 := E_b1_6.keep Kc10
  have KK10 : Keep h0 T10.heap [] := (KK6 : Keep h0 T6.heap []).trans Kc10 (allS (Or.inr sz_b1) (allS (Or.inr sz_xn) (allS (Or.inr sz_xo) (allS (Or.inr sz_xu) (allS (Or.inr sz_xv) (allS (Or.inr sz_xw) (allS (Or.inr sz_xt) (allS (Or.inr sz_xm) all0))))))))
  show Go _ _ _ _ _ _ _ T10 (mkF m 60 #[.val (.int p0), .val (.int p1), .val (.int p2), .val (.int p3), .val (.ref b1), .unset, .unset, .unset, .unset, .unset] [])
  refine Go.step (fun _ k => XS.aload X10.here hx rfl (hb hby at_60) rfl rfl k) ?_
  refine Go.step (fun _ k => XS.iconst X10.here hx rfl (hb hby at_62) k) ?_
  refine Go.step (fun _ k => XS.iloadN X10.here hx rfl (hb hby at_63) rfl k) ?_
  show Go _ _ _ _ _ _ _ T10 (mkF m 64 #[.val (.int p0), .val (.int p1), .val (.int p2), .val (.int p3), .val (.ref b1), .unset, .unset, .unset, .unset, .unset] [(.int p2), (.int (3 : Int32)), (.ref b1)])
  refine Go.step (fun _ k => XS.iconst X10.here hx rfl (hb hby at_64) k) ?_
  refine Go.callS X10 hx hZ (by rw [hml]; rfl) (y := (⟨"com/example/headroom/headroom/LowerEnvelopePopPinLaw", "b8", "(II)I"⟩ : MethodName)) (argsL := [(.int p2), (.int (0 : Int32))]) (rest := [(.int (3 : Int32)), (.ref b1)]) hown (hw _ (mI 40 rfl)) (hw _ (mI 41 rfl)) (hw _ (mI 42 rfl)) (hw _ (mI 43 rfl)) (by decide) (rm6 l Z a0 hw p2 (0 : Int32) T10.heap n0 (Nat.le_trans Z0 (KK10 : Keep h0 T10.heap []).1)) rfl (hb hby at_65) (lenOf pd_2 rfl) rfl rfl (W := 2) (Nat.le_of_eq rfl) (by decide) (by decide) (by decide) (by decide) ?_
  intro v11 T11 L11 X11 Q11
  obtain ⟨rfl, N11q, hh11⟩ := Q11
  have N11 := Fr.app N10 N11q
  show Go _ _ _ _ _ _ _ T11 (mkF m 68 #[.val (.int p0), .val (.int p1), .val (.int p2), .val (.int p3), .val (.ref b1), .unset, .unset, .unset, .unset, .unset] [(.int (b8W p2 (0 : Int32))), (.int (3 : Int32)), (.ref b1)])
  refine Go.step (fun _ k => XS.i2dS X11.here hx rfl (hb hby at_68) rfl rfl k) ?_
  show Go _ _ _ _ _ _ _ T11 (mkF m 69 #[.val (.int p0), .val (.int p1), .val (.int p2), .val (.int p3), .val (.ref b1), .unset, .unset, .unset, .unset, .unset] [(.double (FP.i2d (b8W p2 (0 : Int32)))), (.int (3 : Int32)), (.ref b1)])
  refine Go.step (fun _ k => XS.iloadN X11.here hx rfl (hb hby at_69) rfl k) ?_
  refine Go.step (fun _ k => XS.bipush X11.here hx rfl (hb hby at_70) k) ?_
  refine Go.callS X11 hx hZ (by rw [hml]; rfl) (y := (⟨"com/example/headroom/headroom/LowerEnvelopePopPinLaw", "b8", "(II)I"⟩ : MethodName)) (argsL := [(.int p2), (.int (8 : Int32))]) (rest := [(.double (FP.i2d (b8W p2 (0 : Int32)))), (.int (3 : Int32)), (.ref b1)]) hown (hw _ (mI 40 rfl)) (hw _ (mI 41 rfl)) (hw _ (mI 42 rfl)) (hw _ (mI 43 rfl)) (by decide) (rm6 l Z a0 hw p2 (8 : Int32) T10.heap n0 (Nat.le_trans Z0 (KK10 : Keep h0 T10.heap []).1)) hh11 (hb hby at_72) (lenOf pd_2 rfl) rfl rfl (W := 4) (Nat.le_of_eq rfl) (by decide) (by decide) (by decide) (by decide) ?_
  intro v12 T12 L12 X12 Q12
  obtain ⟨rfl, N12q, hh12⟩ := Q12
  have N12 := Fr.app N11 N12q
  show Go _ _ _ _ _ _ _ T12 (mkF m 75 #[.val (.int p0), .val (.int p1), .val (.int p2), .val (.int p3), .val (.ref b1), .unset, .unset, .unset, .unset, .unset] [(.int (b8W p2 (8 : Int32))), (.double (FP.i2d (b8W p2 (0 : Int32)))), (.int (3 : Int32)), (.ref b1)])
  refine Go.step (fun _ k => XS.i2dS X12.here hx rfl (hb hby at_75) rfl rfl k) ?_
  show Go _ _ _ _ _ _ _ T12 (mkF m 76 #[.val (.int p0), .val (.int p1), .val (.int p2), .val (.int p3), .val (.ref b1), .unset, .unset, .unset, .unset, .unset] [(.double (FP.i2d (b8W p2 (8 : Int32)))), (.double (FP.i2d (b8W p2 (0 : Int32)))), (.int (3 : Int32)), (.ref b1)])
  refine Go.step (fun _ k => XS.iloadN X12.here hx rfl (hb hby at_76) rfl k) ?_
  refine Go.step (fun _ k => XS.bipush X12.here hx rfl (hb hby at_77) k) ?_
  refine Go.callS X12 hx hZ (by rw [hml]; rfl) (y := (⟨"com/example/headroom/headroom/LowerEnvelopePopPinLaw", "b8", "(II)I"⟩ : MethodName)) (argsL := [(.int p2), (.int (16 : Int32))]) (rest := [(.double (FP.i2d (b8W p2 (8 : Int32)))), (.double (FP.i2d (b8W p2 (0 : Int32)))), (.int (3 : Int32)), (.ref b1)]) hown (hw _ (mI 40 rfl)) (hw _ (mI 41 rfl)) (hw _ (mI 42 rfl)) (hw _ (mI 43 rfl)) (by decide) (rm6 l Z a0 hw p2 (16 : Int32) T10.heap n0 (Nat.le_trans Z0 (KK10 : Keep h0 T10.heap []).1)) hh12 (hb hby at_79) (lenOf pd_2 rfl) rfl rfl (W := 6) (Nat.le_of_eq rfl) (by decide) (by decide) (by decide) (by decide) ?_
  intro v13 T13 L13 X13 Q13
  obtain ⟨rfl, N13q, hh13⟩ := Q13
  have N13 := Fr.app N12 N13q
  show Go _ _ _ _ _ _ _ T13 (mkF m 82 #[.val (.int p0), .val (.int p1), .val (.int p2), .val (.int p3), .val (.ref b1), .unset, .unset, .unset, .unset, .unset] [(.int (b8W p2 (16 : Int32))), (.double (FP.i2d (b8W p2 (8 : Int32)))), (.double (FP.i2d (b8W p2 (0 : Int32)))), (.int (3 : Int32)), (.ref b1)])
  refine Go.callV X13 hx hZ (by rw [hml]; rfl) (y := (⟨"com/example/headroom/headroom/LowerEnvelope", "push", "(IDDI)V"⟩ : MethodName)) (z := (⟨"com/example/headroom/headroom/LowerEnvelope", "push", "(IDDI)V"⟩ : MethodName)) (a := b1) (argsL := [(.int (3 : Int32)), (.double (FP.i2d (b8W p2 (0 : Int32)))), (.double (FP.i2d (b8W p2 (8 : Int32)))), (.int (b8W p2 (16 : Int32)))]) (rest := []) hown (hw _ (mI 44 rfl)) (hw _ (mI 45 rfl)) (notFace_of_selects (args := #[]) (mvT hZ (hw _ (mI 47 rfl)))) (hw _ (mI 47 rfl)) (hw _ (mI 46 rfl)) (hw _ (mI 2 rfl)) (hw _ (mI 48 rfl)) (by decide) (rm7A l Z a0 hw b1 xn xo xu xv xw xt xm (updN (updN (fun _ => (0 : Int32)) 1 (b8W p0 (0 : Int32))) 2 (b8W p1 (0 : Int32))) (updN (updN (fun _ => (0 : Int32)) 1 (b8W p0 (8 : Int32))) 2 (b8W p1 (8 : Int32))) (updN (updN (fun _ => (0 : Int32)) 1 (b8W p0 (16 : Int32))) 2 (b8W p1 (16 : Int32))) T2 (updN (updN (fun _ => (0 : Int32)) 0 (0 : Int32)) 1 (1 : Int32)) N2 O2 (1 + n2) (b8W p2 (0 : Int32)) (b8W p2 (8 : Int32)) (b8W p2 (16 : Int32)) T10.heap n0 (Nat.le_trans Z0 (KK10 : Keep h0 T10.heap []).1) hL10 hD ((Sm.upd (Sm.upd (fun _ => (by decide : -128 ≤ (0 : Int32).toInt ∧ (0 : Int32).toInt ≤ 127)) (own_b8 _ _) 1) (own_b8 _ _) 2) : Sm (updN (updN (fun _ => (0 : Int32)) 1 (b8W p0 (0 : Int32))) 2 (b8W p1 (0 : Int32)))) ((Sm.upd (Sm.upd (fun _ => (by decide : -128 ≤ (0 : Int32).toInt ∧ (0 : Int32).toInt ≤ 127)) (own_b8 _ _) 1) (own_b8 _ _) 2) : Sm (updN (updN (fun _ => (0 : Int32)) 1 (b8W p0 (8 : Int32))) 2 (b8W p1 (8 : Int32)))) ((Sm.upd (Sm.upd (fun _ => (by decide : -128 ≤ (0 : Int32).toInt ∧ (0 : Int32).toInt ≤ 127)) (own_b8 _ _) 1) (own_b8 _ _) 2) : Sm (updN (updN (fun _ => (0 : Int32)) 1 (b8W p0 (16 : Int32))) 2 (b8W p1 (16 : Int32)))) (own_b8 p2 (0 : Int32)) (own_b8 p2 (8 : Int32)) (own_b8 p2 (16 : Int32)) (by omega) hR2 hLf2 hr2) hh13 E_b1_10 (hb hby at_82) (lenOf pd_5 rfl) rfl rfl (W := 0) (Nat.le_of_eq rfl) (by decide) (by decide) (by decide) (by decide) ?_
  intro v14 T14 L14 X14 Q14
  obtain ⟨rfl, N14q, Kc14, T3, N3, O3, n3, hL14, hG3, hn3⟩ := Q14
  have N14 := Fr.app N13 N14q
  have E_b1_14 := E_b1_10.keep Kc14
  have KK14 : Keep h0 T14.heap [] := (KK10 : Keep h0 T10.heap []).trans Kc14 (allS (Or.inr sz_b1) (allS (Or.inr sz_xn) (allS (Or.inr sz_xo) (allS (Or.inr sz_xu) (allS (Or.inr sz_xv) (allS (Or.inr sz_xw) (allS (Or.inr sz_xt) (allS (Or.inr sz_xm) all0))))))))
  show Go _ _ _ _ _ _ _ T14 (mkF m 85 #[.val (.int p0), .val (.int p1), .val (.int p2), .val (.int p3), .val (.ref b1), .unset, .unset, .unset, .unset, .unset] [])
  refine Go.step (fun _ k => XS.iloadN X14.here hx rfl (hb hby at_85) rfl k) ?_
  refine Go.step (fun _ k => XS.iconst X14.here hx rfl (hb hby at_86) k) ?_
  refine Go.step (fun _ k => XS.iand X14.here hx rfl (hb hby at_87) rfl k) ?_
  show Go _ _ _ _ _ _ _ T14 (mkF m 88 #[.val (.int p0), .val (.int p1), .val (.int p2), .val (.int p3), .val (.ref b1), .unset, .unset, .unset, .unset, .unset] [(.int (p3 &&& (3 : Int32)))])
  refine Go.step (fun _ k => XS.iconst X14.here hx rfl (hb hby at_88) k) ?_
  refine Go.step (fun _ k => XS.iadd X14.here hx rfl (hb hby at_89) rfl k) ?_
  show Go _ _ _ _ _ _ _ T14 (mkF m 90 #[.val (.int p0), .val (.int p1), .val (.int p2), .val (.int p3), .val (.ref b1), .unset, .unset, .unset, .unset, .unset] [(.int ((p3 &&& (3 : Int32)) + (1 : Int32)))])
  refine Go.step (fun _ k => XS.istore X14.here hx rfl (hb hby at_90) rfl (l' := #[.val (.int p0), .val (.int p1), .val (.int p2), .val (.int p3), .val (.ref b1), .val (.int ((p3 &&& (3 : Int32)) + (1 : Int32))), .unset, .unset, .unset, .unset]) rfl k) ?_
  show Go _ _ _ _ _ _ _ T14 (mkF m 92 #[.val (.int p0), .val (.int p1), .val (.int p2), .val (.int p3), .val (.ref b1), .val (.int ((p3 &&& (3 : Int32)) + (1 : Int32))), .unset, .unset, .unset, .unset] [])
  refine Go.step (fun _ k => XS.iloadN X14.here hx rfl (hb hby at_92) rfl k) ?_
  refine Go.step (fun _ k => XS.iconst X14.here hx rfl (hb hby at_93) k) ?_
  refine Go.step (fun _ k => XS.iushr X14.here hx rfl (hb hby at_94) rfl k) ?_
  show Go _ _ _ _ _ _ _ T14 (mkF m 95 #[.val (.int p0), .val (.int p1), .val (.int p2), .val (.int p3), .val (.ref b1), .val (.int ((p3 &&& (3 : Int32)) + (1 : Int32))), .unset, .unset, .unset, .unset] [(.int ((p3.toUInt32 >>> ((2 : Int32) &&& 31).toUInt32).toInt32))])
  refine Go.step (fun _ k => XS.iconst X14.here hx rfl (hb hby at_95) k) ?_
  refine Go.step (fun _ k => XS.iand X14.here hx rfl (hb hby at_96) rfl k) ?_
  show Go _ _ _ _ _ _ _ T14 (mkF m 97 #[.val (.int p0), .val (.int p1), .val (.int p2), .val (.int p3), .val (.ref b1), .val (.int ((p3 &&& (3 : Int32)) + (1 : Int32))), .unset, .unset, .unset, .unset] [(.int (((p3.toUInt32 >>> ((2 : Int32) &&& 31).toUInt32).toInt32) &&& (3 : Int32)))])
  refine Go.step (fun _ k => XS.iconst X14.here hx rfl (hb hby at_97) k) ?_
  refine Go.step (fun _ k => XS.iadd X14.here hx rfl (hb hby at_98) rfl k) ?_
  show Go _ _ _ _ _ _ _ T14 (mkF m 99 #[.val (.int p0), .val (.int p1), .val (.int p2), .val (.int p3), .val (.ref b1), .val (.int ((p3 &&& (3 : Int32)) + (1 : Int32))), .unset, .unset, .unset, .unset] [(.int ((((p3.toUInt32 >>> ((2 : Int32) &&& 31).toUInt32).toInt32) &&& (3 : Int32)) + (1 : Int32)))])
  refine Go.step (fun _ k => XS.istore X14.here hx rfl (hb hby at_99) rfl (l' := #[.val (.int p0), .val (.int p1), .val (.int p2), .val (.int p3), .val (.ref b1), .val (.int ((p3 &&& (3 : Int32)) + (1 : Int32))), .val (.int ((((p3.toUInt32 >>> ((2 : Int32) &&& 31).toUInt32).toInt32) &&& (3 : Int32)) + (1 : Int32))), .unset, .unset, .unset]) rfl k) ?_
  have h4a := own_x1 p3
  have h4b := own_x1 ((p3.toUInt32 >>> ((2 : Int32) &&& 31).toUInt32).toInt32)
  obtain ⟨x1, h_x1⟩ : ∃ z, z = ((p3 &&& (3 : Int32)) + (1 : Int32)) := ⟨_, rfl⟩
  rw [← h_x1]
  obtain ⟨x2, h_x2⟩ : ∃ z, z = ((((p3.toUInt32 >>> ((2 : Int32) &&& 31).toUInt32).toInt32) &&& (3 : Int32)) + (1 : Int32)) := ⟨_, rfl⟩
  rw [← h_x2]
  rw [← h_x1] at h4a
  rw [← h_x2] at h4b
  show Go _ _ _ _ _ _ _ T14 (mkF m 101 #[.val (.int p0), .val (.int p1), .val (.int p2), .val (.int p3), .val (.ref b1), .val (.int x1), .val (.int x2), .unset, .unset, .unset] [])
  refine Go.step (fun _ k => XS.aload X14.here hx rfl (hb hby at_101) rfl rfl k) ?_
  refine Go.callV X14 hx hZ (by rw [hml]; rfl) (y := (⟨"com/example/headroom/headroom/LowerEnvelope", "pop", "()V"⟩ : MethodName)) (z := (⟨"com/example/headroom/headroom/LowerEnvelope", "pop", "()V"⟩ : MethodName)) (a := b1) (argsL := []) (rest := []) hown (hw _ (mI 61 rfl)) (hw _ (mI 62 rfl)) (notFace_of_selects (args := #[]) (mvT hZ (hw _ (mI 64 rfl)))) (hw _ (mI 64 rfl)) (hw _ (mI 63 rfl)) (hw _ (mI 2 rfl)) (hw _ (mI 65 rfl)) (by decide) (rm10_3 l Z a0 hw b1 xn xo xu xv xw xt xm (updN (updN (updN (fun _ => (0 : Int32)) 1 (b8W p0 (0 : Int32))) 2 (b8W p1 (0 : Int32))) 3 (b8W p2 (0 : Int32))) (updN (updN (updN (fun _ => (0 : Int32)) 1 (b8W p0 (8 : Int32))) 2 (b8W p1 (8 : Int32))) 3 (b8W p2 (8 : Int32))) (updN (updN (updN (fun _ => (0 : Int32)) 1 (b8W p0 (16 : Int32))) 2 (b8W p1 (16 : Int32))) 3 (b8W p2 (16 : Int32))) T3 (updN (updN (updN (fun _ => (0 : Int32)) 0 (0 : Int32)) 1 (1 : Int32)) 2 (Int32.ofNat (1 + n2))) N3 O3 T2 N2 O2 (1 + n2) n3 T14.heap n0 (Nat.le_trans Z0 (KK14 : Keep h0 T14.heap []).1) hL14 hD hG3 rfl (by omega) hn3) rfl E_b1_14 (hb hby at_103) (lenOf pd_6 rfl) rfl rfl (W := 0) (Nat.le_of_eq rfl) (by decide) (by decide) (by decide) (by decide) ?_
  intro v15 T15 L15 X15 Q15
  obtain ⟨rfl, N15q, Kc15, hL15⟩ := Q15
  have N15 := Fr.app N14 N15q
  have E_b1_15 := E_b1_14.keep Kc15
  have KK15 : Keep h0 T15.heap [] := (KK14 : Keep h0 T14.heap []).trans Kc15 (allS (Or.inr sz_b1) (allS (Or.inr sz_xn) (allS (Or.inr sz_xo) (allS (Or.inr sz_xu) (allS (Or.inr sz_xv) (allS (Or.inr sz_xw) (allS (Or.inr sz_xt) (allS (Or.inr sz_xm) all0))))))))
  have hag : ∀ i, i < 1 + n2 → N3 i = N2 i ∧ O3 i = O2 i := hG3.2
  show Go _ _ _ _ _ _ _ T15 (mkF m 106 #[.val (.int p0), .val (.int p1), .val (.int p2), .val (.int p3), .val (.ref b1), .val (.int x1), .val (.int x2), .unset, .unset, .unset] [])
  refine Go.step (fun _ k => XS.aload X15.here hx rfl (hb hby at_106) rfl rfl k) ?_
  refine Go.step (fun _ k => XS.iload X15.here hx rfl (hb hby at_108) rfl k) ?_
  refine Go.callV X15 hx hZ (by rw [hml]; rfl) (y := (⟨"com/example/headroom/headroom/LowerEnvelope", "lowest", "(I)I"⟩ : MethodName)) (z := (⟨"com/example/headroom/headroom/LowerEnvelope", "lowest", "(I)I"⟩ : MethodName)) (a := b1) (argsL := [(.int x1)]) (rest := []) hown (hw _ (mI 66 rfl)) (hw _ (mI 67 rfl)) (notFace_of_selects (args := #[]) (mvT hZ (hw _ (mI 69 rfl)))) (hw _ (mI 69 rfl)) (hw _ (mI 68 rfl)) (hw _ (mI 2 rfl)) (hw _ (mI 70 rfl)) (by decide) (rm11 l Z a0 hw b1 xn xo xu xv xw xt xm (updN (updN (updN (fun _ => (0 : Int32)) 1 (b8W p0 (0 : Int32))) 2 (b8W p1 (0 : Int32))) 3 (b8W p2 (0 : Int32))) (updN (updN (updN (fun _ => (0 : Int32)) 1 (b8W p0 (8 : Int32))) 2 (b8W p1 (8 : Int32))) 3 (b8W p2 (8 : Int32))) (updN (updN (updN (fun _ => (0 : Int32)) 1 (b8W p0 (16 : Int32))) 2 (b8W p1 (16 : Int32))) 3 (b8W p2 (16 : Int32))) T2 (updN (updN (updN (fun _ => (0 : Int32)) 0 (0 : Int32)) 1 (1 : Int32)) 2 (Int32.ofNat (1 + n2))) N3 O3 2 (1 + n2) x1 T15.heap n0 (Nat.le_trans Z0 (KK15 : Keep h0 T15.heap []).1) hL15 ((Sm.upd (Sm.upd (Sm.upd (fun _ => (by decide : -128 ≤ (0 : Int32).toInt ∧ (0 : Int32).toInt ≤ 127)) (own_b8 _ _) 1) (own_b8 _ _) 2) (own_b8 _ _) 3) : Sm (updN (updN (updN (fun _ => (0 : Int32)) 1 (b8W p0 (0 : Int32))) 2 (b8W p1 (0 : Int32))) 3 (b8W p2 (0 : Int32)))) ((Sm.upd (Sm.upd (Sm.upd (fun _ => (by decide : -128 ≤ (0 : Int32).toInt ∧ (0 : Int32).toInt ≤ 127)) (own_b8 _ _) 1) (own_b8 _ _) 2) (own_b8 _ _) 3) : Sm (updN (updN (updN (fun _ => (0 : Int32)) 1 (b8W p0 (8 : Int32))) 2 (b8W p1 (8 : Int32))) 3 (b8W p2 (8 : Int32)))) ((Sm.upd (Sm.upd (Sm.upd (fun _ => (by decide : -128 ≤ (0 : Int32).toInt ∧ (0 : Int32).toInt ≤ 127)) (own_b8 _ _) 1) (own_b8 _ _) 2) (own_b8 _ _) 3) : Sm (updN (updN (updN (fun _ => (0 : Int32)) 1 (b8W p0 (16 : Int32))) 2 (b8W p1 (16 : Int32))) 3 (b8W p2 (16 : Int32)))) hR2 hLf2 hr2 h4a) rfl E_b1_15 (hb hby at_110) (lenOf pd_3 rfl) rfl rfl (W := 0) (Nat.le_of_eq rfl) (by decide) (by decide) (by decide) (by decide) ?_
  intro v16 T16 L16 X16 Q16
  obtain ⟨rfl, N16q, hh16⟩ := Q16
  have N16 := Fr.app N15 N16q
  show Go _ _ _ _ _ _ _ T16 (mkF m 113 #[.val (.int p0), .val (.int p1), .val (.int p2), .val (.int p3), .val (.ref b1), .val (.int x1), .val (.int x2), .unset, .unset, .unset] [(.int (lowestW (updN (updN (updN (fun _ => (0 : Int32)) 1 (b8W p0 (0 : Int32))) 2 (b8W p1 (0 : Int32))) 3 (b8W p2 (0 : Int32))) (updN (updN (updN (fun _ => (0 : Int32)) 1 (b8W p0 (8 : Int32))) 2 (b8W p1 (8 : Int32))) 3 (b8W p2 (8 : Int32))) (updN (updN (updN (fun _ => (0 : Int32)) 1 (b8W p0 (16 : Int32))) 2 (b8W p1 (16 : Int32))) 3 (b8W p2 (16 : Int32))) T2 (chX x1) x1))])
  refine Go.step (fun _ k => XS.istore X16.here hx rfl (hb hby at_113) rfl (l' := #[.val (.int p0), .val (.int p1), .val (.int p2), .val (.int p3), .val (.ref b1), .val (.int x1), .val (.int x2), .val (.int (lowestW (updN (updN (updN (fun _ => (0 : Int32)) 1 (b8W p0 (0 : Int32))) 2 (b8W p1 (0 : Int32))) 3 (b8W p2 (0 : Int32))) (updN (updN (updN (fun _ => (0 : Int32)) 1 (b8W p0 (8 : Int32))) 2 (b8W p1 (8 : Int32))) 3 (b8W p2 (8 : Int32))) (updN (updN (updN (fun _ => (0 : Int32)) 1 (b8W p0 (16 : Int32))) 2 (b8W p1 (16 : Int32))) 3 (b8W p2 (16 : Int32))) T2 (chX x1) x1)), .unset, .unset]) rfl k) ?_
  show Go _ _ _ _ _ _ _ T16 (mkF m 115 #[.val (.int p0), .val (.int p1), .val (.int p2), .val (.int p3), .val (.ref b1), .val (.int x1), .val (.int x2), .val (.int (lowestW (updN (updN (updN (fun _ => (0 : Int32)) 1 (b8W p0 (0 : Int32))) 2 (b8W p1 (0 : Int32))) 3 (b8W p2 (0 : Int32))) (updN (updN (updN (fun _ => (0 : Int32)) 1 (b8W p0 (8 : Int32))) 2 (b8W p1 (8 : Int32))) 3 (b8W p2 (8 : Int32))) (updN (updN (updN (fun _ => (0 : Int32)) 1 (b8W p0 (16 : Int32))) 2 (b8W p1 (16 : Int32))) 3 (b8W p2 (16 : Int32))) T2 (chX x1) x1)), .unset, .unset] [])
  refine Go.step (fun _ k => XS.aload X16.here hx rfl (hb hby at_115) rfl rfl k) ?_
  refine Go.callV X16 hx hZ (by rw [hml]; rfl) (y := (⟨"com/example/headroom/headroom/LowerEnvelope", "pop", "()V"⟩ : MethodName)) (z := (⟨"com/example/headroom/headroom/LowerEnvelope", "pop", "()V"⟩ : MethodName)) (a := b1) (argsL := []) (rest := []) hown (hw _ (mI 61 rfl)) (hw _ (mI 62 rfl)) (notFace_of_selects (args := #[]) (mvT hZ (hw _ (mI 64 rfl)))) (hw _ (mI 64 rfl)) (hw _ (mI 63 rfl)) (hw _ (mI 2 rfl)) (hw _ (mI 65 rfl)) (by decide) (rm10_2 l Z a0 hw b1 xn xo xu xv xw xt xm (updN (updN (updN (fun _ => (0 : Int32)) 1 (b8W p0 (0 : Int32))) 2 (b8W p1 (0 : Int32))) 3 (b8W p2 (0 : Int32))) (updN (updN (updN (fun _ => (0 : Int32)) 1 (b8W p0 (8 : Int32))) 2 (b8W p1 (8 : Int32))) 3 (b8W p2 (8 : Int32))) (updN (updN (updN (fun _ => (0 : Int32)) 1 (b8W p0 (16 : Int32))) 2 (b8W p1 (16 : Int32))) 3 (b8W p2 (16 : Int32))) T2 (updN (updN (updN (fun _ => (0 : Int32)) 0 (0 : Int32)) 1 (1 : Int32)) 2 (Int32.ofNat (1 + n2))) N3 O3 (updN (fun _ => (0 : Int32)) 1 (1 : Int32)) (updN (fun _ => (0 : Int32)) 0 (1 : Int32)) (updN (fun _ => (0 : Int32)) 0 (0 : Int32)) 1 n2 T15.heap n0 (Nat.le_trans Z0 (KK15 : Keep h0 T15.heap []).1) hL15 hD ⟨Und.congr hG2.1 hag, fun i hi => ⟨(hag i (by omega)).1.trans (hG2.2 i hi).1, (hag i (by omega)).2.trans (hG2.2 i hi).2⟩⟩ rfl (by decide) hn2) hh16 E_b1_15 (hb hby at_117) (lenOf pd_6 rfl) rfl rfl (W := 0) (Nat.le_of_eq rfl) (by decide) (by decide) (by decide) (by decide) ?_
  intro v17 T17 L17 X17 Q17
  obtain ⟨rfl, N17q, Kc17, hL17⟩ := Q17
  have N17 := Fr.app N16 N17q
  have E_b1_17 := E_b1_15.keep Kc17
  have KK17 : Keep h0 T17.heap [] := (KK15 : Keep h0 T15.heap []).trans Kc17 (allS (Or.inr sz_b1) (allS (Or.inr sz_xn) (allS (Or.inr sz_xo) (allS (Or.inr sz_xu) (allS (Or.inr sz_xv) (allS (Or.inr sz_xw) (allS (Or.inr sz_xt) (allS (Or.inr sz_xm) all0))))))))
  show Go _ _ _ _ _ _ _ T17 (mkF m 120 #[.val (.int p0), .val (.int p1), .val (.int p2), .val (.int p3), .val (.ref b1), .val (.int x1), .val (.int x2), .val (.int (lowestW (updN (updN (updN (fun _ => (0 : Int32)) 1 (b8W p0 (0 : Int32))) 2 (b8W p1 (0 : Int32))) 3 (b8W p2 (0 : Int32))) (updN (updN (updN (fun _ => (0 : Int32)) 1 (b8W p0 (8 : Int32))) 2 (b8W p1 (8 : Int32))) 3 (b8W p2 (8 : Int32))) (updN (updN (updN (fun _ => (0 : Int32)) 1 (b8W p0 (16 : Int32))) 2 (b8W p1 (16 : Int32))) 3 (b8W p2 (16 : Int32))) T2 (chX x1) x1)), .unset, .unset] [])
  refine Go.step (fun _ k => XS.aload X17.here hx rfl (hb hby at_120) rfl rfl k) ?_
  refine Go.step (fun _ k => XS.iload X17.here hx rfl (hb hby at_122) rfl k) ?_
  refine Go.callV X17 hx hZ (by rw [hml]; rfl) (y := (⟨"com/example/headroom/headroom/LowerEnvelope", "lowest", "(I)I"⟩ : MethodName)) (z := (⟨"com/example/headroom/headroom/LowerEnvelope", "lowest", "(I)I"⟩ : MethodName)) (a := b1) (argsL := [(.int x2)]) (rest := []) hown (hw _ (mI 66 rfl)) (hw _ (mI 67 rfl)) (notFace_of_selects (args := #[]) (mvT hZ (hw _ (mI 69 rfl)))) (hw _ (mI 69 rfl)) (hw _ (mI 68 rfl)) (hw _ (mI 2 rfl)) (hw _ (mI 70 rfl)) (by decide) (rm11 l Z a0 hw b1 xn xo xu xv xw xt xm (updN (updN (updN (fun _ => (0 : Int32)) 1 (b8W p0 (0 : Int32))) 2 (b8W p1 (0 : Int32))) 3 (b8W p2 (0 : Int32))) (updN (updN (updN (fun _ => (0 : Int32)) 1 (b8W p0 (8 : Int32))) 2 (b8W p1 (8 : Int32))) 3 (b8W p2 (8 : Int32))) (updN (updN (updN (fun _ => (0 : Int32)) 1 (b8W p0 (16 : Int32))) 2 (b8W p1 (16 : Int32))) 3 (b8W p2 (16 : Int32))) (updN (fun _ => (0 : Int32)) 1 (1 : Int32)) (updN (updN (updN (fun _ => (0 : Int32)) 0 (0 : Int32)) 1 (1 : Int32)) 2 (Int32.ofNat (1 + n2))) N3 O3 1 1 x2 T17.heap n0 (Nat.le_trans Z0 (KK17 : Keep h0 T17.heap []).1) hL17 ((Sm.upd (Sm.upd (Sm.upd (fun _ => (by decide : -128 ≤ (0 : Int32).toInt ∧ (0 : Int32).toInt ≤ 127)) (own_b8 _ _) 1) (own_b8 _ _) 2) (own_b8 _ _) 3) : Sm (updN (updN (updN (fun _ => (0 : Int32)) 1 (b8W p0 (0 : Int32))) 2 (b8W p1 (0 : Int32))) 3 (b8W p2 (0 : Int32)))) ((Sm.upd (Sm.upd (Sm.upd (fun _ => (by decide : -128 ≤ (0 : Int32).toInt ∧ (0 : Int32).toInt ≤ 127)) (own_b8 _ _) 1) (own_b8 _ _) 2) (own_b8 _ _) 3) : Sm (updN (updN (updN (fun _ => (0 : Int32)) 1 (b8W p0 (8 : Int32))) 2 (b8W p1 (8 : Int32))) 3 (b8W p2 (8 : Int32)))) ((Sm.upd (Sm.upd (Sm.upd (fun _ => (by decide : -128 ≤ (0 : Int32).toInt ∧ (0 : Int32).toInt ≤ 127)) (own_b8 _ _) 1) (own_b8 _ _) 2) (own_b8 _ _) 3) : Sm (updN (updN (updN (fun _ => (0 : Int32)) 1 (b8W p0 (16 : Int32))) 2 (b8W p1 (16 : Int32))) 3 (b8W p2 (16 : Int32)))) (Rng.upd own_r0 (by decide) 1) ⟨rfl, rfl, rfl, rfl⟩ (by decide) h4b) rfl E_b1_17 (hb hby at_124) (lenOf pd_3 rfl) rfl rfl (W := 0) (Nat.le_of_eq rfl) (by decide) (by decide) (by decide) (by decide) ?_
  intro v18 T18 L18 X18 Q18
  obtain ⟨rfl, N18q, hh18⟩ := Q18
  have N18 := Fr.app N17 N18q
  show Go _ _ _ _ _ _ _ T18 (mkF m 127 #[.val (.int p0), .val (.int p1), .val (.int p2), .val (.int p3), .val (.ref b1), .val (.int x1), .val (.int x2), .val (.int (lowestW (updN (updN (updN (fun _ => (0 : Int32)) 1 (b8W p0 (0 : Int32))) 2 (b8W p1 (0 : Int32))) 3 (b8W p2 (0 : Int32))) (updN (updN (updN (fun _ => (0 : Int32)) 1 (b8W p0 (8 : Int32))) 2 (b8W p1 (8 : Int32))) 3 (b8W p2 (8 : Int32))) (updN (updN (updN (fun _ => (0 : Int32)) 1 (b8W p0 (16 : Int32))) 2 (b8W p1 (16 : Int32))) 3 (b8W p2 (16 : Int32))) T2 (chX x1) x1)), .unset, .unset] [(.int (lowestW (updN (updN (updN (fun _ => (0 : Int32)) 1 (b8W p0 (0 : Int32))) 2 (b8W p1 (0 : Int32))) 3 (b8W p2 (0 : Int32))) (updN (updN (updN (fun _ => (0 : Int32)) 1 (b8W p0 (8 : Int32))) 2 (b8W p1 (8 : Int32))) 3 (b8W p2 (8 : Int32))) (updN (updN (updN (fun _ => (0 : Int32)) 1 (b8W p0 (16 : Int32))) 2 (b8W p1 (16 : Int32))) 3 (b8W p2 (16 : Int32))) (updN (fun _ => (0 : Int32)) 1 (1 : Int32)) (chX x2) x2))])
  refine Go.step (fun _ k => XS.istore X18.here hx rfl (hb hby at_127) rfl (l' := #[.val (.int p0), .val (.int p1), .val (.int p2), .val (.int p3), .val (.ref b1), .val (.int x1), .val (.int x2), .val (.int (lowestW (updN (updN (updN (fun _ => (0 : Int32)) 1 (b8W p0 (0 : Int32))) 2 (b8W p1 (0 : Int32))) 3 (b8W p2 (0 : Int32))) (updN (updN (updN (fun _ => (0 : Int32)) 1 (b8W p0 (8 : Int32))) 2 (b8W p1 (8 : Int32))) 3 (b8W p2 (8 : Int32))) (updN (updN (updN (fun _ => (0 : Int32)) 1 (b8W p0 (16 : Int32))) 2 (b8W p1 (16 : Int32))) 3 (b8W p2 (16 : Int32))) T2 (chX x1) x1)), .val (.int (lowestW (updN (updN (updN (fun _ => (0 : Int32)) 1 (b8W p0 (0 : Int32))) 2 (b8W p1 (0 : Int32))) 3 (b8W p2 (0 : Int32))) (updN (updN (updN (fun _ => (0 : Int32)) 1 (b8W p0 (8 : Int32))) 2 (b8W p1 (8 : Int32))) 3 (b8W p2 (8 : Int32))) (updN (updN (updN (fun _ => (0 : Int32)) 1 (b8W p0 (16 : Int32))) 2 (b8W p1 (16 : Int32))) 3 (b8W p2 (16 : Int32))) (updN (fun _ => (0 : Int32)) 1 (1 : Int32)) (chX x2) x2)), .unset]) rfl k) ?_
  have hB3 : lowestW (updN (updN (updN (fun _ => (0 : Int32)) 1 (b8W p0 (0 : Int32))) 2 (b8W p1 (0 : Int32))) 3 (b8W p2 (0 : Int32))) (updN (updN (updN (fun _ => (0 : Int32)) 1 (b8W p0 (8 : Int32))) 2 (b8W p1 (8 : Int32))) 3 (b8W p2 (8 : Int32))) (updN (updN (updN (fun _ => (0 : Int32)) 1 (b8W p0 (16 : Int32))) 2 (b8W p1 (16 : Int32))) 3 (b8W p2 (16 : Int32))) T2 (chX x1) x1 = if Vx (updN (updN (fun _ => (0 : Int32)) 1 (b8W p0 (0 : Int32))) 2 (b8W p1 (0 : Int32))) (updN (updN (fun _ => (0 : Int32)) 1 (b8W p0 (8 : Int32))) 2 (b8W p1 (8 : Int32))) (updN (updN (fun _ => (0 : Int32)) 1 (b8W p0 (16 : Int32))) 2 (b8W p1 (16 : Int32))) 2 x1 ≤ Vx (updN (updN (fun _ => (0 : Int32)) 1 (b8W p0 (0 : Int32))) 2 (b8W p1 (0 : Int32))) (updN (updN (fun _ => (0 : Int32)) 1 (b8W p0 (8 : Int32))) 2 (b8W p1 (8 : Int32))) (updN (updN (fun _ => (0 : Int32)) 1 (b8W p0 (16 : Int32))) 2 (b8W p1 (16 : Int32))) 1 x1 then 2 else 1 := (own_lowU (P := (updN (updN (fun _ => (0 : Int32)) 1 (b8W p0 (0 : Int32))) 2 (b8W p1 (0 : Int32)))) (Q := (updN (updN (fun _ => (0 : Int32)) 1 (b8W p0 (8 : Int32))) 2 (b8W p1 (8 : Int32)))) (C := (updN (updN (fun _ => (0 : Int32)) 1 (b8W p0 (16 : Int32))) 2 (b8W p1 (16 : Int32)))) (P' := (updN (updN (updN (fun _ => (0 : Int32)) 1 (b8W p0 (0 : Int32))) 2 (b8W p1 (0 : Int32))) 3 (b8W p2 (0 : Int32)))) (Q' := (updN (updN (updN (fun _ => (0 : Int32)) 1 (b8W p0 (8 : Int32))) 2 (b8W p1 (8 : Int32))) 3 (b8W p2 (8 : Int32)))) (C' := (updN (updN (updN (fun _ => (0 : Int32)) 1 (b8W p0 (16 : Int32))) 2 (b8W p1 (16 : Int32))) 3 (b8W p2 (16 : Int32)))) (T := T2) (c := chX x1) (x := x1) hT1 (own_ch hT2 hT3 x1) ⟨updN_ne (by decide), updN_ne (by decide), updN_ne (by decide)⟩ ⟨updN_ne (by decide), updN_ne (by decide), updN_ne (by decide)⟩).trans (hB2 x1 h4a)
  have e1 : (valW p0 x1).toInt = Vx (updN (updN (fun _ => (0 : Int32)) 1 (b8W p0 (0 : Int32))) 2 (b8W p1 (0 : Int32))) (updN (updN (fun _ => (0 : Int32)) 1 (b8W p0 (8 : Int32))) 2 (b8W p1 (8 : Int32))) (updN (updN (fun _ => (0 : Int32)) 1 (b8W p0 (16 : Int32))) 2 (b8W p1 (16 : Int32))) 1 x1 := own_ev h4a ((updN_ne (by decide)).trans (updN_same _ _ _)) ((updN_ne (by decide)).trans (updN_same _ _ _)) ((updN_ne (by decide)).trans (updN_same _ _ _))
  have e2 : (valW p1 x1).toInt = Vx (updN (updN (fun _ => (0 : Int32)) 1 (b8W p0 (0 : Int32))) 2 (b8W p1 (0 : Int32))) (updN (updN (fun _ => (0 : Int32)) 1 (b8W p0 (8 : Int32))) 2 (b8W p1 (8 : Int32))) (updN (updN (fun _ => (0 : Int32)) 1 (b8W p0 (16 : Int32))) 2 (b8W p1 (16 : Int32))) 2 x1 := own_ev h4a (updN_same _ _ _) (updN_same _ _ _) (updN_same _ _ _)
  show Go _ _ _ _ _ _ _ T18 (mkF m 129 #[.val (.int p0), .val (.int p1), .val (.int p2), .val (.int p3), .val (.ref b1), .val (.int x1), .val (.int x2), .val (.int (lowestW (updN (updN (updN (fun _ => (0 : Int32)) 1 (b8W p0 (0 : Int32))) 2 (b8W p1 (0 : Int32))) 3 (b8W p2 (0 : Int32))) (updN (updN (updN (fun _ => (0 : Int32)) 1 (b8W p0 (8 : Int32))) 2 (b8W p1 (8 : Int32))) 3 (b8W p2 (8 : Int32))) (updN (updN (updN (fun _ => (0 : Int32)) 1 (b8W p0 (16 : Int32))) 2 (b8W p1 (16 : Int32))) 3 (b8W p2 (16 : Int32))) T2 (chX x1) x1)), .val (.int (lowestW (updN (updN (updN (fun _ => (0 : Int32)) 1 (b8W p0 (0 : Int32))) 2 (b8W p1 (0 : Int32))) 3 (b8W p2 (0 : Int32))) (updN (updN (updN (fun _ => (0 : Int32)) 1 (b8W p0 (8 : Int32))) 2 (b8W p1 (8 : Int32))) 3 (b8W p2 (8 : Int32))) (updN (updN (updN (fun _ => (0 : Int32)) 1 (b8W p0 (16 : Int32))) 2 (b8W p1 (16 : Int32))) 3 (b8W p2 (16 : Int32))) (updN (fun _ => (0 : Int32)) 1 (1 : Int32)) (chX x2) x2)), .unset] [])
  refine Go.step (fun _ k => XS.iloadN X18.here hx rfl (hb hby at_129) rfl k) ?_
  refine Go.step (fun _ k => XS.iload X18.here hx rfl (hb hby at_130) rfl k) ?_
  refine Go.callS X18 hx hZ (by rw [hml]; rfl) (y := (⟨"com/example/headroom/headroom/LowerEnvelopePopPinLaw", "value", "(II)J"⟩ : MethodName)) (argsL := [(.int p1), (.int x1)]) (rest := []) hown (hw _ (mI 71 rfl)) (hw _ (mI 72 rfl)) (hw _ (mI 42 rfl)) (hw _ (mI 73 rfl)) (by decide) (rm12 l Z a0 hw p1 x1 T17.heap n0 (Nat.le_trans Z0 (KK17 : Keep h0 T17.heap []).1)) hh18 (hb hby at_132) (lenOf pd_7 rfl) rfl rfl (W := 0) (Nat.le_of_eq rfl) (by decide) (by decide) (by decide) (by decide) ?_
  intro v19 T19 L19 X19 Q19
  obtain ⟨rfl, N19q, hh19⟩ := Q19
  have N19 := Fr.app N18 N19q
  show Go _ _ _ _ _ _ _ T19 (mkF m 135 #[.val (.int p0), .val (.int p1), .val (.int p2), .val (.int p3), .val (.ref b1), .val (.int x1), .val (.int x2), .val (.int (lowestW (updN (updN (updN (fun _ => (0 : Int32)) 1 (b8W p0 (0 : Int32))) 2 (b8W p1 (0 : Int32))) 3 (b8W p2 (0 : Int32))) (updN (updN (updN (fun _ => (0 : Int32)) 1 (b8W p0 (8 : Int32))) 2 (b8W p1 (8 : Int32))) 3 (b8W p2 (8 : Int32))) (updN (updN (updN (fun _ => (0 : Int32)) 1 (b8W p0 (16 : Int32))) 2 (b8W p1 (16 : Int32))) 3 (b8W p2 (16 : Int32))) T2 (chX x1) x1)), .val (.int (lowestW (updN (updN (updN (fun _ => (0 : Int32)) 1 (b8W p0 (0 : Int32))) 2 (b8W p1 (0 : Int32))) 3 (b8W p2 (0 : Int32))) (updN (updN (updN (fun _ => (0 : Int32)) 1 (b8W p0 (8 : Int32))) 2 (b8W p1 (8 : Int32))) 3 (b8W p2 (8 : Int32))) (updN (updN (updN (fun _ => (0 : Int32)) 1 (b8W p0 (16 : Int32))) 2 (b8W p1 (16 : Int32))) 3 (b8W p2 (16 : Int32))) (updN (fun _ => (0 : Int32)) 1 (1 : Int32)) (chX x2) x2)), .unset] [(.long (valW p1 x1))])
  refine Go.step (fun _ k => XS.iloadN X19.here hx rfl (hb hby at_135) rfl k) ?_
  refine Go.step (fun _ k => XS.iload X19.here hx rfl (hb hby at_136) rfl k) ?_
  refine Go.callS X19 hx hZ (by rw [hml]; rfl) (y := (⟨"com/example/headroom/headroom/LowerEnvelopePopPinLaw", "value", "(II)J"⟩ : MethodName)) (argsL := [(.int p0), (.int x1)]) (rest := [(.long (valW p1 x1))]) hown (hw _ (mI 71 rfl)) (hw _ (mI 72 rfl)) (hw _ (mI 42 rfl)) (hw _ (mI 73 rfl)) (by decide) (rm12 l Z a0 hw p0 x1 T17.heap n0 (Nat.le_trans Z0 (KK17 : Keep h0 T17.heap []).1)) hh19 (hb hby at_138) (lenOf pd_7 rfl) rfl rfl (W := 2) (Nat.le_of_eq rfl) (by decide) (by decide) (by decide) (by decide) ?_
  intro v20 T20 L20 X20 Q20
  obtain ⟨rfl, N20q, hh20⟩ := Q20
  have N20 := Fr.app N19 N20q
  show Go _ _ _ _ _ _ _ T20 (mkF m 141 #[.val (.int p0), .val (.int p1), .val (.int p2), .val (.int p3), .val (.ref b1), .val (.int x1), .val (.int x2), .val (.int (lowestW (updN (updN (updN (fun _ => (0 : Int32)) 1 (b8W p0 (0 : Int32))) 2 (b8W p1 (0 : Int32))) 3 (b8W p2 (0 : Int32))) (updN (updN (updN (fun _ => (0 : Int32)) 1 (b8W p0 (8 : Int32))) 2 (b8W p1 (8 : Int32))) 3 (b8W p2 (8 : Int32))) (updN (updN (updN (fun _ => (0 : Int32)) 1 (b8W p0 (16 : Int32))) 2 (b8W p1 (16 : Int32))) 3 (b8W p2 (16 : Int32))) T2 (chX x1) x1)), .val (.int (lowestW (updN (updN (updN (fun _ => (0 : Int32)) 1 (b8W p0 (0 : Int32))) 2 (b8W p1 (0 : Int32))) 3 (b8W p2 (0 : Int32))) (updN (updN (updN (fun _ => (0 : Int32)) 1 (b8W p0 (8 : Int32))) 2 (b8W p1 (8 : Int32))) 3 (b8W p2 (8 : Int32))) (updN (updN (updN (fun _ => (0 : Int32)) 1 (b8W p0 (16 : Int32))) 2 (b8W p1 (16 : Int32))) 3 (b8W p2 (16 : Int32))) (updN (fun _ => (0 : Int32)) 1 (1 : Int32)) (chX x2) x2)), .unset] [(.long (valW p0 x1)), (.long (valW p1 x1))])
  refine Go.step (fun _ k => XS.lcmp X20.here hx rfl (hb hby at_141) rfl k) ?_
  show Go _ _ _ _ _ _ _ T20 (mkF m 142 #[.val (.int p0), .val (.int p1), .val (.int p2), .val (.int p3), .val (.ref b1), .val (.int x1), .val (.int x2), .val (.int (lowestW (updN (updN (updN (fun _ => (0 : Int32)) 1 (b8W p0 (0 : Int32))) 2 (b8W p1 (0 : Int32))) 3 (b8W p2 (0 : Int32))) (updN (updN (updN (fun _ => (0 : Int32)) 1 (b8W p0 (8 : Int32))) 2 (b8W p1 (8 : Int32))) 3 (b8W p2 (8 : Int32))) (updN (updN (updN (fun _ => (0 : Int32)) 1 (b8W p0 (16 : Int32))) 2 (b8W p1 (16 : Int32))) 3 (b8W p2 (16 : Int32))) T2 (chX x1) x1)), .val (.int (lowestW (updN (updN (updN (fun _ => (0 : Int32)) 1 (b8W p0 (0 : Int32))) 2 (b8W p1 (0 : Int32))) 3 (b8W p2 (0 : Int32))) (updN (updN (updN (fun _ => (0 : Int32)) 1 (b8W p0 (8 : Int32))) 2 (b8W p1 (8 : Int32))) 3 (b8W p2 (8 : Int32))) (updN (updN (updN (fun _ => (0 : Int32)) 1 (b8W p0 (16 : Int32))) 2 (b8W p1 (16 : Int32))) 3 (b8W p2 (16 : Int32))) (updN (fun _ => (0 : Int32)) 1 (1 : Int32)) (chX x2) x2)), .unset] [(.int (lcmpW (valW p1 x1) (valW p0 x1)))])
  by_cases hc142_21 : (valW p0 x1) < (valW p1 x1)
  · refine Go.step (fun _ k => XS.ifYes X20.here hx rfl (pc0 := 142) (pc' := 149) rfl (hb hby at_142) rfl ((if0 _ _).trans (tlt ((lw_gt (valW p1 x1) (valW p0 x1)).mpr hc142_21)).2.2.1) (by decide) (by decide) k) ?_
    show Go _ _ _ _ _ _ _ T20 (mkF m 149 #[.val (.int p0), .val (.int p1), .val (.int p2), .val (.int p3), .val (.ref b1), .val (.int x1), .val (.int x2), .val (.int (lowestW (updN (updN (updN (fun _ => (0 : Int32)) 1 (b8W p0 (0 : Int32))) 2 (b8W p1 (0 : Int32))) 3 (b8W p2 (0 : Int32))) (updN (updN (updN (fun _ => (0 : Int32)) 1 (b8W p0 (8 : Int32))) 2 (b8W p1 (8 : Int32))) 3 (b8W p2 (8 : Int32))) (updN (updN (updN (fun _ => (0 : Int32)) 1 (b8W p0 (16 : Int32))) 2 (b8W p1 (16 : Int32))) 3 (b8W p2 (16 : Int32))) T2 (chX x1) x1)), .val (.int (lowestW (updN (updN (updN (fun _ => (0 : Int32)) 1 (b8W p0 (0 : Int32))) 2 (b8W p1 (0 : Int32))) 3 (b8W p2 (0 : Int32))) (updN (updN (updN (fun _ => (0 : Int32)) 1 (b8W p0 (8 : Int32))) 2 (b8W p1 (8 : Int32))) 3 (b8W p2 (8 : Int32))) (updN (updN (updN (fun _ => (0 : Int32)) 1 (b8W p0 (16 : Int32))) 2 (b8W p1 (16 : Int32))) 3 (b8W p2 (16 : Int32))) (updN (fun _ => (0 : Int32)) 1 (1 : Int32)) (chX x2) x2)), .unset] [])
    refine Go.step (fun _ k => XS.iconst X20.here hx rfl (hb hby at_149) k) ?_
    refine Go.step (fun _ k => XS.istore X20.here hx rfl (hb hby at_150) rfl (l' := #[.val (.int p0), .val (.int p1), .val (.int p2), .val (.int p3), .val (.ref b1), .val (.int x1), .val (.int x2), .val (.int (lowestW (updN (updN (updN (fun _ => (0 : Int32)) 1 (b8W p0 (0 : Int32))) 2 (b8W p1 (0 : Int32))) 3 (b8W p2 (0 : Int32))) (updN (updN (updN (fun _ => (0 : Int32)) 1 (b8W p0 (8 : Int32))) 2 (b8W p1 (8 : Int32))) 3 (b8W p2 (8 : Int32))) (updN (updN (updN (fun _ => (0 : Int32)) 1 (b8W p0 (16 : Int32))) 2 (b8W p1 (16 : Int32))) 3 (b8W p2 (16 : Int32))) T2 (chX x1) x1)), .val (.int (lowestW (updN (updN (updN (fun _ => (0 : Int32)) 1 (b8W p0 (0 : Int32))) 2 (b8W p1 (0 : Int32))) 3 (b8W p2 (0 : Int32))) (updN (updN (updN (fun _ => (0 : Int32)) 1 (b8W p0 (8 : Int32))) 2 (b8W p1 (8 : Int32))) 3 (b8W p2 (8 : Int32))) (updN (updN (updN (fun _ => (0 : Int32)) 1 (b8W p0 (16 : Int32))) 2 (b8W p1 (16 : Int32))) 3 (b8W p2 (16 : Int32))) (updN (fun _ => (0 : Int32)) 1 (1 : Int32)) (chX x2) x2)), .val (.int (1 : Int32))]) rfl k) ?_
    show Go _ _ _ _ _ _ _ T20 (mkF m 152 #[.val (.int p0), .val (.int p1), .val (.int p2), .val (.int p3), .val (.ref b1), .val (.int x1), .val (.int x2), .val (.int (lowestW (updN (updN (updN (fun _ => (0 : Int32)) 1 (b8W p0 (0 : Int32))) 2 (b8W p1 (0 : Int32))) 3 (b8W p2 (0 : Int32))) (updN (updN (updN (fun _ => (0 : Int32)) 1 (b8W p0 (8 : Int32))) 2 (b8W p1 (8 : Int32))) 3 (b8W p2 (8 : Int32))) (updN (updN (updN (fun _ => (0 : Int32)) 1 (b8W p0 (16 : Int32))) 2 (b8W p1 (16 : Int32))) 3 (b8W p2 (16 : Int32))) T2 (chX x1) x1)), .val (.int (lowestW (updN (updN (updN (fun _ => (0 : Int32)) 1 (b8W p0 (0 : Int32))) 2 (b8W p1 (0 : Int32))) 3 (b8W p2 (0 : Int32))) (updN (updN (updN (fun _ => (0 : Int32)) 1 (b8W p0 (8 : Int32))) 2 (b8W p1 (8 : Int32))) 3 (b8W p2 (8 : Int32))) (updN (updN (updN (fun _ => (0 : Int32)) 1 (b8W p0 (16 : Int32))) 2 (b8W p1 (16 : Int32))) 3 (b8W p2 (16 : Int32))) (updN (fun _ => (0 : Int32)) 1 (1 : Int32)) (chX x2) x2)), .val (.int (1 : Int32))] [])
    refine Go.step (fun _ k => XS.iload X20.here hx rfl (hb hby at_152) rfl k) ?_
    refine Go.step (fun _ k => XS.iload X20.here hx rfl (hb hby at_154) rfl k) ?_
    refine Go.step (fun _ k => XS.icmpNo X20.here hx rfl (hb hby at_156) rfl (teq (own_fin1 hB3 e1 e2 hc142_21)).2 k) ?_
    show Go _ _ _ _ _ _ _ T20 (mkF m 159 #[.val (.int p0), .val (.int p1), .val (.int p2), .val (.int p3), .val (.ref b1), .val (.int x1), .val (.int x2), .val (.int (lowestW (updN (updN (updN (fun _ => (0 : Int32)) 1 (b8W p0 (0 : Int32))) 2 (b8W p1 (0 : Int32))) 3 (b8W p2 (0 : Int32))) (updN (updN (updN (fun _ => (0 : Int32)) 1 (b8W p0 (8 : Int32))) 2 (b8W p1 (8 : Int32))) 3 (b8W p2 (8 : Int32))) (updN (updN (updN (fun _ => (0 : Int32)) 1 (b8W p0 (16 : Int32))) 2 (b8W p1 (16 : Int32))) 3 (b8W p2 (16 : Int32))) T2 (chX x1) x1)), .val (.int (lowestW (updN (updN (updN (fun _ => (0 : Int32)) 1 (b8W p0 (0 : Int32))) 2 (b8W p1 (0 : Int32))) 3 (b8W p2 (0 : Int32))) (updN (updN (updN (fun _ => (0 : Int32)) 1 (b8W p0 (8 : Int32))) 2 (b8W p1 (8 : Int32))) 3 (b8W p2 (8 : Int32))) (updN (updN (updN (fun _ => (0 : Int32)) 1 (b8W p0 (16 : Int32))) 2 (b8W p1 (16 : Int32))) 3 (b8W p2 (16 : Int32))) (updN (fun _ => (0 : Int32)) 1 (1 : Int32)) (chX x2) x2)), .val (.int (1 : Int32))] [])
    refine Go.step (fun _ k => XS.iload X20.here hx rfl (hb hby at_159) rfl k) ?_
    refine Go.step (fun _ k => XS.iconst X20.here hx rfl (hb hby at_161) k) ?_
    refine Go.step (fun _ k => XS.icmpNo X20.here hx rfl (hb hby at_162) rfl (teq (own_af2 _ _ _ _)).2 k) ?_
    show Go _ _ _ _ _ _ _ T20 (mkF m 165 #[.val (.int p0), .val (.int p1), .val (.int p2), .val (.int p3), .val (.ref b1), .val (.int x1), .val (.int x2), .val (.int (lowestW (updN (updN (updN (fun _ => (0 : Int32)) 1 (b8W p0 (0 : Int32))) 2 (b8W p1 (0 : Int32))) 3 (b8W p2 (0 : Int32))) (updN (updN (updN (fun _ => (0 : Int32)) 1 (b8W p0 (8 : Int32))) 2 (b8W p1 (8 : Int32))) 3 (b8W p2 (8 : Int32))) (updN (updN (updN (fun _ => (0 : Int32)) 1 (b8W p0 (16 : Int32))) 2 (b8W p1 (16 : Int32))) 3 (b8W p2 (16 : Int32))) T2 (chX x1) x1)), .val (.int (lowestW (updN (updN (updN (fun _ => (0 : Int32)) 1 (b8W p0 (0 : Int32))) 2 (b8W p1 (0 : Int32))) 3 (b8W p2 (0 : Int32))) (updN (updN (updN (fun _ => (0 : Int32)) 1 (b8W p0 (8 : Int32))) 2 (b8W p1 (8 : Int32))) 3 (b8W p2 (8 : Int32))) (updN (updN (updN (fun _ => (0 : Int32)) 1 (b8W p0 (16 : Int32))) 2 (b8W p1 (16 : Int32))) 3 (b8W p2 (16 : Int32))) (updN (fun _ => (0 : Int32)) 1 (1 : Int32)) (chX x2) x2)), .val (.int (1 : Int32))] [])
    refine Go.step (fun _ k => XS.iconst X20.here hx rfl (hb hby at_165) k) ?_
    refine Go.step (fun _ k => XS.goto X20.here hx rfl (pc0 := 166) (pc' := 170) rfl (hb hby at_166) (by decide) (by decide) k) ?_
    show Go _ _ _ _ _ _ _ T20 (mkF m 170 #[.val (.int p0), .val (.int p1), .val (.int p2), .val (.int p3), .val (.ref b1), .val (.int x1), .val (.int x2), .val (.int (lowestW (updN (updN (updN (fun _ => (0 : Int32)) 1 (b8W p0 (0 : Int32))) 2 (b8W p1 (0 : Int32))) 3 (b8W p2 (0 : Int32))) (updN (updN (updN (fun _ => (0 : Int32)) 1 (b8W p0 (8 : Int32))) 2 (b8W p1 (8 : Int32))) 3 (b8W p2 (8 : Int32))) (updN (updN (updN (fun _ => (0 : Int32)) 1 (b8W p0 (16 : Int32))) 2 (b8W p1 (16 : Int32))) 3 (b8W p2 (16 : Int32))) T2 (chX x1) x1)), .val (.int (lowestW (updN (updN (updN (fun _ => (0 : Int32)) 1 (b8W p0 (0 : Int32))) 2 (b8W p1 (0 : Int32))) 3 (b8W p2 (0 : Int32))) (updN (updN (updN (fun _ => (0 : Int32)) 1 (b8W p0 (8 : Int32))) 2 (b8W p1 (8 : Int32))) 3 (b8W p2 (8 : Int32))) (updN (updN (updN (fun _ => (0 : Int32)) 1 (b8W p0 (16 : Int32))) 2 (b8W p1 (16 : Int32))) 3 (b8W p2 (16 : Int32))) (updN (fun _ => (0 : Int32)) 1 (1 : Int32)) (chX x2) x2)), .val (.int (1 : Int32))] [(.int (1 : Int32))])
    refine Go.retZ X20 hx hlk hret (by decide) (hb hby at_170) (by decide) (by decide) ?_
    try rw [hh20]
    exact ⟨rfl, N20⟩
  · refine Go.step (fun _ k => XS.ifNo X20.here hx rfl (hb hby at_142) rfl ((if0 _ _).trans (flt (fun q => hc142_21 ((lw_gt (valW p1 x1) (valW p0 x1)).mp q))).2.2.1) k) ?_
    show Go _ _ _ _ _ _ _ T20 (mkF m 145 #[.val (.int p0), .val (.int p1), .val (.int p2), .val (.int p3), .val (.ref b1), .val (.int x1), .val (.int x2), .val (.int (lowestW (updN (updN (updN (fun _ => (0 : Int32)) 1 (b8W p0 (0 : Int32))) 2 (b8W p1 (0 : Int32))) 3 (b8W p2 (0 : Int32))) (updN (updN (updN (fun _ => (0 : Int32)) 1 (b8W p0 (8 : Int32))) 2 (b8W p1 (8 : Int32))) 3 (b8W p2 (8 : Int32))) (updN (updN (updN (fun _ => (0 : Int32)) 1 (b8W p0 (16 : Int32))) 2 (b8W p1 (16 : Int32))) 3 (b8W p2 (16 : Int32))) T2 (chX x1) x1)), .val (.int (lowestW (updN (updN (updN (fun _ => (0 : Int32)) 1 (b8W p0 (0 : Int32))) 2 (b8W p1 (0 : Int32))) 3 (b8W p2 (0 : Int32))) (updN (updN (updN (fun _ => (0 : Int32)) 1 (b8W p0 (8 : Int32))) 2 (b8W p1 (8 : Int32))) 3 (b8W p2 (8 : Int32))) (updN (updN (updN (fun _ => (0 : Int32)) 1 (b8W p0 (16 : Int32))) 2 (b8W p1 (16 : Int32))) 3 (b8W p2 (16 : Int32))) (updN (fun _ => (0 : Int32)) 1 (1 : Int32)) (chX x2) x2)), .unset] [])
    refine Go.step (fun _ k => XS.iconst X20.here hx rfl (hb hby at_145) k) ?_
    refine Go.step (fun _ k => XS.goto X20.here hx rfl (pc0 := 146) (pc' := 150) rfl (hb hby at_146) (by decide) (by decide) k) ?_
    show Go _ _ _ _ _ _ _ T20 (mkF m 150 #[.val (.int p0), .val (.int p1), .val (.int p2), .val (.int p3), .val (.ref b1), .val (.int x1), .val (.int x2), .val (.int (lowestW (updN (updN (updN (fun _ => (0 : Int32)) 1 (b8W p0 (0 : Int32))) 2 (b8W p1 (0 : Int32))) 3 (b8W p2 (0 : Int32))) (updN (updN (updN (fun _ => (0 : Int32)) 1 (b8W p0 (8 : Int32))) 2 (b8W p1 (8 : Int32))) 3 (b8W p2 (8 : Int32))) (updN (updN (updN (fun _ => (0 : Int32)) 1 (b8W p0 (16 : Int32))) 2 (b8W p1 (16 : Int32))) 3 (b8W p2 (16 : Int32))) T2 (chX x1) x1)), .val (.int (lowestW (updN (updN (updN (fun _ => (0 : Int32)) 1 (b8W p0 (0 : Int32))) 2 (b8W p1 (0 : Int32))) 3 (b8W p2 (0 : Int32))) (updN (updN (updN (fun _ => (0 : Int32)) 1 (b8W p0 (8 : Int32))) 2 (b8W p1 (8 : Int32))) 3 (b8W p2 (8 : Int32))) (updN (updN (updN (fun _ => (0 : Int32)) 1 (b8W p0 (16 : Int32))) 2 (b8W p1 (16 : Int32))) 3 (b8W p2 (16 : Int32))) (updN (fun _ => (0 : Int32)) 1 (1 : Int32)) (chX x2) x2)), .unset] [(.int (2 : Int32))])
    refine Go.step (fun _ k => XS.istore X20.here hx rfl (hb hby at_150) rfl (l' := #[.val (.int p0), .val (.int p1), .val (.int p2), .val (.int p3), .val (.ref b1), .val (.int x1), .val (.int x2), .val (.int (lowestW (updN (updN (updN (fun _ => (0 : Int32)) 1 (b8W p0 (0 : Int32))) 2 (b8W p1 (0 : Int32))) 3 (b8W p2 (0 : Int32))) (updN (updN (updN (fun _ => (0 : Int32)) 1 (b8W p0 (8 : Int32))) 2 (b8W p1 (8 : Int32))) 3 (b8W p2 (8 : Int32))) (updN (updN (updN (fun _ => (0 : Int32)) 1 (b8W p0 (16 : Int32))) 2 (b8W p1 (16 : Int32))) 3 (b8W p2 (16 : Int32))) T2 (chX x1) x1)), .val (.int (lowestW (updN (updN (updN (fun _ => (0 : Int32)) 1 (b8W p0 (0 : Int32))) 2 (b8W p1 (0 : Int32))) 3 (b8W p2 (0 : Int32))) (updN (updN (updN (fun _ => (0 : Int32)) 1 (b8W p0 (8 : Int32))) 2 (b8W p1 (8 : Int32))) 3 (b8W p2 (8 : Int32))) (updN (updN (updN (fun _ => (0 : Int32)) 1 (b8W p0 (16 : Int32))) 2 (b8W p1 (16 : Int32))) 3 (b8W p2 (16 : Int32))) (updN (fun _ => (0 : Int32)) 1 (1 : Int32)) (chX x2) x2)), .val (.int (2 : Int32))]) rfl k) ?_
    show Go _ _ _ _ _ _ _ T20 (mkF m 152 #[.val (.int p0), .val (.int p1), .val (.int p2), .val (.int p3), .val (.ref b1), .val (.int x1), .val (.int x2), .val (.int (lowestW (updN (updN (updN (fun _ => (0 : Int32)) 1 (b8W p0 (0 : Int32))) 2 (b8W p1 (0 : Int32))) 3 (b8W p2 (0 : Int32))) (updN (updN (updN (fun _ => (0 : Int32)) 1 (b8W p0 (8 : Int32))) 2 (b8W p1 (8 : Int32))) 3 (b8W p2 (8 : Int32))) (updN (updN (updN (fun _ => (0 : Int32)) 1 (b8W p0 (16 : Int32))) 2 (b8W p1 (16 : Int32))) 3 (b8W p2 (16 : Int32))) T2 (chX x1) x1)), .val (.int (lowestW (updN (updN (updN (fun _ => (0 : Int32)) 1 (b8W p0 (0 : Int32))) 2 (b8W p1 (0 : Int32))) 3 (b8W p2 (0 : Int32))) (updN (updN (updN (fun _ => (0 : Int32)) 1 (b8W p0 (8 : Int32))) 2 (b8W p1 (8 : Int32))) 3 (b8W p2 (8 : Int32))) (updN (updN (updN (fun _ => (0 : Int32)) 1 (b8W p0 (16 : Int32))) 2 (b8W p1 (16 : Int32))) 3 (b8W p2 (16 : Int32))) (updN (fun _ => (0 : Int32)) 1 (1 : Int32)) (chX x2) x2)), .val (.int (2 : Int32))] [])
    refine Go.step (fun _ k => XS.iload X20.here hx rfl (hb hby at_152) rfl k) ?_
    refine Go.step (fun _ k => XS.iload X20.here hx rfl (hb hby at_154) rfl k) ?_
    refine Go.step (fun _ k => XS.icmpNo X20.here hx rfl (hb hby at_156) rfl (teq (own_fin2 hB3 e1 e2 hc142_21)).2 k) ?_
    show Go _ _ _ _ _ _ _ T20 (mkF m 159 #[.val (.int p0), .val (.int p1), .val (.int p2), .val (.int p3), .val (.ref b1), .val (.int x1), .val (.int x2), .val (.int (lowestW (updN (updN (updN (fun _ => (0 : Int32)) 1 (b8W p0 (0 : Int32))) 2 (b8W p1 (0 : Int32))) 3 (b8W p2 (0 : Int32))) (updN (updN (updN (fun _ => (0 : Int32)) 1 (b8W p0 (8 : Int32))) 2 (b8W p1 (8 : Int32))) 3 (b8W p2 (8 : Int32))) (updN (updN (updN (fun _ => (0 : Int32)) 1 (b8W p0 (16 : Int32))) 2 (b8W p1 (16 : Int32))) 3 (b8W p2 (16 : Int32))) T2 (chX x1) x1)), .val (.int (lowestW (updN (updN (updN (fun _ => (0 : Int32)) 1 (b8W p0 (0 : Int32))) 2 (b8W p1 (0 : Int32))) 3 (b8W p2 (0 : Int32))) (updN (updN (updN (fun _ => (0 : Int32)) 1 (b8W p0 (8 : Int32))) 2 (b8W p1 (8 : Int32))) 3 (b8W p2 (8 : Int32))) (updN (updN (updN (fun _ => (0 : Int32)) 1 (b8W p0 (16 : Int32))) 2 (b8W p1 (16 : Int32))) 3 (b8W p2 (16 : Int32))) (updN (fun _ => (0 : Int32)) 1 (1 : Int32)) (chX x2) x2)), .val (.int (2 : Int32))] [])
    refine Go.step (fun _ k => XS.iload X20.here hx rfl (hb hby at_159) rfl k) ?_
    refine Go.step (fun _ k => XS.iconst X20.here hx rfl (hb hby at_161) k) ?_
    refine Go.step (fun _ k => XS.icmpNo X20.here hx rfl (hb hby at_162) rfl (teq (own_af2 _ _ _ _)).2 k) ?_
    show Go _ _ _ _ _ _ _ T20 (mkF m 165 #[.val (.int p0), .val (.int p1), .val (.int p2), .val (.int p3), .val (.ref b1), .val (.int x1), .val (.int x2), .val (.int (lowestW (updN (updN (updN (fun _ => (0 : Int32)) 1 (b8W p0 (0 : Int32))) 2 (b8W p1 (0 : Int32))) 3 (b8W p2 (0 : Int32))) (updN (updN (updN (fun _ => (0 : Int32)) 1 (b8W p0 (8 : Int32))) 2 (b8W p1 (8 : Int32))) 3 (b8W p2 (8 : Int32))) (updN (updN (updN (fun _ => (0 : Int32)) 1 (b8W p0 (16 : Int32))) 2 (b8W p1 (16 : Int32))) 3 (b8W p2 (16 : Int32))) T2 (chX x1) x1)), .val (.int (lowestW (updN (updN (updN (fun _ => (0 : Int32)) 1 (b8W p0 (0 : Int32))) 2 (b8W p1 (0 : Int32))) 3 (b8W p2 (0 : Int32))) (updN (updN (updN (fun _ => (0 : Int32)) 1 (b8W p0 (8 : Int32))) 2 (b8W p1 (8 : Int32))) 3 (b8W p2 (8 : Int32))) (updN (updN (updN (fun _ => (0 : Int32)) 1 (b8W p0 (16 : Int32))) 2 (b8W p1 (16 : Int32))) 3 (b8W p2 (16 : Int32))) (updN (fun _ => (0 : Int32)) 1 (1 : Int32)) (chX x2) x2)), .val (.int (2 : Int32))] [])
    refine Go.step (fun _ k => XS.iconst X20.here hx rfl (hb hby at_165) k) ?_
    refine Go.step (fun _ k => XS.goto X20.here hx rfl (pc0 := 166) (pc' := 170) rfl (hb hby at_166) (by decide) (by decide) k) ?_
    show Go _ _ _ _ _ _ _ T20 (mkF m 170 #[.val (.int p0), .val (.int p1), .val (.int p2), .val (.int p3), .val (.ref b1), .val (.int x1), .val (.int x2), .val (.int (lowestW (updN (updN (updN (fun _ => (0 : Int32)) 1 (b8W p0 (0 : Int32))) 2 (b8W p1 (0 : Int32))) 3 (b8W p2 (0 : Int32))) (updN (updN (updN (fun _ => (0 : Int32)) 1 (b8W p0 (8 : Int32))) 2 (b8W p1 (8 : Int32))) 3 (b8W p2 (8 : Int32))) (updN (updN (updN (fun _ => (0 : Int32)) 1 (b8W p0 (16 : Int32))) 2 (b8W p1 (16 : Int32))) 3 (b8W p2 (16 : Int32))) T2 (chX x1) x1)), .val (.int (lowestW (updN (updN (updN (fun _ => (0 : Int32)) 1 (b8W p0 (0 : Int32))) 2 (b8W p1 (0 : Int32))) 3 (b8W p2 (0 : Int32))) (updN (updN (updN (fun _ => (0 : Int32)) 1 (b8W p0 (8 : Int32))) 2 (b8W p1 (8 : Int32))) 3 (b8W p2 (8 : Int32))) (updN (updN (updN (fun _ => (0 : Int32)) 1 (b8W p0 (16 : Int32))) 2 (b8W p1 (16 : Int32))) 3 (b8W p2 (16 : Int32))) (updN (fun _ => (0 : Int32)) 1 (1 : Int32)) (chX x2) x2)), .val (.int (2 : Int32))] [(.int (1 : Int32))])
    refine Go.retZ X20 hx hlk hret (by decide) (hb hby at_170) (by decide) (by decide) ?_
    try rw [hh20]
    exact ⟨rfl, N20⟩
theorem ef_rm0 (m : MethodId) (p0 : Int32) (p1 : Int32) (p2 : Int32) (p3 : Int32) : entryFrame m #[(.int p0), (.int p1), (.int p2), (.int p3)] maxLocals = mkF m 0 #[.val (.int p0), .val (.int p1), .val (.int p2), .val (.int p3), .unset, .unset, .unset, .unset, .unset, .unset] [] := by first | (simp [entryFrame, mkF, argsToLocals, Value.category, maxLocals]; done) | rfl
theorem rm0 (l : Launch) (Z : State) (a0 : Array Value) (hw : ∀ d ∈ tables_1, d.before a0 Z = true) (ws : List Jvm.Cond) (p0 p1 p2 p3 : Int32) (h0 : Heap) (n0 : Nat) (Z0 : n0 ≤ h0.size)  :
    MetFree l x (head1 (Jvm.Cond.code x code maxLocals ret :: ws) room_1) (fun a U => a = #[(.int p0), (.int p1), (.int p2), (.int p3)] ∧ Z.Warmed39 U.vm ∧ U.heap = h0) (fun _ _ _ _ _ => True) (fun _ U o U' => ∃ v L, o = .returned v ∧ (fun r h L => r = some (.int 1) ∧ Fr n0 L) v U'.heap L ∧ FrameEnd U o U' L room_1.cells room_1.slots) :=
  con_of (plainFor_of_name pn_6) (fun p_ e_ s_ m_ b_ meth_ c_ T_ X_ hx hZ hby hml hown hnm hret hlk e0 => Go.cast (ef_rm0 m_ p0 p1 p2 p3) (w0 p0 p1 p2 p3 X_ hx hZ hw hby hml hown hnm hret hlk e0 Z0 (Fr.nil n0) ))
set_option maxRecDepth 65536 in
set_option maxHeartbeats 40000000 in
theorem comes_1 {Post : Tables → Env → Array Value → State → Outcome → State → Prop} (hpost : ∀ tb e args s v u, (limb_1_1.after args s (.returned v) u = true ∧ limb_1_2.after args s (.returned v) u = true ∧ True) → FrameEnd s (.returned v) u (Jvm.fieldLocs frame_1_writes args s ++ Jvm.arrayLocs frame_1_arrays args s ++ Jvm.staticLocs frame_1_statics s) 24 448 → Post tb e args s (.returned v) u) :
    ArmFor flags0 classFile x code maxLocals ret World_1 tables_1 room_1 Calls_1 rest_1 Pre_1 Post := by
  intro l hfl _ _ p e ha hc hk s m args below hf hA hF happ hP
  obtain ⟨hcalls, hrest, hpre⟩ := hP
  obtain ⟨-, -, -, hnamed, -, -, -, hat⟩ := (Spec.applies_iff hf).mp happ
  obtain ⟨hg, hn⟩ := and_e (Cond.before_iff.mp (show (Jvm.Cond.and given_1 narrow_1).before args s = true from hpre))
  obtain ⟨g1, g2⟩ := and_e hg
  obtain ⟨g3, g4⟩ := and_e g2
  obtain ⟨g5, g6⟩ := and_e g4
  obtain ⟨g7, g8⟩ := and_e g6
  obtain ⟨w0, w1, w2, w3, rfl⟩ : ∃ w0 w1 w2 w3 : Value, args = #[w0, w1, w2, w3] := by
    have hs : args.size = 4 := by simpa [Cond.value, given_1] using g1
    obtain ⟨L⟩ := args
    match L, hs with
    | [w0, w1, w2, w3], _ => exact ⟨w0, w1, w2, w3, rfl⟩
  have hw := fun d (hd : d ∈ tables_1) => atoms_spec (ws := Jvm.Cond.code x code maxLocals ret :: tables_1) hat d (List.mem_cons_of_mem _ hd)
  have hfit : Fit s := fun {y c} hc i hi => by
    obtain ⟨ha, rfl⟩ := Array.getElem?_eq_some_iff.mp hc
    have q := List.all_eq_true.mp ((Array.all_eq_true_iff_forall_mem.mp hF) _ (Array.getElem_mem ha)) i (List.mem_range.mpr hi)
    simpa [Array.getElem?_eq_getElem hi] using q
  obtain ⟨i0, ei0⟩ := is_v g3
  obtain rfl : w0 = (.int i0) := Option.some.inj ei0
  obtain ⟨i1, ei1⟩ := is_v g5
  obtain rfl : w1 = (.int i1) := Option.some.inj ei1
  obtain ⟨i2, ei2⟩ := is_v g7
  obtain rfl : w2 = (.int i2) := Option.some.inj ei2
  obtain ⟨i3, ei3⟩ := is_v g8
  obtain rfl : w3 = (.int i3) := Option.some.inj ei3
  obtain ⟨n, o, h1, h2, h3, _, L, rfl, ⟨rfl, N⟩, hq⟩ := rm0 l s _ hw tables_1 i0 i1 i2 i3 s.heap s.heap.size (Nat.le_refl _)  p e ha hc hk s m _ below hf ((Spec.applies_iff_loose hf).mp happ).1 ⟨rfl, State.Warmed39.refl s, rfl⟩ trivial
  refine ⟨n, _, h1, h2, h3, hpost _ _ _ _ _ _ ⟨Cond.after_iff.mpr rfl, Cond.after_iff.mpr (eq_i res_at (Term.int_eval (1)) rfl), trivial⟩ ⟨hq.1, hq.2.1, (hq.2.2.sift fun y hy => Or.inr (N y hy)).mono (by decide) (by decide)⟩⟩
theorem main_1_1 : Claimed_1_1 := comes_1 fun _ _ _ _ _ _ h hF => ⟨h.1, hF⟩
theorem main_1_2 : Claimed_1_2 := comes_1 fun _ _ _ _ _ _ h hF => ⟨h.2.1, hF⟩
end Jvm.Pilot.@@N@@
namespace Jvm.Pilot.@@N@@
open Jvm Jvm.ClassFile Sem Op Lib Jvm.Free Jvm.Stand Jvm.Pilot.@@N@@.Jvm.D
/-! MADE BY PROGRAM (witnessworld.py) out of the Statement's table words and the real class files: 17 classes; the members and pool entries that the words name. The judged class is class 1, her method 3. -/
namespace start1
open Jvm.ClassFile
def u (s : String) : CpInfo := .utf8 (stringToUtf16 s)
/-- a pool by its gaps: so many unusable entries, then the entry; so many at the end -/
def gap : Nat → List CpInfo → List CpInfo
  | 0, r => r
  | n + 1, r => .unusable :: gap n r
def poolList (es : List (Nat × CpInfo)) (last : Nat) : List CpInfo := es.foldr (fun e r => gap e.1 (e.2 :: r)) (gap last [])
def pool (es : List (Nat × CpInfo)) (last : Nat) : Array CpInfo := ⟨poolList es last⟩
def fileOf (pool : Array CpInfo) (this : Nat) (attrs : Array Attribute := #[]) (ms : Array MethodInfo := #[]) (fl : Nat := 33) (sup : Nat := 0) (ifs : Array Nat := #[]) (fds : Array FieldInfo := #[]) : ClassFile where
  minorVersion := 0
  majorVersion := 65
  constantPool := pool
  accessFlags := fl
  thisClass := this
  superClass := sup
  interfaces := ifs
  fields := fds
  methods := ms
  attributes := attrs
def plain (name : String) (sup : Option ClassId) : Class where
  name := name
  kind := .ordinary
  loader := none
  accessFlags := 33
  super := sup
  interfaces := #[]
  cf := none
  fields := #[]
  methods := #[]
  instanceTypes := #[]
  staticTypes := #[]
  resolved := #[]
  callSites := []
  init := .initialized
  statics := none
  mirror := none

def pool0 : Array CpInfo := pool [(5, u "<init>"), (0, u "()V"), (1, .class_ 10), (1, u "java/lang/Object")] 113

def k0c0 : Code := { maxStack := 0, maxLocals := 1, code := object_method_1_code, exceptionTable := #[], attributes := #[] }
def k0m0 : Method := { name := "<init>", desc := "()V", sig := { parameters := [], returnType := none }, accessFlags := 1, code := some k0c0 }
/-- java/lang/Object -/
def k0 : Class := { plain "java/lang/Object" none with
  accessFlags := 33
  interfaces := #[]
  cf := some (fileOf pool0 8 #[] #[{ accessFlags := 1, nameIndex := 5, descriptorIndex := 6, attributes := #[] }] 33 0 #[] #[])
  fields := #[]
  methods := #[k0m0]
  instanceTypes := #[]
  staticTypes := #[]
  resolved := Array.replicate 124 none
  statics := none }

def pool1 : Array CpInfo := pool [(2, .class_ 4), (1, u "java/lang/Object"), (0, u "<init>"), (0, u "()V"), (0, .methodref 8 9), (0, .class_ 10), (0, .nameAndType 11 12), (0, u "com/example/headroom/headroom/LowerEnvelopePopPinLaw"), (0, u "b8"), (0, u "(II)I"), (0, .class_ 14), (0, u "com/example/headroom/headroom/LowerEnvelope"), (0, .methodref 13 16), (0, .nameAndType 5 17), (0, u "(I)V"), (0, .methodref 13 19), (0, .nameAndType 20 21), (0, u "push"), (0, u "(IDDI)V"), (0, .methodref 13 23), (0, .nameAndType 24 6), (0, u "pop"), (0, .methodref 13 26), (0, .nameAndType 27 28), (0, u "lowest"), (0, u "(I)I"), (0, .methodref 8 30), (0, .nameAndType 31 32), (0, u "value"), (0, u "(II)J"), (2, u "law"), (0, u "(IIII)Z")] 3

def k1m0 : Method := { name := "<init>", desc := "()V", sig := { parameters := [], returnType := none }, accessFlags := 1, code := none }
def k1c1 : Code := { maxStack := 3, maxLocals := 2, code := method_2_code, exceptionTable := #[], attributes := #[] }
def k1m1 : Method := { name := "b8", desc := "(II)I", sig := { parameters := [.int, .int], returnType := some .int }, accessFlags := 10, code := some k1c1 }
def k1c2 : Code := { maxStack := 7, maxLocals := 2, code := method_3_code, exceptionTable := #[], attributes := #[] }
def k1m2 : Method := { name := "value", desc := "(II)J", sig := { parameters := [.int, .int], returnType := some .long }, accessFlags := 10, code := some k1c2 }
def k1c3 : Code := { maxStack := 8, maxLocals := 10, code := code, exceptionTable := #[], attributes := #[] }
def k1m3 : Method := { name := "law", desc := "(IIII)Z", sig := { parameters := [.int, .int, .int, .int], returnType := some .boolean }, accessFlags := 9, code := some k1c3 }
/-- com/example/headroom/headroom/LowerEnvelopePopPinLaw -/
def k1 : Class := { plain "com/example/headroom/headroom/LowerEnvelopePopPinLaw" (some 0) with
  accessFlags := 49
  interfaces := #[]
  cf := some (fileOf pool1 8 #[] #[{ accessFlags := 1, nameIndex := 5, descriptorIndex := 6, attributes := #[] }, { accessFlags := 10, nameIndex := 11, descriptorIndex := 12, attributes := #[] }, { accessFlags := 10, nameIndex := 31, descriptorIndex := 32, attributes := #[] }, { accessFlags := 9, nameIndex := 35, descriptorIndex := 36, attributes := #[] }] 49 2 #[] #[])
  fields := #[]
  methods := #[k1m0, k1m1, k1m2, k1m3]
  instanceTypes := #[]
  staticTypes := #[]
  resolved := Array.replicate 40 none
  statics := none }

def pool2 : Array CpInfo := pool [(1, .methodref 2 3), (0, .class_ 4), (0, .nameAndType 5 6), (0, u "java/lang/Object"), (0, u "<init>"), (0, u "()V"), (0, .fieldref 8 9), (0, .class_ 10), (0, .nameAndType 11 12), (0, u "com/example/headroom/headroom/LowerEnvelope"), (0, u "changedNode"), (0, u "[I"), (0, .fieldref 8 14), (0, .nameAndType 15 12), (0, u "changedLine"), (0, .methodref 17 18), (0, .class_ 19), (0, .nameAndType 20 21), (0, u "java/lang/Math"), (0, u "max"), (0, u "(II)I"), (0, .methodref 23 24), (0, .class_ 25), (0, .nameAndType 26 27), (0, u "java/lang/Integer"), (0, u "highestOneBit"), (0, u "(I)I"), (0, .fieldref 8 29), (0, .nameAndType 30 31), (0, u "width"), (0, u "I"), (0, .fieldref 8 33), (0, .nameAndType 34 35), (0, u "base"), (0, u "[D"), (0, .fieldref 8 37), (0, .nameAndType 38 35), (0, u "slope"), (0, .fieldref 8 40), (0, .nameAndType 41 12), (0, u "origin"), (0, .fieldref 8 43), (0, .nameAndType 44 12), (0, u "node"), (0, .fieldref 8 46), (0, .nameAndType 47 12), (0, u "pushedAt"), (0, .fieldref 8 49), (0, .nameAndType 50 31), (0, u "pushes"), (0, .fieldref 8 52), (0, .nameAndType 53 31), (0, u "changes"), (0, .methodref 8 55), (0, .nameAndType 56 57), (0, u "write"), (0, u "(II)V"), (0, .methodref 8 59), (0, .nameAndType 60 61), (0, u "lower"), (0, u "(III)Z"), (6, u "NONE"), (2, u "(I)V"), (2, u "push"), (0, u "(IDDI)V"), (1, u "pop"), (0, u "lowest")] 2

def k2c0 : Code := { maxStack := 3, maxLocals := 2, code := prog_15_method_1_code, exceptionTable := #[], attributes := #[] }
def k2m0 : Method := { name := "<init>", desc := "(I)V", sig := { parameters := [.int], returnType := none }, accessFlags := 0, code := some k2c0 }
def k2c1 : Code := { maxStack := 5, maxLocals := 13, code := prog_15_method_2_code, exceptionTable := #[], attributes := #[] }
def k2m1 : Method := { name := "push", desc := "(IDDI)V", sig := { parameters := [.int, .double, .double, .int], returnType := none }, accessFlags := 0, code := some k2c1 }
def k2c2 : Code := { maxStack := 4, maxLocals := 2, code := prog_15_method_3_code, exceptionTable := #[], attributes := #[] }
def k2m2 : Method := { name := "pop", desc := "()V", sig := { parameters := [], returnType := none }, accessFlags := 0, code := some k2c2 }
def k2c3 : Code := { maxStack := 4, maxLocals := 8, code := prog_15_method_4_code, exceptionTable := #[], attributes := #[] }
def k2m3 : Method := { name := "lowest", desc := "(I)I", sig := { parameters := [.int], returnType := some .int }, accessFlags := 0, code := some k2c3 }
def k2c4 : Code := { maxStack := 7, maxLocals := 8, code := prog_15_method_5_code, exceptionTable := #[], attributes := #[] }
def k2m4 : Method := { name := "lower", desc := "(III)Z", sig := { parameters := [.int, .int, .int], returnType := some .boolean }, accessFlags := 2, code := some k2c4 }
def k2c5 : Code := { maxStack := 4, maxLocals := 3, code := prog_15_method_6_code, exceptionTable := #[], attributes := #[] }
def k2m5 : Method := { name := "write", desc := "(II)V", sig := { parameters := [.int, .int], returnType := none }, accessFlags := 2, code := some k2c5 }
/-- com/example/headroom/headroom/LowerEnvelope -/
def k2 : Class := { plain "com/example/headroom/headroom/LowerEnvelope" (some 0) with
  accessFlags := 48
  interfaces := #[]
  cf := some (fileOf pool2 8 #[] #[{ accessFlags := 0, nameIndex := 5, descriptorIndex := 71, attributes := #[] }, { accessFlags := 0, nameIndex := 74, descriptorIndex := 75, attributes := #[] }, { accessFlags := 0, nameIndex := 77, descriptorIndex := 6, attributes := #[] }, { accessFlags := 0, nameIndex := 78, descriptorIndex := 27, attributes := #[] }, { accessFlags := 2, nameIndex := 60, descriptorIndex := 61, attributes := #[] }, { accessFlags := 2, nameIndex := 56, descriptorIndex := 57, attributes := #[] }] 48 2 #[] #[{ accessFlags := 26, nameIndex := 68, descriptorIndex := 31, attributes := #[] }, { accessFlags := 18, nameIndex := 34, descriptorIndex := 35, attributes := #[] }, { accessFlags := 18, nameIndex := 38, descriptorIndex := 35, attributes := #[] }, { accessFlags := 18, nameIndex := 41, descriptorIndex := 12, attributes := #[] }, { accessFlags := 18, nameIndex := 44, descriptorIndex := 12, attributes := #[] }, { accessFlags := 18, nameIndex := 30, descriptorIndex := 31, attributes := #[] }, { accessFlags := 2, nameIndex := 11, descriptorIndex := 12, attributes := #[] }, { accessFlags := 2, nameIndex := 15, descriptorIndex := 12, attributes := #[] }, { accessFlags := 2, nameIndex := 53, descriptorIndex := 31, attributes := #[] }, { accessFlags := 18, nameIndex := 47, descriptorIndex := 12, attributes := #[] }, { accessFlags := 2, nameIndex := 50, descriptorIndex := 31, attributes := #[] }])
  fields := #[{ name := "NONE", type := .int, accessFlags := 26, slot := 0, constantValue := 0 }, { name := "base", type := (.array .double), accessFlags := 18, slot := 0, constantValue := 0 }, { name := "slope", type := (.array .double), accessFlags := 18, slot := 1, constantValue := 0 }, { name := "origin", type := (.array .int), accessFlags := 18, slot := 2, constantValue := 0 }, { name := "node", type := (.array .int), accessFlags := 18, slot := 3, constantValue := 0 }, { name := "width", type := .int, accessFlags := 18, slot := 4, constantValue := 0 }, { name := "changedNode", type := (.array .int), accessFlags := 2, slot := 5, constantValue := 0 }, { name := "changedLine", type := (.array .int), accessFlags := 2, slot := 6, constantValue := 0 }, { name := "changes", type := .int, accessFlags := 2, slot := 7, constantValue := 0 }, { name := "pushedAt", type := (.array .int), accessFlags := 18, slot := 8, constantValue := 0 }, { name := "pushes", type := .int, accessFlags := 2, slot := 9, constantValue := 0 }]
  methods := #[k2m0, k2m1, k2m2, k2m3, k2m4, k2m5]
  instanceTypes := #[(.array .double), (.array .double), (.array .int), (.array .int), .int, (.array .int), (.array .int), .int, (.array .int), .int]
  staticTypes := #[.int]
  resolved := Array.replicate 81 none
  statics := none }

def pool3 : Array CpInfo := pool [(1, .class_ 2), (0, u "java/lang/Math"), (1, .class_ 6), (1, u "java/lang/Object"), (0, u "<init>"), (0, u "()V"), (89, .class_ 100), (1, u "java/lang/Math$RandomNumberGeneratorHolder"), (71, u "negativeZeroFloatBits"), (0, u "J"), (2, u "negativeZeroDoubleBits"), (21, u "max"), (46, u "$assertionsDisabled"), (0, u "Z"), (88, u "(II)I"), (2, u "twoToTheDoubleScaleDown"), (0, u "D"), (4, u "twoToTheDoubleScaleUp"), (9, u "E"), (3, u "PI"), (2, u "TAU"), (2, u "DEGREES_TO_RADIANS"), (0, u "RADIANS_TO_DEGREES")] 94

def k3m0 : Method := { name := "<init>", desc := "()V", sig := { parameters := [], returnType := none }, accessFlags := 2, code := none }
def k3c1 : Code := { maxStack := 2, maxLocals := 2, code := jdk_29_method_65_code, exceptionTable := #[], attributes := #[] }
def k3m1 : Method := { name := "max", desc := "(II)I", sig := { parameters := [.int, .int], returnType := some .int }, accessFlags := 9, code := some k3c1 }
/-- java/lang/Math -/
def k3 : Class := { plain "java/lang/Math" (some 0) with
  accessFlags := 49
  interfaces := #[]
  cf := some (fileOf pool3 1 #[.nestMembers #[98]] #[{ accessFlags := 2, nameIndex := 7, descriptorIndex := 8, attributes := #[] }, { accessFlags := 9, nameIndex := 198, descriptorIndex := 335, attributes := #[] }] 49 4 #[] #[{ accessFlags := 25, nameIndex := 354, descriptorIndex := 339, attributes := #[] }, { accessFlags := 25, nameIndex := 358, descriptorIndex := 339, attributes := #[] }, { accessFlags := 25, nameIndex := 361, descriptorIndex := 339, attributes := #[] }, { accessFlags := 26, nameIndex := 364, descriptorIndex := 339, attributes := #[] }, { accessFlags := 26, nameIndex := 365, descriptorIndex := 339, attributes := #[] }, { accessFlags := 26, nameIndex := 172, descriptorIndex := 173, attributes := #[] }, { accessFlags := 26, nameIndex := 176, descriptorIndex := 173, attributes := #[] }, { accessFlags := 8, nameIndex := 344, descriptorIndex := 339, attributes := #[] }, { accessFlags := 8, nameIndex := 338, descriptorIndex := 339, attributes := #[] }, { accessFlags := 4120, nameIndex := 245, descriptorIndex := 246, attributes := #[] }])
  fields := #[{ name := "E", type := .double, accessFlags := 25, slot := 0, constantValue := 0 }, { name := "PI", type := .double, accessFlags := 25, slot := 1, constantValue := 0 }, { name := "TAU", type := .double, accessFlags := 25, slot := 2, constantValue := 0 }, { name := "DEGREES_TO_RADIANS", type := .double, accessFlags := 26, slot := 3, constantValue := 0 }, { name := "RADIANS_TO_DEGREES", type := .double, accessFlags := 26, slot := 4, constantValue := 0 }, { name := "negativeZeroFloatBits", type := .long, accessFlags := 26, slot := 5, constantValue := 0 }, { name := "negativeZeroDoubleBits", type := .long, accessFlags := 26, slot := 6, constantValue := 0 }, { name := "twoToTheDoubleScaleUp", type := .double, accessFlags := 8, slot := 7, constantValue := 0 }, { name := "twoToTheDoubleScaleDown", type := .double, accessFlags := 8, slot := 8, constantValue := 0 }, { name := "$assertionsDisabled", type := .boolean, accessFlags := 4120, slot := 9, constantValue := 0 }]
  methods := #[k3m0, k3m1]
  instanceTypes := #[]
  staticTypes := #[.double, .double, .double, .double, .double, .long, .long, .double, .double, .boolean]
  resolved := Array.replicate 460 none
  statics := none }

def pool4 : Array CpInfo := pool [(1, .class_ 2), (0, u "java/io/Serializable"), (0, .class_ 4), (0, u "java/lang/Object")] 2

/-- java/io/Serializable -/
def k4 : Class := { plain "java/io/Serializable" (some 0) with
  accessFlags := 1537
  interfaces := #[]
  cf := some (fileOf pool4 1 #[] #[] 1537 3 #[] #[])
  fields := #[]
  methods := #[]
  instanceTypes := #[]
  staticTypes := #[]
  resolved := Array.replicate 7 none
  statics := none }

def pool5 : Array CpInfo := pool [(2, .class_ 4), (1, u "java/lang/Object"), (0, u "<init>"), (0, u "()V"), (1, .class_ 10), (1, u "java/lang/Number"), (2, .class_ 14), (0, u "java/io/Serializable"), (0, u "serialVersionUID"), (0, u "J")] 20

def k5m0 : Method := { name := "<init>", desc := "()V", sig := { parameters := [], returnType := none }, accessFlags := 1, code := none }
/-- java/lang/Number -/
def k5 : Class := { plain "java/lang/Number" (some 0) with
  accessFlags := 1057
  interfaces := #[4]
  cf := some (fileOf pool5 8 #[] #[{ accessFlags := 1, nameIndex := 5, descriptorIndex := 6, attributes := #[] }] 1057 2 #[13] #[{ accessFlags := 26, nameIndex := 15, descriptorIndex := 16, attributes := #[] }])
  fields := #[{ name := "serialVersionUID", type := .long, accessFlags := 26, slot := 0, constantValue := 0 }]
  methods := #[k5m0]
  instanceTypes := #[]
  staticTypes := #[.long]
  resolved := Array.replicate 37 none
  statics := none }

def pool6 : Array CpInfo := pool [(1, .class_ 2), (0, u "java/lang/Comparable"), (0, .class_ 4), (0, u "java/lang/Object")] 7

/-- java/lang/Comparable -/
def k6 : Class := { plain "java/lang/Comparable" (some 0) with
  accessFlags := 1537
  interfaces := #[]
  cf := some (fileOf pool6 1 #[] #[] 1537 3 #[] #[])
  fields := #[]
  methods := #[]
  instanceTypes := #[]
  staticTypes := #[]
  resolved := Array.replicate 12 none
  statics := none }

def pool7 : Array CpInfo := pool [(1, .class_ 2), (0, u "java/lang/constant/Constable"), (0, .class_ 4), (0, u "java/lang/Object")] 6

/-- java/lang/constant/Constable -/
def k7 : Class := { plain "java/lang/constant/Constable" (some 0) with
  accessFlags := 1537
  interfaces := #[]
  cf := some (fileOf pool7 1 #[] #[] 1537 3 #[] #[])
  fields := #[]
  methods := #[]
  instanceTypes := #[]
  staticTypes := #[]
  resolved := Array.replicate 11 none
  statics := none }

def pool8 : Array CpInfo := pool [(1, .class_ 2), (0, u "java/lang/constant/ConstantDesc"), (0, .class_ 4), (0, u "java/lang/Object")] 32

/-- java/lang/constant/ConstantDesc -/
def k8 : Class := { plain "java/lang/constant/ConstantDesc" (some 0) with
  accessFlags := 1537
  interfaces := #[]
  cf := some (fileOf pool8 1 #[] #[] 1537 3 #[] #[])
  fields := #[]
  methods := #[]
  instanceTypes := #[]
  staticTypes := #[]
  resolved := Array.replicate 37 none
  statics := none }

def pool9 : Array CpInfo := pool [(1, .class_ 2), (0, u "java/lang/Integer"), (16, u "digits"), (0, u "[C"), (30, .methodref 1 52), (0, .nameAndType 53 54), (0, u "numberOfLeadingZeros"), (0, u "(I)I"), (30, u "DigitOnes"), (0, u "[B"), (2, u "DigitTens"), (37, .integer 2147483648), (61, .class_ 190), (0, u "java/lang/Integer$IntegerCache"), (3, u "I"), (8, .class_ 204), (0, u "java/lang/Number"), (2, u "value"), (56, .integer 65536), (37, u "TYPE"), (0, u "Ljava/lang/Class;"), (0, .class_ 305), (0, u "java/lang/Comparable"), (0, .class_ 307), (0, u "java/lang/constant/Constable"), (0, .class_ 309), (0, u "java/lang/constant/ConstantDesc"), (0, u "MIN_VALUE"), (1, u "MAX_VALUE"), (3, u "SIZE"), (1, u "BYTES"), (1, u "serialVersionUID"), (0, u "J"), (81, u "highestOneBit")] 49

def k9c0 : Code := { maxStack := 3, maxLocals := 1, code := jdk_33_method_45_code, exceptionTable := #[], attributes := #[] }
def k9m0 : Method := { name := "highestOneBit", desc := "(I)I", sig := { parameters := [.int], returnType := some .int }, accessFlags := 9, code := some k9c0 }
def k9c1 : Code := { maxStack := 3, maxLocals := 2, code := jdk_33_method_47_code, exceptionTable := #[], attributes := #[] }
def k9m1 : Method := { name := "numberOfLeadingZeros", desc := "(I)I", sig := { parameters := [.int], returnType := some .int }, accessFlags := 9, code := some k9c1 }
/-- java/lang/Integer -/
def k9 : Class := { plain "java/lang/Integer" (some 5) with
  accessFlags := 49
  interfaces := #[6, 7, 8]
  cf := some (fileOf pool9 1 #[.nestMembers #[189]] #[{ accessFlags := 9, nameIndex := 403, descriptorIndex := 54, attributes := #[] }, { accessFlags := 9, nameIndex := 53, descriptorIndex := 54, attributes := #[] }] 49 203 #[304, 306, 308] #[{ accessFlags := 25, nameIndex := 310, descriptorIndex := 194, attributes := #[] }, { accessFlags := 25, nameIndex := 312, descriptorIndex := 194, attributes := #[] }, { accessFlags := 25, nameIndex := 302, descriptorIndex := 303, attributes := #[] }, { accessFlags := 24, nameIndex := 19, descriptorIndex := 20, attributes := #[] }, { accessFlags := 24, nameIndex := 89, descriptorIndex := 86, attributes := #[] }, { accessFlags := 24, nameIndex := 85, descriptorIndex := 86, attributes := #[] }, { accessFlags := 18, nameIndex := 207, descriptorIndex := 194, attributes := #[] }, { accessFlags := 25, nameIndex := 316, descriptorIndex := 194, attributes := #[] }, { accessFlags := 25, nameIndex := 318, descriptorIndex := 194, attributes := #[] }, { accessFlags := 26, nameIndex := 320, descriptorIndex := 321, attributes := #[] }])
  fields := #[{ name := "MIN_VALUE", type := .int, accessFlags := 25, slot := 0, constantValue := 0 }, { name := "MAX_VALUE", type := .int, accessFlags := 25, slot := 1, constantValue := 0 }, { name := "TYPE", type := (.object "java/lang/Class"), accessFlags := 25, slot := 2, constantValue := 0 }, { name := "digits", type := (.array .char), accessFlags := 24, slot := 3, constantValue := 0 }, { name := "DigitTens", type := (.array .byte), accessFlags := 24, slot := 4, constantValue := 0 }, { name := "DigitOnes", type := (.array .byte), accessFlags := 24, slot := 5, constantValue := 0 }, { name := "value", type := .int, accessFlags := 18, slot := 0, constantValue := 0 }, { name := "SIZE", type := .int, accessFlags := 25, slot := 6, constantValue := 0 }, { name := "BYTES", type := .int, accessFlags := 25, slot := 7, constantValue := 0 }, { name := "serialVersionUID", type := .long, accessFlags := 26, slot := 8, constantValue := 0 }]
  methods := #[k9m0, k9m1]
  instanceTypes := #[.int]
  staticTypes := #[.int, .int, (.object "java/lang/Class"), (.array .char), (.array .byte), (.array .byte), .int, .int, .long]
  resolved := Array.replicate 453 none
  statics := none }

def pool10 : Array CpInfo := pool [(1, u "java/lang/Cloneable"), (0, .class_ 1), (0, u "java/lang/Object"), (0, .class_ 3)] 3

/-- java/lang/Cloneable -/
def k10 : Class := { plain "java/lang/Cloneable" (some 0) with
  accessFlags := 1537
  interfaces := #[]
  cf := some (fileOf pool10 2 #[] #[] 1537 4 #[] #[])
  fields := #[]
  methods := #[]
  instanceTypes := #[]
  staticTypes := #[]
  resolved := Array.replicate 8 none
  statics := none }

/-- the primitive byte -/
def k11 : Class := { plain "byte" none with kind := .primitive 'B', accessFlags := 0x411 }
/-- [B -/
def k12 : Class := { plain "[B" (some 0) with kind := .array 11 .byte, interfaces := #[10, 4], accessFlags := 1041 }

/-- the primitive double -/
def k13 : Class := { plain "double" none with kind := .primitive 'D', accessFlags := 0x411 }
/-- [D -/
def k14 : Class := { plain "[D" (some 0) with kind := .array 13 .double, interfaces := #[10, 4], accessFlags := 1041 }

/-- the primitive int -/
def k15 : Class := { plain "int" none with kind := .primitive 'I', accessFlags := 0x411 }
/-- [I -/
def k16 : Class := { plain "[I" (some 0) with kind := .array 15 .int, interfaces := #[10, 4], accessFlags := 1041 }

def heap : Heap := #[]
def classes : Array Class := #[k0, k1, k2, k3, k4, k5, k6, k7, k8, k9, k10, k11, k12, k13, k14, k15, k16]
def interned : List (Array UInt16 × Addr) := []
def slotsUsed : Nat := 0
def theMethod : MethodId := ⟨1, 3⟩
def args0 : Array Value := #[.int 3, .int 2, .int 5, .int 6]
def aboutOver (below : List Frame) : State where
  vm := { classes := classes, interned := interned.toArray }
  heap := heap
  slotsUsed := slotsUsed
  threads := #[{ frames := .invoking theMethod args0 :: below }]
def below0 : List Frame := [.native { method := ⟨0, 0⟩, args := #[] }]
def about1 : State := aboutOver below0
def p0 : Program := .bare "" "" ""
def e0 : Env := launch0.env 0 0 0
theorem w_frames : about1.frames = Frame.invoking theMethod args0 :: below0 := rfl
set_option maxRecDepth 65536 in
theorem w_args : argsFit about1.vm theMethod args0 = true := by decide +kernel
set_option maxRecDepth 65536 in
theorem w_heap : heapFits about1 = true := by decide +kernel
set_option maxRecDepth 65536 in
theorem w_runnable : about1.curStatus? = some .runnable := by decide +kernel
set_option maxRecDepth 65536 in
theorem w_alone : about1.alone = true := by decide +kernel
set_option maxRecDepth 65536 in
theorem w_named : about1.methodNamed? x = some theMethod := by decide +kernel
set_option maxRecDepth 65536 in
theorem w_hears : about1.hears theMethod below0 = true := by decide +kernel
set_option maxRecDepth 65536 in
theorem w_ripe : about1.ripe theMethod args0 below0 = true := by decide +kernel
theorem w_running : about1.status = .running := rfl
set_option maxRecDepth 65536 in
theorem w_room : about1.hasRoom e0.platform room_1 = true :=
  launch0.hasRoom_least _ room_1 (by decide +kernel) (by decide +kernel) (by decide +kernel) (by decide +kernel) (by decide +kernel) (by decide +kernel)
theorem allAtoms_all (ts : List Jvm.Cond) (a : Array Jvm.Value) (st : Jvm.State) : (allAtoms ts).before a st = ts.all (fun c => c.before a st) := by
  induction ts with
  | nil => rfl
  | cons c t ih =>
    show (Jvm.Cond.and c (allAtoms t)).before a st = _
    rw [Jvm.Cond.before_and, ih, List.all_cons]
def words1 : List Jvm.Cond := Jvm.Cond.code x code maxLocals ret :: tables_1
/-- a 'code' word, met by the world's own term for the bytes: nothing is compared byte by byte -/
theorem code_word {y : MethodName} {bytes : ByteArray} {mx : Nat} {rt : Option FieldType} {a : Array Value} {s : State} {m : MethodId} {meth : Method} {c : Code} (h1 : s.methodNamed? y = some m) (h2 : s.vm.method? m = some meth) (h3 : meth.code = some c) (h4 : c.code = bytes)
    (h5 : (c.maxLocals == mx && c.exceptionTable.isEmpty && decide (c.maxStack ≤ mostOperands) && decide (meth.sig.returnType = rt) && !meth.locks && decide (parseMethodDescriptor y.desc = some meth.sig)) = true) : (Jvm.Cond.code y bytes mx rt).before a s = true := by
  simp only [Bool.and_eq_true, beq_iff_eq, Bool.not_eq_true', decide_eq_true_eq] at h5
  obtain ⟨⟨⟨⟨⟨g1, g2⟩, g3⟩, g4⟩, g5⟩, g6⟩ := h5
  simp [Cond.before, Cond.holds, Cond.value, h1, h2, h3, h4, g1, g2, g3, g4, g5, g6]
def isCode : Jvm.Cond → Bool
  | .code _ _ _ _ => true
  | _ => false
theorem all_split {L : List Jvm.Cond} {P : Jvm.Cond → Bool} (h1 : L.all (fun c => isCode c || P c) = true) (h2 : ∀ c ∈ L.filter isCode, P c = true) : L.all P = true := by
  refine List.all_eq_true.mpr fun c hc => ?_
  have h := List.all_eq_true.mp h1 c hc
  rcases Bool.eq_false_or_eq_true (isCode c) with hi | hi
  · exact h2 c (List.mem_filter.mpr ⟨hc, hi⟩)
  · simpa [hi] using h
set_option maxRecDepth 65536 in
theorem w_c0 : (Jvm.Cond.code x code maxLocals ret).before args0 about1 = true := code_word (m := ⟨1, 3⟩) (meth := k1m3) (c := k1c3) (by decide +kernel) rfl rfl rfl (by decide +kernel)
set_option maxRecDepth 65536 in
theorem w_c1 : (Jvm.Cond.code ({ cls := "com/example/headroom/headroom/LowerEnvelope", name := "<init>", desc := "(I)V" } : Jvm.MethodName) prog_15_method_1_code (2 : Nat) (Option.none : Option Jvm.ClassFile.FieldType)).before args0 about1 = true := code_word (m := ⟨2, 0⟩) (meth := k2m0) (c := k2c0) (by decide +kernel) rfl rfl rfl (by decide +kernel)
set_option maxRecDepth 65536 in
theorem w_c2 : (Jvm.Cond.code ({ cls := "java/lang/Object", name := "<init>", desc := "()V" } : Jvm.MethodName) object_method_1_code (1 : Nat) (Option.none : Option Jvm.ClassFile.FieldType)).before args0 about1 = true := code_word (m := ⟨0, 0⟩) (meth := k0m0) (c := k0c0) (by decide +kernel) rfl rfl rfl (by decide +kernel)
set_option maxRecDepth 65536 in
theorem w_c3 : (Jvm.Cond.code ({ cls := "java/lang/Math", name := "max", desc := "(II)I" } : Jvm.MethodName) jdk_29_method_65_code (2 : Nat) (Option.some Jvm.ClassFile.FieldType.int)).before args0 about1 = true := code_word (m := ⟨3, 1⟩) (meth := k3m1) (c := k3c1) (by decide +kernel) rfl rfl rfl (by decide +kernel)
set_option maxRecDepth 65536 in
theorem w_c4 : (Jvm.Cond.code ({ cls := "java/lang/Integer", name := "highestOneBit", desc := "(I)I" } : Jvm.MethodName) jdk_33_method_45_code (1 : Nat) (Option.some Jvm.ClassFile.FieldType.int)).before args0 about1 = true := code_word (m := ⟨9, 0⟩) (meth := k9m0) (c := k9c0) (by decide +kernel) rfl rfl rfl (by decide +kernel)
set_option maxRecDepth 65536 in
theorem w_c5 : (Jvm.Cond.code ({ cls := "java/lang/Integer", name := "numberOfLeadingZeros", desc := "(I)I" } : Jvm.MethodName) jdk_33_method_47_code (2 : Nat) (Option.some Jvm.ClassFile.FieldType.int)).before args0 about1 = true := code_word (m := ⟨9, 1⟩) (meth := k9m1) (c := k9c1) (by decide +kernel) rfl rfl rfl (by decide +kernel)
set_option maxRecDepth 65536 in
theorem w_c6 : (Jvm.Cond.code ({ cls := "com/example/headroom/headroom/LowerEnvelopePopPinLaw", name := "b8", desc := "(II)I" } : Jvm.MethodName) method_2_code (2 : Nat) (Option.some Jvm.ClassFile.FieldType.int)).before args0 about1 = true := code_word (m := ⟨1, 1⟩) (meth := k1m1) (c := k1c1) (by decide +kernel) rfl rfl rfl (by decide +kernel)
set_option maxRecDepth 65536 in
theorem w_c7 : (Jvm.Cond.code ({ cls := "com/example/headroom/headroom/LowerEnvelope", name := "push", desc := "(IDDI)V" } : Jvm.MethodName) prog_15_method_2_code (13 : Nat) (Option.none : Option Jvm.ClassFile.FieldType)).before args0 about1 = true := code_word (m := ⟨2, 1⟩) (meth := k2m1) (c := k2c1) (by decide +kernel) rfl rfl rfl (by decide +kernel)
set_option maxRecDepth 65536 in
theorem w_c8 : (Jvm.Cond.code ({ cls := "com/example/headroom/headroom/LowerEnvelope", name := "write", desc := "(II)V" } : Jvm.MethodName) prog_15_method_6_code (3 : Nat) (Option.none : Option Jvm.ClassFile.FieldType)).before args0 about1 = true := code_word (m := ⟨2, 5⟩) (meth := k2m5) (c := k2c5) (by decide +kernel) rfl rfl rfl (by decide +kernel)
set_option maxRecDepth 65536 in
theorem w_c9 : (Jvm.Cond.code ({ cls := "com/example/headroom/headroom/LowerEnvelope", name := "lower", desc := "(III)Z" } : Jvm.MethodName) prog_15_method_5_code (8 : Nat) (Option.some Jvm.ClassFile.FieldType.boolean)).before args0 about1 = true := code_word (m := ⟨2, 4⟩) (meth := k2m4) (c := k2c4) (by decide +kernel) rfl rfl rfl (by decide +kernel)
set_option maxRecDepth 65536 in
theorem w_c10 : (Jvm.Cond.code ({ cls := "com/example/headroom/headroom/LowerEnvelope", name := "pop", desc := "()V" } : Jvm.MethodName) prog_15_method_3_code (2 : Nat) (Option.none : Option Jvm.ClassFile.FieldType)).before args0 about1 = true := code_word (m := ⟨2, 2⟩) (meth := k2m2) (c := k2c2) (by decide +kernel) rfl rfl rfl (by decide +kernel)
set_option maxRecDepth 65536 in
theorem w_c11 : (Jvm.Cond.code ({ cls := "com/example/headroom/headroom/LowerEnvelope", name := "lowest", desc := "(I)I" } : Jvm.MethodName) prog_15_method_4_code (8 : Nat) (Option.some Jvm.ClassFile.FieldType.int)).before args0 about1 = true := code_word (m := ⟨2, 3⟩) (meth := k2m3) (c := k2c3) (by decide +kernel) rfl rfl rfl (by decide +kernel)
set_option maxRecDepth 65536 in
theorem w_c12 : (Jvm.Cond.code ({ cls := "com/example/headroom/headroom/LowerEnvelopePopPinLaw", name := "value", desc := "(II)J" } : Jvm.MethodName) method_3_code (2 : Nat) (Option.some Jvm.ClassFile.FieldType.long)).before args0 about1 = true := code_word (m := ⟨1, 2⟩) (meth := k1m2) (c := k1c2) (by decide +kernel) rfl rfl rfl (by decide +kernel)
def codes1 : List Jvm.Cond := [Jvm.Cond.code x code maxLocals ret, Jvm.Cond.code ({ cls := "com/example/headroom/headroom/LowerEnvelope", name := "<init>", desc := "(I)V" } : Jvm.MethodName) prog_15_method_1_code (2 : Nat) (Option.none : Option Jvm.ClassFile.FieldType), Jvm.Cond.code ({ cls := "java/lang/Object", name := "<init>", desc := "()V" } : Jvm.MethodName) object_method_1_code (1 : Nat) (Option.none : Option Jvm.ClassFile.FieldType), Jvm.Cond.code ({ cls := "java/lang/Math", name := "max", desc := "(II)I" } : Jvm.MethodName) jdk_29_method_65_code (2 : Nat) (Option.some Jvm.ClassFile.FieldType.int), Jvm.Cond.code ({ cls := "java/lang/Integer", name := "highestOneBit", desc := "(I)I" } : Jvm.MethodName) jdk_33_method_45_code (1 : Nat) (Option.some Jvm.ClassFile.FieldType.int), Jvm.Cond.code ({ cls := "java/lang/Integer", name := "numberOfLeadingZeros", desc := "(I)I" } : Jvm.MethodName) jdk_33_method_47_code (2 : Nat) (Option.some Jvm.ClassFile.FieldType.int), Jvm.Cond.code ({ cls := "com/example/headroom/headroom/LowerEnvelopePopPinLaw", name := "b8", desc := "(II)I" } : Jvm.MethodName) method_2_code (2 : Nat) (Option.some Jvm.ClassFile.FieldType.int), Jvm.Cond.code ({ cls := "com/example/headroom/headroom/LowerEnvelope", name := "push", desc := "(IDDI)V" } : Jvm.MethodName) prog_15_method_2_code (13 : Nat) (Option.none : Option Jvm.ClassFile.FieldType), Jvm.Cond.code ({ cls := "com/example/headroom/headroom/LowerEnvelope", name := "write", desc := "(II)V" } : Jvm.MethodName) prog_15_method_6_code (3 : Nat) (Option.none : Option Jvm.ClassFile.FieldType), Jvm.Cond.code ({ cls := "com/example/headroom/headroom/LowerEnvelope", name := "lower", desc := "(III)Z" } : Jvm.MethodName) prog_15_method_5_code (8 : Nat) (Option.some Jvm.ClassFile.FieldType.boolean), Jvm.Cond.code ({ cls := "com/example/headroom/headroom/LowerEnvelope", name := "pop", desc := "()V" } : Jvm.MethodName) prog_15_method_3_code (2 : Nat) (Option.none : Option Jvm.ClassFile.FieldType), Jvm.Cond.code ({ cls := "com/example/headroom/headroom/LowerEnvelope", name := "lowest", desc := "(I)I" } : Jvm.MethodName) prog_15_method_4_code (8 : Nat) (Option.some Jvm.ClassFile.FieldType.int), Jvm.Cond.code ({ cls := "com/example/headroom/headroom/LowerEnvelopePopPinLaw", name := "value", desc := "(II)J" } : Jvm.MethodName) method_3_code (2 : Nat) (Option.some Jvm.ClassFile.FieldType.long)]
set_option maxRecDepth 65536 in
theorem codes_eq : words1.filter isCode = codes1 := rfl
theorem w_codes : ∀ c ∈ words1.filter isCode, c.before args0 about1 = true := by
  rw [codes_eq]
  intro c hc
  simp only [codes1, List.mem_cons, List.not_mem_nil, or_false] at hc
  rcases hc with rfl | rfl | rfl | rfl | rfl | rfl | rfl | rfl | rfl | rfl | rfl | rfl | rfl
  · exact w_c0
  · exact w_c1
  · exact w_c2
  · exact w_c3
  · exact w_c4
  · exact w_c5
  · exact w_c6
  · exact w_c7
  · exact w_c8
  · exact w_c9
  · exact w_c10
  · exact w_c11
  · exact w_c12
set_option maxRecDepth 65536 in
theorem w_t1 : (words1.take 24).all (fun c => isCode c || c.before args0 about1) = true := by decide +kernel
set_option maxRecDepth 65536 in
theorem w_t2 : ((words1.drop 24).take 24).all (fun c => isCode c || c.before args0 about1) = true := by decide +kernel
set_option maxRecDepth 65536 in
theorem w_t3 : (((words1.drop 24).drop 24).take 24).all (fun c => isCode c || c.before args0 about1) = true := by decide +kernel
set_option maxRecDepth 65536 in
theorem w_t4 : (((words1.drop 24).drop 24).drop 24).all (fun c => isCode c || c.before args0 about1) = true := by decide +kernel
theorem w_tables : (allAtoms (Jvm.Cond.code x code maxLocals ret :: tables_1)).before args0 about1 = true := by
  rw [allAtoms_all]
  show words1.all (fun c => c.before args0 about1) = true
  refine all_split ?_ w_codes
  rw [← List.take_append_drop 24 words1, List.all_append, w_t1, ← List.take_append_drop 24 (words1.drop 24), List.all_append, w_t2, ← List.take_append_drop 24 ((words1.drop 24).drop 24), List.all_append, w_t3, w_t4]
  rfl
set_option maxRecDepth 65536 in
theorem w_case : (Jvm.Cond.and given_1 narrow_1).before args0 about1 = true := by decide +kernel
theorem w_applies : (headSpec (Jvm.Cond.code x code maxLocals ret :: tables_1) room_1).applies x e0.platform about1 = true :=
  (Spec.applies_iff w_frames).mpr ⟨w_running, w_runnable, w_alone, w_named, w_hears, w_ripe, w_room, w_tables⟩
theorem atStart : AtStart classFile x code maxLocals ret World_1 tables_1 room_1 Calls_1 rest_1 Pre_1 launch0 p0 e0 about1 theMethod args0 below0 :=
  ⟨lists_1, trivial, launch0.admits_env _ _ _, launch0.least_env, fairChoices_fair.cas, fairChoices_fair.clock, w_frames, w_args, w_heap, w_applies, trivial, trivial, w_case⟩
end start1
theorem witness_1 : WitnessClaimed_1 := ⟨start1.p0, start1.e0, start1.about1, start1.theMethod, start1.args0, start1.below0, start1.atStart⟩
end Jvm.Pilot.@@N@@
