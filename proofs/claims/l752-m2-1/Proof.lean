import JvmDerived
import JvmDerived.Pilot.@@N@@Statement
import JvmDerived.Pilot.@@N@@Code
set_option linter.unusedVariables false
set_option linter.unusedSimpArgs false
namespace Jvm.Pilot.@@N@@
open Jvm Jvm.ClassFile Sem Op Lib Jvm.Free Jvm.Stand Jvm.LawKit Jvm.RoadKit Bundle Jvm.Pilot.@@N@@.Jvm.D
/-! OWN: the walk as a tree. Go: from here the run comes to a return that Q allows. -/
def Go (p : Program) (e : Env) (below : List Frame) (s : State) (C S : Nat) (Q : Option Value → Heap → List Loc → Prop) (T : State) (g : JFrame) : Prop :=
  ∃ s₂ o, Steps p.tables e below (T.setTop g) s₂ ∧ s₂.status = .running ∧ Ended s₂ below o ∧ ∃ v L, o = .returned v ∧ Q v s₂.heap L ∧ FrameEnd s o s₂ L C S
section OwnGo
variable {p : Program} {l : Launch} {e : Env} {R : Room} {s : State} {m : MethodId} {args : Array Value} {below : List Frame} {meth : Method} {c : Code} {T T' : State} {locs : List Loc} {cells slots : Nat} {Z : State} {a0 : Array Value} {h : Heap} {C S : Nat} {Q : Option Value → Heap → List Loc → Prop} {g g' : JFrame}
theorem Go.step (st : ∀ target, Steps p.tables e below (T'.setTop g') target → Steps p.tables e below (T.setTop g) target) (h : Go p e below s C S Q T' g') : Go p e below s C S Q T g := by
  obtain ⟨s₂, o, h1, r⟩ := h; exact ⟨s₂, o, st _ h1, r⟩
theorem Go.cast (q : g = g') (h : Go p e below s C S Q T g') : Go p e below s C S Q T g := q ▸ h
theorem Go.ret (X : Stand p l e R s m args below meth c T locs cells slots) (hlk : meth.locks = false) {v : Option Value} (hv : meth.sig.returnType = none → v = none)
    (st : ∀ fs, (∀ (f : JFrame) (acts : List Action), f.method = m → f.locked = none → f.entered = [] → (doReturn e (T.setTop f) acts v).1 = T.setFrames fs) → Steps p.tables e below (T.setTop g) (T.setFrames fs))
    (hq : Q v T.heap locs) (hc : cells ≤ C) (hs : slots ≤ S) : Go p e below s C S Q T g := by
  obtain ⟨fs, hr, hrun, hended, hW, hsame⟩ := X.leave (v := v) hv hlk
  exact ⟨_, _, st fs hr, hrun, hended, v, locs, rfl, hq, ⟨_, rfl⟩, hW, hsame.mono hc hs⟩
theorem Go.retV (X : Stand p l e R s m args below meth c T locs cells slots) (hx : p.tables.exec = Jvm.exec) (hlk : meth.locks = false) (hret : meth.sig.returnType = none) {pc : Nat} {Ls : Array Slot} (hd : decode c.code pc = .ok (.return_, 1))
    (hc : cells ≤ C) (hs : slots ≤ S) (hq : Q none T.heap locs) : Go p e below s C S Q T (mkF m pc Ls []) :=
  Go.ret X hlk (fun _ => rfl) (fun fs hr => X.returnOut hx hret hd hr) hq hc hs
theorem Go.retW (X : Stand p l e R s m args below meth c T locs cells slots) (hx : p.tables.exec = Jvm.exec) (hlk : meth.locks = false) {t : FieldType} (hret : meth.sig.returnType = some t) {pc : Nat} {Ls : Array Slot} {w : Value} {i : Instr} {rest : List Value} (hn : narrow t w = w)
    (hi : (i = .ireturn ∧ (t = .int ∨ t = .boolean ∨ t = .byte ∨ t = .char ∨ t = .short) ∧ ∃ z, w = .int z) ∨ (i = .lreturn ∧ t = .long ∧ ∃ z, w = .long z) ∨ (i = .dreturn ∧ t = .double ∧ ∃ z, w = .double z) ∨ (i = .freturn ∧ t = .float ∧ ∃ z, w = .float z) ∨ (i = .areturn ∧ t.isReference = true ∧ w.isRef = true))
    (hd : decode c.code pc = .ok (i, 1)) (hc : cells ≤ C) (hs : slots ≤ S) (hq : Q (some w) T.heap locs) : Go p e below s C S Q T (mkF m pc Ls (w :: rest)) :=
  Go.ret X hlk (fun h => by rw [hret] at h; cases h) (fun fs hr => retOut X hx hret hn hi hd hr) hq hc hs
theorem Go.retI (X : Stand p l e R s m args below meth c T locs cells slots) (hx : p.tables.exec = Jvm.exec) (hlk : meth.locks = false) (hret : meth.sig.returnType = some .int) {pc : Nat} {Ls : Array Slot} {z : Int32} {rest : List Value}
    (hd : decode c.code pc = .ok (.ireturn, 1)) (hc : cells ≤ C) (hs : slots ≤ S) (hq : Q (some (.int z)) T.heap locs) : Go p e below s C S Q T (mkF m pc Ls (.int z :: rest)) :=
  Go.retW X hx hlk hret rfl (Or.inl ⟨rfl, Or.inl rfl, z, rfl⟩) hd hc hs hq
theorem Go.retZ (X : Stand p l e R s m args below meth c T locs cells slots) (hx : p.tables.exec = Jvm.exec) (hlk : meth.locks = false) (hret : meth.sig.returnType = some .boolean) {pc : Nat} {Ls : Array Slot} {z : Int32} {rest : List Value} (hz : z = 0 ∨ z = 1)
    (hd : decode c.code pc = .ok (.ireturn, 1)) (hc : cells ≤ C) (hs : slots ≤ S) (hq : Q (some (.int z)) T.heap locs) : Go p e below s C S Q T (mkF m pc Ls (.int z :: rest)) :=
  Go.retW X hx hlk hret (by rcases hz with rfl | rfl <;> rfl) (Or.inl ⟨rfl, Or.inr (Or.inl rfl), z, rfl⟩) hd hc hs hq
theorem Go.retJ (X : Stand p l e R s m args below meth c T locs cells slots) (hx : p.tables.exec = Jvm.exec) (hlk : meth.locks = false) (hret : meth.sig.returnType = some .long) {pc : Nat} {Ls : Array Slot} {z : Int64} {rest : List Value}
    (hd : decode c.code pc = .ok (.lreturn, 1)) (hc : cells ≤ C) (hs : slots ≤ S) (hq : Q (some (.long z)) T.heap locs) : Go p e below s C S Q T (mkF m pc Ls (.long z :: rest)) :=
  Go.retW X hx hlk hret rfl (Or.inr (Or.inl ⟨rfl, rfl, z, rfl⟩)) hd hc hs hq
theorem Go.retD (X : Stand p l e R s m args below meth c T locs cells slots) (hx : p.tables.exec = Jvm.exec) (hlk : meth.locks = false) (hret : meth.sig.returnType = some .double) {pc : Nat} {Ls : Array Slot} {z : UInt64} {rest : List Value}
    (hd : decode c.code pc = .ok (.dreturn, 1)) (hc : cells ≤ C) (hs : slots ≤ S) (hq : Q (some (.double z)) T.heap locs) : Go p e below s C S Q T (mkF m pc Ls (.double z :: rest)) :=
  Go.retW X hx hlk hret rfl (Or.inr (Or.inr (Or.inl ⟨rfl, rfl, z, rfl⟩))) hd hc hs hq
theorem Go.retR (X : Stand p l e R s m args below meth c T locs cells slots) (hx : p.tables.exec = Jvm.exec) (hlk : meth.locks = false) {t : FieldType} (hret : meth.sig.returnType = some t) (ht : t.isReference = true) {pc : Nat} {Ls : Array Slot} {w : Value} {rest : List Value} (hn : narrow t w = w) (hw : w.isRef = true)
    (hd : decode c.code pc = .ok (.areturn, 1)) (hc : cells ≤ C) (hs : slots ≤ S) (hq : Q (some w) T.heap locs) : Go p e below s C S Q T (mkF m pc Ls (w :: rest)) :=
  Go.retW X hx hlk hret hn (Or.inr (Or.inr (Or.inr (Or.inr ⟨rfl, ht, hw⟩)))) hd hc hs hq
/-- a method's contract out of its walk -/
theorem con_of {y : MethodName} {bytes : ByteArray} {ml : Nat} {rt : Option FieldType} {ws : List Jvm.Cond} {rm : Room} {as' : Array Value} {h0 : Heap} (hpl : plainFor y = true)
    (body : ∀ (p : Program) (e : Env) (s : State) (m : MethodId) (below : List Frame) (meth : Method) (c : Code) (T : State), Stand p l e rm s m as' below meth c T [] 0 0 → p.tables.exec = Jvm.exec → Z.Warmed39 s.vm → c.code = bytes → c.maxLocals = ml → s.vm.findClass y.cls = some m.cls → meth.name = y.name →
      meth.sig.returnType = rt → meth.locks = false → T.heap = h0 → Go p e below s rm.cells rm.slots Q T (entryFrame m as' ml)) :
    MetFree l y (head1 (Jvm.Cond.code y bytes ml rt :: ws) rm) (fun a U => a = as' ∧ Z.Warmed39 U.vm ∧ U.heap = h0) (fun _ _ _ _ _ => True) (fun _ U o U' => ∃ v L, o = .returned v ∧ Q v U'.heap L ∧ FrameEnd U o U' L rm.cells rm.slots) := by
  refine MetFree.of_bodySF hpl hisR ?_
  intro p e s m args below meth c s₁ Bd hml0 hP hK
  obtain ⟨rfl, hZ, hh⟩ := hP
  exact body p e s m below meth c s₁ (Stand.of_body Bd) Bd.exec hZ Bd.bytes hml0 (findClass_of_methodNamed Bd.named) (name_of_methodNamed Bd.named Bd.method).1 Bd.returns (BodyLoose.notSynchronized Bd) (by rw [← hh, Bd.state]; rfl)
abbrev Con (l : Launch) (Z : State) (y : MethodName) (bytes : ByteArray) (ml : Nat) (rt : Option FieldType) (rm : Room) (as' : Array Value) (h0 : Heap) (Q : Option Value → Heap → List Loc → Prop) : Prop :=
  MetFree l y (head1 [Jvm.Cond.code y bytes ml rt] rm) (fun a U => a = as' ∧ Z.Warmed39 U.vm ∧ U.heap = h0) (fun _ _ _ _ _ => True) (fun _ U o U' => ∃ v L, o = .returned v ∧ Q v U'.heap L ∧ FrameEnd U o U' L rm.cells rm.slots)
theorem Go.callS (X : Stand p l e R s m args below meth c T locs cells slots) (hx : p.tables.exec = Jvm.exec) (hZ : Z.Warmed39 s.vm) {own : String} {index : Nat} {y : MethodName} {bytes : ByteArray} {maxL : Nat} {ret : Option FieldType} {rm : Room} {as' : Array Value} {Qc : Option Value → Heap → List Loc → Prop} {W pc : Nat} {Ls : Array Slot} {st : List Value} {argsL rest : List Value} (hml : Ls.size = c.maxLocals)
    (hown : s.vm.findClass own = some m.cls) (w1 : (Jvm.Cond.methodLink own index y).before a0 Z = true) (w2 : (Jvm.Cond.static y).before a0 Z = true) (w3 : (Jvm.Cond.initialized y.cls).before a0 Z = true) (w4 : (Jvm.Cond.code y bytes maxL ret).before a0 Z = true) (hy : y.cls ≠ "java/lang/invoke/MethodHandle" ∧ y.cls ≠ "java/lang/invoke/VarHandle")
    (hM : Con l Z y bytes maxL ret rm as' h Qc) (eT : T.heap = h) (hd : decode c.code pc = .ok (.invokestatic index, 3)) (hlen : ∀ sig, parseMethodDescriptor y.desc = some sig → argsL.length = sig.parameters.length) (hst : st = argsL.reverse ++ rest) (has : argsL.toArray = as')
    (hW : (rest.map fun v => v.category).sum ≤ W) (hf : rm.frames + 1 ≤ R.frames) (hl : W + (maxL + 11) + rm.locals ≤ R.locals) (hc : cells + rm.cells ≤ R.cells) (hs : slots + rm.slots ≤ R.slots)
    (k : ∀ (v : Option Value) (T' : State) (L : List Loc), Stand p l e R s m args below meth c T' (locs ++ L) (cells + rm.cells) (slots + rm.slots) → Qc v T'.heap L → Go p e below s C S Q T' (mkF m (pc + 3) Ls (v.toList ++ rest))) :
    Go p e below s C S Q T (mkF m pc Ls st) := by
  obtain ⟨v, _, ⟨T', L', k', n'⟩, -, X', ⟨Lc, hQ, l1, y1, z1⟩, stp⟩ := Jvm.LawKit.callS X hx (y := y) hown (mvT hZ w1) (mvT hZ w2) (mvT hZ w3) (mvT hZ w4) hy (backOf (W := W) hM hZ w4 w3 hf hl) (g := mkF m pc Ls st) rfl hml (argsL := argsL) (rest := rest) hlen hst (by show 2 * 0 + _ ≤ _; omega) hd (fun _ _ => ⟨has, eT, hc, hs⟩)
  dsimp only [Pt.U, Pt.locs, Pt.cells, Pt.slots] at X' l1 y1 z1 stp hQ
  subst l1 y1 z1
  exact Go.step stp (k v T' Lc X' hQ)
theorem Go.callI (X : Stand p l e R s m args below meth c T locs cells slots) (hx : p.tables.exec = Jvm.exec) (hZ : Z.Warmed39 s.vm) {own : String} {index : Nat} {y : MethodName} {bytes : ByteArray} {maxL : Nat} {rm : Room} {as' : Array Value} {Qc : Option Value → Heap → List Loc → Prop} {W pc : Nat} {Ls : Array Slot} {st : List Value} {a : Addr} {argsL rest : List Value} (hml : Ls.size = c.maxLocals)
    (hy1 : y.name = "<init>") (hown : s.vm.findClass own = some m.cls) (w1 : (Jvm.Cond.methodLink own index y).before a0 Z = true) (w2 : (Jvm.Cond.instanceMethod y).before a0 Z = true) (w3 : (Jvm.Cond.initialized y.cls).before a0 Z = true) (w4 : (Jvm.Cond.code y bytes maxL none).before a0 Z = true) (hy : y.cls ≠ "java/lang/invoke/MethodHandle" ∧ y.cls ≠ "java/lang/invoke/VarHandle")
    (hM : Con l Z y bytes maxL none rm as' h Qc) (eT : T.heap = h) (hd : decode c.code pc = .ok (.invokespecial index, 3)) (hlen : ∀ sig, parseMethodDescriptor y.desc = some sig → argsL.length = sig.parameters.length) (hst : st = argsL.reverse ++ .ref a :: rest) (has : (Value.ref a :: argsL).toArray = as')
    (hW : (rest.map fun v => v.category).sum ≤ W) (hf : rm.frames + 1 ≤ R.frames) (hl : W + (maxL + 11) + rm.locals ≤ R.locals) (hc : cells + rm.cells ≤ R.cells) (hs : slots + rm.slots ≤ R.slots)
    (k : ∀ (v : Option Value) (T' : State) (L : List Loc), Stand p l e R s m args below meth c T' (locs ++ L) (cells + rm.cells) (slots + rm.slots) → Qc v T'.heap L → Go p e below s C S Q T' (mkF m (pc + 3) Ls (v.toList ++ rest))) :
    Go p e below s C S Q T (mkF m pc Ls st) := by
  obtain ⟨v, _, ⟨T', L', k', n'⟩, -, X', ⟨Lc, hQ, l1, y1, z1⟩, stp⟩ := X.specialBack hx (y := y) hy1 hown (mvT hZ w1) (mvT hZ w2) (mvT hZ w4) hy (backOf (W := W) hM hZ w4 w3 hf hl) (g := mkF m pc Ls st) rfl hml (Steps.refl _) (a := a) (argsL := argsL) (rest := rest) hlen hst (by show 2 * 0 + _ ≤ _; omega) hd (fun _ _ => ⟨has, eT, hc, hs⟩)
  dsimp only [Pt.U, Pt.locs, Pt.cells, Pt.slots] at X' l1 y1 z1 stp hQ
  subst l1 y1 z1
  exact Go.step (fun _ q => stp.trans q) (k v T' Lc X' hQ)
theorem Go.callV (X : Stand p l e R s m args below meth c T locs cells slots) (hx : p.tables.exec = Jvm.exec) (hZ : Z.Warmed39 s.vm) {own K : String} {index : Nat} {y z : MethodName} {bytes : ByteArray} {maxL : Nat} {ret : Option FieldType} {rm : Room} {as' : Array Value} {Qc : Option Value → Heap → List Loc → Prop} {W pc : Nat} {Ls : Array Slot} {st : List Value} {a : Addr} {argsL rest : List Value} (hml : Ls.size = c.maxLocals)
    (hown : s.vm.findClass own = some m.cls) (w1 : (Jvm.Cond.methodLink own index y).before a0 Z = true) (w2 : (Jvm.Cond.declares y).before a0 Z = true) (hnf : NotFace s y) (w5 : (Jvm.Cond.selects K y z).before a0 Z = true) (w6 : (Jvm.Cond.instanceMethod z).before a0 Z = true) (w3 : (Jvm.Cond.initialized z.cls).before a0 Z = true) (w4 : (Jvm.Cond.code z bytes maxL ret).before a0 Z = true) (hy : y.cls ≠ "java/lang/invoke/MethodHandle" ∧ y.cls ≠ "java/lang/invoke/VarHandle")
    (hM : Con l Z z bytes maxL ret rm as' h Qc) (eT : T.heap = h) (E : Exa Z h a K) (hd : decode c.code pc = .ok (.invokevirtual index, 3)) (hlen : ∀ sig, parseMethodDescriptor y.desc = some sig → argsL.length = sig.parameters.length) (hst : st = argsL.reverse ++ .ref a :: rest) (has : (Value.ref a :: argsL).toArray = as')
    (hW : (rest.map fun v => v.category).sum ≤ W) (hf : rm.frames + 1 ≤ R.frames) (hl : W + (maxL + 11) + rm.locals ≤ R.locals) (hc : cells + rm.cells ≤ R.cells) (hs : slots + rm.slots ≤ R.slots)
    (k : ∀ (v : Option Value) (T' : State) (L : List Loc), Stand p l e R s m args below meth c T' (locs ++ L) (cells + rm.cells) (slots + rm.slots) → Qc v T'.heap L → Go p e below s C S Q T' (mkF m (pc + 3) Ls (v.toList ++ rest))) :
    Go p e below s C S Q T (mkF m pc Ls st) := by
  obtain ⟨cq, kq, qa, qb, qc⟩ := isOf hZ eT E
  obtain ⟨v, _, ⟨T', L', k', n'⟩, -, X', ⟨Lc, hQ, l1, y1, z1⟩, stp⟩ := X.virtualBack hx (y := y) (z := z) hown (mvT hZ w1) (mvT hZ w2) hnf (mvT hZ w5) (mvT hZ w6) hy (backOf (W := W) hM hZ w4 w3 hf hl) qa qc (g := mkF m pc Ls st) rfl hml (Steps.refl _) (argsL := argsL) (rest := rest) hlen hst (by show 2 * 0 + _ ≤ _; omega) hd (fun _ _ => ⟨has, eT, hc, hs⟩)
  dsimp only [Pt.U, Pt.locs, Pt.cells, Pt.slots] at X' l1 y1 z1 stp hQ
  subst l1 y1 z1
  exact Go.step (fun _ q => stp.trans q) (k v T' Lc X' hQ)
theorem Go.callP (X : Stand p l e R s m args below meth c T locs cells slots) (hx : p.tables.exec = Jvm.exec) (hZ : Z.Warmed39 s.vm) {own : String} {index : Nat} {y : MethodName} {bytes : ByteArray} {maxL : Nat} {ret : Option FieldType} {rm : Room} {as' : Array Value} {Qc : Option Value → Heap → List Loc → Prop} {W pc : Nat} {Ls : Array Slot} {st : List Value} {a : Addr} {argsL rest : List Value} (hml : Ls.size = c.maxLocals)
    (hown : s.vm.findClass own = some m.cls) (w1 : (Jvm.Cond.methodLink own index y).before a0 Z = true) (w6 : (Jvm.Cond.instanceMethod y).before a0 Z = true) {kk : Nat} (w5 : (Jvm.Cond.instantiable y.cls kk).before a0 Z = true) (w7 : (Jvm.Cond.privateMethod y).before a0 Z = true) (w3 : (Jvm.Cond.initialized y.cls).before a0 Z = true) (w4 : (Jvm.Cond.code y bytes maxL ret).before a0 Z = true) (hy : y.cls ≠ "java/lang/invoke/MethodHandle" ∧ y.cls ≠ "java/lang/invoke/VarHandle")
    (hM : Con l Z y bytes maxL ret rm as' h Qc) (eT : T.heap = h) {K : String} (E : Exa Z h a K) (hd : decode c.code pc = .ok (.invokevirtual index, 3)) (hlen : ∀ sig, parseMethodDescriptor y.desc = some sig → argsL.length = sig.parameters.length) (hst : st = argsL.reverse ++ .ref a :: rest) (has : (Value.ref a :: argsL).toArray = as')
    (hW : (rest.map fun v => v.category).sum ≤ W) (hf : rm.frames + 1 ≤ R.frames) (hl : W + (maxL + 11) + rm.locals ≤ R.locals) (hc : cells + rm.cells ≤ R.cells) (hs : slots + rm.slots ≤ R.slots)
    (k : ∀ (v : Option Value) (T' : State) (L : List Loc), Stand p l e R s m args below meth c T' (locs ++ L) (cells + rm.cells) (slots + rm.slots) → Qc v T'.heap L → Go p e below s C S Q T' (mkF m (pc + 3) Ls (v.toList ++ rest))) :
    Go p e below s C S Q T (mkF m pc Ls st) := by
  obtain ⟨cq, q1, q2⟩ := E.cell
  have hpriv : s.PrivateAt y := Cond.privateMethod_at (mvP hZ w7 (args := #[]))
  have w5' : (Jvm.Cond.instantiable y.cls kk).before args s = true := mvT hZ w5
  obtain ⟨c1, k1, i1, i2, -, i4, -⟩ := Cond.instantiable_spec w5'
  have hsel : (Jvm.Cond.selects y.cls y y).before args s = true := selects_self_of_private i1 i2 (by simp only [Bool.or_eq_false_iff] at i4; exact i4.1) hpriv (mvT hZ w6) hy
  obtain ⟨v, _, ⟨T', L', k', n'⟩, -, X', ⟨Lc, hQ, l1, y1, z1⟩, stp⟩ := X.privateBack hx (y := y) hown (mvT hZ w1) (mvT hZ w6) hsel hpriv (mvT hZ w4) hy (backOf (W := W) hM hZ w4 w3 hf hl) (g := mkF m pc Ls st) rfl hml (Steps.refl _) (a := a) (by rw [eT]; exact q1) q2 (argsL := argsL) (rest := rest) hlen hst (by show 2 * 0 + _ ≤ _; omega) hd (fun _ _ => ⟨has, eT, hc, hs⟩)
  dsimp only [Pt.U, Pt.locs, Pt.cells, Pt.slots] at X' l1 y1 z1 stp hQ
  subst l1 y1 z1
  exact Go.step (fun _ q => stp.trans q) (k v T' Lc X' hQ)
end OwnGo
/-! OWN: branches on a comparison of doubles, as javac writes them -/
section OwnCmp
variable {x y : UInt64}
theorem cv_none (o : CmpOp) (h : FP.dcmp x y = none) : cmpValue (FP.dcmp x y) o = (match o with | .l => -1 | .g => 1) := by rw [h]; cases o <;> rfl
theorem gt_y (h : FP.dcmp x y = some .gt) : ifCond.holds .le (cmpValue (FP.dcmp x y) .l) = false := by rw [h]; rfl
theorem gt_n (h : ¬ FP.dcmp x y = some .gt) : ifCond.holds .le (cmpValue (FP.dcmp x y) .l) = true := by
  rcases q : FP.dcmp x y with _ | (_ | _ | _) <;> first | rfl | exact absurd q h
theorem ge_y (h : FP.dcmp x y = some .gt ∨ FP.dcmp x y = some .eq) : ifCond.holds .lt (cmpValue (FP.dcmp x y) .l) = false := by rcases h with h | h <;> rw [h] <;> rfl
theorem ge_n (h : ¬ (FP.dcmp x y = some .gt ∨ FP.dcmp x y = some .eq)) : ifCond.holds .lt (cmpValue (FP.dcmp x y) .l) = true := by
  rcases q : FP.dcmp x y with _ | (_ | _ | _) <;> first | rfl | exact absurd (Or.inl q) h | exact absurd (Or.inr q) h
theorem lt_y (h : FP.dcmp x y = some .lt) : ifCond.holds .ge (cmpValue (FP.dcmp x y) .g) = false := by rw [h]; rfl
theorem lt_n (h : ¬ FP.dcmp x y = some .lt) : ifCond.holds .ge (cmpValue (FP.dcmp x y) .g) = true := by
  rcases q : FP.dcmp x y with _ | (_ | _ | _) <;> first | rfl | exact absurd q h
theorem le_y (h : FP.dcmp x y = some .lt ∨ FP.dcmp x y = some .eq) : ifCond.holds .gt (cmpValue (FP.dcmp x y) .g) = false := by rcases h with h | h <;> rw [h] <;> rfl
theorem le_n (h : ¬ (FP.dcmp x y = some .lt ∨ FP.dcmp x y = some .eq)) : ifCond.holds .gt (cmpValue (FP.dcmp x y) .g) = true := by
  rcases q : FP.dcmp x y with _ | (_ | _ | _) <;> first | rfl | exact absurd (Or.inl q) h | exact absurd (Or.inr q) h
theorem eq_y (o : CmpOp) (h : FP.dcmp x y = some .eq) : ifCond.holds .ne (cmpValue (FP.dcmp x y) o) = false ∧ ifCond.holds .eq (cmpValue (FP.dcmp x y) o) = true := by rw [h]; cases o <;> exact ⟨rfl, rfl⟩
theorem eq_n (o : CmpOp) (h : ¬ FP.dcmp x y = some .eq) : ifCond.holds .ne (cmpValue (FP.dcmp x y) o) = true ∧ ifCond.holds .eq (cmpValue (FP.dcmp x y) o) = false := by
  rcases q : FP.dcmp x y with _ | (_ | _ | _) <;> cases o <;> first | exact ⟨rfl, rfl⟩ | exact absurd q h
/-- x > y, by a taken 'ifgt' over dcmpl -/
theorem gtT_y (h : FP.dcmp x y = some .gt) : ifCond.holds .gt (cmpValue (FP.dcmp x y) .l) = true := by rw [h]; rfl
theorem gtT_n (h : ¬ FP.dcmp x y = some .gt) : ifCond.holds .gt (cmpValue (FP.dcmp x y) .l) = false := by
  rcases q : FP.dcmp x y with _ | (_ | _ | _) <;> first | rfl | exact absurd q h
theorem geT_y (h : FP.dcmp x y = some .gt ∨ FP.dcmp x y = some .eq) : ifCond.holds .ge (cmpValue (FP.dcmp x y) .l) = true := by rcases h with h | h <;> rw [h] <;> rfl
theorem geT_n (h : ¬ (FP.dcmp x y = some .gt ∨ FP.dcmp x y = some .eq)) : ifCond.holds .ge (cmpValue (FP.dcmp x y) .l) = false := by
  rcases q : FP.dcmp x y with _ | (_ | _ | _) <;> first | rfl | exact absurd (Or.inl q) h | exact absurd (Or.inr q) h
theorem ltT_y (h : FP.dcmp x y = some .lt) : ifCond.holds .lt (cmpValue (FP.dcmp x y) .g) = true := by rw [h]; rfl
theorem ltT_n (h : ¬ FP.dcmp x y = some .lt) : ifCond.holds .lt (cmpValue (FP.dcmp x y) .g) = false := by
  rcases q : FP.dcmp x y with _ | (_ | _ | _) <;> first | rfl | exact absurd q h
theorem leT_y (h : FP.dcmp x y = some .lt ∨ FP.dcmp x y = some .eq) : ifCond.holds .le (cmpValue (FP.dcmp x y) .g) = true := by rcases h with h | h <;> rw [h] <;> rfl
theorem leT_n (h : ¬ (FP.dcmp x y = some .lt ∨ FP.dcmp x y = some .eq)) : ifCond.holds .le (cmpValue (FP.dcmp x y) .g) = false := by
  rcases q : FP.dcmp x y with _ | (_ | _ | _) <;> first | rfl | exact absurd (Or.inl q) h | exact absurd (Or.inr q) h
end OwnCmp
theorem mI {α : Type} {l : List α} {a : α} (i : Nat) (h : l[i]? = some a) : a ∈ l := List.mem_of_getElem? h

section OwnGoW
def Szk (k : Nat) (h : Heap) : Prop := k ≤ h.size
theorem Szk.ext {k : Nat} {h h' : Heap} (q : Szk k h) (E : Ext h h') : Szk k h' := Nat.le_trans q E.1
theorem Szk.keep {k : Nat} {h h' : Heap} {ws : List Addr} (q : Szk k h) (K : Keep h h' ws) : Szk k h' := Nat.le_trans q K.1
theorem Szk.wr {k : Nat} {h h' : Heap} {a : Addr} {i : Nat} {v : Value} (q : Szk k h) (W : Wr h h' a i v) : Szk k h' := Nat.le_trans q ((Keep.refl h [a]).wr W (Or.inl (List.mem_singleton.mpr rfl))).1
def GoW (p : Program) (e : Env) (below : List Frame) (s : State) (C S : Nat) (Q : Option Value → Heap → List Loc → Prop) (T : State) (g : JFrame) : Prop :=
  ∃ s₂ o, Steps p.tables e below (T.setTop g) s₂ ∧ s₂.status = .running ∧ Ended s₂ below o ∧ ∃ v L, o = .returned v ∧ Q v s₂.heap L ∧ ReturnedEndW s o s₂ L C S
variable {p : Program} {l : Launch} {e : Env} {R : Room} {s : State} {m : MethodId} {args : Array Value} {below : List Frame} {meth : Method} {c : Code} {T T' : State} {locs : List Loc} {cells slots : Nat} {Z : State} {a0 : Array Value} {h : Heap} {C S : Nat} {Q : Option Value → Heap → List Loc → Prop} {g g' : JFrame} {s0 : State} {vm0 : Vm} {k0 : Nat}
theorem GoW.step (st : ∀ target, Steps p.tables e below (T'.setTop g') target → Steps p.tables e below (T.setTop g) target) (h : GoW p e below s0 C S Q T' g') : GoW p e below s0 C S Q T g := by
  obtain ⟨s₂, o, h1, r⟩ := h; exact ⟨s₂, o, st _ h1, r⟩
theorem GoW.cast (q : g = g') (h : GoW p e below s0 C S Q T g') : GoW p e below s0 C S Q T g := q ▸ h
theorem GoW.ret (X : Stand p l e R (s0.setVm vm0) m args below meth c T locs cells slots) (hS : s0.Since vm0 k0) (hk : Szk k0 h) (eT : T.heap = h) (hlk : meth.locks = false) {v : Option Value} (hv : meth.sig.returnType = none → v = none)
    (st : ∀ fs, (∀ (f : JFrame) (acts : List Action), f.method = m → f.locked = none → f.entered = [] → (doReturn e (T.setTop f) acts v).1 = T.setFrames fs) → Steps p.tables e below (T.setTop g) (T.setFrames fs))
    (hq : Q v T.heap locs) (hc : cells ≤ C) (hs : slots ≤ S) : GoW p e below s0 C S Q T g := by
  obtain ⟨fs, hr, hrun, hended, h1, h2, h3, hsame⟩ := X.leaveW hS (by rw [eT]; exact hk) (v := v) hv hlk
  exact ⟨_, _, st fs hr, hrun, hended, v, locs, rfl, hq, h1, h2, h3, hsame.mono hc hs⟩
theorem GoW.retV (X : Stand p l e R (s0.setVm vm0) m args below meth c T locs cells slots) (hS : s0.Since vm0 k0) (hk : Szk k0 h) (eT : T.heap = h) (hx : p.tables.exec = Jvm.exec) (hlk : meth.locks = false) (hret : meth.sig.returnType = none) {pc : Nat} {Ls : Array Slot} (hd : decode c.code pc = .ok (.return_, 1))
    (hc : cells ≤ C) (hs : slots ≤ S) (hq : Q none T.heap locs) : GoW p e below s0 C S Q T (mkF m pc Ls []) :=
  GoW.ret X hS hk eT hlk (fun _ => rfl) (fun fs hr => X.returnOut hx hret hd hr) hq hc hs
theorem GoW.retW (X : Stand p l e R (s0.setVm vm0) m args below meth c T locs cells slots) (hS : s0.Since vm0 k0) (hk : Szk k0 h) (eT : T.heap = h) (hx : p.tables.exec = Jvm.exec) (hlk : meth.locks = false) {t : FieldType} (hret : meth.sig.returnType = some t) {pc : Nat} {Ls : Array Slot} {w : Value} {i : Instr} {rest : List Value} (hn : narrow t w = w)
    (hi : (i = .ireturn ∧ (t = .int ∨ t = .boolean ∨ t = .byte ∨ t = .char ∨ t = .short) ∧ ∃ z, w = .int z) ∨ (i = .lreturn ∧ t = .long ∧ ∃ z, w = .long z) ∨ (i = .dreturn ∧ t = .double ∧ ∃ z, w = .double z) ∨ (i = .freturn ∧ t = .float ∧ ∃ z, w = .float z) ∨ (i = .areturn ∧ t.isReference = true ∧ w.isRef = true))
    (hd : decode c.code pc = .ok (i, 1)) (hc : cells ≤ C) (hs : slots ≤ S) (hq : Q (some w) T.heap locs) : GoW p e below s0 C S Q T (mkF m pc Ls (w :: rest)) :=
  GoW.ret X hS hk eT hlk (fun h => by rw [hret] at h; cases h) (fun fs hr => retOut X hx hret hn hi hd hr) hq hc hs
theorem GoW.retZ (X : Stand p l e R (s0.setVm vm0) m args below meth c T locs cells slots) (hS : s0.Since vm0 k0) (hk : Szk k0 h) (eT : T.heap = h) (hx : p.tables.exec = Jvm.exec) (hlk : meth.locks = false) (hret : meth.sig.returnType = some .boolean) {pc : Nat} {Ls : Array Slot} {z : Int32} {rest : List Value} (hz : z = 0 ∨ z = 1)
    (hd : decode c.code pc = .ok (.ireturn, 1)) (hc : cells ≤ C) (hs : slots ≤ S) (hq : Q (some (.int z)) T.heap locs) : GoW p e below s0 C S Q T (mkF m pc Ls (.int z :: rest)) :=
  GoW.retW X hS hk eT hx hlk hret (by rcases hz with rfl | rfl <;> rfl) (Or.inl ⟨rfl, Or.inr (Or.inl rfl), z, rfl⟩) hd hc hs hq
abbrev ConW (l : Launch) (Z : State) (y : MethodName) (bytes : ByteArray) (ml : Nat) (rt : Option FieldType) (rm : Room) (as' : Array Value) (h0 : Heap) (Q : Option Value → Heap → List Loc → Prop) : Prop :=
  MetFree l y (head1 [Jvm.Cond.code y bytes ml rt] rm) (fun a U => a = as' ∧ Z.Warmed39 U.vm ∧ U.heap = h0) (fun _ _ _ _ _ => True) (fun _ U o U' => ∃ v L, o = .returned v ∧ Q v U'.heap L ∧ ReturnedEndW U o U' L rm.cells rm.slots)
theorem con_ofW {y : MethodName} {bytes : ByteArray} {ml : Nat} {rt : Option FieldType} {ws : List Jvm.Cond} {rm : Room} {as' : Array Value} {h0 : Heap} (hpl : plainFor y = true)
    (body : ∀ (p : Program) (e : Env) (s : State) (m : MethodId) (below : List Frame) (meth : Method) (c : Code) (T : State), Stand p l e rm s m as' below meth c T [] 0 0 → p.tables.exec = Jvm.exec → Z.Warmed39 s.vm → c.code = bytes → c.maxLocals = ml → s.vm.findClass y.cls = some m.cls → meth.name = y.name →
      meth.sig.returnType = rt → meth.locks = false → T.heap = h0 → GoW p e below s rm.cells rm.slots Q T (entryFrame m as' ml)) :
    MetFree l y (head1 (Jvm.Cond.code y bytes ml rt :: ws) rm) (fun a U => a = as' ∧ Z.Warmed39 U.vm ∧ U.heap = h0) (fun _ _ _ _ _ => True) (fun _ U o U' => ∃ v L, o = .returned v ∧ Q v U'.heap L ∧ ReturnedEndW U o U' L rm.cells rm.slots) := by
  refine MetFree.of_bodySF hpl hisR ?_
  intro p e s m args below meth c s₁ Bd hml0 hP hK
  obtain ⟨rfl, hZ, hh⟩ := hP
  exact body p e s m below meth c s₁ (Stand.of_body Bd) Bd.exec hZ Bd.bytes hml0 (findClass_of_methodNamed Bd.named) (name_of_methodNamed Bd.named Bd.method).1 Bd.returns (BodyLoose.notSynchronized Bd) (by rw [← hh, Bd.state]; rfl)
/-- a constructor that may intern -/
theorem GoW.callIW (X : Stand p l e R (s0.setVm vm0) m args below meth c T locs cells slots) (hS : s0.Since vm0 k0) (hk : Szk k0 h) (hx : p.tables.exec = Jvm.exec) (hZ : Z.Warmed39 (s0.setVm vm0).vm) {own : String} {index : Nat} {y : MethodName} {bytes : ByteArray} {maxL : Nat} {rm : Room} {as' : Array Value} {Qc : Option Value → Heap → List Loc → Prop} {W pc : Nat} {Ls : Array Slot} {st : List Value} {a : Addr} {argsL rest : List Value} (hml : Ls.size = c.maxLocals)
    (hy1 : y.name = "<init>") (hown : (s0.setVm vm0).vm.findClass own = some m.cls) (w1 : (Jvm.Cond.methodLink own index y).before a0 Z = true) (w2 : (Jvm.Cond.instanceMethod y).before a0 Z = true) (w3 : (Jvm.Cond.initialized y.cls).before a0 Z = true) (w4 : (Jvm.Cond.code y bytes maxL none).before a0 Z = true) (hy : y.cls ≠ "java/lang/invoke/MethodHandle" ∧ y.cls ≠ "java/lang/invoke/VarHandle")
    (hM : ConW l Z y bytes maxL none rm as' h Qc) (eT : T.heap = h) (hd : decode c.code pc = .ok (.invokespecial index, 3)) (hlen : ∀ sig, parseMethodDescriptor y.desc = some sig → argsL.length = sig.parameters.length) (hst : st = argsL.reverse ++ .ref a :: rest) (has : (Value.ref a :: argsL).toArray = as')
    (hW : (rest.map fun v => v.category).sum ≤ W) (hf : rm.frames + 1 ≤ R.frames) (hl : W + (maxL + 11) + rm.locals ≤ R.locals) (hc : cells + rm.cells ≤ R.cells) (hs : slots + rm.slots ≤ R.slots)
    (k : ∀ (v : Option Value) (T' : State) (L : List Loc), Stand p l e R (s0.setVm T'.vm) m args below meth c T' (locs ++ L) (cells + rm.cells) (slots + rm.slots) → Qc v T'.heap L → s0.Since T'.vm T'.heap.size → Z.Warmed39 (s0.setVm T'.vm).vm → (s0.setVm T'.vm).vm.findClass own = some m.cls → GoW p e below s0 C S Q T' (mkF m (pc + 3) Ls (v.toList ++ rest))) :
    GoW p e below s0 C S Q T (mkF m pc Ls st) := by
  obtain ⟨v, _, ⟨T', L', k', n'⟩, -, X', hS2, hgr, ⟨Lc, hQ, l1, y1, z1⟩, stp⟩ := X.specialBackS hx (y := y) hy1 hown (mvT hZ w1) (mvT hZ w2) (mvT hZ w4) hy (backOfS (W := W) hM hZ w4 w3 hf hl) (g := mkF m pc Ls st) rfl hml (Steps.refl _) (a := a) (argsL := argsL) (rest := rest) hlen hst (by show 2 * 0 + _ ≤ _; omega) hd (fun _ _ => ⟨has, eT, hc, hs⟩)
  dsimp only [Pt.U, Pt.locs, Pt.cells, Pt.slots] at X' l1 y1 z1 stp hQ hS2 hgr
  subst l1 y1 z1
  obtain ⟨X2, q2, q3, q4⟩ := rebS hS (show k0 ≤ T.heap.size by rw [eT]; exact hk) X' hS2 hgr hZ hown
  exact GoW.step (fun _ q => stp.trans q) (k v T' Lc X2 hQ q2 q3 q4)
theorem GoW.callS (X : Stand p l e R s m args below meth c T locs cells slots) (hx : p.tables.exec = Jvm.exec) (hZ : Z.Warmed39 s.vm) {own : String} {index : Nat} {y : MethodName} {bytes : ByteArray} {maxL : Nat} {ret : Option FieldType} {rm : Room} {as' : Array Value} {Qc : Option Value → Heap → List Loc → Prop} {W pc : Nat} {Ls : Array Slot} {st : List Value} {argsL rest : List Value} (hml : Ls.size = c.maxLocals)
    (hown : s.vm.findClass own = some m.cls) (w1 : (Jvm.Cond.methodLink own index y).before a0 Z = true) (w2 : (Jvm.Cond.static y).before a0 Z = true) (w3 : (Jvm.Cond.initialized y.cls).before a0 Z = true) (w4 : (Jvm.Cond.code y bytes maxL ret).before a0 Z = true) (hy : y.cls ≠ "java/lang/invoke/MethodHandle" ∧ y.cls ≠ "java/lang/invoke/VarHandle")
    (hM : Con l Z y bytes maxL ret rm as' h Qc) (eT : T.heap = h) (hd : decode c.code pc = .ok (.invokestatic index, 3)) (hlen : ∀ sig, parseMethodDescriptor y.desc = some sig → argsL.length = sig.parameters.length) (hst : st = argsL.reverse ++ rest) (has : argsL.toArray = as')
    (hW : (rest.map fun v => v.category).sum ≤ W) (hf : rm.frames + 1 ≤ R.frames) (hl : W + (maxL + 11) + rm.locals ≤ R.locals) (hc : cells + rm.cells ≤ R.cells) (hs : slots + rm.slots ≤ R.slots)
    (k : ∀ (v : Option Value) (T' : State) (L : List Loc), Stand p l e R s m args below meth c T' (locs ++ L) (cells + rm.cells) (slots + rm.slots) → Qc v T'.heap L → GoW p e below s0 C S Q T' (mkF m (pc + 3) Ls (v.toList ++ rest))) :
    GoW p e below s0 C S Q T (mkF m pc Ls st) := by
  obtain ⟨v, _, ⟨T', L', k', n'⟩, -, X', ⟨Lc, hQ, l1, y1, z1⟩, stp⟩ := Jvm.LawKit.callS X hx (y := y) hown (mvT hZ w1) (mvT hZ w2) (mvT hZ w3) (mvT hZ w4) hy (backOf (W := W) hM hZ w4 w3 hf hl) (g := mkF m pc Ls st) rfl hml (argsL := argsL) (rest := rest) hlen hst (by show 2 * 0 + _ ≤ _; omega) hd (fun _ _ => ⟨has, eT, hc, hs⟩)
  dsimp only [Pt.U, Pt.locs, Pt.cells, Pt.slots] at X' l1 y1 z1 stp hQ
  subst l1 y1 z1
  exact GoW.step stp (k v T' Lc X' hQ)
theorem GoW.callI (X : Stand p l e R s m args below meth c T locs cells slots) (hx : p.tables.exec = Jvm.exec) (hZ : Z.Warmed39 s.vm) {own : String} {index : Nat} {y : MethodName} {bytes : ByteArray} {maxL : Nat} {rm : Room} {as' : Array Value} {Qc : Option Value → Heap → List Loc → Prop} {W pc : Nat} {Ls : Array Slot} {st : List Value} {a : Addr} {argsL rest : List Value} (hml : Ls.size = c.maxLocals)
    (hy1 : y.name = "<init>") (hown : s.vm.findClass own = some m.cls) (w1 : (Jvm.Cond.methodLink own index y).before a0 Z = true) (w2 : (Jvm.Cond.instanceMethod y).before a0 Z = true) (w3 : (Jvm.Cond.initialized y.cls).before a0 Z = true) (w4 : (Jvm.Cond.code y bytes maxL none).before a0 Z = true) (hy : y.cls ≠ "java/lang/invoke/MethodHandle" ∧ y.cls ≠ "java/lang/invoke/VarHandle")
    (hM : Con l Z y bytes maxL none rm as' h Qc) (eT : T.heap = h) (hd : decode c.code pc = .ok (.invokespecial index, 3)) (hlen : ∀ sig, parseMethodDescriptor y.desc = some sig → argsL.length = sig.parameters.length) (hst : st = argsL.reverse ++ .ref a :: rest) (has : (Value.ref a :: argsL).toArray = as')
    (hW : (rest.map fun v => v.category).sum ≤ W) (hf : rm.frames + 1 ≤ R.frames) (hl : W + (maxL + 11) + rm.locals ≤ R.locals) (hc : cells + rm.cells ≤ R.cells) (hs : slots + rm.slots ≤ R.slots)
    (k : ∀ (v : Option Value) (T' : State) (L : List Loc), Stand p l e R s m args below meth c T' (locs ++ L) (cells + rm.cells) (slots + rm.slots) → Qc v T'.heap L → GoW p e below s0 C S Q T' (mkF m (pc + 3) Ls (v.toList ++ rest))) :
    GoW p e below s0 C S Q T (mkF m pc Ls st) := by
  obtain ⟨v, _, ⟨T', L', k', n'⟩, -, X', ⟨Lc, hQ, l1, y1, z1⟩, stp⟩ := X.specialBack hx (y := y) hy1 hown (mvT hZ w1) (mvT hZ w2) (mvT hZ w4) hy (backOf (W := W) hM hZ w4 w3 hf hl) (g := mkF m pc Ls st) rfl hml (Steps.refl _) (a := a) (argsL := argsL) (rest := rest) hlen hst (by show 2 * 0 + _ ≤ _; omega) hd (fun _ _ => ⟨has, eT, hc, hs⟩)
  dsimp only [Pt.U, Pt.locs, Pt.cells, Pt.slots] at X' l1 y1 z1 stp hQ
  subst l1 y1 z1
  exact GoW.step (fun _ q => stp.trans q) (k v T' Lc X' hQ)
theorem GoW.callV (X : Stand p l e R s m args below meth c T locs cells slots) (hx : p.tables.exec = Jvm.exec) (hZ : Z.Warmed39 s.vm) {own K : String} {index : Nat} {y z : MethodName} {bytes : ByteArray} {maxL : Nat} {ret : Option FieldType} {rm : Room} {as' : Array Value} {Qc : Option Value → Heap → List Loc → Prop} {W pc : Nat} {Ls : Array Slot} {st : List Value} {a : Addr} {argsL rest : List Value} (hml : Ls.size = c.maxLocals)
    (hown : s.vm.findClass own = some m.cls) (w1 : (Jvm.Cond.methodLink own index y).before a0 Z = true) (w2 : (Jvm.Cond.declares y).before a0 Z = true) (hnf : NotFace s y) (w5 : (Jvm.Cond.selects K y z).before a0 Z = true) (w6 : (Jvm.Cond.instanceMethod z).before a0 Z = true) (w3 : (Jvm.Cond.initialized z.cls).before a0 Z = true) (w4 : (Jvm.Cond.code z bytes maxL ret).before a0 Z = true) (hy : y.cls ≠ "java/lang/invoke/MethodHandle" ∧ y.cls ≠ "java/lang/invoke/VarHandle")
    (hM : Con l Z z bytes maxL ret rm as' h Qc) (eT : T.heap = h) (E : Exa Z h a K) (hd : decode c.code pc = .ok (.invokevirtual index, 3)) (hlen : ∀ sig, parseMethodDescriptor y.desc = some sig → argsL.length = sig.parameters.length) (hst : st = argsL.reverse ++ .ref a :: rest) (has : (Value.ref a :: argsL).toArray = as')
    (hW : (rest.map fun v => v.category).sum ≤ W) (hf : rm.frames + 1 ≤ R.frames) (hl : W + (maxL + 11) + rm.locals ≤ R.locals) (hc : cells + rm.cells ≤ R.cells) (hs : slots + rm.slots ≤ R.slots)
    (k : ∀ (v : Option Value) (T' : State) (L : List Loc), Stand p l e R s m args below meth c T' (locs ++ L) (cells + rm.cells) (slots + rm.slots) → Qc v T'.heap L → GoW p e below s0 C S Q T' (mkF m (pc + 3) Ls (v.toList ++ rest))) :
    GoW p e below s0 C S Q T (mkF m pc Ls st) := by
  obtain ⟨cq, kq, qa, qb, qc⟩ := isOf hZ eT E
  obtain ⟨v, _, ⟨T', L', k', n'⟩, -, X', ⟨Lc, hQ, l1, y1, z1⟩, stp⟩ := X.virtualBack hx (y := y) (z := z) hown (mvT hZ w1) (mvT hZ w2) hnf (mvT hZ w5) (mvT hZ w6) hy (backOf (W := W) hM hZ w4 w3 hf hl) qa qc (g := mkF m pc Ls st) rfl hml (Steps.refl _) (argsL := argsL) (rest := rest) hlen hst (by show 2 * 0 + _ ≤ _; omega) hd (fun _ _ => ⟨has, eT, hc, hs⟩)
  dsimp only [Pt.U, Pt.locs, Pt.cells, Pt.slots] at X' l1 y1 z1 stp hQ
  subst l1 y1 z1
  exact GoW.step (fun _ q => stp.trans q) (k v T' Lc X' hQ)
theorem GoW.callP (X : Stand p l e R s m args below meth c T locs cells slots) (hx : p.tables.exec = Jvm.exec) (hZ : Z.Warmed39 s.vm) {own : String} {index : Nat} {y : MethodName} {bytes : ByteArray} {maxL : Nat} {ret : Option FieldType} {rm : Room} {as' : Array Value} {Qc : Option Value → Heap → List Loc → Prop} {W pc : Nat} {Ls : Array Slot} {st : List Value} {a : Addr} {argsL rest : List Value} (hml : Ls.size = c.maxLocals)
    (hown : s.vm.findClass own = some m.cls) (w1 : (Jvm.Cond.methodLink own index y).before a0 Z = true) (w6 : (Jvm.Cond.instanceMethod y).before a0 Z = true) {kk : Nat} (w5 : (Jvm.Cond.instantiable y.cls kk).before a0 Z = true) (w7 : (Jvm.Cond.privateMethod y).before a0 Z = true) (w3 : (Jvm.Cond.initialized y.cls).before a0 Z = true) (w4 : (Jvm.Cond.code y bytes maxL ret).before a0 Z = true) (hy : y.cls ≠ "java/lang/invoke/MethodHandle" ∧ y.cls ≠ "java/lang/invoke/VarHandle")
    (hM : Con l Z y bytes maxL ret rm as' h Qc) (eT : T.heap = h) {K : String} (E : Exa Z h a K) (hd : decode c.code pc = .ok (.invokevirtual index, 3)) (hlen : ∀ sig, parseMethodDescriptor y.desc = some sig → argsL.length = sig.parameters.length) (hst : st = argsL.reverse ++ .ref a :: rest) (has : (Value.ref a :: argsL).toArray = as')
    (hW : (rest.map fun v => v.category).sum ≤ W) (hf : rm.frames + 1 ≤ R.frames) (hl : W + (maxL + 11) + rm.locals ≤ R.locals) (hc : cells + rm.cells ≤ R.cells) (hs : slots + rm.slots ≤ R.slots)
    (k : ∀ (v : Option Value) (T' : State) (L : List Loc), Stand p l e R s m args below meth c T' (locs ++ L) (cells + rm.cells) (slots + rm.slots) → Qc v T'.heap L → GoW p e below s0 C S Q T' (mkF m (pc + 3) Ls (v.toList ++ rest))) :
    GoW p e below s0 C S Q T (mkF m pc Ls st) := by
  obtain ⟨cq, q1, q2⟩ := E.cell
  have hpriv : s.PrivateAt y := Cond.privateMethod_at (mvP hZ w7 (args := #[]))
  have w5' : (Jvm.Cond.instantiable y.cls kk).before args s = true := mvT hZ w5
  obtain ⟨c1, k1, i1, i2, -, i4, -⟩ := Cond.instantiable_spec w5'
  have hsel : (Jvm.Cond.selects y.cls y y).before args s = true := selects_self_of_private i1 i2 (by simp only [Bool.or_eq_false_iff] at i4; exact i4.1) hpriv (mvT hZ w6) hy
  obtain ⟨v, _, ⟨T', L', k', n'⟩, -, X', ⟨Lc, hQ, l1, y1, z1⟩, stp⟩ := X.privateBack hx (y := y) hown (mvT hZ w1) (mvT hZ w6) hsel hpriv (mvT hZ w4) hy (backOf (W := W) hM hZ w4 w3 hf hl) (g := mkF m pc Ls st) rfl hml (Steps.refl _) (a := a) (by rw [eT]; exact q1) q2 (argsL := argsL) (rest := rest) hlen hst (by show 2 * 0 + _ ≤ _; omega) hd (fun _ _ => ⟨has, eT, hc, hs⟩)
  dsimp only [Pt.U, Pt.locs, Pt.cells, Pt.slots] at X' l1 y1 z1 stp hQ
  subst l1 y1 z1
  exact GoW.step (fun _ q => stp.trans q) (k v T' Lc X' hQ)
end OwnGoW
theorem own_wS {Z : State} {a0 : Array Value} (hw : ∀ d ∈ tables_1, d.before a0 Z = true) : ∀ a ∈ Bundle.stringAtoms, a.before a0 Z = true := by
  intro a ha
  simp only [Bundle.stringAtoms, List.mem_cons, List.not_mem_nil, or_false] at ha
  rcases ha with rfl | rfl | rfl | rfl | rfl | rfl | rfl
  · exact (hw _ (mI 17 rfl))
  · exact (hw _ (mI 18 rfl))
  · exact (hw _ (mI 19 rfl))
  · exact (hw _ (mI 20 rfl))
  · exact (hw _ (mI 21 rfl))
  · exact (hw _ (mI 22 rfl))
  · exact (hw _ (mI 23 rfl))
section OwnConv
open Jvm.FP.Core
theorem own_nnN {a : UInt64} (h : val64 a ≠ .nan) : Jvm.Free.Fl.NoNaN64 a := Jvm.Free.Fl.noNaN64_no.mpr ((notNaN_iff a).mpr h)
theorem own_Nnn {a : UInt64} (h : Jvm.Free.Fl.NoNaN64 a) : val64 a ≠ .nan := (notNaN_iff a).mp (Jvm.Free.Fl.noNaN64_no.mp h)
theorem own_finF {a : UInt64} (h : DFin a) : Jvm.Free.Fl.Fin64 a := Jvm.Free.Fl.fin64_core.mpr h
theorem own_Ffin {a : UInt64} (h : Jvm.Free.Fl.Fin64 a) : DFin a := Jvm.Free.Fl.fin64_core.mp h
theorem own_nnF {a : UInt64} (h : DFin a) : Jvm.Free.Fl.NoNaN64 a := own_nnN h.ne_nan
theorem own_nz {x : Int64} (h : x ≠ 0) : Jvm.Free.Fl.Nz64 (FP.l2d x) := Jvm.Free.Fl.nz64_core.mpr (fun z => l2d_ne_zero h ((zero_bits2 _).mp z))
theorem own_eqD {a b : UInt64} (h : a = b) (n : Jvm.Free.Fl.NoNaN64 a) : FP.dcmp a b = some .eq := by subst h; exact dcmp_self (own_Nnn n)
end OwnConv

section OwnQuot
open Jvm.FP.Core
theorem own_pow (a b : Nat) : (2:Nat) ^ a * 2 ^ b = 2 ^ (a + b) := (Nat.pow_add 2 a b).symm
theorem own_cross {c d M : Nat} {q r : Int} (hq : 0 ≤ q + M) (hr : 0 ≤ r + M) (h : c * 2 ^ (q + M).toNat ≤ d * 2 ^ (r + M).toNat) : c * 2 ^ (q - r).toNat ≤ d * 2 ^ (r - q).toNat := by
  have e1 : (q + M).toNat = (q - r).toNat + (min q r + M).toNat := by omega
  have e2 : (r + M).toNat = (r - q).toNat + (min q r + M).toNat := by omega
  rw [e1, e2, Nat.pow_add, Nat.pow_add, ← Nat.mul_assoc, ← Nat.mul_assoc] at h
  exact Nat.le_of_mul_le_mul_right h (Nat.two_pow_pos _)
theorem own_cross_eq {c d M : Nat} {q r : Int} (hq : 0 ≤ q + M) (hr : 0 ≤ r + M) (h : c * 2 ^ (q + M).toNat = d * 2 ^ (r + M).toNat) : c * 2 ^ (q - r).toNat = d * 2 ^ (r - q).toNat :=
  Nat.le_antisymm (own_cross hq hr (Nat.le_of_eq h)) (own_cross hr hq (Nat.le_of_eq h.symm))
/-- the quotient of two whole numbers -/
theorem own_quot_int {i j : Int} {a b : UInt64} (ha : DInt i a) (hb : DInt j b) (hi : i ≠ 0) (hj : j ≠ 0) : val64 (FP.ddiv a b) = roundRatio b64 (decide (i < 0) != decide (j < 0)) i.natAbs j.natAbs 0 := by
  show val64 (Jvm.FP.Core.ddiv a b) = _
  rw [val64_ddiv]
  unfold DInt at ha hb
  cases ea : val64 a with
  | nan => rw [ea] at ha; exact ha.elim
  | inf s => rw [ea] at ha; exact ha.elim
  | fin s c q =>
    cases eb : val64 b with
    | nan => rw [eb] at hb; exact hb.elim
    | inf s => rw [eb] at hb; exact hb.elim
    | fin t d r =>
      rw [ea] at ha; rw [eb] at hb
      have hd : d ≠ 0 := fun z => hj ((whole_zero hb).mp z)
      have h1 := whole_natAbs ha
      have h2 := whole_natAbs hb
      show (if d = 0 then (if c = 0 then Datum.nan else .inf (s != t)) else roundRatio b64 (s != t) c d (q - r)) = _
      rw [if_neg hd, whole_sign ha hi, whole_sign hb hj]
      refine roundRatio_congr (by omega) (by omega) ?_
      rw [show (q - r - 0) = q - r by omega, show (0 - (q - r)) = r - q by omega]
      have e3 : c * j.natAbs * 2 ^ (q.toNat + (-r).toNat) = i.natAbs * d * 2 ^ (r.toNat + (-q).toNat) := by
        rw [Nat.pow_add, Nat.pow_add]
        calc c * j.natAbs * (2 ^ q.toNat * 2 ^ (-r).toNat) = (c * 2 ^ q.toNat) * (j.natAbs * 2 ^ (-r).toNat) := by ac_rfl
          _ = (i.natAbs * 2 ^ (-q).toNat) * (d * 2 ^ r.toNat) := by rw [h1, h2]
          _ = _ := by ac_rfl
      have f1 : q.toNat + (-r).toNat = (q - r + ((-q).toNat + r.toNat : Nat)).toNat := by omega
      have f2 : r.toNat + (-q).toNat = (0 + ((-q).toNat + r.toNat : Nat) : Int).toNat := by omega
      rw [f1, f2] at e3
      have := own_cross_eq (q := q - r) (r := 0) (M := (-q).toNat + r.toNat) (by omega) (by omega) e3
      rw [show (q - r - 0) = q - r by omega, show (0 - (q - r)) = r - q by omega] at this
      exact this
end OwnQuot

section OwnP2
open Jvm.FP.Core
def lvW (x1 x2 x3 : UInt64) : UInt64 := FP.ddiv (FP.dsub (FP.dadd x1 x3) x2) (FP.dadd x1 x3)
def BB (lr lq ls lc : Int64) : Prop := (0 ≤ lr.toInt ∧ lr.toInt < 1073741824) ∧ (0 ≤ lq.toInt ∧ lq.toInt < 1073741824) ∧ ls.toInt = lr.toInt + lq.toInt ∧ 0 < ls.toInt ∧ 0 ≤ lc.toInt ∧ lc.toInt < ls.toInt
def SC (sc : UInt64) : Prop := Jvm.Free.Fl.Fin64 sc ∧ ∃ k : Nat, k ≤ 62 ∧ DInt ((2 ^ k : Nat) : Int) sc
theorem own_nabs {v : UInt64} (hf : Jvm.Free.Fl.Fin64 v) : ¬ FP.dcmp (v &&& 0x7fffffffffffffff) (9218868437227405311 : UInt64) = some .gt := fun h => by
  rcases (Jvm.FP.Core.le_max (own_Ffin hf).notNaN).mpr (own_Ffin hf) with q | q <;> exact absurd (h.symm.trans q) (by decide)
theorem own_bounds {p0 p1 p2 : Int32} {lr lq ls lc : Int64} (h1 : lr = (p0.toInt64 &&& (1073741823 : Int64))) (h2 : lq = (p1.toInt64 &&& (1073741823 : Int64))) (h3 : ls = lr + lq) (h4 : ¬ ls = (0 : Int64)) (h5 : lc = ((p2.toInt64 &&& (2147483647 : Int64)) - ((p2.toInt64 &&& (2147483647 : Int64)) / ls) * ls)) : BB lr lq ls lc := by
  have a1 : lr.toInt = p0.toInt64.toInt % (2 ^ 30 : Nat) := by rw [h1]; exact c_maskL p0.toInt64 1073741823 30 (by decide) (by decide)
  have a2 : lq.toInt = p1.toInt64.toInt % (2 ^ 30 : Nat) := by rw [h2]; exact c_maskL p1.toInt64 1073741823 30 (by decide) (by decide)
  have a3 := c_maskL p2.toInt64 2147483647 31 (by decide) (by decide)
  generalize (p2.toInt64 &&& (2147483647 : Int64)) = x at h5 a3
  have hs : ls.toInt = lr.toInt + lq.toInt := by rw [h3]; exact int64_add (by omega) (by omega)
  have hz : ls.toInt ≠ 0 := fun z => h4 (Int64.toInt_inj.mp z)
  have b1 : 0 ≤ x.toInt := by omega
  have b2 : x.toInt < 2 ^ 31 := by omega
  have b3 : 0 < ls.toInt := by omega
  have hd : (x / ls).toInt = x.toInt / ls.toInt := by
    rw [Int64.toInt_div, Int.tdiv_eq_ediv_of_nonneg b1]
    have c1 : 0 ≤ x.toInt / ls.toInt := Int.ediv_nonneg b1 (Int.le_of_lt b3)
    have c2 : x.toInt / ls.toInt ≤ x.toInt := Int.ediv_le_self _ b1
    exact Int.bmod_eq_of_le (by omega) (by omega)
  have e1 := Int.mul_ediv_add_emod x.toInt ls.toInt
  have e2 := Int.emod_nonneg x.toInt (by omega : ls.toInt ≠ 0)
  have e3 := Int.emod_lt_of_pos x.toInt b3
  have e4 : x.toInt / ls.toInt * ls.toInt = ls.toInt * (x.toInt / ls.toInt) := Int.mul_comm _ _
  have hm : (x / ls * ls).toInt = x.toInt / ls.toInt * ls.toInt := by
    rw [int64_mul (by rw [hd]; omega) (by rw [hd]; omega), hd]
  have hl : lc.toInt = x.toInt % ls.toInt := by
    rw [h5, int64_sub (by rw [hm]; omega) (by rw [hm]; omega), hm]; omega
  refine ⟨⟨by omega, by omega⟩, ⟨by omega, by omega⟩, hs, b3, by omega, by omega⟩
theorem own_wr {i : Int} {k : Nat} (hi : i.natAbs < 2 ^ 53) (hk : k ≤ 62) {d : Datum} (h : Whole (i * ((2 ^ k : Nat) : Int)) d) : Whole (i * ((2 ^ k : Nat) : Int)) (round b64 d) := by
  by_cases h0 : i = 0
  · subst h0; exact whole_round good_b64 wide_b64 (by simp) h
  cases d with
  | nan => exact h.elim
  | inf => exact h.elim
  | fin s c q =>
    have na : (i * ((2 ^ k : Nat) : Int)).natAbs = i.natAbs * 2 ^ k := by rw [Int.natAbs_mul, Int.natAbs_natCast]
    have hn0 : i.natAbs ≠ 0 := by omega
    have hi0 : i * ((2 ^ k : Nat) : Int) ≠ 0 := fun z => by
      have := congrArg Int.natAbs z
      rw [na] at this
      exact absurd this (Nat.mul_ne_zero hn0 (Nat.pos_iff_ne_zero.mp (Nat.two_pow_pos k)))
    rw [round_whole h, na]
    have hsg := whole_sign h hi0
    have key : ∃ (c' : Nat) (q' : Int), Jvm.FP.Core.fits b64 (.fin s c' q') ∧ (i.natAbs * 2 ^ k) * 2 ^ (0 - q').toNat = c' * 1 * 2 ^ (q' - 0).toNat := by
      generalize i.natAbs = n at hi hn0
      have l1 : 2 ^ n.log2 ≤ n := Nat.log2_self_le hn0
      have l2 : n < 2 ^ (n.log2 + 1) := Nat.lt_log2_self
      have l3 : n.log2 < 53 := (Nat.pow_lt_pow_iff_right (by decide : 1 < 2)).mp (Nat.lt_of_le_of_lt l1 (by omega))
      generalize n.log2 = L at l1 l2 l3
      refine ⟨n * 2 ^ (52 - L), (L : Int) - 52 + k, ⟨?_, by rw [qmin_b64]; omega, by rw [show b64.qmax = 971 by decide]; omega, .inr ?_⟩, ?_⟩
      · calc n * 2 ^ (52 - L) < 2 ^ (L + 1) * 2 ^ (52 - L) := Nat.mul_lt_mul_of_pos_right l2 (Nat.two_pow_pos _)
          _ = 2 ^ 53 := by rw [← Nat.pow_add]; congr 1; omega
      · calc b64.tails = 2 ^ L * 2 ^ (52 - L) := by rw [← Nat.pow_add]; unfold Fmt.tails; congr 1; show 53 - 1 = _; omega
          _ ≤ n * 2 ^ (52 - L) := Nat.mul_le_mul_right _ l1
      · rw [Nat.mul_one, Nat.mul_assoc, Nat.mul_assoc, ← Nat.pow_add, ← Nat.pow_add]; congr 2; omega
    obtain ⟨c', q', hfit, hv⟩ := key
    rw [roundRatio_exact good_b64 (by decide) hfit hv]
    show signed s (c' * 2 ^ q'.toNat) = i * ((2 ^ k : Nat) : Int) * _
    rw [show (0 - q').toNat = (-q').toNat by omega, show (q' - 0).toNat = q'.toNat by omega, Nat.mul_one] at hv
    rw [← hv, ← na, signed_mul]
    congr 1
    rw [hsg]
    unfold signed
    generalize i * ((2 ^ k : Nat) : Int) = j
    by_cases h : j < 0 <;> simp [h] <;> omega
theorem own_fD {i : Int} {a : UInt64} (h : DInt i a) : DFin a := by
  unfold DInt at h
  cases e : val64 a with
  | nan => rw [e] at h; exact h.elim
  | inf s => rw [e] at h; exact h.elim
  | fin s c q => exact ⟨s, c, q, e⟩
theorem own_nzD {i : Int} {a : UInt64} (h : DInt i a) (hi : i ≠ 0) : Jvm.Free.Fl.Nz64 a := Jvm.Free.Fl.nz64_core.mpr fun ⟨s, q, z⟩ => by
  unfold DInt at h; rw [z] at h; exact hi ((whole_zero h).mp rfl)
theorem own_d0 : DInt 0 (0 : UInt64) := by
  have h : DInt (0 : Int32).toInt (FP.i2d 0) := i2d_int 0
  rw [show FP.i2d 0 = 0 from by decide +kernel] at h; exact h
theorem own_dge {i : Int} {a : UInt64} (d : DInt i a) (h : 0 ≤ i) : FP.dcmp a 0 = some .gt ∨ FP.dcmp a 0 = some .eq := by
  have e : FP.dcmp a 0 = some (compare i 0) := dcmp_int d own_d0
  rw [e]
  rcases Int.lt_or_eq_of_le h with q | q
  · left; rw [(compare_gt_iff _ _).mpr q]
  · right; rw [(compare_eq_iff _ _).mpr q.symm]
theorem own_sct : ∀ n : Fin 64, ((1 : Int64) <<< (((Int32.ofNat n.val) % (63 : Int32)) &&& 0x3f).toInt64).toInt = ((2 ^ (n.val % 63) : Nat) : Int) := by decide +kernel
theorem own_sc {p3 : Int32} {sc : UInt64} (h : sc = FP.l2d ((1 : Int64) <<< (((p3 &&& (63 : Int32)) % (63 : Int32)) &&& 0x3f).toInt64)) : SC sc := by
  have hm := c_mask p3 63 6 (by decide) (by decide)
  generalize (p3 &&& (63 : Int32)) = y at h hm
  have hy : y = Int32.ofNat y.toInt.toNat := by
    apply Int32.toInt_inj.mp
    rw [Int32.toInt_ofNat_of_lt (by omega)]; omega
  have ht := own_sct ⟨y.toInt.toNat, by omega⟩
  have ht' : ((1 : Int64) <<< (((Int32.ofNat y.toInt.toNat) % (63 : Int32)) &&& 0x3f).toInt64).toInt = ((2 ^ (y.toInt.toNat % 63) : Nat) : Int) := ht
  rw [← hy] at ht'
  have hd : DInt ((2 ^ (y.toInt.toNat % 63) : Nat) : Int) sc := by
    rw [h]
    show Whole _ (val64 (Jvm.FP.Core.l2d _))
    rw [val64_l2d, ht']
    have := own_wr (i := 1) (k := y.toInt.toNat % 63) (by decide) (by omega) (d := ofInt ((2 ^ (y.toInt.toNat % 63) : Nat) : Int)) (by rw [Int.one_mul]; exact whole_ofInt _)
    rw [Int.one_mul] at this; exact this
  exact ⟨own_finF (own_fD hd), _, by omega, hd⟩
abbrev CP (x1 x2 x3 : UInt64) : Prop := Jvm.Free.Fl.Fin64 x1 ∧ (FP.dcmp x1 (0 : UInt64) = some .gt ∨ FP.dcmp x1 (0 : UInt64) = some .eq) ∧ Jvm.Free.Fl.Fin64 x2 ∧ (FP.dcmp x2 (0 : UInt64) = some .gt ∨ FP.dcmp x2 (0 : UInt64) = some .eq) ∧ Jvm.Free.Fl.Fin64 x3 ∧ (FP.dcmp x3 (0 : UInt64) = some .gt ∨ FP.dcmp x3 (0 : UInt64) = some .eq) ∧ Jvm.Free.Fl.Fin64 (FP.dadd x1 x3) ∧ FP.dcmp (FP.dadd x1 x3) x2 = some .gt
abbrev GP (x1 x2 x3 : UInt64) : Prop := Jvm.Free.Fl.Fin64 (FP.dadd x1 x3) ∧ Jvm.Free.Fl.NoNaN64 (FP.dsub (FP.dadd x1 x3) x2) ∧ Jvm.Free.Fl.Nz64 (FP.dadd x1 x3)
/-- three prices that are whole numbers times 2^k -/
abbrev Tri (k : Nat) (i1 i2 i3 : Int) (x1 x2 x3 : UInt64) : Prop := k ≤ 62 ∧ DInt (i1 * ((2 ^ k : Nat) : Int)) x1 ∧ DInt (i2 * ((2 ^ k : Nat) : Int)) x2 ∧ DInt (i3 * ((2 ^ k : Nat) : Int)) x3 ∧ 0 ≤ i1 ∧ 0 ≤ i2 ∧ 0 ≤ i3 ∧ i1 + i3 < 2 ^ 53 ∧ i2 < i1 + i3
section
variable {k : Nat} {i1 i2 i3 : Int} {x1 x2 x3 : UInt64}
theorem Tri.k62 (t : Tri k i1 i2 i3 x1 x2 x3) : k ≤ 62 := t.1
theorem Tri.d1 (t : Tri k i1 i2 i3 x1 x2 x3) : DInt (i1 * ((2 ^ k : Nat) : Int)) x1 := t.2.1
theorem Tri.d2 (t : Tri k i1 i2 i3 x1 x2 x3) : DInt (i2 * ((2 ^ k : Nat) : Int)) x2 := t.2.2.1
theorem Tri.d3 (t : Tri k i1 i2 i3 x1 x2 x3) : DInt (i3 * ((2 ^ k : Nat) : Int)) x3 := t.2.2.2.1
theorem Tri.n1 (t : Tri k i1 i2 i3 x1 x2 x3) : 0 ≤ i1 := t.2.2.2.2.1
theorem Tri.n2 (t : Tri k i1 i2 i3 x1 x2 x3) : 0 ≤ i2 := t.2.2.2.2.2.1
theorem Tri.n3 (t : Tri k i1 i2 i3 x1 x2 x3) : 0 ≤ i3 := t.2.2.2.2.2.2.1
theorem Tri.up (t : Tri k i1 i2 i3 x1 x2 x3) : i1 + i3 < 2 ^ 53 := t.2.2.2.2.2.2.2.1
theorem Tri.gt (t : Tri k i1 i2 i3 x1 x2 x3) : i2 < i1 + i3 := t.2.2.2.2.2.2.2.2
theorem Tri.sum (t : Tri k i1 i2 i3 x1 x2 x3) : DInt ((i1 + i3) * ((2 ^ k : Nat) : Int)) (FP.dadd x1 x3) := by
  have := t.n1; have := t.n3; have := t.up
  show Whole _ (val64 (Jvm.FP.Core.dadd x1 x3))
  rw [val64_dadd]
  exact own_wr (by omega) t.k62 (by rw [Int.add_mul]; exact whole_sum t.d1 t.d3)
theorem Tri.dif (t : Tri k i1 i2 i3 x1 x2 x3) : DInt ((i1 + i3 - i2) * ((2 ^ k : Nat) : Int)) (FP.dsub (FP.dadd x1 x3) x2) := by
  have := t.n1; have := t.n2; have := t.n3; have := t.up; have := t.gt
  show Whole _ (val64 (Jvm.FP.Core.dsub _ x2))
  rw [val64_dsub]
  exact own_wr (by omega) t.k62 (by rw [Int.sub_mul]; exact whole_sum t.sum (whole_negate t.d2))
theorem own_K (k : Nat) : (0 : Int) < ((2 ^ k : Nat) : Int) := Int.natCast_pos.mpr (Nat.two_pow_pos k)
theorem Tri.cp (t : Tri k i1 i2 i3 x1 x2 x3) : CP x1 x2 x3 := by
  have K := own_K k
  refine ⟨own_finF (own_fD t.d1), own_dge t.d1 (Int.mul_nonneg t.n1 (Int.le_of_lt K)), own_finF (own_fD t.d2), own_dge t.d2 (Int.mul_nonneg t.n2 (Int.le_of_lt K)), own_finF (own_fD t.d3), own_dge t.d3 (Int.mul_nonneg t.n3 (Int.le_of_lt K)), own_finF (own_fD t.sum), ?_⟩
  have e : FP.dcmp (FP.dadd x1 x3) x2 = _ := dcmp_int t.sum t.d2
  rw [e, (compare_gt_iff _ _).mpr (Int.mul_lt_mul_of_pos_right t.gt K)]
theorem Tri.gp (t : Tri k i1 i2 i3 x1 x2 x3) : GP x1 x2 x3 := by
  have := t.n2; have := t.gt
  exact ⟨own_finF (own_fD t.sum), own_nnF (own_fD t.dif), own_nzD t.sum (Int.ne_of_gt (Int.mul_pos (by omega) (own_K k)))⟩
theorem Tri.val (t : Tri k i1 i2 i3 x1 x2 x3) : val64 (lvW x1 x2 x3) = roundRatio b64 false (i1 + i3 - i2).natAbs (i1 + i3).natAbs 0 := by
  have := t.n2; have := t.gt
  have K := own_K k
  have p1 := Int.mul_pos (show 0 < i1 + i3 - i2 by omega) K
  have p2 := Int.mul_pos (show 0 < i1 + i3 by omega) K
  have := own_quot_int t.dif t.sum (Int.ne_of_gt p1) (Int.ne_of_gt p2)
  rw [show (decide ((i1 + i3 - i2) * ((2 ^ k : Nat) : Int) < 0) != decide ((i1 + i3) * ((2 ^ k : Nat) : Int) < 0)) = false by
    rw [decide_eq_false (by omega), decide_eq_false (by omega)]; rfl] at this
  unfold lvW
  rw [this]
  refine roundRatio_congr (by omega) (by omega) ?_
  rw [Int.natAbs_mul, Int.natAbs_mul, Int.natAbs_natCast]
  simp only [Int.sub_self, Int.toNat_zero, Nat.pow_zero, Nat.mul_one]
  ac_rfl
end
variable {lr lq ls lc : Int64} {sc : UInt64}
theorem own_l {x : Int64} (h0 : 0 ≤ x.toInt) (h : x.toInt < 2 ^ 31) : DInt x.toInt (FP.l2d x) := l2d_int (by omega)
theorem own_t1 (h : BB lr lq ls lc) : Tri 0 lr.toInt lc.toInt lq.toInt (FP.l2d lr) (FP.l2d lc) (FP.l2d lq) := by
  obtain ⟨⟨a1, a2⟩, ⟨b1, b2⟩, e, c1, d1, d2⟩ := h
  refine ⟨by decide, ?_, ?_, ?_, a1, d1, b1, by omega, by omega⟩ <;> rw [show ((2 ^ 0 : Nat) : Int) = 1 from rfl, Int.mul_one] <;> exact own_l (by omega) (by omega)
theorem own_mk {x : Int64} {k : Nat} (h0 : 0 ≤ x.toInt) (h : x.toInt < 2 ^ 31) (hk : k ≤ 62) (hs : DInt ((2 ^ k : Nat) : Int) sc) : DInt (x.toInt * ((2 ^ k : Nat) : Int)) (FP.dmul (FP.l2d x) sc) := by
  show Whole _ (val64 (Jvm.FP.Core.dmul _ sc))
  rw [val64_dmul]
  exact own_wr (by omega) hk (whole_product (own_l h0 h) hs)
theorem own_t2 (h : BB lr lq ls lc) (hs : SC sc) : ∃ k, Tri k lq.toInt lc.toInt lr.toInt (FP.dmul (FP.l2d lq) sc) (FP.dmul (FP.l2d lc) sc) (FP.dmul (FP.l2d lr) sc) := by
  obtain ⟨⟨a1, a2⟩, ⟨b1, b2⟩, e, c1, d1, d2⟩ := h
  obtain ⟨-, k, hk, hs⟩ := hs
  exact ⟨k, hk, own_mk b1 (by omega) hk hs, own_mk d1 (by omega) hk hs, own_mk a1 (by omega) hk hs, b1, d1, a1, by omega, by omega⟩
theorem own_cp1 (h : BB lr lq ls lc) : CP (FP.l2d lr) (FP.l2d lc) (FP.l2d lq) := (own_t1 h).cp
theorem own_cp2 (h : BB lr lq ls lc) (hs : SC sc) : CP (FP.dmul (FP.l2d lq) sc) (FP.dmul (FP.l2d lc) sc) (FP.dmul (FP.l2d lr) sc) := (own_t2 h hs).elim fun _ t => t.cp
theorem own_gp1 (h : BB lr lq ls lc) : GP (FP.l2d lr) (FP.l2d lc) (FP.l2d lq) := (own_t1 h).gp
theorem own_gp2 (h : BB lr lq ls lc) (hs : SC sc) : GP (FP.dmul (FP.l2d lq) sc) (FP.dmul (FP.l2d lc) sc) (FP.dmul (FP.l2d lr) sc) := (own_t2 h hs).elim fun _ t => t.gp
theorem own_ex (h : BB lr lq ls lc) : val64 (FP.ddiv (FP.l2d (ls - lc)) (FP.l2d ls)) = roundRatio b64 false (ls.toInt - lc.toInt).natAbs ls.toInt.natAbs 0 := by
  obtain ⟨⟨a1, a2⟩, ⟨b1, b2⟩, e, c1, d1, d2⟩ := h
  have hd : (ls - lc).toInt = ls.toInt - lc.toInt := int64_sub (by omega) (by omega)
  have := own_quot_int (own_l (x := ls - lc) (by omega) (by omega)) (own_l (x := ls) (by omega) (by omega)) (by omega) (by omega)
  rw [this, hd]
  rw [decide_eq_false (by omega), decide_eq_false (by omega)]; rfl
theorem own_rrn (s : Bool) (A B : Nat) (e : Int) {a : UInt64} (h : val64 a = roundRatio b64 s A B e) : val64 a ≠ .nan := by rw [h]; exact roundRatio_ne_nan _ _ _ _ _
theorem own_veq {a b : UInt64} {s : Bool} {A B : Nat} {e : Int} (ha : val64 a = roundRatio b64 s A B e) (hb : val64 b = roundRatio b64 s A B e) : FP.dcmp a b = some .eq :=
  dcmp_eq.mpr ⟨own_rrn _ _ _ _ ha, own_rrn _ _ _ _ hb, by rw [ha, hb]⟩
theorem own_a1 (h : BB lr lq ls lc) : FP.dcmp (lvW (FP.l2d lr) (FP.l2d lc) (FP.l2d lq)) (FP.ddiv (FP.l2d (ls - lc)) (FP.l2d ls)) = some .eq := by
  have t := (own_t1 h).val
  have e := own_ex h
  rw [h.2.2.1] at e
  exact own_veq t e
theorem own_a2 (h : BB lr lq ls lc) (hs : SC sc) : FP.dcmp (lvW (FP.dmul (FP.l2d lq) sc) (FP.dmul (FP.l2d lc) sc) (FP.dmul (FP.l2d lr) sc)) (FP.ddiv (FP.l2d (ls - lc)) (FP.l2d ls)) = some .eq := by
  obtain ⟨k, t⟩ := own_t2 h hs
  have t := t.val
  have e := own_ex h
  rw [h.2.2.1, Int.add_comm lr.toInt] at e
  exact own_veq t e
theorem own_zmag_fin (s : Bool) (c : Nat) (q : Int) : zmag b64 (.fin s c q) = c * 2 ^ (q + 1074).toNat := by
  show c * 2 ^ (q - b64.qmin).toNat = _
  rw [qmin_b64]; congr 2
theorem own_valOne : val64 (4607182418800017408 : UInt64) = .fin false (2 ^ 52) (-52) := by decide +kernel
theorem own_fit (q : Int) (h1 : -1074 ≤ q) (h2 : q ≤ 971) (c : Nat) (h3 : 2 ^ 52 ≤ c) (h4 : c < 2 ^ 53) : Jvm.FP.Core.fits b64 (.fin false c q) := ⟨h4, by rw [qmin_b64]; omega, by rw [show b64.qmax = 971 by decide]; omega, Or.inr h3⟩
theorem own_zrr (A B : Nat) (e : Int) : zval b64 (roundRatio b64 false A B e) = (zmag b64 (roundRatio b64 false A B e) : Int) := by
  unfold zval; rw [sgn_roundRatio]; rfl
theorem own_u0 (A : Nat) : inUnits A 0 b64.qmin = A * 2 ^ 1074 := by
  unfold inUnits; rw [qmin_b64, show ((0 : Int) - -1074).toNat = 1074 by decide]
/-- the quotient of A and B, A ≤ B < 2^52 -/
theorem own_rr {A B : Nat} (hA : 0 < A) (hB : B < 2 ^ 52) (h : A ≤ B) : 0 < zmag b64 (roundRatio b64 false A B 0) ∧ zmag b64 (roundRatio b64 false A B 0) ≤ 2 ^ 1074 ∧ (zmag b64 (roundRatio b64 false A B 0) = 2 ^ 1074 ↔ A = B) := by
  have z1 : zmag b64 (.fin false (2 ^ 52) (-52)) = 2 ^ 1074 := by rw [own_zmag_fin, show ((-52 : Int) + 1074).toNat = 1022 by decide, own_pow]
  have z2 : zmag b64 (.fin false (2 ^ 53 - 2) (-53)) = (2 ^ 53 - 2) * 2 ^ 1021 := by rw [own_zmag_fin, show ((-53 : Int) + 1074).toNat = 1021 by decide]
  have z3 : zmag b64 (.fin false (2 ^ 52) (-104)) = 2 ^ 1022 := by rw [own_zmag_fin, show ((-104 : Int) + 1074).toNat = 970 by decide, own_pow]
  have P : (2 : Nat) ^ 1074 = 2 ^ 53 * 2 ^ 1021 := by rw [own_pow]
  have X : 0 < (2 : Nat) ^ 1021 := Nat.two_pow_pos _
  have g1 := zmag_roundRatio_le good_b64 (s := false) (A := A) (B := B) (e := 0) (e0 := b64.qmin) (by omega) (own_fit (-52) (by decide) (by decide) (2 ^ 52) (by decide) (by decide)) (by simp) (Int.le_refl _) (by decide) (by
    rw [own_u0, z1, Int.sub_self, Int.toNat_zero, Nat.pow_zero, Nat.mul_one, Nat.mul_comm]; exact Nat.mul_le_mul_left _ h)
  have g2 := zmag_roundRatio_ge good_b64 (s := false) (A := A) (B := B) (e := 0) (e0 := b64.qmin) (by omega) (own_fit (-104) (by decide) (by decide) (2 ^ 52) (by decide) (by decide)) (Int.le_refl _) (by decide) (by
    rw [own_u0, z3, Int.sub_self, Int.toNat_zero, Nat.pow_zero, Nat.mul_one, show (2 : Nat) ^ 1074 = 2 ^ 52 * 2 ^ 1022 by rw [own_pow], ← Nat.mul_assoc, Nat.mul_comm (2 ^ 1022)]
    exact Nat.mul_le_mul_right _ (by omega))
  rw [z1] at g1; rw [z3] at g2
  refine ⟨Nat.lt_of_lt_of_le (Nat.two_pow_pos 1022) g2, g1, fun e => ?_, fun e => ?_⟩
  · refine Nat.le_antisymm h (Nat.not_lt.mp fun lt => ?_)
    have g3 := zmag_roundRatio_le good_b64 (s := false) (A := A) (B := B) (e := 0) (e0 := b64.qmin) (by omega) (own_fit (-53) (by decide) (by decide) (2 ^ 53 - 2) (by decide) (by decide)) (by simp) (Int.le_refl _) (by decide) (by
      rw [own_u0, z2, Int.sub_self, Int.toNat_zero, Nat.pow_zero, Nat.mul_one, P]
      generalize (2 : Nat) ^ 1021 = Y
      calc A * (2 ^ 53 * Y) = A * 2 ^ 53 * Y := (Nat.mul_assoc ..).symm
        _ ≤ (2 ^ 53 - 2) * B * Y := Nat.mul_le_mul_right _ (by omega)
        _ = (2 ^ 53 - 2) * Y * B := by ac_rfl)
    rw [e, z2, P] at g3
    generalize (2 : Nat) ^ 1021 = Y at *; omega
  · subst e
    have := roundRatio_exact good_b64 (s := false) (A := A) (B := A) (c := 2 ^ 52) (e := 0) (q := -52) hA (own_fit (-52) (by decide) (by decide) (2 ^ 52) (by decide) (by decide)) (by
      rw [show ((0 : Int) - -52).toNat = 52 by decide, show ((-52 : Int) - 0).toNat = 0 by decide, Nat.pow_zero, Nat.mul_one, Nat.mul_comm])
    rw [this, z1]
theorem own_one (h : BB lr lq ls lc) : ∃ A B : Nat, val64 (lvW (FP.l2d lr) (FP.l2d lc) (FP.l2d lq)) = roundRatio b64 false A B 0 ∧ 0 < A ∧ B < 2 ^ 52 ∧ A ≤ B ∧ (A = B ↔ lc = (0 : Int64)) := by
  have t := (own_t1 h).val
  obtain ⟨⟨a1, a2⟩, ⟨b1, b2⟩, e, c1, d1, d2⟩ := h
  refine ⟨_, _, t, by omega, by omega, by omega, fun e => Int64.toInt_inj.mp (show lc.toInt = 0 by omega), fun e => ?_⟩
  have : lc.toInt = 0 := by rw [e]; rfl
  omega
theorem own_z1 : zval b64 (.fin false (2 ^ 52) (-52)) = ((2 ^ 1074 : Nat) : Int) := by
  show (zmag b64 (.fin false (2 ^ 52) (-52)) : Int) = _
  rw [own_zmag_fin, show ((-52 : Int) + 1074).toNat = 1022 by decide, own_pow]
theorem own_a3 (h : BB lr lq ls lc) : FP.dcmp (lvW (FP.l2d lr) (FP.l2d lc) (FP.l2d lq)) (0 : UInt64) = some .gt := by
  obtain ⟨A, B, v, p1, p2, p3, -⟩ := own_one h
  refine dcmp_gt.mpr ⟨own_rrn _ _ _ _ v, by decide +kernel, ?_⟩
  rw [zval64_zero, v, own_zrr]
  exact Int.natCast_pos.mpr (own_rr p1 p2 p3).1
theorem own_a4 (h : BB lr lq ls lc) : FP.dcmp (lvW (FP.l2d lr) (FP.l2d lc) (FP.l2d lq)) (4607182418800017408 : UInt64) = some .lt ∨ FP.dcmp (lvW (FP.l2d lr) (FP.l2d lc) (FP.l2d lq)) (4607182418800017408 : UInt64) = some .eq := by
  obtain ⟨A, B, v, p1, p2, p3, -⟩ := own_one h
  refine dcmp_le.mpr ⟨own_rrn _ _ _ _ v, by rw [own_valOne]; simp, ?_⟩
  rw [own_valOne, own_z1, v, own_zrr]
  exact Int.ofNat_le.mpr (own_rr p1 p2 p3).2.1
theorem own_a5 (h : BB lr lq ls lc) : FP.dcmp (lvW (FP.l2d lr) (FP.l2d lc) (FP.l2d lq)) (4607182418800017408 : UInt64) = some .eq ↔ lc = (0 : Int64) := by
  obtain ⟨A, B, v, p1, p2, p3, p4⟩ := own_one h
  refine Iff.trans ⟨fun q => ?_, fun q => ?_⟩ p4
  · have q := (dcmp_eq.mp q).2.2
    rw [own_valOne, own_z1, v, own_zrr] at q
    exact (own_rr p1 p2 p3).2.2.mp (Int.ofNat.inj q)
  · refine dcmp_eq.mpr ⟨own_rrn _ _ _ _ v, by rw [own_valOne]; simp, ?_⟩
    rw [own_valOne, own_z1, v, own_zrr, (own_rr p1 p2 p3).2.2.mpr q]
end OwnP2

theorem d2_0 : decode jdk_30_method_1_code 0 = .ok (.aload_n 0, 1) := by decide +kernel
theorem d2_1 : decode jdk_30_method_1_code 1 = .ok (.invokespecial 1, 3) := by decide +kernel
theorem d2_4 : decode jdk_30_method_1_code 4 = .ok (.return_, 1) := by decide +kernel
set_option maxRecDepth 65536 in
set_option maxHeartbeats 40000000 in
theorem w2 {p : Program} {l : Launch} {e : Env} {s : State} {m : MethodId} {args : Array Value} {below : List Frame} {meth : Method} {c_ : Code} {T0 : State} {locs : List Loc} {Z : State} {a0 : Array Value} {h0 : Heap} {n0 : Nat} (a : Addr)
    (X0 : Stand p l e ({ frames := 1, cells := 0, slots := 0, locals := 12 } : Room) s m args below meth c_ T0 locs 0 0) (hx : p.tables.exec = Jvm.exec) (hZ : Z.Warmed39 s.vm) (hw : ∀ d ∈ tables_1, d.before a0 Z = true) (hby : c_.code = jdk_30_method_1_code) (hml : c_.maxLocals = 1) (hown : s.vm.findClass "java/lang/Record" = some m.cls) (hnm : meth.name = "<init>") (hret : meth.sig.returnType = none) (hlk : meth.locks = false) (e0 : T0.heap = h0) (Z0 : n0 ≤ h0.size) (N0 : Fr n0 locs)  :
    Go p e below s ({ frames := 1, cells := 0, slots := 0, locals := 12 } : Room).cells ({ frames := 1, cells := 0, slots := 0, locals := 12 } : Room).slots (fun r h L => r = none ∧ Fr n0 L ∧ h = h0) T0 (mkF m 0 #[.val (.ref a)] []) := by
  show Go _ _ _ _ _ _ _ T0 (mkF m 0 #[.val (.ref a)] [])
  refine Go.step (fun _ k => XS.aloadN X0.here hx rfl (hb hby d2_0) rfl rfl k) ?_
  show Go _ _ _ _ _ _ _ T0 (mkF m 1 #[.val (.ref a)] [(.ref a)])
  obtain ⟨T1, X1, e1, st1⟩ := initO X0 hx hZ hown (hw _ (mI 13 rfl)) (hw _ (mI 14 rfl)) (hw _ (mI 15 rfl)) e0 (g := (mkF m 1 #[.val (.ref a)] [(.ref a)])) rfl (by rw [hml]; rfl) rfl (hb hby d2_1) (by decide) (W := 0) (by show 2 * 0 + _ ≤ _; exact Nat.le_of_eq rfl) (by decide)
  refine Go.step st1 ?_
  show Go _ _ _ _ _ _ _ T1 (mkF m 4 #[.val (.ref a)] [])
  refine Go.retV X1 hx hlk hret (hb hby d2_4) (by decide) (by decide) ?_
  try rw [e1]
  exact ⟨rfl, N0, rfl⟩
theorem pn_2 : plainName "java/lang/Record" = true := by first | (simp [plainName, overriddenIn]; done) | decide +kernel
theorem ef_rm2 (m : MethodId) (a : Addr) : entryFrame m #[(.ref a)] 1 = mkF m 0 #[.val (.ref a)] [] := by first | (simp [entryFrame, mkF, argsToLocals, Value.category]; done) | rfl
theorem rm2 (l : Launch) (Z : State) (a0 : Array Value) (hw : ∀ d ∈ tables_1, d.before a0 Z = true) (a : Addr) (h0 : Heap) (n0 : Nat) (Z0 : n0 ≤ h0.size)  :
    Con l Z (⟨"java/lang/Record", "<init>", "()V"⟩ : MethodName) jdk_30_method_1_code 1 none ({ frames := 1, cells := 0, slots := 0, locals := 12 } : Room) #[(.ref a)] h0 (fun r h L => r = none ∧ Fr n0 L ∧ h = h0) :=
  con_of (plainFor_of_name pn_2) (fun p_ e_ s_ m_ b_ meth_ c_ T_ X_ hx hZ hby hml hown hnm hret hlk e0 => Go.cast (ef_rm2 m_ a) (w2 a X_ hx hZ hw hby hml hown hnm hret hlk e0 Z0 (Fr.nil n0) ))
theorem d5_0 : decode jdk_117_method_8_code 0 = .ok (.dload_n 0, 1) := by decide +kernel
theorem pd_0 : parseMethodDescriptor "(D)D" = some ⟨[.double], some .double⟩ := by decide +kernel
theorem d5_1 : decode jdk_117_method_8_code 1 = .ok (.invokestatic 38, 3) := by decide +kernel
theorem d5_4 : decode jdk_117_method_8_code 4 = .ok (.ldc2_w 111, 3) := by decide +kernel
theorem d5_7 : decode jdk_117_method_8_code 7 = .ok (.dcmp .g, 1) := by decide +kernel
theorem d5_8 : decode jdk_117_method_8_code 8 = .ok (.ifCond .gt 7, 3) := by decide +kernel
theorem d5_11 : decode jdk_117_method_8_code 11 = .ok (.iconst 1, 1) := by decide +kernel
theorem d5_12 : decode jdk_117_method_8_code 12 = .ok (.goto 4, 3) := by decide +kernel
theorem d5_16 : decode jdk_117_method_8_code 16 = .ok (.ireturn, 1) := by decide +kernel
set_option maxRecDepth 65536 in
set_option maxHeartbeats 40000000 in
theorem w5 {p : Program} {l : Launch} {e : Env} {s : State} {m : MethodId} {args : Array Value} {below : List Frame} {meth : Method} {c_ : Code} {T0 : State} {locs : List Loc} {Z : State} {a0 : Array Value} {h0 : Heap} {n0 : Nat} (v : UInt64)
    (X0 : Stand p l e ({ frames := 1, cells := 0, slots := 0, locals := 13 } : Room) s m args below meth c_ T0 locs 0 0) (hx : p.tables.exec = Jvm.exec) (hZ : Z.Warmed39 s.vm) (hw : ∀ d ∈ tables_1, d.before a0 Z = true) (hby : c_.code = jdk_117_method_8_code) (hml : c_.maxLocals = 2) (hown : s.vm.findClass "java/lang/Double" = some m.cls) (hnm : meth.name = "isFinite") (hret : meth.sig.returnType = some .boolean) (hlk : meth.locks = false) (e0 : T0.heap = h0) (Z0 : n0 ≤ h0.size) (N0 : Fr n0 locs) (hf : Jvm.Free.Fl.Fin64 v) :
    Go p e below s ({ frames := 1, cells := 0, slots := 0, locals := 13 } : Room).cells ({ frames := 1, cells := 0, slots := 0, locals := 13 } : Room).slots (fun r h L => r = some (.int 1) ∧ Fr n0 L ∧ h = h0) T0 (mkF m 0 #[.val (.double v), .second] []) := by
  show Go _ _ _ _ _ _ _ T0 (mkF m 0 #[.val (.double v), .second] [])
  refine Go.step (fun _ k => XS.dloadN X0.here hx rfl (hb hby d5_0) rfl k) ?_
  show Go _ _ _ _ _ _ _ T0 (mkF m 1 #[.val (.double v), .second] [(.double v)])
  obtain ⟨T1, X1, e1, st1⟩ := natS X0 hx hZ (y := (⟨"java/lang/Math", "abs", "(D)D"⟩ : MethodName)) hown (hw _ (mI 32 rfl)) (hw _ (mI 33 rfl)) (hw _ (mI 34 rfl)) (hw _ (mI 35 rfl)) (by decide) e0 (W := 0) (F := fun a' => a' = #[.double v] ∧ Jvm.Free.Fl.NoNaN64 v) (val' := (.double (v &&& 0x7fffffffffffffff))) (fun hc => Jvm.Free.Fl.Abs.absD_pays v hc (by decide) (by decide)) (g := (mkF m 1 #[.val (.double v), .second] [(.double v)])) rfl (by rw [hml]; rfl) (argsL := [(.double v)]) (rest := []) (lenOf pd_0 rfl) rfl (by show 2 * 0 + _ ≤ _; exact Nat.le_of_eq rfl) (hb hby d5_1) (by decide) (by decide) ⟨rfl, hf.noNaN⟩ rfl
  refine Go.step st1 ?_
  show Go _ _ _ _ _ _ _ T1 (mkF m 4 #[.val (.double v), .second] [(.double (v &&& 0x7fffffffffffffff))])
  refine Go.step (X1.ldc2DoubleC hx hown (mvT hZ (hw _ (mI 36 rfl))) (g := (mkF m 4 #[.val (.double v), .second] [(.double (v &&& 0x7fffffffffffffff))])) rfl (hb hby d5_4)) ?_
  show Go _ _ _ _ _ _ _ T1 (mkF m 7 #[.val (.double v), .second] [(.double (9218868437227405311 : UInt64)), (.double (v &&& 0x7fffffffffffffff))])
  refine Go.step (fun _ k => XS.dcmpS X1.here hx rfl (hb hby d5_7) rfl rfl k) ?_
  show Go _ _ _ _ _ _ _ T1 (mkF m 8 #[.val (.double v), .second] [(.int (cmpValue (FP.dcmp (v &&& 0x7fffffffffffffff) (9218868437227405311 : UInt64)) .g))])
  refine Go.step (fun _ k => XS.ifNo X1.here hx rfl (hb hby d5_8) rfl (le_y ((Jvm.FP.Core.le_max (own_Ffin hf).notNaN).mpr (own_Ffin hf))) k) ?_
  show Go _ _ _ _ _ _ _ T1 (mkF m 11 #[.val (.double v), .second] [])
  refine Go.step (fun _ k => XS.iconst X1.here hx rfl (hb hby d5_11) k) ?_
  show Go _ _ _ _ _ _ _ T1 (mkF m 12 #[.val (.double v), .second] [(.int (1 : Int32))])
  refine Go.step (fun _ k => XS.goto X1.here hx rfl (pc0 := 12) (pc' := 16) rfl (hb hby d5_12) (by decide) (by decide) k) ?_
  show Go _ _ _ _ _ _ _ T1 (mkF m 16 #[.val (.double v), .second] [(.int (1 : Int32))])
  refine Go.retZ X1 hx hlk hret (by decide) (hb hby d5_16) (by decide) (by decide) ?_
  try rw [e1]
  exact ⟨rfl, N0, rfl⟩
theorem pn_5 : plainName "java/lang/Double" = true := by first | (simp [plainName, overriddenIn]; done) | decide +kernel
theorem ef_rm5 (m : MethodId) (v : UInt64) : entryFrame m #[(.double v)] 2 = mkF m 0 #[.val (.double v), .second] [] := by first | (simp [entryFrame, mkF, argsToLocals, Value.category]; done) | rfl
theorem rm5 (l : Launch) (Z : State) (a0 : Array Value) (hw : ∀ d ∈ tables_1, d.before a0 Z = true) (v : UInt64) (h0 : Heap) (n0 : Nat) (Z0 : n0 ≤ h0.size) (hf : Jvm.Free.Fl.Fin64 v) :
    Con l Z (⟨"java/lang/Double", "isFinite", "(D)Z"⟩ : MethodName) jdk_117_method_8_code 2 (some .boolean) ({ frames := 1, cells := 0, slots := 0, locals := 13 } : Room) #[(.double v)] h0 (fun r h L => r = some (.int 1) ∧ Fr n0 L ∧ h = h0) :=
  con_of (plainFor_of_name pn_5) (fun p_ e_ s_ m_ b_ meth_ c_ T_ X_ hx hZ hby hml hown hnm hret hlk e0 => Go.cast (ef_rm5 m_ v) (w5 v X_ hx hZ hw hby hml hown hnm hret hlk e0 Z0 (Fr.nil n0) hf))
theorem d4_0 : decode prog_18_method_4_code 0 = .ok (.dload_n 1, 1) := by decide +kernel
theorem d4_1 : decode prog_18_method_4_code 1 = .ok (.invokestatic 28, 3) := by decide +kernel
theorem pd_1 : parseMethodDescriptor "(D)Z" = some ⟨[.double], some .boolean⟩ := by decide +kernel
theorem d4_4 : decode prog_18_method_4_code 4 = .ok (.ifCond .eq 9, 3) := by decide +kernel
theorem d4_7 : decode prog_18_method_4_code 7 = .ok (.dload_n 1, 1) := by decide +kernel
theorem d4_8 : decode prog_18_method_4_code 8 = .ok (.dconst 0, 1) := by decide +kernel
theorem d4_9 : decode prog_18_method_4_code 9 = .ok (.dcmp .l, 1) := by decide +kernel
theorem d4_10 : decode prog_18_method_4_code 10 = .ok (.ifCond .ge 34, 3) := by decide +kernel
theorem d4_44 : decode prog_18_method_4_code 44 = .ok (.return_, 1) := by decide +kernel
set_option maxRecDepth 65536 in
set_option maxHeartbeats 40000000 in
theorem w4 {p : Program} {l : Launch} {e : Env} {s : State} {m : MethodId} {args : Array Value} {below : List Frame} {meth : Method} {c_ : Code} {T0 : State} {locs : List Loc} {Z : State} {a0 : Array Value} {h0 : Heap} {n0 : Nat} (a : Addr) (v : UInt64)
    (X0 : Stand p l e ({ frames := 2, cells := 0, slots := 0, locals := 40 } : Room) s m args below meth c_ T0 locs 0 0) (hx : p.tables.exec = Jvm.exec) (hZ : Z.Warmed39 s.vm) (hw : ∀ d ∈ tables_1, d.before a0 Z = true) (hby : c_.code = prog_18_method_4_code) (hml : c_.maxLocals = 3) (hown : s.vm.findClass "com/example/headroom/headroom/PriceSheet" = some m.cls) (hnm : meth.name = "requirePrice") (hret : meth.sig.returnType = none) (hlk : meth.locks = false) (e0 : T0.heap = h0) (Z0 : n0 ≤ h0.size) (N0 : Fr n0 locs) (hf : Jvm.Free.Fl.Fin64 v) (hge : (FP.dcmp v (0 : UInt64) = some .gt ∨ FP.dcmp v (0 : UInt64) = some .eq)) :
    Go p e below s ({ frames := 2, cells := 0, slots := 0, locals := 40 } : Room).cells ({ frames := 2, cells := 0, slots := 0, locals := 40 } : Room).slots (fun r h L => r = none ∧ Fr n0 L ∧ h = h0) T0 (mkF m 0 #[.val (.ref a), .val (.double v), .second] []) := by
  show Go _ _ _ _ _ _ _ T0 (mkF m 0 #[.val (.ref a), .val (.double v), .second] [])
  refine Go.step (fun _ k => XS.dloadN X0.here hx rfl (hb hby d4_0) rfl k) ?_
  show Go _ _ _ _ _ _ _ T0 (mkF m 1 #[.val (.ref a), .val (.double v), .second] [(.double v)])
  refine Go.callS X0 hx hZ (by rw [hml]; rfl) (y := (⟨"java/lang/Double", "isFinite", "(D)Z"⟩ : MethodName)) (argsL := [(.double v)]) (rest := []) hown (hw _ (mI 28 rfl)) (hw _ (mI 29 rfl)) (hw _ (mI 30 rfl)) (hw _ (mI 31 rfl)) (by decide) (rm5 l Z a0 hw v h0 n0 Z0 hf) e0 (hb hby d4_1) (lenOf pd_1 rfl) rfl rfl (W := 0) (Nat.le_of_eq rfl) (by decide) (by decide) (by decide) (by decide) ?_
  intro v1 T1 L1 X1 Q1
  obtain ⟨rfl, N1q, hh1⟩ := Q1
  have N1 := Fr.app N0 N1q
  show Go _ _ _ _ _ _ _ T1 (mkF m 4 #[.val (.ref a), .val (.double v), .second] [(.int (1 : Int32))])
  refine Go.step (fun _ k => XS.ifNo X1.here hx rfl (hb hby d4_4) rfl ((if0 _ _).trans (feq (by decide : ¬ ((1 : Int32) = (0 : Int32)))).1) k) ?_
  show Go _ _ _ _ _ _ _ T1 (mkF m 7 #[.val (.ref a), .val (.double v), .second] [])
  refine Go.step (fun _ k => XS.dloadN X1.here hx rfl (hb hby d4_7) rfl k) ?_
  show Go _ _ _ _ _ _ _ T1 (mkF m 8 #[.val (.ref a), .val (.double v), .second] [(.double v)])
  refine Go.step (fun _ k => XS.dconst0 X1.here hx rfl (hb hby d4_8) rfl k) ?_
  show Go _ _ _ _ _ _ _ T1 (mkF m 9 #[.val (.ref a), .val (.double v), .second] [(.double (0 : UInt64)), (.double v)])
  refine Go.step (fun _ k => XS.dcmpS X1.here hx rfl (hb hby d4_9) rfl rfl k) ?_
  show Go _ _ _ _ _ _ _ T1 (mkF m 10 #[.val (.ref a), .val (.double v), .second] [(.int (cmpValue (FP.dcmp v (0 : UInt64)) .l))])
  refine Go.step (fun _ k => XS.ifYes X1.here hx rfl (pc0 := 10) (pc' := 44) rfl (hb hby d4_10) rfl (geT_y hge) (by decide) (by decide) k) ?_
  show Go _ _ _ _ _ _ _ T1 (mkF m 44 #[.val (.ref a), .val (.double v), .second] [])
  refine Go.retV X1 hx hlk hret (hb hby d4_44) (by decide) (by decide) ?_
  try rw [hh1]
  exact ⟨rfl, N1, rfl⟩
theorem pn_4 : plainName "com/example/headroom/headroom/PriceSheet" = true := by first | (simp [plainName, overriddenIn]; done) | decide +kernel
theorem ef_rm4 (m : MethodId) (a : Addr) (v : UInt64) : entryFrame m #[(.ref a), (.double v)] 3 = mkF m 0 #[.val (.ref a), .val (.double v), .second] [] := by first | (simp [entryFrame, mkF, argsToLocals, Value.category]; done) | rfl
theorem rm4 (l : Launch) (Z : State) (a0 : Array Value) (hw : ∀ d ∈ tables_1, d.before a0 Z = true) (a : Addr) (v : UInt64) (h0 : Heap) (n0 : Nat) (Z0 : n0 ≤ h0.size) (hf : Jvm.Free.Fl.Fin64 v) (hge : (FP.dcmp v (0 : UInt64) = some .gt ∨ FP.dcmp v (0 : UInt64) = some .eq)) :
    Con l Z (⟨"com/example/headroom/headroom/PriceSheet", "requirePrice", "(Ljava/lang/String;D)V"⟩ : MethodName) prog_18_method_4_code 3 none ({ frames := 2, cells := 0, slots := 0, locals := 40 } : Room) #[(.ref a), (.double v)] h0 (fun r h L => r = none ∧ Fr n0 L ∧ h = h0) :=
  con_of (plainFor_of_name pn_4) (fun p_ e_ s_ m_ b_ meth_ c_ T_ X_ hx hZ hby hml hown hnm hret hlk e0 => Go.cast (ef_rm4 m_ a v) (w4 a v X_ hx hZ hw hby hml hown hnm hret hlk e0 Z0 (Fr.nil n0) hf hge))
theorem d7_0 : decode jdk_117_method_7_code 0 = .ok (.dload_n 0, 1) := by decide +kernel
theorem d7_1 : decode jdk_117_method_7_code 1 = .ok (.invokestatic 38, 3) := by decide +kernel
theorem d7_4 : decode jdk_117_method_7_code 4 = .ok (.ldc2_w 111, 3) := by decide +kernel
theorem d7_7 : decode jdk_117_method_7_code 7 = .ok (.dcmp .l, 1) := by decide +kernel
theorem d7_8 : decode jdk_117_method_7_code 8 = .ok (.ifCond .le 7, 3) := by decide +kernel
theorem d7_15 : decode jdk_117_method_7_code 15 = .ok (.iconst 0, 1) := by decide +kernel
theorem d7_16 : decode jdk_117_method_7_code 16 = .ok (.ireturn, 1) := by decide +kernel
set_option maxRecDepth 65536 in
set_option maxHeartbeats 40000000 in
theorem w7 {p : Program} {l : Launch} {e : Env} {s : State} {m : MethodId} {args : Array Value} {below : List Frame} {meth : Method} {c_ : Code} {T0 : State} {locs : List Loc} {Z : State} {a0 : Array Value} {h0 : Heap} {n0 : Nat} (v : UInt64)
    (X0 : Stand p l e ({ frames := 1, cells := 0, slots := 0, locals := 13 } : Room) s m args below meth c_ T0 locs 0 0) (hx : p.tables.exec = Jvm.exec) (hZ : Z.Warmed39 s.vm) (hw : ∀ d ∈ tables_1, d.before a0 Z = true) (hby : c_.code = jdk_117_method_7_code) (hml : c_.maxLocals = 2) (hown : s.vm.findClass "java/lang/Double" = some m.cls) (hnm : meth.name = "isInfinite") (hret : meth.sig.returnType = some .boolean) (hlk : meth.locks = false) (e0 : T0.heap = h0) (Z0 : n0 ≤ h0.size) (N0 : Fr n0 locs) (hf : Jvm.Free.Fl.Fin64 v) :
    Go p e below s ({ frames := 1, cells := 0, slots := 0, locals := 13 } : Room).cells ({ frames := 1, cells := 0, slots := 0, locals := 13 } : Room).slots (fun r h L => r = some (.int (0 : Int32)) ∧ Fr n0 L ∧ h = h0) T0 (mkF m 0 #[.val (.double v), .second] []) := by
  show Go _ _ _ _ _ _ _ T0 (mkF m 0 #[.val (.double v), .second] [])
  refine Go.step (fun _ k => XS.dloadN X0.here hx rfl (hb hby d7_0) rfl k) ?_
  show Go _ _ _ _ _ _ _ T0 (mkF m 1 #[.val (.double v), .second] [(.double v)])
  obtain ⟨T1, X1, e1, st1⟩ := natS X0 hx hZ (y := (⟨"java/lang/Math", "abs", "(D)D"⟩ : MethodName)) hown (hw _ (mI 32 rfl)) (hw _ (mI 33 rfl)) (hw _ (mI 34 rfl)) (hw _ (mI 35 rfl)) (by decide) e0 (W := 0) (F := fun a' => a' = #[.double v] ∧ Jvm.Free.Fl.NoNaN64 v) (val' := (.double (v &&& 0x7fffffffffffffff))) (fun hc => Jvm.Free.Fl.Abs.absD_pays v hc (by decide) (by decide)) (g := (mkF m 1 #[.val (.double v), .second] [(.double v)])) rfl (by rw [hml]; rfl) (argsL := [(.double v)]) (rest := []) (lenOf pd_0 rfl) rfl (by show 2 * 0 + _ ≤ _; exact Nat.le_of_eq rfl) (hb hby d7_1) (by decide) (by decide) ⟨rfl, hf.noNaN⟩ rfl
  refine Go.step st1 ?_
  show Go _ _ _ _ _ _ _ T1 (mkF m 4 #[.val (.double v), .second] [(.double (v &&& 0x7fffffffffffffff))])
  refine Go.step (X1.ldc2DoubleC hx hown (mvT hZ (hw _ (mI 36 rfl))) (g := (mkF m 4 #[.val (.double v), .second] [(.double (v &&& 0x7fffffffffffffff))])) rfl (hb hby d7_4)) ?_
  show Go _ _ _ _ _ _ _ T1 (mkF m 7 #[.val (.double v), .second] [(.double (9218868437227405311 : UInt64)), (.double (v &&& 0x7fffffffffffffff))])
  refine Go.step (fun _ k => XS.dcmpS X1.here hx rfl (hb hby d7_7) rfl rfl k) ?_
  show Go _ _ _ _ _ _ _ T1 (mkF m 8 #[.val (.double v), .second] [(.int (cmpValue (FP.dcmp (v &&& 0x7fffffffffffffff) (9218868437227405311 : UInt64)) .l))])
  refine Go.step (fun _ k => XS.ifYes X1.here hx rfl (pc0 := 8) (pc' := 15) rfl (hb hby d7_8) rfl (gt_n (own_nabs hf)) (by decide) (by decide) k) ?_
  show Go _ _ _ _ _ _ _ T1 (mkF m 15 #[.val (.double v), .second] [])
  refine Go.step (fun _ k => XS.iconst X1.here hx rfl (hb hby d7_15) k) ?_
  show Go _ _ _ _ _ _ _ T1 (mkF m 16 #[.val (.double v), .second] [(.int (0 : Int32))])
  refine Go.retZ X1 hx hlk hret (by decide) (hb hby d7_16) (by decide) (by decide) ?_
  try rw [e1]
  exact ⟨rfl, N0, rfl⟩
theorem ef_rm7 (m : MethodId) (v : UInt64) : entryFrame m #[(.double v)] 2 = mkF m 0 #[.val (.double v), .second] [] := by first | (simp [entryFrame, mkF, argsToLocals, Value.category]; done) | rfl
theorem rm7 (l : Launch) (Z : State) (a0 : Array Value) (hw : ∀ d ∈ tables_1, d.before a0 Z = true) (v : UInt64) (h0 : Heap) (n0 : Nat) (Z0 : n0 ≤ h0.size) (hf : Jvm.Free.Fl.Fin64 v) :
    Con l Z (⟨"java/lang/Double", "isInfinite", "(D)Z"⟩ : MethodName) jdk_117_method_7_code 2 (some .boolean) ({ frames := 1, cells := 0, slots := 0, locals := 13 } : Room) #[(.double v)] h0 (fun r h L => r = some (.int (0 : Int32)) ∧ Fr n0 L ∧ h = h0) :=
  con_of (plainFor_of_name pn_5) (fun p_ e_ s_ m_ b_ meth_ c_ T_ X_ hx hZ hby hml hown hnm hret hlk e0 => Go.cast (ef_rm7 m_ v) (w7 v X_ hx hZ hw hby hml hown hnm hret hlk e0 Z0 (Fr.nil n0) hf))
theorem d1_0 : decode prog_30_method_1_code 0 = .ok (.aload_n 0, 1) := by decide +kernel
theorem d1_1 : decode prog_30_method_1_code 1 = .ok (.invokespecial 1, 3) := by decide +kernel
theorem pd_2 : parseMethodDescriptor "()V" = some ⟨[], none⟩ := by decide +kernel
theorem d1_4 : decode prog_30_method_1_code 4 = .ok (.ldc 7, 2) := by decide +kernel
theorem d1_6 : decode prog_30_method_1_code 6 = .ok (.dload_n 1, 1) := by decide +kernel
theorem d1_7 : decode prog_30_method_1_code 7 = .ok (.invokestatic 9, 3) := by decide +kernel
theorem pd_3 : parseMethodDescriptor "(Ljava/lang/String;D)V" = some ⟨[(.object "java/lang/String"), .double], none⟩ := by decide +kernel
theorem d1_10 : decode prog_30_method_1_code 10 = .ok (.ldc 15, 2) := by decide +kernel
theorem d1_12 : decode prog_30_method_1_code 12 = .ok (.dload_n 3, 1) := by decide +kernel
theorem d1_13 : decode prog_30_method_1_code 13 = .ok (.invokestatic 9, 3) := by decide +kernel
theorem d1_16 : decode prog_30_method_1_code 16 = .ok (.ldc 17, 2) := by decide +kernel
theorem d1_18 : decode prog_30_method_1_code 18 = .ok (.dload 5, 2) := by decide +kernel
theorem d1_20 : decode prog_30_method_1_code 20 = .ok (.invokestatic 9, 3) := by decide +kernel
theorem d1_23 : decode prog_30_method_1_code 23 = .ok (.dload_n 1, 1) := by decide +kernel
theorem d1_24 : decode prog_30_method_1_code 24 = .ok (.dload 5, 2) := by decide +kernel
theorem d1_26 : decode prog_30_method_1_code 26 = .ok (.dadd, 1) := by decide +kernel
theorem d1_27 : decode prog_30_method_1_code 27 = .ok (.invokestatic 19, 3) := by decide +kernel
theorem d1_30 : decode prog_30_method_1_code 30 = .ok (.ifCond .eq 38, 3) := by decide +kernel
theorem d1_68 : decode prog_30_method_1_code 68 = .ok (.dload_n 1, 1) := by decide +kernel
theorem d1_69 : decode prog_30_method_1_code 69 = .ok (.dload 5, 2) := by decide +kernel
theorem d1_71 : decode prog_30_method_1_code 71 = .ok (.dadd, 1) := by decide +kernel
theorem d1_72 : decode prog_30_method_1_code 72 = .ok (.dload_n 3, 1) := by decide +kernel
theorem d1_73 : decode prog_30_method_1_code 73 = .ok (.dcmp .l, 1) := by decide +kernel
theorem d1_74 : decode prog_30_method_1_code 74 = .ok (.ifCond .gt 45, 3) := by decide +kernel
theorem d1_119 : decode prog_30_method_1_code 119 = .ok (.aload_n 0, 1) := by decide +kernel
theorem d1_120 : decode prog_30_method_1_code 120 = .ok (.dload_n 1, 1) := by decide +kernel
theorem d1_121 : decode prog_30_method_1_code 121 = .ok (.putfield 52, 3) := by decide +kernel
theorem d1_124 : decode prog_30_method_1_code 124 = .ok (.aload_n 0, 1) := by decide +kernel
theorem d1_125 : decode prog_30_method_1_code 125 = .ok (.dload_n 3, 1) := by decide +kernel
theorem d1_126 : decode prog_30_method_1_code 126 = .ok (.putfield 57, 3) := by decide +kernel
theorem d1_129 : decode prog_30_method_1_code 129 = .ok (.aload_n 0, 1) := by decide +kernel
theorem d1_130 : decode prog_30_method_1_code 130 = .ok (.dload 5, 2) := by decide +kernel
theorem d1_132 : decode prog_30_method_1_code 132 = .ok (.putfield 60, 3) := by decide +kernel
theorem d1_135 : decode prog_30_method_1_code 135 = .ok (.return_, 1) := by decide +kernel
set_option maxRecDepth 65536 in
set_option maxHeartbeats 40000000 in
theorem w1 {p : Program} {l : Launch} {e : Env} {s : State} {m : MethodId} {args : Array Value} {below : List Frame} {meth : Method} {c_ : Code} {T0 : State} {locs : List Loc} {Z : State} {a0 : Array Value} {h0 : Heap} {n0 : Nat} (a : Addr) (x1 : UInt64) (x2 : UInt64) (x3 : UInt64)
    (X0 : Stand p l e ({ frames := 4, cells := 6, slots := 112, locals := 80 } : Room) s m args below meth c_ T0 locs 0 0) (hx : p.tables.exec = Jvm.exec) (hZ : Z.Warmed39 s.vm) (hw : ∀ d ∈ tables_1, d.before a0 Z = true) (hby : c_.code = prog_30_method_1_code) (hml : c_.maxLocals = 7) (hown : s.vm.findClass "com/example/headroom/headroom/Sizing$ProfitPrices" = some m.cls) (hnm : meth.name = "<init>") (hret : meth.sig.returnType = none) (hlk : meth.locks = false) (e0 : T0.heap = h0) (Z0 : n0 ≤ h0.size) (N0 : Fr n0 locs) (E_a : Exa Z h0 a "com/example/headroom/headroom/Sizing$ProfitPrices") (F_revenue_a : Fld Z h0 a "com/example/headroom/headroom/Sizing$ProfitPrices" "revenue" "D" (.double (0 : UInt64))) (F_unitCost_a : Fld Z h0 a "com/example/headroom/headroom/Sizing$ProfitPrices" "unitCost" "D" (.double (0 : UInt64))) (F_penalty_a : Fld Z h0 a "com/example/headroom/headroom/Sizing$ProfitPrices" "penalty" "D" (.double (0 : UInt64))) (ge_a : n0 ≤ a) (hf1 : Jvm.Free.Fl.Fin64 x1) (hg1 : (FP.dcmp x1 (0 : UInt64) = some .gt ∨ FP.dcmp x1 (0 : UInt64) = some .eq)) (hf2 : Jvm.Free.Fl.Fin64 x2) (hg2 : (FP.dcmp x2 (0 : UInt64) = some .gt ∨ FP.dcmp x2 (0 : UInt64) = some .eq)) (hf3 : Jvm.Free.Fl.Fin64 x3) (hg3 : (FP.dcmp x3 (0 : UInt64) = some .gt ∨ FP.dcmp x3 (0 : UInt64) = some .eq)) (hsF : Jvm.Free.Fl.Fin64 (FP.dadd x1 x3)) (hgt : FP.dcmp (FP.dadd x1 x3) x2 = some .gt) :
    GoW p e below s ({ frames := 4, cells := 6, slots := 112, locals := 80 } : Room).cells ({ frames := 4, cells := 6, slots := 112, locals := 80 } : Room).slots (fun r h L => r = none ∧ Fr n0 L ∧ Keep h0 h [a] ∧ Exa Z h a "com/example/headroom/headroom/Sizing$ProfitPrices" ∧ Fld Z h a "com/example/headroom/headroom/Sizing$ProfitPrices" "revenue" "D" (.double x1) ∧ Fld Z h a "com/example/headroom/headroom/Sizing$ProfitPrices" "unitCost" "D" (.double x2) ∧ Fld Z h a "com/example/headroom/headroom/Sizing$ProfitPrices" "penalty" "D" (.double x3)) T0 (mkF m 0 #[.val (.ref a), .val (.double x1), .second, .val (.double x2), .second, .val (.double x3), .second] []) := by
  have X0 : Stand p l e ({ frames := 4, cells := 6, slots := 112, locals := 80 } : Room) (s.setVm s.vm) m args below meth c_ T0 locs 0 0 := X0
  have hS : s.Since s.vm h0.size := (State.WarmedH.refl s).since _
  have hk : Szk h0.size h0 := Nat.le_refl _
  have hZ : Z.Warmed39 (s.setVm s.vm).vm := hZ
  have hown : (s.setVm s.vm).vm.findClass "com/example/headroom/headroom/Sizing$ProfitPrices" = some m.cls := hown
  show GoW _ _ _ _ _ _ _ T0 (mkF m 0 #[.val (.ref a), .val (.double x1), .second, .val (.double x2), .second, .val (.double x3), .second] [])
  refine GoW.step (fun _ k => XS.aloadN X0.here hx rfl (hb hby d1_0) rfl rfl k) ?_
  show GoW _ _ _ _ _ _ _ T0 (mkF m 1 #[.val (.ref a), .val (.double x1), .second, .val (.double x2), .second, .val (.double x3), .second] [(.ref a)])
  refine GoW.callI X0 hx hZ (by rw [hml]; rfl) (y := (⟨"java/lang/Record", "<init>", "()V"⟩ : MethodName)) (a := a) (argsL := []) (rest := []) rfl hown (hw _ (mI 8 rfl)) (hw _ (mI 9 rfl)) (hw _ (mI 11 rfl)) (hw _ (mI 12 rfl)) (by decide) (rm2 l Z a0 hw a h0 n0 Z0) e0 (hb hby d1_1) (lenOf pd_2 rfl) rfl rfl (W := 0) (Nat.le_of_eq rfl) (by decide) (by decide) (by decide) (by decide) ?_
  intro v1 T1 L1 X1 Q1
  obtain ⟨rfl, N1q, hh1⟩ := Q1
  have N1 := Fr.app N0 N1q
  show GoW _ _ _ _ _ _ _ T1 (mkF m 4 #[.val (.ref a), .val (.double x1), .second, .val (.double x2), .second, .val (.double x3), .second] [])
  obtain ⟨b2, T2, h2, kk2, X2, e2, E2, hS, hk_2, hZ, hown, st2⟩ := ldcS X1 hx hZ hown (hw _ (mI 16 rfl)) (own_wS hw) hh1 hS hk (g := (mkF m 4 #[.val (.ref a), .val (.double x1), .second, .val (.double x2), .second, .val (.double x3), .second] [])) rfl (hb hby d1_4) (n := 28) (by decide) (by decide) (by decide) (by decide)
  have hk_2 : Szk kk2 h2 := hk_2
  refine GoW.step st2 ?_
  have K2 : Keep h0 h2 [a] := (Keep.refl h0 [a]).ext E2
  have E_a_2 := E_a.ext E2
  have F_revenue_a_2 := F_revenue_a.ext E2
  have F_unitCost_a_2 := F_unitCost_a.ext E2
  have F_penalty_a_2 := F_penalty_a.ext E2
  show GoW _ _ _ _ _ _ _ T2 (mkF m 6 #[.val (.ref a), .val (.double x1), .second, .val (.double x2), .second, .val (.double x3), .second] [(.ref b2)])
  refine GoW.step (fun _ k => XS.dloadN X2.here hx rfl (hb hby d1_6) rfl k) ?_
  show GoW _ _ _ _ _ _ _ T2 (mkF m 7 #[.val (.ref a), .val (.double x1), .second, .val (.double x2), .second, .val (.double x3), .second] [(.double x1), (.ref b2)])
  refine GoW.callS X2 hx hZ (by rw [hml]; rfl) (y := (⟨"com/example/headroom/headroom/PriceSheet", "requirePrice", "(Ljava/lang/String;D)V"⟩ : MethodName)) (argsL := [(.ref b2), (.double x1)]) (rest := []) hown (hw _ (mI 24 rfl)) (hw _ (mI 25 rfl)) (hw _ (mI 26 rfl)) (hw _ (mI 27 rfl)) (by decide) (rm4 l Z a0 hw b2 x1 h2 n0 (Nat.le_trans Z0 (K2 : Keep h0 h2 [a]).1) hf1 hg1) e2 (hb hby d1_7) (lenOf pd_3 rfl) rfl rfl (W := 0) (Nat.le_of_eq rfl) (by decide) (by decide) (by decide) (by decide) ?_
  intro v3 T3 L3 X3 Q3
  obtain ⟨rfl, N3q, hh3⟩ := Q3
  have N3 := Fr.app N1 N3q
  show GoW _ _ _ _ _ _ _ T3 (mkF m 10 #[.val (.ref a), .val (.double x1), .second, .val (.double x2), .second, .val (.double x3), .second] [])
  obtain ⟨b4, T4, h4, kk4, X4, e4, E4, hS, hk_4, hZ, hown, st4⟩ := ldcS X3 hx hZ hown (hw _ (mI 37 rfl)) (own_wS hw) hh3 hS hk_2 (g := (mkF m 10 #[.val (.ref a), .val (.double x1), .second, .val (.double x2), .second, .val (.double x3), .second] [])) rfl (hb hby d1_10) (n := 36) (by decide) (by decide) (by decide) (by decide)
  have hk_4 : Szk kk4 h4 := hk_4
  refine GoW.step st4 ?_
  have K4 : Keep h0 h4 [a] := K2.ext E4
  have E_a_4 := E_a_2.ext E4
  have F_revenue_a_4 := F_revenue_a_2.ext E4
  have F_unitCost_a_4 := F_unitCost_a_2.ext E4
  have F_penalty_a_4 := F_penalty_a_2.ext E4
  show GoW _ _ _ _ _ _ _ T4 (mkF m 12 #[.val (.ref a), .val (.double x1), .second, .val (.double x2), .second, .val (.double x3), .second] [(.ref b4)])
  refine GoW.step (fun _ k => XS.dloadN X4.here hx rfl (hb hby d1_12) rfl k) ?_
  show GoW _ _ _ _ _ _ _ T4 (mkF m 13 #[.val (.ref a), .val (.double x1), .second, .val (.double x2), .second, .val (.double x3), .second] [(.double x2), (.ref b4)])
  refine GoW.callS X4 hx hZ (by rw [hml]; rfl) (y := (⟨"com/example/headroom/headroom/PriceSheet", "requirePrice", "(Ljava/lang/String;D)V"⟩ : MethodName)) (argsL := [(.ref b4), (.double x2)]) (rest := []) hown (hw _ (mI 24 rfl)) (hw _ (mI 25 rfl)) (hw _ (mI 26 rfl)) (hw _ (mI 27 rfl)) (by decide) (rm4 l Z a0 hw b4 x2 h4 n0 (Nat.le_trans Z0 (K4 : Keep h0 h4 [a]).1) hf2 hg2) e4 (hb hby d1_13) (lenOf pd_3 rfl) rfl rfl (W := 0) (Nat.le_of_eq rfl) (by decide) (by decide) (by decide) (by decide) ?_
  intro v5 T5 L5 X5 Q5
  obtain ⟨rfl, N5q, hh5⟩ := Q5
  have N5 := Fr.app N3 N5q
  show GoW _ _ _ _ _ _ _ T5 (mkF m 16 #[.val (.ref a), .val (.double x1), .second, .val (.double x2), .second, .val (.double x3), .second] [])
  obtain ⟨b6, T6, h6, kk6, X6, e6, E6, hS, hk_6, hZ, hown, st6⟩ := ldcS X5 hx hZ hown (hw _ (mI 38 rfl)) (own_wS hw) hh5 hS hk_4 (g := (mkF m 16 #[.val (.ref a), .val (.double x1), .second, .val (.double x2), .second, .val (.double x3), .second] [])) rfl (hb hby d1_16) (n := 28) (by decide) (by decide) (by decide) (by decide)
  have hk_6 : Szk kk6 h6 := hk_6
  refine GoW.step st6 ?_
  have K6 : Keep h0 h6 [a] := K4.ext E6
  have E_a_6 := E_a_4.ext E6
  have F_revenue_a_6 := F_revenue_a_4.ext E6
  have F_unitCost_a_6 := F_unitCost_a_4.ext E6
  have F_penalty_a_6 := F_penalty_a_4.ext E6
  show GoW _ _ _ _ _ _ _ T6 (mkF m 18 #[.val (.ref a), .val (.double x1), .second, .val (.double x2), .second, .val (.double x3), .second] [(.ref b6)])
  refine GoW.step (fun _ k => XS.dload X6.here hx rfl (hb hby d1_18) rfl k) ?_
  show GoW _ _ _ _ _ _ _ T6 (mkF m 20 #[.val (.ref a), .val (.double x1), .second, .val (.double x2), .second, .val (.double x3), .second] [(.double x3), (.ref b6)])
  refine GoW.callS X6 hx hZ (by rw [hml]; rfl) (y := (⟨"com/example/headroom/headroom/PriceSheet", "requirePrice", "(Ljava/lang/String;D)V"⟩ : MethodName)) (argsL := [(.ref b6), (.double x3)]) (rest := []) hown (hw _ (mI 24 rfl)) (hw _ (mI 25 rfl)) (hw _ (mI 26 rfl)) (hw _ (mI 27 rfl)) (by decide) (rm4 l Z a0 hw b6 x3 h6 n0 (Nat.le_trans Z0 (K6 : Keep h0 h6 [a]).1) hf3 hg3) e6 (hb hby d1_20) (lenOf pd_3 rfl) rfl rfl (W := 0) (Nat.le_of_eq rfl) (by decide) (by decide) (by decide) (by decide) ?_
  intro v7 T7 L7 X7 Q7
  obtain ⟨rfl, N7q, hh7⟩ := Q7
  have N7 := Fr.app N5 N7q
  show GoW _ _ _ _ _ _ _ T7 (mkF m 23 #[.val (.ref a), .val (.double x1), .second, .val (.double x2), .second, .val (.double x3), .second] [])
  refine GoW.step (fun _ k => XS.dloadN X7.here hx rfl (hb hby d1_23) rfl k) ?_
  show GoW _ _ _ _ _ _ _ T7 (mkF m 24 #[.val (.ref a), .val (.double x1), .second, .val (.double x2), .second, .val (.double x3), .second] [(.double x1)])
  refine GoW.step (fun _ k => XS.dload X7.here hx rfl (hb hby d1_24) rfl k) ?_
  show GoW _ _ _ _ _ _ _ T7 (mkF m 26 #[.val (.ref a), .val (.double x1), .second, .val (.double x2), .second, .val (.double x3), .second] [(.double x3), (.double x1)])
  refine GoW.step (fun _ k => XS.daddS X7.here hx rfl (hb hby d1_26) rfl hsF.noNaN rfl k) ?_
  show GoW _ _ _ _ _ _ _ T7 (mkF m 27 #[.val (.ref a), .val (.double x1), .second, .val (.double x2), .second, .val (.double x3), .second] [(.double (FP.dadd x1 x3))])
  refine GoW.callS X7 hx hZ (by rw [hml]; rfl) (y := (⟨"java/lang/Double", "isInfinite", "(D)Z"⟩ : MethodName)) (argsL := [(.double (FP.dadd x1 x3))]) (rest := []) hown (hw _ (mI 39 rfl)) (hw _ (mI 40 rfl)) (hw _ (mI 30 rfl)) (hw _ (mI 41 rfl)) (by decide) (rm7 l Z a0 hw (FP.dadd x1 x3) h6 n0 (Nat.le_trans Z0 (K6 : Keep h0 h6 [a]).1) hsF) hh7 (hb hby d1_27) (lenOf pd_1 rfl) rfl rfl (W := 0) (Nat.le_of_eq rfl) (by decide) (by decide) (by decide) (by decide) ?_
  intro v8 T8 L8 X8 Q8
  obtain ⟨rfl, N8q, hh8⟩ := Q8
  have N8 := Fr.app N7 N8q
  show GoW _ _ _ _ _ _ _ T8 (mkF m 30 #[.val (.ref a), .val (.double x1), .second, .val (.double x2), .second, .val (.double x3), .second] [(.int (0 : Int32))])
  refine GoW.step (fun _ k => XS.ifYes X8.here hx rfl (pc0 := 30) (pc' := 68) rfl (hb hby d1_30) rfl ((if0 _ _).trans (teq (by decide : (0 : Int32) = (0 : Int32))).1) (by decide) (by decide) k) ?_
  show GoW _ _ _ _ _ _ _ T8 (mkF m 68 #[.val (.ref a), .val (.double x1), .second, .val (.double x2), .second, .val (.double x3), .second] [])
  refine GoW.step (fun _ k => XS.dloadN X8.here hx rfl (hb hby d1_68) rfl k) ?_
  show GoW _ _ _ _ _ _ _ T8 (mkF m 69 #[.val (.ref a), .val (.double x1), .second, .val (.double x2), .second, .val (.double x3), .second] [(.double x1)])
  refine GoW.step (fun _ k => XS.dload X8.here hx rfl (hb hby d1_69) rfl k) ?_
  show GoW _ _ _ _ _ _ _ T8 (mkF m 71 #[.val (.ref a), .val (.double x1), .second, .val (.double x2), .second, .val (.double x3), .second] [(.double x3), (.double x1)])
  refine GoW.step (fun _ k => XS.daddS X8.here hx rfl (hb hby d1_71) rfl hsF.noNaN rfl k) ?_
  show GoW _ _ _ _ _ _ _ T8 (mkF m 72 #[.val (.ref a), .val (.double x1), .second, .val (.double x2), .second, .val (.double x3), .second] [(.double (FP.dadd x1 x3))])
  refine GoW.step (fun _ k => XS.dloadN X8.here hx rfl (hb hby d1_72) rfl k) ?_
  show GoW _ _ _ _ _ _ _ T8 (mkF m 73 #[.val (.ref a), .val (.double x1), .second, .val (.double x2), .second, .val (.double x3), .second] [(.double x2), (.double (FP.dadd x1 x3))])
  refine GoW.step (fun _ k => XS.dcmpS X8.here hx rfl (hb hby d1_73) rfl rfl k) ?_
  show GoW _ _ _ _ _ _ _ T8 (mkF m 74 #[.val (.ref a), .val (.double x1), .second, .val (.double x2), .second, .val (.double x3), .second] [(.int (cmpValue (FP.dcmp (FP.dadd x1 x3) x2) .l))])
  refine GoW.step (fun _ k => XS.ifYes X8.here hx rfl (pc0 := 74) (pc' := 119) rfl (hb hby d1_74) rfl (gtT_y hgt) (by decide) (by decide) k) ?_
  show GoW _ _ _ _ _ _ _ T8 (mkF m 119 #[.val (.ref a), .val (.double x1), .second, .val (.double x2), .second, .val (.double x3), .second] [])
  refine GoW.step (fun _ k => XS.aloadN X8.here hx rfl (hb hby d1_119) rfl rfl k) ?_
  show GoW _ _ _ _ _ _ _ T8 (mkF m 120 #[.val (.ref a), .val (.double x1), .second, .val (.double x2), .second, .val (.double x3), .second] [(.ref a)])
  refine GoW.step (fun _ k => XS.dloadN X8.here hx rfl (hb hby d1_120) rfl k) ?_
  show GoW _ _ _ _ _ _ _ T8 (mkF m 121 #[.val (.ref a), .val (.double x1), .second, .val (.double x2), .second, .val (.double x3), .second] [(.double x1), (.ref a)])
  obtain ⟨T9, h9, X9, e9, W9, st9⟩ := putF X8 hx hZ hown (host := "") (Or.inl (hw _ (mI 42 rfl))) Via.refl hh8 F_revenue_a_6 E_a_6 (Or.inr ⟨(hw _ (mI 43 rfl)), rfl, hnm⟩) (hw _ (mI 3 rfl)) (ty := .double) (by decide) rfl rfl (g := (mkF m 121 #[.val (.ref a), .val (.double x1), .second, .val (.double x2), .second, .val (.double x3), .second] [(.double x1), (.ref a)])) rfl rfl (hb hby d1_121)
  refine GoW.step st9 ?_
  have N9 := Fr.snoc X9 N8 ge_a
  have F_revenue_a_9 := F_revenue_a_6.same W9
  have E_a_9 := E_a_6.wr W9
  have F_unitCost_a_9 := F_unitCost_a_6.other W9 (Or.inr (slot_ne (Or.inr (hw _ (mI 45 rfl))) (Or.inr (hw _ (mI 43 rfl))) (by decide) (t := .double) (t' := .double) (by decide) (by decide)))
  have F_penalty_a_9 := F_penalty_a_6.other W9 (Or.inr (slot_ne (Or.inr (hw _ (mI 47 rfl))) (Or.inr (hw _ (mI 43 rfl))) (by decide) (t := .double) (t' := .double) (by decide) (by decide)))
  have hk_9 := hk_6.wr W9
  have K9 : Keep h0 h9 [a] := K6.wr W9 (Or.inl (List.mem_of_getElem? (i := 0) rfl))
  show GoW _ _ _ _ _ _ _ T9 (mkF m 124 #[.val (.ref a), .val (.double x1), .second, .val (.double x2), .second, .val (.double x3), .second] [])
  refine GoW.step (fun _ k => XS.aloadN X9.here hx rfl (hb hby d1_124) rfl rfl k) ?_
  show GoW _ _ _ _ _ _ _ T9 (mkF m 125 #[.val (.ref a), .val (.double x1), .second, .val (.double x2), .second, .val (.double x3), .second] [(.ref a)])
  refine GoW.step (fun _ k => XS.dloadN X9.here hx rfl (hb hby d1_125) rfl k) ?_
  show GoW _ _ _ _ _ _ _ T9 (mkF m 126 #[.val (.ref a), .val (.double x1), .second, .val (.double x2), .second, .val (.double x3), .second] [(.double x2), (.ref a)])
  obtain ⟨T10, h10, X10, e10, W10, st10⟩ := putF X9 hx hZ hown (host := "") (Or.inl (hw _ (mI 44 rfl))) Via.refl e9 F_unitCost_a_9 E_a_9 (Or.inr ⟨(hw _ (mI 45 rfl)), rfl, hnm⟩) (hw _ (mI 3 rfl)) (ty := .double) (by decide) rfl rfl (g := (mkF m 126 #[.val (.ref a), .val (.double x1), .second, .val (.double x2), .second, .val (.double x3), .second] [(.double x2), (.ref a)])) rfl rfl (hb hby d1_126)
  refine GoW.step st10 ?_
  have N10 := Fr.snoc X10 N9 ge_a
  have F_unitCost_a_10 := F_unitCost_a_9.same W10
  have E_a_10 := E_a_9.wr W10
  have F_revenue_a_10 := F_revenue_a_9.other W10 (Or.inr (slot_ne (Or.inr (hw _ (mI 43 rfl))) (Or.inr (hw _ (mI 45 rfl))) (by decide) (t := .double) (t' := .double) (by decide) (by decide)))
  have F_penalty_a_10 := F_penalty_a_9.other W10 (Or.inr (slot_ne (Or.inr (hw _ (mI 47 rfl))) (Or.inr (hw _ (mI 45 rfl))) (by decide) (t := .double) (t' := .double) (by decide) (by decide)))
  have hk_10 := hk_9.wr W10
  have K10 : Keep h0 h10 [a] := K9.wr W10 (Or.inl (List.mem_of_getElem? (i := 0) rfl))
  show GoW _ _ _ _ _ _ _ T10 (mkF m 129 #[.val (.ref a), .val (.double x1), .second, .val (.double x2), .second, .val (.double x3), .second] [])
  refine GoW.step (fun _ k => XS.aloadN X10.here hx rfl (hb hby d1_129) rfl rfl k) ?_
  show GoW _ _ _ _ _ _ _ T10 (mkF m 130 #[.val (.ref a), .val (.double x1), .second, .val (.double x2), .second, .val (.double x3), .second] [(.ref a)])
  refine GoW.step (fun _ k => XS.dload X10.here hx rfl (hb hby d1_130) rfl k) ?_
  show GoW _ _ _ _ _ _ _ T10 (mkF m 132 #[.val (.ref a), .val (.double x1), .second, .val (.double x2), .second, .val (.double x3), .second] [(.double x3), (.ref a)])
  obtain ⟨T11, h11, X11, e11, W11, st11⟩ := putF X10 hx hZ hown (host := "") (Or.inl (hw _ (mI 46 rfl))) Via.refl e10 F_penalty_a_10 E_a_10 (Or.inr ⟨(hw _ (mI 47 rfl)), rfl, hnm⟩) (hw _ (mI 3 rfl)) (ty := .double) (by decide) rfl rfl (g := (mkF m 132 #[.val (.ref a), .val (.double x1), .second, .val (.double x2), .second, .val (.double x3), .second] [(.double x3), (.ref a)])) rfl rfl (hb hby d1_132)
  refine GoW.step st11 ?_
  have N11 := Fr.snoc X11 N10 ge_a
  have F_penalty_a_11 := F_penalty_a_10.same W11
  have E_a_11 := E_a_10.wr W11
  have F_revenue_a_11 := F_revenue_a_10.other W11 (Or.inr (slot_ne (Or.inr (hw _ (mI 43 rfl))) (Or.inr (hw _ (mI 47 rfl))) (by decide) (t := .double) (t' := .double) (by decide) (by decide)))
  have F_unitCost_a_11 := F_unitCost_a_10.other W11 (Or.inr (slot_ne (Or.inr (hw _ (mI 45 rfl))) (Or.inr (hw _ (mI 47 rfl))) (by decide) (t := .double) (t' := .double) (by decide) (by decide)))
  have hk_11 := hk_10.wr W11
  have K11 : Keep h0 h11 [a] := K10.wr W11 (Or.inl (List.mem_of_getElem? (i := 0) rfl))
  show GoW _ _ _ _ _ _ _ T11 (mkF m 135 #[.val (.ref a), .val (.double x1), .second, .val (.double x2), .second, .val (.double x3), .second] [])
  refine GoW.retV X11 hS hk_11 e11 hx hlk hret (hb hby d1_135) (by decide) (by decide) ?_
  try rw [e11]
  exact ⟨rfl, N11, K11, E_a_11, F_revenue_a_11, F_unitCost_a_11, F_penalty_a_11⟩
theorem pn_1 : plainName "com/example/headroom/headroom/Sizing$ProfitPrices" = true := by first | (simp [plainName, overriddenIn]; done) | decide +kernel
theorem ef_rm1 (m : MethodId) (a : Addr) (x1 : UInt64) (x2 : UInt64) (x3 : UInt64) : entryFrame m #[(.ref a), (.double x1), (.double x2), (.double x3)] 7 = mkF m 0 #[.val (.ref a), .val (.double x1), .second, .val (.double x2), .second, .val (.double x3), .second] [] := by first | (simp [entryFrame, mkF, argsToLocals, Value.category]; done) | rfl
theorem rm1 (l : Launch) (Z : State) (a0 : Array Value) (hw : ∀ d ∈ tables_1, d.before a0 Z = true) (a : Addr) (x1 : UInt64) (x2 : UInt64) (x3 : UInt64) (h0 : Heap) (n0 : Nat) (Z0 : n0 ≤ h0.size) (E_a : Exa Z h0 a "com/example/headroom/headroom/Sizing$ProfitPrices") (F_revenue_a : Fld Z h0 a "com/example/headroom/headroom/Sizing$ProfitPrices" "revenue" "D" (.double (0 : UInt64))) (F_unitCost_a : Fld Z h0 a "com/example/headroom/headroom/Sizing$ProfitPrices" "unitCost" "D" (.double (0 : UInt64))) (F_penalty_a : Fld Z h0 a "com/example/headroom/headroom/Sizing$ProfitPrices" "penalty" "D" (.double (0 : UInt64))) (ge_a : n0 ≤ a) (hf1 : Jvm.Free.Fl.Fin64 x1) (hg1 : (FP.dcmp x1 (0 : UInt64) = some .gt ∨ FP.dcmp x1 (0 : UInt64) = some .eq)) (hf2 : Jvm.Free.Fl.Fin64 x2) (hg2 : (FP.dcmp x2 (0 : UInt64) = some .gt ∨ FP.dcmp x2 (0 : UInt64) = some .eq)) (hf3 : Jvm.Free.Fl.Fin64 x3) (hg3 : (FP.dcmp x3 (0 : UInt64) = some .gt ∨ FP.dcmp x3 (0 : UInt64) = some .eq)) (hsF : Jvm.Free.Fl.Fin64 (FP.dadd x1 x3)) (hgt : FP.dcmp (FP.dadd x1 x3) x2 = some .gt) :
    ConW l Z (⟨"com/example/headroom/headroom/Sizing$ProfitPrices", "<init>", "(DDD)V"⟩ : MethodName) prog_30_method_1_code 7 none ({ frames := 4, cells := 6, slots := 112, locals := 80 } : Room) #[(.ref a), (.double x1), (.double x2), (.double x3)] h0 (fun r h L => r = none ∧ Fr n0 L ∧ Keep h0 h [a] ∧ Exa Z h a "com/example/headroom/headroom/Sizing$ProfitPrices" ∧ Fld Z h a "com/example/headroom/headroom/Sizing$ProfitPrices" "revenue" "D" (.double x1) ∧ Fld Z h a "com/example/headroom/headroom/Sizing$ProfitPrices" "unitCost" "D" (.double x2) ∧ Fld Z h a "com/example/headroom/headroom/Sizing$ProfitPrices" "penalty" "D" (.double x3)) :=
  con_ofW (plainFor_of_name pn_1) (fun p_ e_ s_ m_ b_ meth_ c_ T_ X_ hx hZ hby hml hown hnm hret hlk e0 => GoW.cast (ef_rm1 m_ a x1 x2 x3) (w1 a x1 x2 x3 X_ hx hZ hw hby hml hown hnm hret hlk e0 Z0 (Fr.nil n0) E_a F_revenue_a F_unitCost_a F_penalty_a ge_a hf1 hg1 hf2 hg2 hf3 hg3 hsF hgt))
theorem d8_0 : decode prog_30_method_2_code 0 = .ok (.aload_n 0, 1) := by decide +kernel
theorem d8_1 : decode prog_30_method_2_code 1 = .ok (.getfield 52, 3) := by decide +kernel
theorem d8_4 : decode prog_30_method_2_code 4 = .ok (.aload_n 0, 1) := by decide +kernel
theorem d8_5 : decode prog_30_method_2_code 5 = .ok (.getfield 60, 3) := by decide +kernel
theorem d8_8 : decode prog_30_method_2_code 8 = .ok (.dadd, 1) := by decide +kernel
theorem d8_9 : decode prog_30_method_2_code 9 = .ok (.aload_n 0, 1) := by decide +kernel
theorem d8_10 : decode prog_30_method_2_code 10 = .ok (.getfield 57, 3) := by decide +kernel
theorem d8_13 : decode prog_30_method_2_code 13 = .ok (.dsub, 1) := by decide +kernel
theorem d8_14 : decode prog_30_method_2_code 14 = .ok (.aload_n 0, 1) := by decide +kernel
theorem d8_15 : decode prog_30_method_2_code 15 = .ok (.getfield 52, 3) := by decide +kernel
theorem d8_18 : decode prog_30_method_2_code 18 = .ok (.aload_n 0, 1) := by decide +kernel
theorem d8_19 : decode prog_30_method_2_code 19 = .ok (.getfield 60, 3) := by decide +kernel
theorem d8_22 : decode prog_30_method_2_code 22 = .ok (.dadd, 1) := by decide +kernel
theorem d8_23 : decode prog_30_method_2_code 23 = .ok (.ddiv, 1) := by decide +kernel
theorem d8_24 : decode prog_30_method_2_code 24 = .ok (.dreturn, 1) := by decide +kernel
set_option maxRecDepth 65536 in
set_option maxHeartbeats 40000000 in
theorem w8 {p : Program} {l : Launch} {e : Env} {s : State} {m : MethodId} {args : Array Value} {below : List Frame} {meth : Method} {c_ : Code} {T0 : State} {locs : List Loc} {Z : State} {a0 : Array Value} {h0 : Heap} {n0 : Nat} (a : Addr) (x1 x2 x3 : UInt64)
    (X0 : Stand p l e ({ frames := 0, cells := 0, slots := 0, locals := 0 } : Room) s m args below meth c_ T0 locs 0 0) (hx : p.tables.exec = Jvm.exec) (hZ : Z.Warmed39 s.vm) (hw : ∀ d ∈ tables_1, d.before a0 Z = true) (hby : c_.code = prog_30_method_2_code) (hml : c_.maxLocals = 1) (hown : s.vm.findClass "com/example/headroom/headroom/Sizing$ProfitPrices" = some m.cls) (hnm : meth.name = "profitableLevel") (hret : meth.sig.returnType = some .double) (hlk : meth.locks = false) (e0 : T0.heap = h0) (Z0 : n0 ≤ h0.size) (N0 : Fr n0 locs) (F_revenue_a : Fld Z h0 a "com/example/headroom/headroom/Sizing$ProfitPrices" "revenue" "D" (.double x1)) (F_unitCost_a : Fld Z h0 a "com/example/headroom/headroom/Sizing$ProfitPrices" "unitCost" "D" (.double x2)) (F_penalty_a : Fld Z h0 a "com/example/headroom/headroom/Sizing$ProfitPrices" "penalty" "D" (.double x3)) (hsF : Jvm.Free.Fl.Fin64 (FP.dadd x1 x3)) (hdN : Jvm.Free.Fl.NoNaN64 (FP.dsub (FP.dadd x1 x3) x2)) (hsZ : Jvm.Free.Fl.Nz64 (FP.dadd x1 x3)) :
    Go p e below s ({ frames := 0, cells := 0, slots := 0, locals := 0 } : Room).cells ({ frames := 0, cells := 0, slots := 0, locals := 0 } : Room).slots (fun r h L => r = some (.double (lvW x1 x2 x3)) ∧ Fr n0 L ∧ h = h0) T0 (mkF m 0 #[.val (.ref a)] []) := by
  show Go _ _ _ _ _ _ _ T0 (mkF m 0 #[.val (.ref a)] [])
  refine Go.step (fun _ k => XS.aloadN X0.here hx rfl (hb hby d8_0) rfl rfl k) ?_
  show Go _ _ _ _ _ _ _ T0 (mkF m 1 #[.val (.ref a)] [(.ref a)])
  obtain ⟨T1, X1, e1, st1⟩ := getF X0 hx hZ hown (host := "") (Or.inl (hw _ (mI 42 rfl))) Via.refl e0 F_revenue_a (g := (mkF m 1 #[.val (.ref a)] [(.ref a)])) rfl rfl (hb hby d8_1)
  refine Go.step st1 ?_
  show Go _ _ _ _ _ _ _ T1 (mkF m 4 #[.val (.ref a)] [(.double x1)])
  refine Go.step (fun _ k => XS.aloadN X1.here hx rfl (hb hby d8_4) rfl rfl k) ?_
  show Go _ _ _ _ _ _ _ T1 (mkF m 5 #[.val (.ref a)] [(.ref a), (.double x1)])
  obtain ⟨T2, X2, e2, st2⟩ := getF X1 hx hZ hown (host := "") (Or.inl (hw _ (mI 46 rfl))) Via.refl e1 F_penalty_a (g := (mkF m 5 #[.val (.ref a)] [(.ref a), (.double x1)])) rfl rfl (hb hby d8_5)
  refine Go.step st2 ?_
  show Go _ _ _ _ _ _ _ T2 (mkF m 8 #[.val (.ref a)] [(.double x3), (.double x1)])
  refine Go.step (fun _ k => XS.daddS X2.here hx rfl (hb hby d8_8) rfl hsF.noNaN rfl k) ?_
  show Go _ _ _ _ _ _ _ T2 (mkF m 9 #[.val (.ref a)] [(.double (FP.dadd x1 x3))])
  refine Go.step (fun _ k => XS.aloadN X2.here hx rfl (hb hby d8_9) rfl rfl k) ?_
  show Go _ _ _ _ _ _ _ T2 (mkF m 10 #[.val (.ref a)] [(.ref a), (.double (FP.dadd x1 x3))])
  obtain ⟨T3, X3, e3, st3⟩ := getF X2 hx hZ hown (host := "") (Or.inl (hw _ (mI 44 rfl))) Via.refl e2 F_unitCost_a (g := (mkF m 10 #[.val (.ref a)] [(.ref a), (.double (FP.dadd x1 x3))])) rfl rfl (hb hby d8_10)
  refine Go.step st3 ?_
  show Go _ _ _ _ _ _ _ T3 (mkF m 13 #[.val (.ref a)] [(.double x2), (.double (FP.dadd x1 x3))])
  refine Go.step (fun _ k => XS.dsubS X3.here hx rfl (hb hby d8_13) rfl hdN rfl k) ?_
  show Go _ _ _ _ _ _ _ T3 (mkF m 14 #[.val (.ref a)] [(.double (FP.dsub (FP.dadd x1 x3) x2))])
  refine Go.step (fun _ k => XS.aloadN X3.here hx rfl (hb hby d8_14) rfl rfl k) ?_
  show Go _ _ _ _ _ _ _ T3 (mkF m 15 #[.val (.ref a)] [(.ref a), (.double (FP.dsub (FP.dadd x1 x3) x2))])
  obtain ⟨T4, X4, e4, st4⟩ := getF X3 hx hZ hown (host := "") (Or.inl (hw _ (mI 42 rfl))) Via.refl e3 F_revenue_a (g := (mkF m 15 #[.val (.ref a)] [(.ref a), (.double (FP.dsub (FP.dadd x1 x3) x2))])) rfl rfl (hb hby d8_15)
  refine Go.step st4 ?_
  show Go _ _ _ _ _ _ _ T4 (mkF m 18 #[.val (.ref a)] [(.double x1), (.double (FP.dsub (FP.dadd x1 x3) x2))])
  refine Go.step (fun _ k => XS.aloadN X4.here hx rfl (hb hby d8_18) rfl rfl k) ?_
  show Go _ _ _ _ _ _ _ T4 (mkF m 19 #[.val (.ref a)] [(.ref a), (.double x1), (.double (FP.dsub (FP.dadd x1 x3) x2))])
  obtain ⟨T5, X5, e5, st5⟩ := getF X4 hx hZ hown (host := "") (Or.inl (hw _ (mI 46 rfl))) Via.refl e4 F_penalty_a (g := (mkF m 19 #[.val (.ref a)] [(.ref a), (.double x1), (.double (FP.dsub (FP.dadd x1 x3) x2))])) rfl rfl (hb hby d8_19)
  refine Go.step st5 ?_
  show Go _ _ _ _ _ _ _ T5 (mkF m 22 #[.val (.ref a)] [(.double x3), (.double x1), (.double (FP.dsub (FP.dadd x1 x3) x2))])
  refine Go.step (fun _ k => XS.daddS X5.here hx rfl (hb hby d8_22) rfl hsF.noNaN rfl k) ?_
  show Go _ _ _ _ _ _ _ T5 (mkF m 23 #[.val (.ref a)] [(.double (FP.dadd x1 x3)), (.double (FP.dsub (FP.dadd x1 x3) x2))])
  refine Go.step (fun _ k => XS.ddivS X5.here hx rfl (hb hby d8_23) rfl (Jvm.Free.Fl.ddiv_out hdN hsF hsZ) rfl k) ?_
  show Go _ _ _ _ _ _ _ T5 (mkF m 24 #[.val (.ref a)] [(.double (FP.ddiv (FP.dsub (FP.dadd x1 x3) x2) (FP.dadd x1 x3)))])
  refine Go.retD X5 hx hlk hret (hb hby d8_24) (by decide) (by decide) ?_
  try rw [e5]
  exact ⟨rfl, N0, rfl⟩
theorem ef_rm8 (m : MethodId) (a : Addr) : entryFrame m #[(.ref a)] 1 = mkF m 0 #[.val (.ref a)] [] := by first | (simp [entryFrame, mkF, argsToLocals, Value.category]; done) | rfl
theorem rm8 (l : Launch) (Z : State) (a0 : Array Value) (hw : ∀ d ∈ tables_1, d.before a0 Z = true) (a : Addr) (x1 x2 x3 : UInt64) (h0 : Heap) (n0 : Nat) (Z0 : n0 ≤ h0.size) (F_revenue_a : Fld Z h0 a "com/example/headroom/headroom/Sizing$ProfitPrices" "revenue" "D" (.double x1)) (F_unitCost_a : Fld Z h0 a "com/example/headroom/headroom/Sizing$ProfitPrices" "unitCost" "D" (.double x2)) (F_penalty_a : Fld Z h0 a "com/example/headroom/headroom/Sizing$ProfitPrices" "penalty" "D" (.double x3)) (hsF : Jvm.Free.Fl.Fin64 (FP.dadd x1 x3)) (hdN : Jvm.Free.Fl.NoNaN64 (FP.dsub (FP.dadd x1 x3) x2)) (hsZ : Jvm.Free.Fl.Nz64 (FP.dadd x1 x3)) :
    Con l Z (⟨"com/example/headroom/headroom/Sizing$ProfitPrices", "profitableLevel", "()D"⟩ : MethodName) prog_30_method_2_code 1 (some .double) ({ frames := 0, cells := 0, slots := 0, locals := 0 } : Room) #[(.ref a)] h0 (fun r h L => r = some (.double (lvW x1 x2 x3)) ∧ Fr n0 L ∧ h = h0) :=
  con_of (plainFor_of_name pn_1) (fun p_ e_ s_ m_ b_ meth_ c_ T_ X_ hx hZ hby hml hown hnm hret hlk e0 => Go.cast (ef_rm8 m_ a) (w8 a x1 x2 x3 X_ hx hZ hw hby hml hown hnm hret hlk e0 Z0 (Fr.nil n0) F_revenue_a F_unitCost_a F_penalty_a hsF hdN hsZ))
theorem pd_4 : parseMethodDescriptor "(DDD)V" = some ⟨[.double, .double, .double], none⟩ := by decide +kernel
theorem pd_5 : parseMethodDescriptor "()D" = some ⟨[], some .double⟩ := by decide +kernel
set_option maxRecDepth 65536 in
set_option maxHeartbeats 40000000 in
theorem w0 {p : Program} {l : Launch} {e : Env} {s : State} {m : MethodId} {args : Array Value} {below : List Frame} {meth : Method} {c_ : Code} {T0 : State} {locs : List Loc} {Z : State} {a0 : Array Value} {h0 : Heap} {n0 : Nat} (p0 p1 p2 p3 : Int32)
    (X0 : Stand p l e room_1 s m args below meth c_ T0 locs 0 0) (hx : p.tables.exec = Jvm.exec) (hZ : Z.Warmed39 s.vm) (hw : ∀ d ∈ tables_1, d.before a0 Z = true) (hby : c_.code = code) (hml : c_.maxLocals = maxLocals) (hown : s.vm.findClass "com/example/headroom/headroom/ProfitPricesProfitableLevelPinLaw" = some m.cls) (hnm : meth.name = "law") (hret : meth.sig.returnType = ret) (hlk : meth.locks = false) (e0 : T0.heap = h0) (Z0 : n0 ≤ h0.size) (N0 : Fr n0 locs)  :
    GoW p e below s room_1.cells room_1.slots (fun r h L => r = some (.int 1) ∧ Fr n0 L) T0 (mkF m 0 #[.val (.int p0), .val (.int p1), .val (.int p2), .val (.int p3), .unset, .unset, .unset, .unset, .unset, .unset, .unset, .unset, .unset, .unset, .unset, .unset, .unset, .unset, .unset, .unset, .unset, .unset] []) := by
  have hret : meth.sig.returnType = some .boolean := hret
  have X0 : Stand p l e room_1 (s.setVm s.vm) m args below meth c_ T0 locs 0 0 := X0
  have hS : s.Since s.vm h0.size := (State.WarmedH.refl s).since _
  have hk : Szk h0.size h0 := Nat.le_refl _
  have hZ : Z.Warmed39 (s.setVm s.vm).vm := hZ
  have hown : (s.setVm s.vm).vm.findClass "com/example/headroom/headroom/ProfitPricesProfitableLevelPinLaw" = some m.cls := hown
  show GoW _ _ _ _ _ _ _ T0 (mkF m 0 #[.val (.int p0), .val (.int p1), .val (.int p2), .val (.int p3), .unset, .unset, .unset, .unset, .unset, .unset, .unset, .unset, .unset, .unset, .unset, .unset, .unset, .unset, .unset, .unset, .unset, .unset] [])
  refine GoW.step (fun _ k => XS.iloadN X0.here hx rfl (hb hby at_0) rfl k) ?_
  show GoW _ _ _ _ _ _ _ T0 (mkF m 1 #[.val (.int p0), .val (.int p1), .val (.int p2), .val (.int p3), .unset, .unset, .unset, .unset, .unset, .unset, .unset, .unset, .unset, .unset, .unset, .unset, .unset, .unset, .unset, .unset, .unset, .unset] [(.int p0)])
  refine GoW.step (fun _ k => XS.i2l X0.here hx rfl (hb hby at_1) rfl k) ?_
  show GoW _ _ _ _ _ _ _ T0 (mkF m 2 #[.val (.int p0), .val (.int p1), .val (.int p2), .val (.int p3), .unset, .unset, .unset, .unset, .unset, .unset, .unset, .unset, .unset, .unset, .unset, .unset, .unset, .unset, .unset, .unset, .unset, .unset] [(.long (p0.toInt64))])
  refine GoW.step (X0.ldc2Long hx hown (mvT hZ (hw _ (mI 0 rfl))) (g := (mkF m 2 #[.val (.int p0), .val (.int p1), .val (.int p2), .val (.int p3), .unset, .unset, .unset, .unset, .unset, .unset, .unset, .unset, .unset, .unset, .unset, .unset, .unset, .unset, .unset, .unset, .unset, .unset] [(.long (p0.toInt64))])) rfl (hb hby at_2)) ?_
  show GoW _ _ _ _ _ _ _ T0 (mkF m 5 #[.val (.int p0), .val (.int p1), .val (.int p2), .val (.int p3), .unset, .unset, .unset, .unset, .unset, .unset, .unset, .unset, .unset, .unset, .unset, .unset, .unset, .unset, .unset, .unset, .unset, .unset] [(.long (1073741823 : Int64)), (.long (p0.toInt64))])
  refine GoW.step (fun _ k => XS.land X0.here hx rfl (hb hby at_5) rfl k) ?_
  show GoW _ _ _ _ _ _ _ T0 (mkF m 6 #[.val (.int p0), .val (.int p1), .val (.int p2), .val (.int p3), .unset, .unset, .unset, .unset, .unset, .unset, .unset, .unset, .unset, .unset, .unset, .unset, .unset, .unset, .unset, .unset, .unset, .unset] [(.long ((p0.toInt64) &&& (1073741823 : Int64)))])
  refine GoW.step (fun _ k => XS.lstore X0.here hx rfl (hb hby at_6) rfl (l' := #[.val (.int p0), .val (.int p1), .val (.int p2), .val (.int p3), .val (.long ((p0.toInt64) &&& (1073741823 : Int64))), .second, .unset, .unset, .unset, .unset, .unset, .unset, .unset, .unset, .unset, .unset, .unset, .unset, .unset, .unset, .unset, .unset]) rfl k) ?_
  obtain ⟨lr, h_lr⟩ : ∃ z, z = ((p0.toInt64) &&& (1073741823 : Int64)) := ⟨_, rfl⟩
  rw [← h_lr]
  show GoW _ _ _ _ _ _ _ T0 (mkF m 8 #[.val (.int p0), .val (.int p1), .val (.int p2), .val (.int p3), .val (.long lr), .second, .unset, .unset, .unset, .unset, .unset, .unset, .unset, .unset, .unset, .unset, .unset, .unset, .unset, .unset, .unset, .unset] [])
  refine GoW.step (fun _ k => XS.iloadN X0.here hx rfl (hb hby at_8) rfl k) ?_
  show GoW _ _ _ _ _ _ _ T0 (mkF m 9 #[.val (.int p0), .val (.int p1), .val (.int p2), .val (.int p3), .val (.long lr), .second, .unset, .unset, .unset, .unset, .unset, .unset, .unset, .unset, .unset, .unset, .unset, .unset, .unset, .unset, .unset, .unset] [(.int p1)])
  refine GoW.step (fun _ k => XS.i2l X0.here hx rfl (hb hby at_9) rfl k) ?_
  show GoW _ _ _ _ _ _ _ T0 (mkF m 10 #[.val (.int p0), .val (.int p1), .val (.int p2), .val (.int p3), .val (.long lr), .second, .unset, .unset, .unset, .unset, .unset, .unset, .unset, .unset, .unset, .unset, .unset, .unset, .unset, .unset, .unset, .unset] [(.long (p1.toInt64))])
  refine GoW.step (X0.ldc2Long hx hown (mvT hZ (hw _ (mI 0 rfl))) (g := (mkF m 10 #[.val (.int p0), .val (.int p1), .val (.int p2), .val (.int p3), .val (.long lr), .second, .unset, .unset, .unset, .unset, .unset, .unset, .unset, .unset, .unset, .unset, .unset, .unset, .unset, .unset, .unset, .unset] [(.long (p1.toInt64))])) rfl (hb hby at_10)) ?_
  show GoW _ _ _ _ _ _ _ T0 (mkF m 13 #[.val (.int p0), .val (.int p1), .val (.int p2), .val (.int p3), .val (.long lr), .second, .unset, .unset, .unset, .unset, .unset, .unset, .unset, .unset, .unset, .unset, .unset, .unset, .unset, .unset, .unset, .unset] [(.long (1073741823 : Int64)), (.long (p1.toInt64))])
  refine GoW.step (fun _ k => XS.land X0.here hx rfl (hb hby at_13) rfl k) ?_
  show GoW _ _ _ _ _ _ _ T0 (mkF m 14 #[.val (.int p0), .val (.int p1), .val (.int p2), .val (.int p3), .val (.long lr), .second, .unset, .unset, .unset, .unset, .unset, .unset, .unset, .unset, .unset, .unset, .unset, .unset, .unset, .unset, .unset, .unset] [(.long ((p1.toInt64) &&& (1073741823 : Int64)))])
  refine GoW.step (fun _ k => XS.lstore X0.here hx rfl (hb hby at_14) rfl (l' := #[.val (.int p0), .val (.int p1), .val (.int p2), .val (.int p3), .val (.long lr), .second, .val (.long ((p1.toInt64) &&& (1073741823 : Int64))), .second, .unset, .unset, .unset, .unset, .unset, .unset, .unset, .unset, .unset, .unset, .unset, .unset, .unset, .unset]) rfl k) ?_
  obtain ⟨lq, h_lq⟩ : ∃ z, z = ((p1.toInt64) &&& (1073741823 : Int64)) := ⟨_, rfl⟩
  rw [← h_lq]
  show GoW _ _ _ _ _ _ _ T0 (mkF m 16 #[.val (.int p0), .val (.int p1), .val (.int p2), .val (.int p3), .val (.long lr), .second, .val (.long lq), .second, .unset, .unset, .unset, .unset, .unset, .unset, .unset, .unset, .unset, .unset, .unset, .unset, .unset, .unset] [])
  refine GoW.step (fun _ k => XS.lload X0.here hx rfl (hb hby at_16) rfl k) ?_
  show GoW _ _ _ _ _ _ _ T0 (mkF m 18 #[.val (.int p0), .val (.int p1), .val (.int p2), .val (.int p3), .val (.long lr), .second, .val (.long lq), .second, .unset, .unset, .unset, .unset, .unset, .unset, .unset, .unset, .unset, .unset, .unset, .unset, .unset, .unset] [(.long lr)])
  refine GoW.step (fun _ k => XS.lload X0.here hx rfl (hb hby at_18) rfl k) ?_
  show GoW _ _ _ _ _ _ _ T0 (mkF m 20 #[.val (.int p0), .val (.int p1), .val (.int p2), .val (.int p3), .val (.long lr), .second, .val (.long lq), .second, .unset, .unset, .unset, .unset, .unset, .unset, .unset, .unset, .unset, .unset, .unset, .unset, .unset, .unset] [(.long lq), (.long lr)])
  refine GoW.step (fun _ k => XS.ladd X0.here hx rfl (hb hby at_20) rfl k) ?_
  show GoW _ _ _ _ _ _ _ T0 (mkF m 21 #[.val (.int p0), .val (.int p1), .val (.int p2), .val (.int p3), .val (.long lr), .second, .val (.long lq), .second, .unset, .unset, .unset, .unset, .unset, .unset, .unset, .unset, .unset, .unset, .unset, .unset, .unset, .unset] [(.long (lr + lq))])
  refine GoW.step (fun _ k => XS.lstore X0.here hx rfl (hb hby at_21) rfl (l' := #[.val (.int p0), .val (.int p1), .val (.int p2), .val (.int p3), .val (.long lr), .second, .val (.long lq), .second, .val (.long (lr + lq)), .second, .unset, .unset, .unset, .unset, .unset, .unset, .unset, .unset, .unset, .unset, .unset, .unset]) rfl k) ?_
  obtain ⟨ls, h_ls⟩ : ∃ z, z = (lr + lq) := ⟨_, rfl⟩
  rw [← h_ls]
  show GoW _ _ _ _ _ _ _ T0 (mkF m 23 #[.val (.int p0), .val (.int p1), .val (.int p2), .val (.int p3), .val (.long lr), .second, .val (.long lq), .second, .val (.long ls), .second, .unset, .unset, .unset, .unset, .unset, .unset, .unset, .unset, .unset, .unset, .unset, .unset] [])
  refine GoW.step (fun _ k => XS.lload X0.here hx rfl (hb hby at_23) rfl k) ?_
  show GoW _ _ _ _ _ _ _ T0 (mkF m 25 #[.val (.int p0), .val (.int p1), .val (.int p2), .val (.int p3), .val (.long lr), .second, .val (.long lq), .second, .val (.long ls), .second, .unset, .unset, .unset, .unset, .unset, .unset, .unset, .unset, .unset, .unset, .unset, .unset] [(.long ls)])
  refine GoW.step (fun _ k => XS.lconst X0.here hx rfl (hb hby at_25) k) ?_
  show GoW _ _ _ _ _ _ _ T0 (mkF m 26 #[.val (.int p0), .val (.int p1), .val (.int p2), .val (.int p3), .val (.long lr), .second, .val (.long lq), .second, .val (.long ls), .second, .unset, .unset, .unset, .unset, .unset, .unset, .unset, .unset, .unset, .unset, .unset, .unset] [(.long (0 : Int64)), (.long ls)])
  refine GoW.step (fun _ k => XS.lcmp X0.here hx rfl (hb hby at_26) rfl k) ?_
  show GoW _ _ _ _ _ _ _ T0 (mkF m 27 #[.val (.int p0), .val (.int p1), .val (.int p2), .val (.int p3), .val (.long lr), .second, .val (.long lq), .second, .val (.long ls), .second, .unset, .unset, .unset, .unset, .unset, .unset, .unset, .unset, .unset, .unset, .unset, .unset] [(.int (lcmpW ls (0 : Int64)))])
  by_cases hc27_1 : ls = (0 : Int64)
  · refine GoW.step (fun _ k => XS.ifNo X0.here hx rfl (hb hby at_27) rfl ((if0 _ _).trans (teq ((lw_eq ls (0 : Int64)).mpr hc27_1)).2) k) ?_
    show GoW _ _ _ _ _ _ _ T0 (mkF m 30 #[.val (.int p0), .val (.int p1), .val (.int p2), .val (.int p3), .val (.long lr), .second, .val (.long lq), .second, .val (.long ls), .second, .unset, .unset, .unset, .unset, .unset, .unset, .unset, .unset, .unset, .unset, .unset, .unset] [])
    refine GoW.step (fun _ k => XS.iconst X0.here hx rfl (hb hby at_30) k) ?_
    show GoW _ _ _ _ _ _ _ T0 (mkF m 31 #[.val (.int p0), .val (.int p1), .val (.int p2), .val (.int p3), .val (.long lr), .second, .val (.long lq), .second, .val (.long ls), .second, .unset, .unset, .unset, .unset, .unset, .unset, .unset, .unset, .unset, .unset, .unset, .unset] [(.int (1 : Int32))])
    refine GoW.retZ X0 hS hk e0 hx hlk hret (by decide) (hb hby at_31) (by decide) (by decide) ?_
    try rw [e0]
    exact ⟨rfl, N0⟩
  · refine GoW.step (fun _ k => XS.ifYes X0.here hx rfl (pc0 := 27) (pc' := 32) rfl (hb hby at_27) rfl ((if0 _ _).trans (feq (fun q => hc27_1 ((lw_eq ls (0 : Int64)).mp q))).2) (by decide) (by decide) k) ?_
    show GoW _ _ _ _ _ _ _ T0 (mkF m 32 #[.val (.int p0), .val (.int p1), .val (.int p2), .val (.int p3), .val (.long lr), .second, .val (.long lq), .second, .val (.long ls), .second, .unset, .unset, .unset, .unset, .unset, .unset, .unset, .unset, .unset, .unset, .unset, .unset] [])
    refine GoW.step (fun _ k => XS.iloadN X0.here hx rfl (hb hby at_32) rfl k) ?_
    show GoW _ _ _ _ _ _ _ T0 (mkF m 33 #[.val (.int p0), .val (.int p1), .val (.int p2), .val (.int p3), .val (.long lr), .second, .val (.long lq), .second, .val (.long ls), .second, .unset, .unset, .unset, .unset, .unset, .unset, .unset, .unset, .unset, .unset, .unset, .unset] [(.int p2)])
    refine GoW.step (fun _ k => XS.i2l X0.here hx rfl (hb hby at_33) rfl k) ?_
    show GoW _ _ _ _ _ _ _ T0 (mkF m 34 #[.val (.int p0), .val (.int p1), .val (.int p2), .val (.int p3), .val (.long lr), .second, .val (.long lq), .second, .val (.long ls), .second, .unset, .unset, .unset, .unset, .unset, .unset, .unset, .unset, .unset, .unset, .unset, .unset] [(.long (p2.toInt64))])
    refine GoW.step (X0.ldc2Long hx hown (mvT hZ (hw _ (mI 1 rfl))) (g := (mkF m 34 #[.val (.int p0), .val (.int p1), .val (.int p2), .val (.int p3), .val (.long lr), .second, .val (.long lq), .second, .val (.long ls), .second, .unset, .unset, .unset, .unset, .unset, .unset, .unset, .unset, .unset, .unset, .unset, .unset] [(.long (p2.toInt64))])) rfl (hb hby at_34)) ?_
    show GoW _ _ _ _ _ _ _ T0 (mkF m 37 #[.val (.int p0), .val (.int p1), .val (.int p2), .val (.int p3), .val (.long lr), .second, .val (.long lq), .second, .val (.long ls), .second, .unset, .unset, .unset, .unset, .unset, .unset, .unset, .unset, .unset, .unset, .unset, .unset] [(.long (2147483647 : Int64)), (.long (p2.toInt64))])
    refine GoW.step (fun _ k => XS.land X0.here hx rfl (hb hby at_37) rfl k) ?_
    show GoW _ _ _ _ _ _ _ T0 (mkF m 38 #[.val (.int p0), .val (.int p1), .val (.int p2), .val (.int p3), .val (.long lr), .second, .val (.long lq), .second, .val (.long ls), .second, .unset, .unset, .unset, .unset, .unset, .unset, .unset, .unset, .unset, .unset, .unset, .unset] [(.long ((p2.toInt64) &&& (2147483647 : Int64)))])
    refine GoW.step (fun _ k => XS.lload X0.here hx rfl (hb hby at_38) rfl k) ?_
    show GoW _ _ _ _ _ _ _ T0 (mkF m 40 #[.val (.int p0), .val (.int p1), .val (.int p2), .val (.int p3), .val (.long lr), .second, .val (.long lq), .second, .val (.long ls), .second, .unset, .unset, .unset, .unset, .unset, .unset, .unset, .unset, .unset, .unset, .unset, .unset] [(.long ls), (.long ((p2.toInt64) &&& (2147483647 : Int64)))])
    refine GoW.step (fun _ k => XS.lrem X0.here hx rfl (hb hby at_40) rfl hc27_1 k) ?_
    show GoW _ _ _ _ _ _ _ T0 (mkF m 41 #[.val (.int p0), .val (.int p1), .val (.int p2), .val (.int p3), .val (.long lr), .second, .val (.long lq), .second, .val (.long ls), .second, .unset, .unset, .unset, .unset, .unset, .unset, .unset, .unset, .unset, .unset, .unset, .unset] [(.long (((p2.toInt64) &&& (2147483647 : Int64)) - (((p2.toInt64) &&& (2147483647 : Int64)) / ls) * ls))])
    refine GoW.step (fun _ k => XS.lstore X0.here hx rfl (hb hby at_41) rfl (l' := #[.val (.int p0), .val (.int p1), .val (.int p2), .val (.int p3), .val (.long lr), .second, .val (.long lq), .second, .val (.long ls), .second, .val (.long (((p2.toInt64) &&& (2147483647 : Int64)) - (((p2.toInt64) &&& (2147483647 : Int64)) / ls) * ls)), .second, .unset, .unset, .unset, .unset, .unset, .unset, .unset, .unset, .unset, .unset]) rfl k) ?_
    obtain ⟨lc, h_lc⟩ : ∃ z, z = (((p2.toInt64) &&& (2147483647 : Int64)) - (((p2.toInt64) &&& (2147483647 : Int64)) / ls) * ls) := ⟨_, rfl⟩
    rw [← h_lc]
    have hB := own_bounds h_lr h_lq h_ls hc27_1 h_lc
    show GoW _ _ _ _ _ _ _ T0 (mkF m 43 #[.val (.int p0), .val (.int p1), .val (.int p2), .val (.int p3), .val (.long lr), .second, .val (.long lq), .second, .val (.long ls), .second, .val (.long lc), .second, .unset, .unset, .unset, .unset, .unset, .unset, .unset, .unset, .unset, .unset] [])
    refine GoW.step (fun _ k => XS.lload X0.here hx rfl (hb hby at_43) rfl k) ?_
    show GoW _ _ _ _ _ _ _ T0 (mkF m 45 #[.val (.int p0), .val (.int p1), .val (.int p2), .val (.int p3), .val (.long lr), .second, .val (.long lq), .second, .val (.long ls), .second, .val (.long lc), .second, .unset, .unset, .unset, .unset, .unset, .unset, .unset, .unset, .unset, .unset] [(.long ls)])
    refine GoW.step (fun _ k => XS.lload X0.here hx rfl (hb hby at_45) rfl k) ?_
    show GoW _ _ _ _ _ _ _ T0 (mkF m 47 #[.val (.int p0), .val (.int p1), .val (.int p2), .val (.int p3), .val (.long lr), .second, .val (.long lq), .second, .val (.long ls), .second, .val (.long lc), .second, .unset, .unset, .unset, .unset, .unset, .unset, .unset, .unset, .unset, .unset] [(.long lc), (.long ls)])
    refine GoW.step (fun _ k => XS.lsub X0.here hx rfl (hb hby at_47) rfl k) ?_
    show GoW _ _ _ _ _ _ _ T0 (mkF m 48 #[.val (.int p0), .val (.int p1), .val (.int p2), .val (.int p3), .val (.long lr), .second, .val (.long lq), .second, .val (.long ls), .second, .val (.long lc), .second, .unset, .unset, .unset, .unset, .unset, .unset, .unset, .unset, .unset, .unset] [(.long (ls - lc))])
    refine GoW.step (fun _ k => XS.l2dS X0.here hx rfl (hb hby at_48) rfl rfl k) ?_
    show GoW _ _ _ _ _ _ _ T0 (mkF m 49 #[.val (.int p0), .val (.int p1), .val (.int p2), .val (.int p3), .val (.long lr), .second, .val (.long lq), .second, .val (.long ls), .second, .val (.long lc), .second, .unset, .unset, .unset, .unset, .unset, .unset, .unset, .unset, .unset, .unset] [(.double (FP.l2d (ls - lc)))])
    refine GoW.step (fun _ k => XS.lload X0.here hx rfl (hb hby at_49) rfl k) ?_
    show GoW _ _ _ _ _ _ _ T0 (mkF m 51 #[.val (.int p0), .val (.int p1), .val (.int p2), .val (.int p3), .val (.long lr), .second, .val (.long lq), .second, .val (.long ls), .second, .val (.long lc), .second, .unset, .unset, .unset, .unset, .unset, .unset, .unset, .unset, .unset, .unset] [(.long ls), (.double (FP.l2d (ls - lc)))])
    refine GoW.step (fun _ k => XS.l2dS X0.here hx rfl (hb hby at_51) rfl rfl k) ?_
    show GoW _ _ _ _ _ _ _ T0 (mkF m 52 #[.val (.int p0), .val (.int p1), .val (.int p2), .val (.int p3), .val (.long lr), .second, .val (.long lq), .second, .val (.long ls), .second, .val (.long lc), .second, .unset, .unset, .unset, .unset, .unset, .unset, .unset, .unset, .unset, .unset] [(.double (FP.l2d ls)), (.double (FP.l2d (ls - lc)))])
    refine GoW.step (fun _ k => XS.ddivS X0.here hx rfl (hb hby at_52) rfl (Jvm.Free.Fl.ddiv_out (Jvm.Free.Fl.l2d_fin _).noNaN (Jvm.Free.Fl.l2d_fin _) (own_nz hc27_1)) rfl k) ?_
    show GoW _ _ _ _ _ _ _ T0 (mkF m 53 #[.val (.int p0), .val (.int p1), .val (.int p2), .val (.int p3), .val (.long lr), .second, .val (.long lq), .second, .val (.long ls), .second, .val (.long lc), .second, .unset, .unset, .unset, .unset, .unset, .unset, .unset, .unset, .unset, .unset] [(.double (FP.ddiv (FP.l2d (ls - lc)) (FP.l2d ls)))])
    refine GoW.step (fun _ k => XS.dstore X0.here hx rfl (hb hby at_53) rfl (l' := #[.val (.int p0), .val (.int p1), .val (.int p2), .val (.int p3), .val (.long lr), .second, .val (.long lq), .second, .val (.long ls), .second, .val (.long lc), .second, .val (.double (FP.ddiv (FP.l2d (ls - lc)) (FP.l2d ls))), .second, .unset, .unset, .unset, .unset, .unset, .unset, .unset, .unset]) rfl k) ?_
    show GoW _ _ _ _ _ _ _ T0 (mkF m 55 #[.val (.int p0), .val (.int p1), .val (.int p2), .val (.int p3), .val (.long lr), .second, .val (.long lq), .second, .val (.long ls), .second, .val (.long lc), .second, .val (.double (FP.ddiv (FP.l2d (ls - lc)) (FP.l2d ls))), .second, .unset, .unset, .unset, .unset, .unset, .unset, .unset, .unset] [])
    refine GoW.step (fun _ k => XS.lconst X0.here hx rfl (hb hby at_55) k) ?_
    show GoW _ _ _ _ _ _ _ T0 (mkF m 56 #[.val (.int p0), .val (.int p1), .val (.int p2), .val (.int p3), .val (.long lr), .second, .val (.long lq), .second, .val (.long ls), .second, .val (.long lc), .second, .val (.double (FP.ddiv (FP.l2d (ls - lc)) (FP.l2d ls))), .second, .unset, .unset, .unset, .unset, .unset, .unset, .unset, .unset] [(.long (1 : Int64))])
    refine GoW.step (fun _ k => XS.iloadN X0.here hx rfl (hb hby at_56) rfl k) ?_
    show GoW _ _ _ _ _ _ _ T0 (mkF m 57 #[.val (.int p0), .val (.int p1), .val (.int p2), .val (.int p3), .val (.long lr), .second, .val (.long lq), .second, .val (.long ls), .second, .val (.long lc), .second, .val (.double (FP.ddiv (FP.l2d (ls - lc)) (FP.l2d ls))), .second, .unset, .unset, .unset, .unset, .unset, .unset, .unset, .unset] [(.int p3), (.long (1 : Int64))])
    refine GoW.step (fun _ k => XS.bipush X0.here hx rfl (hb hby at_57) k) ?_
    show GoW _ _ _ _ _ _ _ T0 (mkF m 59 #[.val (.int p0), .val (.int p1), .val (.int p2), .val (.int p3), .val (.long lr), .second, .val (.long lq), .second, .val (.long ls), .second, .val (.long lc), .second, .val (.double (FP.ddiv (FP.l2d (ls - lc)) (FP.l2d ls))), .second, .unset, .unset, .unset, .unset, .unset, .unset, .unset, .unset] [(.int (63 : Int32)), (.int p3), (.long (1 : Int64))])
    refine GoW.step (fun _ k => XS.iand X0.here hx rfl (hb hby at_59) rfl k) ?_
    show GoW _ _ _ _ _ _ _ T0 (mkF m 60 #[.val (.int p0), .val (.int p1), .val (.int p2), .val (.int p3), .val (.long lr), .second, .val (.long lq), .second, .val (.long ls), .second, .val (.long lc), .second, .val (.double (FP.ddiv (FP.l2d (ls - lc)) (FP.l2d ls))), .second, .unset, .unset, .unset, .unset, .unset, .unset, .unset, .unset] [(.int (p3 &&& (63 : Int32))), (.long (1 : Int64))])
    refine GoW.step (fun _ k => XS.bipush X0.here hx rfl (hb hby at_60) k) ?_
    show GoW _ _ _ _ _ _ _ T0 (mkF m 62 #[.val (.int p0), .val (.int p1), .val (.int p2), .val (.int p3), .val (.long lr), .second, .val (.long lq), .second, .val (.long ls), .second, .val (.long lc), .second, .val (.double (FP.ddiv (FP.l2d (ls - lc)) (FP.l2d ls))), .second, .unset, .unset, .unset, .unset, .unset, .unset, .unset, .unset] [(.int (63 : Int32)), (.int (p3 &&& (63 : Int32))), (.long (1 : Int64))])
    refine GoW.step (fun _ k => iremM X0 hx rfl (hb hby at_62) rfl (by decide) k) ?_
    show GoW _ _ _ _ _ _ _ T0 (mkF m 63 #[.val (.int p0), .val (.int p1), .val (.int p2), .val (.int p3), .val (.long lr), .second, .val (.long lq), .second, .val (.long ls), .second, .val (.long lc), .second, .val (.double (FP.ddiv (FP.l2d (ls - lc)) (FP.l2d ls))), .second, .unset, .unset, .unset, .unset, .unset, .unset, .unset, .unset] [(.int ((p3 &&& (63 : Int32)) % (63 : Int32))), (.long (1 : Int64))])
    refine GoW.step (fun _ k => XS.lshl X0.here hx rfl (hb hby at_63) rfl k) ?_
    show GoW _ _ _ _ _ _ _ T0 (mkF m 64 #[.val (.int p0), .val (.int p1), .val (.int p2), .val (.int p3), .val (.long lr), .second, .val (.long lq), .second, .val (.long ls), .second, .val (.long lc), .second, .val (.double (FP.ddiv (FP.l2d (ls - lc)) (FP.l2d ls))), .second, .unset, .unset, .unset, .unset, .unset, .unset, .unset, .unset] [(.long ((1 : Int64) <<< (((p3 &&& (63 : Int32)) % (63 : Int32)) &&& 0x3f).toInt64))])
    refine GoW.step (fun _ k => XS.l2dS X0.here hx rfl (hb hby at_64) rfl rfl k) ?_
    show GoW _ _ _ _ _ _ _ T0 (mkF m 65 #[.val (.int p0), .val (.int p1), .val (.int p2), .val (.int p3), .val (.long lr), .second, .val (.long lq), .second, .val (.long ls), .second, .val (.long lc), .second, .val (.double (FP.ddiv (FP.l2d (ls - lc)) (FP.l2d ls))), .second, .unset, .unset, .unset, .unset, .unset, .unset, .unset, .unset] [(.double (FP.l2d ((1 : Int64) <<< (((p3 &&& (63 : Int32)) % (63 : Int32)) &&& 0x3f).toInt64)))])
    refine GoW.step (fun _ k => XS.dstore X0.here hx rfl (hb hby at_65) rfl (l' := #[.val (.int p0), .val (.int p1), .val (.int p2), .val (.int p3), .val (.long lr), .second, .val (.long lq), .second, .val (.long ls), .second, .val (.long lc), .second, .val (.double (FP.ddiv (FP.l2d (ls - lc)) (FP.l2d ls))), .second, .val (.double (FP.l2d ((1 : Int64) <<< (((p3 &&& (63 : Int32)) % (63 : Int32)) &&& 0x3f).toInt64))), .second, .unset, .unset, .unset, .unset, .unset, .unset]) rfl k) ?_
    obtain ⟨sc, h_sc⟩ : ∃ z, z = (FP.l2d ((1 : Int64) <<< (((p3 &&& (63 : Int32)) % (63 : Int32)) &&& 0x3f).toInt64)) := ⟨_, rfl⟩
    rw [← h_sc]
    have hsc := own_sc h_sc
    have H1 := own_cp1 hB
    have H2 := own_cp2 hB hsc
    have G1 := own_gp1 hB
    have G2 := own_gp2 hB hsc
    show GoW _ _ _ _ _ _ _ T0 (mkF m 67 #[.val (.int p0), .val (.int p1), .val (.int p2), .val (.int p3), .val (.long lr), .second, .val (.long lq), .second, .val (.long ls), .second, .val (.long lc), .second, .val (.double (FP.ddiv (FP.l2d (ls - lc)) (FP.l2d ls))), .second, .val (.double sc), .second, .unset, .unset, .unset, .unset, .unset, .unset] [])
    obtain ⟨T2, h2, X2, e2, E2, A2, D2, -, st2⟩ := newO X0 hx hZ hown (hw _ (mI 2 rfl)) (hw _ (mI 3 rfl)) (hw _ (mI 4 rfl)) e0 (g := (mkF m 67 #[.val (.int p0), .val (.int p1), .val (.int p2), .val (.int p3), .val (.long lr), .second, .val (.long lq), .second, .val (.long ls), .second, .val (.long lc), .second, .val (.double (FP.ddiv (FP.l2d (ls - lc)) (FP.l2d ls))), .second, .val (.double sc), .second, .unset, .unset, .unset, .unset, .unset, .unset] [])) rfl (hb hby at_67) (by decide) (by decide)
    obtain ⟨b2, g2⟩ : ∃ z, z = h0.size := ⟨_, rfl⟩
    rw [← g2] at A2 D2 st2
    refine GoW.step st2 ?_
    have K2 : Keep h0 h2 [] := (Keep.refl h0 []).ext E2
    have sz_b2 : h0.size ≤ b2 := Nat.le_trans ((Keep.refl h0 []) : Keep h0 h0 []).1 (Nat.le_of_eq g2.symm)
    have ge_b2 : n0 ≤ b2 := Nat.le_trans Z0 sz_b2
    have hk_2 := hk.ext E2
    have E_b2 := A2
    have F_revenue_b2 : Fld Z h2 b2 "com/example/headroom/headroom/Sizing$ProfitPrices" "revenue" "D" (.double (0 : UInt64)) := D2 (Or.inr (hw _ (mI 43 rfl))) (ty := .double) (by decide)
    have F_unitCost_b2 : Fld Z h2 b2 "com/example/headroom/headroom/Sizing$ProfitPrices" "unitCost" "D" (.double (0 : UInt64)) := D2 (Or.inr (hw _ (mI 45 rfl))) (ty := .double) (by decide)
    have F_penalty_b2 : Fld Z h2 b2 "com/example/headroom/headroom/Sizing$ProfitPrices" "penalty" "D" (.double (0 : UInt64)) := D2 (Or.inr (hw _ (mI 47 rfl))) (ty := .double) (by decide)
    show GoW _ _ _ _ _ _ _ T2 (mkF m 70 #[.val (.int p0), .val (.int p1), .val (.int p2), .val (.int p3), .val (.long lr), .second, .val (.long lq), .second, .val (.long ls), .second, .val (.long lc), .second, .val (.double (FP.ddiv (FP.l2d (ls - lc)) (FP.l2d ls))), .second, .val (.double sc), .second, .unset, .unset, .unset, .unset, .unset, .unset] [(.ref b2)])
    refine GoW.step (fun _ k => XS.dup X2.here hx rfl (hb hby at_70) rfl rfl k) ?_
    show GoW _ _ _ _ _ _ _ T2 (mkF m 71 #[.val (.int p0), .val (.int p1), .val (.int p2), .val (.int p3), .val (.long lr), .second, .val (.long lq), .second, .val (.long ls), .second, .val (.long lc), .second, .val (.double (FP.ddiv (FP.l2d (ls - lc)) (FP.l2d ls))), .second, .val (.double sc), .second, .unset, .unset, .unset, .unset, .unset, .unset] [(.ref b2), (.ref b2)])
    refine GoW.step (fun _ k => XS.lload X2.here hx rfl (hb hby at_71) rfl k) ?_
    show GoW _ _ _ _ _ _ _ T2 (mkF m 73 #[.val (.int p0), .val (.int p1), .val (.int p2), .val (.int p3), .val (.long lr), .second, .val (.long lq), .second, .val (.long ls), .second, .val (.long lc), .second, .val (.double (FP.ddiv (FP.l2d (ls - lc)) (FP.l2d ls))), .second, .val (.double sc), .second, .unset, .unset, .unset, .unset, .unset, .unset] [(.long lr), (.ref b2), (.ref b2)])
    refine GoW.step (fun _ k => XS.l2dS X2.here hx rfl (hb hby at_73) rfl rfl k) ?_
    show GoW _ _ _ _ _ _ _ T2 (mkF m 74 #[.val (.int p0), .val (.int p1), .val (.int p2), .val (.int p3), .val (.long lr), .second, .val (.long lq), .second, .val (.long ls), .second, .val (.long lc), .second, .val (.double (FP.ddiv (FP.l2d (ls - lc)) (FP.l2d ls))), .second, .val (.double sc), .second, .unset, .unset, .unset, .unset, .unset, .unset] [(.double (FP.l2d lr)), (.ref b2), (.ref b2)])
    refine GoW.step (fun _ k => XS.lload X2.here hx rfl (hb hby at_74) rfl k) ?_
    show GoW _ _ _ _ _ _ _ T2 (mkF m 76 #[.val (.int p0), .val (.int p1), .val (.int p2), .val (.int p3), .val (.long lr), .second, .val (.long lq), .second, .val (.long ls), .second, .val (.long lc), .second, .val (.double (FP.ddiv (FP.l2d (ls - lc)) (FP.l2d ls))), .second, .val (.double sc), .second, .unset, .unset, .unset, .unset, .unset, .unset] [(.long lc), (.double (FP.l2d lr)), (.ref b2), (.ref b2)])
    refine GoW.step (fun _ k => XS.l2dS X2.here hx rfl (hb hby at_76) rfl rfl k) ?_
    show GoW _ _ _ _ _ _ _ T2 (mkF m 77 #[.val (.int p0), .val (.int p1), .val (.int p2), .val (.int p3), .val (.long lr), .second, .val (.long lq), .second, .val (.long ls), .second, .val (.long lc), .second, .val (.double (FP.ddiv (FP.l2d (ls - lc)) (FP.l2d ls))), .second, .val (.double sc), .second, .unset, .unset, .unset, .unset, .unset, .unset] [(.double (FP.l2d lc)), (.double (FP.l2d lr)), (.ref b2), (.ref b2)])
    refine GoW.step (fun _ k => XS.lload X2.here hx rfl (hb hby at_77) rfl k) ?_
    show GoW _ _ _ _ _ _ _ T2 (mkF m 79 #[.val (.int p0), .val (.int p1), .val (.int p2), .val (.int p3), .val (.long lr), .second, .val (.long lq), .second, .val (.long ls), .second, .val (.long lc), .second, .val (.double (FP.ddiv (FP.l2d (ls - lc)) (FP.l2d ls))), .second, .val (.double sc), .second, .unset, .unset, .unset, .unset, .unset, .unset] [(.long lq), (.double (FP.l2d lc)), (.double (FP.l2d lr)), (.ref b2), (.ref b2)])
    refine GoW.step (fun _ k => XS.l2dS X2.here hx rfl (hb hby at_79) rfl rfl k) ?_
    show GoW _ _ _ _ _ _ _ T2 (mkF m 80 #[.val (.int p0), .val (.int p1), .val (.int p2), .val (.int p3), .val (.long lr), .second, .val (.long lq), .second, .val (.long ls), .second, .val (.long lc), .second, .val (.double (FP.ddiv (FP.l2d (ls - lc)) (FP.l2d ls))), .second, .val (.double sc), .second, .unset, .unset, .unset, .unset, .unset, .unset] [(.double (FP.l2d lq)), (.double (FP.l2d lc)), (.double (FP.l2d lr)), (.ref b2), (.ref b2)])
    refine GoW.callIW X2 hS hk_2 hx hZ (by rw [hml]; rfl) (y := (⟨"com/example/headroom/headroom/Sizing$ProfitPrices", "<init>", "(DDD)V"⟩ : MethodName)) (a := b2) (argsL := [(.double (FP.l2d lr)), (.double (FP.l2d lc)), (.double (FP.l2d lq))]) (rest := [(.ref b2)]) rfl hown (hw _ (mI 5 rfl)) (hw _ (mI 6 rfl)) (hw _ (mI 4 rfl)) (hw _ (mI 7 rfl)) (by decide) (rm1 l Z a0 hw b2 (FP.l2d lr) (FP.l2d lc) (FP.l2d lq) h2 n0 (Nat.le_trans Z0 (K2 : Keep h0 h2 []).1) E_b2 F_revenue_b2 F_unitCost_b2 F_penalty_b2 ge_b2 H1.1 H1.2.1 H1.2.2.1 H1.2.2.2.1 H1.2.2.2.2.1 H1.2.2.2.2.2.1 H1.2.2.2.2.2.2.1 H1.2.2.2.2.2.2.2) e2 (hb hby at_80) (lenOf pd_4 rfl) rfl rfl (W := 1) (Nat.le_of_eq rfl) (by decide) (by decide) (by decide) (by decide) ?_
    intro v3 T3 L3 X3 Q3 hS hZ hown
    obtain ⟨rfl, N3q, Kc3, Ec3, F3_revenue_b2, F3_unitCost_b2, F3_penalty_b2⟩ := Q3
    have N3 := Fr.app N0 N3q
    have E_b2_3 := E_b2.keep Kc3
    have KK3 : Keep h0 T3.heap [] := (K2 : Keep h0 h2 []).trans Kc3 (allS (Or.inr sz_b2) all0)
    have hk_3 : Szk T3.heap.size T3.heap := Nat.le_refl _
    show GoW _ _ _ _ _ _ _ T3 (mkF m 83 #[.val (.int p0), .val (.int p1), .val (.int p2), .val (.int p3), .val (.long lr), .second, .val (.long lq), .second, .val (.long ls), .second, .val (.long lc), .second, .val (.double (FP.ddiv (FP.l2d (ls - lc)) (FP.l2d ls))), .second, .val (.double sc), .second, .unset, .unset, .unset, .unset, .unset, .unset] [(.ref b2)])
    refine GoW.step (fun _ k => XS.astore X3.here hx rfl (hb hby at_83) rfl rfl (l' := #[.val (.int p0), .val (.int p1), .val (.int p2), .val (.int p3), .val (.long lr), .second, .val (.long lq), .second, .val (.long ls), .second, .val (.long lc), .second, .val (.double (FP.ddiv (FP.l2d (ls - lc)) (FP.l2d ls))), .second, .val (.double sc), .second, .val (.ref b2), .unset, .unset, .unset, .unset, .unset]) rfl k) ?_
    show GoW _ _ _ _ _ _ _ T3 (mkF m 85 #[.val (.int p0), .val (.int p1), .val (.int p2), .val (.int p3), .val (.long lr), .second, .val (.long lq), .second, .val (.long ls), .second, .val (.long lc), .second, .val (.double (FP.ddiv (FP.l2d (ls - lc)) (FP.l2d ls))), .second, .val (.double sc), .second, .val (.ref b2), .unset, .unset, .unset, .unset, .unset] [])
    obtain ⟨T4, h4, X4, e4, E4, A4, D4, -, st4⟩ := newO X3 hx hZ hown (hw _ (mI 2 rfl)) (hw _ (mI 3 rfl)) (hw _ (mI 4 rfl)) rfl (g := (mkF m 85 #[.val (.int p0), .val (.int p1), .val (.int p2), .val (.int p3), .val (.long lr), .second, .val (.long lq), .second, .val (.long ls), .second, .val (.long lc), .second, .val (.double (FP.ddiv (FP.l2d (ls - lc)) (FP.l2d ls))), .second, .val (.double sc), .second, .val (.ref b2), .unset, .unset, .unset, .unset, .unset] [])) rfl (hb hby at_85) (by decide) (by decide)
    obtain ⟨b4, g4⟩ : ∃ z, z = T3.heap.size := ⟨_, rfl⟩
    rw [← g4] at A4 D4 st4
    refine GoW.step st4 ?_
    have K4 : Keep h0 h4 [] := KK3.ext E4
    have sz_b4 : h0.size ≤ b4 := Nat.le_trans (KK3 : Keep h0 T3.heap []).1 (Nat.le_of_eq g4.symm)
    have ge_b4 : n0 ≤ b4 := Nat.le_trans Z0 sz_b4
    have ne_b2_b4 : b2 ≠ b4 := Nat.ne_of_lt (Nat.lt_of_lt_of_le E_b2_3.lt (Nat.le_of_eq g4.symm))
    have E_b2_4 := E_b2_3.ext E4
    have F3_revenue_b2_4 := F3_revenue_b2.ext E4
    have F3_unitCost_b2_4 := F3_unitCost_b2.ext E4
    have F3_penalty_b2_4 := F3_penalty_b2.ext E4
    have hk_4 := hk_3.ext E4
    have E_b4 := A4
    have F_revenue_b4 : Fld Z h4 b4 "com/example/headroom/headroom/Sizing$ProfitPrices" "revenue" "D" (.double (0 : UInt64)) := D4 (Or.inr (hw _ (mI 43 rfl))) (ty := .double) (by decide)
    have F_unitCost_b4 : Fld Z h4 b4 "com/example/headroom/headroom/Sizing$ProfitPrices" "unitCost" "D" (.double (0 : UInt64)) := D4 (Or.inr (hw _ (mI 45 rfl))) (ty := .double) (by decide)
    have F_penalty_b4 : Fld Z h4 b4 "com/example/headroom/headroom/Sizing$ProfitPrices" "penalty" "D" (.double (0 : UInt64)) := D4 (Or.inr (hw _ (mI 47 rfl))) (ty := .double) (by decide)
    show GoW _ _ _ _ _ _ _ T4 (mkF m 88 #[.val (.int p0), .val (.int p1), .val (.int p2), .val (.int p3), .val (.long lr), .second, .val (.long lq), .second, .val (.long ls), .second, .val (.long lc), .second, .val (.double (FP.ddiv (FP.l2d (ls - lc)) (FP.l2d ls))), .second, .val (.double sc), .second, .val (.ref b2), .unset, .unset, .unset, .unset, .unset] [(.ref b4)])
    refine GoW.step (fun _ k => XS.dup X4.here hx rfl (hb hby at_88) rfl rfl k) ?_
    show GoW _ _ _ _ _ _ _ T4 (mkF m 89 #[.val (.int p0), .val (.int p1), .val (.int p2), .val (.int p3), .val (.long lr), .second, .val (.long lq), .second, .val (.long ls), .second, .val (.long lc), .second, .val (.double (FP.ddiv (FP.l2d (ls - lc)) (FP.l2d ls))), .second, .val (.double sc), .second, .val (.ref b2), .unset, .unset, .unset, .unset, .unset] [(.ref b4), (.ref b4)])
    refine GoW.step (fun _ k => XS.lload X4.here hx rfl (hb hby at_89) rfl k) ?_
    show GoW _ _ _ _ _ _ _ T4 (mkF m 91 #[.val (.int p0), .val (.int p1), .val (.int p2), .val (.int p3), .val (.long lr), .second, .val (.long lq), .second, .val (.long ls), .second, .val (.long lc), .second, .val (.double (FP.ddiv (FP.l2d (ls - lc)) (FP.l2d ls))), .second, .val (.double sc), .second, .val (.ref b2), .unset, .unset, .unset, .unset, .unset] [(.long lq), (.ref b4), (.ref b4)])
    refine GoW.step (fun _ k => XS.l2dS X4.here hx rfl (hb hby at_91) rfl rfl k) ?_
    show GoW _ _ _ _ _ _ _ T4 (mkF m 92 #[.val (.int p0), .val (.int p1), .val (.int p2), .val (.int p3), .val (.long lr), .second, .val (.long lq), .second, .val (.long ls), .second, .val (.long lc), .second, .val (.double (FP.ddiv (FP.l2d (ls - lc)) (FP.l2d ls))), .second, .val (.double sc), .second, .val (.ref b2), .unset, .unset, .unset, .unset, .unset] [(.double (FP.l2d lq)), (.ref b4), (.ref b4)])
    refine GoW.step (fun _ k => XS.dload X4.here hx rfl (hb hby at_92) rfl k) ?_
    show GoW _ _ _ _ _ _ _ T4 (mkF m 94 #[.val (.int p0), .val (.int p1), .val (.int p2), .val (.int p3), .val (.long lr), .second, .val (.long lq), .second, .val (.long ls), .second, .val (.long lc), .second, .val (.double (FP.ddiv (FP.l2d (ls - lc)) (FP.l2d ls))), .second, .val (.double sc), .second, .val (.ref b2), .unset, .unset, .unset, .unset, .unset] [(.double sc), (.double (FP.l2d lq)), (.ref b4), (.ref b4)])
    refine GoW.step (fun _ k => XS.dmulS X4.here hx rfl (hb hby at_94) rfl (Jvm.Free.Fl.dmul_out (Jvm.Free.Fl.l2d_fin _) hsc.1) rfl k) ?_
    show GoW _ _ _ _ _ _ _ T4 (mkF m 95 #[.val (.int p0), .val (.int p1), .val (.int p2), .val (.int p3), .val (.long lr), .second, .val (.long lq), .second, .val (.long ls), .second, .val (.long lc), .second, .val (.double (FP.ddiv (FP.l2d (ls - lc)) (FP.l2d ls))), .second, .val (.double sc), .second, .val (.ref b2), .unset, .unset, .unset, .unset, .unset] [(.double (FP.dmul (FP.l2d lq) sc)), (.ref b4), (.ref b4)])
    refine GoW.step (fun _ k => XS.lload X4.here hx rfl (hb hby at_95) rfl k) ?_
    show GoW _ _ _ _ _ _ _ T4 (mkF m 97 #[.val (.int p0), .val (.int p1), .val (.int p2), .val (.int p3), .val (.long lr), .second, .val (.long lq), .second, .val (.long ls), .second, .val (.long lc), .second, .val (.double (FP.ddiv (FP.l2d (ls - lc)) (FP.l2d ls))), .second, .val (.double sc), .second, .val (.ref b2), .unset, .unset, .unset, .unset, .unset] [(.long lc), (.double (FP.dmul (FP.l2d lq) sc)), (.ref b4), (.ref b4)])
    refine GoW.step (fun _ k => XS.l2dS X4.here hx rfl (hb hby at_97) rfl rfl k) ?_
    show GoW _ _ _ _ _ _ _ T4 (mkF m 98 #[.val (.int p0), .val (.int p1), .val (.int p2), .val (.int p3), .val (.long lr), .second, .val (.long lq), .second, .val (.long ls), .second, .val (.long lc), .second, .val (.double (FP.ddiv (FP.l2d (ls - lc)) (FP.l2d ls))), .second, .val (.double sc), .second, .val (.ref b2), .unset, .unset, .unset, .unset, .unset] [(.double (FP.l2d lc)), (.double (FP.dmul (FP.l2d lq) sc)), (.ref b4), (.ref b4)])
    refine GoW.step (fun _ k => XS.dload X4.here hx rfl (hb hby at_98) rfl k) ?_
    show GoW _ _ _ _ _ _ _ T4 (mkF m 100 #[.val (.int p0), .val (.int p1), .val (.int p2), .val (.int p3), .val (.long lr), .second, .val (.long lq), .second, .val (.long ls), .second, .val (.long lc), .second, .val (.double (FP.ddiv (FP.l2d (ls - lc)) (FP.l2d ls))), .second, .val (.double sc), .second, .val (.ref b2), .unset, .unset, .unset, .unset, .unset] [(.double sc), (.double (FP.l2d lc)), (.double (FP.dmul (FP.l2d lq) sc)), (.ref b4), (.ref b4)])
    refine GoW.step (fun _ k => XS.dmulS X4.here hx rfl (hb hby at_100) rfl (Jvm.Free.Fl.dmul_out (Jvm.Free.Fl.l2d_fin _) hsc.1) rfl k) ?_
    show GoW _ _ _ _ _ _ _ T4 (mkF m 101 #[.val (.int p0), .val (.int p1), .val (.int p2), .val (.int p3), .val (.long lr), .second, .val (.long lq), .second, .val (.long ls), .second, .val (.long lc), .second, .val (.double (FP.ddiv (FP.l2d (ls - lc)) (FP.l2d ls))), .second, .val (.double sc), .second, .val (.ref b2), .unset, .unset, .unset, .unset, .unset] [(.double (FP.dmul (FP.l2d lc) sc)), (.double (FP.dmul (FP.l2d lq) sc)), (.ref b4), (.ref b4)])
    refine GoW.step (fun _ k => XS.lload X4.here hx rfl (hb hby at_101) rfl k) ?_
    show GoW _ _ _ _ _ _ _ T4 (mkF m 103 #[.val (.int p0), .val (.int p1), .val (.int p2), .val (.int p3), .val (.long lr), .second, .val (.long lq), .second, .val (.long ls), .second, .val (.long lc), .second, .val (.double (FP.ddiv (FP.l2d (ls - lc)) (FP.l2d ls))), .second, .val (.double sc), .second, .val (.ref b2), .unset, .unset, .unset, .unset, .unset] [(.long lr), (.double (FP.dmul (FP.l2d lc) sc)), (.double (FP.dmul (FP.l2d lq) sc)), (.ref b4), (.ref b4)])
    refine GoW.step (fun _ k => XS.l2dS X4.here hx rfl (hb hby at_103) rfl rfl k) ?_
    show GoW _ _ _ _ _ _ _ T4 (mkF m 104 #[.val (.int p0), .val (.int p1), .val (.int p2), .val (.int p3), .val (.long lr), .second, .val (.long lq), .second, .val (.long ls), .second, .val (.long lc), .second, .val (.double (FP.ddiv (FP.l2d (ls - lc)) (FP.l2d ls))), .second, .val (.double sc), .second, .val (.ref b2), .unset, .unset, .unset, .unset, .unset] [(.double (FP.l2d lr)), (.double (FP.dmul (FP.l2d lc) sc)), (.double (FP.dmul (FP.l2d lq) sc)), (.ref b4), (.ref b4)])
    refine GoW.step (fun _ k => XS.dload X4.here hx rfl (hb hby at_104) rfl k) ?_
    show GoW _ _ _ _ _ _ _ T4 (mkF m 106 #[.val (.int p0), .val (.int p1), .val (.int p2), .val (.int p3), .val (.long lr), .second, .val (.long lq), .second, .val (.long ls), .second, .val (.long lc), .second, .val (.double (FP.ddiv (FP.l2d (ls - lc)) (FP.l2d ls))), .second, .val (.double sc), .second, .val (.ref b2), .unset, .unset, .unset, .unset, .unset] [(.double sc), (.double (FP.l2d lr)), (.double (FP.dmul (FP.l2d lc) sc)), (.double (FP.dmul (FP.l2d lq) sc)), (.ref b4), (.ref b4)])
    refine GoW.step (fun _ k => XS.dmulS X4.here hx rfl (hb hby at_106) rfl (Jvm.Free.Fl.dmul_out (Jvm.Free.Fl.l2d_fin _) hsc.1) rfl k) ?_
    show GoW _ _ _ _ _ _ _ T4 (mkF m 107 #[.val (.int p0), .val (.int p1), .val (.int p2), .val (.int p3), .val (.long lr), .second, .val (.long lq), .second, .val (.long ls), .second, .val (.long lc), .second, .val (.double (FP.ddiv (FP.l2d (ls - lc)) (FP.l2d ls))), .second, .val (.double sc), .second, .val (.ref b2), .unset, .unset, .unset, .unset, .unset] [(.double (FP.dmul (FP.l2d lr) sc)), (.double (FP.dmul (FP.l2d lc) sc)), (.double (FP.dmul (FP.l2d lq) sc)), (.ref b4), (.ref b4)])
    refine GoW.callIW X4 hS hk_4 hx hZ (by rw [hml]; rfl) (y := (⟨"com/example/headroom/headroom/Sizing$ProfitPrices", "<init>", "(DDD)V"⟩ : MethodName)) (a := b4) (argsL := [(.double (FP.dmul (FP.l2d lq) sc)), (.double (FP.dmul (FP.l2d lc) sc)), (.double (FP.dmul (FP.l2d lr) sc))]) (rest := [(.ref b4)]) rfl hown (hw _ (mI 5 rfl)) (hw _ (mI 6 rfl)) (hw _ (mI 4 rfl)) (hw _ (mI 7 rfl)) (by decide) (rm1 l Z a0 hw b4 (FP.dmul (FP.l2d lq) sc) (FP.dmul (FP.l2d lc) sc) (FP.dmul (FP.l2d lr) sc) h4 n0 (Nat.le_trans Z0 (K4 : Keep h0 h4 []).1) E_b4 F_revenue_b4 F_unitCost_b4 F_penalty_b4 ge_b4 H2.1 H2.2.1 H2.2.2.1 H2.2.2.2.1 H2.2.2.2.2.1 H2.2.2.2.2.2.1 H2.2.2.2.2.2.2.1 H2.2.2.2.2.2.2.2) e4 (hb hby at_107) (lenOf pd_4 rfl) rfl rfl (W := 1) (Nat.le_of_eq rfl) (by decide) (by decide) (by decide) (by decide) ?_
    intro v5 T5 L5 X5 Q5 hS hZ hown
    obtain ⟨rfl, N5q, Kc5, Ec5, F5_revenue_b4, F5_unitCost_b4, F5_penalty_b4⟩ := Q5
    have N5 := Fr.app N3 N5q
    have E_b2_5 := E_b2_4.keep Kc5
    have F3_revenue_b2_5 := F3_revenue_b2_4.keep Kc5 (ninS ne_b2_b4 nin0)
    have F3_unitCost_b2_5 := F3_unitCost_b2_4.keep Kc5 (ninS ne_b2_b4 nin0)
    have F3_penalty_b2_5 := F3_penalty_b2_4.keep Kc5 (ninS ne_b2_b4 nin0)
    have E_b4_5 := E_b4.keep Kc5
    have KK5 : Keep h0 T5.heap [] := (K4 : Keep h0 h4 []).trans Kc5 (allS (Or.inr sz_b4) all0)
    have hk_5 : Szk T5.heap.size T5.heap := Nat.le_refl _
    show GoW _ _ _ _ _ _ _ T5 (mkF m 110 #[.val (.int p0), .val (.int p1), .val (.int p2), .val (.int p3), .val (.long lr), .second, .val (.long lq), .second, .val (.long ls), .second, .val (.long lc), .second, .val (.double (FP.ddiv (FP.l2d (ls - lc)) (FP.l2d ls))), .second, .val (.double sc), .second, .val (.ref b2), .unset, .unset, .unset, .unset, .unset] [(.ref b4)])
    refine GoW.step (fun _ k => XS.astore X5.here hx rfl (hb hby at_110) rfl rfl (l' := #[.val (.int p0), .val (.int p1), .val (.int p2), .val (.int p3), .val (.long lr), .second, .val (.long lq), .second, .val (.long ls), .second, .val (.long lc), .second, .val (.double (FP.ddiv (FP.l2d (ls - lc)) (FP.l2d ls))), .second, .val (.double sc), .second, .val (.ref b2), .val (.ref b4), .unset, .unset, .unset, .unset]) rfl k) ?_
    show GoW _ _ _ _ _ _ _ T5 (mkF m 112 #[.val (.int p0), .val (.int p1), .val (.int p2), .val (.int p3), .val (.long lr), .second, .val (.long lq), .second, .val (.long ls), .second, .val (.long lc), .second, .val (.double (FP.ddiv (FP.l2d (ls - lc)) (FP.l2d ls))), .second, .val (.double sc), .second, .val (.ref b2), .val (.ref b4), .unset, .unset, .unset, .unset] [])
    refine GoW.step (fun _ k => XS.aload X5.here hx rfl (hb hby at_112) rfl rfl k) ?_
    show GoW _ _ _ _ _ _ _ T5 (mkF m 114 #[.val (.int p0), .val (.int p1), .val (.int p2), .val (.int p3), .val (.long lr), .second, .val (.long lq), .second, .val (.long ls), .second, .val (.long lc), .second, .val (.double (FP.ddiv (FP.l2d (ls - lc)) (FP.l2d ls))), .second, .val (.double sc), .second, .val (.ref b2), .val (.ref b4), .unset, .unset, .unset, .unset] [(.ref b2)])
    refine GoW.callV X5 hx hZ (by rw [hml]; rfl) (y := (⟨"com/example/headroom/headroom/Sizing$ProfitPrices", "profitableLevel", "()D"⟩ : MethodName)) (z := (⟨"com/example/headroom/headroom/Sizing$ProfitPrices", "profitableLevel", "()D"⟩ : MethodName)) (a := b2) (argsL := []) (rest := []) hown (hw _ (mI 48 rfl)) (hw _ (mI 49 rfl)) (notFace_of_selects (args := #[]) (mvT hZ (hw _ (mI 51 rfl)))) (hw _ (mI 51 rfl)) (hw _ (mI 50 rfl)) (hw _ (mI 4 rfl)) (hw _ (mI 52 rfl)) (by decide) (rm8 l Z a0 hw b2 (FP.l2d lr) (FP.l2d lc) (FP.l2d lq) T5.heap n0 (Nat.le_trans Z0 (KK5 : Keep h0 T5.heap []).1) F3_revenue_b2_5 F3_unitCost_b2_5 F3_penalty_b2_5 G1.1 G1.2.1 G1.2.2) rfl E_b2_5 (hb hby at_114) (lenOf pd_5 rfl) rfl rfl (W := 0) (Nat.le_of_eq rfl) (by decide) (by decide) (by decide) (by decide) ?_
    intro v6 T6 L6 X6 Q6
    obtain ⟨rfl, N6q, hh6⟩ := Q6
    have N6 := Fr.app N5 N6q
    show GoW _ _ _ _ _ _ _ T6 (mkF m 117 #[.val (.int p0), .val (.int p1), .val (.int p2), .val (.int p3), .val (.long lr), .second, .val (.long lq), .second, .val (.long ls), .second, .val (.long lc), .second, .val (.double (FP.ddiv (FP.l2d (ls - lc)) (FP.l2d ls))), .second, .val (.double sc), .second, .val (.ref b2), .val (.ref b4), .unset, .unset, .unset, .unset] [(.double (lvW (FP.l2d lr) (FP.l2d lc) (FP.l2d lq)))])
    refine GoW.step (fun _ k => XS.dstore X6.here hx rfl (hb hby at_117) rfl (l' := #[.val (.int p0), .val (.int p1), .val (.int p2), .val (.int p3), .val (.long lr), .second, .val (.long lq), .second, .val (.long ls), .second, .val (.long lc), .second, .val (.double (FP.ddiv (FP.l2d (ls - lc)) (FP.l2d ls))), .second, .val (.double sc), .second, .val (.ref b2), .val (.ref b4), .val (.double (lvW (FP.l2d lr) (FP.l2d lc) (FP.l2d lq))), .second, .unset, .unset]) rfl k) ?_
    show GoW _ _ _ _ _ _ _ T6 (mkF m 119 #[.val (.int p0), .val (.int p1), .val (.int p2), .val (.int p3), .val (.long lr), .second, .val (.long lq), .second, .val (.long ls), .second, .val (.long lc), .second, .val (.double (FP.ddiv (FP.l2d (ls - lc)) (FP.l2d ls))), .second, .val (.double sc), .second, .val (.ref b2), .val (.ref b4), .val (.double (lvW (FP.l2d lr) (FP.l2d lc) (FP.l2d lq))), .second, .unset, .unset] [])
    refine GoW.step (fun _ k => XS.aload X6.here hx rfl (hb hby at_119) rfl rfl k) ?_
    show GoW _ _ _ _ _ _ _ T6 (mkF m 121 #[.val (.int p0), .val (.int p1), .val (.int p2), .val (.int p3), .val (.long lr), .second, .val (.long lq), .second, .val (.long ls), .second, .val (.long lc), .second, .val (.double (FP.ddiv (FP.l2d (ls - lc)) (FP.l2d ls))), .second, .val (.double sc), .second, .val (.ref b2), .val (.ref b4), .val (.double (lvW (FP.l2d lr) (FP.l2d lc) (FP.l2d lq))), .second, .unset, .unset] [(.ref b4)])
    refine GoW.callV X6 hx hZ (by rw [hml]; rfl) (y := (⟨"com/example/headroom/headroom/Sizing$ProfitPrices", "profitableLevel", "()D"⟩ : MethodName)) (z := (⟨"com/example/headroom/headroom/Sizing$ProfitPrices", "profitableLevel", "()D"⟩ : MethodName)) (a := b4) (argsL := []) (rest := []) hown (hw _ (mI 48 rfl)) (hw _ (mI 49 rfl)) (notFace_of_selects (args := #[]) (mvT hZ (hw _ (mI 51 rfl)))) (hw _ (mI 51 rfl)) (hw _ (mI 50 rfl)) (hw _ (mI 4 rfl)) (hw _ (mI 52 rfl)) (by decide) (rm8 l Z a0 hw b4 (FP.dmul (FP.l2d lq) sc) (FP.dmul (FP.l2d lc) sc) (FP.dmul (FP.l2d lr) sc) T5.heap n0 (Nat.le_trans Z0 (KK5 : Keep h0 T5.heap []).1) F5_revenue_b4 F5_unitCost_b4 F5_penalty_b4 G2.1 G2.2.1 G2.2.2) hh6 E_b4_5 (hb hby at_121) (lenOf pd_5 rfl) rfl rfl (W := 0) (Nat.le_of_eq rfl) (by decide) (by decide) (by decide) (by decide) ?_
    intro v7 T7 L7 X7 Q7
    obtain ⟨rfl, N7q, hh7⟩ := Q7
    have N7 := Fr.app N6 N7q
    show GoW _ _ _ _ _ _ _ T7 (mkF m 124 #[.val (.int p0), .val (.int p1), .val (.int p2), .val (.int p3), .val (.long lr), .second, .val (.long lq), .second, .val (.long ls), .second, .val (.long lc), .second, .val (.double (FP.ddiv (FP.l2d (ls - lc)) (FP.l2d ls))), .second, .val (.double sc), .second, .val (.ref b2), .val (.ref b4), .val (.double (lvW (FP.l2d lr) (FP.l2d lc) (FP.l2d lq))), .second, .unset, .unset] [(.double (lvW (FP.dmul (FP.l2d lq) sc) (FP.dmul (FP.l2d lc) sc) (FP.dmul (FP.l2d lr) sc)))])
    refine GoW.step (fun _ k => XS.dstore X7.here hx rfl (hb hby at_124) rfl (l' := #[.val (.int p0), .val (.int p1), .val (.int p2), .val (.int p3), .val (.long lr), .second, .val (.long lq), .second, .val (.long ls), .second, .val (.long lc), .second, .val (.double (FP.ddiv (FP.l2d (ls - lc)) (FP.l2d ls))), .second, .val (.double sc), .second, .val (.ref b2), .val (.ref b4), .val (.double (lvW (FP.l2d lr) (FP.l2d lc) (FP.l2d lq))), .second, .val (.double (lvW (FP.dmul (FP.l2d lq) sc) (FP.dmul (FP.l2d lc) sc) (FP.dmul (FP.l2d lr) sc))), .second]) rfl k) ?_
    show GoW _ _ _ _ _ _ _ T7 (mkF m 126 #[.val (.int p0), .val (.int p1), .val (.int p2), .val (.int p3), .val (.long lr), .second, .val (.long lq), .second, .val (.long ls), .second, .val (.long lc), .second, .val (.double (FP.ddiv (FP.l2d (ls - lc)) (FP.l2d ls))), .second, .val (.double sc), .second, .val (.ref b2), .val (.ref b4), .val (.double (lvW (FP.l2d lr) (FP.l2d lc) (FP.l2d lq))), .second, .val (.double (lvW (FP.dmul (FP.l2d lq) sc) (FP.dmul (FP.l2d lc) sc) (FP.dmul (FP.l2d lr) sc))), .second] [])
    refine GoW.step (fun _ k => XS.dload X7.here hx rfl (hb hby at_126) rfl k) ?_
    show GoW _ _ _ _ _ _ _ T7 (mkF m 128 #[.val (.int p0), .val (.int p1), .val (.int p2), .val (.int p3), .val (.long lr), .second, .val (.long lq), .second, .val (.long ls), .second, .val (.long lc), .second, .val (.double (FP.ddiv (FP.l2d (ls - lc)) (FP.l2d ls))), .second, .val (.double sc), .second, .val (.ref b2), .val (.ref b4), .val (.double (lvW (FP.l2d lr) (FP.l2d lc) (FP.l2d lq))), .second, .val (.double (lvW (FP.dmul (FP.l2d lq) sc) (FP.dmul (FP.l2d lc) sc) (FP.dmul (FP.l2d lr) sc))), .second] [(.double (lvW (FP.l2d lr) (FP.l2d lc) (FP.l2d lq)))])
    refine GoW.step (fun _ k => XS.dload X7.here hx rfl (hb hby at_128) rfl k) ?_
    show GoW _ _ _ _ _ _ _ T7 (mkF m 130 #[.val (.int p0), .val (.int p1), .val (.int p2), .val (.int p3), .val (.long lr), .second, .val (.long lq), .second, .val (.long ls), .second, .val (.long lc), .second, .val (.double (FP.ddiv (FP.l2d (ls - lc)) (FP.l2d ls))), .second, .val (.double sc), .second, .val (.ref b2), .val (.ref b4), .val (.double (lvW (FP.l2d lr) (FP.l2d lc) (FP.l2d lq))), .second, .val (.double (lvW (FP.dmul (FP.l2d lq) sc) (FP.dmul (FP.l2d lc) sc) (FP.dmul (FP.l2d lr) sc))), .second] [(.double (FP.ddiv (FP.l2d (ls - lc)) (FP.l2d ls))), (.double (lvW (FP.l2d lr) (FP.l2d lc) (FP.l2d lq)))])
    refine GoW.step (fun _ k => XS.dcmpS X7.here hx rfl (hb hby at_130) rfl rfl k) ?_
    show GoW _ _ _ _ _ _ _ T7 (mkF m 131 #[.val (.int p0), .val (.int p1), .val (.int p2), .val (.int p3), .val (.long lr), .second, .val (.long lq), .second, .val (.long ls), .second, .val (.long lc), .second, .val (.double (FP.ddiv (FP.l2d (ls - lc)) (FP.l2d ls))), .second, .val (.double sc), .second, .val (.ref b2), .val (.ref b4), .val (.double (lvW (FP.l2d lr) (FP.l2d lc) (FP.l2d lq))), .second, .val (.double (lvW (FP.dmul (FP.l2d lq) sc) (FP.dmul (FP.l2d lc) sc) (FP.dmul (FP.l2d lr) sc))), .second] [(.int (cmpValue (FP.dcmp (lvW (FP.l2d lr) (FP.l2d lc) (FP.l2d lq)) (FP.ddiv (FP.l2d (ls - lc)) (FP.l2d ls))) .l))])
    refine GoW.step (fun _ k => XS.ifNo X7.here hx rfl (hb hby at_131) rfl (eq_y .l (own_a1 hB)).1 k) ?_
    show GoW _ _ _ _ _ _ _ T7 (mkF m 134 #[.val (.int p0), .val (.int p1), .val (.int p2), .val (.int p3), .val (.long lr), .second, .val (.long lq), .second, .val (.long ls), .second, .val (.long lc), .second, .val (.double (FP.ddiv (FP.l2d (ls - lc)) (FP.l2d ls))), .second, .val (.double sc), .second, .val (.ref b2), .val (.ref b4), .val (.double (lvW (FP.l2d lr) (FP.l2d lc) (FP.l2d lq))), .second, .val (.double (lvW (FP.dmul (FP.l2d lq) sc) (FP.dmul (FP.l2d lc) sc) (FP.dmul (FP.l2d lr) sc))), .second] [])
    refine GoW.step (fun _ k => XS.dload X7.here hx rfl (hb hby at_134) rfl k) ?_
    show GoW _ _ _ _ _ _ _ T7 (mkF m 136 #[.val (.int p0), .val (.int p1), .val (.int p2), .val (.int p3), .val (.long lr), .second, .val (.long lq), .second, .val (.long ls), .second, .val (.long lc), .second, .val (.double (FP.ddiv (FP.l2d (ls - lc)) (FP.l2d ls))), .second, .val (.double sc), .second, .val (.ref b2), .val (.ref b4), .val (.double (lvW (FP.l2d lr) (FP.l2d lc) (FP.l2d lq))), .second, .val (.double (lvW (FP.dmul (FP.l2d lq) sc) (FP.dmul (FP.l2d lc) sc) (FP.dmul (FP.l2d lr) sc))), .second] [(.double (lvW (FP.dmul (FP.l2d lq) sc) (FP.dmul (FP.l2d lc) sc) (FP.dmul (FP.l2d lr) sc)))])
    refine GoW.step (fun _ k => XS.dload X7.here hx rfl (hb hby at_136) rfl k) ?_
    show GoW _ _ _ _ _ _ _ T7 (mkF m 138 #[.val (.int p0), .val (.int p1), .val (.int p2), .val (.int p3), .val (.long lr), .second, .val (.long lq), .second, .val (.long ls), .second, .val (.long lc), .second, .val (.double (FP.ddiv (FP.l2d (ls - lc)) (FP.l2d ls))), .second, .val (.double sc), .second, .val (.ref b2), .val (.ref b4), .val (.double (lvW (FP.l2d lr) (FP.l2d lc) (FP.l2d lq))), .second, .val (.double (lvW (FP.dmul (FP.l2d lq) sc) (FP.dmul (FP.l2d lc) sc) (FP.dmul (FP.l2d lr) sc))), .second] [(.double (FP.ddiv (FP.l2d (ls - lc)) (FP.l2d ls))), (.double (lvW (FP.dmul (FP.l2d lq) sc) (FP.dmul (FP.l2d lc) sc) (FP.dmul (FP.l2d lr) sc)))])
    refine GoW.step (fun _ k => XS.dcmpS X7.here hx rfl (hb hby at_138) rfl rfl k) ?_
    show GoW _ _ _ _ _ _ _ T7 (mkF m 139 #[.val (.int p0), .val (.int p1), .val (.int p2), .val (.int p3), .val (.long lr), .second, .val (.long lq), .second, .val (.long ls), .second, .val (.long lc), .second, .val (.double (FP.ddiv (FP.l2d (ls - lc)) (FP.l2d ls))), .second, .val (.double sc), .second, .val (.ref b2), .val (.ref b4), .val (.double (lvW (FP.l2d lr) (FP.l2d lc) (FP.l2d lq))), .second, .val (.double (lvW (FP.dmul (FP.l2d lq) sc) (FP.dmul (FP.l2d lc) sc) (FP.dmul (FP.l2d lr) sc))), .second] [(.int (cmpValue (FP.dcmp (lvW (FP.dmul (FP.l2d lq) sc) (FP.dmul (FP.l2d lc) sc) (FP.dmul (FP.l2d lr) sc)) (FP.ddiv (FP.l2d (ls - lc)) (FP.l2d ls))) .l))])
    refine GoW.step (fun _ k => XS.ifNo X7.here hx rfl (hb hby at_139) rfl (eq_y .l (own_a2 hB hsc)).1 k) ?_
    show GoW _ _ _ _ _ _ _ T7 (mkF m 142 #[.val (.int p0), .val (.int p1), .val (.int p2), .val (.int p3), .val (.long lr), .second, .val (.long lq), .second, .val (.long ls), .second, .val (.long lc), .second, .val (.double (FP.ddiv (FP.l2d (ls - lc)) (FP.l2d ls))), .second, .val (.double sc), .second, .val (.ref b2), .val (.ref b4), .val (.double (lvW (FP.l2d lr) (FP.l2d lc) (FP.l2d lq))), .second, .val (.double (lvW (FP.dmul (FP.l2d lq) sc) (FP.dmul (FP.l2d lc) sc) (FP.dmul (FP.l2d lr) sc))), .second] [])
    refine GoW.step (fun _ k => XS.dload X7.here hx rfl (hb hby at_142) rfl k) ?_
    show GoW _ _ _ _ _ _ _ T7 (mkF m 144 #[.val (.int p0), .val (.int p1), .val (.int p2), .val (.int p3), .val (.long lr), .second, .val (.long lq), .second, .val (.long ls), .second, .val (.long lc), .second, .val (.double (FP.ddiv (FP.l2d (ls - lc)) (FP.l2d ls))), .second, .val (.double sc), .second, .val (.ref b2), .val (.ref b4), .val (.double (lvW (FP.l2d lr) (FP.l2d lc) (FP.l2d lq))), .second, .val (.double (lvW (FP.dmul (FP.l2d lq) sc) (FP.dmul (FP.l2d lc) sc) (FP.dmul (FP.l2d lr) sc))), .second] [(.double (lvW (FP.l2d lr) (FP.l2d lc) (FP.l2d lq)))])
    refine GoW.step (fun _ k => XS.dconst0 X7.here hx rfl (hb hby at_144) rfl k) ?_
    show GoW _ _ _ _ _ _ _ T7 (mkF m 145 #[.val (.int p0), .val (.int p1), .val (.int p2), .val (.int p3), .val (.long lr), .second, .val (.long lq), .second, .val (.long ls), .second, .val (.long lc), .second, .val (.double (FP.ddiv (FP.l2d (ls - lc)) (FP.l2d ls))), .second, .val (.double sc), .second, .val (.ref b2), .val (.ref b4), .val (.double (lvW (FP.l2d lr) (FP.l2d lc) (FP.l2d lq))), .second, .val (.double (lvW (FP.dmul (FP.l2d lq) sc) (FP.dmul (FP.l2d lc) sc) (FP.dmul (FP.l2d lr) sc))), .second] [(.double (0 : UInt64)), (.double (lvW (FP.l2d lr) (FP.l2d lc) (FP.l2d lq)))])
    refine GoW.step (fun _ k => XS.dcmpS X7.here hx rfl (hb hby at_145) rfl rfl k) ?_
    show GoW _ _ _ _ _ _ _ T7 (mkF m 146 #[.val (.int p0), .val (.int p1), .val (.int p2), .val (.int p3), .val (.long lr), .second, .val (.long lq), .second, .val (.long ls), .second, .val (.long lc), .second, .val (.double (FP.ddiv (FP.l2d (ls - lc)) (FP.l2d ls))), .second, .val (.double sc), .second, .val (.ref b2), .val (.ref b4), .val (.double (lvW (FP.l2d lr) (FP.l2d lc) (FP.l2d lq))), .second, .val (.double (lvW (FP.dmul (FP.l2d lq) sc) (FP.dmul (FP.l2d lc) sc) (FP.dmul (FP.l2d lr) sc))), .second] [(.int (cmpValue (FP.dcmp (lvW (FP.l2d lr) (FP.l2d lc) (FP.l2d lq)) (0 : UInt64)) .l))])
    refine GoW.step (fun _ k => XS.ifNo X7.here hx rfl (hb hby at_146) rfl (gt_y (own_a3 hB)) k) ?_
    show GoW _ _ _ _ _ _ _ T7 (mkF m 149 #[.val (.int p0), .val (.int p1), .val (.int p2), .val (.int p3), .val (.long lr), .second, .val (.long lq), .second, .val (.long ls), .second, .val (.long lc), .second, .val (.double (FP.ddiv (FP.l2d (ls - lc)) (FP.l2d ls))), .second, .val (.double sc), .second, .val (.ref b2), .val (.ref b4), .val (.double (lvW (FP.l2d lr) (FP.l2d lc) (FP.l2d lq))), .second, .val (.double (lvW (FP.dmul (FP.l2d lq) sc) (FP.dmul (FP.l2d lc) sc) (FP.dmul (FP.l2d lr) sc))), .second] [])
    refine GoW.step (fun _ k => XS.dload X7.here hx rfl (hb hby at_149) rfl k) ?_
    show GoW _ _ _ _ _ _ _ T7 (mkF m 151 #[.val (.int p0), .val (.int p1), .val (.int p2), .val (.int p3), .val (.long lr), .second, .val (.long lq), .second, .val (.long ls), .second, .val (.long lc), .second, .val (.double (FP.ddiv (FP.l2d (ls - lc)) (FP.l2d ls))), .second, .val (.double sc), .second, .val (.ref b2), .val (.ref b4), .val (.double (lvW (FP.l2d lr) (FP.l2d lc) (FP.l2d lq))), .second, .val (.double (lvW (FP.dmul (FP.l2d lq) sc) (FP.dmul (FP.l2d lc) sc) (FP.dmul (FP.l2d lr) sc))), .second] [(.double (lvW (FP.l2d lr) (FP.l2d lc) (FP.l2d lq)))])
    refine GoW.step (fun _ k => XS.dconst1 X7.here hx rfl (hb hby at_151) rfl k) ?_
    show GoW _ _ _ _ _ _ _ T7 (mkF m 152 #[.val (.int p0), .val (.int p1), .val (.int p2), .val (.int p3), .val (.long lr), .second, .val (.long lq), .second, .val (.long ls), .second, .val (.long lc), .second, .val (.double (FP.ddiv (FP.l2d (ls - lc)) (FP.l2d ls))), .second, .val (.double sc), .second, .val (.ref b2), .val (.ref b4), .val (.double (lvW (FP.l2d lr) (FP.l2d lc) (FP.l2d lq))), .second, .val (.double (lvW (FP.dmul (FP.l2d lq) sc) (FP.dmul (FP.l2d lc) sc) (FP.dmul (FP.l2d lr) sc))), .second] [(.double (4607182418800017408 : UInt64)), (.double (lvW (FP.l2d lr) (FP.l2d lc) (FP.l2d lq)))])
    refine GoW.step (fun _ k => XS.dcmpS X7.here hx rfl (hb hby at_152) rfl rfl k) ?_
    show GoW _ _ _ _ _ _ _ T7 (mkF m 153 #[.val (.int p0), .val (.int p1), .val (.int p2), .val (.int p3), .val (.long lr), .second, .val (.long lq), .second, .val (.long ls), .second, .val (.long lc), .second, .val (.double (FP.ddiv (FP.l2d (ls - lc)) (FP.l2d ls))), .second, .val (.double sc), .second, .val (.ref b2), .val (.ref b4), .val (.double (lvW (FP.l2d lr) (FP.l2d lc) (FP.l2d lq))), .second, .val (.double (lvW (FP.dmul (FP.l2d lq) sc) (FP.dmul (FP.l2d lc) sc) (FP.dmul (FP.l2d lr) sc))), .second] [(.int (cmpValue (FP.dcmp (lvW (FP.l2d lr) (FP.l2d lc) (FP.l2d lq)) (4607182418800017408 : UInt64)) .g))])
    refine GoW.step (fun _ k => XS.ifNo X7.here hx rfl (hb hby at_153) rfl (le_y (own_a4 hB)) k) ?_
    show GoW _ _ _ _ _ _ _ T7 (mkF m 156 #[.val (.int p0), .val (.int p1), .val (.int p2), .val (.int p3), .val (.long lr), .second, .val (.long lq), .second, .val (.long ls), .second, .val (.long lc), .second, .val (.double (FP.ddiv (FP.l2d (ls - lc)) (FP.l2d ls))), .second, .val (.double sc), .second, .val (.ref b2), .val (.ref b4), .val (.double (lvW (FP.l2d lr) (FP.l2d lc) (FP.l2d lq))), .second, .val (.double (lvW (FP.dmul (FP.l2d lq) sc) (FP.dmul (FP.l2d lc) sc) (FP.dmul (FP.l2d lr) sc))), .second] [])
    refine GoW.step (fun _ k => XS.dload X7.here hx rfl (hb hby at_156) rfl k) ?_
    show GoW _ _ _ _ _ _ _ T7 (mkF m 158 #[.val (.int p0), .val (.int p1), .val (.int p2), .val (.int p3), .val (.long lr), .second, .val (.long lq), .second, .val (.long ls), .second, .val (.long lc), .second, .val (.double (FP.ddiv (FP.l2d (ls - lc)) (FP.l2d ls))), .second, .val (.double sc), .second, .val (.ref b2), .val (.ref b4), .val (.double (lvW (FP.l2d lr) (FP.l2d lc) (FP.l2d lq))), .second, .val (.double (lvW (FP.dmul (FP.l2d lq) sc) (FP.dmul (FP.l2d lc) sc) (FP.dmul (FP.l2d lr) sc))), .second] [(.double (lvW (FP.l2d lr) (FP.l2d lc) (FP.l2d lq)))])
    refine GoW.step (fun _ k => XS.dconst1 X7.here hx rfl (hb hby at_158) rfl k) ?_
    show GoW _ _ _ _ _ _ _ T7 (mkF m 159 #[.val (.int p0), .val (.int p1), .val (.int p2), .val (.int p3), .val (.long lr), .second, .val (.long lq), .second, .val (.long ls), .second, .val (.long lc), .second, .val (.double (FP.ddiv (FP.l2d (ls - lc)) (FP.l2d ls))), .second, .val (.double sc), .second, .val (.ref b2), .val (.ref b4), .val (.double (lvW (FP.l2d lr) (FP.l2d lc) (FP.l2d lq))), .second, .val (.double (lvW (FP.dmul (FP.l2d lq) sc) (FP.dmul (FP.l2d lc) sc) (FP.dmul (FP.l2d lr) sc))), .second] [(.double (4607182418800017408 : UInt64)), (.double (lvW (FP.l2d lr) (FP.l2d lc) (FP.l2d lq)))])
    refine GoW.step (fun _ k => XS.dcmpS X7.here hx rfl (hb hby at_159) rfl rfl k) ?_
    show GoW _ _ _ _ _ _ _ T7 (mkF m 160 #[.val (.int p0), .val (.int p1), .val (.int p2), .val (.int p3), .val (.long lr), .second, .val (.long lq), .second, .val (.long ls), .second, .val (.long lc), .second, .val (.double (FP.ddiv (FP.l2d (ls - lc)) (FP.l2d ls))), .second, .val (.double sc), .second, .val (.ref b2), .val (.ref b4), .val (.double (lvW (FP.l2d lr) (FP.l2d lc) (FP.l2d lq))), .second, .val (.double (lvW (FP.dmul (FP.l2d lq) sc) (FP.dmul (FP.l2d lc) sc) (FP.dmul (FP.l2d lr) sc))), .second] [(.int (cmpValue (FP.dcmp (lvW (FP.l2d lr) (FP.l2d lc) (FP.l2d lq)) (4607182418800017408 : UInt64)) .l))])
    by_cases hd160_8 : FP.dcmp (lvW (FP.l2d lr) (FP.l2d lc) (FP.l2d lq)) (4607182418800017408 : UInt64) = some .eq
    · refine GoW.step (fun _ k => XS.ifNo X7.here hx rfl (hb hby at_160) rfl (eq_y .l hd160_8).1 k) ?_
      show GoW _ _ _ _ _ _ _ T7 (mkF m 163 #[.val (.int p0), .val (.int p1), .val (.int p2), .val (.int p3), .val (.long lr), .second, .val (.long lq), .second, .val (.long ls), .second, .val (.long lc), .second, .val (.double (FP.ddiv (FP.l2d (ls - lc)) (FP.l2d ls))), .second, .val (.double sc), .second, .val (.ref b2), .val (.ref b4), .val (.double (lvW (FP.l2d lr) (FP.l2d lc) (FP.l2d lq))), .second, .val (.double (lvW (FP.dmul (FP.l2d lq) sc) (FP.dmul (FP.l2d lc) sc) (FP.dmul (FP.l2d lr) sc))), .second] [])
      refine GoW.step (fun _ k => XS.iconst X7.here hx rfl (hb hby at_163) k) ?_
      show GoW _ _ _ _ _ _ _ T7 (mkF m 164 #[.val (.int p0), .val (.int p1), .val (.int p2), .val (.int p3), .val (.long lr), .second, .val (.long lq), .second, .val (.long ls), .second, .val (.long lc), .second, .val (.double (FP.ddiv (FP.l2d (ls - lc)) (FP.l2d ls))), .second, .val (.double sc), .second, .val (.ref b2), .val (.ref b4), .val (.double (lvW (FP.l2d lr) (FP.l2d lc) (FP.l2d lq))), .second, .val (.double (lvW (FP.dmul (FP.l2d lq) sc) (FP.dmul (FP.l2d lc) sc) (FP.dmul (FP.l2d lr) sc))), .second] [(.int (1 : Int32))])
      refine GoW.step (fun _ k => XS.goto X7.here hx rfl (pc0 := 164) (pc' := 168) rfl (hb hby at_164) (by decide) (by decide) k) ?_
      show GoW _ _ _ _ _ _ _ T7 (mkF m 168 #[.val (.int p0), .val (.int p1), .val (.int p2), .val (.int p3), .val (.long lr), .second, .val (.long lq), .second, .val (.long ls), .second, .val (.long lc), .second, .val (.double (FP.ddiv (FP.l2d (ls - lc)) (FP.l2d ls))), .second, .val (.double sc), .second, .val (.ref b2), .val (.ref b4), .val (.double (lvW (FP.l2d lr) (FP.l2d lc) (FP.l2d lq))), .second, .val (.double (lvW (FP.dmul (FP.l2d lq) sc) (FP.dmul (FP.l2d lc) sc) (FP.dmul (FP.l2d lr) sc))), .second] [(.int (1 : Int32))])
      refine GoW.step (fun _ k => XS.lload X7.here hx rfl (hb hby at_168) rfl k) ?_
      show GoW _ _ _ _ _ _ _ T7 (mkF m 170 #[.val (.int p0), .val (.int p1), .val (.int p2), .val (.int p3), .val (.long lr), .second, .val (.long lq), .second, .val (.long ls), .second, .val (.long lc), .second, .val (.double (FP.ddiv (FP.l2d (ls - lc)) (FP.l2d ls))), .second, .val (.double sc), .second, .val (.ref b2), .val (.ref b4), .val (.double (lvW (FP.l2d lr) (FP.l2d lc) (FP.l2d lq))), .second, .val (.double (lvW (FP.dmul (FP.l2d lq) sc) (FP.dmul (FP.l2d lc) sc) (FP.dmul (FP.l2d lr) sc))), .second] [(.long lc), (.int (1 : Int32))])
      refine GoW.step (fun _ k => XS.lconst X7.here hx rfl (hb hby at_170) k) ?_
      show GoW _ _ _ _ _ _ _ T7 (mkF m 171 #[.val (.int p0), .val (.int p1), .val (.int p2), .val (.int p3), .val (.long lr), .second, .val (.long lq), .second, .val (.long ls), .second, .val (.long lc), .second, .val (.double (FP.ddiv (FP.l2d (ls - lc)) (FP.l2d ls))), .second, .val (.double sc), .second, .val (.ref b2), .val (.ref b4), .val (.double (lvW (FP.l2d lr) (FP.l2d lc) (FP.l2d lq))), .second, .val (.double (lvW (FP.dmul (FP.l2d lq) sc) (FP.dmul (FP.l2d lc) sc) (FP.dmul (FP.l2d lr) sc))), .second] [(.long (0 : Int64)), (.long lc), (.int (1 : Int32))])
      refine GoW.step (fun _ k => XS.lcmp X7.here hx rfl (hb hby at_171) rfl k) ?_
      show GoW _ _ _ _ _ _ _ T7 (mkF m 172 #[.val (.int p0), .val (.int p1), .val (.int p2), .val (.int p3), .val (.long lr), .second, .val (.long lq), .second, .val (.long ls), .second, .val (.long lc), .second, .val (.double (FP.ddiv (FP.l2d (ls - lc)) (FP.l2d ls))), .second, .val (.double sc), .second, .val (.ref b2), .val (.ref b4), .val (.double (lvW (FP.l2d lr) (FP.l2d lc) (FP.l2d lq))), .second, .val (.double (lvW (FP.dmul (FP.l2d lq) sc) (FP.dmul (FP.l2d lc) sc) (FP.dmul (FP.l2d lr) sc))), .second] [(.int (lcmpW lc (0 : Int64))), (.int (1 : Int32))])
      refine GoW.step (fun _ k => XS.ifNo X7.here hx rfl (hb hby at_172) rfl ((if0 _ _).trans (teq ((lw_eq lc (0 : Int64)).mpr ((own_a5 hB).mp hd160_8))).2) k) ?_
      show GoW _ _ _ _ _ _ _ T7 (mkF m 175 #[.val (.int p0), .val (.int p1), .val (.int p2), .val (.int p3), .val (.long lr), .second, .val (.long lq), .second, .val (.long ls), .second, .val (.long lc), .second, .val (.double (FP.ddiv (FP.l2d (ls - lc)) (FP.l2d ls))), .second, .val (.double sc), .second, .val (.ref b2), .val (.ref b4), .val (.double (lvW (FP.l2d lr) (FP.l2d lc) (FP.l2d lq))), .second, .val (.double (lvW (FP.dmul (FP.l2d lq) sc) (FP.dmul (FP.l2d lc) sc) (FP.dmul (FP.l2d lr) sc))), .second] [(.int (1 : Int32))])
      refine GoW.step (fun _ k => XS.iconst X7.here hx rfl (hb hby at_175) k) ?_
      show GoW _ _ _ _ _ _ _ T7 (mkF m 176 #[.val (.int p0), .val (.int p1), .val (.int p2), .val (.int p3), .val (.long lr), .second, .val (.long lq), .second, .val (.long ls), .second, .val (.long lc), .second, .val (.double (FP.ddiv (FP.l2d (ls - lc)) (FP.l2d ls))), .second, .val (.double sc), .second, .val (.ref b2), .val (.ref b4), .val (.double (lvW (FP.l2d lr) (FP.l2d lc) (FP.l2d lq))), .second, .val (.double (lvW (FP.dmul (FP.l2d lq) sc) (FP.dmul (FP.l2d lc) sc) (FP.dmul (FP.l2d lr) sc))), .second] [(.int (1 : Int32)), (.int (1 : Int32))])
      refine GoW.step (fun _ k => XS.goto X7.here hx rfl (pc0 := 176) (pc' := 180) rfl (hb hby at_176) (by decide) (by decide) k) ?_
      show GoW _ _ _ _ _ _ _ T7 (mkF m 180 #[.val (.int p0), .val (.int p1), .val (.int p2), .val (.int p3), .val (.long lr), .second, .val (.long lq), .second, .val (.long ls), .second, .val (.long lc), .second, .val (.double (FP.ddiv (FP.l2d (ls - lc)) (FP.l2d ls))), .second, .val (.double sc), .second, .val (.ref b2), .val (.ref b4), .val (.double (lvW (FP.l2d lr) (FP.l2d lc) (FP.l2d lq))), .second, .val (.double (lvW (FP.dmul (FP.l2d lq) sc) (FP.dmul (FP.l2d lc) sc) (FP.dmul (FP.l2d lr) sc))), .second] [(.int (1 : Int32)), (.int (1 : Int32))])
      refine GoW.step (fun _ k => XS.icmpNo X7.here hx rfl (hb hby at_180) rfl (teq (by decide : (1 : Int32) = (1 : Int32))).2 k) ?_
      show GoW _ _ _ _ _ _ _ T7 (mkF m 183 #[.val (.int p0), .val (.int p1), .val (.int p2), .val (.int p3), .val (.long lr), .second, .val (.long lq), .second, .val (.long ls), .second, .val (.long lc), .second, .val (.double (FP.ddiv (FP.l2d (ls - lc)) (FP.l2d ls))), .second, .val (.double sc), .second, .val (.ref b2), .val (.ref b4), .val (.double (lvW (FP.l2d lr) (FP.l2d lc) (FP.l2d lq))), .second, .val (.double (lvW (FP.dmul (FP.l2d lq) sc) (FP.dmul (FP.l2d lc) sc) (FP.dmul (FP.l2d lr) sc))), .second] [])
      refine GoW.step (fun _ k => XS.iconst X7.here hx rfl (hb hby at_183) k) ?_
      show GoW _ _ _ _ _ _ _ T7 (mkF m 184 #[.val (.int p0), .val (.int p1), .val (.int p2), .val (.int p3), .val (.long lr), .second, .val (.long lq), .second, .val (.long ls), .second, .val (.long lc), .second, .val (.double (FP.ddiv (FP.l2d (ls - lc)) (FP.l2d ls))), .second, .val (.double sc), .second, .val (.ref b2), .val (.ref b4), .val (.double (lvW (FP.l2d lr) (FP.l2d lc) (FP.l2d lq))), .second, .val (.double (lvW (FP.dmul (FP.l2d lq) sc) (FP.dmul (FP.l2d lc) sc) (FP.dmul (FP.l2d lr) sc))), .second] [(.int (1 : Int32))])
      refine GoW.step (fun _ k => XS.goto X7.here hx rfl (pc0 := 184) (pc' := 188) rfl (hb hby at_184) (by decide) (by decide) k) ?_
      show GoW _ _ _ _ _ _ _ T7 (mkF m 188 #[.val (.int p0), .val (.int p1), .val (.int p2), .val (.int p3), .val (.long lr), .second, .val (.long lq), .second, .val (.long ls), .second, .val (.long lc), .second, .val (.double (FP.ddiv (FP.l2d (ls - lc)) (FP.l2d ls))), .second, .val (.double sc), .second, .val (.ref b2), .val (.ref b4), .val (.double (lvW (FP.l2d lr) (FP.l2d lc) (FP.l2d lq))), .second, .val (.double (lvW (FP.dmul (FP.l2d lq) sc) (FP.dmul (FP.l2d lc) sc) (FP.dmul (FP.l2d lr) sc))), .second] [(.int (1 : Int32))])
      refine GoW.retZ X7 hS hk_5 hh7 hx hlk hret (by decide) (hb hby at_188) (by decide) (by decide) ?_
      try rw [hh7]
      exact ⟨rfl, N7⟩
    · refine GoW.step (fun _ k => XS.ifYes X7.here hx rfl (pc0 := 160) (pc' := 167) rfl (hb hby at_160) rfl (eq_n .l hd160_8).1 (by decide) (by decide) k) ?_
      show GoW _ _ _ _ _ _ _ T7 (mkF m 167 #[.val (.int p0), .val (.int p1), .val (.int p2), .val (.int p3), .val (.long lr), .second, .val (.long lq), .second, .val (.long ls), .second, .val (.long lc), .second, .val (.double (FP.ddiv (FP.l2d (ls - lc)) (FP.l2d ls))), .second, .val (.double sc), .second, .val (.ref b2), .val (.ref b4), .val (.double (lvW (FP.l2d lr) (FP.l2d lc) (FP.l2d lq))), .second, .val (.double (lvW (FP.dmul (FP.l2d lq) sc) (FP.dmul (FP.l2d lc) sc) (FP.dmul (FP.l2d lr) sc))), .second] [])
      refine GoW.step (fun _ k => XS.iconst X7.here hx rfl (hb hby at_167) k) ?_
      show GoW _ _ _ _ _ _ _ T7 (mkF m 168 #[.val (.int p0), .val (.int p1), .val (.int p2), .val (.int p3), .val (.long lr), .second, .val (.long lq), .second, .val (.long ls), .second, .val (.long lc), .second, .val (.double (FP.ddiv (FP.l2d (ls - lc)) (FP.l2d ls))), .second, .val (.double sc), .second, .val (.ref b2), .val (.ref b4), .val (.double (lvW (FP.l2d lr) (FP.l2d lc) (FP.l2d lq))), .second, .val (.double (lvW (FP.dmul (FP.l2d lq) sc) (FP.dmul (FP.l2d lc) sc) (FP.dmul (FP.l2d lr) sc))), .second] [(.int (0 : Int32))])
      refine GoW.step (fun _ k => XS.lload X7.here hx rfl (hb hby at_168) rfl k) ?_
      show GoW _ _ _ _ _ _ _ T7 (mkF m 170 #[.val (.int p0), .val (.int p1), .val (.int p2), .val (.int p3), .val (.long lr), .second, .val (.long lq), .second, .val (.long ls), .second, .val (.long lc), .second, .val (.double (FP.ddiv (FP.l2d (ls - lc)) (FP.l2d ls))), .second, .val (.double sc), .second, .val (.ref b2), .val (.ref b4), .val (.double (lvW (FP.l2d lr) (FP.l2d lc) (FP.l2d lq))), .second, .val (.double (lvW (FP.dmul (FP.l2d lq) sc) (FP.dmul (FP.l2d lc) sc) (FP.dmul (FP.l2d lr) sc))), .second] [(.long lc), (.int (0 : Int32))])
      refine GoW.step (fun _ k => XS.lconst X7.here hx rfl (hb hby at_170) k) ?_
      show GoW _ _ _ _ _ _ _ T7 (mkF m 171 #[.val (.int p0), .val (.int p1), .val (.int p2), .val (.int p3), .val (.long lr), .second, .val (.long lq), .second, .val (.long ls), .second, .val (.long lc), .second, .val (.double (FP.ddiv (FP.l2d (ls - lc)) (FP.l2d ls))), .second, .val (.double sc), .second, .val (.ref b2), .val (.ref b4), .val (.double (lvW (FP.l2d lr) (FP.l2d lc) (FP.l2d lq))), .second, .val (.double (lvW (FP.dmul (FP.l2d lq) sc) (FP.dmul (FP.l2d lc) sc) (FP.dmul (FP.l2d lr) sc))), .second] [(.long (0 : Int64)), (.long lc), (.int (0 : Int32))])
      refine GoW.step (fun _ k => XS.lcmp X7.here hx rfl (hb hby at_171) rfl k) ?_
      show GoW _ _ _ _ _ _ _ T7 (mkF m 172 #[.val (.int p0), .val (.int p1), .val (.int p2), .val (.int p3), .val (.long lr), .second, .val (.long lq), .second, .val (.long ls), .second, .val (.long lc), .second, .val (.double (FP.ddiv (FP.l2d (ls - lc)) (FP.l2d ls))), .second, .val (.double sc), .second, .val (.ref b2), .val (.ref b4), .val (.double (lvW (FP.l2d lr) (FP.l2d lc) (FP.l2d lq))), .second, .val (.double (lvW (FP.dmul (FP.l2d lq) sc) (FP.dmul (FP.l2d lc) sc) (FP.dmul (FP.l2d lr) sc))), .second] [(.int (lcmpW lc (0 : Int64))), (.int (0 : Int32))])
      refine GoW.step (fun _ k => XS.ifYes X7.here hx rfl (pc0 := 172) (pc' := 179) rfl (hb hby at_172) rfl ((if0 _ _).trans (feq (fun q => (fun q => hd160_8 ((own_a5 hB).mpr q)) ((lw_eq lc (0 : Int64)).mp q))).2) (by decide) (by decide) k) ?_
      show GoW _ _ _ _ _ _ _ T7 (mkF m 179 #[.val (.int p0), .val (.int p1), .val (.int p2), .val (.int p3), .val (.long lr), .second, .val (.long lq), .second, .val (.long ls), .second, .val (.long lc), .second, .val (.double (FP.ddiv (FP.l2d (ls - lc)) (FP.l2d ls))), .second, .val (.double sc), .second, .val (.ref b2), .val (.ref b4), .val (.double (lvW (FP.l2d lr) (FP.l2d lc) (FP.l2d lq))), .second, .val (.double (lvW (FP.dmul (FP.l2d lq) sc) (FP.dmul (FP.l2d lc) sc) (FP.dmul (FP.l2d lr) sc))), .second] [(.int (0 : Int32))])
      refine GoW.step (fun _ k => XS.iconst X7.here hx rfl (hb hby at_179) k) ?_
      show GoW _ _ _ _ _ _ _ T7 (mkF m 180 #[.val (.int p0), .val (.int p1), .val (.int p2), .val (.int p3), .val (.long lr), .second, .val (.long lq), .second, .val (.long ls), .second, .val (.long lc), .second, .val (.double (FP.ddiv (FP.l2d (ls - lc)) (FP.l2d ls))), .second, .val (.double sc), .second, .val (.ref b2), .val (.ref b4), .val (.double (lvW (FP.l2d lr) (FP.l2d lc) (FP.l2d lq))), .second, .val (.double (lvW (FP.dmul (FP.l2d lq) sc) (FP.dmul (FP.l2d lc) sc) (FP.dmul (FP.l2d lr) sc))), .second] [(.int (0 : Int32)), (.int (0 : Int32))])
      refine GoW.step (fun _ k => XS.icmpNo X7.here hx rfl (hb hby at_180) rfl (teq (by decide : (0 : Int32) = (0 : Int32))).2 k) ?_
      show GoW _ _ _ _ _ _ _ T7 (mkF m 183 #[.val (.int p0), .val (.int p1), .val (.int p2), .val (.int p3), .val (.long lr), .second, .val (.long lq), .second, .val (.long ls), .second, .val (.long lc), .second, .val (.double (FP.ddiv (FP.l2d (ls - lc)) (FP.l2d ls))), .second, .val (.double sc), .second, .val (.ref b2), .val (.ref b4), .val (.double (lvW (FP.l2d lr) (FP.l2d lc) (FP.l2d lq))), .second, .val (.double (lvW (FP.dmul (FP.l2d lq) sc) (FP.dmul (FP.l2d lc) sc) (FP.dmul (FP.l2d lr) sc))), .second] [])
      refine GoW.step (fun _ k => XS.iconst X7.here hx rfl (hb hby at_183) k) ?_
      show GoW _ _ _ _ _ _ _ T7 (mkF m 184 #[.val (.int p0), .val (.int p1), .val (.int p2), .val (.int p3), .val (.long lr), .second, .val (.long lq), .second, .val (.long ls), .second, .val (.long lc), .second, .val (.double (FP.ddiv (FP.l2d (ls - lc)) (FP.l2d ls))), .second, .val (.double sc), .second, .val (.ref b2), .val (.ref b4), .val (.double (lvW (FP.l2d lr) (FP.l2d lc) (FP.l2d lq))), .second, .val (.double (lvW (FP.dmul (FP.l2d lq) sc) (FP.dmul (FP.l2d lc) sc) (FP.dmul (FP.l2d lr) sc))), .second] [(.int (1 : Int32))])
      refine GoW.step (fun _ k => XS.goto X7.here hx rfl (pc0 := 184) (pc' := 188) rfl (hb hby at_184) (by decide) (by decide) k) ?_
      show GoW _ _ _ _ _ _ _ T7 (mkF m 188 #[.val (.int p0), .val (.int p1), .val (.int p2), .val (.int p3), .val (.long lr), .second, .val (.long lq), .second, .val (.long ls), .second, .val (.long lc), .second, .val (.double (FP.ddiv (FP.l2d (ls - lc)) (FP.l2d ls))), .second, .val (.double sc), .second, .val (.ref b2), .val (.ref b4), .val (.double (lvW (FP.l2d lr) (FP.l2d lc) (FP.l2d lq))), .second, .val (.double (lvW (FP.dmul (FP.l2d lq) sc) (FP.dmul (FP.l2d lc) sc) (FP.dmul (FP.l2d lr) sc))), .second] [(.int (1 : Int32))])
      refine GoW.retZ X7 hS hk_5 hh7 hx hlk hret (by decide) (hb hby at_188) (by decide) (by decide) ?_
      try rw [hh7]
      exact ⟨rfl, N7⟩
theorem pn_0 : plainName "com/example/headroom/headroom/ProfitPricesProfitableLevelPinLaw" = true := by first | (simp [plainName, overriddenIn]; done) | decide +kernel
theorem ef_rm0 (m : MethodId) (p0 : Int32) (p1 : Int32) (p2 : Int32) (p3 : Int32) : entryFrame m #[(.int p0), (.int p1), (.int p2), (.int p3)] maxLocals = mkF m 0 #[.val (.int p0), .val (.int p1), .val (.int p2), .val (.int p3), .unset, .unset, .unset, .unset, .unset, .unset, .unset, .unset, .unset, .unset, .unset, .unset, .unset, .unset, .unset, .unset, .unset, .unset] [] := by first | (simp [entryFrame, mkF, argsToLocals, Value.category, maxLocals]; done) | rfl
theorem rm0 (l : Launch) (Z : State) (a0 : Array Value) (hw : ∀ d ∈ tables_1, d.before a0 Z = true) (ws : List Jvm.Cond) (p0 p1 p2 p3 : Int32) (h0 : Heap) (n0 : Nat) (Z0 : n0 ≤ h0.size)  :
    MetFree l x (head1 (Jvm.Cond.code x code maxLocals ret :: ws) room_1) (fun a U => a = #[(.int p0), (.int p1), (.int p2), (.int p3)] ∧ Z.Warmed39 U.vm ∧ U.heap = h0) (fun _ _ _ _ _ => True) (fun _ U o U' => ∃ v L, o = .returned v ∧ (fun r h L => r = some (.int 1) ∧ Fr n0 L) v U'.heap L ∧ ReturnedEndW U o U' L room_1.cells room_1.slots) :=
  con_ofW (plainFor_of_name pn_0) (fun p_ e_ s_ m_ b_ meth_ c_ T_ X_ hx hZ hby hml hown hnm hret hlk e0 => GoW.cast (ef_rm0 m_ p0 p1 p2 p3) (w0 p0 p1 p2 p3 X_ hx hZ hw hby hml hown hnm hret hlk e0 Z0 (Fr.nil n0) ))
set_option maxRecDepth 65536 in
set_option maxHeartbeats 40000000 in
theorem comes_1 {Post : Tables → Env → Array Value → State → Outcome → State → Prop} (hpost : ∀ tb e args s v u, (limb_1_1.after args s (.returned v) u = true ∧ limb_1_2.after args s (.returned v) u = true ∧ True) → ReturnedEndW s (.returned v) u (Jvm.fieldLocs frame_1_writes args s ++ Jvm.arrayLocs frame_1_arrays args s ++ Jvm.staticLocs frame_1_statics s) 24 3200 → Post tb e args s (.returned v) u) :
    ArmFor flags0 classFile x code maxLocals ret World_1 tables_1 room_1 Calls_1 rest_1 Pre_1 Post := by
  intro l hfl _ _ p e ha hc hk s m args below hf hA hF happ hP
  obtain ⟨hcalls, hrest, hpre⟩ := hP
  obtain ⟨-, -, -, hnamed, -, -, -, hat⟩ := (Spec.applies_iff hf).mp happ
  obtain ⟨hg, hn⟩ := and_e (Cond.before_iff.mp (show (Jvm.Cond.and given_1 narrow_1).before args s = true from hpre))
  obtain ⟨g1, g2⟩ := and_e hg
  obtain ⟨g3, g4⟩ := and_e g2
  obtain ⟨g5, g6⟩ := and_e g4
  obtain ⟨g7, g8⟩ := and_e g6
  obtain ⟨w0, w1, w2, w3, rfl⟩ : ∃ w0 w1 w2 w3 : Value, args = #[w0, w1, w2, w3] := by
    have hs : args.size = 4 := by simpa [Cond.value, given_1] using g1
    obtain ⟨L⟩ := args
    match L, hs with
    | [w0, w1, w2, w3], _ => exact ⟨w0, w1, w2, w3, rfl⟩
  have hw := fun d (hd : d ∈ tables_1) => atoms_spec (ws := Jvm.Cond.code x code maxLocals ret :: tables_1) hat d (List.mem_cons_of_mem _ hd)
  have hfit : Fit s := fun {y c} hc i hi => by
    obtain ⟨ha, rfl⟩ := Array.getElem?_eq_some_iff.mp hc
    have q := List.all_eq_true.mp ((Array.all_eq_true_iff_forall_mem.mp hF) _ (Array.getElem_mem ha)) i (List.mem_range.mpr hi)
    simpa [Array.getElem?_eq_getElem hi] using q
  obtain ⟨i0, ei0⟩ := is_v g3
  obtain rfl : w0 = (.int i0) := Option.some.inj ei0
  obtain ⟨i1, ei1⟩ := is_v g5
  obtain rfl : w1 = (.int i1) := Option.some.inj ei1
  obtain ⟨i2, ei2⟩ := is_v g7
  obtain rfl : w2 = (.int i2) := Option.some.inj ei2
  obtain ⟨i3, ei3⟩ := is_v g8
  obtain rfl : w3 = (.int i3) := Option.some.inj ei3
  obtain ⟨n, o, h1, h2, h3, _, L, rfl, ⟨rfl, N⟩, hq⟩ := rm0 l s _ hw tables_1 i0 i1 i2 i3 s.heap s.heap.size (Nat.le_refl _)  p e ha hc hk s m _ below hf ((Spec.applies_iff_loose hf).mp happ).1 ⟨rfl, State.Warmed39.refl s, rfl⟩ trivial
  refine ⟨n, _, h1, h2, h3, hpost _ _ _ _ _ _ ⟨Cond.after_iff.mpr rfl, Cond.after_iff.mpr (eq_i res_at (Term.int_eval (1)) rfl), trivial⟩ ⟨hq.1, hq.2.1, hq.2.2.1, (hq.2.2.2.sift fun y hy => Or.inr (N y hy)).mono (by decide) (by decide)⟩⟩
theorem main_1_1 : Claimed_1_1 := comes_1 fun _ _ _ _ _ _ h hF => ⟨h.1, hF⟩
theorem main_1_2 : Claimed_1_2 := comes_1 fun _ _ _ _ _ _ h hF => ⟨h.2.1, hF⟩
end Jvm.Pilot.@@N@@
namespace Jvm.Pilot.@@N@@
open Jvm Jvm.ClassFile Sem Op Lib Jvm.Free Jvm.Stand Jvm.Pilot.@@N@@.Jvm.D
/-! MADE BY PROGRAM (witnessworld.py) out of the Statement's table words and the real class files: 19 classes; the members and pool entries that the words name. The judged class is class 1, her method 1. -/
namespace start1
open Jvm.ClassFile
def u (s : String) : CpInfo := .utf8 (stringToUtf16 s)
/-- a pool by its gaps: so many unusable entries, then the entry; so many at the end -/
def gap : Nat → List CpInfo → List CpInfo
  | 0, r => r
  | n + 1, r => .unusable :: gap n r
def poolList (es : List (Nat × CpInfo)) (last : Nat) : List CpInfo := es.foldr (fun e r => gap e.1 (e.2 :: r)) (gap last [])
def pool (es : List (Nat × CpInfo)) (last : Nat) : Array CpInfo := ⟨poolList es last⟩
def fileOf (pool : Array CpInfo) (this : Nat) (attrs : Array Attribute := #[]) (ms : Array MethodInfo := #[]) (fl : Nat := 33) (sup : Nat := 0) (ifs : Array Nat := #[]) (fds : Array FieldInfo := #[]) : ClassFile where
  minorVersion := 0
  majorVersion := 65
  constantPool := pool
  accessFlags := fl
  thisClass := this
  superClass := sup
  interfaces := ifs
  fields := fds
  methods := ms
  attributes := attrs
def plain (name : String) (sup : Option ClassId) : Class where
  name := name
  kind := .ordinary
  loader := none
  accessFlags := 33
  super := sup
  interfaces := #[]
  cf := none
  fields := #[]
  methods := #[]
  instanceTypes := #[]
  staticTypes := #[]
  resolved := #[]
  callSites := []
  init := .initialized
  statics := none
  mirror := none

def pool0 : Array CpInfo := pool [(5, u "<init>"), (0, u "()V"), (1, .class_ 10), (1, u "java/lang/Object")] 113

def k0c0 : Code := { maxStack := 0, maxLocals := 1, code := object_method_1_code, exceptionTable := #[], attributes := #[] }
def k0m0 : Method := { name := "<init>", desc := "()V", sig := { parameters := [], returnType := none }, accessFlags := 1, code := some k0c0 }
/-- java/lang/Object -/
def k0 : Class := { plain "java/lang/Object" none with
  accessFlags := 33
  interfaces := #[]
  cf := some (fileOf pool0 8 #[] #[{ accessFlags := 1, nameIndex := 5, descriptorIndex := 6, attributes := #[] }] 33 0 #[] #[])
  fields := #[]
  methods := #[k0m0]
  instanceTypes := #[]
  staticTypes := #[]
  resolved := Array.replicate 124 none
  statics := none }

def pool1 : Array CpInfo := pool [(2, .class_ 4), (1, u "java/lang/Object"), (0, u "<init>"), (0, u "()V"), (0, .long 1073741823), (1, .long 2147483647), (1, .class_ 12), (0, u "com/example/headroom/headroom/Sizing$ProfitPrices"), (0, .methodref 11 14), (0, .nameAndType 5 15), (0, u "(DDD)V"), (0, .methodref 11 17), (0, .nameAndType 18 19), (0, u "profitableLevel"), (0, u "()D"), (0, .class_ 21), (0, u "com/example/headroom/headroom/ProfitPricesProfitableLevelPinLaw"), (2, u "law"), (0, u "(IIII)Z")] 7

def k1m0 : Method := { name := "<init>", desc := "()V", sig := { parameters := [], returnType := none }, accessFlags := 1, code := none }
def k1c1 : Code := { maxStack := 10, maxLocals := 22, code := code, exceptionTable := #[], attributes := #[] }
def k1m1 : Method := { name := "law", desc := "(IIII)Z", sig := { parameters := [.int, .int, .int, .int], returnType := some .boolean }, accessFlags := 9, code := some k1c1 }
/-- com/example/headroom/headroom/ProfitPricesProfitableLevelPinLaw -/
def k1 : Class := { plain "com/example/headroom/headroom/ProfitPricesProfitableLevelPinLaw" (some 0) with
  accessFlags := 49
  interfaces := #[]
  cf := some (fileOf pool1 20 #[] #[{ accessFlags := 1, nameIndex := 5, descriptorIndex := 6, attributes := #[] }, { accessFlags := 9, nameIndex := 24, descriptorIndex := 25, attributes := #[] }] 49 2 #[] #[])
  fields := #[]
  methods := #[k1m0, k1m1]
  instanceTypes := #[]
  staticTypes := #[]
  resolved := Array.replicate 33 none
  statics := none }

def pool2 : Array CpInfo := pool [(1, .methodref 2 3), (0, .class_ 4), (0, .nameAndType 5 6), (0, u "java/lang/Object"), (0, u "<init>"), (0, u "()V"), (0, .class_ 8), (0, u "java/lang/Record")] 13

def k2c0 : Code := { maxStack := 1, maxLocals := 1, code := jdk_30_method_1_code, exceptionTable := #[], attributes := #[] }
def k2m0 : Method := { name := "<init>", desc := "()V", sig := { parameters := [], returnType := none }, accessFlags := 4, code := some k2c0 }
/-- java/lang/Record -/
def k2 : Class := { plain "java/lang/Record" (some 0) with
  accessFlags := 1057
  interfaces := #[]
  cf := some (fileOf pool2 7 #[] #[{ accessFlags := 4, nameIndex := 5, descriptorIndex := 6, attributes := #[] }] 1057 2 #[] #[])
  fields := #[]
  methods := #[k2m0]
  instanceTypes := #[]
  staticTypes := #[]
  resolved := Array.replicate 22 none
  statics := none }

def pool3 : Array CpInfo := pool [(1, .methodref 2 3), (0, .class_ 4), (0, .nameAndType 5 6), (0, u "java/lang/Record"), (0, u "<init>"), (0, u "()V"), (0, .string 8), (0, u "revenue"), (0, .methodref 10 11), (0, .class_ 12), (0, .nameAndType 13 14), (0, u "com/example/headroom/headroom/PriceSheet"), (0, u "requirePrice"), (0, u "(Ljava/lang/String;D)V"), (0, .string 16), (0, u "unit cost"), (0, .string 18), (0, u "penalty"), (0, .methodref 20 21), (0, .class_ 22), (0, .nameAndType 23 24), (0, u "java/lang/Double"), (0, u "isInfinite"), (0, u "(D)Z"), (27, .fieldref 53 54), (0, .class_ 55), (0, .nameAndType 8 56), (0, u "com/example/headroom/headroom/Sizing$ProfitPrices"), (0, u "D"), (0, .fieldref 53 58), (0, .nameAndType 59 56), (0, u "unitCost"), (0, .fieldref 53 61), (0, .nameAndType 18 56), (9, u "()D"), (12, u "(DDD)V"), (4, u "profitableLevel"), (8, .class_ 99), (0, u "com/example/headroom/headroom/Sizing")] 21

def k3c0 : Code := { maxStack := 9, maxLocals := 7, code := prog_30_method_1_code, exceptionTable := #[], attributes := #[] }
def k3m0 : Method := { name := "<init>", desc := "(DDD)V", sig := { parameters := [.double, .double, .double], returnType := none }, accessFlags := 1, code := some k3c0 }
def k3c1 : Code := { maxStack := 6, maxLocals := 1, code := prog_30_method_2_code, exceptionTable := #[], attributes := #[] }
def k3m1 : Method := { name := "profitableLevel", desc := "()D", sig := { parameters := [], returnType := some .double }, accessFlags := 1, code := some k3c1 }
/-- com/example/headroom/headroom/Sizing$ProfitPrices -/
def k3 : Class := { plain "com/example/headroom/headroom/Sizing$ProfitPrices" (some 2) with
  accessFlags := 49
  interfaces := #[]
  cf := some (fileOf pool3 53 #[.nestHost 98] #[{ accessFlags := 1, nameIndex := 5, descriptorIndex := 84, attributes := #[] }, { accessFlags := 1, nameIndex := 89, descriptorIndex := 71, attributes := #[] }] 49 2 #[] #[{ accessFlags := 18, nameIndex := 8, descriptorIndex := 56, attributes := #[] }, { accessFlags := 18, nameIndex := 59, descriptorIndex := 56, attributes := #[] }, { accessFlags := 18, nameIndex := 18, descriptorIndex := 56, attributes := #[] }])
  fields := #[{ name := "revenue", type := .double, accessFlags := 18, slot := 0, constantValue := 0 }, { name := "unitCost", type := .double, accessFlags := 18, slot := 1, constantValue := 0 }, { name := "penalty", type := .double, accessFlags := 18, slot := 2, constantValue := 0 }]
  methods := #[k3m0, k3m1]
  instanceTypes := #[.double, .double, .double]
  staticTypes := #[]
  resolved := Array.replicate 121 none
  statics := none }

def pool4 : Array CpInfo := pool [(1, .class_ 2), (0, u "java/io/Serializable"), (0, .class_ 4), (0, u "java/lang/Object")] 2

/-- java/io/Serializable -/
def k4 : Class := { plain "java/io/Serializable" (some 0) with
  accessFlags := 1537
  interfaces := #[]
  cf := some (fileOf pool4 1 #[] #[] 1537 3 #[] #[])
  fields := #[]
  methods := #[]
  instanceTypes := #[]
  staticTypes := #[]
  resolved := Array.replicate 7 none
  statics := none }

def pool5 : Array CpInfo := pool [(1, .class_ 2), (0, u "java/lang/Comparable"), (0, .class_ 4), (0, u "java/lang/Object")] 7

/-- java/lang/Comparable -/
def k5 : Class := { plain "java/lang/Comparable" (some 0) with
  accessFlags := 1537
  interfaces := #[]
  cf := some (fileOf pool5 1 #[] #[] 1537 3 #[] #[])
  fields := #[]
  methods := #[]
  instanceTypes := #[]
  staticTypes := #[]
  resolved := Array.replicate 12 none
  statics := none }

def pool6 : Array CpInfo := pool [(2, .class_ 4), (1, u "java/lang/CharSequence"), (42, .class_ 48), (0, u "java/lang/CharSequence$1CodePointIterator"), (10, .class_ 60), (0, u "java/lang/CharSequence$1CharIterator"), (5, .class_ 67), (0, u "java/lang/Object")] 63

/-- java/lang/CharSequence -/
def k6 : Class := { plain "java/lang/CharSequence" (some 0) with
  accessFlags := 1537
  interfaces := #[]
  cf := some (fileOf pool6 2 #[.nestMembers #[47, 59]] #[] 1537 66 #[] #[])
  fields := #[]
  methods := #[]
  instanceTypes := #[]
  staticTypes := #[]
  resolved := Array.replicate 131 none
  statics := none }

def pool7 : Array CpInfo := pool [(1, .class_ 2), (0, u "java/lang/constant/Constable"), (0, .class_ 4), (0, u "java/lang/Object")] 6

/-- java/lang/constant/Constable -/
def k7 : Class := { plain "java/lang/constant/Constable" (some 0) with
  accessFlags := 1537
  interfaces := #[]
  cf := some (fileOf pool7 1 #[] #[] 1537 3 #[] #[])
  fields := #[]
  methods := #[]
  instanceTypes := #[]
  staticTypes := #[]
  resolved := Array.replicate 11 none
  statics := none }

def pool8 : Array CpInfo := pool [(1, .class_ 2), (0, u "java/lang/constant/ConstantDesc"), (0, .class_ 4), (0, u "java/lang/Object")] 32

/-- java/lang/constant/ConstantDesc -/
def k8 : Class := { plain "java/lang/constant/ConstantDesc" (some 0) with
  accessFlags := 1537
  interfaces := #[]
  cf := some (fileOf pool8 1 #[] #[] 1537 3 #[] #[])
  fields := #[]
  methods := #[]
  instanceTypes := #[]
  staticTypes := #[]
  resolved := Array.replicate 37 none
  statics := none }

def pool9 : Array CpInfo := pool [(2, .class_ 4), (1, u "java/lang/Object"), (0, u "<init>"), (0, u "()V"), (3, .class_ 12), (1, u "java/lang/String"), (0, u "value"), (0, u "[B"), (2, u "coder"), (0, u "B"), (2, u "hash"), (0, u "I"), (2, u "hashIsZero"), (0, u "Z"), (13, u "COMPACT_STRINGS"), (534, .class_ 576), (0, u "java/lang/CharSequence"), (22, u "CASE_INSENSITIVE_ORDER"), (0, u "Ljava/util/Comparator;"), (500, u "serialPersistentFields"), (0, u "[Ljava/io/ObjectStreamField;"), (0, .class_ 1104), (0, u "java/lang/String$CaseInsensitiveComparator"), (1, .class_ 1107), (0, u "java/io/Serializable"), (0, .class_ 1109), (0, u "java/lang/Comparable"), (0, .class_ 1111), (0, u "java/lang/constant/Constable"), (0, .class_ 1113), (0, u "java/lang/constant/ConstantDesc"), (2, u "serialVersionUID"), (0, u "J"), (3, u "REPL"), (0, u "C"), (2, u "LATIN1"), (1, u "UTF16")] 323

def k9m0 : Method := { name := "<init>", desc := "()V", sig := { parameters := [], returnType := none }, accessFlags := 1, code := none }
/-- java/lang/String -/
def k9 : Class := { plain "java/lang/String" (some 0) with
  accessFlags := 49
  interfaces := #[4, 5, 6, 7, 8]
  cf := some (fileOf pool9 10 #[.nestMembers #[1103]] #[{ accessFlags := 1, nameIndex := 5, descriptorIndex := 6, attributes := #[] }] 49 2 #[1106, 1108, 575, 1110, 1112] #[{ accessFlags := 18, nameIndex := 13, descriptorIndex := 14, attributes := #[] }, { accessFlags := 18, nameIndex := 17, descriptorIndex := 18, attributes := #[] }, { accessFlags := 2, nameIndex := 21, descriptorIndex := 22, attributes := #[] }, { accessFlags := 2, nameIndex := 25, descriptorIndex := 26, attributes := #[] }, { accessFlags := 26, nameIndex := 1116, descriptorIndex := 1117, attributes := #[] }, { accessFlags := 24, nameIndex := 40, descriptorIndex := 26, attributes := #[] }, { accessFlags := 26, nameIndex := 1101, descriptorIndex := 1102, attributes := #[] }, { accessFlags := 26, nameIndex := 1121, descriptorIndex := 1122, attributes := #[] }, { accessFlags := 25, nameIndex := 599, descriptorIndex := 600, attributes := #[] }, { accessFlags := 24, nameIndex := 1125, descriptorIndex := 18, attributes := #[] }, { accessFlags := 24, nameIndex := 1127, descriptorIndex := 18, attributes := #[] }])
  fields := #[{ name := "value", type := (.array .byte), accessFlags := 18, slot := 0, constantValue := 0 }, { name := "coder", type := .byte, accessFlags := 18, slot := 1, constantValue := 0 }, { name := "hash", type := .int, accessFlags := 2, slot := 2, constantValue := 0 }, { name := "hashIsZero", type := .boolean, accessFlags := 2, slot := 3, constantValue := 0 }, { name := "serialVersionUID", type := .long, accessFlags := 26, slot := 0, constantValue := 0 }, { name := "COMPACT_STRINGS", type := .boolean, accessFlags := 24, slot := 1, constantValue := 0 }, { name := "serialPersistentFields", type := (.array (.object "java/io/ObjectStreamField")), accessFlags := 26, slot := 2, constantValue := 0 }, { name := "REPL", type := .char, accessFlags := 26, slot := 3, constantValue := 0 }, { name := "CASE_INSENSITIVE_ORDER", type := (.object "java/util/Comparator"), accessFlags := 25, slot := 4, constantValue := 0 }, { name := "LATIN1", type := .byte, accessFlags := 24, slot := 5, constantValue := 0 }, { name := "UTF16", type := .byte, accessFlags := 24, slot := 6, constantValue := 0 }]
  methods := #[k9m0]
  instanceTypes := #[(.array .byte), .byte, .int, .boolean]
  staticTypes := #[.long, .boolean, (.array (.object "java/io/ObjectStreamField")), .char, (.object "java/util/Comparator"), .byte, .byte]
  resolved := Array.replicate 1451 none
  statics := none }

def pool10 : Array CpInfo := pool [(2, .class_ 4), (1, u "java/lang/Record"), (5, .class_ 12), (1, u "com/example/headroom/headroom/PriceSheet"), (0, u "requirePrice"), (0, u "(Ljava/lang/String;D)V"), (4, u "setupCost"), (0, u "D"), (2, u "unitCost"), (4, .methodref 29 30), (0, .class_ 31), (0, .nameAndType 32 33), (0, u "java/lang/Double"), (0, u "isFinite"), (0, u "(D)Z")] 68

def k10c0 : Code := { maxStack := 9, maxLocals := 3, code := prog_18_method_4_code, exceptionTable := #[], attributes := #[] }
def k10m0 : Method := { name := "requirePrice", desc := "(Ljava/lang/String;D)V", sig := { parameters := [(.object "java/lang/String"), .double], returnType := none }, accessFlags := 8, code := some k10c0 }
/-- com/example/headroom/headroom/PriceSheet -/
def k10 : Class := { plain "com/example/headroom/headroom/PriceSheet" (some 2) with
  accessFlags := 49
  interfaces := #[]
  cf := some (fileOf pool10 10 #[] #[{ accessFlags := 8, nameIndex := 13, descriptorIndex := 14, attributes := #[] }] 49 2 #[] #[{ accessFlags := 18, nameIndex := 19, descriptorIndex := 20, attributes := #[] }, { accessFlags := 18, nameIndex := 23, descriptorIndex := 20, attributes := #[] }])
  fields := #[{ name := "setupCost", type := .double, accessFlags := 18, slot := 0, constantValue := 0 }, { name := "unitCost", type := .double, accessFlags := 18, slot := 1, constantValue := 0 }]
  methods := #[k10m0]
  instanceTypes := #[.double, .double]
  staticTypes := #[]
  resolved := Array.replicate 102 none
  statics := none }

def pool11 : Array CpInfo := pool [(2, .class_ 4), (1, u "java/lang/Object"), (0, u "<init>"), (0, u "()V"), (1, .class_ 10), (1, u "java/lang/Number"), (2, .class_ 14), (0, u "java/io/Serializable"), (0, u "serialVersionUID"), (0, u "J")] 20

def k11m0 : Method := { name := "<init>", desc := "()V", sig := { parameters := [], returnType := none }, accessFlags := 1, code := none }
/-- java/lang/Number -/
def k11 : Class := { plain "java/lang/Number" (some 0) with
  accessFlags := 1057
  interfaces := #[4]
  cf := some (fileOf pool11 8 #[] #[{ accessFlags := 1, nameIndex := 5, descriptorIndex := 6, attributes := #[] }] 1057 2 #[13] #[{ accessFlags := 26, nameIndex := 15, descriptorIndex := 16, attributes := #[] }])
  fields := #[{ name := "serialVersionUID", type := .long, accessFlags := 26, slot := 0, constantValue := 0 }]
  methods := #[k11m0]
  instanceTypes := #[]
  staticTypes := #[.long]
  resolved := Array.replicate 37 none
  statics := none }

def pool12 : Array CpInfo := pool [(1, .class_ 2), (0, u "java/lang/Double"), (10, u "isFinite"), (0, u "(D)Z"), (8, .class_ 25), (1, u "java/lang/Math"), (12, .methodref 23 39), (0, .nameAndType 40 41), (0, u "abs"), (0, u "(D)D"), (69, .double 9218868437227405311), (2, .class_ 116), (1, u "java/lang/Number"), (3, u "value"), (0, u "D"), (5, u "isInfinite"), (45, u "TYPE"), (0, u "Ljava/lang/Class;"), (0, .class_ 176), (0, u "java/lang/Comparable"), (0, .class_ 178), (0, u "java/lang/constant/Constable"), (0, .class_ 180), (0, u "java/lang/constant/ConstantDesc"), (0, u "POSITIVE_INFINITY"), (3, u "NEGATIVE_INFINITY"), (2, u "NaN"), (2, u "MAX_VALUE"), (0, u "MIN_NORMAL"), (0, u "MIN_VALUE"), (2, u "SIZE"), (0, u "I"), (1, u "PRECISION"), (1, u "MAX_EXPONENT"), (1, u "MIN_EXPONENT"), (1, u "BYTES"), (3, u "serialVersionUID"), (0, u "J")] 79

def k12c0 : Code := { maxStack := 4, maxLocals := 2, code := jdk_117_method_7_code, exceptionTable := #[], attributes := #[] }
def k12m0 : Method := { name := "isInfinite", desc := "(D)Z", sig := { parameters := [.double], returnType := some .boolean }, accessFlags := 9, code := some k12c0 }
def k12c1 : Code := { maxStack := 4, maxLocals := 2, code := jdk_117_method_8_code, exceptionTable := #[], attributes := #[] }
def k12m1 : Method := { name := "isFinite", desc := "(D)Z", sig := { parameters := [.double], returnType := some .boolean }, accessFlags := 9, code := some k12c1 }
/-- java/lang/Double -/
def k12 : Class := { plain "java/lang/Double" (some 11) with
  accessFlags := 49
  interfaces := #[5, 7, 8]
  cf := some (fileOf pool12 1 #[] #[{ accessFlags := 9, nameIndex := 127, descriptorIndex := 14, attributes := #[] }, { accessFlags := 9, nameIndex := 13, descriptorIndex := 14, attributes := #[] }] 49 114 #[175, 177, 179] #[{ accessFlags := 25, nameIndex := 181, descriptorIndex := 121, attributes := #[] }, { accessFlags := 25, nameIndex := 185, descriptorIndex := 121, attributes := #[] }, { accessFlags := 25, nameIndex := 188, descriptorIndex := 121, attributes := #[] }, { accessFlags := 25, nameIndex := 191, descriptorIndex := 121, attributes := #[] }, { accessFlags := 25, nameIndex := 192, descriptorIndex := 121, attributes := #[] }, { accessFlags := 25, nameIndex := 193, descriptorIndex := 121, attributes := #[] }, { accessFlags := 25, nameIndex := 196, descriptorIndex := 197, attributes := #[] }, { accessFlags := 25, nameIndex := 199, descriptorIndex := 197, attributes := #[] }, { accessFlags := 25, nameIndex := 201, descriptorIndex := 197, attributes := #[] }, { accessFlags := 25, nameIndex := 203, descriptorIndex := 197, attributes := #[] }, { accessFlags := 25, nameIndex := 205, descriptorIndex := 197, attributes := #[] }, { accessFlags := 25, nameIndex := 173, descriptorIndex := 174, attributes := #[] }, { accessFlags := 18, nameIndex := 120, descriptorIndex := 121, attributes := #[] }, { accessFlags := 26, nameIndex := 209, descriptorIndex := 210, attributes := #[] }])
  fields := #[{ name := "POSITIVE_INFINITY", type := .double, accessFlags := 25, slot := 0, constantValue := 0 }, { name := "NEGATIVE_INFINITY", type := .double, accessFlags := 25, slot := 1, constantValue := 0 }, { name := "NaN", type := .double, accessFlags := 25, slot := 2, constantValue := 0 }, { name := "MAX_VALUE", type := .double, accessFlags := 25, slot := 3, constantValue := 0 }, { name := "MIN_NORMAL", type := .double, accessFlags := 25, slot := 4, constantValue := 0 }, { name := "MIN_VALUE", type := .double, accessFlags := 25, slot := 5, constantValue := 0 }, { name := "SIZE", type := .int, accessFlags := 25, slot := 6, constantValue := 0 }, { name := "PRECISION", type := .int, accessFlags := 25, slot := 7, constantValue := 0 }, { name := "MAX_EXPONENT", type := .int, accessFlags := 25, slot := 8, constantValue := 0 }, { name := "MIN_EXPONENT", type := .int, accessFlags := 25, slot := 9, constantValue := 0 }, { name := "BYTES", type := .int, accessFlags := 25, slot := 10, constantValue := 0 }, { name := "TYPE", type := (.object "java/lang/Class"), accessFlags := 25, slot := 11, constantValue := 0 }, { name := "value", type := .double, accessFlags := 18, slot := 0, constantValue := 0 }, { name := "serialVersionUID", type := .long, accessFlags := 26, slot := 12, constantValue := 0 }]
  methods := #[k12m0, k12m1]
  instanceTypes := #[.double]
  staticTypes := #[.double, .double, .double, .double, .double, .double, .int, .int, .int, .int, .int, (.object "java/lang/Class"), .long]
  resolved := Array.replicate 290 none
  statics := none }

def pool13 : Array CpInfo := pool [(1, .class_ 2), (0, u "java/lang/Math"), (1, .class_ 6), (1, u "java/lang/Object"), (0, u "<init>"), (0, u "()V"), (5, u "(D)D"), (83, .class_ 100), (1, u "java/lang/Math$RandomNumberGeneratorHolder"), (23, u "abs"), (47, u "negativeZeroFloatBits"), (0, u "J"), (2, u "negativeZeroDoubleBits"), (68, u "$assertionsDisabled"), (0, u "Z"), (91, u "twoToTheDoubleScaleDown"), (0, u "D"), (4, u "twoToTheDoubleScaleUp"), (9, u "E"), (3, u "PI"), (2, u "TAU"), (2, u "DEGREES_TO_RADIANS"), (0, u "RADIANS_TO_DEGREES")] 94

def k13m0 : Method := { name := "<init>", desc := "()V", sig := { parameters := [], returnType := none }, accessFlags := 2, code := none }
def k13c1 : Code := { maxStack := 4, maxLocals := 2, code := jdk_29_method_64_code, exceptionTable := #[], attributes := #[] }
def k13m1 : Method := { name := "abs", desc := "(D)D", sig := { parameters := [.double], returnType := some .double }, accessFlags := 9, code := some k13c1 }
/-- java/lang/Math -/
def k13 : Class := { plain "java/lang/Math" (some 0) with
  accessFlags := 49
  interfaces := #[]
  cf := some (fileOf pool13 1 #[.nestMembers #[98]] #[{ accessFlags := 2, nameIndex := 7, descriptorIndex := 8, attributes := #[] }, { accessFlags := 9, nameIndex := 124, descriptorIndex := 14, attributes := #[] }] 49 4 #[] #[{ accessFlags := 25, nameIndex := 354, descriptorIndex := 339, attributes := #[] }, { accessFlags := 25, nameIndex := 358, descriptorIndex := 339, attributes := #[] }, { accessFlags := 25, nameIndex := 361, descriptorIndex := 339, attributes := #[] }, { accessFlags := 26, nameIndex := 364, descriptorIndex := 339, attributes := #[] }, { accessFlags := 26, nameIndex := 365, descriptorIndex := 339, attributes := #[] }, { accessFlags := 26, nameIndex := 172, descriptorIndex := 173, attributes := #[] }, { accessFlags := 26, nameIndex := 176, descriptorIndex := 173, attributes := #[] }, { accessFlags := 8, nameIndex := 344, descriptorIndex := 339, attributes := #[] }, { accessFlags := 8, nameIndex := 338, descriptorIndex := 339, attributes := #[] }, { accessFlags := 4120, nameIndex := 245, descriptorIndex := 246, attributes := #[] }])
  fields := #[{ name := "E", type := .double, accessFlags := 25, slot := 0, constantValue := 0 }, { name := "PI", type := .double, accessFlags := 25, slot := 1, constantValue := 0 }, { name := "TAU", type := .double, accessFlags := 25, slot := 2, constantValue := 0 }, { name := "DEGREES_TO_RADIANS", type := .double, accessFlags := 26, slot := 3, constantValue := 0 }, { name := "RADIANS_TO_DEGREES", type := .double, accessFlags := 26, slot := 4, constantValue := 0 }, { name := "negativeZeroFloatBits", type := .long, accessFlags := 26, slot := 5, constantValue := 0 }, { name := "negativeZeroDoubleBits", type := .long, accessFlags := 26, slot := 6, constantValue := 0 }, { name := "twoToTheDoubleScaleUp", type := .double, accessFlags := 8, slot := 7, constantValue := 0 }, { name := "twoToTheDoubleScaleDown", type := .double, accessFlags := 8, slot := 8, constantValue := 0 }, { name := "$assertionsDisabled", type := .boolean, accessFlags := 4120, slot := 9, constantValue := 0 }]
  methods := #[k13m0, k13m1]
  instanceTypes := #[]
  staticTypes := #[.double, .double, .double, .double, .double, .long, .long, .double, .double, .boolean]
  resolved := Array.replicate 460 none
  statics := none }

def pool14 : Array CpInfo := pool [(1, u "java/lang/Cloneable"), (0, .class_ 1), (0, u "java/lang/Object"), (0, .class_ 3)] 3

/-- java/lang/Cloneable -/
def k14 : Class := { plain "java/lang/Cloneable" (some 0) with
  accessFlags := 1537
  interfaces := #[]
  cf := some (fileOf pool14 2 #[] #[] 1537 4 #[] #[])
  fields := #[]
  methods := #[]
  instanceTypes := #[]
  staticTypes := #[]
  resolved := Array.replicate 8 none
  statics := none }

/-- the primitive byte -/
def k15 : Class := { plain "byte" none with kind := .primitive 'B', accessFlags := 0x411 }
/-- [B -/
def k16 : Class := { plain "[B" (some 0) with kind := .array 15 .byte, interfaces := #[14, 4], accessFlags := 1041 }

/-- the primitive int -/
def k17 : Class := { plain "int" none with kind := .primitive 'I', accessFlags := 0x411 }
/-- [I -/
def k18 : Class := { plain "[I" (some 0) with kind := .array 17 .int, interfaces := #[14, 4], accessFlags := 1041 }

def heap : Heap := #[]
def classes : Array Class := #[k0, k1, k2, k3, k4, k5, k6, k7, k8, k9, k10, k11, k12, k13, k14, k15, k16, k17, k18]
def interned : List (Array UInt16 × Addr) := []
def slotsUsed : Nat := 0
def theMethod : MethodId := ⟨1, 1⟩
def args0 : Array Value := #[.int 3, .int 2, .int 5, .int 6]
def aboutOver (below : List Frame) : State where
  vm := { classes := classes, interned := interned.toArray }
  heap := heap
  slotsUsed := slotsUsed
  threads := #[{ frames := .invoking theMethod args0 :: below }]
def below0 : List Frame := [.native { method := ⟨0, 0⟩, args := #[] }]
def about1 : State := aboutOver below0
def p0 : Program := .bare "" "" ""
def e0 : Env := launch0.env 0 0 0
theorem w_frames : about1.frames = Frame.invoking theMethod args0 :: below0 := rfl
set_option maxRecDepth 65536 in
theorem w_args : argsFit about1.vm theMethod args0 = true := by decide +kernel
set_option maxRecDepth 65536 in
theorem w_heap : heapFits about1 = true := by decide +kernel
set_option maxRecDepth 65536 in
theorem w_runnable : about1.curStatus? = some .runnable := by decide +kernel
set_option maxRecDepth 65536 in
theorem w_alone : about1.alone = true := by decide +kernel
set_option maxRecDepth 65536 in
theorem w_named : about1.methodNamed? x = some theMethod := by decide +kernel
set_option maxRecDepth 65536 in
theorem w_hears : about1.hears theMethod below0 = true := by decide +kernel
set_option maxRecDepth 65536 in
theorem w_ripe : about1.ripe theMethod args0 below0 = true := by decide +kernel
theorem w_running : about1.status = .running := rfl
set_option maxRecDepth 65536 in
theorem w_room : about1.hasRoom e0.platform room_1 = true :=
  launch0.hasRoom_least _ room_1 (by decide +kernel) (by decide +kernel) (by decide +kernel) (by decide +kernel) (by decide +kernel) (by decide +kernel)
theorem allAtoms_all (ts : List Jvm.Cond) (a : Array Jvm.Value) (st : Jvm.State) : (allAtoms ts).before a st = ts.all (fun c => c.before a st) := by
  induction ts with
  | nil => rfl
  | cons c t ih =>
    show (Jvm.Cond.and c (allAtoms t)).before a st = _
    rw [Jvm.Cond.before_and, ih, List.all_cons]
def words1 : List Jvm.Cond := Jvm.Cond.code x code maxLocals ret :: tables_1
/-- a 'code' word, met by the world's own term for the bytes: nothing is compared byte by byte -/
theorem code_word {y : MethodName} {bytes : ByteArray} {mx : Nat} {rt : Option FieldType} {a : Array Value} {s : State} {m : MethodId} {meth : Method} {c : Code} (h1 : s.methodNamed? y = some m) (h2 : s.vm.method? m = some meth) (h3 : meth.code = some c) (h4 : c.code = bytes)
    (h5 : (c.maxLocals == mx && c.exceptionTable.isEmpty && decide (c.maxStack ≤ mostOperands) && decide (meth.sig.returnType = rt) && !meth.locks && decide (parseMethodDescriptor y.desc = some meth.sig)) = true) : (Jvm.Cond.code y bytes mx rt).before a s = true := by
  simp only [Bool.and_eq_true, beq_iff_eq, Bool.not_eq_true', decide_eq_true_eq] at h5
  obtain ⟨⟨⟨⟨⟨g1, g2⟩, g3⟩, g4⟩, g5⟩, g6⟩ := h5
  simp [Cond.before, Cond.holds, Cond.value, h1, h2, h3, h4, g1, g2, g3, g4, g5, g6]
def isCode : Jvm.Cond → Bool
  | .code _ _ _ _ => true
  | _ => false
theorem all_split {L : List Jvm.Cond} {P : Jvm.Cond → Bool} (h1 : L.all (fun c => isCode c || P c) = true) (h2 : ∀ c ∈ L.filter isCode, P c = true) : L.all P = true := by
  refine List.all_eq_true.mpr fun c hc => ?_
  have h := List.all_eq_true.mp h1 c hc
  rcases Bool.eq_false_or_eq_true (isCode c) with hi | hi
  · exact h2 c (List.mem_filter.mpr ⟨hc, hi⟩)
  · simpa [hi] using h
set_option maxRecDepth 65536 in
theorem w_c0 : (Jvm.Cond.code x code maxLocals ret).before args0 about1 = true := code_word (m := ⟨1, 1⟩) (meth := k1m1) (c := k1c1) (by decide +kernel) rfl rfl rfl (by decide +kernel)
set_option maxRecDepth 65536 in
theorem w_c1 : (Jvm.Cond.code ({ cls := "com/example/headroom/headroom/Sizing$ProfitPrices", name := "<init>", desc := "(DDD)V" } : Jvm.MethodName) prog_30_method_1_code (7 : Nat) (Option.none : Option Jvm.ClassFile.FieldType)).before args0 about1 = true := code_word (m := ⟨3, 0⟩) (meth := k3m0) (c := k3c0) (by decide +kernel) rfl rfl rfl (by decide +kernel)
set_option maxRecDepth 65536 in
theorem w_c2 : (Jvm.Cond.code ({ cls := "java/lang/Record", name := "<init>", desc := "()V" } : Jvm.MethodName) jdk_30_method_1_code (1 : Nat) (Option.none : Option Jvm.ClassFile.FieldType)).before args0 about1 = true := code_word (m := ⟨2, 0⟩) (meth := k2m0) (c := k2c0) (by decide +kernel) rfl rfl rfl (by decide +kernel)
set_option maxRecDepth 65536 in
theorem w_c3 : (Jvm.Cond.code ({ cls := "java/lang/Object", name := "<init>", desc := "()V" } : Jvm.MethodName) object_method_1_code (1 : Nat) (Option.none : Option Jvm.ClassFile.FieldType)).before args0 about1 = true := code_word (m := ⟨0, 0⟩) (meth := k0m0) (c := k0c0) (by decide +kernel) rfl rfl rfl (by decide +kernel)
set_option maxRecDepth 65536 in
theorem w_c4 : (Jvm.Cond.code ({ cls := "com/example/headroom/headroom/PriceSheet", name := "requirePrice", desc := "(Ljava/lang/String;D)V" } : Jvm.MethodName) prog_18_method_4_code (3 : Nat) (Option.none : Option Jvm.ClassFile.FieldType)).before args0 about1 = true := code_word (m := ⟨10, 0⟩) (meth := k10m0) (c := k10c0) (by decide +kernel) rfl rfl rfl (by decide +kernel)
set_option maxRecDepth 65536 in
theorem w_c5 : (Jvm.Cond.code ({ cls := "java/lang/Double", name := "isFinite", desc := "(D)Z" } : Jvm.MethodName) jdk_117_method_8_code (2 : Nat) (Option.some Jvm.ClassFile.FieldType.boolean)).before args0 about1 = true := code_word (m := ⟨12, 1⟩) (meth := k12m1) (c := k12c1) (by decide +kernel) rfl rfl rfl (by decide +kernel)
set_option maxRecDepth 65536 in
theorem w_c6 : (Jvm.Cond.code ({ cls := "java/lang/Math", name := "abs", desc := "(D)D" } : Jvm.MethodName) jdk_29_method_64_code (2 : Nat) (Option.some Jvm.ClassFile.FieldType.double)).before args0 about1 = true := code_word (m := ⟨13, 1⟩) (meth := k13m1) (c := k13c1) (by decide +kernel) rfl rfl rfl (by decide +kernel)
set_option maxRecDepth 65536 in
theorem w_c7 : (Jvm.Cond.code ({ cls := "java/lang/Double", name := "isInfinite", desc := "(D)Z" } : Jvm.MethodName) jdk_117_method_7_code (2 : Nat) (Option.some Jvm.ClassFile.FieldType.boolean)).before args0 about1 = true := code_word (m := ⟨12, 0⟩) (meth := k12m0) (c := k12c0) (by decide +kernel) rfl rfl rfl (by decide +kernel)
set_option maxRecDepth 65536 in
theorem w_c8 : (Jvm.Cond.code ({ cls := "com/example/headroom/headroom/Sizing$ProfitPrices", name := "profitableLevel", desc := "()D" } : Jvm.MethodName) prog_30_method_2_code (1 : Nat) (Option.some Jvm.ClassFile.FieldType.double)).before args0 about1 = true := code_word (m := ⟨3, 1⟩) (meth := k3m1) (c := k3c1) (by decide +kernel) rfl rfl rfl (by decide +kernel)
def codes1 : List Jvm.Cond := [Jvm.Cond.code x code maxLocals ret, Jvm.Cond.code ({ cls := "com/example/headroom/headroom/Sizing$ProfitPrices", name := "<init>", desc := "(DDD)V" } : Jvm.MethodName) prog_30_method_1_code (7 : Nat) (Option.none : Option Jvm.ClassFile.FieldType), Jvm.Cond.code ({ cls := "java/lang/Record", name := "<init>", desc := "()V" } : Jvm.MethodName) jdk_30_method_1_code (1 : Nat) (Option.none : Option Jvm.ClassFile.FieldType), Jvm.Cond.code ({ cls := "java/lang/Object", name := "<init>", desc := "()V" } : Jvm.MethodName) object_method_1_code (1 : Nat) (Option.none : Option Jvm.ClassFile.FieldType), Jvm.Cond.code ({ cls := "com/example/headroom/headroom/PriceSheet", name := "requirePrice", desc := "(Ljava/lang/String;D)V" } : Jvm.MethodName) prog_18_method_4_code (3 : Nat) (Option.none : Option Jvm.ClassFile.FieldType), Jvm.Cond.code ({ cls := "java/lang/Double", name := "isFinite", desc := "(D)Z" } : Jvm.MethodName) jdk_117_method_8_code (2 : Nat) (Option.some Jvm.ClassFile.FieldType.boolean), Jvm.Cond.code ({ cls := "java/lang/Math", name := "abs", desc := "(D)D" } : Jvm.MethodName) jdk_29_method_64_code (2 : Nat) (Option.some Jvm.ClassFile.FieldType.double), Jvm.Cond.code ({ cls := "java/lang/Double", name := "isInfinite", desc := "(D)Z" } : Jvm.MethodName) jdk_117_method_7_code (2 : Nat) (Option.some Jvm.ClassFile.FieldType.boolean), Jvm.Cond.code ({ cls := "com/example/headroom/headroom/Sizing$ProfitPrices", name := "profitableLevel", desc := "()D" } : Jvm.MethodName) prog_30_method_2_code (1 : Nat) (Option.some Jvm.ClassFile.FieldType.double)]
set_option maxRecDepth 65536 in
theorem codes_eq : words1.filter isCode = codes1 := rfl
theorem w_codes : ∀ c ∈ words1.filter isCode, c.before args0 about1 = true := by
  rw [codes_eq]
  intro c hc
  simp only [codes1, List.mem_cons, List.not_mem_nil, or_false] at hc
  rcases hc with rfl | rfl | rfl | rfl | rfl | rfl | rfl | rfl | rfl
  · exact w_c0
  · exact w_c1
  · exact w_c2
  · exact w_c3
  · exact w_c4
  · exact w_c5
  · exact w_c6
  · exact w_c7
  · exact w_c8
set_option maxRecDepth 65536 in
theorem w_t1 : (words1.take 24).all (fun c => isCode c || c.before args0 about1) = true := by decide +kernel
set_option maxRecDepth 65536 in
theorem w_t2 : ((words1.drop 24).take 24).all (fun c => isCode c || c.before args0 about1) = true := by decide +kernel
set_option maxRecDepth 65536 in
theorem w_t3 : ((words1.drop 24).drop 24).all (fun c => isCode c || c.before args0 about1) = true := by decide +kernel
theorem w_tables : (allAtoms (Jvm.Cond.code x code maxLocals ret :: tables_1)).before args0 about1 = true := by
  rw [allAtoms_all]
  show words1.all (fun c => c.before args0 about1) = true
  refine all_split ?_ w_codes
  rw [← List.take_append_drop 24 words1, List.all_append, w_t1, ← List.take_append_drop 24 (words1.drop 24), List.all_append, w_t2, w_t3]
  rfl
set_option maxRecDepth 65536 in
theorem w_case : (Jvm.Cond.and given_1 narrow_1).before args0 about1 = true := by decide +kernel
theorem w_applies : (headSpec (Jvm.Cond.code x code maxLocals ret :: tables_1) room_1).applies x e0.platform about1 = true :=
  (Spec.applies_iff w_frames).mpr ⟨w_running, w_runnable, w_alone, w_named, w_hears, w_ripe, w_room, w_tables⟩
theorem atStart : AtStart classFile x code maxLocals ret World_1 tables_1 room_1 Calls_1 rest_1 Pre_1 launch0 p0 e0 about1 theMethod args0 below0 :=
  ⟨lists_1, trivial, launch0.admits_env _ _ _, launch0.least_env, fairChoices_fair.cas, fairChoices_fair.clock, w_frames, w_args, w_heap, w_applies, trivial, trivial, w_case⟩
end start1
theorem witness_1 : WitnessClaimed_1 := ⟨start1.p0, start1.e0, start1.about1, start1.theMethod, start1.args0, start1.below0, start1.atStart⟩
end Jvm.Pilot.@@N@@
