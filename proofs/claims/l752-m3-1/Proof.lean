import JvmDerived
import JvmDerived.Pilot.@@N@@Statement
import JvmDerived.Pilot.@@N@@Code
set_option linter.unusedVariables false
set_option linter.unusedSimpArgs false
namespace Jvm.Pilot.@@N@@
open Jvm Jvm.ClassFile Sem Op Lib Jvm.Free Jvm.Stand Jvm.LawKit Jvm.RoadKit Bundle Jvm.Pilot.@@N@@.Jvm.D
/-! OWN: the walk as a tree. Go: from here the run comes to a return that Q allows. -/
def Go (p : Program) (e : Env) (below : List Frame) (s : State) (C S : Nat) (Q : Option Value → Heap → List Loc → Prop) (T : State) (g : JFrame) : Prop :=
  ∃ s₂ o, Steps p.tables e below (T.setTop g) s₂ ∧ s₂.status = .running ∧ Ended s₂ below o ∧ ∃ v L, o = .returned v ∧ Q v s₂.heap L ∧ FrameEnd s o s₂ L C S
section OwnGo
variable {p : Program} {l : Launch} {e : Env} {R : Room} {s : State} {m : MethodId} {args : Array Value} {below : List Frame} {meth : Method} {c : Code} {T T' : State} {locs : List Loc} {cells slots : Nat} {Z : State} {a0 : Array Value} {h : Heap} {C S : Nat} {Q : Option Value → Heap → List Loc → Prop} {g g' : JFrame}
theorem Go.step (st : ∀ target, Steps p.tables e below (T'.setTop g') target → Steps p.tables e below (T.setTop g) target) (h : Go p e below s C S Q T' g') : Go p e below s C S Q T g := by
  obtain ⟨s₂, o, h1, r⟩ := h; exact ⟨s₂, o, st _ h1, r⟩
theorem Go.cast (q : g = g') (h : Go p e below s C S Q T g') : Go p e below s C S Q T g := q ▸ h
theorem Go.ret (X : Stand p l e R s m args below meth c T locs cells slots) (hlk : meth.locks = false) {v : Option Value} (hv : meth.sig.returnType = none → v = none)
    (st : ∀ fs, (∀ (f : JFrame) (acts : List Action), f.method = m → f.locked = none → f.entered = [] → (doReturn e (T.setTop f) acts v).1 = T.setFrames fs) → Steps p.tables e below (T.setTop g) (T.setFrames fs))
    (hq : Q v T.heap locs) (hc : cells ≤ C) (hs : slots ≤ S) : Go p e below s C S Q T g := by
  obtain ⟨fs, hr, hrun, hended, hW, hsame⟩ := X.leave (v := v) hv hlk
  exact ⟨_, _, st fs hr, hrun, hended, v, locs, rfl, hq, ⟨_, rfl⟩, hW, hsame.mono hc hs⟩
theorem Go.retV (X : Stand p l e R s m args below meth c T locs cells slots) (hx : p.tables.exec = Jvm.exec) (hlk : meth.locks = false) (hret : meth.sig.returnType = none) {pc : Nat} {Ls : Array Slot} (hd : decode c.code pc = .ok (.return_, 1))
    (hc : cells ≤ C) (hs : slots ≤ S) (hq : Q none T.heap locs) : Go p e below s C S Q T (mkF m pc Ls []) :=
  Go.ret X hlk (fun _ => rfl) (fun fs hr => X.returnOut hx hret hd hr) hq hc hs
theorem Go.retW (X : Stand p l e R s m args below meth c T locs cells slots) (hx : p.tables.exec = Jvm.exec) (hlk : meth.locks = false) {t : FieldType} (hret : meth.sig.returnType = some t) {pc : Nat} {Ls : Array Slot} {w : Value} {i : Instr} {rest : List Value} (hn : narrow t w = w)
    (hi : (i = .ireturn ∧ (t = .int ∨ t = .boolean ∨ t = .byte ∨ t = .char ∨ t = .short) ∧ ∃ z, w = .int z) ∨ (i = .lreturn ∧ t = .long ∧ ∃ z, w = .long z) ∨ (i = .dreturn ∧ t = .double ∧ ∃ z, w = .double z) ∨ (i = .freturn ∧ t = .float ∧ ∃ z, w = .float z) ∨ (i = .areturn ∧ t.isReference = true ∧ w.isRef = true))
    (hd : decode c.code pc = .ok (i, 1)) (hc : cells ≤ C) (hs : slots ≤ S) (hq : Q (some w) T.heap locs) : Go p e below s C S Q T (mkF m pc Ls (w :: rest)) :=
  Go.ret X hlk (fun h => by rw [hret] at h; cases h) (fun fs hr => retOut X hx hret hn hi hd hr) hq hc hs
theorem Go.retI (X : Stand p l e R s m args below meth c T locs cells slots) (hx : p.tables.exec = Jvm.exec) (hlk : meth.locks = false) (hret : meth.sig.returnType = some .int) {pc : Nat} {Ls : Array Slot} {z : Int32} {rest : List Value}
    (hd : decode c.code pc = .ok (.ireturn, 1)) (hc : cells ≤ C) (hs : slots ≤ S) (hq : Q (some (.int z)) T.heap locs) : Go p e below s C S Q T (mkF m pc Ls (.int z :: rest)) :=
  Go.retW X hx hlk hret rfl (Or.inl ⟨rfl, Or.inl rfl, z, rfl⟩) hd hc hs hq
theorem Go.retZ (X : Stand p l e R s m args below meth c T locs cells slots) (hx : p.tables.exec = Jvm.exec) (hlk : meth.locks = false) (hret : meth.sig.returnType = some .boolean) {pc : Nat} {Ls : Array Slot} {z : Int32} {rest : List Value} (hz : z = 0 ∨ z = 1)
    (hd : decode c.code pc = .ok (.ireturn, 1)) (hc : cells ≤ C) (hs : slots ≤ S) (hq : Q (some (.int z)) T.heap locs) : Go p e below s C S Q T (mkF m pc Ls (.int z :: rest)) :=
  Go.retW X hx hlk hret (by rcases hz with rfl | rfl <;> rfl) (Or.inl ⟨rfl, Or.inr (Or.inl rfl), z, rfl⟩) hd hc hs hq
theorem Go.retJ (X : Stand p l e R s m args below meth c T locs cells slots) (hx : p.tables.exec = Jvm.exec) (hlk : meth.locks = false) (hret : meth.sig.returnType = some .long) {pc : Nat} {Ls : Array Slot} {z : Int64} {rest : List Value}
    (hd : decode c.code pc = .ok (.lreturn, 1)) (hc : cells ≤ C) (hs : slots ≤ S) (hq : Q (some (.long z)) T.heap locs) : Go p e below s C S Q T (mkF m pc Ls (.long z :: rest)) :=
  Go.retW X hx hlk hret rfl (Or.inr (Or.inl ⟨rfl, rfl, z, rfl⟩)) hd hc hs hq
theorem Go.retD (X : Stand p l e R s m args below meth c T locs cells slots) (hx : p.tables.exec = Jvm.exec) (hlk : meth.locks = false) (hret : meth.sig.returnType = some .double) {pc : Nat} {Ls : Array Slot} {z : UInt64} {rest : List Value}
    (hd : decode c.code pc = .ok (.dreturn, 1)) (hc : cells ≤ C) (hs : slots ≤ S) (hq : Q (some (.double z)) T.heap locs) : Go p e below s C S Q T (mkF m pc Ls (.double z :: rest)) :=
  Go.retW X hx hlk hret rfl (Or.inr (Or.inr (Or.inl ⟨rfl, rfl, z, rfl⟩))) hd hc hs hq
theorem Go.retR (X : Stand p l e R s m args below meth c T locs cells slots) (hx : p.tables.exec = Jvm.exec) (hlk : meth.locks = false) {t : FieldType} (hret : meth.sig.returnType = some t) (ht : t.isReference = true) {pc : Nat} {Ls : Array Slot} {w : Value} {rest : List Value} (hn : narrow t w = w) (hw : w.isRef = true)
    (hd : decode c.code pc = .ok (.areturn, 1)) (hc : cells ≤ C) (hs : slots ≤ S) (hq : Q (some w) T.heap locs) : Go p e below s C S Q T (mkF m pc Ls (w :: rest)) :=
  Go.retW X hx hlk hret hn (Or.inr (Or.inr (Or.inr (Or.inr ⟨rfl, ht, hw⟩)))) hd hc hs hq
/-- a method's contract out of its walk -/
theorem con_of {y : MethodName} {bytes : ByteArray} {ml : Nat} {rt : Option FieldType} {ws : List Jvm.Cond} {rm : Room} {as' : Array Value} {h0 : Heap} (hpl : plainFor y = true)
    (body : ∀ (p : Program) (e : Env) (s : State) (m : MethodId) (below : List Frame) (meth : Method) (c : Code) (T : State), Stand p l e rm s m as' below meth c T [] 0 0 → p.tables.exec = Jvm.exec → Z.Warmed39 s.vm → c.code = bytes → c.maxLocals = ml → s.vm.findClass y.cls = some m.cls → meth.name = y.name →
      meth.sig.returnType = rt → meth.locks = false → T.heap = h0 → Go p e below s rm.cells rm.slots Q T (entryFrame m as' ml)) :
    MetFree l y (head1 (Jvm.Cond.code y bytes ml rt :: ws) rm) (fun a U => a = as' ∧ Z.Warmed39 U.vm ∧ U.heap = h0) (fun _ _ _ _ _ => True) (fun _ U o U' => ∃ v L, o = .returned v ∧ Q v U'.heap L ∧ FrameEnd U o U' L rm.cells rm.slots) := by
  refine MetFree.of_bodySF hpl hisR ?_
  intro p e s m args below meth c s₁ Bd hml0 hP hK
  obtain ⟨rfl, hZ, hh⟩ := hP
  exact body p e s m below meth c s₁ (Stand.of_body Bd) Bd.exec hZ Bd.bytes hml0 (findClass_of_methodNamed Bd.named) (name_of_methodNamed Bd.named Bd.method).1 Bd.returns (BodyLoose.notSynchronized Bd) (by rw [← hh, Bd.state]; rfl)
abbrev Con (l : Launch) (Z : State) (y : MethodName) (bytes : ByteArray) (ml : Nat) (rt : Option FieldType) (rm : Room) (as' : Array Value) (h0 : Heap) (Q : Option Value → Heap → List Loc → Prop) : Prop :=
  MetFree l y (head1 [Jvm.Cond.code y bytes ml rt] rm) (fun a U => a = as' ∧ Z.Warmed39 U.vm ∧ U.heap = h0) (fun _ _ _ _ _ => True) (fun _ U o U' => ∃ v L, o = .returned v ∧ Q v U'.heap L ∧ FrameEnd U o U' L rm.cells rm.slots)
theorem Go.callS (X : Stand p l e R s m args below meth c T locs cells slots) (hx : p.tables.exec = Jvm.exec) (hZ : Z.Warmed39 s.vm) {own : String} {index : Nat} {y : MethodName} {bytes : ByteArray} {maxL : Nat} {ret : Option FieldType} {rm : Room} {as' : Array Value} {Qc : Option Value → Heap → List Loc → Prop} {W pc : Nat} {Ls : Array Slot} {st : List Value} {argsL rest : List Value} (hml : Ls.size = c.maxLocals)
    (hown : s.vm.findClass own = some m.cls) (w1 : (Jvm.Cond.methodLink own index y).before a0 Z = true) (w2 : (Jvm.Cond.static y).before a0 Z = true) (w3 : (Jvm.Cond.initialized y.cls).before a0 Z = true) (w4 : (Jvm.Cond.code y bytes maxL ret).before a0 Z = true) (hy : y.cls ≠ "java/lang/invoke/MethodHandle" ∧ y.cls ≠ "java/lang/invoke/VarHandle")
    (hM : Con l Z y bytes maxL ret rm as' h Qc) (eT : T.heap = h) (hd : decode c.code pc = .ok (.invokestatic index, 3)) (hlen : ∀ sig, parseMethodDescriptor y.desc = some sig → argsL.length = sig.parameters.length) (hst : st = argsL.reverse ++ rest) (has : argsL.toArray = as')
    (hW : (rest.map fun v => v.category).sum ≤ W) (hf : rm.frames + 1 ≤ R.frames) (hl : W + (maxL + 11) + rm.locals ≤ R.locals) (hc : cells + rm.cells ≤ R.cells) (hs : slots + rm.slots ≤ R.slots)
    (k : ∀ (v : Option Value) (T' : State) (L : List Loc), Stand p l e R s m args below meth c T' (locs ++ L) (cells + rm.cells) (slots + rm.slots) → Qc v T'.heap L → Go p e below s C S Q T' (mkF m (pc + 3) Ls (v.toList ++ rest))) :
    Go p e below s C S Q T (mkF m pc Ls st) := by
  obtain ⟨v, _, ⟨T', L', k', n'⟩, -, X', ⟨Lc, hQ, l1, y1, z1⟩, stp⟩ := Jvm.LawKit.callS X hx (y := y) hown (mvT hZ w1) (mvT hZ w2) (mvT hZ w3) (mvT hZ w4) hy (backOf (W := W) hM hZ w4 w3 hf hl) (g := mkF m pc Ls st) rfl hml (argsL := argsL) (rest := rest) hlen hst (by show 2 * 0 + _ ≤ _; omega) hd (fun _ _ => ⟨has, eT, hc, hs⟩)
  dsimp only [Pt.U, Pt.locs, Pt.cells, Pt.slots] at X' l1 y1 z1 stp hQ
  subst l1 y1 z1
  exact Go.step stp (k v T' Lc X' hQ)
theorem Go.callI (X : Stand p l e R s m args below meth c T locs cells slots) (hx : p.tables.exec = Jvm.exec) (hZ : Z.Warmed39 s.vm) {own : String} {index : Nat} {y : MethodName} {bytes : ByteArray} {maxL : Nat} {rm : Room} {as' : Array Value} {Qc : Option Value → Heap → List Loc → Prop} {W pc : Nat} {Ls : Array Slot} {st : List Value} {a : Addr} {argsL rest : List Value} (hml : Ls.size = c.maxLocals)
    (hy1 : y.name = "<init>") (hown : s.vm.findClass own = some m.cls) (w1 : (Jvm.Cond.methodLink own index y).before a0 Z = true) (w2 : (Jvm.Cond.instanceMethod y).before a0 Z = true) (w3 : (Jvm.Cond.initialized y.cls).before a0 Z = true) (w4 : (Jvm.Cond.code y bytes maxL none).before a0 Z = true) (hy : y.cls ≠ "java/lang/invoke/MethodHandle" ∧ y.cls ≠ "java/lang/invoke/VarHandle")
    (hM : Con l Z y bytes maxL none rm as' h Qc) (eT : T.heap = h) (hd : decode c.code pc = .ok (.invokespecial index, 3)) (hlen : ∀ sig, parseMethodDescriptor y.desc = some sig → argsL.length = sig.parameters.length) (hst : st = argsL.reverse ++ .ref a :: rest) (has : (Value.ref a :: argsL).toArray = as')
    (hW : (rest.map fun v => v.category).sum ≤ W) (hf : rm.frames + 1 ≤ R.frames) (hl : W + (maxL + 11) + rm.locals ≤ R.locals) (hc : cells + rm.cells ≤ R.cells) (hs : slots + rm.slots ≤ R.slots)
    (k : ∀ (v : Option Value) (T' : State) (L : List Loc), Stand p l e R s m args below meth c T' (locs ++ L) (cells + rm.cells) (slots + rm.slots) → Qc v T'.heap L → Go p e below s C S Q T' (mkF m (pc + 3) Ls (v.toList ++ rest))) :
    Go p e below s C S Q T (mkF m pc Ls st) := by
  obtain ⟨v, _, ⟨T', L', k', n'⟩, -, X', ⟨Lc, hQ, l1, y1, z1⟩, stp⟩ := X.specialBack hx (y := y) hy1 hown (mvT hZ w1) (mvT hZ w2) (mvT hZ w4) hy (backOf (W := W) hM hZ w4 w3 hf hl) (g := mkF m pc Ls st) rfl hml (Steps.refl _) (a := a) (argsL := argsL) (rest := rest) hlen hst (by show 2 * 0 + _ ≤ _; omega) hd (fun _ _ => ⟨has, eT, hc, hs⟩)
  dsimp only [Pt.U, Pt.locs, Pt.cells, Pt.slots] at X' l1 y1 z1 stp hQ
  subst l1 y1 z1
  exact Go.step (fun _ q => stp.trans q) (k v T' Lc X' hQ)
theorem Go.callV (X : Stand p l e R s m args below meth c T locs cells slots) (hx : p.tables.exec = Jvm.exec) (hZ : Z.Warmed39 s.vm) {own K : String} {index : Nat} {y z : MethodName} {bytes : ByteArray} {maxL : Nat} {ret : Option FieldType} {rm : Room} {as' : Array Value} {Qc : Option Value → Heap → List Loc → Prop} {W pc : Nat} {Ls : Array Slot} {st : List Value} {a : Addr} {argsL rest : List Value} (hml : Ls.size = c.maxLocals)
    (hown : s.vm.findClass own = some m.cls) (w1 : (Jvm.Cond.methodLink own index y).before a0 Z = true) (w2 : (Jvm.Cond.declares y).before a0 Z = true) (hnf : NotFace s y) (w5 : (Jvm.Cond.selects K y z).before a0 Z = true) (w6 : (Jvm.Cond.instanceMethod z).before a0 Z = true) (w3 : (Jvm.Cond.initialized z.cls).before a0 Z = true) (w4 : (Jvm.Cond.code z bytes maxL ret).before a0 Z = true) (hy : y.cls ≠ "java/lang/invoke/MethodHandle" ∧ y.cls ≠ "java/lang/invoke/VarHandle")
    (hM : Con l Z z bytes maxL ret rm as' h Qc) (eT : T.heap = h) (E : Exa Z h a K) (hd : decode c.code pc = .ok (.invokevirtual index, 3)) (hlen : ∀ sig, parseMethodDescriptor y.desc = some sig → argsL.length = sig.parameters.length) (hst : st = argsL.reverse ++ .ref a :: rest) (has : (Value.ref a :: argsL).toArray = as')
    (hW : (rest.map fun v => v.category).sum ≤ W) (hf : rm.frames + 1 ≤ R.frames) (hl : W + (maxL + 11) + rm.locals ≤ R.locals) (hc : cells + rm.cells ≤ R.cells) (hs : slots + rm.slots ≤ R.slots)
    (k : ∀ (v : Option Value) (T' : State) (L : List Loc), Stand p l e R s m args below meth c T' (locs ++ L) (cells + rm.cells) (slots + rm.slots) → Qc v T'.heap L → Go p e below s C S Q T' (mkF m (pc + 3) Ls (v.toList ++ rest))) :
    Go p e below s C S Q T (mkF m pc Ls st) := by
  obtain ⟨cq, kq, qa, qb, qc⟩ := isOf hZ eT E
  obtain ⟨v, _, ⟨T', L', k', n'⟩, -, X', ⟨Lc, hQ, l1, y1, z1⟩, stp⟩ := X.virtualBack hx (y := y) (z := z) hown (mvT hZ w1) (mvT hZ w2) hnf (mvT hZ w5) (mvT hZ w6) hy (backOf (W := W) hM hZ w4 w3 hf hl) qa qc (g := mkF m pc Ls st) rfl hml (Steps.refl _) (argsL := argsL) (rest := rest) hlen hst (by show 2 * 0 + _ ≤ _; omega) hd (fun _ _ => ⟨has, eT, hc, hs⟩)
  dsimp only [Pt.U, Pt.locs, Pt.cells, Pt.slots] at X' l1 y1 z1 stp hQ
  subst l1 y1 z1
  exact Go.step (fun _ q => stp.trans q) (k v T' Lc X' hQ)
theorem Go.callP (X : Stand p l e R s m args below meth c T locs cells slots) (hx : p.tables.exec = Jvm.exec) (hZ : Z.Warmed39 s.vm) {own : String} {index : Nat} {y : MethodName} {bytes : ByteArray} {maxL : Nat} {ret : Option FieldType} {rm : Room} {as' : Array Value} {Qc : Option Value → Heap → List Loc → Prop} {W pc : Nat} {Ls : Array Slot} {st : List Value} {a : Addr} {argsL rest : List Value} (hml : Ls.size = c.maxLocals)
    (hown : s.vm.findClass own = some m.cls) (w1 : (Jvm.Cond.methodLink own index y).before a0 Z = true) (w6 : (Jvm.Cond.instanceMethod y).before a0 Z = true) {kk : Nat} (w5 : (Jvm.Cond.instantiable y.cls kk).before a0 Z = true) (w7 : (Jvm.Cond.privateMethod y).before a0 Z = true) (w3 : (Jvm.Cond.initialized y.cls).before a0 Z = true) (w4 : (Jvm.Cond.code y bytes maxL ret).before a0 Z = true) (hy : y.cls ≠ "java/lang/invoke/MethodHandle" ∧ y.cls ≠ "java/lang/invoke/VarHandle")
    (hM : Con l Z y bytes maxL ret rm as' h Qc) (eT : T.heap = h) {K : String} (E : Exa Z h a K) (hd : decode c.code pc = .ok (.invokevirtual index, 3)) (hlen : ∀ sig, parseMethodDescriptor y.desc = some sig → argsL.length = sig.parameters.length) (hst : st = argsL.reverse ++ .ref a :: rest) (has : (Value.ref a :: argsL).toArray = as')
    (hW : (rest.map fun v => v.category).sum ≤ W) (hf : rm.frames + 1 ≤ R.frames) (hl : W + (maxL + 11) + rm.locals ≤ R.locals) (hc : cells + rm.cells ≤ R.cells) (hs : slots + rm.slots ≤ R.slots)
    (k : ∀ (v : Option Value) (T' : State) (L : List Loc), Stand p l e R s m args below meth c T' (locs ++ L) (cells + rm.cells) (slots + rm.slots) → Qc v T'.heap L → Go p e below s C S Q T' (mkF m (pc + 3) Ls (v.toList ++ rest))) :
    Go p e below s C S Q T (mkF m pc Ls st) := by
  obtain ⟨cq, q1, q2⟩ := E.cell
  have hpriv : s.PrivateAt y := Cond.privateMethod_at (mvP hZ w7 (args := #[]))
  have w5' : (Jvm.Cond.instantiable y.cls kk).before args s = true := mvT hZ w5
  obtain ⟨c1, k1, i1, i2, -, i4, -⟩ := Cond.instantiable_spec w5'
  have hsel : (Jvm.Cond.selects y.cls y y).before args s = true := selects_self_of_private i1 i2 (by simp only [Bool.or_eq_false_iff] at i4; exact i4.1) hpriv (mvT hZ w6) hy
  obtain ⟨v, _, ⟨T', L', k', n'⟩, -, X', ⟨Lc, hQ, l1, y1, z1⟩, stp⟩ := X.privateBack hx (y := y) hown (mvT hZ w1) (mvT hZ w6) hsel hpriv (mvT hZ w4) hy (backOf (W := W) hM hZ w4 w3 hf hl) (g := mkF m pc Ls st) rfl hml (Steps.refl _) (a := a) (by rw [eT]; exact q1) q2 (argsL := argsL) (rest := rest) hlen hst (by show 2 * 0 + _ ≤ _; omega) hd (fun _ _ => ⟨has, eT, hc, hs⟩)
  dsimp only [Pt.U, Pt.locs, Pt.cells, Pt.slots] at X' l1 y1 z1 stp hQ
  subst l1 y1 z1
  exact Go.step (fun _ q => stp.trans q) (k v T' Lc X' hQ)
end OwnGo
/-! OWN: branches on a comparison of doubles, as javac writes them -/
section OwnCmp
variable {x y : UInt64}
theorem cv_none (o : CmpOp) (h : FP.dcmp x y = none) : cmpValue (FP.dcmp x y) o = (match o with | .l => -1 | .g => 1) := by rw [h]; cases o <;> rfl
theorem gt_y (h : FP.dcmp x y = some .gt) : ifCond.holds .le (cmpValue (FP.dcmp x y) .l) = false := by rw [h]; rfl
theorem gt_n (h : ¬ FP.dcmp x y = some .gt) : ifCond.holds .le (cmpValue (FP.dcmp x y) .l) = true := by
  rcases q : FP.dcmp x y with _ | (_ | _ | _) <;> first | rfl | exact absurd q h
theorem ge_y (h : FP.dcmp x y = some .gt ∨ FP.dcmp x y = some .eq) : ifCond.holds .lt (cmpValue (FP.dcmp x y) .l) = false := by rcases h with h | h <;> rw [h] <;> rfl
theorem ge_n (h : ¬ (FP.dcmp x y = some .gt ∨ FP.dcmp x y = some .eq)) : ifCond.holds .lt (cmpValue (FP.dcmp x y) .l) = true := by
  rcases q : FP.dcmp x y with _ | (_ | _ | _) <;> first | rfl | exact absurd (Or.inl q) h | exact absurd (Or.inr q) h
theorem lt_y (h : FP.dcmp x y = some .lt) : ifCond.holds .ge (cmpValue (FP.dcmp x y) .g) = false := by rw [h]; rfl
theorem lt_n (h : ¬ FP.dcmp x y = some .lt) : ifCond.holds .ge (cmpValue (FP.dcmp x y) .g) = true := by
  rcases q : FP.dcmp x y with _ | (_ | _ | _) <;> first | rfl | exact absurd q h
theorem le_y (h : FP.dcmp x y = some .lt ∨ FP.dcmp x y = some .eq) : ifCond.holds .gt (cmpValue (FP.dcmp x y) .g) = false := by rcases h with h | h <;> rw [h] <;> rfl
theorem le_n (h : ¬ (FP.dcmp x y = some .lt ∨ FP.dcmp x y = some .eq)) : ifCond.holds .gt (cmpValue (FP.dcmp x y) .g) = true := by
  rcases q : FP.dcmp x y with _ | (_ | _ | _) <;> first | rfl | exact absurd (Or.inl q) h | exact absurd (Or.inr q) h
theorem eq_y (o : CmpOp) (h : FP.dcmp x y = some .eq) : ifCond.holds .ne (cmpValue (FP.dcmp x y) o) = false ∧ ifCond.holds .eq (cmpValue (FP.dcmp x y) o) = true := by rw [h]; cases o <;> exact ⟨rfl, rfl⟩
theorem eq_n (o : CmpOp) (h : ¬ FP.dcmp x y = some .eq) : ifCond.holds .ne (cmpValue (FP.dcmp x y) o) = true ∧ ifCond.holds .eq (cmpValue (FP.dcmp x y) o) = false := by
  rcases q : FP.dcmp x y with _ | (_ | _ | _) <;> cases o <;> first | exact ⟨rfl, rfl⟩ | exact absurd q h
/-- x > y, by a taken 'ifgt' over dcmpl -/
theorem gtT_y (h : FP.dcmp x y = some .gt) : ifCond.holds .gt (cmpValue (FP.dcmp x y) .l) = true := by rw [h]; rfl
theorem gtT_n (h : ¬ FP.dcmp x y = some .gt) : ifCond.holds .gt (cmpValue (FP.dcmp x y) .l) = false := by
  rcases q : FP.dcmp x y with _ | (_ | _ | _) <;> first | rfl | exact absurd q h
theorem geT_y (h : FP.dcmp x y = some .gt ∨ FP.dcmp x y = some .eq) : ifCond.holds .ge (cmpValue (FP.dcmp x y) .l) = true := by rcases h with h | h <;> rw [h] <;> rfl
theorem geT_n (h : ¬ (FP.dcmp x y = some .gt ∨ FP.dcmp x y = some .eq)) : ifCond.holds .ge (cmpValue (FP.dcmp x y) .l) = false := by
  rcases q : FP.dcmp x y with _ | (_ | _ | _) <;> first | rfl | exact absurd (Or.inl q) h | exact absurd (Or.inr q) h
theorem ltT_y (h : FP.dcmp x y = some .lt) : ifCond.holds .lt (cmpValue (FP.dcmp x y) .g) = true := by rw [h]; rfl
theorem ltT_n (h : ¬ FP.dcmp x y = some .lt) : ifCond.holds .lt (cmpValue (FP.dcmp x y) .g) = false := by
  rcases q : FP.dcmp x y with _ | (_ | _ | _) <;> first | rfl | exact absurd q h
theorem leT_y (h : FP.dcmp x y = some .lt ∨ FP.dcmp x y = some .eq) : ifCond.holds .le (cmpValue (FP.dcmp x y) .g) = true := by rcases h with h | h <;> rw [h] <;> rfl
theorem leT_n (h : ¬ (FP.dcmp x y = some .lt ∨ FP.dcmp x y = some .eq)) : ifCond.holds .le (cmpValue (FP.dcmp x y) .g) = false := by
  rcases q : FP.dcmp x y with _ | (_ | _ | _) <;> first | rfl | exact absurd (Or.inl q) h | exact absurd (Or.inr q) h
end OwnCmp
theorem mI {α : Type} {l : List α} {a : α} (i : Nat) (h : l[i]? = some a) : a ∈ l := List.mem_of_getElem? h

section OwnGoW
def Szk (k : Nat) (h : Heap) : Prop := k ≤ h.size
theorem Szk.ext {k : Nat} {h h' : Heap} (q : Szk k h) (E : Ext h h') : Szk k h' := Nat.le_trans q E.1
theorem Szk.keep {k : Nat} {h h' : Heap} {ws : List Addr} (q : Szk k h) (K : Keep h h' ws) : Szk k h' := Nat.le_trans q K.1
theorem Szk.wr {k : Nat} {h h' : Heap} {a : Addr} {i : Nat} {v : Value} (q : Szk k h) (W : Wr h h' a i v) : Szk k h' := Nat.le_trans q ((Keep.refl h [a]).wr W (Or.inl (List.mem_singleton.mpr rfl))).1
def GoW (p : Program) (e : Env) (below : List Frame) (s : State) (C S : Nat) (Q : Option Value → Heap → List Loc → Prop) (T : State) (g : JFrame) : Prop :=
  ∃ s₂ o, Steps p.tables e below (T.setTop g) s₂ ∧ s₂.status = .running ∧ Ended s₂ below o ∧ ∃ v L, o = .returned v ∧ Q v s₂.heap L ∧ ReturnedEndW s o s₂ L C S
variable {p : Program} {l : Launch} {e : Env} {R : Room} {s : State} {m : MethodId} {args : Array Value} {below : List Frame} {meth : Method} {c : Code} {T T' : State} {locs : List Loc} {cells slots : Nat} {Z : State} {a0 : Array Value} {h : Heap} {C S : Nat} {Q : Option Value → Heap → List Loc → Prop} {g g' : JFrame} {s0 : State} {vm0 : Vm} {k0 : Nat}
theorem GoW.step (st : ∀ target, Steps p.tables e below (T'.setTop g') target → Steps p.tables e below (T.setTop g) target) (h : GoW p e below s0 C S Q T' g') : GoW p e below s0 C S Q T g := by
  obtain ⟨s₂, o, h1, r⟩ := h; exact ⟨s₂, o, st _ h1, r⟩
theorem GoW.cast (q : g = g') (h : GoW p e below s0 C S Q T g') : GoW p e below s0 C S Q T g := q ▸ h
theorem GoW.ret (X : Stand p l e R (s0.setVm vm0) m args below meth c T locs cells slots) (hS : s0.Since vm0 k0) (hk : Szk k0 h) (eT : T.heap = h) (hlk : meth.locks = false) {v : Option Value} (hv : meth.sig.returnType = none → v = none)
    (st : ∀ fs, (∀ (f : JFrame) (acts : List Action), f.method = m → f.locked = none → f.entered = [] → (doReturn e (T.setTop f) acts v).1 = T.setFrames fs) → Steps p.tables e below (T.setTop g) (T.setFrames fs))
    (hq : Q v T.heap locs) (hc : cells ≤ C) (hs : slots ≤ S) : GoW p e below s0 C S Q T g := by
  obtain ⟨fs, hr, hrun, hended, h1, h2, h3, hsame⟩ := X.leaveW hS (by rw [eT]; exact hk) (v := v) hv hlk
  exact ⟨_, _, st fs hr, hrun, hended, v, locs, rfl, hq, h1, h2, h3, hsame.mono hc hs⟩
theorem GoW.retV (X : Stand p l e R (s0.setVm vm0) m args below meth c T locs cells slots) (hS : s0.Since vm0 k0) (hk : Szk k0 h) (eT : T.heap = h) (hx : p.tables.exec = Jvm.exec) (hlk : meth.locks = false) (hret : meth.sig.returnType = none) {pc : Nat} {Ls : Array Slot} (hd : decode c.code pc = .ok (.return_, 1))
    (hc : cells ≤ C) (hs : slots ≤ S) (hq : Q none T.heap locs) : GoW p e below s0 C S Q T (mkF m pc Ls []) :=
  GoW.ret X hS hk eT hlk (fun _ => rfl) (fun fs hr => X.returnOut hx hret hd hr) hq hc hs
theorem GoW.retW (X : Stand p l e R (s0.setVm vm0) m args below meth c T locs cells slots) (hS : s0.Since vm0 k0) (hk : Szk k0 h) (eT : T.heap = h) (hx : p.tables.exec = Jvm.exec) (hlk : meth.locks = false) {t : FieldType} (hret : meth.sig.returnType = some t) {pc : Nat} {Ls : Array Slot} {w : Value} {i : Instr} {rest : List Value} (hn : narrow t w = w)
    (hi : (i = .ireturn ∧ (t = .int ∨ t = .boolean ∨ t = .byte ∨ t = .char ∨ t = .short) ∧ ∃ z, w = .int z) ∨ (i = .lreturn ∧ t = .long ∧ ∃ z, w = .long z) ∨ (i = .dreturn ∧ t = .double ∧ ∃ z, w = .double z) ∨ (i = .freturn ∧ t = .float ∧ ∃ z, w = .float z) ∨ (i = .areturn ∧ t.isReference = true ∧ w.isRef = true))
    (hd : decode c.code pc = .ok (i, 1)) (hc : cells ≤ C) (hs : slots ≤ S) (hq : Q (some w) T.heap locs) : GoW p e below s0 C S Q T (mkF m pc Ls (w :: rest)) :=
  GoW.ret X hS hk eT hlk (fun h => by rw [hret] at h; cases h) (fun fs hr => retOut X hx hret hn hi hd hr) hq hc hs
theorem GoW.retZ (X : Stand p l e R (s0.setVm vm0) m args below meth c T locs cells slots) (hS : s0.Since vm0 k0) (hk : Szk k0 h) (eT : T.heap = h) (hx : p.tables.exec = Jvm.exec) (hlk : meth.locks = false) (hret : meth.sig.returnType = some .boolean) {pc : Nat} {Ls : Array Slot} {z : Int32} {rest : List Value} (hz : z = 0 ∨ z = 1)
    (hd : decode c.code pc = .ok (.ireturn, 1)) (hc : cells ≤ C) (hs : slots ≤ S) (hq : Q (some (.int z)) T.heap locs) : GoW p e below s0 C S Q T (mkF m pc Ls (.int z :: rest)) :=
  GoW.retW X hS hk eT hx hlk hret (by rcases hz with rfl | rfl <;> rfl) (Or.inl ⟨rfl, Or.inr (Or.inl rfl), z, rfl⟩) hd hc hs hq
abbrev ConW (l : Launch) (Z : State) (y : MethodName) (bytes : ByteArray) (ml : Nat) (rt : Option FieldType) (rm : Room) (as' : Array Value) (h0 : Heap) (Q : Option Value → Heap → List Loc → Prop) : Prop :=
  MetFree l y (head1 [Jvm.Cond.code y bytes ml rt] rm) (fun a U => a = as' ∧ Z.Warmed39 U.vm ∧ U.heap = h0) (fun _ _ _ _ _ => True) (fun _ U o U' => ∃ v L, o = .returned v ∧ Q v U'.heap L ∧ ReturnedEndW U o U' L rm.cells rm.slots)
theorem con_ofW {y : MethodName} {bytes : ByteArray} {ml : Nat} {rt : Option FieldType} {ws : List Jvm.Cond} {rm : Room} {as' : Array Value} {h0 : Heap} (hpl : plainFor y = true)
    (body : ∀ (p : Program) (e : Env) (s : State) (m : MethodId) (below : List Frame) (meth : Method) (c : Code) (T : State), Stand p l e rm s m as' below meth c T [] 0 0 → p.tables.exec = Jvm.exec → Z.Warmed39 s.vm → c.code = bytes → c.maxLocals = ml → s.vm.findClass y.cls = some m.cls → meth.name = y.name →
      meth.sig.returnType = rt → meth.locks = false → T.heap = h0 → GoW p e below s rm.cells rm.slots Q T (entryFrame m as' ml)) :
    MetFree l y (head1 (Jvm.Cond.code y bytes ml rt :: ws) rm) (fun a U => a = as' ∧ Z.Warmed39 U.vm ∧ U.heap = h0) (fun _ _ _ _ _ => True) (fun _ U o U' => ∃ v L, o = .returned v ∧ Q v U'.heap L ∧ ReturnedEndW U o U' L rm.cells rm.slots) := by
  refine MetFree.of_bodySF hpl hisR ?_
  intro p e s m args below meth c s₁ Bd hml0 hP hK
  obtain ⟨rfl, hZ, hh⟩ := hP
  exact body p e s m below meth c s₁ (Stand.of_body Bd) Bd.exec hZ Bd.bytes hml0 (findClass_of_methodNamed Bd.named) (name_of_methodNamed Bd.named Bd.method).1 Bd.returns (BodyLoose.notSynchronized Bd) (by rw [← hh, Bd.state]; rfl)
/-- a constructor that may intern -/
theorem GoW.callIW (X : Stand p l e R (s0.setVm vm0) m args below meth c T locs cells slots) (hS : s0.Since vm0 k0) (hk : Szk k0 h) (hx : p.tables.exec = Jvm.exec) (hZ : Z.Warmed39 (s0.setVm vm0).vm) {own : String} {index : Nat} {y : MethodName} {bytes : ByteArray} {maxL : Nat} {rm : Room} {as' : Array Value} {Qc : Option Value → Heap → List Loc → Prop} {W pc : Nat} {Ls : Array Slot} {st : List Value} {a : Addr} {argsL rest : List Value} (hml : Ls.size = c.maxLocals)
    (hy1 : y.name = "<init>") (hown : (s0.setVm vm0).vm.findClass own = some m.cls) (w1 : (Jvm.Cond.methodLink own index y).before a0 Z = true) (w2 : (Jvm.Cond.instanceMethod y).before a0 Z = true) (w3 : (Jvm.Cond.initialized y.cls).before a0 Z = true) (w4 : (Jvm.Cond.code y bytes maxL none).before a0 Z = true) (hy : y.cls ≠ "java/lang/invoke/MethodHandle" ∧ y.cls ≠ "java/lang/invoke/VarHandle")
    (hM : ConW l Z y bytes maxL none rm as' h Qc) (eT : T.heap = h) (hd : decode c.code pc = .ok (.invokespecial index, 3)) (hlen : ∀ sig, parseMethodDescriptor y.desc = some sig → argsL.length = sig.parameters.length) (hst : st = argsL.reverse ++ .ref a :: rest) (has : (Value.ref a :: argsL).toArray = as')
    (hW : (rest.map fun v => v.category).sum ≤ W) (hf : rm.frames + 1 ≤ R.frames) (hl : W + (maxL + 11) + rm.locals ≤ R.locals) (hc : cells + rm.cells ≤ R.cells) (hs : slots + rm.slots ≤ R.slots)
    (k : ∀ (v : Option Value) (T' : State) (L : List Loc), Stand p l e R (s0.setVm T'.vm) m args below meth c T' (locs ++ L) (cells + rm.cells) (slots + rm.slots) → Qc v T'.heap L → s0.Since T'.vm T'.heap.size → Z.Warmed39 (s0.setVm T'.vm).vm → (s0.setVm T'.vm).vm.findClass own = some m.cls → GoW p e below s0 C S Q T' (mkF m (pc + 3) Ls (v.toList ++ rest))) :
    GoW p e below s0 C S Q T (mkF m pc Ls st) := by
  obtain ⟨v, _, ⟨T', L', k', n'⟩, -, X', hS2, hgr, ⟨Lc, hQ, l1, y1, z1⟩, stp⟩ := X.specialBackS hx (y := y) hy1 hown (mvT hZ w1) (mvT hZ w2) (mvT hZ w4) hy (backOfS (W := W) hM hZ w4 w3 hf hl) (g := mkF m pc Ls st) rfl hml (Steps.refl _) (a := a) (argsL := argsL) (rest := rest) hlen hst (by show 2 * 0 + _ ≤ _; omega) hd (fun _ _ => ⟨has, eT, hc, hs⟩)
  dsimp only [Pt.U, Pt.locs, Pt.cells, Pt.slots] at X' l1 y1 z1 stp hQ hS2 hgr
  subst l1 y1 z1
  obtain ⟨X2, q2, q3, q4⟩ := rebS hS (show k0 ≤ T.heap.size by rw [eT]; exact hk) X' hS2 hgr hZ hown
  exact GoW.step (fun _ q => stp.trans q) (k v T' Lc X2 hQ q2 q3 q4)
theorem GoW.callS (X : Stand p l e R s m args below meth c T locs cells slots) (hx : p.tables.exec = Jvm.exec) (hZ : Z.Warmed39 s.vm) {own : String} {index : Nat} {y : MethodName} {bytes : ByteArray} {maxL : Nat} {ret : Option FieldType} {rm : Room} {as' : Array Value} {Qc : Option Value → Heap → List Loc → Prop} {W pc : Nat} {Ls : Array Slot} {st : List Value} {argsL rest : List Value} (hml : Ls.size = c.maxLocals)
    (hown : s.vm.findClass own = some m.cls) (w1 : (Jvm.Cond.methodLink own index y).before a0 Z = true) (w2 : (Jvm.Cond.static y).before a0 Z = true) (w3 : (Jvm.Cond.initialized y.cls).before a0 Z = true) (w4 : (Jvm.Cond.code y bytes maxL ret).before a0 Z = true) (hy : y.cls ≠ "java/lang/invoke/MethodHandle" ∧ y.cls ≠ "java/lang/invoke/VarHandle")
    (hM : Con l Z y bytes maxL ret rm as' h Qc) (eT : T.heap = h) (hd : decode c.code pc = .ok (.invokestatic index, 3)) (hlen : ∀ sig, parseMethodDescriptor y.desc = some sig → argsL.length = sig.parameters.length) (hst : st = argsL.reverse ++ rest) (has : argsL.toArray = as')
    (hW : (rest.map fun v => v.category).sum ≤ W) (hf : rm.frames + 1 ≤ R.frames) (hl : W + (maxL + 11) + rm.locals ≤ R.locals) (hc : cells + rm.cells ≤ R.cells) (hs : slots + rm.slots ≤ R.slots)
    (k : ∀ (v : Option Value) (T' : State) (L : List Loc), Stand p l e R s m args below meth c T' (locs ++ L) (cells + rm.cells) (slots + rm.slots) → Qc v T'.heap L → GoW p e below s0 C S Q T' (mkF m (pc + 3) Ls (v.toList ++ rest))) :
    GoW p e below s0 C S Q T (mkF m pc Ls st) := by
  obtain ⟨v, _, ⟨T', L', k', n'⟩, -, X', ⟨Lc, hQ, l1, y1, z1⟩, stp⟩ := Jvm.LawKit.callS X hx (y := y) hown (mvT hZ w1) (mvT hZ w2) (mvT hZ w3) (mvT hZ w4) hy (backOf (W := W) hM hZ w4 w3 hf hl) (g := mkF m pc Ls st) rfl hml (argsL := argsL) (rest := rest) hlen hst (by show 2 * 0 + _ ≤ _; omega) hd (fun _ _ => ⟨has, eT, hc, hs⟩)
  dsimp only [Pt.U, Pt.locs, Pt.cells, Pt.slots] at X' l1 y1 z1 stp hQ
  subst l1 y1 z1
  exact GoW.step stp (k v T' Lc X' hQ)
theorem GoW.callI (X : Stand p l e R s m args below meth c T locs cells slots) (hx : p.tables.exec = Jvm.exec) (hZ : Z.Warmed39 s.vm) {own : String} {index : Nat} {y : MethodName} {bytes : ByteArray} {maxL : Nat} {rm : Room} {as' : Array Value} {Qc : Option Value → Heap → List Loc → Prop} {W pc : Nat} {Ls : Array Slot} {st : List Value} {a : Addr} {argsL rest : List Value} (hml : Ls.size = c.maxLocals)
    (hy1 : y.name = "<init>") (hown : s.vm.findClass own = some m.cls) (w1 : (Jvm.Cond.methodLink own index y).before a0 Z = true) (w2 : (Jvm.Cond.instanceMethod y).before a0 Z = true) (w3 : (Jvm.Cond.initialized y.cls).before a0 Z = true) (w4 : (Jvm.Cond.code y bytes maxL none).before a0 Z = true) (hy : y.cls ≠ "java/lang/invoke/MethodHandle" ∧ y.cls ≠ "java/lang/invoke/VarHandle")
    (hM : Con l Z y bytes maxL none rm as' h Qc) (eT : T.heap = h) (hd : decode c.code pc = .ok (.invokespecial index, 3)) (hlen : ∀ sig, parseMethodDescriptor y.desc = some sig → argsL.length = sig.parameters.length) (hst : st = argsL.reverse ++ .ref a :: rest) (has : (Value.ref a :: argsL).toArray = as')
    (hW : (rest.map fun v => v.category).sum ≤ W) (hf : rm.frames + 1 ≤ R.frames) (hl : W + (maxL + 11) + rm.locals ≤ R.locals) (hc : cells + rm.cells ≤ R.cells) (hs : slots + rm.slots ≤ R.slots)
    (k : ∀ (v : Option Value) (T' : State) (L : List Loc), Stand p l e R s m args below meth c T' (locs ++ L) (cells + rm.cells) (slots + rm.slots) → Qc v T'.heap L → GoW p e below s0 C S Q T' (mkF m (pc + 3) Ls (v.toList ++ rest))) :
    GoW p e below s0 C S Q T (mkF m pc Ls st) := by
  obtain ⟨v, _, ⟨T', L', k', n'⟩, -, X', ⟨Lc, hQ, l1, y1, z1⟩, stp⟩ := X.specialBack hx (y := y) hy1 hown (mvT hZ w1) (mvT hZ w2) (mvT hZ w4) hy (backOf (W := W) hM hZ w4 w3 hf hl) (g := mkF m pc Ls st) rfl hml (Steps.refl _) (a := a) (argsL := argsL) (rest := rest) hlen hst (by show 2 * 0 + _ ≤ _; omega) hd (fun _ _ => ⟨has, eT, hc, hs⟩)
  dsimp only [Pt.U, Pt.locs, Pt.cells, Pt.slots] at X' l1 y1 z1 stp hQ
  subst l1 y1 z1
  exact GoW.step (fun _ q => stp.trans q) (k v T' Lc X' hQ)
theorem GoW.callV (X : Stand p l e R s m args below meth c T locs cells slots) (hx : p.tables.exec = Jvm.exec) (hZ : Z.Warmed39 s.vm) {own K : String} {index : Nat} {y z : MethodName} {bytes : ByteArray} {maxL : Nat} {ret : Option FieldType} {rm : Room} {as' : Array Value} {Qc : Option Value → Heap → List Loc → Prop} {W pc : Nat} {Ls : Array Slot} {st : List Value} {a : Addr} {argsL rest : List Value} (hml : Ls.size = c.maxLocals)
    (hown : s.vm.findClass own = some m.cls) (w1 : (Jvm.Cond.methodLink own index y).before a0 Z = true) (w2 : (Jvm.Cond.declares y).before a0 Z = true) (hnf : NotFace s y) (w5 : (Jvm.Cond.selects K y z).before a0 Z = true) (w6 : (Jvm.Cond.instanceMethod z).before a0 Z = true) (w3 : (Jvm.Cond.initialized z.cls).before a0 Z = true) (w4 : (Jvm.Cond.code z bytes maxL ret).before a0 Z = true) (hy : y.cls ≠ "java/lang/invoke/MethodHandle" ∧ y.cls ≠ "java/lang/invoke/VarHandle")
    (hM : Con l Z z bytes maxL ret rm as' h Qc) (eT : T.heap = h) (E : Exa Z h a K) (hd : decode c.code pc = .ok (.invokevirtual index, 3)) (hlen : ∀ sig, parseMethodDescriptor y.desc = some sig → argsL.length = sig.parameters.length) (hst : st = argsL.reverse ++ .ref a :: rest) (has : (Value.ref a :: argsL).toArray = as')
    (hW : (rest.map fun v => v.category).sum ≤ W) (hf : rm.frames + 1 ≤ R.frames) (hl : W + (maxL + 11) + rm.locals ≤ R.locals) (hc : cells + rm.cells ≤ R.cells) (hs : slots + rm.slots ≤ R.slots)
    (k : ∀ (v : Option Value) (T' : State) (L : List Loc), Stand p l e R s m args below meth c T' (locs ++ L) (cells + rm.cells) (slots + rm.slots) → Qc v T'.heap L → GoW p e below s0 C S Q T' (mkF m (pc + 3) Ls (v.toList ++ rest))) :
    GoW p e below s0 C S Q T (mkF m pc Ls st) := by
  obtain ⟨cq, kq, qa, qb, qc⟩ := isOf hZ eT E
  obtain ⟨v, _, ⟨T', L', k', n'⟩, -, X', ⟨Lc, hQ, l1, y1, z1⟩, stp⟩ := X.virtualBack hx (y := y) (z := z) hown (mvT hZ w1) (mvT hZ w2) hnf (mvT hZ w5) (mvT hZ w6) hy (backOf (W := W) hM hZ w4 w3 hf hl) qa qc (g := mkF m pc Ls st) rfl hml (Steps.refl _) (argsL := argsL) (rest := rest) hlen hst (by show 2 * 0 + _ ≤ _; omega) hd (fun _ _ => ⟨has, eT, hc, hs⟩)
  dsimp only [Pt.U, Pt.locs, Pt.cells, Pt.slots] at X' l1 y1 z1 stp hQ
  subst l1 y1 z1
  exact GoW.step (fun _ q => stp.trans q) (k v T' Lc X' hQ)
theorem GoW.callP (X : Stand p l e R s m args below meth c T locs cells slots) (hx : p.tables.exec = Jvm.exec) (hZ : Z.Warmed39 s.vm) {own : String} {index : Nat} {y : MethodName} {bytes : ByteArray} {maxL : Nat} {ret : Option FieldType} {rm : Room} {as' : Array Value} {Qc : Option Value → Heap → List Loc → Prop} {W pc : Nat} {Ls : Array Slot} {st : List Value} {a : Addr} {argsL rest : List Value} (hml : Ls.size = c.maxLocals)
    (hown : s.vm.findClass own = some m.cls) (w1 : (Jvm.Cond.methodLink own index y).before a0 Z = true) (w6 : (Jvm.Cond.instanceMethod y).before a0 Z = true) {kk : Nat} (w5 : (Jvm.Cond.instantiable y.cls kk).before a0 Z = true) (w7 : (Jvm.Cond.privateMethod y).before a0 Z = true) (w3 : (Jvm.Cond.initialized y.cls).before a0 Z = true) (w4 : (Jvm.Cond.code y bytes maxL ret).before a0 Z = true) (hy : y.cls ≠ "java/lang/invoke/MethodHandle" ∧ y.cls ≠ "java/lang/invoke/VarHandle")
    (hM : Con l Z y bytes maxL ret rm as' h Qc) (eT : T.heap = h) {K : String} (E : Exa Z h a K) (hd : decode c.code pc = .ok (.invokevirtual index, 3)) (hlen : ∀ sig, parseMethodDescriptor y.desc = some sig → argsL.length = sig.parameters.length) (hst : st = argsL.reverse ++ .ref a :: rest) (has : (Value.ref a :: argsL).toArray = as')
    (hW : (rest.map fun v => v.category).sum ≤ W) (hf : rm.frames + 1 ≤ R.frames) (hl : W + (maxL + 11) + rm.locals ≤ R.locals) (hc : cells + rm.cells ≤ R.cells) (hs : slots + rm.slots ≤ R.slots)
    (k : ∀ (v : Option Value) (T' : State) (L : List Loc), Stand p l e R s m args below meth c T' (locs ++ L) (cells + rm.cells) (slots + rm.slots) → Qc v T'.heap L → GoW p e below s0 C S Q T' (mkF m (pc + 3) Ls (v.toList ++ rest))) :
    GoW p e below s0 C S Q T (mkF m pc Ls st) := by
  obtain ⟨cq, q1, q2⟩ := E.cell
  have hpriv : s.PrivateAt y := Cond.privateMethod_at (mvP hZ w7 (args := #[]))
  have w5' : (Jvm.Cond.instantiable y.cls kk).before args s = true := mvT hZ w5
  obtain ⟨c1, k1, i1, i2, -, i4, -⟩ := Cond.instantiable_spec w5'
  have hsel : (Jvm.Cond.selects y.cls y y).before args s = true := selects_self_of_private i1 i2 (by simp only [Bool.or_eq_false_iff] at i4; exact i4.1) hpriv (mvT hZ w6) hy
  obtain ⟨v, _, ⟨T', L', k', n'⟩, -, X', ⟨Lc, hQ, l1, y1, z1⟩, stp⟩ := X.privateBack hx (y := y) hown (mvT hZ w1) (mvT hZ w6) hsel hpriv (mvT hZ w4) hy (backOf (W := W) hM hZ w4 w3 hf hl) (g := mkF m pc Ls st) rfl hml (Steps.refl _) (a := a) (by rw [eT]; exact q1) q2 (argsL := argsL) (rest := rest) hlen hst (by show 2 * 0 + _ ≤ _; omega) hd (fun _ _ => ⟨has, eT, hc, hs⟩)
  dsimp only [Pt.U, Pt.locs, Pt.cells, Pt.slots] at X' l1 y1 z1 stp hQ
  subst l1 y1 z1
  exact GoW.step (fun _ q => stp.trans q) (k v T' Lc X' hQ)
end OwnGoW
theorem own_wS {Z : State} {a0 : Array Value} (hw : ∀ d ∈ tables_1, d.before a0 Z = true) : ∀ a ∈ Bundle.stringAtoms, a.before a0 Z = true := by
  intro a ha
  simp only [Bundle.stringAtoms, List.mem_cons, List.not_mem_nil, or_false] at ha
  rcases ha with rfl | rfl | rfl | rfl | rfl | rfl | rfl
  · exact (hw _ (mI 17 rfl))
  · exact (hw _ (mI 18 rfl))
  · exact (hw _ (mI 19 rfl))
  · exact (hw _ (mI 20 rfl))
  · exact (hw _ (mI 21 rfl))
  · exact (hw _ (mI 22 rfl))
  · exact (hw _ (mI 23 rfl))
section OwnConv
open Jvm.FP.Core
theorem own_nnN {a : UInt64} (h : val64 a ≠ .nan) : Jvm.Free.Fl.NoNaN64 a := Jvm.Free.Fl.noNaN64_no.mpr ((notNaN_iff a).mpr h)
theorem own_Nnn {a : UInt64} (h : Jvm.Free.Fl.NoNaN64 a) : val64 a ≠ .nan := (notNaN_iff a).mp (Jvm.Free.Fl.noNaN64_no.mp h)
theorem own_finF {a : UInt64} (h : DFin a) : Jvm.Free.Fl.Fin64 a := Jvm.Free.Fl.fin64_core.mpr h
theorem own_Ffin {a : UInt64} (h : Jvm.Free.Fl.Fin64 a) : DFin a := Jvm.Free.Fl.fin64_core.mp h
theorem own_nnF {a : UInt64} (h : DFin a) : Jvm.Free.Fl.NoNaN64 a := own_nnN h.ne_nan
theorem own_nz {x : Int64} (h : x ≠ 0) : Jvm.Free.Fl.Nz64 (FP.l2d x) := Jvm.Free.Fl.nz64_core.mpr (fun z => l2d_ne_zero h ((zero_bits2 _).mp z))
theorem own_eqD {a b : UInt64} (h : a = b) (n : Jvm.Free.Fl.NoNaN64 a) : FP.dcmp a b = some .eq := by subst h; exact dcmp_self (own_Nnn n)
end OwnConv

section OwnP3
open Jvm.FP.Core
theorem own_pow (a b : Nat) : (2:Nat) ^ a * 2 ^ b = 2 ^ (a + b) := (Nat.pow_add 2 a b).symm
theorem own_cross {c d M : Nat} {q r : Int} (hq : 0 ≤ q + M) (hr : 0 ≤ r + M) (h : c * 2 ^ (q + M).toNat ≤ d * 2 ^ (r + M).toNat) : c * 2 ^ (q - r).toNat ≤ d * 2 ^ (r - q).toNat := by
  rcases Int.le_total r q with g | g
  · rw [show (r - q).toNat = 0 by omega, show (q + M).toNat = (q - r).toNat + (r + M).toNat by omega, ← own_pow, ← Nat.mul_assoc] at *
    simpa using Nat.le_of_mul_le_mul_right h (Nat.pow_pos (by decide))
  · rw [show (q - r).toNat = 0 by omega, show (r + M).toNat = (r - q).toNat + (q + M).toNat by omega, ← own_pow, ← Nat.mul_assoc] at *
    simpa using Nat.le_of_mul_le_mul_right h (Nat.pow_pos (by decide))
theorem own_cross_eq {c d M : Nat} {q r : Int} (hq : 0 ≤ q + M) (hr : 0 ≤ r + M) (h : c * 2 ^ (q + M).toNat = d * 2 ^ (r + M).toNat) : c * 2 ^ (q - r).toNat = d * 2 ^ (r - q).toNat :=
  Nat.le_antisymm (own_cross hq hr (Nat.le_of_eq h)) (own_cross hr hq (Nat.le_of_eq h.symm))
def Full (a : UInt64) (s : Bool) (c : Nat) (q : Int) : Prop := val64 a = .fin s c q ∧ 2 ^ 52 ≤ c ∧ c < 2 ^ 53
theorem own_zmag_fin (s : Bool) (c : Nat) (q : Int) : zmag b64 (.fin s c q) = c * 2 ^ (q + 1074).toNat := by
  show c * 2 ^ (q - b64.qmin).toNat = _
  rw [qmin_b64]; congr 2
/-- a double that is a whole number other than 0: its shape -/
theorem own_fullD {i : Int} {a : UInt64} (h : DInt i a) (hi : i ≠ 0) (hb : i.natAbs ≤ 2 ^ 53) : ∃ s c q, Full a s c q ∧ -52 ≤ q ∧ q ≤ 53 ∧ s = decide (i < 0) ∧ c * 2 ^ (q + 1074).toNat = i.natAbs * 2 ^ 1074 := by
  have hz := DInt_zval h
  have hf := val64_fits a
  cases hv : val64 a with
  | nan => exact absurd hv (DInt_ne_nan h)
  | inf s => unfold DInt at h; rw [hv] at h; exact absurd h (by intro q; exact q)
  | fin s c q =>
    rw [hv] at hz hf
    obtain ⟨f1, f2, f3, f4⟩ := hf
    rw [qmin_b64] at f2 f4
    have hm : zval b64 (.fin s c q) = if s then -((c * 2 ^ (q + 1074).toNat : Nat) : Int) else ((c * 2 ^ (q + 1074).toNat : Nat) : Int) := by
      have := own_zmag_fin s c q
      cases s
      · show (zmag b64 (.fin false c q) : Int) = _; rw [this]; rfl
      · show -(zmag b64 (.fin true c q) : Int) = _; rw [this]; rfl
    have ho : (one64 : Int) = ((2 ^ 1074 : Nat) : Int) := by rw [show one64 = 2 ^ 1074 from by decide +kernel]
    rw [hm, ho] at hz
    have hX : c * 2 ^ (q + 1074).toNat = i.natAbs * 2 ^ 1074 := by
      have := congrArg Int.natAbs hz
      rw [Int.natAbs_mul] at this
      cases s
      · have t : Int.natAbs ((c * 2 ^ (q + 1074).toNat : Nat) : Int) = i.natAbs * Int.natAbs ((2 ^ 1074 : Nat) : Int) := this
        rw [Int.natAbs_natCast, Int.natAbs_natCast] at t; exact t
      · have t : Int.natAbs (-((c * 2 ^ (q + 1074).toNat : Nat) : Int)) = i.natAbs * Int.natAbs ((2 ^ 1074 : Nat) : Int) := this
        rw [Int.natAbs_neg, Int.natAbs_natCast, Int.natAbs_natCast] at t; exact t
    have hs : s = decide (i < 0) := by
      have hp : (0 : Int) < ((2 ^ 1074 : Nat) : Int) := Int.natCast_pos.mpr (Nat.pow_pos (by decide))
      cases s
      · have h0 : 0 ≤ i * ((2 ^ 1074 : Nat) : Int) := by rw [← hz]; exact Int.natCast_nonneg _
        have : ¬ i < 0 := fun g => by have := Int.mul_neg_of_neg_of_pos g hp; omega
        simp [this]
      · have h0 : i * ((2 ^ 1074 : Nat) : Int) ≤ 0 := by
          rw [← hz]; show -((c * 2 ^ (q + 1074).toNat : Nat) : Int) ≤ 0
          have := Int.natCast_nonneg (c * 2 ^ (q + 1074).toNat); omega
        have : i < 0 := Int.not_le.mp fun g => by
          have g' : 0 < i := by omega
          have := Int.mul_pos g' hp; omega
        simp [this]
    have hi1 : 1 ≤ i.natAbs := by omega
    have hlo : 2 ^ 1074 ≤ c * 2 ^ (q + 1074).toNat := by rw [hX]; exact Nat.le_mul_of_pos_left _ hi1
    have hhi : c * 2 ^ (q + 1074).toNat ≤ 2 ^ 53 * 2 ^ 1074 := by rw [hX]; exact Nat.mul_le_mul_right _ hb
    have f1' : c < 2 ^ 53 := f1
    have hq1 : -52 ≤ q := Int.not_lt.mp fun g => by
      have h1 : 2 ^ (q + 1074).toNat ≤ 2 ^ 1021 := Nat.pow_le_pow_right (by decide) (by omega)
      have h2 : c * 2 ^ (q + 1074).toNat < 2 ^ 53 * 2 ^ 1021 := Nat.lt_of_le_of_lt (Nat.mul_le_mul_left _ h1) (Nat.mul_lt_mul_of_pos_right f1' (Nat.pow_pos (by decide)))
      rw [own_pow] at h2; exact absurd hlo (Nat.not_le.mpr h2)
    have hc : 2 ^ 52 ≤ c := by
      rcases f4 with g | g
      · omega
      · exact g
    have hq2 : q ≤ 53 := Int.not_lt.mp fun g => by
      have h1 : 2 ^ 1128 ≤ 2 ^ (q + 1074).toNat := Nat.pow_le_pow_right (by decide) (by omega)
      have h2 : 2 ^ 52 * 2 ^ 1128 ≤ c * 2 ^ (q + 1074).toNat := Nat.mul_le_mul hc h1
      have h3 := Nat.le_trans h2 hhi
      rw [own_pow, own_pow] at h3
      exact absurd h3 (Nat.not_le.mpr (Nat.pow_lt_pow_right (by decide) (by decide)))
    exact ⟨s, c, q, ⟨hv, hc, f1'⟩, hq1, hq2, hs, hX⟩
theorem own_quot_full {a b : UInt64} {s t : Bool} {c d : Nat} {q r : Int} (ha : val64 a = .fin s c q) (hb : val64 b = .fin t d r) (hd : d ≠ 0) : val64 (FP.ddiv a b) = roundRatio b64 (s != t) c d (q - r) := by
  show val64 (Jvm.FP.Core.ddiv a b) = _
  rw [val64_ddiv, ha, hb]
  show (if d = 0 then _ else roundRatio b64 (s != t) c d (q - r)) = _
  rw [if_neg hd]
theorem own_valFour : val64 (4616189618054758400 : UInt64) = .fin false (2 ^ 52) (-50) := by decide +kernel
theorem own_div4 {a : UInt64} {s : Bool} {c : Nat} {q : Int} (h : Full a s c q) (h1 : -1000 ≤ q) (h2 : q ≤ 970) : val64 (FP.ddiv a 4616189618054758400) = .fin s c (q - 2) := by
  rw [own_quot_full h.1 own_valFour (by decide)]
  have hs : (s != false) = s := by cases s <;> rfl
  rw [hs]
  refine roundRatio_exact good_b64 (by decide) ⟨h.2.2, by rw [qmin_b64]; omega, by show _ ≤ b64.qmax; rw [show b64.qmax = 971 by decide]; omega, Or.inr (by rw [show b64.tails = 2 ^ 52 by decide]; exact h.2.1)⟩ ?_
  rw [show (q - -50 - (q - 2)).toNat = 52 by omega, show (q - 2 - (q - -50)).toNat = 0 by omega]; simp
end OwnP3
section OwnP3b
open Jvm.FP.Core
def resW (u : UInt64) (n : Int32) (lv : UInt64) : UInt64 := if FP.dcmp lv (0 : UInt64) = some .gt then FP.dmul (FP.dmul u (FP.i2d n)) lv else 0
theorem own_val0 : val64 (0 : UInt64) = .fin false 0 (-1074) := by decide +kernel
theorem own_cmp0 {a : UInt64} {s : Bool} {c : Nat} {q : Int} (h : val64 a = .fin s c q) : FP.dcmp a 0 = some (if c = 0 then .eq else if s then .lt else .gt) := by
  show order (val64 a) (val64 0) = _
  rw [h, own_val0]
  have e0 : inUnits 0 (-1074) (min q (-1074)) = 0 := by unfold inUnits; simp
  have p : 0 < 2 ^ (q - min q (-1074)).toNat := Nat.two_pow_pos _
  show some (compare (signed s (inUnits c q (min q (-1074)))) (signed false (inUnits 0 (-1074) (min q (-1074))))) = _
  rw [e0]
  unfold inUnits
  congr 1
  by_cases hc : c = 0
  · subst hc; simp [signed_zero]
  · have pc : 0 < c * 2 ^ (q - min q (-1074)).toNat := Nat.mul_pos (by omega) p
    generalize c * 2 ^ (q - min q (-1074)).toNat = k at pc
    simp only [hc, if_false]
    cases s
    · have h1 : ¬ (k : Int) < 0 := by omega
      have h2 : ¬ (k : Int) = 0 := by omega
      simp only [signed, compare_ite, Bool.false_eq_true, if_false, Int.natCast_zero, if_neg h1, if_neg h2]
    · have h1 : -(k : Int) < 0 := by omega
      simp only [signed, compare_ite, Bool.false_eq_true, if_false, Int.natCast_zero, if_true, if_pos h1]
theorem own_d0 : DInt 0 (0 : UInt64) := by
  have h : DInt (0 : Int32).toInt (FP.i2d 0) := i2d_int 0
  rw [show FP.i2d 0 = 0 from by decide +kernel] at h; exact h
theorem own_dge {x : Int32} (h : 0 ≤ x.toInt) : FP.dcmp (FP.i2d x) 0 = some .gt ∨ FP.dcmp (FP.i2d x) 0 = some .eq := by
  have e : FP.dcmp (FP.i2d x) 0 = some (compare x.toInt 0) := dcmp_int (i2d_int x) own_d0
  rw [e]
  rcases Int.lt_or_eq_of_le h with q | q
  · left; rw [(compare_gt_iff _ _).mpr q]
  · right; rw [(compare_eq_iff _ _).mpr q.symm]
theorem own_ge0 (x : Int32) : FP.dcmp (FP.i2d (x &&& (65535 : Int32))) (0 : UInt64) = some .gt ∨ FP.dcmp (FP.i2d (x &&& (65535 : Int32))) (0 : UInt64) = some .eq := own_dge (by have := c_mask x 65535 16 (by decide) (by decide); omega)
theorem own_ge1 (x : Int32) : FP.dcmp (FP.i2d (x &&& (1023 : Int32))) (0 : UInt64) = some .gt ∨ FP.dcmp (FP.i2d (x &&& (1023 : Int32))) (0 : UInt64) = some .eq := own_dge (by have := c_mask x 1023 10 (by decide) (by decide); omega)
theorem own_nzgt {v : UInt64} (h : FP.dcmp v (0 : UInt64) = some .gt) : Jvm.Free.Fl.Nz64 v := Jvm.Free.Fl.nz64_core.mpr fun z => by
  obtain ⟨s, q, hv⟩ := z
  rw [own_cmp0 hv, if_pos rfl] at h; exact absurd h (by decide)
theorem own_ib (k : Int32) : k.toInt.natAbs ≤ 2 ^ 53 := by have := k.toInt_lt; have := k.le_toInt; omega
theorem own_lvF (k : Int32) : Jvm.Free.Fl.Fin64 (FP.ddiv (FP.i2d k) (4616189618054758400 : UInt64)) := by
  by_cases h : k.toInt = 0
  · have e : k = 0 := Int32.toInt_inj.mp h
    rw [e, show FP.ddiv (FP.i2d 0) 4616189618054758400 = 0 from by decide +kernel]; unfold Jvm.Free.Fl.Fin64; decide +kernel
  · obtain ⟨s, c, q, hF, h1, h2, -, -⟩ := own_fullD (i2d_int k) h (own_ib k)
    exact own_finF ⟨s, c, q - 2, own_div4 hF (by omega) (by omega)⟩
/-- a level above 0 -/
theorem own_lv {k : Int32} (h : (0 : Int32) < k) : FP.dcmp (FP.ddiv (FP.i2d k) (4616189618054758400 : UInt64)) 0 = some .gt := by
  rw [Int32.lt_iff_toInt_lt, show (0 : Int32).toInt = 0 from rfl] at h
  obtain ⟨s, c, q, hF, h1, h2, hs, -⟩ := own_fullD (i2d_int k) (by omega) (own_ib k)
  have hv := own_div4 hF (by omega) (by omega)
  rw [own_cmp0 hv, if_neg (by have := hF.2.1; omega), hs]; simp; omega
theorem own_lvn {k : Int32} (h : ¬ (0 : Int32) < k) : ¬ FP.dcmp (FP.ddiv (FP.i2d k) (4616189618054758400 : UInt64)) 0 = some .gt := by
  rw [Int32.lt_iff_toInt_lt, show (0 : Int32).toInt = 0 from rfl] at h
  by_cases g : k.toInt = 0
  · have e : k = 0 := Int32.toInt_inj.mp g
    rw [e]; decide +kernel
  · obtain ⟨s, c, q, hF, h1, h2, hs, -⟩ := own_fullD (i2d_int k) g (own_ib k)
    have hv := own_div4 hF (by omega) (by omega)
    rw [own_cmp0 hv, if_neg (by have := hF.2.1; omega), hs, if_pos (by simp; omega)]; decide
theorem own_res0 {k n : Int32} {u : UInt64} (h : ¬ (0 : Int32) < k) : FP.dcmp (resW u n (FP.ddiv (FP.i2d k) (4616189618054758400 : UInt64))) (0 : UInt64) = some .eq := by
  rw [resW, if_neg (own_lvn h)]; decide +kernel
theorem own_zmul {a b : UInt64} {s t : Bool} {c : Nat} {q r : Int} (ha : val64 a = .fin s 0 q) (hb : val64 b = .fin t c r) : FP.dcmp (FP.dmul a b) 0 = some .eq := by
  have h : val64 (Jvm.FP.Core.dmul a b) = .fin (s != t) 0 b64.qmin := by
    rw [val64_dmul, ha, hb]
    show roundRatio b64 (s != t) (0 * c) 1 (q + r) = _
    rw [Nat.zero_mul]; unfold roundRatio; rw [if_pos rfl]
  rw [own_cmp0 h, if_pos rfl]
theorem own_resZ {k n : Int32} (h : (0 : Int32) < k) (hn : n = (0 : Int32)) : FP.dcmp (resW (9214871658872686752 : UInt64) n (FP.ddiv (FP.i2d k) (4616189618054758400 : UInt64))) (0 : UInt64) = some .eq := by
  subst hn
  rw [resW, if_pos (own_lv h)]
  rw [show FP.dmul (9214871658872686752 : UInt64) (FP.i2d 0) = 0 from by decide +kernel]
  rw [Int32.lt_iff_toInt_lt, show (0 : Int32).toInt = 0 from rfl] at h
  obtain ⟨s, c, q, hF, h1, h2, hs, -⟩ := own_fullD (i2d_int k) (by omega) (own_ib k)
  exact own_zmul own_val0 (own_div4 hF (by omega) (by omega))
theorem own_inf0 {a : UInt64} {s : Bool} (h : val64 a = .inf s) : FP.dcmp a 0 = some (if s then .lt else .gt) := by
  show order (val64 a) (val64 0) = _
  rw [h, own_val0]; cases s <;> decide
theorem own_zinf : zmag b64 (.inf false) = 2 ^ 2098 := by
  show b64.tails * 2 ^ (b64.exps - 2) = _
  rw [show b64.tails = 2 ^ 52 by decide, show b64.exps - 2 = 2046 by decide, own_pow]
/-- a whole number of at least 2^k is at least 2^k as a double -/
theorem own_fitsQ {w : Nat} (h1 : 1072 ≤ w) (h2 : w ≤ 1074) : Jvm.FP.Core.fits b64 (.fin false (2 ^ 52) ((w : Int) - 1126)) := ⟨by decide, by rw [qmin_b64]; omega, by show _ ≤ b64.qmax; rw [show b64.qmax = 971 by decide]; omega, Or.inr (by decide)⟩
theorem own_zQ {w : Nat} (h1 : 1072 ≤ w) (h2 : w ≤ 1074) : zmag b64 (.fin false (2 ^ 52) ((w : Int) - 1126)) = 2 ^ w := by
  rw [own_zmag_fin, own_pow]; congr 1; omega
theorem own_mul_s {a b : UInt64} {t : Bool} {c2 : Nat} {q2 : Int} (w : Nat) (w1 : 1072 ≤ w) (w2 : w ≤ 1074) (hb : val64 b = .fin t c2 q2) (hc : c2 ≠ 0) (hn : val64 a ≠ .nan) (h : 2 ^ 1074 ≤ zmag b64 (val64 a)) (h' : 2 ^ w ≤ zmag b64 (.fin t c2 q2)) :
    val64 (FP.dmul a b) ≠ .nan ∧ Jvm.FP.Core.sgn (val64 (FP.dmul a b)) = (Jvm.FP.Core.sgn (val64 a) != t) ∧ 2 ^ w ≤ zmag b64 (val64 (FP.dmul a b)) := by
  show val64 (Jvm.FP.Core.dmul a b) ≠ .nan ∧ Jvm.FP.Core.sgn (val64 (Jvm.FP.Core.dmul a b)) = _ ∧ 2 ^ w ≤ zmag b64 (val64 (Jvm.FP.Core.dmul a b))
  have hfb := val64_fits b
  rw [val64_dmul, hb]; rw [hb] at hfb
  have hf := val64_fits a
  cases e : val64 a with
  | nan => exact absurd e hn
  | inf s =>
    have : round b64 (exactProduct (.inf s) (.fin t c2 q2)) = .inf (s != t) := by
      show round b64 (if c2 = 0 then _ else .inf (s != t)) = _
      rw [if_neg hc]; rfl
    rw [this]
    refine ⟨by simp, rfl, ?_⟩
    have hz : zmag b64 (.inf (s != t)) = zmag b64 (.inf false) := rfl
    rw [hz, show zmag b64 (.inf false) = 2 ^ 2098 from own_zinf]
    exact Nat.pow_le_pow_right (by decide) (by omega)
  | fin s c q =>
    rw [e] at hf h
    obtain ⟨p1, p2, p3⟩ := product_units hf hfb
    rw [p1]
    refine ⟨roundRatio_ne_nan _ _ _ _ _, sgn_roundRatio _ _ _ _ _, ?_⟩
    have hge := zmag_roundRatio_ge good_b64 (s := s != t) (A := c * c2) (B := 1) (e := q + q2) (e0 := 2 * b64.qmin) (V := .fin false (2 ^ 52) ((w : Int) - 1126)) (by decide) (own_fitsQ w1 w2) (by rw [qmin_b64]; decide) p2 (by
      rw [p3, own_zQ w1 w2, qmin_b64, show ((-1074 : Int) - 2 * -1074).toNat = 1074 by decide, Nat.mul_one, Nat.mul_comm]
      exact Nat.mul_le_mul h h')
    rw [own_zQ w1 w2] at hge; exact hge
theorem own_sign {a : UInt64} (hn : val64 a ≠ .nan) (h : 2 ^ 1072 ≤ zmag b64 (val64 a)) : FP.dcmp a 0 = some (if Jvm.FP.Core.sgn (val64 a) then .lt else .gt) := by
  cases e : val64 a with
  | nan => exact absurd e hn
  | inf s => exact own_inf0 e
  | fin s c q =>
    rw [own_cmp0 e, if_neg]; rfl
    intro g; rw [e, g, own_zmag_fin, Nat.zero_mul] at h
    exact absurd h (Nat.not_le.mpr (Nat.pow_pos (by decide)))
theorem own_big {k n : Int32} (h : (0 : Int32) < k) (hn : n.toInt ≠ 0) : FP.dcmp (resW (9214871658872686752 : UInt64) n (FP.ddiv (FP.i2d k) (4616189618054758400 : UInt64))) (0 : UInt64) = some (if n.toInt < 0 then .lt else .gt) := by
  rw [resW, if_pos (own_lv h)]
  rw [Int32.lt_iff_toInt_lt, show (0 : Int32).toInt = 0 from rfl] at h
  obtain ⟨s1, c1, q1, F1, a1, b1, e1, z1⟩ := own_fullD (i2d_int n) hn (own_ib n)
  obtain ⟨s2, c2, q2, F2, a2, b2, e2, z2⟩ := own_fullD (i2d_int k) (by omega) (own_ib k)
  have hB : val64 (9214871658872686752 : UInt64) = .fin false 5010420900022432 971 := by decide +kernel
  have hBz : 2 ^ 1074 ≤ zmag b64 (val64 (9214871658872686752 : UInt64)) := by
    rw [hB, own_zmag_fin, show ((971 : Int) + 1074).toNat = 2045 from rfl]
    exact Nat.le_trans (Nat.pow_le_pow_right (by decide) (by decide : 1074 ≤ 2045)) (Nat.le_mul_of_pos_left _ (by decide))
  have hz1 : 2 ^ 1074 ≤ zmag b64 (.fin s1 c1 q1) := by rw [own_zmag_fin, z1]; exact Nat.le_mul_of_pos_left _ (by omega)
  have h4 := own_div4 F2 (by omega) (by omega)
  have hz2 : 2 ^ 1072 ≤ zmag b64 (.fin s2 c2 (q2 - 2)) := by
    rw [own_zmag_fin]
    have e : (q2 + 1074).toNat = (q2 - 2 + 1074).toNat + 2 := by omega
    rw [e, ← own_pow, ← Nat.mul_assoc] at z2
    have g : 2 ^ 1074 ≤ k.toInt.natAbs * 2 ^ 1074 := Nat.le_mul_of_pos_left _ (by omega)
    rw [← z2, show (1074 : Nat) = 1072 + 2 from rfl, ← own_pow 1072 2] at g
    exact Nat.le_of_mul_le_mul_right g (by decide)
  have n1 := F1.2.1; have n2 := F2.2.1
  obtain ⟨x1, x2, x3⟩ := own_mul_s 1074 (by decide) (by decide) F1.1 (by omega) (by rw [hB]; simp) hBz hz1
  obtain ⟨y1, y2, y3⟩ := own_mul_s 1072 (by decide) (by decide) h4 (by omega) x1 x3 hz2
  rw [own_sign y1 y3, y2, x2, hB, e1, e2]
  have n3 : ¬ k.toInt < 0 := by omega
  by_cases g : n.toInt < 0 <;> simp [Jvm.FP.Core.sgn, g, n3]
theorem own_resP {k n : Int32} (h : (0 : Int32) < k) (hn : (0 : Int32) < n) : FP.dcmp (resW (9214871658872686752 : UInt64) n (FP.ddiv (FP.i2d k) (4616189618054758400 : UInt64))) (0 : UInt64) = some .gt := by
  rw [Int32.lt_iff_toInt_lt, show (0 : Int32).toInt = 0 from rfl] at hn
  rw [own_big h (by omega), if_neg (by omega)]
theorem own_resN {k n : Int32} (h : (0 : Int32) < k) (hn : ¬ n = (0 : Int32)) (hn' : ¬ (0 : Int32) < n) : FP.dcmp (resW (9214871658872686752 : UInt64) n (FP.ddiv (FP.i2d k) (4616189618054758400 : UInt64))) (0 : UInt64) = some .lt := by
  rw [Int32.lt_iff_toInt_lt, show (0 : Int32).toInt = 0 from rfl] at hn'
  have : n.toInt ≠ 0 := fun q => hn (Int32.toInt_inj.mp q)
  rw [own_big h this, if_pos (by omega)]
theorem own_prod {m k : Int} {X K L : UInt64} (hX : DInt m X) (hK : DInt k K) (hL : DInt (m * k) L) (hm : m ≠ 0) (hk : 0 < k) (bm : m.natAbs ≤ 2 ^ 53) (bk : k.natAbs ≤ 2 ^ 53) (bL : (m * k).natAbs ≤ 2 ^ 53) :
    FP.dcmp (FP.dmul X (FP.ddiv K 4616189618054758400)) (FP.ddiv L 4616189618054758400) = some .eq := by
  have hmk : m * k ≠ 0 := Int.mul_ne_zero hm (by omega)
  obtain ⟨s1, c1, q1, F1, a1, b1, e1, z1⟩ := own_fullD hX hm bm
  obtain ⟨s2, c2, q2, F2, a2, b2, e2, z2⟩ := own_fullD hK (by omega) bk
  obtain ⟨t, C, Q, F3, a3, b3, e3, z3⟩ := own_fullD hL hmk bL
  have h2 := own_div4 F2 (by omega) (by omega)
  have h3 := own_div4 F3 (by omega) (by omega)
  have hsg : (s1 != s2) = t := by
    rw [e1, e2, e3]
    have n2 : ¬ k < 0 := by omega
    by_cases g : m < 0
    · have : m * k < 0 := Int.mul_neg_of_neg_of_pos g hk
      simp [g, n2, this]
    · have : ¬ m * k < 0 := by have := Int.mul_nonneg (by omega : 0 ≤ m) (by omega : 0 ≤ k); omega
      simp [g, n2, this]
  have hx : c1 * c2 * 2 ^ (q1 + q2 - Q).toNat = C * 2 ^ (Q - (q1 + q2)).toNat := by
    refine own_cross_eq (M := 2148) (by omega) (by omega) ?_
    have k1 : (q1 + q2 + (2148 : Nat)).toNat = (q1 + 1074).toNat + (q2 + 1074).toNat := by omega
    have k2 : (Q + (2148 : Nat)).toNat = (Q + 1074).toNat + 1074 := by omega
    rw [k1, k2, ← own_pow, ← own_pow, ← Nat.mul_assoc C, z3, Int.natAbs_mul]
    calc c1 * c2 * (2 ^ (q1 + 1074).toNat * 2 ^ (q2 + 1074).toNat) = (c1 * 2 ^ (q1 + 1074).toNat) * (c2 * 2 ^ (q2 + 1074).toNat) := by
          rw [Nat.mul_mul_mul_comm]
      _ = m.natAbs * k.natAbs * 2 ^ 1074 * 2 ^ 1074 := by rw [z1, z2, Nat.mul_mul_mul_comm]; simp only [Nat.mul_assoc]
  have hv : val64 (Jvm.FP.Core.dmul X (FP.ddiv K 4616189618054758400)) = .fin t C (Q - 2) := by
    rw [val64_dmul, F1.1, h2]
    show roundRatio b64 (s1 != s2) (c1 * c2) 1 (q1 + (q2 - 2)) = _
    rw [hsg]
    refine roundRatio_exact good_b64 (by decide) ⟨F3.2.2, by rw [qmin_b64]; omega, by show _ ≤ b64.qmax; rw [show b64.qmax = 971 by decide]; omega, Or.inr (by rw [show b64.tails = 2 ^ 52 by decide]; exact F3.2.1)⟩ ?_
    rw [show (q1 + (q2 - 2) - (Q - 2)).toNat = (q1 + q2 - Q).toNat by congr 1; omega, show (Q - 2 - (q1 + (q2 - 2))).toNat = (Q - (q1 + q2)).toNat by congr 1; omega, Nat.mul_one]; exact hx
  show Jvm.FP.Core.dcmp _ _ = _
  rw [dcmp_zval (by rw [hv]; simp) (by rw [h3]; simp), hv, h3]
  exact congrArg some ((compare_eq_iff _ _).mpr rfl)
theorem own_resX {p k n : Int32} (h : (0 : Int32) < (k % (2048 : Int32))) : FP.dcmp (resW (FP.i2d (p &&& (1023 : Int32))) n (FP.ddiv (FP.i2d (k % (2048 : Int32))) (4616189618054758400 : UInt64))) (FP.ddiv (FP.l2d (((p &&& (1023 : Int32)).toInt64 * n.toInt64) * (k % (2048 : Int32)).toInt64)) (4616189618054758400 : UInt64)) = some .eq := by
  have hu := c_mask p 1023 10 (by decide) (by decide)
  rw [resW, if_pos (own_lv h)]
  rw [Int32.lt_iff_toInt_lt, show (0 : Int32).toInt = 0 from rfl] at h
  have hk : (k % (2048 : Int32)).toInt < 2048 := by
    rw [Int32.toInt_mod, show (2048 : Int32).toInt = 2048 from rfl]; exact Int.tmod_lt_of_pos _ (by decide)
  generalize (k % (2048 : Int32)) = kk at h hk ⊢
  have hu1 : 0 ≤ (p &&& (1023 : Int32)).toInt ∧ (p &&& (1023 : Int32)).toInt ≤ 1023 := by omega
  generalize (p &&& (1023 : Int32)) = uu at hu1 ⊢
  have hn1 := n.toInt_lt; have hn2 := n.le_toInt
  have b1 : (uu.toInt * n.toInt).natAbs ≤ 1023 * 2147483648 := by rw [Int.natAbs_mul]; exact Nat.mul_le_mul (by omega) (by omega)
  have b2 : (uu.toInt * n.toInt * kk.toInt).natAbs ≤ 1023 * 2147483648 * 2047 := by rw [Int.natAbs_mul]; exact Nat.mul_le_mul b1 (by omega)
  have hX : DInt (uu.toInt * n.toInt) (FP.dmul (FP.i2d uu) (FP.i2d n)) := dmul_int (i2d_int uu) (i2d_int n) (by omega)
  have e1 : ((uu.toInt64 * n.toInt64) * kk.toInt64).toInt = uu.toInt * n.toInt * kk.toInt := by
    rw [Int64.toInt_mul, Int64.toInt_mul, c_i2l, c_i2l, c_i2l]
    have g1 : (uu.toInt * n.toInt).bmod (2 ^ 64) = uu.toInt * n.toInt := by
      generalize uu.toInt * n.toInt = z at b1 ⊢
      rw [Int.bmod_def]; omega
    rw [g1]
    generalize uu.toInt * n.toInt * kk.toInt = z at b2 ⊢
    rw [Int.bmod_def]; omega
  have hL : DInt (uu.toInt * n.toInt * kk.toInt) (FP.l2d ((uu.toInt64 * n.toInt64) * kk.toInt64)) := by
    have := l2d_whole (a := (uu.toInt64 * n.toInt64) * kk.toInt64) ⟨by rw [e1]; omega, by rw [e1]; omega⟩
    rw [e1] at this; exact this
  by_cases hm : uu.toInt * n.toInt = 0
  · have ea : ((uu.toInt64 * n.toInt64) * kk.toInt64) = 0 := Int64.toInt_inj.mp (by rw [e1, hm, Int.zero_mul]; rfl)
    rw [ea, show FP.ddiv (FP.l2d 0) 4616189618054758400 = 0 from by decide +kernel]
    rw [hm] at hX
    have hz := DInt_zval hX; rw [Int.zero_mul] at hz
    obtain ⟨s, q, hv⟩ := (zero_bits2 _).mpr ((zval_eq_zero (DInt_ne_nan hX)).mp hz)
    obtain ⟨s2, c2, q2, hF, a1, a2, -, -⟩ := own_fullD (i2d_int kk) (by omega) (own_ib kk)
    exact own_zmul hv (own_div4 hF (by omega) (by omega))
  · exact own_prod hX (i2d_int kk) hL hm h (by omega) (own_ib kk) (by omega)
end OwnP3b

theorem d2_0 : decode jdk_30_method_1_code 0 = .ok (.aload_n 0, 1) := by decide +kernel
theorem d2_1 : decode jdk_30_method_1_code 1 = .ok (.invokespecial 1, 3) := by decide +kernel
theorem d2_4 : decode jdk_30_method_1_code 4 = .ok (.return_, 1) := by decide +kernel
set_option maxRecDepth 65536 in
set_option maxHeartbeats 40000000 in
theorem w2 {p : Program} {l : Launch} {e : Env} {s : State} {m : MethodId} {args : Array Value} {below : List Frame} {meth : Method} {c_ : Code} {T0 : State} {locs : List Loc} {Z : State} {a0 : Array Value} {h0 : Heap} {n0 : Nat} (a : Addr)
    (X0 : Stand p l e ({ frames := 1, cells := 0, slots := 0, locals := 12 } : Room) s m args below meth c_ T0 locs 0 0) (hx : p.tables.exec = Jvm.exec) (hZ : Z.Warmed39 s.vm) (hw : ∀ d ∈ tables_1, d.before a0 Z = true) (hby : c_.code = jdk_30_method_1_code) (hml : c_.maxLocals = 1) (hown : s.vm.findClass "java/lang/Record" = some m.cls) (hnm : meth.name = "<init>") (hret : meth.sig.returnType = none) (hlk : meth.locks = false) (e0 : T0.heap = h0) (Z0 : n0 ≤ h0.size) (N0 : Fr n0 locs)  :
    Go p e below s ({ frames := 1, cells := 0, slots := 0, locals := 12 } : Room).cells ({ frames := 1, cells := 0, slots := 0, locals := 12 } : Room).slots (fun r h L => r = none ∧ Fr n0 L ∧ h = h0) T0 (mkF m 0 #[.val (.ref a)] []) := by
  show Go _ _ _ _ _ _ _ T0 (mkF m 0 #[.val (.ref a)] [])
  refine Go.step (fun _ k => XS.aloadN X0.here hx rfl (hb hby d2_0) rfl rfl k) ?_
  show Go _ _ _ _ _ _ _ T0 (mkF m 1 #[.val (.ref a)] [(.ref a)])
  obtain ⟨T1, X1, e1, st1⟩ := initO X0 hx hZ hown (hw _ (mI 13 rfl)) (hw _ (mI 14 rfl)) (hw _ (mI 15 rfl)) e0 (g := (mkF m 1 #[.val (.ref a)] [(.ref a)])) rfl (by rw [hml]; rfl) rfl (hb hby d2_1) (by decide) (W := 0) (by show 2 * 0 + _ ≤ _; exact Nat.le_of_eq rfl) (by decide)
  refine Go.step st1 ?_
  show Go _ _ _ _ _ _ _ T1 (mkF m 4 #[.val (.ref a)] [])
  refine Go.retV X1 hx hlk hret (hb hby d2_4) (by decide) (by decide) ?_
  try rw [e1]
  exact ⟨rfl, N0, rfl⟩
theorem pn_2 : plainName "java/lang/Record" = true := by first | (simp [plainName, overriddenIn]; done) | decide +kernel
theorem ef_rm2 (m : MethodId) (a : Addr) : entryFrame m #[(.ref a)] 1 = mkF m 0 #[.val (.ref a)] [] := by first | (simp [entryFrame, mkF, argsToLocals, Value.category]; done) | rfl
theorem rm2 (l : Launch) (Z : State) (a0 : Array Value) (hw : ∀ d ∈ tables_1, d.before a0 Z = true) (a : Addr) (h0 : Heap) (n0 : Nat) (Z0 : n0 ≤ h0.size)  :
    Con l Z (⟨"java/lang/Record", "<init>", "()V"⟩ : MethodName) jdk_30_method_1_code 1 none ({ frames := 1, cells := 0, slots := 0, locals := 12 } : Room) #[(.ref a)] h0 (fun r h L => r = none ∧ Fr n0 L ∧ h = h0) :=
  con_of (plainFor_of_name pn_2) (fun p_ e_ s_ m_ b_ meth_ c_ T_ X_ hx hZ hby hml hown hnm hret hlk e0 => Go.cast (ef_rm2 m_ a) (w2 a X_ hx hZ hw hby hml hown hnm hret hlk e0 Z0 (Fr.nil n0) ))
theorem d5_0 : decode jdk_117_method_8_code 0 = .ok (.dload_n 0, 1) := by decide +kernel
theorem pd_0 : parseMethodDescriptor "(D)D" = some ⟨[.double], some .double⟩ := by decide +kernel
theorem d5_1 : decode jdk_117_method_8_code 1 = .ok (.invokestatic 38, 3) := by decide +kernel
theorem d5_4 : decode jdk_117_method_8_code 4 = .ok (.ldc2_w 111, 3) := by decide +kernel
theorem d5_7 : decode jdk_117_method_8_code 7 = .ok (.dcmp .g, 1) := by decide +kernel
theorem d5_8 : decode jdk_117_method_8_code 8 = .ok (.ifCond .gt 7, 3) := by decide +kernel
theorem d5_11 : decode jdk_117_method_8_code 11 = .ok (.iconst 1, 1) := by decide +kernel
theorem d5_12 : decode jdk_117_method_8_code 12 = .ok (.goto 4, 3) := by decide +kernel
theorem d5_16 : decode jdk_117_method_8_code 16 = .ok (.ireturn, 1) := by decide +kernel
set_option maxRecDepth 65536 in
set_option maxHeartbeats 40000000 in
theorem w5 {p : Program} {l : Launch} {e : Env} {s : State} {m : MethodId} {args : Array Value} {below : List Frame} {meth : Method} {c_ : Code} {T0 : State} {locs : List Loc} {Z : State} {a0 : Array Value} {h0 : Heap} {n0 : Nat} (v : UInt64)
    (X0 : Stand p l e ({ frames := 1, cells := 0, slots := 0, locals := 13 } : Room) s m args below meth c_ T0 locs 0 0) (hx : p.tables.exec = Jvm.exec) (hZ : Z.Warmed39 s.vm) (hw : ∀ d ∈ tables_1, d.before a0 Z = true) (hby : c_.code = jdk_117_method_8_code) (hml : c_.maxLocals = 2) (hown : s.vm.findClass "java/lang/Double" = some m.cls) (hnm : meth.name = "isFinite") (hret : meth.sig.returnType = some .boolean) (hlk : meth.locks = false) (e0 : T0.heap = h0) (Z0 : n0 ≤ h0.size) (N0 : Fr n0 locs) (hf : Jvm.Free.Fl.Fin64 v) :
    Go p e below s ({ frames := 1, cells := 0, slots := 0, locals := 13 } : Room).cells ({ frames := 1, cells := 0, slots := 0, locals := 13 } : Room).slots (fun r h L => r = some (.int 1) ∧ Fr n0 L ∧ h = h0) T0 (mkF m 0 #[.val (.double v), .second] []) := by
  show Go _ _ _ _ _ _ _ T0 (mkF m 0 #[.val (.double v), .second] [])
  refine Go.step (fun _ k => XS.dloadN X0.here hx rfl (hb hby d5_0) rfl k) ?_
  show Go _ _ _ _ _ _ _ T0 (mkF m 1 #[.val (.double v), .second] [(.double v)])
  obtain ⟨T1, X1, e1, st1⟩ := natS X0 hx hZ (y := (⟨"java/lang/Math", "abs", "(D)D"⟩ : MethodName)) hown (hw _ (mI 31 rfl)) (hw _ (mI 32 rfl)) (hw _ (mI 33 rfl)) (hw _ (mI 34 rfl)) (by decide) e0 (W := 0) (F := fun a' => a' = #[.double v] ∧ Jvm.Free.Fl.NoNaN64 v) (val' := (.double (v &&& 0x7fffffffffffffff))) (fun hc => Jvm.Free.Fl.Abs.absD_pays v hc (by decide) (by decide)) (g := (mkF m 1 #[.val (.double v), .second] [(.double v)])) rfl (by rw [hml]; rfl) (argsL := [(.double v)]) (rest := []) (lenOf pd_0 rfl) rfl (by show 2 * 0 + _ ≤ _; exact Nat.le_of_eq rfl) (hb hby d5_1) (by decide) (by decide) ⟨rfl, hf.noNaN⟩ rfl
  refine Go.step st1 ?_
  show Go _ _ _ _ _ _ _ T1 (mkF m 4 #[.val (.double v), .second] [(.double (v &&& 0x7fffffffffffffff))])
  refine Go.step (X1.ldc2DoubleC hx hown (mvT hZ (hw _ (mI 35 rfl))) (g := (mkF m 4 #[.val (.double v), .second] [(.double (v &&& 0x7fffffffffffffff))])) rfl (hb hby d5_4)) ?_
  show Go _ _ _ _ _ _ _ T1 (mkF m 7 #[.val (.double v), .second] [(.double (9218868437227405311 : UInt64)), (.double (v &&& 0x7fffffffffffffff))])
  refine Go.step (fun _ k => XS.dcmpS X1.here hx rfl (hb hby d5_7) rfl rfl k) ?_
  show Go _ _ _ _ _ _ _ T1 (mkF m 8 #[.val (.double v), .second] [(.int (cmpValue (FP.dcmp (v &&& 0x7fffffffffffffff) (9218868437227405311 : UInt64)) .g))])
  refine Go.step (fun _ k => XS.ifNo X1.here hx rfl (hb hby d5_8) rfl (le_y ((Jvm.FP.Core.le_max (own_Ffin hf).notNaN).mpr (own_Ffin hf))) k) ?_
  show Go _ _ _ _ _ _ _ T1 (mkF m 11 #[.val (.double v), .second] [])
  refine Go.step (fun _ k => XS.iconst X1.here hx rfl (hb hby d5_11) k) ?_
  show Go _ _ _ _ _ _ _ T1 (mkF m 12 #[.val (.double v), .second] [(.int (1 : Int32))])
  refine Go.step (fun _ k => XS.goto X1.here hx rfl (pc0 := 12) (pc' := 16) rfl (hb hby d5_12) (by decide) (by decide) k) ?_
  show Go _ _ _ _ _ _ _ T1 (mkF m 16 #[.val (.double v), .second] [(.int (1 : Int32))])
  refine Go.retZ X1 hx hlk hret (by decide) (hb hby d5_16) (by decide) (by decide) ?_
  try rw [e1]
  exact ⟨rfl, N0, rfl⟩
theorem pn_5 : plainName "java/lang/Double" = true := by first | (simp [plainName, overriddenIn]; done) | decide +kernel
theorem ef_rm5 (m : MethodId) (v : UInt64) : entryFrame m #[(.double v)] 2 = mkF m 0 #[.val (.double v), .second] [] := by first | (simp [entryFrame, mkF, argsToLocals, Value.category]; done) | rfl
theorem rm5 (l : Launch) (Z : State) (a0 : Array Value) (hw : ∀ d ∈ tables_1, d.before a0 Z = true) (v : UInt64) (h0 : Heap) (n0 : Nat) (Z0 : n0 ≤ h0.size) (hf : Jvm.Free.Fl.Fin64 v) :
    Con l Z (⟨"java/lang/Double", "isFinite", "(D)Z"⟩ : MethodName) jdk_117_method_8_code 2 (some .boolean) ({ frames := 1, cells := 0, slots := 0, locals := 13 } : Room) #[(.double v)] h0 (fun r h L => r = some (.int 1) ∧ Fr n0 L ∧ h = h0) :=
  con_of (plainFor_of_name pn_5) (fun p_ e_ s_ m_ b_ meth_ c_ T_ X_ hx hZ hby hml hown hnm hret hlk e0 => Go.cast (ef_rm5 m_ v) (w5 v X_ hx hZ hw hby hml hown hnm hret hlk e0 Z0 (Fr.nil n0) hf))
theorem d4_0 : decode prog_18_method_4_code 0 = .ok (.dload_n 1, 1) := by decide +kernel
theorem d4_1 : decode prog_18_method_4_code 1 = .ok (.invokestatic 28, 3) := by decide +kernel
theorem pd_1 : parseMethodDescriptor "(D)Z" = some ⟨[.double], some .boolean⟩ := by decide +kernel
theorem d4_4 : decode prog_18_method_4_code 4 = .ok (.ifCond .eq 9, 3) := by decide +kernel
theorem d4_7 : decode prog_18_method_4_code 7 = .ok (.dload_n 1, 1) := by decide +kernel
theorem d4_8 : decode prog_18_method_4_code 8 = .ok (.dconst 0, 1) := by decide +kernel
theorem d4_9 : decode prog_18_method_4_code 9 = .ok (.dcmp .l, 1) := by decide +kernel
theorem d4_10 : decode prog_18_method_4_code 10 = .ok (.ifCond .ge 34, 3) := by decide +kernel
theorem d4_44 : decode prog_18_method_4_code 44 = .ok (.return_, 1) := by decide +kernel
set_option maxRecDepth 65536 in
set_option maxHeartbeats 40000000 in
theorem w4 {p : Program} {l : Launch} {e : Env} {s : State} {m : MethodId} {args : Array Value} {below : List Frame} {meth : Method} {c_ : Code} {T0 : State} {locs : List Loc} {Z : State} {a0 : Array Value} {h0 : Heap} {n0 : Nat} (a : Addr) (v : UInt64)
    (X0 : Stand p l e ({ frames := 2, cells := 0, slots := 0, locals := 40 } : Room) s m args below meth c_ T0 locs 0 0) (hx : p.tables.exec = Jvm.exec) (hZ : Z.Warmed39 s.vm) (hw : ∀ d ∈ tables_1, d.before a0 Z = true) (hby : c_.code = prog_18_method_4_code) (hml : c_.maxLocals = 3) (hown : s.vm.findClass "com/example/headroom/headroom/PriceSheet" = some m.cls) (hnm : meth.name = "requirePrice") (hret : meth.sig.returnType = none) (hlk : meth.locks = false) (e0 : T0.heap = h0) (Z0 : n0 ≤ h0.size) (N0 : Fr n0 locs) (hf : Jvm.Free.Fl.Fin64 v) (hge : FP.dcmp v (0 : UInt64) = some .gt ∨ FP.dcmp v (0 : UInt64) = some .eq) :
    Go p e below s ({ frames := 2, cells := 0, slots := 0, locals := 40 } : Room).cells ({ frames := 2, cells := 0, slots := 0, locals := 40 } : Room).slots (fun r h L => r = none ∧ Fr n0 L ∧ h = h0) T0 (mkF m 0 #[.val (.ref a), .val (.double v), .second] []) := by
  show Go _ _ _ _ _ _ _ T0 (mkF m 0 #[.val (.ref a), .val (.double v), .second] [])
  refine Go.step (fun _ k => XS.dloadN X0.here hx rfl (hb hby d4_0) rfl k) ?_
  show Go _ _ _ _ _ _ _ T0 (mkF m 1 #[.val (.ref a), .val (.double v), .second] [(.double v)])
  refine Go.callS X0 hx hZ (by rw [hml]; rfl) (y := (⟨"java/lang/Double", "isFinite", "(D)Z"⟩ : MethodName)) (argsL := [(.double v)]) (rest := []) hown (hw _ (mI 27 rfl)) (hw _ (mI 28 rfl)) (hw _ (mI 29 rfl)) (hw _ (mI 30 rfl)) (by decide) (rm5 l Z a0 hw v h0 n0 Z0 hf) e0 (hb hby d4_1) (lenOf pd_1 rfl) rfl rfl (W := 0) (Nat.le_of_eq rfl) (by decide) (by decide) (by decide) (by decide) ?_
  intro v1 T1 L1 X1 Q1
  obtain ⟨rfl, N1q, hh1⟩ := Q1
  have N1 := Fr.app N0 N1q
  show Go _ _ _ _ _ _ _ T1 (mkF m 4 #[.val (.ref a), .val (.double v), .second] [(.int (1 : Int32))])
  refine Go.step (fun _ k => XS.ifNo X1.here hx rfl (hb hby d4_4) rfl ((if0 _ _).trans (feq (by decide : ¬ ((1 : Int32) = (0 : Int32)))).1) k) ?_
  show Go _ _ _ _ _ _ _ T1 (mkF m 7 #[.val (.ref a), .val (.double v), .second] [])
  refine Go.step (fun _ k => XS.dloadN X1.here hx rfl (hb hby d4_7) rfl k) ?_
  show Go _ _ _ _ _ _ _ T1 (mkF m 8 #[.val (.ref a), .val (.double v), .second] [(.double v)])
  refine Go.step (fun _ k => XS.dconst0 X1.here hx rfl (hb hby d4_8) rfl k) ?_
  show Go _ _ _ _ _ _ _ T1 (mkF m 9 #[.val (.ref a), .val (.double v), .second] [(.double (0 : UInt64)), (.double v)])
  refine Go.step (fun _ k => XS.dcmpS X1.here hx rfl (hb hby d4_9) rfl rfl k) ?_
  show Go _ _ _ _ _ _ _ T1 (mkF m 10 #[.val (.ref a), .val (.double v), .second] [(.int (cmpValue (FP.dcmp v (0 : UInt64)) .l))])
  refine Go.step (fun _ k => XS.ifYes X1.here hx rfl (pc0 := 10) (pc' := 44) rfl (hb hby d4_10) rfl (geT_y hge) (by decide) (by decide) k) ?_
  show Go _ _ _ _ _ _ _ T1 (mkF m 44 #[.val (.ref a), .val (.double v), .second] [])
  refine Go.retV X1 hx hlk hret (hb hby d4_44) (by decide) (by decide) ?_
  try rw [hh1]
  exact ⟨rfl, N1, rfl⟩
theorem pn_4 : plainName "com/example/headroom/headroom/PriceSheet" = true := by first | (simp [plainName, overriddenIn]; done) | decide +kernel
theorem ef_rm4 (m : MethodId) (a : Addr) (v : UInt64) : entryFrame m #[(.ref a), (.double v)] 3 = mkF m 0 #[.val (.ref a), .val (.double v), .second] [] := by first | (simp [entryFrame, mkF, argsToLocals, Value.category]; done) | rfl
theorem rm4 (l : Launch) (Z : State) (a0 : Array Value) (hw : ∀ d ∈ tables_1, d.before a0 Z = true) (a : Addr) (v : UInt64) (h0 : Heap) (n0 : Nat) (Z0 : n0 ≤ h0.size) (hf : Jvm.Free.Fl.Fin64 v) (hge : FP.dcmp v (0 : UInt64) = some .gt ∨ FP.dcmp v (0 : UInt64) = some .eq) :
    Con l Z (⟨"com/example/headroom/headroom/PriceSheet", "requirePrice", "(Ljava/lang/String;D)V"⟩ : MethodName) prog_18_method_4_code 3 none ({ frames := 2, cells := 0, slots := 0, locals := 40 } : Room) #[(.ref a), (.double v)] h0 (fun r h L => r = none ∧ Fr n0 L ∧ h = h0) :=
  con_of (plainFor_of_name pn_4) (fun p_ e_ s_ m_ b_ meth_ c_ T_ X_ hx hZ hby hml hown hnm hret hlk e0 => Go.cast (ef_rm4 m_ a v) (w4 a v X_ hx hZ hw hby hml hown hnm hret hlk e0 Z0 (Fr.nil n0) hf hge))
theorem d1_0 : decode prog_18_method_1_code 0 = .ok (.aload_n 0, 1) := by decide +kernel
theorem d1_1 : decode prog_18_method_1_code 1 = .ok (.invokespecial 1, 3) := by decide +kernel
theorem pd_2 : parseMethodDescriptor "()V" = some ⟨[], none⟩ := by decide +kernel
theorem d1_4 : decode prog_18_method_1_code 4 = .ok (.ldc 7, 2) := by decide +kernel
theorem d1_6 : decode prog_18_method_1_code 6 = .ok (.dload_n 1, 1) := by decide +kernel
theorem d1_7 : decode prog_18_method_1_code 7 = .ok (.invokestatic 9, 3) := by decide +kernel
theorem pd_3 : parseMethodDescriptor "(Ljava/lang/String;D)V" = some ⟨[(.object "java/lang/String"), .double], none⟩ := by decide +kernel
theorem d1_10 : decode prog_18_method_1_code 10 = .ok (.ldc 15, 2) := by decide +kernel
theorem d1_12 : decode prog_18_method_1_code 12 = .ok (.dload_n 3, 1) := by decide +kernel
theorem d1_13 : decode prog_18_method_1_code 13 = .ok (.invokestatic 9, 3) := by decide +kernel
theorem d1_16 : decode prog_18_method_1_code 16 = .ok (.aload_n 0, 1) := by decide +kernel
theorem d1_17 : decode prog_18_method_1_code 17 = .ok (.dload_n 1, 1) := by decide +kernel
theorem d1_18 : decode prog_18_method_1_code 18 = .ok (.putfield 17, 3) := by decide +kernel
theorem d1_21 : decode prog_18_method_1_code 21 = .ok (.aload_n 0, 1) := by decide +kernel
theorem d1_22 : decode prog_18_method_1_code 22 = .ok (.dload_n 3, 1) := by decide +kernel
theorem d1_23 : decode prog_18_method_1_code 23 = .ok (.putfield 21, 3) := by decide +kernel
theorem d1_26 : decode prog_18_method_1_code 26 = .ok (.return_, 1) := by decide +kernel
set_option maxRecDepth 65536 in
set_option maxHeartbeats 40000000 in
theorem w1 {p : Program} {l : Launch} {e : Env} {s : State} {m : MethodId} {args : Array Value} {below : List Frame} {meth : Method} {c_ : Code} {T0 : State} {locs : List Loc} {Z : State} {a0 : Array Value} {h0 : Heap} {n0 : Nat} (a : Addr) (x1 : UInt64) (x2 : UInt64)
    (X0 : Stand p l e ({ frames := 4, cells := 4, slots := 84, locals := 80 } : Room) s m args below meth c_ T0 locs 0 0) (hx : p.tables.exec = Jvm.exec) (hZ : Z.Warmed39 s.vm) (hw : ∀ d ∈ tables_1, d.before a0 Z = true) (hby : c_.code = prog_18_method_1_code) (hml : c_.maxLocals = 5) (hown : s.vm.findClass "com/example/headroom/headroom/PriceSheet" = some m.cls) (hnm : meth.name = "<init>") (hret : meth.sig.returnType = none) (hlk : meth.locks = false) (e0 : T0.heap = h0) (Z0 : n0 ≤ h0.size) (N0 : Fr n0 locs) (E_a : Exa Z h0 a "com/example/headroom/headroom/PriceSheet") (F_setupCost_a : Fld Z h0 a "com/example/headroom/headroom/PriceSheet" "setupCost" "D" (.double (0 : UInt64))) (F_unitCost_a : Fld Z h0 a "com/example/headroom/headroom/PriceSheet" "unitCost" "D" (.double (0 : UInt64))) (ge_a : n0 ≤ a) (hf1 : Jvm.Free.Fl.Fin64 x1) (hg1 : FP.dcmp x1 (0 : UInt64) = some .gt ∨ FP.dcmp x1 (0 : UInt64) = some .eq) (hf2 : Jvm.Free.Fl.Fin64 x2) (hg2 : FP.dcmp x2 (0 : UInt64) = some .gt ∨ FP.dcmp x2 (0 : UInt64) = some .eq) :
    GoW p e below s ({ frames := 4, cells := 4, slots := 84, locals := 80 } : Room).cells ({ frames := 4, cells := 4, slots := 84, locals := 80 } : Room).slots (fun r h L => r = none ∧ Fr n0 L ∧ Keep h0 h [a] ∧ Exa Z h a "com/example/headroom/headroom/PriceSheet" ∧ Fld Z h a "com/example/headroom/headroom/PriceSheet" "setupCost" "D" (.double x1) ∧ Fld Z h a "com/example/headroom/headroom/PriceSheet" "unitCost" "D" (.double x2)) T0 (mkF m 0 #[.val (.ref a), .val (.double x1), .second, .val (.double x2), .second] []) := by
  have X0 : Stand p l e ({ frames := 4, cells := 4, slots := 84, locals := 80 } : Room) (s.setVm s.vm) m args below meth c_ T0 locs 0 0 := X0
  have hS : s.Since s.vm h0.size := (State.WarmedH.refl s).since _
  have hk : Szk h0.size h0 := Nat.le_refl _
  have hZ : Z.Warmed39 (s.setVm s.vm).vm := hZ
  have hown : (s.setVm s.vm).vm.findClass "com/example/headroom/headroom/PriceSheet" = some m.cls := hown
  show GoW _ _ _ _ _ _ _ T0 (mkF m 0 #[.val (.ref a), .val (.double x1), .second, .val (.double x2), .second] [])
  refine GoW.step (fun _ k => XS.aloadN X0.here hx rfl (hb hby d1_0) rfl rfl k) ?_
  show GoW _ _ _ _ _ _ _ T0 (mkF m 1 #[.val (.ref a), .val (.double x1), .second, .val (.double x2), .second] [(.ref a)])
  refine GoW.callI X0 hx hZ (by rw [hml]; rfl) (y := (⟨"java/lang/Record", "<init>", "()V"⟩ : MethodName)) (a := a) (argsL := []) (rest := []) rfl hown (hw _ (mI 8 rfl)) (hw _ (mI 9 rfl)) (hw _ (mI 11 rfl)) (hw _ (mI 12 rfl)) (by decide) (rm2 l Z a0 hw a h0 n0 Z0) e0 (hb hby d1_1) (lenOf pd_2 rfl) rfl rfl (W := 0) (Nat.le_of_eq rfl) (by decide) (by decide) (by decide) (by decide) ?_
  intro v1 T1 L1 X1 Q1
  obtain ⟨rfl, N1q, hh1⟩ := Q1
  have N1 := Fr.app N0 N1q
  show GoW _ _ _ _ _ _ _ T1 (mkF m 4 #[.val (.ref a), .val (.double x1), .second, .val (.double x2), .second] [])
  obtain ⟨b2, T2, h2, kk2, X2, e2, E2, hS, hk_2, hZ, hown, st2⟩ := ldcS X1 hx hZ hown (hw _ (mI 16 rfl)) (own_wS hw) hh1 hS hk (g := (mkF m 4 #[.val (.ref a), .val (.double x1), .second, .val (.double x2), .second] [])) rfl (hb hby d1_4) (n := 40) (by decide) (by decide) (by decide) (by decide)
  have hk_2 : Szk kk2 h2 := hk_2
  refine GoW.step st2 ?_
  have K2 : Keep h0 h2 [a] := (Keep.refl h0 [a]).ext E2
  have E_a_2 := E_a.ext E2
  have F_setupCost_a_2 := F_setupCost_a.ext E2
  have F_unitCost_a_2 := F_unitCost_a.ext E2
  show GoW _ _ _ _ _ _ _ T2 (mkF m 6 #[.val (.ref a), .val (.double x1), .second, .val (.double x2), .second] [(.ref b2)])
  refine GoW.step (fun _ k => XS.dloadN X2.here hx rfl (hb hby d1_6) rfl k) ?_
  show GoW _ _ _ _ _ _ _ T2 (mkF m 7 #[.val (.ref a), .val (.double x1), .second, .val (.double x2), .second] [(.double x1), (.ref b2)])
  refine GoW.callS X2 hx hZ (by rw [hml]; rfl) (y := (⟨"com/example/headroom/headroom/PriceSheet", "requirePrice", "(Ljava/lang/String;D)V"⟩ : MethodName)) (argsL := [(.ref b2), (.double x1)]) (rest := []) hown (hw _ (mI 24 rfl)) (hw _ (mI 25 rfl)) (hw _ (mI 4 rfl)) (hw _ (mI 26 rfl)) (by decide) (rm4 l Z a0 hw b2 x1 h2 n0 (Nat.le_trans Z0 (K2 : Keep h0 h2 [a]).1) hf1 hg1) e2 (hb hby d1_7) (lenOf pd_3 rfl) rfl rfl (W := 0) (Nat.le_of_eq rfl) (by decide) (by decide) (by decide) (by decide) ?_
  intro v3 T3 L3 X3 Q3
  obtain ⟨rfl, N3q, hh3⟩ := Q3
  have N3 := Fr.app N1 N3q
  show GoW _ _ _ _ _ _ _ T3 (mkF m 10 #[.val (.ref a), .val (.double x1), .second, .val (.double x2), .second] [])
  obtain ⟨b4, T4, h4, kk4, X4, e4, E4, hS, hk_4, hZ, hown, st4⟩ := ldcS X3 hx hZ hown (hw _ (mI 36 rfl)) (own_wS hw) hh3 hS hk_2 (g := (mkF m 10 #[.val (.ref a), .val (.double x1), .second, .val (.double x2), .second] [])) rfl (hb hby d1_10) (n := 36) (by decide) (by decide) (by decide) (by decide)
  have hk_4 : Szk kk4 h4 := hk_4
  refine GoW.step st4 ?_
  have K4 : Keep h0 h4 [a] := K2.ext E4
  have E_a_4 := E_a_2.ext E4
  have F_setupCost_a_4 := F_setupCost_a_2.ext E4
  have F_unitCost_a_4 := F_unitCost_a_2.ext E4
  show GoW _ _ _ _ _ _ _ T4 (mkF m 12 #[.val (.ref a), .val (.double x1), .second, .val (.double x2), .second] [(.ref b4)])
  refine GoW.step (fun _ k => XS.dloadN X4.here hx rfl (hb hby d1_12) rfl k) ?_
  show GoW _ _ _ _ _ _ _ T4 (mkF m 13 #[.val (.ref a), .val (.double x1), .second, .val (.double x2), .second] [(.double x2), (.ref b4)])
  refine GoW.callS X4 hx hZ (by rw [hml]; rfl) (y := (⟨"com/example/headroom/headroom/PriceSheet", "requirePrice", "(Ljava/lang/String;D)V"⟩ : MethodName)) (argsL := [(.ref b4), (.double x2)]) (rest := []) hown (hw _ (mI 24 rfl)) (hw _ (mI 25 rfl)) (hw _ (mI 4 rfl)) (hw _ (mI 26 rfl)) (by decide) (rm4 l Z a0 hw b4 x2 h4 n0 (Nat.le_trans Z0 (K4 : Keep h0 h4 [a]).1) hf2 hg2) e4 (hb hby d1_13) (lenOf pd_3 rfl) rfl rfl (W := 0) (Nat.le_of_eq rfl) (by decide) (by decide) (by decide) (by decide) ?_
  intro v5 T5 L5 X5 Q5
  obtain ⟨rfl, N5q, hh5⟩ := Q5
  have N5 := Fr.app N3 N5q
  show GoW _ _ _ _ _ _ _ T5 (mkF m 16 #[.val (.ref a), .val (.double x1), .second, .val (.double x2), .second] [])
  refine GoW.step (fun _ k => XS.aloadN X5.here hx rfl (hb hby d1_16) rfl rfl k) ?_
  show GoW _ _ _ _ _ _ _ T5 (mkF m 17 #[.val (.ref a), .val (.double x1), .second, .val (.double x2), .second] [(.ref a)])
  refine GoW.step (fun _ k => XS.dloadN X5.here hx rfl (hb hby d1_17) rfl k) ?_
  show GoW _ _ _ _ _ _ _ T5 (mkF m 18 #[.val (.ref a), .val (.double x1), .second, .val (.double x2), .second] [(.double x1), (.ref a)])
  obtain ⟨T6, h6, X6, e6, W6, st6⟩ := putF X5 hx hZ hown (host := "") (Or.inl (hw _ (mI 37 rfl))) Via.refl hh5 F_setupCost_a_4 E_a_4 (Or.inr ⟨(hw _ (mI 38 rfl)), rfl, hnm⟩) (hw _ (mI 3 rfl)) (ty := .double) (by decide) rfl rfl (g := (mkF m 18 #[.val (.ref a), .val (.double x1), .second, .val (.double x2), .second] [(.double x1), (.ref a)])) rfl rfl (hb hby d1_18)
  refine GoW.step st6 ?_
  have N6 := Fr.snoc X6 N5 ge_a
  have F_setupCost_a_6 := F_setupCost_a_4.same W6
  have E_a_6 := E_a_4.wr W6
  have F_unitCost_a_6 := F_unitCost_a_4.other W6 (Or.inr (slot_ne (Or.inr (hw _ (mI 40 rfl))) (Or.inr (hw _ (mI 38 rfl))) (by decide) (t := .double) (t' := .double) (by decide) (by decide)))
  have hk_6 := hk_4.wr W6
  have K6 : Keep h0 h6 [a] := K4.wr W6 (Or.inl (List.mem_of_getElem? (i := 0) rfl))
  show GoW _ _ _ _ _ _ _ T6 (mkF m 21 #[.val (.ref a), .val (.double x1), .second, .val (.double x2), .second] [])
  refine GoW.step (fun _ k => XS.aloadN X6.here hx rfl (hb hby d1_21) rfl rfl k) ?_
  show GoW _ _ _ _ _ _ _ T6 (mkF m 22 #[.val (.ref a), .val (.double x1), .second, .val (.double x2), .second] [(.ref a)])
  refine GoW.step (fun _ k => XS.dloadN X6.here hx rfl (hb hby d1_22) rfl k) ?_
  show GoW _ _ _ _ _ _ _ T6 (mkF m 23 #[.val (.ref a), .val (.double x1), .second, .val (.double x2), .second] [(.double x2), (.ref a)])
  obtain ⟨T7, h7, X7, e7, W7, st7⟩ := putF X6 hx hZ hown (host := "") (Or.inl (hw _ (mI 39 rfl))) Via.refl e6 F_unitCost_a_6 E_a_6 (Or.inr ⟨(hw _ (mI 40 rfl)), rfl, hnm⟩) (hw _ (mI 3 rfl)) (ty := .double) (by decide) rfl rfl (g := (mkF m 23 #[.val (.ref a), .val (.double x1), .second, .val (.double x2), .second] [(.double x2), (.ref a)])) rfl rfl (hb hby d1_23)
  refine GoW.step st7 ?_
  have N7 := Fr.snoc X7 N6 ge_a
  have F_unitCost_a_7 := F_unitCost_a_6.same W7
  have E_a_7 := E_a_6.wr W7
  have F_setupCost_a_7 := F_setupCost_a_6.other W7 (Or.inr (slot_ne (Or.inr (hw _ (mI 38 rfl))) (Or.inr (hw _ (mI 40 rfl))) (by decide) (t := .double) (t' := .double) (by decide) (by decide)))
  have hk_7 := hk_6.wr W7
  have K7 : Keep h0 h7 [a] := K6.wr W7 (Or.inl (List.mem_of_getElem? (i := 0) rfl))
  show GoW _ _ _ _ _ _ _ T7 (mkF m 26 #[.val (.ref a), .val (.double x1), .second, .val (.double x2), .second] [])
  refine GoW.retV X7 hS hk_7 e7 hx hlk hret (hb hby d1_26) (by decide) (by decide) ?_
  try rw [e7]
  exact ⟨rfl, N7, K7, E_a_7, F_setupCost_a_7, F_unitCost_a_7⟩
theorem ef_rm1 (m : MethodId) (a : Addr) (x1 : UInt64) (x2 : UInt64) : entryFrame m #[(.ref a), (.double x1), (.double x2)] 5 = mkF m 0 #[.val (.ref a), .val (.double x1), .second, .val (.double x2), .second] [] := by first | (simp [entryFrame, mkF, argsToLocals, Value.category]; done) | rfl
theorem rm1 (l : Launch) (Z : State) (a0 : Array Value) (hw : ∀ d ∈ tables_1, d.before a0 Z = true) (a : Addr) (x1 : UInt64) (x2 : UInt64) (h0 : Heap) (n0 : Nat) (Z0 : n0 ≤ h0.size) (E_a : Exa Z h0 a "com/example/headroom/headroom/PriceSheet") (F_setupCost_a : Fld Z h0 a "com/example/headroom/headroom/PriceSheet" "setupCost" "D" (.double (0 : UInt64))) (F_unitCost_a : Fld Z h0 a "com/example/headroom/headroom/PriceSheet" "unitCost" "D" (.double (0 : UInt64))) (ge_a : n0 ≤ a) (hf1 : Jvm.Free.Fl.Fin64 x1) (hg1 : FP.dcmp x1 (0 : UInt64) = some .gt ∨ FP.dcmp x1 (0 : UInt64) = some .eq) (hf2 : Jvm.Free.Fl.Fin64 x2) (hg2 : FP.dcmp x2 (0 : UInt64) = some .gt ∨ FP.dcmp x2 (0 : UInt64) = some .eq) :
    ConW l Z (⟨"com/example/headroom/headroom/PriceSheet", "<init>", "(DD)V"⟩ : MethodName) prog_18_method_1_code 5 none ({ frames := 4, cells := 4, slots := 84, locals := 80 } : Room) #[(.ref a), (.double x1), (.double x2)] h0 (fun r h L => r = none ∧ Fr n0 L ∧ Keep h0 h [a] ∧ Exa Z h a "com/example/headroom/headroom/PriceSheet" ∧ Fld Z h a "com/example/headroom/headroom/PriceSheet" "setupCost" "D" (.double x1) ∧ Fld Z h a "com/example/headroom/headroom/PriceSheet" "unitCost" "D" (.double x2)) :=
  con_ofW (plainFor_of_name pn_4) (fun p_ e_ s_ m_ b_ meth_ c_ T_ X_ hx hZ hby hml hown hnm hret hlk e0 => GoW.cast (ef_rm1 m_ a x1 x2) (w1 a x1 x2 X_ hx hZ hw hby hml hown hnm hret hlk e0 Z0 (Fr.nil n0) E_a F_setupCost_a F_unitCost_a ge_a hf1 hg1 hf2 hg2))
theorem d7_0 : decode prog_18_method_3_code 0 = .ok (.dload_n 2, 1) := by decide +kernel
theorem d7_1 : decode prog_18_method_3_code 1 = .ok (.dconst 0, 1) := by decide +kernel
theorem d7_2 : decode prog_18_method_3_code 2 = .ok (.dcmp .l, 1) := by decide +kernel
theorem d7_3 : decode prog_18_method_3_code 3 = .ok (.ifCond .le 15, 3) := by decide +kernel
theorem d7_6 : decode prog_18_method_3_code 6 = .ok (.aload_n 0, 1) := by decide +kernel
theorem d7_7 : decode prog_18_method_3_code 7 = .ok (.getfield 21, 3) := by decide +kernel
theorem d7_10 : decode prog_18_method_3_code 10 = .ok (.iload_n 1, 1) := by decide +kernel
theorem d7_11 : decode prog_18_method_3_code 11 = .ok (.i2d, 1) := by decide +kernel
theorem d7_12 : decode prog_18_method_3_code 12 = .ok (.dmul, 1) := by decide +kernel
theorem d7_13 : decode prog_18_method_3_code 13 = .ok (.dload_n 2, 1) := by decide +kernel
theorem d7_14 : decode prog_18_method_3_code 14 = .ok (.dmul, 1) := by decide +kernel
theorem d7_15 : decode prog_18_method_3_code 15 = .ok (.goto 4, 3) := by decide +kernel
theorem d7_19 : decode prog_18_method_3_code 19 = .ok (.dreturn, 1) := by decide +kernel
theorem d7_18 : decode prog_18_method_3_code 18 = .ok (.dconst 0, 1) := by decide +kernel
set_option maxRecDepth 65536 in
set_option maxHeartbeats 40000000 in
theorem w7 {p : Program} {l : Launch} {e : Env} {s : State} {m : MethodId} {args : Array Value} {below : List Frame} {meth : Method} {c_ : Code} {T0 : State} {locs : List Loc} {Z : State} {a0 : Array Value} {h0 : Heap} {n0 : Nat} (a : Addr) (n : Int32) (lv u : UInt64)
    (X0 : Stand p l e ({ frames := 0, cells := 0, slots := 0, locals := 0 } : Room) s m args below meth c_ T0 locs 0 0) (hx : p.tables.exec = Jvm.exec) (hZ : Z.Warmed39 s.vm) (hw : ∀ d ∈ tables_1, d.before a0 Z = true) (hby : c_.code = prog_18_method_3_code) (hml : c_.maxLocals = 4) (hown : s.vm.findClass "com/example/headroom/headroom/PriceSheet" = some m.cls) (hnm : meth.name = "reservedCost") (hret : meth.sig.returnType = some .double) (hlk : meth.locks = false) (e0 : T0.heap = h0) (Z0 : n0 ≤ h0.size) (N0 : Fr n0 locs) (F_unitCost_a : Fld Z h0 a "com/example/headroom/headroom/PriceSheet" "unitCost" "D" (.double u)) (hu : Jvm.Free.Fl.Fin64 u) (hl : Jvm.Free.Fl.Fin64 lv) :
    Go p e below s ({ frames := 0, cells := 0, slots := 0, locals := 0 } : Room).cells ({ frames := 0, cells := 0, slots := 0, locals := 0 } : Room).slots (fun r h L => r = some (.double (resW u n lv)) ∧ Fr n0 L ∧ h = h0) T0 (mkF m 0 #[.val (.ref a), .val (.int n), .val (.double lv), .second] []) := by
  show Go _ _ _ _ _ _ _ T0 (mkF m 0 #[.val (.ref a), .val (.int n), .val (.double lv), .second] [])
  refine Go.step (fun _ k => XS.dloadN X0.here hx rfl (hb hby d7_0) rfl k) ?_
  show Go _ _ _ _ _ _ _ T0 (mkF m 1 #[.val (.ref a), .val (.int n), .val (.double lv), .second] [(.double lv)])
  refine Go.step (fun _ k => XS.dconst0 X0.here hx rfl (hb hby d7_1) rfl k) ?_
  show Go _ _ _ _ _ _ _ T0 (mkF m 2 #[.val (.ref a), .val (.int n), .val (.double lv), .second] [(.double (0 : UInt64)), (.double lv)])
  refine Go.step (fun _ k => XS.dcmpS X0.here hx rfl (hb hby d7_2) rfl rfl k) ?_
  show Go _ _ _ _ _ _ _ T0 (mkF m 3 #[.val (.ref a), .val (.int n), .val (.double lv), .second] [(.int (cmpValue (FP.dcmp lv (0 : UInt64)) .l))])
  by_cases hd3_1 : FP.dcmp lv (0 : UInt64) = some .gt
  · refine Go.step (fun _ k => XS.ifNo X0.here hx rfl (hb hby d7_3) rfl (gt_y hd3_1) k) ?_
    show Go _ _ _ _ _ _ _ T0 (mkF m 6 #[.val (.ref a), .val (.int n), .val (.double lv), .second] [])
    refine Go.step (fun _ k => XS.aloadN X0.here hx rfl (hb hby d7_6) rfl rfl k) ?_
    show Go _ _ _ _ _ _ _ T0 (mkF m 7 #[.val (.ref a), .val (.int n), .val (.double lv), .second] [(.ref a)])
    obtain ⟨T2, X2, e2, st2⟩ := getF X0 hx hZ hown (host := "") (Or.inl (hw _ (mI 39 rfl))) Via.refl e0 F_unitCost_a (g := (mkF m 7 #[.val (.ref a), .val (.int n), .val (.double lv), .second] [(.ref a)])) rfl rfl (hb hby d7_7)
    refine Go.step st2 ?_
    show Go _ _ _ _ _ _ _ T2 (mkF m 10 #[.val (.ref a), .val (.int n), .val (.double lv), .second] [(.double u)])
    refine Go.step (fun _ k => XS.iloadN X2.here hx rfl (hb hby d7_10) rfl k) ?_
    show Go _ _ _ _ _ _ _ T2 (mkF m 11 #[.val (.ref a), .val (.int n), .val (.double lv), .second] [(.int n), (.double u)])
    refine Go.step (fun _ k => XS.i2dS X2.here hx rfl (hb hby d7_11) rfl rfl k) ?_
    show Go _ _ _ _ _ _ _ T2 (mkF m 12 #[.val (.ref a), .val (.int n), .val (.double lv), .second] [(.double (FP.i2d n)), (.double u)])
    refine Go.step (fun _ k => XS.dmulS X2.here hx rfl (hb hby d7_12) rfl (Jvm.Free.Fl.dmul_out hu (Jvm.Free.Fl.i2d_fin _)) rfl k) ?_
    show Go _ _ _ _ _ _ _ T2 (mkF m 13 #[.val (.ref a), .val (.int n), .val (.double lv), .second] [(.double (FP.dmul u (FP.i2d n)))])
    refine Go.step (fun _ k => XS.dloadN X2.here hx rfl (hb hby d7_13) rfl k) ?_
    show Go _ _ _ _ _ _ _ T2 (mkF m 14 #[.val (.ref a), .val (.int n), .val (.double lv), .second] [(.double lv), (.double (FP.dmul u (FP.i2d n)))])
    refine Go.step (fun _ k => XS.dmulS X2.here hx rfl (hb hby d7_14) rfl (Jvm.Free.Fl.dmul_outNz (Jvm.Free.Fl.dmul_out hu (Jvm.Free.Fl.i2d_fin _)) hl (own_nzgt hd3_1)) rfl k) ?_
    show Go _ _ _ _ _ _ _ T2 (mkF m 15 #[.val (.ref a), .val (.int n), .val (.double lv), .second] [(.double (FP.dmul (FP.dmul u (FP.i2d n)) lv))])
    refine Go.step (fun _ k => XS.goto X2.here hx rfl (pc0 := 15) (pc' := 19) rfl (hb hby d7_15) (by decide) (by decide) k) ?_
    show Go _ _ _ _ _ _ _ T2 (mkF m 19 #[.val (.ref a), .val (.int n), .val (.double lv), .second] [(.double (FP.dmul (FP.dmul u (FP.i2d n)) lv))])
    refine Go.retD X2 hx hlk hret (hb hby d7_19) (by decide) (by decide) ?_
    try rw [e2]
    exact ⟨by simp only [resW]; rw [if_pos hd3_1], N0, rfl⟩
  · refine Go.step (fun _ k => XS.ifYes X0.here hx rfl (pc0 := 3) (pc' := 18) rfl (hb hby d7_3) rfl (gt_n hd3_1) (by decide) (by decide) k) ?_
    show Go _ _ _ _ _ _ _ T0 (mkF m 18 #[.val (.ref a), .val (.int n), .val (.double lv), .second] [])
    refine Go.step (fun _ k => XS.dconst0 X0.here hx rfl (hb hby d7_18) rfl k) ?_
    show Go _ _ _ _ _ _ _ T0 (mkF m 19 #[.val (.ref a), .val (.int n), .val (.double lv), .second] [(.double (0 : UInt64))])
    refine Go.retD X0 hx hlk hret (hb hby d7_19) (by decide) (by decide) ?_
    try rw [e0]
    exact ⟨by simp only [resW]; rw [if_neg hd3_1], N0, rfl⟩
theorem ef_rm7 (m : MethodId) (a : Addr) (n : Int32) (lv : UInt64) : entryFrame m #[(.ref a), (.int n), (.double lv)] 4 = mkF m 0 #[.val (.ref a), .val (.int n), .val (.double lv), .second] [] := by first | (simp [entryFrame, mkF, argsToLocals, Value.category]; done) | rfl
theorem rm7 (l : Launch) (Z : State) (a0 : Array Value) (hw : ∀ d ∈ tables_1, d.before a0 Z = true) (a : Addr) (n : Int32) (lv u : UInt64) (h0 : Heap) (n0 : Nat) (Z0 : n0 ≤ h0.size) (F_unitCost_a : Fld Z h0 a "com/example/headroom/headroom/PriceSheet" "unitCost" "D" (.double u)) (hu : Jvm.Free.Fl.Fin64 u) (hl : Jvm.Free.Fl.Fin64 lv) :
    Con l Z (⟨"com/example/headroom/headroom/PriceSheet", "reservedCost", "(ID)D"⟩ : MethodName) prog_18_method_3_code 4 (some .double) ({ frames := 0, cells := 0, slots := 0, locals := 0 } : Room) #[(.ref a), (.int n), (.double lv)] h0 (fun r h L => r = some (.double (resW u n lv)) ∧ Fr n0 L ∧ h = h0) :=
  con_of (plainFor_of_name pn_4) (fun p_ e_ s_ m_ b_ meth_ c_ T_ X_ hx hZ hby hml hown hnm hret hlk e0 => Go.cast (ef_rm7 m_ a n lv) (w7 a n lv u X_ hx hZ hw hby hml hown hnm hret hlk e0 Z0 (Fr.nil n0) F_unitCost_a hu hl))
theorem pd_4 : parseMethodDescriptor "(DD)V" = some ⟨[.double, .double], none⟩ := by decide +kernel
theorem pd_5 : parseMethodDescriptor "(ID)D" = some ⟨[.int, .double], some .double⟩ := by decide +kernel
set_option maxRecDepth 65536 in
set_option maxHeartbeats 40000000 in
theorem w0 {p : Program} {l : Launch} {e : Env} {s : State} {m : MethodId} {args : Array Value} {below : List Frame} {meth : Method} {c_ : Code} {T0 : State} {locs : List Loc} {Z : State} {a0 : Array Value} {h0 : Heap} {n0 : Nat} (p0 p1 p2 p3 p4 : Int32)
    (X0 : Stand p l e room_1 s m args below meth c_ T0 locs 0 0) (hx : p.tables.exec = Jvm.exec) (hZ : Z.Warmed39 s.vm) (hw : ∀ d ∈ tables_1, d.before a0 Z = true) (hby : c_.code = code) (hml : c_.maxLocals = maxLocals) (hown : s.vm.findClass "com/example/headroom/headroom/PriceSheetReservedCostPinLaw" = some m.cls) (hnm : meth.name = "law") (hret : meth.sig.returnType = ret) (hlk : meth.locks = false) (e0 : T0.heap = h0) (Z0 : n0 ≤ h0.size) (N0 : Fr n0 locs)  :
    GoW p e below s room_1.cells room_1.slots (fun r h L => r = some (.int 1) ∧ Fr n0 L) T0 (mkF m 0 #[.val (.int p0), .val (.int p1), .val (.int p2), .val (.int p3), .val (.int p4), .unset, .unset, .unset, .unset, .unset, .unset, .unset, .unset, .unset, .unset, .unset, .unset, .unset] []) := by
  have hret : meth.sig.returnType = some .boolean := hret
  have X0 : Stand p l e room_1 (s.setVm s.vm) m args below meth c_ T0 locs 0 0 := X0
  have hS : s.Since s.vm h0.size := (State.WarmedH.refl s).since _
  have hk : Szk h0.size h0 := Nat.le_refl _
  have hZ : Z.Warmed39 (s.setVm s.vm).vm := hZ
  have hown : (s.setVm s.vm).vm.findClass "com/example/headroom/headroom/PriceSheetReservedCostPinLaw" = some m.cls := hown
  show GoW _ _ _ _ _ _ _ T0 (mkF m 0 #[.val (.int p0), .val (.int p1), .val (.int p2), .val (.int p3), .val (.int p4), .unset, .unset, .unset, .unset, .unset, .unset, .unset, .unset, .unset, .unset, .unset, .unset, .unset] [])
  refine GoW.step (fun _ k => XS.iload X0.here hx rfl (hb hby at_0) rfl k) ?_
  show GoW _ _ _ _ _ _ _ T0 (mkF m 2 #[.val (.int p0), .val (.int p1), .val (.int p2), .val (.int p3), .val (.int p4), .unset, .unset, .unset, .unset, .unset, .unset, .unset, .unset, .unset, .unset, .unset, .unset, .unset] [(.int p4)])
  refine GoW.step (fun _ k => XS.iconst X0.here hx rfl (hb hby at_2) k) ?_
  show GoW _ _ _ _ _ _ _ T0 (mkF m 3 #[.val (.int p0), .val (.int p1), .val (.int p2), .val (.int p3), .val (.int p4), .unset, .unset, .unset, .unset, .unset, .unset, .unset, .unset, .unset, .unset, .unset, .unset, .unset] [(.int (1 : Int32)), (.int p4)])
  refine GoW.step (fun _ k => XS.iand X0.here hx rfl (hb hby at_3) rfl k) ?_
  show GoW _ _ _ _ _ _ _ T0 (mkF m 4 #[.val (.int p0), .val (.int p1), .val (.int p2), .val (.int p3), .val (.int p4), .unset, .unset, .unset, .unset, .unset, .unset, .unset, .unset, .unset, .unset, .unset, .unset, .unset] [(.int (p4 &&& (1 : Int32)))])
  by_cases hc4_1 : (p4 &&& (1 : Int32)) = (0 : Int32)
  · refine GoW.step (fun _ k => XS.ifYes X0.here hx rfl (pc0 := 4) (pc' := 11) rfl (hb hby at_4) rfl ((if0 _ _).trans (teq hc4_1).1) (by decide) (by decide) k) ?_
    show GoW _ _ _ _ _ _ _ T0 (mkF m 11 #[.val (.int p0), .val (.int p1), .val (.int p2), .val (.int p3), .val (.int p4), .unset, .unset, .unset, .unset, .unset, .unset, .unset, .unset, .unset, .unset, .unset, .unset, .unset] [])
    refine GoW.step (fun _ k => XS.iconst X0.here hx rfl (hb hby at_11) k) ?_
    show GoW _ _ _ _ _ _ _ T0 (mkF m 12 #[.val (.int p0), .val (.int p1), .val (.int p2), .val (.int p3), .val (.int p4), .unset, .unset, .unset, .unset, .unset, .unset, .unset, .unset, .unset, .unset, .unset, .unset, .unset] [(.int (0 : Int32))])
    refine GoW.step (fun _ k => XS.istore X0.here hx rfl (hb hby at_12) rfl (l' := #[.val (.int p0), .val (.int p1), .val (.int p2), .val (.int p3), .val (.int p4), .val (.int (0 : Int32)), .unset, .unset, .unset, .unset, .unset, .unset, .unset, .unset, .unset, .unset, .unset, .unset]) rfl k) ?_
    show GoW _ _ _ _ _ _ _ T0 (mkF m 14 #[.val (.int p0), .val (.int p1), .val (.int p2), .val (.int p3), .val (.int p4), .val (.int (0 : Int32)), .unset, .unset, .unset, .unset, .unset, .unset, .unset, .unset, .unset, .unset, .unset, .unset] [])
    refine GoW.step (fun _ k => XS.iloadN X0.here hx rfl (hb hby at_14) rfl k) ?_
    show GoW _ _ _ _ _ _ _ T0 (mkF m 15 #[.val (.int p0), .val (.int p1), .val (.int p2), .val (.int p3), .val (.int p4), .val (.int (0 : Int32)), .unset, .unset, .unset, .unset, .unset, .unset, .unset, .unset, .unset, .unset, .unset, .unset] [(.int p0)])
    refine GoW.step (fun _ k => XS.sipush X0.here hx rfl (hb hby at_15) k) ?_
    show GoW _ _ _ _ _ _ _ T0 (mkF m 18 #[.val (.int p0), .val (.int p1), .val (.int p2), .val (.int p3), .val (.int p4), .val (.int (0 : Int32)), .unset, .unset, .unset, .unset, .unset, .unset, .unset, .unset, .unset, .unset, .unset, .unset] [(.int (1023 : Int32)), (.int p0)])
    refine GoW.step (fun _ k => XS.iand X0.here hx rfl (hb hby at_18) rfl k) ?_
    show GoW _ _ _ _ _ _ _ T0 (mkF m 19 #[.val (.int p0), .val (.int p1), .val (.int p2), .val (.int p3), .val (.int p4), .val (.int (0 : Int32)), .unset, .unset, .unset, .unset, .unset, .unset, .unset, .unset, .unset, .unset, .unset, .unset] [(.int (p0 &&& (1023 : Int32)))])
    refine GoW.step (fun _ k => XS.istore X0.here hx rfl (hb hby at_19) rfl (l' := #[.val (.int p0), .val (.int p1), .val (.int p2), .val (.int p3), .val (.int p4), .val (.int (0 : Int32)), .val (.int (p0 &&& (1023 : Int32))), .unset, .unset, .unset, .unset, .unset, .unset, .unset, .unset, .unset, .unset, .unset]) rfl k) ?_
    show GoW _ _ _ _ _ _ _ T0 (mkF m 21 #[.val (.int p0), .val (.int p1), .val (.int p2), .val (.int p3), .val (.int p4), .val (.int (0 : Int32)), .val (.int (p0 &&& (1023 : Int32))), .unset, .unset, .unset, .unset, .unset, .unset, .unset, .unset, .unset, .unset, .unset] [])
    refine GoW.step (fun _ k => XS.iloadN X0.here hx rfl (hb hby at_21) rfl k) ?_
    show GoW _ _ _ _ _ _ _ T0 (mkF m 22 #[.val (.int p0), .val (.int p1), .val (.int p2), .val (.int p3), .val (.int p4), .val (.int (0 : Int32)), .val (.int (p0 &&& (1023 : Int32))), .unset, .unset, .unset, .unset, .unset, .unset, .unset, .unset, .unset, .unset, .unset] [(.int p2)])
    refine GoW.step (fun _ k => XS.sipush X0.here hx rfl (hb hby at_22) k) ?_
    show GoW _ _ _ _ _ _ _ T0 (mkF m 25 #[.val (.int p0), .val (.int p1), .val (.int p2), .val (.int p3), .val (.int p4), .val (.int (0 : Int32)), .val (.int (p0 &&& (1023 : Int32))), .unset, .unset, .unset, .unset, .unset, .unset, .unset, .unset, .unset, .unset, .unset] [(.int (2048 : Int32)), (.int p2)])
    refine GoW.step (fun _ k => iremM X0 hx rfl (hb hby at_25) rfl (by decide) k) ?_
    show GoW _ _ _ _ _ _ _ T0 (mkF m 26 #[.val (.int p0), .val (.int p1), .val (.int p2), .val (.int p3), .val (.int p4), .val (.int (0 : Int32)), .val (.int (p0 &&& (1023 : Int32))), .unset, .unset, .unset, .unset, .unset, .unset, .unset, .unset, .unset, .unset, .unset] [(.int (p2 % (2048 : Int32)))])
    refine GoW.step (fun _ k => XS.istore X0.here hx rfl (hb hby at_26) rfl (l' := #[.val (.int p0), .val (.int p1), .val (.int p2), .val (.int p3), .val (.int p4), .val (.int (0 : Int32)), .val (.int (p0 &&& (1023 : Int32))), .val (.int (p2 % (2048 : Int32))), .unset, .unset, .unset, .unset, .unset, .unset, .unset, .unset, .unset, .unset]) rfl k) ?_
    show GoW _ _ _ _ _ _ _ T0 (mkF m 28 #[.val (.int p0), .val (.int p1), .val (.int p2), .val (.int p3), .val (.int p4), .val (.int (0 : Int32)), .val (.int (p0 &&& (1023 : Int32))), .val (.int (p2 % (2048 : Int32))), .unset, .unset, .unset, .unset, .unset, .unset, .unset, .unset, .unset, .unset] [])
    refine GoW.step (fun _ k => XS.iloadN X0.here hx rfl (hb hby at_28) rfl k) ?_
    show GoW _ _ _ _ _ _ _ T0 (mkF m 29 #[.val (.int p0), .val (.int p1), .val (.int p2), .val (.int p3), .val (.int p4), .val (.int (0 : Int32)), .val (.int (p0 &&& (1023 : Int32))), .val (.int (p2 % (2048 : Int32))), .unset, .unset, .unset, .unset, .unset, .unset, .unset, .unset, .unset, .unset] [(.int p3)])
    refine GoW.step (X0.ldcInt hx hown (mvT hZ (hw _ (mI 0 rfl))) (g := (mkF m 29 #[.val (.int p0), .val (.int p1), .val (.int p2), .val (.int p3), .val (.int p4), .val (.int (0 : Int32)), .val (.int (p0 &&& (1023 : Int32))), .val (.int (p2 % (2048 : Int32))), .unset, .unset, .unset, .unset, .unset, .unset, .unset, .unset, .unset, .unset] [(.int p3)])) rfl (hb hby at_29)) ?_
    show GoW _ _ _ _ _ _ _ T0 (mkF m 31 #[.val (.int p0), .val (.int p1), .val (.int p2), .val (.int p3), .val (.int p4), .val (.int (0 : Int32)), .val (.int (p0 &&& (1023 : Int32))), .val (.int (p2 % (2048 : Int32))), .unset, .unset, .unset, .unset, .unset, .unset, .unset, .unset, .unset, .unset] [(.int (65535 : Int32)), (.int p3)])
    refine GoW.step (fun _ k => XS.iand X0.here hx rfl (hb hby at_31) rfl k) ?_
    show GoW _ _ _ _ _ _ _ T0 (mkF m 32 #[.val (.int p0), .val (.int p1), .val (.int p2), .val (.int p3), .val (.int p4), .val (.int (0 : Int32)), .val (.int (p0 &&& (1023 : Int32))), .val (.int (p2 % (2048 : Int32))), .unset, .unset, .unset, .unset, .unset, .unset, .unset, .unset, .unset, .unset] [(.int (p3 &&& (65535 : Int32)))])
    refine GoW.step (fun _ k => XS.istore X0.here hx rfl (hb hby at_32) rfl (l' := #[.val (.int p0), .val (.int p1), .val (.int p2), .val (.int p3), .val (.int p4), .val (.int (0 : Int32)), .val (.int (p0 &&& (1023 : Int32))), .val (.int (p2 % (2048 : Int32))), .val (.int (p3 &&& (65535 : Int32))), .unset, .unset, .unset, .unset, .unset, .unset, .unset, .unset, .unset]) rfl k) ?_
    show GoW _ _ _ _ _ _ _ T0 (mkF m 34 #[.val (.int p0), .val (.int p1), .val (.int p2), .val (.int p3), .val (.int p4), .val (.int (0 : Int32)), .val (.int (p0 &&& (1023 : Int32))), .val (.int (p2 % (2048 : Int32))), .val (.int (p3 &&& (65535 : Int32))), .unset, .unset, .unset, .unset, .unset, .unset, .unset, .unset, .unset] [])
    refine GoW.step (fun _ k => XS.iload X0.here hx rfl (hb hby at_34) rfl k) ?_
    show GoW _ _ _ _ _ _ _ T0 (mkF m 36 #[.val (.int p0), .val (.int p1), .val (.int p2), .val (.int p3), .val (.int p4), .val (.int (0 : Int32)), .val (.int (p0 &&& (1023 : Int32))), .val (.int (p2 % (2048 : Int32))), .val (.int (p3 &&& (65535 : Int32))), .unset, .unset, .unset, .unset, .unset, .unset, .unset, .unset, .unset] [(.int (0 : Int32))])
    refine GoW.step (fun _ k => XS.ifYes X0.here hx rfl (pc0 := 36) (pc' := 45) rfl (hb hby at_36) rfl ((if0 _ _).trans (teq (by decide : (0 : Int32) = (0 : Int32))).1) (by decide) (by decide) k) ?_
    show GoW _ _ _ _ _ _ _ T0 (mkF m 45 #[.val (.int p0), .val (.int p1), .val (.int p2), .val (.int p3), .val (.int p4), .val (.int (0 : Int32)), .val (.int (p0 &&& (1023 : Int32))), .val (.int (p2 % (2048 : Int32))), .val (.int (p3 &&& (65535 : Int32))), .unset, .unset, .unset, .unset, .unset, .unset, .unset, .unset, .unset] [])
    refine GoW.step (fun _ k => XS.iload X0.here hx rfl (hb hby at_45) rfl k) ?_
    show GoW _ _ _ _ _ _ _ T0 (mkF m 47 #[.val (.int p0), .val (.int p1), .val (.int p2), .val (.int p3), .val (.int p4), .val (.int (0 : Int32)), .val (.int (p0 &&& (1023 : Int32))), .val (.int (p2 % (2048 : Int32))), .val (.int (p3 &&& (65535 : Int32))), .unset, .unset, .unset, .unset, .unset, .unset, .unset, .unset, .unset] [(.int (p0 &&& (1023 : Int32)))])
    refine GoW.step (fun _ k => XS.i2dS X0.here hx rfl (hb hby at_47) rfl rfl k) ?_
    show GoW _ _ _ _ _ _ _ T0 (mkF m 48 #[.val (.int p0), .val (.int p1), .val (.int p2), .val (.int p3), .val (.int p4), .val (.int (0 : Int32)), .val (.int (p0 &&& (1023 : Int32))), .val (.int (p2 % (2048 : Int32))), .val (.int (p3 &&& (65535 : Int32))), .unset, .unset, .unset, .unset, .unset, .unset, .unset, .unset, .unset] [(.double (FP.i2d (p0 &&& (1023 : Int32))))])
    refine GoW.step (fun _ k => XS.dstore X0.here hx rfl (hb hby at_48) rfl (l' := #[.val (.int p0), .val (.int p1), .val (.int p2), .val (.int p3), .val (.int p4), .val (.int (0 : Int32)), .val (.int (p0 &&& (1023 : Int32))), .val (.int (p2 % (2048 : Int32))), .val (.int (p3 &&& (65535 : Int32))), .val (.double (FP.i2d (p0 &&& (1023 : Int32)))), .second, .unset, .unset, .unset, .unset, .unset, .unset, .unset]) rfl k) ?_
    show GoW _ _ _ _ _ _ _ T0 (mkF m 50 #[.val (.int p0), .val (.int p1), .val (.int p2), .val (.int p3), .val (.int p4), .val (.int (0 : Int32)), .val (.int (p0 &&& (1023 : Int32))), .val (.int (p2 % (2048 : Int32))), .val (.int (p3 &&& (65535 : Int32))), .val (.double (FP.i2d (p0 &&& (1023 : Int32)))), .second, .unset, .unset, .unset, .unset, .unset, .unset, .unset] [])
    refine GoW.step (fun _ k => XS.iload X0.here hx rfl (hb hby at_50) rfl k) ?_
    show GoW _ _ _ _ _ _ _ T0 (mkF m 52 #[.val (.int p0), .val (.int p1), .val (.int p2), .val (.int p3), .val (.int p4), .val (.int (0 : Int32)), .val (.int (p0 &&& (1023 : Int32))), .val (.int (p2 % (2048 : Int32))), .val (.int (p3 &&& (65535 : Int32))), .val (.double (FP.i2d (p0 &&& (1023 : Int32)))), .second, .unset, .unset, .unset, .unset, .unset, .unset, .unset] [(.int (p2 % (2048 : Int32)))])
    refine GoW.step (fun _ k => XS.i2dS X0.here hx rfl (hb hby at_52) rfl rfl k) ?_
    show GoW _ _ _ _ _ _ _ T0 (mkF m 53 #[.val (.int p0), .val (.int p1), .val (.int p2), .val (.int p3), .val (.int p4), .val (.int (0 : Int32)), .val (.int (p0 &&& (1023 : Int32))), .val (.int (p2 % (2048 : Int32))), .val (.int (p3 &&& (65535 : Int32))), .val (.double (FP.i2d (p0 &&& (1023 : Int32)))), .second, .unset, .unset, .unset, .unset, .unset, .unset, .unset] [(.double (FP.i2d (p2 % (2048 : Int32))))])
    refine GoW.step (X0.ldc2DoubleC hx hown (mvT hZ (hw _ (mI 1 rfl))) (g := (mkF m 53 #[.val (.int p0), .val (.int p1), .val (.int p2), .val (.int p3), .val (.int p4), .val (.int (0 : Int32)), .val (.int (p0 &&& (1023 : Int32))), .val (.int (p2 % (2048 : Int32))), .val (.int (p3 &&& (65535 : Int32))), .val (.double (FP.i2d (p0 &&& (1023 : Int32)))), .second, .unset, .unset, .unset, .unset, .unset, .unset, .unset] [(.double (FP.i2d (p2 % (2048 : Int32))))])) rfl (hb hby at_53)) ?_
    show GoW _ _ _ _ _ _ _ T0 (mkF m 56 #[.val (.int p0), .val (.int p1), .val (.int p2), .val (.int p3), .val (.int p4), .val (.int (0 : Int32)), .val (.int (p0 &&& (1023 : Int32))), .val (.int (p2 % (2048 : Int32))), .val (.int (p3 &&& (65535 : Int32))), .val (.double (FP.i2d (p0 &&& (1023 : Int32)))), .second, .unset, .unset, .unset, .unset, .unset, .unset, .unset] [(.double (4616189618054758400 : UInt64)), (.double (FP.i2d (p2 % (2048 : Int32))))])
    refine GoW.step (fun _ k => XS.ddivS X0.here hx rfl (hb hby at_56) rfl (Jvm.Free.Fl.ddiv_out (Jvm.Free.Fl.i2d_fin _).noNaN (by first | decide +kernel | (unfold Jvm.Free.Fl.Fin64; decide +kernel) | (unfold Jvm.Free.Fl.Nz64; decide +kernel) | (unfold Jvm.Free.Fl.NoNaN64; decide +kernel) : Jvm.Free.Fl.Fin64 4616189618054758400) (by first | decide +kernel | (unfold Jvm.Free.Fl.Fin64; decide +kernel) | (unfold Jvm.Free.Fl.Nz64; decide +kernel) | (unfold Jvm.Free.Fl.NoNaN64; decide +kernel))) rfl k) ?_
    show GoW _ _ _ _ _ _ _ T0 (mkF m 57 #[.val (.int p0), .val (.int p1), .val (.int p2), .val (.int p3), .val (.int p4), .val (.int (0 : Int32)), .val (.int (p0 &&& (1023 : Int32))), .val (.int (p2 % (2048 : Int32))), .val (.int (p3 &&& (65535 : Int32))), .val (.double (FP.i2d (p0 &&& (1023 : Int32)))), .second, .unset, .unset, .unset, .unset, .unset, .unset, .unset] [(.double (FP.ddiv (FP.i2d (p2 % (2048 : Int32))) (4616189618054758400 : UInt64)))])
    refine GoW.step (fun _ k => XS.dstore X0.here hx rfl (hb hby at_57) rfl (l' := #[.val (.int p0), .val (.int p1), .val (.int p2), .val (.int p3), .val (.int p4), .val (.int (0 : Int32)), .val (.int (p0 &&& (1023 : Int32))), .val (.int (p2 % (2048 : Int32))), .val (.int (p3 &&& (65535 : Int32))), .val (.double (FP.i2d (p0 &&& (1023 : Int32)))), .second, .val (.double (FP.ddiv (FP.i2d (p2 % (2048 : Int32))) (4616189618054758400 : UInt64))), .second, .unset, .unset, .unset, .unset, .unset]) rfl k) ?_
    show GoW _ _ _ _ _ _ _ T0 (mkF m 59 #[.val (.int p0), .val (.int p1), .val (.int p2), .val (.int p3), .val (.int p4), .val (.int (0 : Int32)), .val (.int (p0 &&& (1023 : Int32))), .val (.int (p2 % (2048 : Int32))), .val (.int (p3 &&& (65535 : Int32))), .val (.double (FP.i2d (p0 &&& (1023 : Int32)))), .second, .val (.double (FP.ddiv (FP.i2d (p2 % (2048 : Int32))) (4616189618054758400 : UInt64))), .second, .unset, .unset, .unset, .unset, .unset] [])
    obtain ⟨T2, h2, X2, e2, E2, A2, D2, -, st2⟩ := newO X0 hx hZ hown (hw _ (mI 2 rfl)) (hw _ (mI 3 rfl)) (hw _ (mI 4 rfl)) e0 (g := (mkF m 59 #[.val (.int p0), .val (.int p1), .val (.int p2), .val (.int p3), .val (.int p4), .val (.int (0 : Int32)), .val (.int (p0 &&& (1023 : Int32))), .val (.int (p2 % (2048 : Int32))), .val (.int (p3 &&& (65535 : Int32))), .val (.double (FP.i2d (p0 &&& (1023 : Int32)))), .second, .val (.double (FP.ddiv (FP.i2d (p2 % (2048 : Int32))) (4616189618054758400 : UInt64))), .second, .unset, .unset, .unset, .unset, .unset] [])) rfl (hb hby at_59) (by decide) (by decide)
    obtain ⟨b2, g2⟩ : ∃ z, z = h0.size := ⟨_, rfl⟩
    rw [← g2] at A2 D2 st2
    refine GoW.step st2 ?_
    have K2 : Keep h0 h2 [] := (Keep.refl h0 []).ext E2
    have sz_b2 : h0.size ≤ b2 := Nat.le_trans ((Keep.refl h0 []) : Keep h0 h0 []).1 (Nat.le_of_eq g2.symm)
    have ge_b2 : n0 ≤ b2 := Nat.le_trans Z0 sz_b2
    have hk_2 := hk.ext E2
    have E_b2 := A2
    have F_setupCost_b2 : Fld Z h2 b2 "com/example/headroom/headroom/PriceSheet" "setupCost" "D" (.double (0 : UInt64)) := D2 (Or.inr (hw _ (mI 38 rfl))) (ty := .double) (by decide)
    have F_unitCost_b2 : Fld Z h2 b2 "com/example/headroom/headroom/PriceSheet" "unitCost" "D" (.double (0 : UInt64)) := D2 (Or.inr (hw _ (mI 40 rfl))) (ty := .double) (by decide)
    show GoW _ _ _ _ _ _ _ T2 (mkF m 62 #[.val (.int p0), .val (.int p1), .val (.int p2), .val (.int p3), .val (.int p4), .val (.int (0 : Int32)), .val (.int (p0 &&& (1023 : Int32))), .val (.int (p2 % (2048 : Int32))), .val (.int (p3 &&& (65535 : Int32))), .val (.double (FP.i2d (p0 &&& (1023 : Int32)))), .second, .val (.double (FP.ddiv (FP.i2d (p2 % (2048 : Int32))) (4616189618054758400 : UInt64))), .second, .unset, .unset, .unset, .unset, .unset] [(.ref b2)])
    refine GoW.step (fun _ k => XS.dup X2.here hx rfl (hb hby at_62) rfl rfl k) ?_
    show GoW _ _ _ _ _ _ _ T2 (mkF m 63 #[.val (.int p0), .val (.int p1), .val (.int p2), .val (.int p3), .val (.int p4), .val (.int (0 : Int32)), .val (.int (p0 &&& (1023 : Int32))), .val (.int (p2 % (2048 : Int32))), .val (.int (p3 &&& (65535 : Int32))), .val (.double (FP.i2d (p0 &&& (1023 : Int32)))), .second, .val (.double (FP.ddiv (FP.i2d (p2 % (2048 : Int32))) (4616189618054758400 : UInt64))), .second, .unset, .unset, .unset, .unset, .unset] [(.ref b2), (.ref b2)])
    refine GoW.step (fun _ k => XS.iload X2.here hx rfl (hb hby at_63) rfl k) ?_
    show GoW _ _ _ _ _ _ _ T2 (mkF m 65 #[.val (.int p0), .val (.int p1), .val (.int p2), .val (.int p3), .val (.int p4), .val (.int (0 : Int32)), .val (.int (p0 &&& (1023 : Int32))), .val (.int (p2 % (2048 : Int32))), .val (.int (p3 &&& (65535 : Int32))), .val (.double (FP.i2d (p0 &&& (1023 : Int32)))), .second, .val (.double (FP.ddiv (FP.i2d (p2 % (2048 : Int32))) (4616189618054758400 : UInt64))), .second, .unset, .unset, .unset, .unset, .unset] [(.int (p3 &&& (65535 : Int32))), (.ref b2), (.ref b2)])
    refine GoW.step (fun _ k => XS.i2dS X2.here hx rfl (hb hby at_65) rfl rfl k) ?_
    show GoW _ _ _ _ _ _ _ T2 (mkF m 66 #[.val (.int p0), .val (.int p1), .val (.int p2), .val (.int p3), .val (.int p4), .val (.int (0 : Int32)), .val (.int (p0 &&& (1023 : Int32))), .val (.int (p2 % (2048 : Int32))), .val (.int (p3 &&& (65535 : Int32))), .val (.double (FP.i2d (p0 &&& (1023 : Int32)))), .second, .val (.double (FP.ddiv (FP.i2d (p2 % (2048 : Int32))) (4616189618054758400 : UInt64))), .second, .unset, .unset, .unset, .unset, .unset] [(.double (FP.i2d (p3 &&& (65535 : Int32)))), (.ref b2), (.ref b2)])
    refine GoW.step (fun _ k => XS.dload X2.here hx rfl (hb hby at_66) rfl k) ?_
    show GoW _ _ _ _ _ _ _ T2 (mkF m 68 #[.val (.int p0), .val (.int p1), .val (.int p2), .val (.int p3), .val (.int p4), .val (.int (0 : Int32)), .val (.int (p0 &&& (1023 : Int32))), .val (.int (p2 % (2048 : Int32))), .val (.int (p3 &&& (65535 : Int32))), .val (.double (FP.i2d (p0 &&& (1023 : Int32)))), .second, .val (.double (FP.ddiv (FP.i2d (p2 % (2048 : Int32))) (4616189618054758400 : UInt64))), .second, .unset, .unset, .unset, .unset, .unset] [(.double (FP.i2d (p0 &&& (1023 : Int32)))), (.double (FP.i2d (p3 &&& (65535 : Int32)))), (.ref b2), (.ref b2)])
    refine GoW.callIW X2 hS hk_2 hx hZ (by rw [hml]; rfl) (y := (⟨"com/example/headroom/headroom/PriceSheet", "<init>", "(DD)V"⟩ : MethodName)) (a := b2) (argsL := [(.double (FP.i2d (p3 &&& (65535 : Int32)))), (.double (FP.i2d (p0 &&& (1023 : Int32))))]) (rest := [(.ref b2)]) rfl hown (hw _ (mI 5 rfl)) (hw _ (mI 6 rfl)) (hw _ (mI 4 rfl)) (hw _ (mI 7 rfl)) (by decide) (rm1 l Z a0 hw b2 (FP.i2d (p3 &&& (65535 : Int32))) (FP.i2d (p0 &&& (1023 : Int32))) h2 n0 (Nat.le_trans Z0 (K2 : Keep h0 h2 []).1) E_b2 F_setupCost_b2 F_unitCost_b2 ge_b2 (Jvm.Free.Fl.i2d_fin _) (own_ge0 p3) (Jvm.Free.Fl.i2d_fin _) (own_ge1 p0)) e2 (hb hby at_68) (lenOf pd_4 rfl) rfl rfl (W := 1) (Nat.le_of_eq rfl) (by decide) (by decide) (by decide) (by decide) ?_
    intro v3 T3 L3 X3 Q3 hS hZ hown
    obtain ⟨rfl, N3q, Kc3, Ec3, F3_setupCost_b2, F3_unitCost_b2⟩ := Q3
    have N3 := Fr.app N0 N3q
    have E_b2_3 := E_b2.keep Kc3
    have KK3 : Keep h0 T3.heap [] := (K2 : Keep h0 h2 []).trans Kc3 (allS (Or.inr sz_b2) all0)
    have hk_3 : Szk T3.heap.size T3.heap := Nat.le_refl _
    show GoW _ _ _ _ _ _ _ T3 (mkF m 71 #[.val (.int p0), .val (.int p1), .val (.int p2), .val (.int p3), .val (.int p4), .val (.int (0 : Int32)), .val (.int (p0 &&& (1023 : Int32))), .val (.int (p2 % (2048 : Int32))), .val (.int (p3 &&& (65535 : Int32))), .val (.double (FP.i2d (p0 &&& (1023 : Int32)))), .second, .val (.double (FP.ddiv (FP.i2d (p2 % (2048 : Int32))) (4616189618054758400 : UInt64))), .second, .unset, .unset, .unset, .unset, .unset] [(.ref b2)])
    refine GoW.step (fun _ k => XS.astore X3.here hx rfl (hb hby at_71) rfl rfl (l' := #[.val (.int p0), .val (.int p1), .val (.int p2), .val (.int p3), .val (.int p4), .val (.int (0 : Int32)), .val (.int (p0 &&& (1023 : Int32))), .val (.int (p2 % (2048 : Int32))), .val (.int (p3 &&& (65535 : Int32))), .val (.double (FP.i2d (p0 &&& (1023 : Int32)))), .second, .val (.double (FP.ddiv (FP.i2d (p2 % (2048 : Int32))) (4616189618054758400 : UInt64))), .second, .val (.ref b2), .unset, .unset, .unset, .unset]) rfl k) ?_
    show GoW _ _ _ _ _ _ _ T3 (mkF m 73 #[.val (.int p0), .val (.int p1), .val (.int p2), .val (.int p3), .val (.int p4), .val (.int (0 : Int32)), .val (.int (p0 &&& (1023 : Int32))), .val (.int (p2 % (2048 : Int32))), .val (.int (p3 &&& (65535 : Int32))), .val (.double (FP.i2d (p0 &&& (1023 : Int32)))), .second, .val (.double (FP.ddiv (FP.i2d (p2 % (2048 : Int32))) (4616189618054758400 : UInt64))), .second, .val (.ref b2), .unset, .unset, .unset, .unset] [])
    refine GoW.step (fun _ k => XS.aload X3.here hx rfl (hb hby at_73) rfl rfl k) ?_
    show GoW _ _ _ _ _ _ _ T3 (mkF m 75 #[.val (.int p0), .val (.int p1), .val (.int p2), .val (.int p3), .val (.int p4), .val (.int (0 : Int32)), .val (.int (p0 &&& (1023 : Int32))), .val (.int (p2 % (2048 : Int32))), .val (.int (p3 &&& (65535 : Int32))), .val (.double (FP.i2d (p0 &&& (1023 : Int32)))), .second, .val (.double (FP.ddiv (FP.i2d (p2 % (2048 : Int32))) (4616189618054758400 : UInt64))), .second, .val (.ref b2), .unset, .unset, .unset, .unset] [(.ref b2)])
    refine GoW.step (fun _ k => XS.iloadN X3.here hx rfl (hb hby at_75) rfl k) ?_
    show GoW _ _ _ _ _ _ _ T3 (mkF m 76 #[.val (.int p0), .val (.int p1), .val (.int p2), .val (.int p3), .val (.int p4), .val (.int (0 : Int32)), .val (.int (p0 &&& (1023 : Int32))), .val (.int (p2 % (2048 : Int32))), .val (.int (p3 &&& (65535 : Int32))), .val (.double (FP.i2d (p0 &&& (1023 : Int32)))), .second, .val (.double (FP.ddiv (FP.i2d (p2 % (2048 : Int32))) (4616189618054758400 : UInt64))), .second, .val (.ref b2), .unset, .unset, .unset, .unset] [(.int p1), (.ref b2)])
    refine GoW.step (fun _ k => XS.dload X3.here hx rfl (hb hby at_76) rfl k) ?_
    show GoW _ _ _ _ _ _ _ T3 (mkF m 78 #[.val (.int p0), .val (.int p1), .val (.int p2), .val (.int p3), .val (.int p4), .val (.int (0 : Int32)), .val (.int (p0 &&& (1023 : Int32))), .val (.int (p2 % (2048 : Int32))), .val (.int (p3 &&& (65535 : Int32))), .val (.double (FP.i2d (p0 &&& (1023 : Int32)))), .second, .val (.double (FP.ddiv (FP.i2d (p2 % (2048 : Int32))) (4616189618054758400 : UInt64))), .second, .val (.ref b2), .unset, .unset, .unset, .unset] [(.double (FP.ddiv (FP.i2d (p2 % (2048 : Int32))) (4616189618054758400 : UInt64))), (.int p1), (.ref b2)])
    refine GoW.callV X3 hx hZ (by rw [hml]; rfl) (y := (⟨"com/example/headroom/headroom/PriceSheet", "reservedCost", "(ID)D"⟩ : MethodName)) (z := (⟨"com/example/headroom/headroom/PriceSheet", "reservedCost", "(ID)D"⟩ : MethodName)) (a := b2) (argsL := [(.int p1), (.double (FP.ddiv (FP.i2d (p2 % (2048 : Int32))) (4616189618054758400 : UInt64)))]) (rest := []) hown (hw _ (mI 41 rfl)) (hw _ (mI 42 rfl)) (notFace_of_selects (args := #[]) (mvT hZ (hw _ (mI 44 rfl)))) (hw _ (mI 44 rfl)) (hw _ (mI 43 rfl)) (hw _ (mI 4 rfl)) (hw _ (mI 45 rfl)) (by decide) (rm7 l Z a0 hw b2 p1 (FP.ddiv (FP.i2d (p2 % (2048 : Int32))) (4616189618054758400 : UInt64)) (FP.i2d (p0 &&& (1023 : Int32))) T3.heap n0 (Nat.le_trans Z0 (KK3 : Keep h0 T3.heap []).1) F3_unitCost_b2 (Jvm.Free.Fl.i2d_fin _) (own_lvF _)) rfl E_b2_3 (hb hby at_78) (lenOf pd_5 rfl) rfl rfl (W := 0) (Nat.le_of_eq rfl) (by decide) (by decide) (by decide) (by decide) ?_
    intro v4 T4 L4 X4 Q4
    obtain ⟨rfl, N4q, hh4⟩ := Q4
    have N4 := Fr.app N3 N4q
    show GoW _ _ _ _ _ _ _ T4 (mkF m 81 #[.val (.int p0), .val (.int p1), .val (.int p2), .val (.int p3), .val (.int p4), .val (.int (0 : Int32)), .val (.int (p0 &&& (1023 : Int32))), .val (.int (p2 % (2048 : Int32))), .val (.int (p3 &&& (65535 : Int32))), .val (.double (FP.i2d (p0 &&& (1023 : Int32)))), .second, .val (.double (FP.ddiv (FP.i2d (p2 % (2048 : Int32))) (4616189618054758400 : UInt64))), .second, .val (.ref b2), .unset, .unset, .unset, .unset] [(.double (resW (FP.i2d (p0 &&& (1023 : Int32))) p1 (FP.ddiv (FP.i2d (p2 % (2048 : Int32))) (4616189618054758400 : UInt64))))])
    refine GoW.step (fun _ k => XS.dstore X4.here hx rfl (hb hby at_81) rfl (l' := #[.val (.int p0), .val (.int p1), .val (.int p2), .val (.int p3), .val (.int p4), .val (.int (0 : Int32)), .val (.int (p0 &&& (1023 : Int32))), .val (.int (p2 % (2048 : Int32))), .val (.int (p3 &&& (65535 : Int32))), .val (.double (FP.i2d (p0 &&& (1023 : Int32)))), .second, .val (.double (FP.ddiv (FP.i2d (p2 % (2048 : Int32))) (4616189618054758400 : UInt64))), .second, .val (.ref b2), .val (.double (resW (FP.i2d (p0 &&& (1023 : Int32))) p1 (FP.ddiv (FP.i2d (p2 % (2048 : Int32))) (4616189618054758400 : UInt64)))), .second, .unset, .unset]) rfl k) ?_
    show GoW _ _ _ _ _ _ _ T4 (mkF m 83 #[.val (.int p0), .val (.int p1), .val (.int p2), .val (.int p3), .val (.int p4), .val (.int (0 : Int32)), .val (.int (p0 &&& (1023 : Int32))), .val (.int (p2 % (2048 : Int32))), .val (.int (p3 &&& (65535 : Int32))), .val (.double (FP.i2d (p0 &&& (1023 : Int32)))), .second, .val (.double (FP.ddiv (FP.i2d (p2 % (2048 : Int32))) (4616189618054758400 : UInt64))), .second, .val (.ref b2), .val (.double (resW (FP.i2d (p0 &&& (1023 : Int32))) p1 (FP.ddiv (FP.i2d (p2 % (2048 : Int32))) (4616189618054758400 : UInt64)))), .second, .unset, .unset] [])
    refine GoW.step (fun _ k => XS.iload X4.here hx rfl (hb hby at_83) rfl k) ?_
    show GoW _ _ _ _ _ _ _ T4 (mkF m 85 #[.val (.int p0), .val (.int p1), .val (.int p2), .val (.int p3), .val (.int p4), .val (.int (0 : Int32)), .val (.int (p0 &&& (1023 : Int32))), .val (.int (p2 % (2048 : Int32))), .val (.int (p3 &&& (65535 : Int32))), .val (.double (FP.i2d (p0 &&& (1023 : Int32)))), .second, .val (.double (FP.ddiv (FP.i2d (p2 % (2048 : Int32))) (4616189618054758400 : UInt64))), .second, .val (.ref b2), .val (.double (resW (FP.i2d (p0 &&& (1023 : Int32))) p1 (FP.ddiv (FP.i2d (p2 % (2048 : Int32))) (4616189618054758400 : UInt64)))), .second, .unset, .unset] [(.int (p2 % (2048 : Int32)))])
    by_cases hc85_5 : (0 : Int32) < (p2 % (2048 : Int32))
    · refine GoW.step (fun _ k => XS.ifYes X4.here hx rfl (pc0 := 85) (pc' := 101) rfl (hb hby at_85) rfl ((if0 _ _).trans (tlt hc85_5).2.2.1) (by decide) (by decide) k) ?_
      show GoW _ _ _ _ _ _ _ T4 (mkF m 101 #[.val (.int p0), .val (.int p1), .val (.int p2), .val (.int p3), .val (.int p4), .val (.int (0 : Int32)), .val (.int (p0 &&& (1023 : Int32))), .val (.int (p2 % (2048 : Int32))), .val (.int (p3 &&& (65535 : Int32))), .val (.double (FP.i2d (p0 &&& (1023 : Int32)))), .second, .val (.double (FP.ddiv (FP.i2d (p2 % (2048 : Int32))) (4616189618054758400 : UInt64))), .second, .val (.ref b2), .val (.double (resW (FP.i2d (p0 &&& (1023 : Int32))) p1 (FP.ddiv (FP.i2d (p2 % (2048 : Int32))) (4616189618054758400 : UInt64)))), .second, .unset, .unset] [])
      refine GoW.step (fun _ k => XS.iload X4.here hx rfl (hb hby at_101) rfl k) ?_
      show GoW _ _ _ _ _ _ _ T4 (mkF m 103 #[.val (.int p0), .val (.int p1), .val (.int p2), .val (.int p3), .val (.int p4), .val (.int (0 : Int32)), .val (.int (p0 &&& (1023 : Int32))), .val (.int (p2 % (2048 : Int32))), .val (.int (p3 &&& (65535 : Int32))), .val (.double (FP.i2d (p0 &&& (1023 : Int32)))), .second, .val (.double (FP.ddiv (FP.i2d (p2 % (2048 : Int32))) (4616189618054758400 : UInt64))), .second, .val (.ref b2), .val (.double (resW (FP.i2d (p0 &&& (1023 : Int32))) p1 (FP.ddiv (FP.i2d (p2 % (2048 : Int32))) (4616189618054758400 : UInt64)))), .second, .unset, .unset] [(.int (0 : Int32))])
      refine GoW.step (fun _ k => XS.ifYes X4.here hx rfl (pc0 := 103) (pc' := 153) rfl (hb hby at_103) rfl ((if0 _ _).trans (teq (by decide : (0 : Int32) = (0 : Int32))).1) (by decide) (by decide) k) ?_
      show GoW _ _ _ _ _ _ _ T4 (mkF m 153 #[.val (.int p0), .val (.int p1), .val (.int p2), .val (.int p3), .val (.int p4), .val (.int (0 : Int32)), .val (.int (p0 &&& (1023 : Int32))), .val (.int (p2 % (2048 : Int32))), .val (.int (p3 &&& (65535 : Int32))), .val (.double (FP.i2d (p0 &&& (1023 : Int32)))), .second, .val (.double (FP.ddiv (FP.i2d (p2 % (2048 : Int32))) (4616189618054758400 : UInt64))), .second, .val (.ref b2), .val (.double (resW (FP.i2d (p0 &&& (1023 : Int32))) p1 (FP.ddiv (FP.i2d (p2 % (2048 : Int32))) (4616189618054758400 : UInt64)))), .second, .unset, .unset] [])
      refine GoW.step (fun _ k => XS.iload X4.here hx rfl (hb hby at_153) rfl k) ?_
      show GoW _ _ _ _ _ _ _ T4 (mkF m 155 #[.val (.int p0), .val (.int p1), .val (.int p2), .val (.int p3), .val (.int p4), .val (.int (0 : Int32)), .val (.int (p0 &&& (1023 : Int32))), .val (.int (p2 % (2048 : Int32))), .val (.int (p3 &&& (65535 : Int32))), .val (.double (FP.i2d (p0 &&& (1023 : Int32)))), .second, .val (.double (FP.ddiv (FP.i2d (p2 % (2048 : Int32))) (4616189618054758400 : UInt64))), .second, .val (.ref b2), .val (.double (resW (FP.i2d (p0 &&& (1023 : Int32))) p1 (FP.ddiv (FP.i2d (p2 % (2048 : Int32))) (4616189618054758400 : UInt64)))), .second, .unset, .unset] [(.int (p0 &&& (1023 : Int32)))])
      refine GoW.step (fun _ k => XS.i2l X4.here hx rfl (hb hby at_155) rfl k) ?_
      show GoW _ _ _ _ _ _ _ T4 (mkF m 156 #[.val (.int p0), .val (.int p1), .val (.int p2), .val (.int p3), .val (.int p4), .val (.int (0 : Int32)), .val (.int (p0 &&& (1023 : Int32))), .val (.int (p2 % (2048 : Int32))), .val (.int (p3 &&& (65535 : Int32))), .val (.double (FP.i2d (p0 &&& (1023 : Int32)))), .second, .val (.double (FP.ddiv (FP.i2d (p2 % (2048 : Int32))) (4616189618054758400 : UInt64))), .second, .val (.ref b2), .val (.double (resW (FP.i2d (p0 &&& (1023 : Int32))) p1 (FP.ddiv (FP.i2d (p2 % (2048 : Int32))) (4616189618054758400 : UInt64)))), .second, .unset, .unset] [(.long ((p0 &&& (1023 : Int32)).toInt64))])
      refine GoW.step (fun _ k => XS.iloadN X4.here hx rfl (hb hby at_156) rfl k) ?_
      show GoW _ _ _ _ _ _ _ T4 (mkF m 157 #[.val (.int p0), .val (.int p1), .val (.int p2), .val (.int p3), .val (.int p4), .val (.int (0 : Int32)), .val (.int (p0 &&& (1023 : Int32))), .val (.int (p2 % (2048 : Int32))), .val (.int (p3 &&& (65535 : Int32))), .val (.double (FP.i2d (p0 &&& (1023 : Int32)))), .second, .val (.double (FP.ddiv (FP.i2d (p2 % (2048 : Int32))) (4616189618054758400 : UInt64))), .second, .val (.ref b2), .val (.double (resW (FP.i2d (p0 &&& (1023 : Int32))) p1 (FP.ddiv (FP.i2d (p2 % (2048 : Int32))) (4616189618054758400 : UInt64)))), .second, .unset, .unset] [(.int p1), (.long ((p0 &&& (1023 : Int32)).toInt64))])
      refine GoW.step (fun _ k => XS.i2l X4.here hx rfl (hb hby at_157) rfl k) ?_
      show GoW _ _ _ _ _ _ _ T4 (mkF m 158 #[.val (.int p0), .val (.int p1), .val (.int p2), .val (.int p3), .val (.int p4), .val (.int (0 : Int32)), .val (.int (p0 &&& (1023 : Int32))), .val (.int (p2 % (2048 : Int32))), .val (.int (p3 &&& (65535 : Int32))), .val (.double (FP.i2d (p0 &&& (1023 : Int32)))), .second, .val (.double (FP.ddiv (FP.i2d (p2 % (2048 : Int32))) (4616189618054758400 : UInt64))), .second, .val (.ref b2), .val (.double (resW (FP.i2d (p0 &&& (1023 : Int32))) p1 (FP.ddiv (FP.i2d (p2 % (2048 : Int32))) (4616189618054758400 : UInt64)))), .second, .unset, .unset] [(.long (p1.toInt64)), (.long ((p0 &&& (1023 : Int32)).toInt64))])
      refine GoW.step (fun _ k => XS.lmul X4.here hx rfl (hb hby at_158) rfl k) ?_
      show GoW _ _ _ _ _ _ _ T4 (mkF m 159 #[.val (.int p0), .val (.int p1), .val (.int p2), .val (.int p3), .val (.int p4), .val (.int (0 : Int32)), .val (.int (p0 &&& (1023 : Int32))), .val (.int (p2 % (2048 : Int32))), .val (.int (p3 &&& (65535 : Int32))), .val (.double (FP.i2d (p0 &&& (1023 : Int32)))), .second, .val (.double (FP.ddiv (FP.i2d (p2 % (2048 : Int32))) (4616189618054758400 : UInt64))), .second, .val (.ref b2), .val (.double (resW (FP.i2d (p0 &&& (1023 : Int32))) p1 (FP.ddiv (FP.i2d (p2 % (2048 : Int32))) (4616189618054758400 : UInt64)))), .second, .unset, .unset] [(.long (((p0 &&& (1023 : Int32)).toInt64) * (p1.toInt64)))])
      refine GoW.step (fun _ k => XS.iload X4.here hx rfl (hb hby at_159) rfl k) ?_
      show GoW _ _ _ _ _ _ _ T4 (mkF m 161 #[.val (.int p0), .val (.int p1), .val (.int p2), .val (.int p3), .val (.int p4), .val (.int (0 : Int32)), .val (.int (p0 &&& (1023 : Int32))), .val (.int (p2 % (2048 : Int32))), .val (.int (p3 &&& (65535 : Int32))), .val (.double (FP.i2d (p0 &&& (1023 : Int32)))), .second, .val (.double (FP.ddiv (FP.i2d (p2 % (2048 : Int32))) (4616189618054758400 : UInt64))), .second, .val (.ref b2), .val (.double (resW (FP.i2d (p0 &&& (1023 : Int32))) p1 (FP.ddiv (FP.i2d (p2 % (2048 : Int32))) (4616189618054758400 : UInt64)))), .second, .unset, .unset] [(.int (p2 % (2048 : Int32))), (.long (((p0 &&& (1023 : Int32)).toInt64) * (p1.toInt64)))])
      refine GoW.step (fun _ k => XS.i2l X4.here hx rfl (hb hby at_161) rfl k) ?_
      show GoW _ _ _ _ _ _ _ T4 (mkF m 162 #[.val (.int p0), .val (.int p1), .val (.int p2), .val (.int p3), .val (.int p4), .val (.int (0 : Int32)), .val (.int (p0 &&& (1023 : Int32))), .val (.int (p2 % (2048 : Int32))), .val (.int (p3 &&& (65535 : Int32))), .val (.double (FP.i2d (p0 &&& (1023 : Int32)))), .second, .val (.double (FP.ddiv (FP.i2d (p2 % (2048 : Int32))) (4616189618054758400 : UInt64))), .second, .val (.ref b2), .val (.double (resW (FP.i2d (p0 &&& (1023 : Int32))) p1 (FP.ddiv (FP.i2d (p2 % (2048 : Int32))) (4616189618054758400 : UInt64)))), .second, .unset, .unset] [(.long ((p2 % (2048 : Int32)).toInt64)), (.long (((p0 &&& (1023 : Int32)).toInt64) * (p1.toInt64)))])
      refine GoW.step (fun _ k => XS.lmul X4.here hx rfl (hb hby at_162) rfl k) ?_
      show GoW _ _ _ _ _ _ _ T4 (mkF m 163 #[.val (.int p0), .val (.int p1), .val (.int p2), .val (.int p3), .val (.int p4), .val (.int (0 : Int32)), .val (.int (p0 &&& (1023 : Int32))), .val (.int (p2 % (2048 : Int32))), .val (.int (p3 &&& (65535 : Int32))), .val (.double (FP.i2d (p0 &&& (1023 : Int32)))), .second, .val (.double (FP.ddiv (FP.i2d (p2 % (2048 : Int32))) (4616189618054758400 : UInt64))), .second, .val (.ref b2), .val (.double (resW (FP.i2d (p0 &&& (1023 : Int32))) p1 (FP.ddiv (FP.i2d (p2 % (2048 : Int32))) (4616189618054758400 : UInt64)))), .second, .unset, .unset] [(.long ((((p0 &&& (1023 : Int32)).toInt64) * (p1.toInt64)) * ((p2 % (2048 : Int32)).toInt64)))])
      refine GoW.step (fun _ k => XS.lstore X4.here hx rfl (hb hby at_163) rfl (l' := #[.val (.int p0), .val (.int p1), .val (.int p2), .val (.int p3), .val (.int p4), .val (.int (0 : Int32)), .val (.int (p0 &&& (1023 : Int32))), .val (.int (p2 % (2048 : Int32))), .val (.int (p3 &&& (65535 : Int32))), .val (.double (FP.i2d (p0 &&& (1023 : Int32)))), .second, .val (.double (FP.ddiv (FP.i2d (p2 % (2048 : Int32))) (4616189618054758400 : UInt64))), .second, .val (.ref b2), .val (.double (resW (FP.i2d (p0 &&& (1023 : Int32))) p1 (FP.ddiv (FP.i2d (p2 % (2048 : Int32))) (4616189618054758400 : UInt64)))), .second, .val (.long ((((p0 &&& (1023 : Int32)).toInt64) * (p1.toInt64)) * ((p2 % (2048 : Int32)).toInt64))), .second]) rfl k) ?_
      show GoW _ _ _ _ _ _ _ T4 (mkF m 165 #[.val (.int p0), .val (.int p1), .val (.int p2), .val (.int p3), .val (.int p4), .val (.int (0 : Int32)), .val (.int (p0 &&& (1023 : Int32))), .val (.int (p2 % (2048 : Int32))), .val (.int (p3 &&& (65535 : Int32))), .val (.double (FP.i2d (p0 &&& (1023 : Int32)))), .second, .val (.double (FP.ddiv (FP.i2d (p2 % (2048 : Int32))) (4616189618054758400 : UInt64))), .second, .val (.ref b2), .val (.double (resW (FP.i2d (p0 &&& (1023 : Int32))) p1 (FP.ddiv (FP.i2d (p2 % (2048 : Int32))) (4616189618054758400 : UInt64)))), .second, .val (.long ((((p0 &&& (1023 : Int32)).toInt64) * (p1.toInt64)) * ((p2 % (2048 : Int32)).toInt64))), .second] [])
      refine GoW.step (fun _ k => XS.dload X4.here hx rfl (hb hby at_165) rfl k) ?_
      show GoW _ _ _ _ _ _ _ T4 (mkF m 167 #[.val (.int p0), .val (.int p1), .val (.int p2), .val (.int p3), .val (.int p4), .val (.int (0 : Int32)), .val (.int (p0 &&& (1023 : Int32))), .val (.int (p2 % (2048 : Int32))), .val (.int (p3 &&& (65535 : Int32))), .val (.double (FP.i2d (p0 &&& (1023 : Int32)))), .second, .val (.double (FP.ddiv (FP.i2d (p2 % (2048 : Int32))) (4616189618054758400 : UInt64))), .second, .val (.ref b2), .val (.double (resW (FP.i2d (p0 &&& (1023 : Int32))) p1 (FP.ddiv (FP.i2d (p2 % (2048 : Int32))) (4616189618054758400 : UInt64)))), .second, .val (.long ((((p0 &&& (1023 : Int32)).toInt64) * (p1.toInt64)) * ((p2 % (2048 : Int32)).toInt64))), .second] [(.double (resW (FP.i2d (p0 &&& (1023 : Int32))) p1 (FP.ddiv (FP.i2d (p2 % (2048 : Int32))) (4616189618054758400 : UInt64))))])
      refine GoW.step (fun _ k => XS.lload X4.here hx rfl (hb hby at_167) rfl k) ?_
      show GoW _ _ _ _ _ _ _ T4 (mkF m 169 #[.val (.int p0), .val (.int p1), .val (.int p2), .val (.int p3), .val (.int p4), .val (.int (0 : Int32)), .val (.int (p0 &&& (1023 : Int32))), .val (.int (p2 % (2048 : Int32))), .val (.int (p3 &&& (65535 : Int32))), .val (.double (FP.i2d (p0 &&& (1023 : Int32)))), .second, .val (.double (FP.ddiv (FP.i2d (p2 % (2048 : Int32))) (4616189618054758400 : UInt64))), .second, .val (.ref b2), .val (.double (resW (FP.i2d (p0 &&& (1023 : Int32))) p1 (FP.ddiv (FP.i2d (p2 % (2048 : Int32))) (4616189618054758400 : UInt64)))), .second, .val (.long ((((p0 &&& (1023 : Int32)).toInt64) * (p1.toInt64)) * ((p2 % (2048 : Int32)).toInt64))), .second] [(.long ((((p0 &&& (1023 : Int32)).toInt64) * (p1.toInt64)) * ((p2 % (2048 : Int32)).toInt64))), (.double (resW (FP.i2d (p0 &&& (1023 : Int32))) p1 (FP.ddiv (FP.i2d (p2 % (2048 : Int32))) (4616189618054758400 : UInt64))))])
      refine GoW.step (fun _ k => XS.l2dS X4.here hx rfl (hb hby at_169) rfl rfl k) ?_
      show GoW _ _ _ _ _ _ _ T4 (mkF m 170 #[.val (.int p0), .val (.int p1), .val (.int p2), .val (.int p3), .val (.int p4), .val (.int (0 : Int32)), .val (.int (p0 &&& (1023 : Int32))), .val (.int (p2 % (2048 : Int32))), .val (.int (p3 &&& (65535 : Int32))), .val (.double (FP.i2d (p0 &&& (1023 : Int32)))), .second, .val (.double (FP.ddiv (FP.i2d (p2 % (2048 : Int32))) (4616189618054758400 : UInt64))), .second, .val (.ref b2), .val (.double (resW (FP.i2d (p0 &&& (1023 : Int32))) p1 (FP.ddiv (FP.i2d (p2 % (2048 : Int32))) (4616189618054758400 : UInt64)))), .second, .val (.long ((((p0 &&& (1023 : Int32)).toInt64) * (p1.toInt64)) * ((p2 % (2048 : Int32)).toInt64))), .second] [(.double (FP.l2d ((((p0 &&& (1023 : Int32)).toInt64) * (p1.toInt64)) * ((p2 % (2048 : Int32)).toInt64)))), (.double (resW (FP.i2d (p0 &&& (1023 : Int32))) p1 (FP.ddiv (FP.i2d (p2 % (2048 : Int32))) (4616189618054758400 : UInt64))))])
      refine GoW.step (X4.ldc2DoubleC hx hown (mvT hZ (hw _ (mI 1 rfl))) (g := (mkF m 170 #[.val (.int p0), .val (.int p1), .val (.int p2), .val (.int p3), .val (.int p4), .val (.int (0 : Int32)), .val (.int (p0 &&& (1023 : Int32))), .val (.int (p2 % (2048 : Int32))), .val (.int (p3 &&& (65535 : Int32))), .val (.double (FP.i2d (p0 &&& (1023 : Int32)))), .second, .val (.double (FP.ddiv (FP.i2d (p2 % (2048 : Int32))) (4616189618054758400 : UInt64))), .second, .val (.ref b2), .val (.double (resW (FP.i2d (p0 &&& (1023 : Int32))) p1 (FP.ddiv (FP.i2d (p2 % (2048 : Int32))) (4616189618054758400 : UInt64)))), .second, .val (.long ((((p0 &&& (1023 : Int32)).toInt64) * (p1.toInt64)) * ((p2 % (2048 : Int32)).toInt64))), .second] [(.double (FP.l2d ((((p0 &&& (1023 : Int32)).toInt64) * (p1.toInt64)) * ((p2 % (2048 : Int32)).toInt64)))), (.double (resW (FP.i2d (p0 &&& (1023 : Int32))) p1 (FP.ddiv (FP.i2d (p2 % (2048 : Int32))) (4616189618054758400 : UInt64))))])) rfl (hb hby at_170)) ?_
      show GoW _ _ _ _ _ _ _ T4 (mkF m 173 #[.val (.int p0), .val (.int p1), .val (.int p2), .val (.int p3), .val (.int p4), .val (.int (0 : Int32)), .val (.int (p0 &&& (1023 : Int32))), .val (.int (p2 % (2048 : Int32))), .val (.int (p3 &&& (65535 : Int32))), .val (.double (FP.i2d (p0 &&& (1023 : Int32)))), .second, .val (.double (FP.ddiv (FP.i2d (p2 % (2048 : Int32))) (4616189618054758400 : UInt64))), .second, .val (.ref b2), .val (.double (resW (FP.i2d (p0 &&& (1023 : Int32))) p1 (FP.ddiv (FP.i2d (p2 % (2048 : Int32))) (4616189618054758400 : UInt64)))), .second, .val (.long ((((p0 &&& (1023 : Int32)).toInt64) * (p1.toInt64)) * ((p2 % (2048 : Int32)).toInt64))), .second] [(.double (4616189618054758400 : UInt64)), (.double (FP.l2d ((((p0 &&& (1023 : Int32)).toInt64) * (p1.toInt64)) * ((p2 % (2048 : Int32)).toInt64)))), (.double (resW (FP.i2d (p0 &&& (1023 : Int32))) p1 (FP.ddiv (FP.i2d (p2 % (2048 : Int32))) (4616189618054758400 : UInt64))))])
      refine GoW.step (fun _ k => XS.ddivS X4.here hx rfl (hb hby at_173) rfl (Jvm.Free.Fl.ddiv_out (Jvm.Free.Fl.l2d_fin _).noNaN (by first | decide +kernel | (unfold Jvm.Free.Fl.Fin64; decide +kernel) | (unfold Jvm.Free.Fl.Nz64; decide +kernel) | (unfold Jvm.Free.Fl.NoNaN64; decide +kernel) : Jvm.Free.Fl.Fin64 4616189618054758400) (by first | decide +kernel | (unfold Jvm.Free.Fl.Fin64; decide +kernel) | (unfold Jvm.Free.Fl.Nz64; decide +kernel) | (unfold Jvm.Free.Fl.NoNaN64; decide +kernel))) rfl k) ?_
      show GoW _ _ _ _ _ _ _ T4 (mkF m 174 #[.val (.int p0), .val (.int p1), .val (.int p2), .val (.int p3), .val (.int p4), .val (.int (0 : Int32)), .val (.int (p0 &&& (1023 : Int32))), .val (.int (p2 % (2048 : Int32))), .val (.int (p3 &&& (65535 : Int32))), .val (.double (FP.i2d (p0 &&& (1023 : Int32)))), .second, .val (.double (FP.ddiv (FP.i2d (p2 % (2048 : Int32))) (4616189618054758400 : UInt64))), .second, .val (.ref b2), .val (.double (resW (FP.i2d (p0 &&& (1023 : Int32))) p1 (FP.ddiv (FP.i2d (p2 % (2048 : Int32))) (4616189618054758400 : UInt64)))), .second, .val (.long ((((p0 &&& (1023 : Int32)).toInt64) * (p1.toInt64)) * ((p2 % (2048 : Int32)).toInt64))), .second] [(.double (FP.ddiv (FP.l2d ((((p0 &&& (1023 : Int32)).toInt64) * (p1.toInt64)) * ((p2 % (2048 : Int32)).toInt64))) (4616189618054758400 : UInt64))), (.double (resW (FP.i2d (p0 &&& (1023 : Int32))) p1 (FP.ddiv (FP.i2d (p2 % (2048 : Int32))) (4616189618054758400 : UInt64))))])
      refine GoW.step (fun _ k => XS.dcmpS X4.here hx rfl (hb hby at_174) rfl rfl k) ?_
      show GoW _ _ _ _ _ _ _ T4 (mkF m 175 #[.val (.int p0), .val (.int p1), .val (.int p2), .val (.int p3), .val (.int p4), .val (.int (0 : Int32)), .val (.int (p0 &&& (1023 : Int32))), .val (.int (p2 % (2048 : Int32))), .val (.int (p3 &&& (65535 : Int32))), .val (.double (FP.i2d (p0 &&& (1023 : Int32)))), .second, .val (.double (FP.ddiv (FP.i2d (p2 % (2048 : Int32))) (4616189618054758400 : UInt64))), .second, .val (.ref b2), .val (.double (resW (FP.i2d (p0 &&& (1023 : Int32))) p1 (FP.ddiv (FP.i2d (p2 % (2048 : Int32))) (4616189618054758400 : UInt64)))), .second, .val (.long ((((p0 &&& (1023 : Int32)).toInt64) * (p1.toInt64)) * ((p2 % (2048 : Int32)).toInt64))), .second] [(.int (cmpValue (FP.dcmp (resW (FP.i2d (p0 &&& (1023 : Int32))) p1 (FP.ddiv (FP.i2d (p2 % (2048 : Int32))) (4616189618054758400 : UInt64))) (FP.ddiv (FP.l2d ((((p0 &&& (1023 : Int32)).toInt64) * (p1.toInt64)) * ((p2 % (2048 : Int32)).toInt64))) (4616189618054758400 : UInt64))) .l))])
      refine GoW.step (fun _ k => XS.ifNo X4.here hx rfl (hb hby at_175) rfl (eq_y .l (own_resX hc85_5)).1 k) ?_
      show GoW _ _ _ _ _ _ _ T4 (mkF m 178 #[.val (.int p0), .val (.int p1), .val (.int p2), .val (.int p3), .val (.int p4), .val (.int (0 : Int32)), .val (.int (p0 &&& (1023 : Int32))), .val (.int (p2 % (2048 : Int32))), .val (.int (p3 &&& (65535 : Int32))), .val (.double (FP.i2d (p0 &&& (1023 : Int32)))), .second, .val (.double (FP.ddiv (FP.i2d (p2 % (2048 : Int32))) (4616189618054758400 : UInt64))), .second, .val (.ref b2), .val (.double (resW (FP.i2d (p0 &&& (1023 : Int32))) p1 (FP.ddiv (FP.i2d (p2 % (2048 : Int32))) (4616189618054758400 : UInt64)))), .second, .val (.long ((((p0 &&& (1023 : Int32)).toInt64) * (p1.toInt64)) * ((p2 % (2048 : Int32)).toInt64))), .second] [])
      refine GoW.step (fun _ k => XS.iconst X4.here hx rfl (hb hby at_178) k) ?_
      show GoW _ _ _ _ _ _ _ T4 (mkF m 179 #[.val (.int p0), .val (.int p1), .val (.int p2), .val (.int p3), .val (.int p4), .val (.int (0 : Int32)), .val (.int (p0 &&& (1023 : Int32))), .val (.int (p2 % (2048 : Int32))), .val (.int (p3 &&& (65535 : Int32))), .val (.double (FP.i2d (p0 &&& (1023 : Int32)))), .second, .val (.double (FP.ddiv (FP.i2d (p2 % (2048 : Int32))) (4616189618054758400 : UInt64))), .second, .val (.ref b2), .val (.double (resW (FP.i2d (p0 &&& (1023 : Int32))) p1 (FP.ddiv (FP.i2d (p2 % (2048 : Int32))) (4616189618054758400 : UInt64)))), .second, .val (.long ((((p0 &&& (1023 : Int32)).toInt64) * (p1.toInt64)) * ((p2 % (2048 : Int32)).toInt64))), .second] [(.int (1 : Int32))])
      refine GoW.step (fun _ k => XS.goto X4.here hx rfl (pc0 := 179) (pc' := 183) rfl (hb hby at_179) (by decide) (by decide) k) ?_
      show GoW _ _ _ _ _ _ _ T4 (mkF m 183 #[.val (.int p0), .val (.int p1), .val (.int p2), .val (.int p3), .val (.int p4), .val (.int (0 : Int32)), .val (.int (p0 &&& (1023 : Int32))), .val (.int (p2 % (2048 : Int32))), .val (.int (p3 &&& (65535 : Int32))), .val (.double (FP.i2d (p0 &&& (1023 : Int32)))), .second, .val (.double (FP.ddiv (FP.i2d (p2 % (2048 : Int32))) (4616189618054758400 : UInt64))), .second, .val (.ref b2), .val (.double (resW (FP.i2d (p0 &&& (1023 : Int32))) p1 (FP.ddiv (FP.i2d (p2 % (2048 : Int32))) (4616189618054758400 : UInt64)))), .second, .val (.long ((((p0 &&& (1023 : Int32)).toInt64) * (p1.toInt64)) * ((p2 % (2048 : Int32)).toInt64))), .second] [(.int (1 : Int32))])
      refine GoW.retZ X4 hS hk_3 hh4 hx hlk hret (by decide) (hb hby at_183) (by decide) (by decide) ?_
      try rw [hh4]
      exact ⟨rfl, N4⟩
    · refine GoW.step (fun _ k => XS.ifNo X4.here hx rfl (hb hby at_85) rfl ((if0 _ _).trans (flt hc85_5).2.2.1) k) ?_
      show GoW _ _ _ _ _ _ _ T4 (mkF m 88 #[.val (.int p0), .val (.int p1), .val (.int p2), .val (.int p3), .val (.int p4), .val (.int (0 : Int32)), .val (.int (p0 &&& (1023 : Int32))), .val (.int (p2 % (2048 : Int32))), .val (.int (p3 &&& (65535 : Int32))), .val (.double (FP.i2d (p0 &&& (1023 : Int32)))), .second, .val (.double (FP.ddiv (FP.i2d (p2 % (2048 : Int32))) (4616189618054758400 : UInt64))), .second, .val (.ref b2), .val (.double (resW (FP.i2d (p0 &&& (1023 : Int32))) p1 (FP.ddiv (FP.i2d (p2 % (2048 : Int32))) (4616189618054758400 : UInt64)))), .second, .unset, .unset] [])
      refine GoW.step (fun _ k => XS.dload X4.here hx rfl (hb hby at_88) rfl k) ?_
      show GoW _ _ _ _ _ _ _ T4 (mkF m 90 #[.val (.int p0), .val (.int p1), .val (.int p2), .val (.int p3), .val (.int p4), .val (.int (0 : Int32)), .val (.int (p0 &&& (1023 : Int32))), .val (.int (p2 % (2048 : Int32))), .val (.int (p3 &&& (65535 : Int32))), .val (.double (FP.i2d (p0 &&& (1023 : Int32)))), .second, .val (.double (FP.ddiv (FP.i2d (p2 % (2048 : Int32))) (4616189618054758400 : UInt64))), .second, .val (.ref b2), .val (.double (resW (FP.i2d (p0 &&& (1023 : Int32))) p1 (FP.ddiv (FP.i2d (p2 % (2048 : Int32))) (4616189618054758400 : UInt64)))), .second, .unset, .unset] [(.double (resW (FP.i2d (p0 &&& (1023 : Int32))) p1 (FP.ddiv (FP.i2d (p2 % (2048 : Int32))) (4616189618054758400 : UInt64))))])
      refine GoW.step (fun _ k => XS.dconst0 X4.here hx rfl (hb hby at_90) rfl k) ?_
      show GoW _ _ _ _ _ _ _ T4 (mkF m 91 #[.val (.int p0), .val (.int p1), .val (.int p2), .val (.int p3), .val (.int p4), .val (.int (0 : Int32)), .val (.int (p0 &&& (1023 : Int32))), .val (.int (p2 % (2048 : Int32))), .val (.int (p3 &&& (65535 : Int32))), .val (.double (FP.i2d (p0 &&& (1023 : Int32)))), .second, .val (.double (FP.ddiv (FP.i2d (p2 % (2048 : Int32))) (4616189618054758400 : UInt64))), .second, .val (.ref b2), .val (.double (resW (FP.i2d (p0 &&& (1023 : Int32))) p1 (FP.ddiv (FP.i2d (p2 % (2048 : Int32))) (4616189618054758400 : UInt64)))), .second, .unset, .unset] [(.double (0 : UInt64)), (.double (resW (FP.i2d (p0 &&& (1023 : Int32))) p1 (FP.ddiv (FP.i2d (p2 % (2048 : Int32))) (4616189618054758400 : UInt64))))])
      refine GoW.step (fun _ k => XS.dcmpS X4.here hx rfl (hb hby at_91) rfl rfl k) ?_
      show GoW _ _ _ _ _ _ _ T4 (mkF m 92 #[.val (.int p0), .val (.int p1), .val (.int p2), .val (.int p3), .val (.int p4), .val (.int (0 : Int32)), .val (.int (p0 &&& (1023 : Int32))), .val (.int (p2 % (2048 : Int32))), .val (.int (p3 &&& (65535 : Int32))), .val (.double (FP.i2d (p0 &&& (1023 : Int32)))), .second, .val (.double (FP.ddiv (FP.i2d (p2 % (2048 : Int32))) (4616189618054758400 : UInt64))), .second, .val (.ref b2), .val (.double (resW (FP.i2d (p0 &&& (1023 : Int32))) p1 (FP.ddiv (FP.i2d (p2 % (2048 : Int32))) (4616189618054758400 : UInt64)))), .second, .unset, .unset] [(.int (cmpValue (FP.dcmp (resW (FP.i2d (p0 &&& (1023 : Int32))) p1 (FP.ddiv (FP.i2d (p2 % (2048 : Int32))) (4616189618054758400 : UInt64))) (0 : UInt64)) .l))])
      refine GoW.step (fun _ k => XS.ifNo X4.here hx rfl (hb hby at_92) rfl (eq_y .l (own_res0 hc85_5)).1 k) ?_
      show GoW _ _ _ _ _ _ _ T4 (mkF m 95 #[.val (.int p0), .val (.int p1), .val (.int p2), .val (.int p3), .val (.int p4), .val (.int (0 : Int32)), .val (.int (p0 &&& (1023 : Int32))), .val (.int (p2 % (2048 : Int32))), .val (.int (p3 &&& (65535 : Int32))), .val (.double (FP.i2d (p0 &&& (1023 : Int32)))), .second, .val (.double (FP.ddiv (FP.i2d (p2 % (2048 : Int32))) (4616189618054758400 : UInt64))), .second, .val (.ref b2), .val (.double (resW (FP.i2d (p0 &&& (1023 : Int32))) p1 (FP.ddiv (FP.i2d (p2 % (2048 : Int32))) (4616189618054758400 : UInt64)))), .second, .unset, .unset] [])
      refine GoW.step (fun _ k => XS.iconst X4.here hx rfl (hb hby at_95) k) ?_
      show GoW _ _ _ _ _ _ _ T4 (mkF m 96 #[.val (.int p0), .val (.int p1), .val (.int p2), .val (.int p3), .val (.int p4), .val (.int (0 : Int32)), .val (.int (p0 &&& (1023 : Int32))), .val (.int (p2 % (2048 : Int32))), .val (.int (p3 &&& (65535 : Int32))), .val (.double (FP.i2d (p0 &&& (1023 : Int32)))), .second, .val (.double (FP.ddiv (FP.i2d (p2 % (2048 : Int32))) (4616189618054758400 : UInt64))), .second, .val (.ref b2), .val (.double (resW (FP.i2d (p0 &&& (1023 : Int32))) p1 (FP.ddiv (FP.i2d (p2 % (2048 : Int32))) (4616189618054758400 : UInt64)))), .second, .unset, .unset] [(.int (1 : Int32))])
      refine GoW.step (fun _ k => XS.goto X4.here hx rfl (pc0 := 96) (pc' := 100) rfl (hb hby at_96) (by decide) (by decide) k) ?_
      show GoW _ _ _ _ _ _ _ T4 (mkF m 100 #[.val (.int p0), .val (.int p1), .val (.int p2), .val (.int p3), .val (.int p4), .val (.int (0 : Int32)), .val (.int (p0 &&& (1023 : Int32))), .val (.int (p2 % (2048 : Int32))), .val (.int (p3 &&& (65535 : Int32))), .val (.double (FP.i2d (p0 &&& (1023 : Int32)))), .second, .val (.double (FP.ddiv (FP.i2d (p2 % (2048 : Int32))) (4616189618054758400 : UInt64))), .second, .val (.ref b2), .val (.double (resW (FP.i2d (p0 &&& (1023 : Int32))) p1 (FP.ddiv (FP.i2d (p2 % (2048 : Int32))) (4616189618054758400 : UInt64)))), .second, .unset, .unset] [(.int (1 : Int32))])
      refine GoW.retZ X4 hS hk_3 hh4 hx hlk hret (by decide) (hb hby at_100) (by decide) (by decide) ?_
      try rw [hh4]
      exact ⟨rfl, N4⟩
  · refine GoW.step (fun _ k => XS.ifNo X0.here hx rfl (hb hby at_4) rfl ((if0 _ _).trans (feq hc4_1).1) k) ?_
    show GoW _ _ _ _ _ _ _ T0 (mkF m 7 #[.val (.int p0), .val (.int p1), .val (.int p2), .val (.int p3), .val (.int p4), .unset, .unset, .unset, .unset, .unset, .unset, .unset, .unset, .unset, .unset, .unset, .unset, .unset] [])
    refine GoW.step (fun _ k => XS.iconst X0.here hx rfl (hb hby at_7) k) ?_
    show GoW _ _ _ _ _ _ _ T0 (mkF m 8 #[.val (.int p0), .val (.int p1), .val (.int p2), .val (.int p3), .val (.int p4), .unset, .unset, .unset, .unset, .unset, .unset, .unset, .unset, .unset, .unset, .unset, .unset, .unset] [(.int (1 : Int32))])
    refine GoW.step (fun _ k => XS.goto X0.here hx rfl (pc0 := 8) (pc' := 12) rfl (hb hby at_8) (by decide) (by decide) k) ?_
    show GoW _ _ _ _ _ _ _ T0 (mkF m 12 #[.val (.int p0), .val (.int p1), .val (.int p2), .val (.int p3), .val (.int p4), .unset, .unset, .unset, .unset, .unset, .unset, .unset, .unset, .unset, .unset, .unset, .unset, .unset] [(.int (1 : Int32))])
    refine GoW.step (fun _ k => XS.istore X0.here hx rfl (hb hby at_12) rfl (l' := #[.val (.int p0), .val (.int p1), .val (.int p2), .val (.int p3), .val (.int p4), .val (.int (1 : Int32)), .unset, .unset, .unset, .unset, .unset, .unset, .unset, .unset, .unset, .unset, .unset, .unset]) rfl k) ?_
    show GoW _ _ _ _ _ _ _ T0 (mkF m 14 #[.val (.int p0), .val (.int p1), .val (.int p2), .val (.int p3), .val (.int p4), .val (.int (1 : Int32)), .unset, .unset, .unset, .unset, .unset, .unset, .unset, .unset, .unset, .unset, .unset, .unset] [])
    refine GoW.step (fun _ k => XS.iloadN X0.here hx rfl (hb hby at_14) rfl k) ?_
    show GoW _ _ _ _ _ _ _ T0 (mkF m 15 #[.val (.int p0), .val (.int p1), .val (.int p2), .val (.int p3), .val (.int p4), .val (.int (1 : Int32)), .unset, .unset, .unset, .unset, .unset, .unset, .unset, .unset, .unset, .unset, .unset, .unset] [(.int p0)])
    refine GoW.step (fun _ k => XS.sipush X0.here hx rfl (hb hby at_15) k) ?_
    show GoW _ _ _ _ _ _ _ T0 (mkF m 18 #[.val (.int p0), .val (.int p1), .val (.int p2), .val (.int p3), .val (.int p4), .val (.int (1 : Int32)), .unset, .unset, .unset, .unset, .unset, .unset, .unset, .unset, .unset, .unset, .unset, .unset] [(.int (1023 : Int32)), (.int p0)])
    refine GoW.step (fun _ k => XS.iand X0.here hx rfl (hb hby at_18) rfl k) ?_
    show GoW _ _ _ _ _ _ _ T0 (mkF m 19 #[.val (.int p0), .val (.int p1), .val (.int p2), .val (.int p3), .val (.int p4), .val (.int (1 : Int32)), .unset, .unset, .unset, .unset, .unset, .unset, .unset, .unset, .unset, .unset, .unset, .unset] [(.int (p0 &&& (1023 : Int32)))])
    refine GoW.step (fun _ k => XS.istore X0.here hx rfl (hb hby at_19) rfl (l' := #[.val (.int p0), .val (.int p1), .val (.int p2), .val (.int p3), .val (.int p4), .val (.int (1 : Int32)), .val (.int (p0 &&& (1023 : Int32))), .unset, .unset, .unset, .unset, .unset, .unset, .unset, .unset, .unset, .unset, .unset]) rfl k) ?_
    show GoW _ _ _ _ _ _ _ T0 (mkF m 21 #[.val (.int p0), .val (.int p1), .val (.int p2), .val (.int p3), .val (.int p4), .val (.int (1 : Int32)), .val (.int (p0 &&& (1023 : Int32))), .unset, .unset, .unset, .unset, .unset, .unset, .unset, .unset, .unset, .unset, .unset] [])
    refine GoW.step (fun _ k => XS.iloadN X0.here hx rfl (hb hby at_21) rfl k) ?_
    show GoW _ _ _ _ _ _ _ T0 (mkF m 22 #[.val (.int p0), .val (.int p1), .val (.int p2), .val (.int p3), .val (.int p4), .val (.int (1 : Int32)), .val (.int (p0 &&& (1023 : Int32))), .unset, .unset, .unset, .unset, .unset, .unset, .unset, .unset, .unset, .unset, .unset] [(.int p2)])
    refine GoW.step (fun _ k => XS.sipush X0.here hx rfl (hb hby at_22) k) ?_
    show GoW _ _ _ _ _ _ _ T0 (mkF m 25 #[.val (.int p0), .val (.int p1), .val (.int p2), .val (.int p3), .val (.int p4), .val (.int (1 : Int32)), .val (.int (p0 &&& (1023 : Int32))), .unset, .unset, .unset, .unset, .unset, .unset, .unset, .unset, .unset, .unset, .unset] [(.int (2048 : Int32)), (.int p2)])
    refine GoW.step (fun _ k => iremM X0 hx rfl (hb hby at_25) rfl (by decide) k) ?_
    show GoW _ _ _ _ _ _ _ T0 (mkF m 26 #[.val (.int p0), .val (.int p1), .val (.int p2), .val (.int p3), .val (.int p4), .val (.int (1 : Int32)), .val (.int (p0 &&& (1023 : Int32))), .unset, .unset, .unset, .unset, .unset, .unset, .unset, .unset, .unset, .unset, .unset] [(.int (p2 % (2048 : Int32)))])
    refine GoW.step (fun _ k => XS.istore X0.here hx rfl (hb hby at_26) rfl (l' := #[.val (.int p0), .val (.int p1), .val (.int p2), .val (.int p3), .val (.int p4), .val (.int (1 : Int32)), .val (.int (p0 &&& (1023 : Int32))), .val (.int (p2 % (2048 : Int32))), .unset, .unset, .unset, .unset, .unset, .unset, .unset, .unset, .unset, .unset]) rfl k) ?_
    show GoW _ _ _ _ _ _ _ T0 (mkF m 28 #[.val (.int p0), .val (.int p1), .val (.int p2), .val (.int p3), .val (.int p4), .val (.int (1 : Int32)), .val (.int (p0 &&& (1023 : Int32))), .val (.int (p2 % (2048 : Int32))), .unset, .unset, .unset, .unset, .unset, .unset, .unset, .unset, .unset, .unset] [])
    refine GoW.step (fun _ k => XS.iloadN X0.here hx rfl (hb hby at_28) rfl k) ?_
    show GoW _ _ _ _ _ _ _ T0 (mkF m 29 #[.val (.int p0), .val (.int p1), .val (.int p2), .val (.int p3), .val (.int p4), .val (.int (1 : Int32)), .val (.int (p0 &&& (1023 : Int32))), .val (.int (p2 % (2048 : Int32))), .unset, .unset, .unset, .unset, .unset, .unset, .unset, .unset, .unset, .unset] [(.int p3)])
    refine GoW.step (X0.ldcInt hx hown (mvT hZ (hw _ (mI 0 rfl))) (g := (mkF m 29 #[.val (.int p0), .val (.int p1), .val (.int p2), .val (.int p3), .val (.int p4), .val (.int (1 : Int32)), .val (.int (p0 &&& (1023 : Int32))), .val (.int (p2 % (2048 : Int32))), .unset, .unset, .unset, .unset, .unset, .unset, .unset, .unset, .unset, .unset] [(.int p3)])) rfl (hb hby at_29)) ?_
    show GoW _ _ _ _ _ _ _ T0 (mkF m 31 #[.val (.int p0), .val (.int p1), .val (.int p2), .val (.int p3), .val (.int p4), .val (.int (1 : Int32)), .val (.int (p0 &&& (1023 : Int32))), .val (.int (p2 % (2048 : Int32))), .unset, .unset, .unset, .unset, .unset, .unset, .unset, .unset, .unset, .unset] [(.int (65535 : Int32)), (.int p3)])
    refine GoW.step (fun _ k => XS.iand X0.here hx rfl (hb hby at_31) rfl k) ?_
    show GoW _ _ _ _ _ _ _ T0 (mkF m 32 #[.val (.int p0), .val (.int p1), .val (.int p2), .val (.int p3), .val (.int p4), .val (.int (1 : Int32)), .val (.int (p0 &&& (1023 : Int32))), .val (.int (p2 % (2048 : Int32))), .unset, .unset, .unset, .unset, .unset, .unset, .unset, .unset, .unset, .unset] [(.int (p3 &&& (65535 : Int32)))])
    refine GoW.step (fun _ k => XS.istore X0.here hx rfl (hb hby at_32) rfl (l' := #[.val (.int p0), .val (.int p1), .val (.int p2), .val (.int p3), .val (.int p4), .val (.int (1 : Int32)), .val (.int (p0 &&& (1023 : Int32))), .val (.int (p2 % (2048 : Int32))), .val (.int (p3 &&& (65535 : Int32))), .unset, .unset, .unset, .unset, .unset, .unset, .unset, .unset, .unset]) rfl k) ?_
    show GoW _ _ _ _ _ _ _ T0 (mkF m 34 #[.val (.int p0), .val (.int p1), .val (.int p2), .val (.int p3), .val (.int p4), .val (.int (1 : Int32)), .val (.int (p0 &&& (1023 : Int32))), .val (.int (p2 % (2048 : Int32))), .val (.int (p3 &&& (65535 : Int32))), .unset, .unset, .unset, .unset, .unset, .unset, .unset, .unset, .unset] [])
    refine GoW.step (fun _ k => XS.iload X0.here hx rfl (hb hby at_34) rfl k) ?_
    show GoW _ _ _ _ _ _ _ T0 (mkF m 36 #[.val (.int p0), .val (.int p1), .val (.int p2), .val (.int p3), .val (.int p4), .val (.int (1 : Int32)), .val (.int (p0 &&& (1023 : Int32))), .val (.int (p2 % (2048 : Int32))), .val (.int (p3 &&& (65535 : Int32))), .unset, .unset, .unset, .unset, .unset, .unset, .unset, .unset, .unset] [(.int (1 : Int32))])
    refine GoW.step (fun _ k => XS.ifNo X0.here hx rfl (hb hby at_36) rfl ((if0 _ _).trans (feq (by decide : ¬ ((1 : Int32) = (0 : Int32)))).1) k) ?_
    show GoW _ _ _ _ _ _ _ T0 (mkF m 39 #[.val (.int p0), .val (.int p1), .val (.int p2), .val (.int p3), .val (.int p4), .val (.int (1 : Int32)), .val (.int (p0 &&& (1023 : Int32))), .val (.int (p2 % (2048 : Int32))), .val (.int (p3 &&& (65535 : Int32))), .unset, .unset, .unset, .unset, .unset, .unset, .unset, .unset, .unset] [])
    refine GoW.step (X0.ldc2DoubleC hx hown (mvT hZ (hw _ (mI 46 rfl))) (g := (mkF m 39 #[.val (.int p0), .val (.int p1), .val (.int p2), .val (.int p3), .val (.int p4), .val (.int (1 : Int32)), .val (.int (p0 &&& (1023 : Int32))), .val (.int (p2 % (2048 : Int32))), .val (.int (p3 &&& (65535 : Int32))), .unset, .unset, .unset, .unset, .unset, .unset, .unset, .unset, .unset] [])) rfl (hb hby at_39)) ?_
    show GoW _ _ _ _ _ _ _ T0 (mkF m 42 #[.val (.int p0), .val (.int p1), .val (.int p2), .val (.int p3), .val (.int p4), .val (.int (1 : Int32)), .val (.int (p0 &&& (1023 : Int32))), .val (.int (p2 % (2048 : Int32))), .val (.int (p3 &&& (65535 : Int32))), .unset, .unset, .unset, .unset, .unset, .unset, .unset, .unset, .unset] [(.double (9214871658872686752 : UInt64))])
    refine GoW.step (fun _ k => XS.goto X0.here hx rfl (pc0 := 42) (pc' := 48) rfl (hb hby at_42) (by decide) (by decide) k) ?_
    show GoW _ _ _ _ _ _ _ T0 (mkF m 48 #[.val (.int p0), .val (.int p1), .val (.int p2), .val (.int p3), .val (.int p4), .val (.int (1 : Int32)), .val (.int (p0 &&& (1023 : Int32))), .val (.int (p2 % (2048 : Int32))), .val (.int (p3 &&& (65535 : Int32))), .unset, .unset, .unset, .unset, .unset, .unset, .unset, .unset, .unset] [(.double (9214871658872686752 : UInt64))])
    refine GoW.step (fun _ k => XS.dstore X0.here hx rfl (hb hby at_48) rfl (l' := #[.val (.int p0), .val (.int p1), .val (.int p2), .val (.int p3), .val (.int p4), .val (.int (1 : Int32)), .val (.int (p0 &&& (1023 : Int32))), .val (.int (p2 % (2048 : Int32))), .val (.int (p3 &&& (65535 : Int32))), .val (.double (9214871658872686752 : UInt64)), .second, .unset, .unset, .unset, .unset, .unset, .unset, .unset]) rfl k) ?_
    show GoW _ _ _ _ _ _ _ T0 (mkF m 50 #[.val (.int p0), .val (.int p1), .val (.int p2), .val (.int p3), .val (.int p4), .val (.int (1 : Int32)), .val (.int (p0 &&& (1023 : Int32))), .val (.int (p2 % (2048 : Int32))), .val (.int (p3 &&& (65535 : Int32))), .val (.double (9214871658872686752 : UInt64)), .second, .unset, .unset, .unset, .unset, .unset, .unset, .unset] [])
    refine GoW.step (fun _ k => XS.iload X0.here hx rfl (hb hby at_50) rfl k) ?_
    show GoW _ _ _ _ _ _ _ T0 (mkF m 52 #[.val (.int p0), .val (.int p1), .val (.int p2), .val (.int p3), .val (.int p4), .val (.int (1 : Int32)), .val (.int (p0 &&& (1023 : Int32))), .val (.int (p2 % (2048 : Int32))), .val (.int (p3 &&& (65535 : Int32))), .val (.double (9214871658872686752 : UInt64)), .second, .unset, .unset, .unset, .unset, .unset, .unset, .unset] [(.int (p2 % (2048 : Int32)))])
    refine GoW.step (fun _ k => XS.i2dS X0.here hx rfl (hb hby at_52) rfl rfl k) ?_
    show GoW _ _ _ _ _ _ _ T0 (mkF m 53 #[.val (.int p0), .val (.int p1), .val (.int p2), .val (.int p3), .val (.int p4), .val (.int (1 : Int32)), .val (.int (p0 &&& (1023 : Int32))), .val (.int (p2 % (2048 : Int32))), .val (.int (p3 &&& (65535 : Int32))), .val (.double (9214871658872686752 : UInt64)), .second, .unset, .unset, .unset, .unset, .unset, .unset, .unset] [(.double (FP.i2d (p2 % (2048 : Int32))))])
    refine GoW.step (X0.ldc2DoubleC hx hown (mvT hZ (hw _ (mI 1 rfl))) (g := (mkF m 53 #[.val (.int p0), .val (.int p1), .val (.int p2), .val (.int p3), .val (.int p4), .val (.int (1 : Int32)), .val (.int (p0 &&& (1023 : Int32))), .val (.int (p2 % (2048 : Int32))), .val (.int (p3 &&& (65535 : Int32))), .val (.double (9214871658872686752 : UInt64)), .second, .unset, .unset, .unset, .unset, .unset, .unset, .unset] [(.double (FP.i2d (p2 % (2048 : Int32))))])) rfl (hb hby at_53)) ?_
    show GoW _ _ _ _ _ _ _ T0 (mkF m 56 #[.val (.int p0), .val (.int p1), .val (.int p2), .val (.int p3), .val (.int p4), .val (.int (1 : Int32)), .val (.int (p0 &&& (1023 : Int32))), .val (.int (p2 % (2048 : Int32))), .val (.int (p3 &&& (65535 : Int32))), .val (.double (9214871658872686752 : UInt64)), .second, .unset, .unset, .unset, .unset, .unset, .unset, .unset] [(.double (4616189618054758400 : UInt64)), (.double (FP.i2d (p2 % (2048 : Int32))))])
    refine GoW.step (fun _ k => XS.ddivS X0.here hx rfl (hb hby at_56) rfl (Jvm.Free.Fl.ddiv_out (Jvm.Free.Fl.i2d_fin _).noNaN (by first | decide +kernel | (unfold Jvm.Free.Fl.Fin64; decide +kernel) | (unfold Jvm.Free.Fl.Nz64; decide +kernel) | (unfold Jvm.Free.Fl.NoNaN64; decide +kernel) : Jvm.Free.Fl.Fin64 4616189618054758400) (by first | decide +kernel | (unfold Jvm.Free.Fl.Fin64; decide +kernel) | (unfold Jvm.Free.Fl.Nz64; decide +kernel) | (unfold Jvm.Free.Fl.NoNaN64; decide +kernel))) rfl k) ?_
    show GoW _ _ _ _ _ _ _ T0 (mkF m 57 #[.val (.int p0), .val (.int p1), .val (.int p2), .val (.int p3), .val (.int p4), .val (.int (1 : Int32)), .val (.int (p0 &&& (1023 : Int32))), .val (.int (p2 % (2048 : Int32))), .val (.int (p3 &&& (65535 : Int32))), .val (.double (9214871658872686752 : UInt64)), .second, .unset, .unset, .unset, .unset, .unset, .unset, .unset] [(.double (FP.ddiv (FP.i2d (p2 % (2048 : Int32))) (4616189618054758400 : UInt64)))])
    refine GoW.step (fun _ k => XS.dstore X0.here hx rfl (hb hby at_57) rfl (l' := #[.val (.int p0), .val (.int p1), .val (.int p2), .val (.int p3), .val (.int p4), .val (.int (1 : Int32)), .val (.int (p0 &&& (1023 : Int32))), .val (.int (p2 % (2048 : Int32))), .val (.int (p3 &&& (65535 : Int32))), .val (.double (9214871658872686752 : UInt64)), .second, .val (.double (FP.ddiv (FP.i2d (p2 % (2048 : Int32))) (4616189618054758400 : UInt64))), .second, .unset, .unset, .unset, .unset, .unset]) rfl k) ?_
    show GoW _ _ _ _ _ _ _ T0 (mkF m 59 #[.val (.int p0), .val (.int p1), .val (.int p2), .val (.int p3), .val (.int p4), .val (.int (1 : Int32)), .val (.int (p0 &&& (1023 : Int32))), .val (.int (p2 % (2048 : Int32))), .val (.int (p3 &&& (65535 : Int32))), .val (.double (9214871658872686752 : UInt64)), .second, .val (.double (FP.ddiv (FP.i2d (p2 % (2048 : Int32))) (4616189618054758400 : UInt64))), .second, .unset, .unset, .unset, .unset, .unset] [])
    obtain ⟨T6, h6, X6, e6, E6, A6, D6, -, st6⟩ := newO X0 hx hZ hown (hw _ (mI 2 rfl)) (hw _ (mI 3 rfl)) (hw _ (mI 4 rfl)) e0 (g := (mkF m 59 #[.val (.int p0), .val (.int p1), .val (.int p2), .val (.int p3), .val (.int p4), .val (.int (1 : Int32)), .val (.int (p0 &&& (1023 : Int32))), .val (.int (p2 % (2048 : Int32))), .val (.int (p3 &&& (65535 : Int32))), .val (.double (9214871658872686752 : UInt64)), .second, .val (.double (FP.ddiv (FP.i2d (p2 % (2048 : Int32))) (4616189618054758400 : UInt64))), .second, .unset, .unset, .unset, .unset, .unset] [])) rfl (hb hby at_59) (by decide) (by decide)
    obtain ⟨b6, g6⟩ : ∃ z, z = h0.size := ⟨_, rfl⟩
    rw [← g6] at A6 D6 st6
    refine GoW.step st6 ?_
    have K6 : Keep h0 h6 [] := (Keep.refl h0 []).ext E6
    have sz_b6 : h0.size ≤ b6 := Nat.le_trans ((Keep.refl h0 []) : Keep h0 h0 []).1 (Nat.le_of_eq g6.symm)
    have ge_b6 : n0 ≤ b6 := Nat.le_trans Z0 sz_b6
    have hk_6 := hk.ext E6
    have E_b6 := A6
    have F_setupCost_b6 : Fld Z h6 b6 "com/example/headroom/headroom/PriceSheet" "setupCost" "D" (.double (0 : UInt64)) := D6 (Or.inr (hw _ (mI 38 rfl))) (ty := .double) (by decide)
    have F_unitCost_b6 : Fld Z h6 b6 "com/example/headroom/headroom/PriceSheet" "unitCost" "D" (.double (0 : UInt64)) := D6 (Or.inr (hw _ (mI 40 rfl))) (ty := .double) (by decide)
    show GoW _ _ _ _ _ _ _ T6 (mkF m 62 #[.val (.int p0), .val (.int p1), .val (.int p2), .val (.int p3), .val (.int p4), .val (.int (1 : Int32)), .val (.int (p0 &&& (1023 : Int32))), .val (.int (p2 % (2048 : Int32))), .val (.int (p3 &&& (65535 : Int32))), .val (.double (9214871658872686752 : UInt64)), .second, .val (.double (FP.ddiv (FP.i2d (p2 % (2048 : Int32))) (4616189618054758400 : UInt64))), .second, .unset, .unset, .unset, .unset, .unset] [(.ref b6)])
    refine GoW.step (fun _ k => XS.dup X6.here hx rfl (hb hby at_62) rfl rfl k) ?_
    show GoW _ _ _ _ _ _ _ T6 (mkF m 63 #[.val (.int p0), .val (.int p1), .val (.int p2), .val (.int p3), .val (.int p4), .val (.int (1 : Int32)), .val (.int (p0 &&& (1023 : Int32))), .val (.int (p2 % (2048 : Int32))), .val (.int (p3 &&& (65535 : Int32))), .val (.double (9214871658872686752 : UInt64)), .second, .val (.double (FP.ddiv (FP.i2d (p2 % (2048 : Int32))) (4616189618054758400 : UInt64))), .second, .unset, .unset, .unset, .unset, .unset] [(.ref b6), (.ref b6)])
    refine GoW.step (fun _ k => XS.iload X6.here hx rfl (hb hby at_63) rfl k) ?_
    show GoW _ _ _ _ _ _ _ T6 (mkF m 65 #[.val (.int p0), .val (.int p1), .val (.int p2), .val (.int p3), .val (.int p4), .val (.int (1 : Int32)), .val (.int (p0 &&& (1023 : Int32))), .val (.int (p2 % (2048 : Int32))), .val (.int (p3 &&& (65535 : Int32))), .val (.double (9214871658872686752 : UInt64)), .second, .val (.double (FP.ddiv (FP.i2d (p2 % (2048 : Int32))) (4616189618054758400 : UInt64))), .second, .unset, .unset, .unset, .unset, .unset] [(.int (p3 &&& (65535 : Int32))), (.ref b6), (.ref b6)])
    refine GoW.step (fun _ k => XS.i2dS X6.here hx rfl (hb hby at_65) rfl rfl k) ?_
    show GoW _ _ _ _ _ _ _ T6 (mkF m 66 #[.val (.int p0), .val (.int p1), .val (.int p2), .val (.int p3), .val (.int p4), .val (.int (1 : Int32)), .val (.int (p0 &&& (1023 : Int32))), .val (.int (p2 % (2048 : Int32))), .val (.int (p3 &&& (65535 : Int32))), .val (.double (9214871658872686752 : UInt64)), .second, .val (.double (FP.ddiv (FP.i2d (p2 % (2048 : Int32))) (4616189618054758400 : UInt64))), .second, .unset, .unset, .unset, .unset, .unset] [(.double (FP.i2d (p3 &&& (65535 : Int32)))), (.ref b6), (.ref b6)])
    refine GoW.step (fun _ k => XS.dload X6.here hx rfl (hb hby at_66) rfl k) ?_
    show GoW _ _ _ _ _ _ _ T6 (mkF m 68 #[.val (.int p0), .val (.int p1), .val (.int p2), .val (.int p3), .val (.int p4), .val (.int (1 : Int32)), .val (.int (p0 &&& (1023 : Int32))), .val (.int (p2 % (2048 : Int32))), .val (.int (p3 &&& (65535 : Int32))), .val (.double (9214871658872686752 : UInt64)), .second, .val (.double (FP.ddiv (FP.i2d (p2 % (2048 : Int32))) (4616189618054758400 : UInt64))), .second, .unset, .unset, .unset, .unset, .unset] [(.double (9214871658872686752 : UInt64)), (.double (FP.i2d (p3 &&& (65535 : Int32)))), (.ref b6), (.ref b6)])
    refine GoW.callIW X6 hS hk_6 hx hZ (by rw [hml]; rfl) (y := (⟨"com/example/headroom/headroom/PriceSheet", "<init>", "(DD)V"⟩ : MethodName)) (a := b6) (argsL := [(.double (FP.i2d (p3 &&& (65535 : Int32)))), (.double (9214871658872686752 : UInt64))]) (rest := [(.ref b6)]) rfl hown (hw _ (mI 5 rfl)) (hw _ (mI 6 rfl)) (hw _ (mI 4 rfl)) (hw _ (mI 7 rfl)) (by decide) (rm1 l Z a0 hw b6 (FP.i2d (p3 &&& (65535 : Int32))) (9214871658872686752 : UInt64) h6 n0 (Nat.le_trans Z0 (K6 : Keep h0 h6 []).1) E_b6 F_setupCost_b6 F_unitCost_b6 ge_b6 (Jvm.Free.Fl.i2d_fin _) (own_ge0 p3) (by first | decide +kernel | (unfold Jvm.Free.Fl.Fin64; decide +kernel) | (unfold Jvm.Free.Fl.Nz64; decide +kernel) | (unfold Jvm.Free.Fl.NoNaN64; decide +kernel)) (Or.inl (by first | decide +kernel | (unfold Jvm.Free.Fl.Fin64; decide +kernel) | (unfold Jvm.Free.Fl.Nz64; decide +kernel) | (unfold Jvm.Free.Fl.NoNaN64; decide +kernel)))) e6 (hb hby at_68) (lenOf pd_4 rfl) rfl rfl (W := 1) (Nat.le_of_eq rfl) (by decide) (by decide) (by decide) (by decide) ?_
    intro v7 T7 L7 X7 Q7 hS hZ hown
    obtain ⟨rfl, N7q, Kc7, Ec7, F7_setupCost_b6, F7_unitCost_b6⟩ := Q7
    have N7 := Fr.app N0 N7q
    have E_b6_7 := E_b6.keep Kc7
    have KK7 : Keep h0 T7.heap [] := (K6 : Keep h0 h6 []).trans Kc7 (allS (Or.inr sz_b6) all0)
    have hk_7 : Szk T7.heap.size T7.heap := Nat.le_refl _
    show GoW _ _ _ _ _ _ _ T7 (mkF m 71 #[.val (.int p0), .val (.int p1), .val (.int p2), .val (.int p3), .val (.int p4), .val (.int (1 : Int32)), .val (.int (p0 &&& (1023 : Int32))), .val (.int (p2 % (2048 : Int32))), .val (.int (p3 &&& (65535 : Int32))), .val (.double (9214871658872686752 : UInt64)), .second, .val (.double (FP.ddiv (FP.i2d (p2 % (2048 : Int32))) (4616189618054758400 : UInt64))), .second, .unset, .unset, .unset, .unset, .unset] [(.ref b6)])
    refine GoW.step (fun _ k => XS.astore X7.here hx rfl (hb hby at_71) rfl rfl (l' := #[.val (.int p0), .val (.int p1), .val (.int p2), .val (.int p3), .val (.int p4), .val (.int (1 : Int32)), .val (.int (p0 &&& (1023 : Int32))), .val (.int (p2 % (2048 : Int32))), .val (.int (p3 &&& (65535 : Int32))), .val (.double (9214871658872686752 : UInt64)), .second, .val (.double (FP.ddiv (FP.i2d (p2 % (2048 : Int32))) (4616189618054758400 : UInt64))), .second, .val (.ref b6), .unset, .unset, .unset, .unset]) rfl k) ?_
    show GoW _ _ _ _ _ _ _ T7 (mkF m 73 #[.val (.int p0), .val (.int p1), .val (.int p2), .val (.int p3), .val (.int p4), .val (.int (1 : Int32)), .val (.int (p0 &&& (1023 : Int32))), .val (.int (p2 % (2048 : Int32))), .val (.int (p3 &&& (65535 : Int32))), .val (.double (9214871658872686752 : UInt64)), .second, .val (.double (FP.ddiv (FP.i2d (p2 % (2048 : Int32))) (4616189618054758400 : UInt64))), .second, .val (.ref b6), .unset, .unset, .unset, .unset] [])
    refine GoW.step (fun _ k => XS.aload X7.here hx rfl (hb hby at_73) rfl rfl k) ?_
    show GoW _ _ _ _ _ _ _ T7 (mkF m 75 #[.val (.int p0), .val (.int p1), .val (.int p2), .val (.int p3), .val (.int p4), .val (.int (1 : Int32)), .val (.int (p0 &&& (1023 : Int32))), .val (.int (p2 % (2048 : Int32))), .val (.int (p3 &&& (65535 : Int32))), .val (.double (9214871658872686752 : UInt64)), .second, .val (.double (FP.ddiv (FP.i2d (p2 % (2048 : Int32))) (4616189618054758400 : UInt64))), .second, .val (.ref b6), .unset, .unset, .unset, .unset] [(.ref b6)])
    refine GoW.step (fun _ k => XS.iloadN X7.here hx rfl (hb hby at_75) rfl k) ?_
    show GoW _ _ _ _ _ _ _ T7 (mkF m 76 #[.val (.int p0), .val (.int p1), .val (.int p2), .val (.int p3), .val (.int p4), .val (.int (1 : Int32)), .val (.int (p0 &&& (1023 : Int32))), .val (.int (p2 % (2048 : Int32))), .val (.int (p3 &&& (65535 : Int32))), .val (.double (9214871658872686752 : UInt64)), .second, .val (.double (FP.ddiv (FP.i2d (p2 % (2048 : Int32))) (4616189618054758400 : UInt64))), .second, .val (.ref b6), .unset, .unset, .unset, .unset] [(.int p1), (.ref b6)])
    refine GoW.step (fun _ k => XS.dload X7.here hx rfl (hb hby at_76) rfl k) ?_
    show GoW _ _ _ _ _ _ _ T7 (mkF m 78 #[.val (.int p0), .val (.int p1), .val (.int p2), .val (.int p3), .val (.int p4), .val (.int (1 : Int32)), .val (.int (p0 &&& (1023 : Int32))), .val (.int (p2 % (2048 : Int32))), .val (.int (p3 &&& (65535 : Int32))), .val (.double (9214871658872686752 : UInt64)), .second, .val (.double (FP.ddiv (FP.i2d (p2 % (2048 : Int32))) (4616189618054758400 : UInt64))), .second, .val (.ref b6), .unset, .unset, .unset, .unset] [(.double (FP.ddiv (FP.i2d (p2 % (2048 : Int32))) (4616189618054758400 : UInt64))), (.int p1), (.ref b6)])
    refine GoW.callV X7 hx hZ (by rw [hml]; rfl) (y := (⟨"com/example/headroom/headroom/PriceSheet", "reservedCost", "(ID)D"⟩ : MethodName)) (z := (⟨"com/example/headroom/headroom/PriceSheet", "reservedCost", "(ID)D"⟩ : MethodName)) (a := b6) (argsL := [(.int p1), (.double (FP.ddiv (FP.i2d (p2 % (2048 : Int32))) (4616189618054758400 : UInt64)))]) (rest := []) hown (hw _ (mI 41 rfl)) (hw _ (mI 42 rfl)) (notFace_of_selects (args := #[]) (mvT hZ (hw _ (mI 44 rfl)))) (hw _ (mI 44 rfl)) (hw _ (mI 43 rfl)) (hw _ (mI 4 rfl)) (hw _ (mI 45 rfl)) (by decide) (rm7 l Z a0 hw b6 p1 (FP.ddiv (FP.i2d (p2 % (2048 : Int32))) (4616189618054758400 : UInt64)) (9214871658872686752 : UInt64) T7.heap n0 (Nat.le_trans Z0 (KK7 : Keep h0 T7.heap []).1) F7_unitCost_b6 (by first | decide +kernel | (unfold Jvm.Free.Fl.Fin64; decide +kernel) | (unfold Jvm.Free.Fl.Nz64; decide +kernel) | (unfold Jvm.Free.Fl.NoNaN64; decide +kernel)) (own_lvF _)) rfl E_b6_7 (hb hby at_78) (lenOf pd_5 rfl) rfl rfl (W := 0) (Nat.le_of_eq rfl) (by decide) (by decide) (by decide) (by decide) ?_
    intro v8 T8 L8 X8 Q8
    obtain ⟨rfl, N8q, hh8⟩ := Q8
    have N8 := Fr.app N7 N8q
    show GoW _ _ _ _ _ _ _ T8 (mkF m 81 #[.val (.int p0), .val (.int p1), .val (.int p2), .val (.int p3), .val (.int p4), .val (.int (1 : Int32)), .val (.int (p0 &&& (1023 : Int32))), .val (.int (p2 % (2048 : Int32))), .val (.int (p3 &&& (65535 : Int32))), .val (.double (9214871658872686752 : UInt64)), .second, .val (.double (FP.ddiv (FP.i2d (p2 % (2048 : Int32))) (4616189618054758400 : UInt64))), .second, .val (.ref b6), .unset, .unset, .unset, .unset] [(.double (resW (9214871658872686752 : UInt64) p1 (FP.ddiv (FP.i2d (p2 % (2048 : Int32))) (4616189618054758400 : UInt64))))])
    refine GoW.step (fun _ k => XS.dstore X8.here hx rfl (hb hby at_81) rfl (l' := #[.val (.int p0), .val (.int p1), .val (.int p2), .val (.int p3), .val (.int p4), .val (.int (1 : Int32)), .val (.int (p0 &&& (1023 : Int32))), .val (.int (p2 % (2048 : Int32))), .val (.int (p3 &&& (65535 : Int32))), .val (.double (9214871658872686752 : UInt64)), .second, .val (.double (FP.ddiv (FP.i2d (p2 % (2048 : Int32))) (4616189618054758400 : UInt64))), .second, .val (.ref b6), .val (.double (resW (9214871658872686752 : UInt64) p1 (FP.ddiv (FP.i2d (p2 % (2048 : Int32))) (4616189618054758400 : UInt64)))), .second, .unset, .unset]) rfl k) ?_
    show GoW _ _ _ _ _ _ _ T8 (mkF m 83 #[.val (.int p0), .val (.int p1), .val (.int p2), .val (.int p3), .val (.int p4), .val (.int (1 : Int32)), .val (.int (p0 &&& (1023 : Int32))), .val (.int (p2 % (2048 : Int32))), .val (.int (p3 &&& (65535 : Int32))), .val (.double (9214871658872686752 : UInt64)), .second, .val (.double (FP.ddiv (FP.i2d (p2 % (2048 : Int32))) (4616189618054758400 : UInt64))), .second, .val (.ref b6), .val (.double (resW (9214871658872686752 : UInt64) p1 (FP.ddiv (FP.i2d (p2 % (2048 : Int32))) (4616189618054758400 : UInt64)))), .second, .unset, .unset] [])
    refine GoW.step (fun _ k => XS.iload X8.here hx rfl (hb hby at_83) rfl k) ?_
    show GoW _ _ _ _ _ _ _ T8 (mkF m 85 #[.val (.int p0), .val (.int p1), .val (.int p2), .val (.int p3), .val (.int p4), .val (.int (1 : Int32)), .val (.int (p0 &&& (1023 : Int32))), .val (.int (p2 % (2048 : Int32))), .val (.int (p3 &&& (65535 : Int32))), .val (.double (9214871658872686752 : UInt64)), .second, .val (.double (FP.ddiv (FP.i2d (p2 % (2048 : Int32))) (4616189618054758400 : UInt64))), .second, .val (.ref b6), .val (.double (resW (9214871658872686752 : UInt64) p1 (FP.ddiv (FP.i2d (p2 % (2048 : Int32))) (4616189618054758400 : UInt64)))), .second, .unset, .unset] [(.int (p2 % (2048 : Int32)))])
    by_cases hc85_9 : (0 : Int32) < (p2 % (2048 : Int32))
    · refine GoW.step (fun _ k => XS.ifYes X8.here hx rfl (pc0 := 85) (pc' := 101) rfl (hb hby at_85) rfl ((if0 _ _).trans (tlt hc85_9).2.2.1) (by decide) (by decide) k) ?_
      show GoW _ _ _ _ _ _ _ T8 (mkF m 101 #[.val (.int p0), .val (.int p1), .val (.int p2), .val (.int p3), .val (.int p4), .val (.int (1 : Int32)), .val (.int (p0 &&& (1023 : Int32))), .val (.int (p2 % (2048 : Int32))), .val (.int (p3 &&& (65535 : Int32))), .val (.double (9214871658872686752 : UInt64)), .second, .val (.double (FP.ddiv (FP.i2d (p2 % (2048 : Int32))) (4616189618054758400 : UInt64))), .second, .val (.ref b6), .val (.double (resW (9214871658872686752 : UInt64) p1 (FP.ddiv (FP.i2d (p2 % (2048 : Int32))) (4616189618054758400 : UInt64)))), .second, .unset, .unset] [])
      refine GoW.step (fun _ k => XS.iload X8.here hx rfl (hb hby at_101) rfl k) ?_
      show GoW _ _ _ _ _ _ _ T8 (mkF m 103 #[.val (.int p0), .val (.int p1), .val (.int p2), .val (.int p3), .val (.int p4), .val (.int (1 : Int32)), .val (.int (p0 &&& (1023 : Int32))), .val (.int (p2 % (2048 : Int32))), .val (.int (p3 &&& (65535 : Int32))), .val (.double (9214871658872686752 : UInt64)), .second, .val (.double (FP.ddiv (FP.i2d (p2 % (2048 : Int32))) (4616189618054758400 : UInt64))), .second, .val (.ref b6), .val (.double (resW (9214871658872686752 : UInt64) p1 (FP.ddiv (FP.i2d (p2 % (2048 : Int32))) (4616189618054758400 : UInt64)))), .second, .unset, .unset] [(.int (1 : Int32))])
      refine GoW.step (fun _ k => XS.ifNo X8.here hx rfl (hb hby at_103) rfl ((if0 _ _).trans (feq (by decide : ¬ ((1 : Int32) = (0 : Int32)))).1) k) ?_
      show GoW _ _ _ _ _ _ _ T8 (mkF m 106 #[.val (.int p0), .val (.int p1), .val (.int p2), .val (.int p3), .val (.int p4), .val (.int (1 : Int32)), .val (.int (p0 &&& (1023 : Int32))), .val (.int (p2 % (2048 : Int32))), .val (.int (p3 &&& (65535 : Int32))), .val (.double (9214871658872686752 : UInt64)), .second, .val (.double (FP.ddiv (FP.i2d (p2 % (2048 : Int32))) (4616189618054758400 : UInt64))), .second, .val (.ref b6), .val (.double (resW (9214871658872686752 : UInt64) p1 (FP.ddiv (FP.i2d (p2 % (2048 : Int32))) (4616189618054758400 : UInt64)))), .second, .unset, .unset] [])
      refine GoW.step (fun _ k => XS.iloadN X8.here hx rfl (hb hby at_106) rfl k) ?_
      show GoW _ _ _ _ _ _ _ T8 (mkF m 107 #[.val (.int p0), .val (.int p1), .val (.int p2), .val (.int p3), .val (.int p4), .val (.int (1 : Int32)), .val (.int (p0 &&& (1023 : Int32))), .val (.int (p2 % (2048 : Int32))), .val (.int (p3 &&& (65535 : Int32))), .val (.double (9214871658872686752 : UInt64)), .second, .val (.double (FP.ddiv (FP.i2d (p2 % (2048 : Int32))) (4616189618054758400 : UInt64))), .second, .val (.ref b6), .val (.double (resW (9214871658872686752 : UInt64) p1 (FP.ddiv (FP.i2d (p2 % (2048 : Int32))) (4616189618054758400 : UInt64)))), .second, .unset, .unset] [(.int p1)])
      by_cases hc107_10 : p1 = (0 : Int32)
      · refine GoW.step (fun _ k => XS.ifNo X8.here hx rfl (hb hby at_107) rfl ((if0 _ _).trans (teq hc107_10).2) k) ?_
        show GoW _ _ _ _ _ _ _ T8 (mkF m 110 #[.val (.int p0), .val (.int p1), .val (.int p2), .val (.int p3), .val (.int p4), .val (.int (1 : Int32)), .val (.int (p0 &&& (1023 : Int32))), .val (.int (p2 % (2048 : Int32))), .val (.int (p3 &&& (65535 : Int32))), .val (.double (9214871658872686752 : UInt64)), .second, .val (.double (FP.ddiv (FP.i2d (p2 % (2048 : Int32))) (4616189618054758400 : UInt64))), .second, .val (.ref b6), .val (.double (resW (9214871658872686752 : UInt64) p1 (FP.ddiv (FP.i2d (p2 % (2048 : Int32))) (4616189618054758400 : UInt64)))), .second, .unset, .unset] [])
        refine GoW.step (fun _ k => XS.dload X8.here hx rfl (hb hby at_110) rfl k) ?_
        show GoW _ _ _ _ _ _ _ T8 (mkF m 112 #[.val (.int p0), .val (.int p1), .val (.int p2), .val (.int p3), .val (.int p4), .val (.int (1 : Int32)), .val (.int (p0 &&& (1023 : Int32))), .val (.int (p2 % (2048 : Int32))), .val (.int (p3 &&& (65535 : Int32))), .val (.double (9214871658872686752 : UInt64)), .second, .val (.double (FP.ddiv (FP.i2d (p2 % (2048 : Int32))) (4616189618054758400 : UInt64))), .second, .val (.ref b6), .val (.double (resW (9214871658872686752 : UInt64) p1 (FP.ddiv (FP.i2d (p2 % (2048 : Int32))) (4616189618054758400 : UInt64)))), .second, .unset, .unset] [(.double (resW (9214871658872686752 : UInt64) p1 (FP.ddiv (FP.i2d (p2 % (2048 : Int32))) (4616189618054758400 : UInt64))))])
        refine GoW.step (fun _ k => XS.dconst0 X8.here hx rfl (hb hby at_112) rfl k) ?_
        show GoW _ _ _ _ _ _ _ T8 (mkF m 113 #[.val (.int p0), .val (.int p1), .val (.int p2), .val (.int p3), .val (.int p4), .val (.int (1 : Int32)), .val (.int (p0 &&& (1023 : Int32))), .val (.int (p2 % (2048 : Int32))), .val (.int (p3 &&& (65535 : Int32))), .val (.double (9214871658872686752 : UInt64)), .second, .val (.double (FP.ddiv (FP.i2d (p2 % (2048 : Int32))) (4616189618054758400 : UInt64))), .second, .val (.ref b6), .val (.double (resW (9214871658872686752 : UInt64) p1 (FP.ddiv (FP.i2d (p2 % (2048 : Int32))) (4616189618054758400 : UInt64)))), .second, .unset, .unset] [(.double (0 : UInt64)), (.double (resW (9214871658872686752 : UInt64) p1 (FP.ddiv (FP.i2d (p2 % (2048 : Int32))) (4616189618054758400 : UInt64))))])
        refine GoW.step (fun _ k => XS.dcmpS X8.here hx rfl (hb hby at_113) rfl rfl k) ?_
        show GoW _ _ _ _ _ _ _ T8 (mkF m 114 #[.val (.int p0), .val (.int p1), .val (.int p2), .val (.int p3), .val (.int p4), .val (.int (1 : Int32)), .val (.int (p0 &&& (1023 : Int32))), .val (.int (p2 % (2048 : Int32))), .val (.int (p3 &&& (65535 : Int32))), .val (.double (9214871658872686752 : UInt64)), .second, .val (.double (FP.ddiv (FP.i2d (p2 % (2048 : Int32))) (4616189618054758400 : UInt64))), .second, .val (.ref b6), .val (.double (resW (9214871658872686752 : UInt64) p1 (FP.ddiv (FP.i2d (p2 % (2048 : Int32))) (4616189618054758400 : UInt64)))), .second, .unset, .unset] [(.int (cmpValue (FP.dcmp (resW (9214871658872686752 : UInt64) p1 (FP.ddiv (FP.i2d (p2 % (2048 : Int32))) (4616189618054758400 : UInt64))) (0 : UInt64)) .l))])
        refine GoW.step (fun _ k => XS.ifNo X8.here hx rfl (hb hby at_114) rfl (eq_y .l (own_resZ hc85_9 hc107_10)).1 k) ?_
        show GoW _ _ _ _ _ _ _ T8 (mkF m 117 #[.val (.int p0), .val (.int p1), .val (.int p2), .val (.int p3), .val (.int p4), .val (.int (1 : Int32)), .val (.int (p0 &&& (1023 : Int32))), .val (.int (p2 % (2048 : Int32))), .val (.int (p3 &&& (65535 : Int32))), .val (.double (9214871658872686752 : UInt64)), .second, .val (.double (FP.ddiv (FP.i2d (p2 % (2048 : Int32))) (4616189618054758400 : UInt64))), .second, .val (.ref b6), .val (.double (resW (9214871658872686752 : UInt64) p1 (FP.ddiv (FP.i2d (p2 % (2048 : Int32))) (4616189618054758400 : UInt64)))), .second, .unset, .unset] [])
        refine GoW.step (fun _ k => XS.iconst X8.here hx rfl (hb hby at_117) k) ?_
        show GoW _ _ _ _ _ _ _ T8 (mkF m 118 #[.val (.int p0), .val (.int p1), .val (.int p2), .val (.int p3), .val (.int p4), .val (.int (1 : Int32)), .val (.int (p0 &&& (1023 : Int32))), .val (.int (p2 % (2048 : Int32))), .val (.int (p3 &&& (65535 : Int32))), .val (.double (9214871658872686752 : UInt64)), .second, .val (.double (FP.ddiv (FP.i2d (p2 % (2048 : Int32))) (4616189618054758400 : UInt64))), .second, .val (.ref b6), .val (.double (resW (9214871658872686752 : UInt64) p1 (FP.ddiv (FP.i2d (p2 % (2048 : Int32))) (4616189618054758400 : UInt64)))), .second, .unset, .unset] [(.int (1 : Int32))])
        refine GoW.step (fun _ k => XS.goto X8.here hx rfl (pc0 := 118) (pc' := 122) rfl (hb hby at_118) (by decide) (by decide) k) ?_
        show GoW _ _ _ _ _ _ _ T8 (mkF m 122 #[.val (.int p0), .val (.int p1), .val (.int p2), .val (.int p3), .val (.int p4), .val (.int (1 : Int32)), .val (.int (p0 &&& (1023 : Int32))), .val (.int (p2 % (2048 : Int32))), .val (.int (p3 &&& (65535 : Int32))), .val (.double (9214871658872686752 : UInt64)), .second, .val (.double (FP.ddiv (FP.i2d (p2 % (2048 : Int32))) (4616189618054758400 : UInt64))), .second, .val (.ref b6), .val (.double (resW (9214871658872686752 : UInt64) p1 (FP.ddiv (FP.i2d (p2 % (2048 : Int32))) (4616189618054758400 : UInt64)))), .second, .unset, .unset] [(.int (1 : Int32))])
        refine GoW.retZ X8 hS hk_7 hh8 hx hlk hret (by decide) (hb hby at_122) (by decide) (by decide) ?_
        try rw [hh8]
        exact ⟨rfl, N8⟩
      · refine GoW.step (fun _ k => XS.ifYes X8.here hx rfl (pc0 := 107) (pc' := 123) rfl (hb hby at_107) rfl ((if0 _ _).trans (feq hc107_10).2) (by decide) (by decide) k) ?_
        show GoW _ _ _ _ _ _ _ T8 (mkF m 123 #[.val (.int p0), .val (.int p1), .val (.int p2), .val (.int p3), .val (.int p4), .val (.int (1 : Int32)), .val (.int (p0 &&& (1023 : Int32))), .val (.int (p2 % (2048 : Int32))), .val (.int (p3 &&& (65535 : Int32))), .val (.double (9214871658872686752 : UInt64)), .second, .val (.double (FP.ddiv (FP.i2d (p2 % (2048 : Int32))) (4616189618054758400 : UInt64))), .second, .val (.ref b6), .val (.double (resW (9214871658872686752 : UInt64) p1 (FP.ddiv (FP.i2d (p2 % (2048 : Int32))) (4616189618054758400 : UInt64)))), .second, .unset, .unset] [])
        refine GoW.step (fun _ k => XS.iloadN X8.here hx rfl (hb hby at_123) rfl k) ?_
        show GoW _ _ _ _ _ _ _ T8 (mkF m 124 #[.val (.int p0), .val (.int p1), .val (.int p2), .val (.int p3), .val (.int p4), .val (.int (1 : Int32)), .val (.int (p0 &&& (1023 : Int32))), .val (.int (p2 % (2048 : Int32))), .val (.int (p3 &&& (65535 : Int32))), .val (.double (9214871658872686752 : UInt64)), .second, .val (.double (FP.ddiv (FP.i2d (p2 % (2048 : Int32))) (4616189618054758400 : UInt64))), .second, .val (.ref b6), .val (.double (resW (9214871658872686752 : UInt64) p1 (FP.ddiv (FP.i2d (p2 % (2048 : Int32))) (4616189618054758400 : UInt64)))), .second, .unset, .unset] [(.int p1)])
        by_cases hc124_11 : (0 : Int32) < p1
        · refine GoW.step (fun _ k => XS.ifNo X8.here hx rfl (hb hby at_124) rfl ((if0 _ _).trans (tlt hc124_11).2.2.2) k) ?_
          show GoW _ _ _ _ _ _ _ T8 (mkF m 127 #[.val (.int p0), .val (.int p1), .val (.int p2), .val (.int p3), .val (.int p4), .val (.int (1 : Int32)), .val (.int (p0 &&& (1023 : Int32))), .val (.int (p2 % (2048 : Int32))), .val (.int (p3 &&& (65535 : Int32))), .val (.double (9214871658872686752 : UInt64)), .second, .val (.double (FP.ddiv (FP.i2d (p2 % (2048 : Int32))) (4616189618054758400 : UInt64))), .second, .val (.ref b6), .val (.double (resW (9214871658872686752 : UInt64) p1 (FP.ddiv (FP.i2d (p2 % (2048 : Int32))) (4616189618054758400 : UInt64)))), .second, .unset, .unset] [])
          refine GoW.step (fun _ k => XS.dload X8.here hx rfl (hb hby at_127) rfl k) ?_
          show GoW _ _ _ _ _ _ _ T8 (mkF m 129 #[.val (.int p0), .val (.int p1), .val (.int p2), .val (.int p3), .val (.int p4), .val (.int (1 : Int32)), .val (.int (p0 &&& (1023 : Int32))), .val (.int (p2 % (2048 : Int32))), .val (.int (p3 &&& (65535 : Int32))), .val (.double (9214871658872686752 : UInt64)), .second, .val (.double (FP.ddiv (FP.i2d (p2 % (2048 : Int32))) (4616189618054758400 : UInt64))), .second, .val (.ref b6), .val (.double (resW (9214871658872686752 : UInt64) p1 (FP.ddiv (FP.i2d (p2 % (2048 : Int32))) (4616189618054758400 : UInt64)))), .second, .unset, .unset] [(.double (resW (9214871658872686752 : UInt64) p1 (FP.ddiv (FP.i2d (p2 % (2048 : Int32))) (4616189618054758400 : UInt64))))])
          refine GoW.step (fun _ k => XS.dconst0 X8.here hx rfl (hb hby at_129) rfl k) ?_
          show GoW _ _ _ _ _ _ _ T8 (mkF m 130 #[.val (.int p0), .val (.int p1), .val (.int p2), .val (.int p3), .val (.int p4), .val (.int (1 : Int32)), .val (.int (p0 &&& (1023 : Int32))), .val (.int (p2 % (2048 : Int32))), .val (.int (p3 &&& (65535 : Int32))), .val (.double (9214871658872686752 : UInt64)), .second, .val (.double (FP.ddiv (FP.i2d (p2 % (2048 : Int32))) (4616189618054758400 : UInt64))), .second, .val (.ref b6), .val (.double (resW (9214871658872686752 : UInt64) p1 (FP.ddiv (FP.i2d (p2 % (2048 : Int32))) (4616189618054758400 : UInt64)))), .second, .unset, .unset] [(.double (0 : UInt64)), (.double (resW (9214871658872686752 : UInt64) p1 (FP.ddiv (FP.i2d (p2 % (2048 : Int32))) (4616189618054758400 : UInt64))))])
          refine GoW.step (fun _ k => XS.dcmpS X8.here hx rfl (hb hby at_130) rfl rfl k) ?_
          show GoW _ _ _ _ _ _ _ T8 (mkF m 131 #[.val (.int p0), .val (.int p1), .val (.int p2), .val (.int p3), .val (.int p4), .val (.int (1 : Int32)), .val (.int (p0 &&& (1023 : Int32))), .val (.int (p2 % (2048 : Int32))), .val (.int (p3 &&& (65535 : Int32))), .val (.double (9214871658872686752 : UInt64)), .second, .val (.double (FP.ddiv (FP.i2d (p2 % (2048 : Int32))) (4616189618054758400 : UInt64))), .second, .val (.ref b6), .val (.double (resW (9214871658872686752 : UInt64) p1 (FP.ddiv (FP.i2d (p2 % (2048 : Int32))) (4616189618054758400 : UInt64)))), .second, .unset, .unset] [(.int (cmpValue (FP.dcmp (resW (9214871658872686752 : UInt64) p1 (FP.ddiv (FP.i2d (p2 % (2048 : Int32))) (4616189618054758400 : UInt64))) (0 : UInt64)) .l))])
          refine GoW.step (fun _ k => XS.ifNo X8.here hx rfl (hb hby at_131) rfl (gt_y (own_resP hc85_9 hc124_11)) k) ?_
          show GoW _ _ _ _ _ _ _ T8 (mkF m 134 #[.val (.int p0), .val (.int p1), .val (.int p2), .val (.int p3), .val (.int p4), .val (.int (1 : Int32)), .val (.int (p0 &&& (1023 : Int32))), .val (.int (p2 % (2048 : Int32))), .val (.int (p3 &&& (65535 : Int32))), .val (.double (9214871658872686752 : UInt64)), .second, .val (.double (FP.ddiv (FP.i2d (p2 % (2048 : Int32))) (4616189618054758400 : UInt64))), .second, .val (.ref b6), .val (.double (resW (9214871658872686752 : UInt64) p1 (FP.ddiv (FP.i2d (p2 % (2048 : Int32))) (4616189618054758400 : UInt64)))), .second, .unset, .unset] [])
          refine GoW.step (fun _ k => XS.iconst X8.here hx rfl (hb hby at_134) k) ?_
          show GoW _ _ _ _ _ _ _ T8 (mkF m 135 #[.val (.int p0), .val (.int p1), .val (.int p2), .val (.int p3), .val (.int p4), .val (.int (1 : Int32)), .val (.int (p0 &&& (1023 : Int32))), .val (.int (p2 % (2048 : Int32))), .val (.int (p3 &&& (65535 : Int32))), .val (.double (9214871658872686752 : UInt64)), .second, .val (.double (FP.ddiv (FP.i2d (p2 % (2048 : Int32))) (4616189618054758400 : UInt64))), .second, .val (.ref b6), .val (.double (resW (9214871658872686752 : UInt64) p1 (FP.ddiv (FP.i2d (p2 % (2048 : Int32))) (4616189618054758400 : UInt64)))), .second, .unset, .unset] [(.int (1 : Int32))])
          refine GoW.step (fun _ k => XS.goto X8.here hx rfl (pc0 := 135) (pc' := 139) rfl (hb hby at_135) (by decide) (by decide) k) ?_
          show GoW _ _ _ _ _ _ _ T8 (mkF m 139 #[.val (.int p0), .val (.int p1), .val (.int p2), .val (.int p3), .val (.int p4), .val (.int (1 : Int32)), .val (.int (p0 &&& (1023 : Int32))), .val (.int (p2 % (2048 : Int32))), .val (.int (p3 &&& (65535 : Int32))), .val (.double (9214871658872686752 : UInt64)), .second, .val (.double (FP.ddiv (FP.i2d (p2 % (2048 : Int32))) (4616189618054758400 : UInt64))), .second, .val (.ref b6), .val (.double (resW (9214871658872686752 : UInt64) p1 (FP.ddiv (FP.i2d (p2 % (2048 : Int32))) (4616189618054758400 : UInt64)))), .second, .unset, .unset] [(.int (1 : Int32))])
          refine GoW.retZ X8 hS hk_7 hh8 hx hlk hret (by decide) (hb hby at_139) (by decide) (by decide) ?_
          try rw [hh8]
          exact ⟨rfl, N8⟩
        · refine GoW.step (fun _ k => XS.ifYes X8.here hx rfl (pc0 := 124) (pc' := 140) rfl (hb hby at_124) rfl ((if0 _ _).trans (flt hc124_11).2.2.2) (by decide) (by decide) k) ?_
          show GoW _ _ _ _ _ _ _ T8 (mkF m 140 #[.val (.int p0), .val (.int p1), .val (.int p2), .val (.int p3), .val (.int p4), .val (.int (1 : Int32)), .val (.int (p0 &&& (1023 : Int32))), .val (.int (p2 % (2048 : Int32))), .val (.int (p3 &&& (65535 : Int32))), .val (.double (9214871658872686752 : UInt64)), .second, .val (.double (FP.ddiv (FP.i2d (p2 % (2048 : Int32))) (4616189618054758400 : UInt64))), .second, .val (.ref b6), .val (.double (resW (9214871658872686752 : UInt64) p1 (FP.ddiv (FP.i2d (p2 % (2048 : Int32))) (4616189618054758400 : UInt64)))), .second, .unset, .unset] [])
          refine GoW.step (fun _ k => XS.dload X8.here hx rfl (hb hby at_140) rfl k) ?_
          show GoW _ _ _ _ _ _ _ T8 (mkF m 142 #[.val (.int p0), .val (.int p1), .val (.int p2), .val (.int p3), .val (.int p4), .val (.int (1 : Int32)), .val (.int (p0 &&& (1023 : Int32))), .val (.int (p2 % (2048 : Int32))), .val (.int (p3 &&& (65535 : Int32))), .val (.double (9214871658872686752 : UInt64)), .second, .val (.double (FP.ddiv (FP.i2d (p2 % (2048 : Int32))) (4616189618054758400 : UInt64))), .second, .val (.ref b6), .val (.double (resW (9214871658872686752 : UInt64) p1 (FP.ddiv (FP.i2d (p2 % (2048 : Int32))) (4616189618054758400 : UInt64)))), .second, .unset, .unset] [(.double (resW (9214871658872686752 : UInt64) p1 (FP.ddiv (FP.i2d (p2 % (2048 : Int32))) (4616189618054758400 : UInt64))))])
          refine GoW.step (fun _ k => XS.dconst0 X8.here hx rfl (hb hby at_142) rfl k) ?_
          show GoW _ _ _ _ _ _ _ T8 (mkF m 143 #[.val (.int p0), .val (.int p1), .val (.int p2), .val (.int p3), .val (.int p4), .val (.int (1 : Int32)), .val (.int (p0 &&& (1023 : Int32))), .val (.int (p2 % (2048 : Int32))), .val (.int (p3 &&& (65535 : Int32))), .val (.double (9214871658872686752 : UInt64)), .second, .val (.double (FP.ddiv (FP.i2d (p2 % (2048 : Int32))) (4616189618054758400 : UInt64))), .second, .val (.ref b6), .val (.double (resW (9214871658872686752 : UInt64) p1 (FP.ddiv (FP.i2d (p2 % (2048 : Int32))) (4616189618054758400 : UInt64)))), .second, .unset, .unset] [(.double (0 : UInt64)), (.double (resW (9214871658872686752 : UInt64) p1 (FP.ddiv (FP.i2d (p2 % (2048 : Int32))) (4616189618054758400 : UInt64))))])
          refine GoW.step (fun _ k => XS.dcmpS X8.here hx rfl (hb hby at_143) rfl rfl k) ?_
          show GoW _ _ _ _ _ _ _ T8 (mkF m 144 #[.val (.int p0), .val (.int p1), .val (.int p2), .val (.int p3), .val (.int p4), .val (.int (1 : Int32)), .val (.int (p0 &&& (1023 : Int32))), .val (.int (p2 % (2048 : Int32))), .val (.int (p3 &&& (65535 : Int32))), .val (.double (9214871658872686752 : UInt64)), .second, .val (.double (FP.ddiv (FP.i2d (p2 % (2048 : Int32))) (4616189618054758400 : UInt64))), .second, .val (.ref b6), .val (.double (resW (9214871658872686752 : UInt64) p1 (FP.ddiv (FP.i2d (p2 % (2048 : Int32))) (4616189618054758400 : UInt64)))), .second, .unset, .unset] [(.int (cmpValue (FP.dcmp (resW (9214871658872686752 : UInt64) p1 (FP.ddiv (FP.i2d (p2 % (2048 : Int32))) (4616189618054758400 : UInt64))) (0 : UInt64)) .g))])
          refine GoW.step (fun _ k => XS.ifNo X8.here hx rfl (hb hby at_144) rfl (lt_y (own_resN hc85_9 hc107_10 hc124_11)) k) ?_
          show GoW _ _ _ _ _ _ _ T8 (mkF m 147 #[.val (.int p0), .val (.int p1), .val (.int p2), .val (.int p3), .val (.int p4), .val (.int (1 : Int32)), .val (.int (p0 &&& (1023 : Int32))), .val (.int (p2 % (2048 : Int32))), .val (.int (p3 &&& (65535 : Int32))), .val (.double (9214871658872686752 : UInt64)), .second, .val (.double (FP.ddiv (FP.i2d (p2 % (2048 : Int32))) (4616189618054758400 : UInt64))), .second, .val (.ref b6), .val (.double (resW (9214871658872686752 : UInt64) p1 (FP.ddiv (FP.i2d (p2 % (2048 : Int32))) (4616189618054758400 : UInt64)))), .second, .unset, .unset] [])
          refine GoW.step (fun _ k => XS.iconst X8.here hx rfl (hb hby at_147) k) ?_
          show GoW _ _ _ _ _ _ _ T8 (mkF m 148 #[.val (.int p0), .val (.int p1), .val (.int p2), .val (.int p3), .val (.int p4), .val (.int (1 : Int32)), .val (.int (p0 &&& (1023 : Int32))), .val (.int (p2 % (2048 : Int32))), .val (.int (p3 &&& (65535 : Int32))), .val (.double (9214871658872686752 : UInt64)), .second, .val (.double (FP.ddiv (FP.i2d (p2 % (2048 : Int32))) (4616189618054758400 : UInt64))), .second, .val (.ref b6), .val (.double (resW (9214871658872686752 : UInt64) p1 (FP.ddiv (FP.i2d (p2 % (2048 : Int32))) (4616189618054758400 : UInt64)))), .second, .unset, .unset] [(.int (1 : Int32))])
          refine GoW.step (fun _ k => XS.goto X8.here hx rfl (pc0 := 148) (pc' := 152) rfl (hb hby at_148) (by decide) (by decide) k) ?_
          show GoW _ _ _ _ _ _ _ T8 (mkF m 152 #[.val (.int p0), .val (.int p1), .val (.int p2), .val (.int p3), .val (.int p4), .val (.int (1 : Int32)), .val (.int (p0 &&& (1023 : Int32))), .val (.int (p2 % (2048 : Int32))), .val (.int (p3 &&& (65535 : Int32))), .val (.double (9214871658872686752 : UInt64)), .second, .val (.double (FP.ddiv (FP.i2d (p2 % (2048 : Int32))) (4616189618054758400 : UInt64))), .second, .val (.ref b6), .val (.double (resW (9214871658872686752 : UInt64) p1 (FP.ddiv (FP.i2d (p2 % (2048 : Int32))) (4616189618054758400 : UInt64)))), .second, .unset, .unset] [(.int (1 : Int32))])
          refine GoW.retZ X8 hS hk_7 hh8 hx hlk hret (by decide) (hb hby at_152) (by decide) (by decide) ?_
          try rw [hh8]
          exact ⟨rfl, N8⟩
    · refine GoW.step (fun _ k => XS.ifNo X8.here hx rfl (hb hby at_85) rfl ((if0 _ _).trans (flt hc85_9).2.2.1) k) ?_
      show GoW _ _ _ _ _ _ _ T8 (mkF m 88 #[.val (.int p0), .val (.int p1), .val (.int p2), .val (.int p3), .val (.int p4), .val (.int (1 : Int32)), .val (.int (p0 &&& (1023 : Int32))), .val (.int (p2 % (2048 : Int32))), .val (.int (p3 &&& (65535 : Int32))), .val (.double (9214871658872686752 : UInt64)), .second, .val (.double (FP.ddiv (FP.i2d (p2 % (2048 : Int32))) (4616189618054758400 : UInt64))), .second, .val (.ref b6), .val (.double (resW (9214871658872686752 : UInt64) p1 (FP.ddiv (FP.i2d (p2 % (2048 : Int32))) (4616189618054758400 : UInt64)))), .second, .unset, .unset] [])
      refine GoW.step (fun _ k => XS.dload X8.here hx rfl (hb hby at_88) rfl k) ?_
      show GoW _ _ _ _ _ _ _ T8 (mkF m 90 #[.val (.int p0), .val (.int p1), .val (.int p2), .val (.int p3), .val (.int p4), .val (.int (1 : Int32)), .val (.int (p0 &&& (1023 : Int32))), .val (.int (p2 % (2048 : Int32))), .val (.int (p3 &&& (65535 : Int32))), .val (.double (9214871658872686752 : UInt64)), .second, .val (.double (FP.ddiv (FP.i2d (p2 % (2048 : Int32))) (4616189618054758400 : UInt64))), .second, .val (.ref b6), .val (.double (resW (9214871658872686752 : UInt64) p1 (FP.ddiv (FP.i2d (p2 % (2048 : Int32))) (4616189618054758400 : UInt64)))), .second, .unset, .unset] [(.double (resW (9214871658872686752 : UInt64) p1 (FP.ddiv (FP.i2d (p2 % (2048 : Int32))) (4616189618054758400 : UInt64))))])
      refine GoW.step (fun _ k => XS.dconst0 X8.here hx rfl (hb hby at_90) rfl k) ?_
      show GoW _ _ _ _ _ _ _ T8 (mkF m 91 #[.val (.int p0), .val (.int p1), .val (.int p2), .val (.int p3), .val (.int p4), .val (.int (1 : Int32)), .val (.int (p0 &&& (1023 : Int32))), .val (.int (p2 % (2048 : Int32))), .val (.int (p3 &&& (65535 : Int32))), .val (.double (9214871658872686752 : UInt64)), .second, .val (.double (FP.ddiv (FP.i2d (p2 % (2048 : Int32))) (4616189618054758400 : UInt64))), .second, .val (.ref b6), .val (.double (resW (9214871658872686752 : UInt64) p1 (FP.ddiv (FP.i2d (p2 % (2048 : Int32))) (4616189618054758400 : UInt64)))), .second, .unset, .unset] [(.double (0 : UInt64)), (.double (resW (9214871658872686752 : UInt64) p1 (FP.ddiv (FP.i2d (p2 % (2048 : Int32))) (4616189618054758400 : UInt64))))])
      refine GoW.step (fun _ k => XS.dcmpS X8.here hx rfl (hb hby at_91) rfl rfl k) ?_
      show GoW _ _ _ _ _ _ _ T8 (mkF m 92 #[.val (.int p0), .val (.int p1), .val (.int p2), .val (.int p3), .val (.int p4), .val (.int (1 : Int32)), .val (.int (p0 &&& (1023 : Int32))), .val (.int (p2 % (2048 : Int32))), .val (.int (p3 &&& (65535 : Int32))), .val (.double (9214871658872686752 : UInt64)), .second, .val (.double (FP.ddiv (FP.i2d (p2 % (2048 : Int32))) (4616189618054758400 : UInt64))), .second, .val (.ref b6), .val (.double (resW (9214871658872686752 : UInt64) p1 (FP.ddiv (FP.i2d (p2 % (2048 : Int32))) (4616189618054758400 : UInt64)))), .second, .unset, .unset] [(.int (cmpValue (FP.dcmp (resW (9214871658872686752 : UInt64) p1 (FP.ddiv (FP.i2d (p2 % (2048 : Int32))) (4616189618054758400 : UInt64))) (0 : UInt64)) .l))])
      refine GoW.step (fun _ k => XS.ifNo X8.here hx rfl (hb hby at_92) rfl (eq_y .l (own_res0 hc85_9)).1 k) ?_
      show GoW _ _ _ _ _ _ _ T8 (mkF m 95 #[.val (.int p0), .val (.int p1), .val (.int p2), .val (.int p3), .val (.int p4), .val (.int (1 : Int32)), .val (.int (p0 &&& (1023 : Int32))), .val (.int (p2 % (2048 : Int32))), .val (.int (p3 &&& (65535 : Int32))), .val (.double (9214871658872686752 : UInt64)), .second, .val (.double (FP.ddiv (FP.i2d (p2 % (2048 : Int32))) (4616189618054758400 : UInt64))), .second, .val (.ref b6), .val (.double (resW (9214871658872686752 : UInt64) p1 (FP.ddiv (FP.i2d (p2 % (2048 : Int32))) (4616189618054758400 : UInt64)))), .second, .unset, .unset] [])
      refine GoW.step (fun _ k => XS.iconst X8.here hx rfl (hb hby at_95) k) ?_
      show GoW _ _ _ _ _ _ _ T8 (mkF m 96 #[.val (.int p0), .val (.int p1), .val (.int p2), .val (.int p3), .val (.int p4), .val (.int (1 : Int32)), .val (.int (p0 &&& (1023 : Int32))), .val (.int (p2 % (2048 : Int32))), .val (.int (p3 &&& (65535 : Int32))), .val (.double (9214871658872686752 : UInt64)), .second, .val (.double (FP.ddiv (FP.i2d (p2 % (2048 : Int32))) (4616189618054758400 : UInt64))), .second, .val (.ref b6), .val (.double (resW (9214871658872686752 : UInt64) p1 (FP.ddiv (FP.i2d (p2 % (2048 : Int32))) (4616189618054758400 : UInt64)))), .second, .unset, .unset] [(.int (1 : Int32))])
      refine GoW.step (fun _ k => XS.goto X8.here hx rfl (pc0 := 96) (pc' := 100) rfl (hb hby at_96) (by decide) (by decide) k) ?_
      show GoW _ _ _ _ _ _ _ T8 (mkF m 100 #[.val (.int p0), .val (.int p1), .val (.int p2), .val (.int p3), .val (.int p4), .val (.int (1 : Int32)), .val (.int (p0 &&& (1023 : Int32))), .val (.int (p2 % (2048 : Int32))), .val (.int (p3 &&& (65535 : Int32))), .val (.double (9214871658872686752 : UInt64)), .second, .val (.double (FP.ddiv (FP.i2d (p2 % (2048 : Int32))) (4616189618054758400 : UInt64))), .second, .val (.ref b6), .val (.double (resW (9214871658872686752 : UInt64) p1 (FP.ddiv (FP.i2d (p2 % (2048 : Int32))) (4616189618054758400 : UInt64)))), .second, .unset, .unset] [(.int (1 : Int32))])
      refine GoW.retZ X8 hS hk_7 hh8 hx hlk hret (by decide) (hb hby at_100) (by decide) (by decide) ?_
      try rw [hh8]
      exact ⟨rfl, N8⟩
theorem pn_0 : plainName "com/example/headroom/headroom/PriceSheetReservedCostPinLaw" = true := by first | (simp [plainName, overriddenIn]; done) | decide +kernel
theorem ef_rm0 (m : MethodId) (p0 : Int32) (p1 : Int32) (p2 : Int32) (p3 : Int32) (p4 : Int32) : entryFrame m #[(.int p0), (.int p1), (.int p2), (.int p3), (.int p4)] maxLocals = mkF m 0 #[.val (.int p0), .val (.int p1), .val (.int p2), .val (.int p3), .val (.int p4), .unset, .unset, .unset, .unset, .unset, .unset, .unset, .unset, .unset, .unset, .unset, .unset, .unset] [] := by first | (simp [entryFrame, mkF, argsToLocals, Value.category, maxLocals]; done) | rfl
theorem rm0 (l : Launch) (Z : State) (a0 : Array Value) (hw : ∀ d ∈ tables_1, d.before a0 Z = true) (ws : List Jvm.Cond) (p0 p1 p2 p3 p4 : Int32) (h0 : Heap) (n0 : Nat) (Z0 : n0 ≤ h0.size)  :
    MetFree l x (head1 (Jvm.Cond.code x code maxLocals ret :: ws) room_1) (fun a U => a = #[(.int p0), (.int p1), (.int p2), (.int p3), (.int p4)] ∧ Z.Warmed39 U.vm ∧ U.heap = h0) (fun _ _ _ _ _ => True) (fun _ U o U' => ∃ v L, o = .returned v ∧ (fun r h L => r = some (.int 1) ∧ Fr n0 L) v U'.heap L ∧ ReturnedEndW U o U' L room_1.cells room_1.slots) :=
  con_ofW (plainFor_of_name pn_0) (fun p_ e_ s_ m_ b_ meth_ c_ T_ X_ hx hZ hby hml hown hnm hret hlk e0 => GoW.cast (ef_rm0 m_ p0 p1 p2 p3 p4) (w0 p0 p1 p2 p3 p4 X_ hx hZ hw hby hml hown hnm hret hlk e0 Z0 (Fr.nil n0) ))
set_option maxRecDepth 65536 in
set_option maxHeartbeats 40000000 in
theorem comes_1 {Post : Tables → Env → Array Value → State → Outcome → State → Prop} (hpost : ∀ tb e args s v u, (limb_1_1.after args s (.returned v) u = true ∧ limb_1_2.after args s (.returned v) u = true ∧ True) → ReturnedEndW s (.returned v) u (Jvm.fieldLocs frame_1_writes args s ++ Jvm.arrayLocs frame_1_arrays args s ++ Jvm.staticLocs frame_1_statics s) 16 2176 → Post tb e args s (.returned v) u) :
    ArmFor flags0 classFile x code maxLocals ret World_1 tables_1 room_1 Calls_1 rest_1 Pre_1 Post := by
  intro l hfl _ _ p e ha hc hk s m args below hf hA hF happ hP
  obtain ⟨hcalls, hrest, hpre⟩ := hP
  obtain ⟨-, -, -, hnamed, -, -, -, hat⟩ := (Spec.applies_iff hf).mp happ
  obtain ⟨hg, hn⟩ := and_e (Cond.before_iff.mp (show (Jvm.Cond.and given_1 narrow_1).before args s = true from hpre))
  obtain ⟨g1, g2⟩ := and_e hg
  obtain ⟨g3, g4⟩ := and_e g2
  obtain ⟨g5, g6⟩ := and_e g4
  obtain ⟨g7, g8⟩ := and_e g6
  obtain ⟨g9, g10⟩ := and_e g8
  obtain ⟨w0, w1, w2, w3, w4, rfl⟩ : ∃ w0 w1 w2 w3 w4 : Value, args = #[w0, w1, w2, w3, w4] := by
    have hs : args.size = 5 := by simpa [Cond.value, given_1] using g1
    obtain ⟨L⟩ := args
    match L, hs with
    | [w0, w1, w2, w3, w4], _ => exact ⟨w0, w1, w2, w3, w4, rfl⟩
  have hw := fun d (hd : d ∈ tables_1) => atoms_spec (ws := Jvm.Cond.code x code maxLocals ret :: tables_1) hat d (List.mem_cons_of_mem _ hd)
  have hfit : Fit s := fun {y c} hc i hi => by
    obtain ⟨ha, rfl⟩ := Array.getElem?_eq_some_iff.mp hc
    have q := List.all_eq_true.mp ((Array.all_eq_true_iff_forall_mem.mp hF) _ (Array.getElem_mem ha)) i (List.mem_range.mpr hi)
    simpa [Array.getElem?_eq_getElem hi] using q
  obtain ⟨i0, ei0⟩ := is_v g3
  obtain rfl : w0 = (.int i0) := Option.some.inj ei0
  obtain ⟨i1, ei1⟩ := is_v g5
  obtain rfl : w1 = (.int i1) := Option.some.inj ei1
  obtain ⟨i2, ei2⟩ := is_v g7
  obtain rfl : w2 = (.int i2) := Option.some.inj ei2
  obtain ⟨i3, ei3⟩ := is_v g9
  obtain rfl : w3 = (.int i3) := Option.some.inj ei3
  obtain ⟨i4, ei4⟩ := is_v g10
  obtain rfl : w4 = (.int i4) := Option.some.inj ei4
  obtain ⟨n, o, h1, h2, h3, _, L, rfl, ⟨rfl, N⟩, hq⟩ := rm0 l s _ hw tables_1 i0 i1 i2 i3 i4 s.heap s.heap.size (Nat.le_refl _)  p e ha hc hk s m _ below hf ((Spec.applies_iff_loose hf).mp happ).1 ⟨rfl, State.Warmed39.refl s, rfl⟩ trivial
  refine ⟨n, _, h1, h2, h3, hpost _ _ _ _ _ _ ⟨Cond.after_iff.mpr rfl, Cond.after_iff.mpr (eq_i res_at (Term.int_eval (1)) rfl), trivial⟩ ⟨hq.1, hq.2.1, hq.2.2.1, (hq.2.2.2.sift fun y hy => Or.inr (N y hy)).mono (by decide) (by decide)⟩⟩
theorem main_1_1 : Claimed_1_1 := comes_1 fun _ _ _ _ _ _ h hF => ⟨h.1, hF⟩
theorem main_1_2 : Claimed_1_2 := comes_1 fun _ _ _ _ _ _ h hF => ⟨h.2.1, hF⟩
end Jvm.Pilot.@@N@@
namespace Jvm.Pilot.@@N@@
open Jvm Jvm.ClassFile Sem Op Lib Jvm.Free Jvm.Stand Jvm.Pilot.@@N@@.Jvm.D
/-! MADE BY PROGRAM (witnessworld.py) out of the Statement's table words and the real class files: 18 classes; the members and pool entries that the words name. The judged class is class 1, her method 1. -/
namespace start1
open Jvm.ClassFile
def u (s : String) : CpInfo := .utf8 (stringToUtf16 s)
/-- a pool by its gaps: so many unusable entries, then the entry; so many at the end -/
def gap : Nat → List CpInfo → List CpInfo
  | 0, r => r
  | n + 1, r => .unusable :: gap n r
def poolList (es : List (Nat × CpInfo)) (last : Nat) : List CpInfo := es.foldr (fun e r => gap e.1 (e.2 :: r)) (gap last [])
def pool (es : List (Nat × CpInfo)) (last : Nat) : Array CpInfo := ⟨poolList es last⟩
def fileOf (pool : Array CpInfo) (this : Nat) (attrs : Array Attribute := #[]) (ms : Array MethodInfo := #[]) (fl : Nat := 33) (sup : Nat := 0) (ifs : Array Nat := #[]) (fds : Array FieldInfo := #[]) : ClassFile where
  minorVersion := 0
  majorVersion := 65
  constantPool := pool
  accessFlags := fl
  thisClass := this
  superClass := sup
  interfaces := ifs
  fields := fds
  methods := ms
  attributes := attrs
def plain (name : String) (sup : Option ClassId) : Class where
  name := name
  kind := .ordinary
  loader := none
  accessFlags := 33
  super := sup
  interfaces := #[]
  cf := none
  fields := #[]
  methods := #[]
  instanceTypes := #[]
  staticTypes := #[]
  resolved := #[]
  callSites := []
  init := .initialized
  statics := none
  mirror := none

def pool0 : Array CpInfo := pool [(5, u "<init>"), (0, u "()V"), (1, .class_ 10), (1, u "java/lang/Object")] 113

def k0c0 : Code := { maxStack := 0, maxLocals := 1, code := object_method_1_code, exceptionTable := #[], attributes := #[] }
def k0m0 : Method := { name := "<init>", desc := "()V", sig := { parameters := [], returnType := none }, accessFlags := 1, code := some k0c0 }
/-- java/lang/Object -/
def k0 : Class := { plain "java/lang/Object" none with
  accessFlags := 33
  interfaces := #[]
  cf := some (fileOf pool0 8 #[] #[{ accessFlags := 1, nameIndex := 5, descriptorIndex := 6, attributes := #[] }] 33 0 #[] #[])
  fields := #[]
  methods := #[k0m0]
  instanceTypes := #[]
  staticTypes := #[]
  resolved := Array.replicate 124 none
  statics := none }

def pool1 : Array CpInfo := pool [(2, .class_ 4), (1, u "java/lang/Object"), (0, u "<init>"), (0, u "()V"), (0, .integer 65535), (0, .double 9214871658872686752), (1, .double 4616189618054758400), (1, .class_ 13), (0, u "com/example/headroom/headroom/PriceSheet"), (0, .methodref 12 15), (0, .nameAndType 5 16), (0, u "(DD)V"), (0, .methodref 12 18), (0, .nameAndType 19 20), (0, u "reservedCost"), (0, u "(ID)D"), (0, .class_ 22), (0, u "com/example/headroom/headroom/PriceSheetReservedCostPinLaw"), (2, u "law"), (0, u "(IIIII)Z")] 3

def k1m0 : Method := { name := "<init>", desc := "()V", sig := { parameters := [], returnType := none }, accessFlags := 1, code := none }
def k1c1 : Code := { maxStack := 6, maxLocals := 18, code := code, exceptionTable := #[], attributes := #[] }
def k1m1 : Method := { name := "law", desc := "(IIIII)Z", sig := { parameters := [.int, .int, .int, .int, .int], returnType := some .boolean }, accessFlags := 9, code := some k1c1 }
/-- com/example/headroom/headroom/PriceSheetReservedCostPinLaw -/
def k1 : Class := { plain "com/example/headroom/headroom/PriceSheetReservedCostPinLaw" (some 0) with
  accessFlags := 49
  interfaces := #[]
  cf := some (fileOf pool1 21 #[] #[{ accessFlags := 1, nameIndex := 5, descriptorIndex := 6, attributes := #[] }, { accessFlags := 9, nameIndex := 25, descriptorIndex := 26, attributes := #[] }] 49 2 #[] #[])
  fields := #[]
  methods := #[k1m0, k1m1]
  instanceTypes := #[]
  staticTypes := #[]
  resolved := Array.replicate 30 none
  statics := none }

def pool2 : Array CpInfo := pool [(1, .methodref 2 3), (0, .class_ 4), (0, .nameAndType 5 6), (0, u "java/lang/Object"), (0, u "<init>"), (0, u "()V"), (0, .class_ 8), (0, u "java/lang/Record")] 13

def k2c0 : Code := { maxStack := 1, maxLocals := 1, code := jdk_30_method_1_code, exceptionTable := #[], attributes := #[] }
def k2m0 : Method := { name := "<init>", desc := "()V", sig := { parameters := [], returnType := none }, accessFlags := 4, code := some k2c0 }
/-- java/lang/Record -/
def k2 : Class := { plain "java/lang/Record" (some 0) with
  accessFlags := 1057
  interfaces := #[]
  cf := some (fileOf pool2 7 #[] #[{ accessFlags := 4, nameIndex := 5, descriptorIndex := 6, attributes := #[] }] 1057 2 #[] #[])
  fields := #[]
  methods := #[k2m0]
  instanceTypes := #[]
  staticTypes := #[]
  resolved := Array.replicate 22 none
  statics := none }

def pool3 : Array CpInfo := pool [(1, .methodref 2 3), (0, .class_ 4), (0, .nameAndType 5 6), (0, u "java/lang/Record"), (0, u "<init>"), (0, u "()V"), (0, .string 8), (0, u "setup cost"), (0, .methodref 10 11), (0, .class_ 12), (0, .nameAndType 13 14), (0, u "com/example/headroom/headroom/PriceSheet"), (0, u "requirePrice"), (0, u "(Ljava/lang/String;D)V"), (0, .string 16), (0, u "unit cost"), (0, .fieldref 10 18), (0, .nameAndType 19 20), (0, u "setupCost"), (0, u "D"), (0, .fieldref 10 22), (0, .nameAndType 23 20), (0, u "unitCost"), (2, u "reservedCost"), (0, u "(ID)D"), (0, .methodref 29 30), (0, .class_ 31), (0, .nameAndType 32 33), (0, u "java/lang/Double"), (0, u "isFinite"), (0, u "(D)Z"), (37, u "(DD)V")] 30

def k3c0 : Code := { maxStack := 3, maxLocals := 5, code := prog_18_method_1_code, exceptionTable := #[], attributes := #[] }
def k3m0 : Method := { name := "<init>", desc := "(DD)V", sig := { parameters := [.double, .double], returnType := none }, accessFlags := 1, code := some k3c0 }
def k3c1 : Code := { maxStack := 4, maxLocals := 4, code := prog_18_method_3_code, exceptionTable := #[], attributes := #[] }
def k3m1 : Method := { name := "reservedCost", desc := "(ID)D", sig := { parameters := [.int, .double], returnType := some .double }, accessFlags := 1, code := some k3c1 }
def k3c2 : Code := { maxStack := 9, maxLocals := 3, code := prog_18_method_4_code, exceptionTable := #[], attributes := #[] }
def k3m2 : Method := { name := "requirePrice", desc := "(Ljava/lang/String;D)V", sig := { parameters := [(.object "java/lang/String"), .double], returnType := none }, accessFlags := 8, code := some k3c2 }
/-- com/example/headroom/headroom/PriceSheet -/
def k3 : Class := { plain "com/example/headroom/headroom/PriceSheet" (some 2) with
  accessFlags := 49
  interfaces := #[]
  cf := some (fileOf pool3 10 #[] #[{ accessFlags := 1, nameIndex := 5, descriptorIndex := 71, attributes := #[] }, { accessFlags := 1, nameIndex := 26, descriptorIndex := 27, attributes := #[] }, { accessFlags := 8, nameIndex := 13, descriptorIndex := 14, attributes := #[] }] 49 2 #[] #[{ accessFlags := 18, nameIndex := 19, descriptorIndex := 20, attributes := #[] }, { accessFlags := 18, nameIndex := 23, descriptorIndex := 20, attributes := #[] }])
  fields := #[{ name := "setupCost", type := .double, accessFlags := 18, slot := 0, constantValue := 0 }, { name := "unitCost", type := .double, accessFlags := 18, slot := 1, constantValue := 0 }]
  methods := #[k3m0, k3m1, k3m2]
  instanceTypes := #[.double, .double]
  staticTypes := #[]
  resolved := Array.replicate 102 none
  statics := none }

def pool4 : Array CpInfo := pool [(1, .class_ 2), (0, u "java/io/Serializable"), (0, .class_ 4), (0, u "java/lang/Object")] 2

/-- java/io/Serializable -/
def k4 : Class := { plain "java/io/Serializable" (some 0) with
  accessFlags := 1537
  interfaces := #[]
  cf := some (fileOf pool4 1 #[] #[] 1537 3 #[] #[])
  fields := #[]
  methods := #[]
  instanceTypes := #[]
  staticTypes := #[]
  resolved := Array.replicate 7 none
  statics := none }

def pool5 : Array CpInfo := pool [(1, .class_ 2), (0, u "java/lang/Comparable"), (0, .class_ 4), (0, u "java/lang/Object")] 7

/-- java/lang/Comparable -/
def k5 : Class := { plain "java/lang/Comparable" (some 0) with
  accessFlags := 1537
  interfaces := #[]
  cf := some (fileOf pool5 1 #[] #[] 1537 3 #[] #[])
  fields := #[]
  methods := #[]
  instanceTypes := #[]
  staticTypes := #[]
  resolved := Array.replicate 12 none
  statics := none }

def pool6 : Array CpInfo := pool [(2, .class_ 4), (1, u "java/lang/CharSequence"), (42, .class_ 48), (0, u "java/lang/CharSequence$1CodePointIterator"), (10, .class_ 60), (0, u "java/lang/CharSequence$1CharIterator"), (5, .class_ 67), (0, u "java/lang/Object")] 63

/-- java/lang/CharSequence -/
def k6 : Class := { plain "java/lang/CharSequence" (some 0) with
  accessFlags := 1537
  interfaces := #[]
  cf := some (fileOf pool6 2 #[.nestMembers #[47, 59]] #[] 1537 66 #[] #[])
  fields := #[]
  methods := #[]
  instanceTypes := #[]
  staticTypes := #[]
  resolved := Array.replicate 131 none
  statics := none }

def pool7 : Array CpInfo := pool [(1, .class_ 2), (0, u "java/lang/constant/Constable"), (0, .class_ 4), (0, u "java/lang/Object")] 6

/-- java/lang/constant/Constable -/
def k7 : Class := { plain "java/lang/constant/Constable" (some 0) with
  accessFlags := 1537
  interfaces := #[]
  cf := some (fileOf pool7 1 #[] #[] 1537 3 #[] #[])
  fields := #[]
  methods := #[]
  instanceTypes := #[]
  staticTypes := #[]
  resolved := Array.replicate 11 none
  statics := none }

def pool8 : Array CpInfo := pool [(1, .class_ 2), (0, u "java/lang/constant/ConstantDesc"), (0, .class_ 4), (0, u "java/lang/Object")] 32

/-- java/lang/constant/ConstantDesc -/
def k8 : Class := { plain "java/lang/constant/ConstantDesc" (some 0) with
  accessFlags := 1537
  interfaces := #[]
  cf := some (fileOf pool8 1 #[] #[] 1537 3 #[] #[])
  fields := #[]
  methods := #[]
  instanceTypes := #[]
  staticTypes := #[]
  resolved := Array.replicate 37 none
  statics := none }

def pool9 : Array CpInfo := pool [(2, .class_ 4), (1, u "java/lang/Object"), (0, u "<init>"), (0, u "()V"), (3, .class_ 12), (1, u "java/lang/String"), (0, u "value"), (0, u "[B"), (2, u "coder"), (0, u "B"), (2, u "hash"), (0, u "I"), (2, u "hashIsZero"), (0, u "Z"), (13, u "COMPACT_STRINGS"), (534, .class_ 576), (0, u "java/lang/CharSequence"), (22, u "CASE_INSENSITIVE_ORDER"), (0, u "Ljava/util/Comparator;"), (500, u "serialPersistentFields"), (0, u "[Ljava/io/ObjectStreamField;"), (0, .class_ 1104), (0, u "java/lang/String$CaseInsensitiveComparator"), (1, .class_ 1107), (0, u "java/io/Serializable"), (0, .class_ 1109), (0, u "java/lang/Comparable"), (0, .class_ 1111), (0, u "java/lang/constant/Constable"), (0, .class_ 1113), (0, u "java/lang/constant/ConstantDesc"), (2, u "serialVersionUID"), (0, u "J"), (3, u "REPL"), (0, u "C"), (2, u "LATIN1"), (1, u "UTF16")] 323

def k9m0 : Method := { name := "<init>", desc := "()V", sig := { parameters := [], returnType := none }, accessFlags := 1, code := none }
/-- java/lang/String -/
def k9 : Class := { plain "java/lang/String" (some 0) with
  accessFlags := 49
  interfaces := #[4, 5, 6, 7, 8]
  cf := some (fileOf pool9 10 #[.nestMembers #[1103]] #[{ accessFlags := 1, nameIndex := 5, descriptorIndex := 6, attributes := #[] }] 49 2 #[1106, 1108, 575, 1110, 1112] #[{ accessFlags := 18, nameIndex := 13, descriptorIndex := 14, attributes := #[] }, { accessFlags := 18, nameIndex := 17, descriptorIndex := 18, attributes := #[] }, { accessFlags := 2, nameIndex := 21, descriptorIndex := 22, attributes := #[] }, { accessFlags := 2, nameIndex := 25, descriptorIndex := 26, attributes := #[] }, { accessFlags := 26, nameIndex := 1116, descriptorIndex := 1117, attributes := #[] }, { accessFlags := 24, nameIndex := 40, descriptorIndex := 26, attributes := #[] }, { accessFlags := 26, nameIndex := 1101, descriptorIndex := 1102, attributes := #[] }, { accessFlags := 26, nameIndex := 1121, descriptorIndex := 1122, attributes := #[] }, { accessFlags := 25, nameIndex := 599, descriptorIndex := 600, attributes := #[] }, { accessFlags := 24, nameIndex := 1125, descriptorIndex := 18, attributes := #[] }, { accessFlags := 24, nameIndex := 1127, descriptorIndex := 18, attributes := #[] }])
  fields := #[{ name := "value", type := (.array .byte), accessFlags := 18, slot := 0, constantValue := 0 }, { name := "coder", type := .byte, accessFlags := 18, slot := 1, constantValue := 0 }, { name := "hash", type := .int, accessFlags := 2, slot := 2, constantValue := 0 }, { name := "hashIsZero", type := .boolean, accessFlags := 2, slot := 3, constantValue := 0 }, { name := "serialVersionUID", type := .long, accessFlags := 26, slot := 0, constantValue := 0 }, { name := "COMPACT_STRINGS", type := .boolean, accessFlags := 24, slot := 1, constantValue := 0 }, { name := "serialPersistentFields", type := (.array (.object "java/io/ObjectStreamField")), accessFlags := 26, slot := 2, constantValue := 0 }, { name := "REPL", type := .char, accessFlags := 26, slot := 3, constantValue := 0 }, { name := "CASE_INSENSITIVE_ORDER", type := (.object "java/util/Comparator"), accessFlags := 25, slot := 4, constantValue := 0 }, { name := "LATIN1", type := .byte, accessFlags := 24, slot := 5, constantValue := 0 }, { name := "UTF16", type := .byte, accessFlags := 24, slot := 6, constantValue := 0 }]
  methods := #[k9m0]
  instanceTypes := #[(.array .byte), .byte, .int, .boolean]
  staticTypes := #[.long, .boolean, (.array (.object "java/io/ObjectStreamField")), .char, (.object "java/util/Comparator"), .byte, .byte]
  resolved := Array.replicate 1451 none
  statics := none }

def pool10 : Array CpInfo := pool [(2, .class_ 4), (1, u "java/lang/Object"), (0, u "<init>"), (0, u "()V"), (1, .class_ 10), (1, u "java/lang/Number"), (2, .class_ 14), (0, u "java/io/Serializable"), (0, u "serialVersionUID"), (0, u "J")] 20

def k10m0 : Method := { name := "<init>", desc := "()V", sig := { parameters := [], returnType := none }, accessFlags := 1, code := none }
/-- java/lang/Number -/
def k10 : Class := { plain "java/lang/Number" (some 0) with
  accessFlags := 1057
  interfaces := #[4]
  cf := some (fileOf pool10 8 #[] #[{ accessFlags := 1, nameIndex := 5, descriptorIndex := 6, attributes := #[] }] 1057 2 #[13] #[{ accessFlags := 26, nameIndex := 15, descriptorIndex := 16, attributes := #[] }])
  fields := #[{ name := "serialVersionUID", type := .long, accessFlags := 26, slot := 0, constantValue := 0 }]
  methods := #[k10m0]
  instanceTypes := #[]
  staticTypes := #[.long]
  resolved := Array.replicate 37 none
  statics := none }

def pool11 : Array CpInfo := pool [(1, .class_ 2), (0, u "java/lang/Double"), (10, u "isFinite"), (0, u "(D)Z"), (8, .class_ 25), (1, u "java/lang/Math"), (12, .methodref 23 39), (0, .nameAndType 40 41), (0, u "abs"), (0, u "(D)D"), (69, .double 9218868437227405311), (2, .class_ 116), (1, u "java/lang/Number"), (3, u "value"), (0, u "D"), (51, u "TYPE"), (0, u "Ljava/lang/Class;"), (0, .class_ 176), (0, u "java/lang/Comparable"), (0, .class_ 178), (0, u "java/lang/constant/Constable"), (0, .class_ 180), (0, u "java/lang/constant/ConstantDesc"), (0, u "POSITIVE_INFINITY"), (3, u "NEGATIVE_INFINITY"), (2, u "NaN"), (2, u "MAX_VALUE"), (0, u "MIN_NORMAL"), (0, u "MIN_VALUE"), (2, u "SIZE"), (0, u "I"), (1, u "PRECISION"), (1, u "MAX_EXPONENT"), (1, u "MIN_EXPONENT"), (1, u "BYTES"), (3, u "serialVersionUID"), (0, u "J")] 79

def k11c0 : Code := { maxStack := 4, maxLocals := 2, code := jdk_117_method_8_code, exceptionTable := #[], attributes := #[] }
def k11m0 : Method := { name := "isFinite", desc := "(D)Z", sig := { parameters := [.double], returnType := some .boolean }, accessFlags := 9, code := some k11c0 }
/-- java/lang/Double -/
def k11 : Class := { plain "java/lang/Double" (some 10) with
  accessFlags := 49
  interfaces := #[5, 7, 8]
  cf := some (fileOf pool11 1 #[] #[{ accessFlags := 9, nameIndex := 13, descriptorIndex := 14, attributes := #[] }] 49 114 #[175, 177, 179] #[{ accessFlags := 25, nameIndex := 181, descriptorIndex := 121, attributes := #[] }, { accessFlags := 25, nameIndex := 185, descriptorIndex := 121, attributes := #[] }, { accessFlags := 25, nameIndex := 188, descriptorIndex := 121, attributes := #[] }, { accessFlags := 25, nameIndex := 191, descriptorIndex := 121, attributes := #[] }, { accessFlags := 25, nameIndex := 192, descriptorIndex := 121, attributes := #[] }, { accessFlags := 25, nameIndex := 193, descriptorIndex := 121, attributes := #[] }, { accessFlags := 25, nameIndex := 196, descriptorIndex := 197, attributes := #[] }, { accessFlags := 25, nameIndex := 199, descriptorIndex := 197, attributes := #[] }, { accessFlags := 25, nameIndex := 201, descriptorIndex := 197, attributes := #[] }, { accessFlags := 25, nameIndex := 203, descriptorIndex := 197, attributes := #[] }, { accessFlags := 25, nameIndex := 205, descriptorIndex := 197, attributes := #[] }, { accessFlags := 25, nameIndex := 173, descriptorIndex := 174, attributes := #[] }, { accessFlags := 18, nameIndex := 120, descriptorIndex := 121, attributes := #[] }, { accessFlags := 26, nameIndex := 209, descriptorIndex := 210, attributes := #[] }])
  fields := #[{ name := "POSITIVE_INFINITY", type := .double, accessFlags := 25, slot := 0, constantValue := 0 }, { name := "NEGATIVE_INFINITY", type := .double, accessFlags := 25, slot := 1, constantValue := 0 }, { name := "NaN", type := .double, accessFlags := 25, slot := 2, constantValue := 0 }, { name := "MAX_VALUE", type := .double, accessFlags := 25, slot := 3, constantValue := 0 }, { name := "MIN_NORMAL", type := .double, accessFlags := 25, slot := 4, constantValue := 0 }, { name := "MIN_VALUE", type := .double, accessFlags := 25, slot := 5, constantValue := 0 }, { name := "SIZE", type := .int, accessFlags := 25, slot := 6, constantValue := 0 }, { name := "PRECISION", type := .int, accessFlags := 25, slot := 7, constantValue := 0 }, { name := "MAX_EXPONENT", type := .int, accessFlags := 25, slot := 8, constantValue := 0 }, { name := "MIN_EXPONENT", type := .int, accessFlags := 25, slot := 9, constantValue := 0 }, { name := "BYTES", type := .int, accessFlags := 25, slot := 10, constantValue := 0 }, { name := "TYPE", type := (.object "java/lang/Class"), accessFlags := 25, slot := 11, constantValue := 0 }, { name := "value", type := .double, accessFlags := 18, slot := 0, constantValue := 0 }, { name := "serialVersionUID", type := .long, accessFlags := 26, slot := 12, constantValue := 0 }]
  methods := #[k11m0]
  instanceTypes := #[.double]
  staticTypes := #[.double, .double, .double, .double, .double, .double, .int, .int, .int, .int, .int, (.object "java/lang/Class"), .long]
  resolved := Array.replicate 290 none
  statics := none }

def pool12 : Array CpInfo := pool [(1, .class_ 2), (0, u "java/lang/Math"), (1, .class_ 6), (1, u "java/lang/Object"), (0, u "<init>"), (0, u "()V"), (5, u "(D)D"), (83, .class_ 100), (1, u "java/lang/Math$RandomNumberGeneratorHolder"), (23, u "abs"), (47, u "negativeZeroFloatBits"), (0, u "J"), (2, u "negativeZeroDoubleBits"), (68, u "$assertionsDisabled"), (0, u "Z"), (91, u "twoToTheDoubleScaleDown"), (0, u "D"), (4, u "twoToTheDoubleScaleUp"), (9, u "E"), (3, u "PI"), (2, u "TAU"), (2, u "DEGREES_TO_RADIANS"), (0, u "RADIANS_TO_DEGREES")] 94

def k12m0 : Method := { name := "<init>", desc := "()V", sig := { parameters := [], returnType := none }, accessFlags := 2, code := none }
def k12c1 : Code := { maxStack := 4, maxLocals := 2, code := jdk_29_method_64_code, exceptionTable := #[], attributes := #[] }
def k12m1 : Method := { name := "abs", desc := "(D)D", sig := { parameters := [.double], returnType := some .double }, accessFlags := 9, code := some k12c1 }
/-- java/lang/Math -/
def k12 : Class := { plain "java/lang/Math" (some 0) with
  accessFlags := 49
  interfaces := #[]
  cf := some (fileOf pool12 1 #[.nestMembers #[98]] #[{ accessFlags := 2, nameIndex := 7, descriptorIndex := 8, attributes := #[] }, { accessFlags := 9, nameIndex := 124, descriptorIndex := 14, attributes := #[] }] 49 4 #[] #[{ accessFlags := 25, nameIndex := 354, descriptorIndex := 339, attributes := #[] }, { accessFlags := 25, nameIndex := 358, descriptorIndex := 339, attributes := #[] }, { accessFlags := 25, nameIndex := 361, descriptorIndex := 339, attributes := #[] }, { accessFlags := 26, nameIndex := 364, descriptorIndex := 339, attributes := #[] }, { accessFlags := 26, nameIndex := 365, descriptorIndex := 339, attributes := #[] }, { accessFlags := 26, nameIndex := 172, descriptorIndex := 173, attributes := #[] }, { accessFlags := 26, nameIndex := 176, descriptorIndex := 173, attributes := #[] }, { accessFlags := 8, nameIndex := 344, descriptorIndex := 339, attributes := #[] }, { accessFlags := 8, nameIndex := 338, descriptorIndex := 339, attributes := #[] }, { accessFlags := 4120, nameIndex := 245, descriptorIndex := 246, attributes := #[] }])
  fields := #[{ name := "E", type := .double, accessFlags := 25, slot := 0, constantValue := 0 }, { name := "PI", type := .double, accessFlags := 25, slot := 1, constantValue := 0 }, { name := "TAU", type := .double, accessFlags := 25, slot := 2, constantValue := 0 }, { name := "DEGREES_TO_RADIANS", type := .double, accessFlags := 26, slot := 3, constantValue := 0 }, { name := "RADIANS_TO_DEGREES", type := .double, accessFlags := 26, slot := 4, constantValue := 0 }, { name := "negativeZeroFloatBits", type := .long, accessFlags := 26, slot := 5, constantValue := 0 }, { name := "negativeZeroDoubleBits", type := .long, accessFlags := 26, slot := 6, constantValue := 0 }, { name := "twoToTheDoubleScaleUp", type := .double, accessFlags := 8, slot := 7, constantValue := 0 }, { name := "twoToTheDoubleScaleDown", type := .double, accessFlags := 8, slot := 8, constantValue := 0 }, { name := "$assertionsDisabled", type := .boolean, accessFlags := 4120, slot := 9, constantValue := 0 }]
  methods := #[k12m0, k12m1]
  instanceTypes := #[]
  staticTypes := #[.double, .double, .double, .double, .double, .long, .long, .double, .double, .boolean]
  resolved := Array.replicate 460 none
  statics := none }

def pool13 : Array CpInfo := pool [(1, u "java/lang/Cloneable"), (0, .class_ 1), (0, u "java/lang/Object"), (0, .class_ 3)] 3

/-- java/lang/Cloneable -/
def k13 : Class := { plain "java/lang/Cloneable" (some 0) with
  accessFlags := 1537
  interfaces := #[]
  cf := some (fileOf pool13 2 #[] #[] 1537 4 #[] #[])
  fields := #[]
  methods := #[]
  instanceTypes := #[]
  staticTypes := #[]
  resolved := Array.replicate 8 none
  statics := none }

/-- the primitive byte -/
def k14 : Class := { plain "byte" none with kind := .primitive 'B', accessFlags := 0x411 }
/-- [B -/
def k15 : Class := { plain "[B" (some 0) with kind := .array 14 .byte, interfaces := #[13, 4], accessFlags := 1041 }

/-- the primitive int -/
def k16 : Class := { plain "int" none with kind := .primitive 'I', accessFlags := 0x411 }
/-- [I -/
def k17 : Class := { plain "[I" (some 0) with kind := .array 16 .int, interfaces := #[13, 4], accessFlags := 1041 }

def heap : Heap := #[]
def classes : Array Class := #[k0, k1, k2, k3, k4, k5, k6, k7, k8, k9, k10, k11, k12, k13, k14, k15, k16, k17]
def interned : List (Array UInt16 × Addr) := []
def slotsUsed : Nat := 0
def theMethod : MethodId := ⟨1, 1⟩
def args0 : Array Value := #[.int 3, .int 2, .int 5, .int 6, .int 1]
def aboutOver (below : List Frame) : State where
  vm := { classes := classes, interned := interned.toArray }
  heap := heap
  slotsUsed := slotsUsed
  threads := #[{ frames := .invoking theMethod args0 :: below }]
def below0 : List Frame := [.native { method := ⟨0, 0⟩, args := #[] }]
def about1 : State := aboutOver below0
def p0 : Program := .bare "" "" ""
def e0 : Env := launch0.env 0 0 0
theorem w_frames : about1.frames = Frame.invoking theMethod args0 :: below0 := rfl
set_option maxRecDepth 65536 in
theorem w_args : argsFit about1.vm theMethod args0 = true := by decide +kernel
set_option maxRecDepth 65536 in
theorem w_heap : heapFits about1 = true := by decide +kernel
set_option maxRecDepth 65536 in
theorem w_runnable : about1.curStatus? = some .runnable := by decide +kernel
set_option maxRecDepth 65536 in
theorem w_alone : about1.alone = true := by decide +kernel
set_option maxRecDepth 65536 in
theorem w_named : about1.methodNamed? x = some theMethod := by decide +kernel
set_option maxRecDepth 65536 in
theorem w_hears : about1.hears theMethod below0 = true := by decide +kernel
set_option maxRecDepth 65536 in
theorem w_ripe : about1.ripe theMethod args0 below0 = true := by decide +kernel
theorem w_running : about1.status = .running := rfl
set_option maxRecDepth 65536 in
theorem w_room : about1.hasRoom e0.platform room_1 = true :=
  launch0.hasRoom_least _ room_1 (by decide +kernel) (by decide +kernel) (by decide +kernel) (by decide +kernel) (by decide +kernel) (by decide +kernel)
theorem allAtoms_all (ts : List Jvm.Cond) (a : Array Jvm.Value) (st : Jvm.State) : (allAtoms ts).before a st = ts.all (fun c => c.before a st) := by
  induction ts with
  | nil => rfl
  | cons c t ih =>
    show (Jvm.Cond.and c (allAtoms t)).before a st = _
    rw [Jvm.Cond.before_and, ih, List.all_cons]
def words1 : List Jvm.Cond := Jvm.Cond.code x code maxLocals ret :: tables_1
/-- a 'code' word, met by the world's own term for the bytes: nothing is compared byte by byte -/
theorem code_word {y : MethodName} {bytes : ByteArray} {mx : Nat} {rt : Option FieldType} {a : Array Value} {s : State} {m : MethodId} {meth : Method} {c : Code} (h1 : s.methodNamed? y = some m) (h2 : s.vm.method? m = some meth) (h3 : meth.code = some c) (h4 : c.code = bytes)
    (h5 : (c.maxLocals == mx && c.exceptionTable.isEmpty && decide (c.maxStack ≤ mostOperands) && decide (meth.sig.returnType = rt) && !meth.locks && decide (parseMethodDescriptor y.desc = some meth.sig)) = true) : (Jvm.Cond.code y bytes mx rt).before a s = true := by
  simp only [Bool.and_eq_true, beq_iff_eq, Bool.not_eq_true', decide_eq_true_eq] at h5
  obtain ⟨⟨⟨⟨⟨g1, g2⟩, g3⟩, g4⟩, g5⟩, g6⟩ := h5
  simp [Cond.before, Cond.holds, Cond.value, h1, h2, h3, h4, g1, g2, g3, g4, g5, g6]
def isCode : Jvm.Cond → Bool
  | .code _ _ _ _ => true
  | _ => false
theorem all_split {L : List Jvm.Cond} {P : Jvm.Cond → Bool} (h1 : L.all (fun c => isCode c || P c) = true) (h2 : ∀ c ∈ L.filter isCode, P c = true) : L.all P = true := by
  refine List.all_eq_true.mpr fun c hc => ?_
  have h := List.all_eq_true.mp h1 c hc
  rcases Bool.eq_false_or_eq_true (isCode c) with hi | hi
  · exact h2 c (List.mem_filter.mpr ⟨hc, hi⟩)
  · simpa [hi] using h
set_option maxRecDepth 65536 in
theorem w_c0 : (Jvm.Cond.code x code maxLocals ret).before args0 about1 = true := code_word (m := ⟨1, 1⟩) (meth := k1m1) (c := k1c1) (by decide +kernel) rfl rfl rfl (by decide +kernel)
set_option maxRecDepth 65536 in
theorem w_c1 : (Jvm.Cond.code ({ cls := "com/example/headroom/headroom/PriceSheet", name := "<init>", desc := "(DD)V" } : Jvm.MethodName) prog_18_method_1_code (5 : Nat) (Option.none : Option Jvm.ClassFile.FieldType)).before args0 about1 = true := code_word (m := ⟨3, 0⟩) (meth := k3m0) (c := k3c0) (by decide +kernel) rfl rfl rfl (by decide +kernel)
set_option maxRecDepth 65536 in
theorem w_c2 : (Jvm.Cond.code ({ cls := "java/lang/Record", name := "<init>", desc := "()V" } : Jvm.MethodName) jdk_30_method_1_code (1 : Nat) (Option.none : Option Jvm.ClassFile.FieldType)).before args0 about1 = true := code_word (m := ⟨2, 0⟩) (meth := k2m0) (c := k2c0) (by decide +kernel) rfl rfl rfl (by decide +kernel)
set_option maxRecDepth 65536 in
theorem w_c3 : (Jvm.Cond.code ({ cls := "java/lang/Object", name := "<init>", desc := "()V" } : Jvm.MethodName) object_method_1_code (1 : Nat) (Option.none : Option Jvm.ClassFile.FieldType)).before args0 about1 = true := code_word (m := ⟨0, 0⟩) (meth := k0m0) (c := k0c0) (by decide +kernel) rfl rfl rfl (by decide +kernel)
set_option maxRecDepth 65536 in
theorem w_c4 : (Jvm.Cond.code ({ cls := "com/example/headroom/headroom/PriceSheet", name := "requirePrice", desc := "(Ljava/lang/String;D)V" } : Jvm.MethodName) prog_18_method_4_code (3 : Nat) (Option.none : Option Jvm.ClassFile.FieldType)).before args0 about1 = true := code_word (m := ⟨3, 2⟩) (meth := k3m2) (c := k3c2) (by decide +kernel) rfl rfl rfl (by decide +kernel)
set_option maxRecDepth 65536 in
theorem w_c5 : (Jvm.Cond.code ({ cls := "java/lang/Double", name := "isFinite", desc := "(D)Z" } : Jvm.MethodName) jdk_117_method_8_code (2 : Nat) (Option.some Jvm.ClassFile.FieldType.boolean)).before args0 about1 = true := code_word (m := ⟨11, 0⟩) (meth := k11m0) (c := k11c0) (by decide +kernel) rfl rfl rfl (by decide +kernel)
set_option maxRecDepth 65536 in
theorem w_c6 : (Jvm.Cond.code ({ cls := "java/lang/Math", name := "abs", desc := "(D)D" } : Jvm.MethodName) jdk_29_method_64_code (2 : Nat) (Option.some Jvm.ClassFile.FieldType.double)).before args0 about1 = true := code_word (m := ⟨12, 1⟩) (meth := k12m1) (c := k12c1) (by decide +kernel) rfl rfl rfl (by decide +kernel)
set_option maxRecDepth 65536 in
theorem w_c7 : (Jvm.Cond.code ({ cls := "com/example/headroom/headroom/PriceSheet", name := "reservedCost", desc := "(ID)D" } : Jvm.MethodName) prog_18_method_3_code (4 : Nat) (Option.some Jvm.ClassFile.FieldType.double)).before args0 about1 = true := code_word (m := ⟨3, 1⟩) (meth := k3m1) (c := k3c1) (by decide +kernel) rfl rfl rfl (by decide +kernel)
def codes1 : List Jvm.Cond := [Jvm.Cond.code x code maxLocals ret, Jvm.Cond.code ({ cls := "com/example/headroom/headroom/PriceSheet", name := "<init>", desc := "(DD)V" } : Jvm.MethodName) prog_18_method_1_code (5 : Nat) (Option.none : Option Jvm.ClassFile.FieldType), Jvm.Cond.code ({ cls := "java/lang/Record", name := "<init>", desc := "()V" } : Jvm.MethodName) jdk_30_method_1_code (1 : Nat) (Option.none : Option Jvm.ClassFile.FieldType), Jvm.Cond.code ({ cls := "java/lang/Object", name := "<init>", desc := "()V" } : Jvm.MethodName) object_method_1_code (1 : Nat) (Option.none : Option Jvm.ClassFile.FieldType), Jvm.Cond.code ({ cls := "com/example/headroom/headroom/PriceSheet", name := "requirePrice", desc := "(Ljava/lang/String;D)V" } : Jvm.MethodName) prog_18_method_4_code (3 : Nat) (Option.none : Option Jvm.ClassFile.FieldType), Jvm.Cond.code ({ cls := "java/lang/Double", name := "isFinite", desc := "(D)Z" } : Jvm.MethodName) jdk_117_method_8_code (2 : Nat) (Option.some Jvm.ClassFile.FieldType.boolean), Jvm.Cond.code ({ cls := "java/lang/Math", name := "abs", desc := "(D)D" } : Jvm.MethodName) jdk_29_method_64_code (2 : Nat) (Option.some Jvm.ClassFile.FieldType.double), Jvm.Cond.code ({ cls := "com/example/headroom/headroom/PriceSheet", name := "reservedCost", desc := "(ID)D" } : Jvm.MethodName) prog_18_method_3_code (4 : Nat) (Option.some Jvm.ClassFile.FieldType.double)]
set_option maxRecDepth 65536 in
theorem codes_eq : words1.filter isCode = codes1 := rfl
theorem w_codes : ∀ c ∈ words1.filter isCode, c.before args0 about1 = true := by
  rw [codes_eq]
  intro c hc
  simp only [codes1, List.mem_cons, List.not_mem_nil, or_false] at hc
  rcases hc with rfl | rfl | rfl | rfl | rfl | rfl | rfl | rfl
  · exact w_c0
  · exact w_c1
  · exact w_c2
  · exact w_c3
  · exact w_c4
  · exact w_c5
  · exact w_c6
  · exact w_c7
set_option maxRecDepth 65536 in
theorem w_t1 : (words1.take 24).all (fun c => isCode c || c.before args0 about1) = true := by decide +kernel
set_option maxRecDepth 65536 in
theorem w_t2 : (words1.drop 24).all (fun c => isCode c || c.before args0 about1) = true := by decide +kernel
theorem w_tables : (allAtoms (Jvm.Cond.code x code maxLocals ret :: tables_1)).before args0 about1 = true := by
  rw [allAtoms_all]
  show words1.all (fun c => c.before args0 about1) = true
  refine all_split ?_ w_codes
  rw [← List.take_append_drop 24 words1, List.all_append, w_t1, w_t2]
  rfl
set_option maxRecDepth 65536 in
theorem w_case : (Jvm.Cond.and given_1 narrow_1).before args0 about1 = true := by decide +kernel
theorem w_applies : (headSpec (Jvm.Cond.code x code maxLocals ret :: tables_1) room_1).applies x e0.platform about1 = true :=
  (Spec.applies_iff w_frames).mpr ⟨w_running, w_runnable, w_alone, w_named, w_hears, w_ripe, w_room, w_tables⟩
theorem atStart : AtStart classFile x code maxLocals ret World_1 tables_1 room_1 Calls_1 rest_1 Pre_1 launch0 p0 e0 about1 theMethod args0 below0 :=
  ⟨lists_1, trivial, launch0.admits_env _ _ _, launch0.least_env, fairChoices_fair.cas, fairChoices_fair.clock, w_frames, w_args, w_heap, w_applies, trivial, trivial, w_case⟩
end start1
theorem witness_1 : WitnessClaimed_1 := ⟨start1.p0, start1.e0, start1.about1, start1.theMethod, start1.args0, start1.below0, start1.atStart⟩
end Jvm.Pilot.@@N@@
