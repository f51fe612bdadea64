import JvmDerived
import JvmDerived.Pilot.@@N@@Statement
import JvmDerived.Pilot.@@N@@Code
set_option linter.unusedVariables false
set_option linter.unusedSimpArgs false
namespace Jvm.Pilot.@@N@@
open Jvm Jvm.ClassFile Sem Op Lib Jvm.Free Jvm.Stand Jvm.LawKit Jvm.RoadKit Bundle Jvm.Pilot.@@N@@.Jvm.D
/-! OWN: the walk as a tree. Go: from here the run comes to a return that Q allows. -/
def Go (p : Program) (e : Env) (below : List Frame) (s : State) (C S : Nat) (Q : Option Value → Heap → List Loc → Prop) (T : State) (g : JFrame) : Prop :=
  ∃ s₂ o, Steps p.tables e below (T.setTop g) s₂ ∧ s₂.status = .running ∧ Ended s₂ below o ∧ ∃ v L, o = .returned v ∧ Q v s₂.heap L ∧ FrameEnd s o s₂ L C S
section OwnGo
variable {p : Program} {l : Launch} {e : Env} {R : Room} {s : State} {m : MethodId} {args : Array Value} {below : List Frame} {meth : Method} {c : Code} {T T' : State} {locs : List Loc} {cells slots : Nat} {Z : State} {a0 : Array Value} {h : Heap} {C S : Nat} {Q : Option Value → Heap → List Loc → Prop} {g g' : JFrame}
theorem Go.step (st : ∀ target, Steps p.tables e below (T'.setTop g') target → Steps p.tables e below (T.setTop g) target) (h : Go p e below s C S Q T' g') : Go p e below s C S Q T g := by
  obtain ⟨s₂, o, h1, r⟩ := h; exact ⟨s₂, o, st _ h1, r⟩
theorem Go.cast (q : g = g') (h : Go p e below s C S Q T g') : Go p e below s C S Q T g := q ▸ h
theorem Go.ret (X : Stand p l e R s m args below meth c T locs cells slots) (hlk : meth.locks = false) {v : Option Value} (hv : meth.sig.returnType = none → v = none)
    (st : ∀ fs, (∀ (f : JFrame) (acts : List Action), f.method = m → f.locked = none → f.entered = [] → (doReturn e (T.setTop f) acts v).1 = T.setFrames fs) → Steps p.tables e below (T.setTop g) (T.setFrames fs))
    (hq : Q v T.heap locs) (hc : cells ≤ C) (hs : slots ≤ S) : Go p e below s C S Q T g := by
  obtain ⟨fs, hr, hrun, hended, hW, hsame⟩ := X.leave (v := v) hv hlk
  exact ⟨_, _, st fs hr, hrun, hended, v, locs, rfl, hq, ⟨_, rfl⟩, hW, hsame.mono hc hs⟩
theorem Go.retV (X : Stand p l e R s m args below meth c T locs cells slots) (hx : p.tables.exec = Jvm.exec) (hlk : meth.locks = false) (hret : meth.sig.returnType = none) {pc : Nat} {Ls : Array Slot} (hd : decode c.code pc = .ok (.return_, 1))
    (hc : cells ≤ C) (hs : slots ≤ S) (hq : Q none T.heap locs) : Go p e below s C S Q T (mkF m pc Ls []) :=
  Go.ret X hlk (fun _ => rfl) (fun fs hr => X.returnOut hx hret hd hr) hq hc hs
theorem Go.retW (X : Stand p l e R s m args below meth c T locs cells slots) (hx : p.tables.exec = Jvm.exec) (hlk : meth.locks = false) {t : FieldType} (hret : meth.sig.returnType = some t) {pc : Nat} {Ls : Array Slot} {w : Value} {i : Instr} {rest : List Value} (hn : narrow t w = w)
    (hi : (i = .ireturn ∧ (t = .int ∨ t = .boolean ∨ t = .byte ∨ t = .char ∨ t = .short) ∧ ∃ z, w = .int z) ∨ (i = .lreturn ∧ t = .long ∧ ∃ z, w = .long z) ∨ (i = .dreturn ∧ t = .double ∧ ∃ z, w = .double z) ∨ (i = .freturn ∧ t = .float ∧ ∃ z, w = .float z) ∨ (i = .areturn ∧ t.isReference = true ∧ w.isRef = true))
    (hd : decode c.code pc = .ok (i, 1)) (hc : cells ≤ C) (hs : slots ≤ S) (hq : Q (some w) T.heap locs) : Go p e below s C S Q T (mkF m pc Ls (w :: rest)) :=
  Go.ret X hlk (fun h => by rw [hret] at h; cases h) (fun fs hr => retOut X hx hret hn hi hd hr) hq hc hs
theorem Go.retI (X : Stand p l e R s m args below meth c T locs cells slots) (hx : p.tables.exec = Jvm.exec) (hlk : meth.locks = false) (hret : meth.sig.returnType = some .int) {pc : Nat} {Ls : Array Slot} {z : Int32} {rest : List Value}
    (hd : decode c.code pc = .ok (.ireturn, 1)) (hc : cells ≤ C) (hs : slots ≤ S) (hq : Q (some (.int z)) T.heap locs) : Go p e below s C S Q T (mkF m pc Ls (.int z :: rest)) :=
  Go.retW X hx hlk hret rfl (Or.inl ⟨rfl, Or.inl rfl, z, rfl⟩) hd hc hs hq
theorem Go.retZ (X : Stand p l e R s m args below meth c T locs cells slots) (hx : p.tables.exec = Jvm.exec) (hlk : meth.locks = false) (hret : meth.sig.returnType = some .boolean) {pc : Nat} {Ls : Array Slot} {z : Int32} {rest : List Value} (hz : z = 0 ∨ z = 1)
    (hd : decode c.code pc = .ok (.ireturn, 1)) (hc : cells ≤ C) (hs : slots ≤ S) (hq : Q (some (.int z)) T.heap locs) : Go p e below s C S Q T (mkF m pc Ls (.int z :: rest)) :=
  Go.retW X hx hlk hret (by rcases hz with rfl | rfl <;> rfl) (Or.inl ⟨rfl, Or.inr (Or.inl rfl), z, rfl⟩) hd hc hs hq
theorem Go.retJ (X : Stand p l e R s m args below meth c T locs cells slots) (hx : p.tables.exec = Jvm.exec) (hlk : meth.locks = false) (hret : meth.sig.returnType = some .long) {pc : Nat} {Ls : Array Slot} {z : Int64} {rest : List Value}
    (hd : decode c.code pc = .ok (.lreturn, 1)) (hc : cells ≤ C) (hs : slots ≤ S) (hq : Q (some (.long z)) T.heap locs) : Go p e below s C S Q T (mkF m pc Ls (.long z :: rest)) :=
  Go.retW X hx hlk hret rfl (Or.inr (Or.inl ⟨rfl, rfl, z, rfl⟩)) hd hc hs hq
theorem Go.retD (X : Stand p l e R s m args below meth c T locs cells slots) (hx : p.tables.exec = Jvm.exec) (hlk : meth.locks = false) (hret : meth.sig.returnType = some .double) {pc : Nat} {Ls : Array Slot} {z : UInt64} {rest : List Value}
    (hd : decode c.code pc = .ok (.dreturn, 1)) (hc : cells ≤ C) (hs : slots ≤ S) (hq : Q (some (.double z)) T.heap locs) : Go p e below s C S Q T (mkF m pc Ls (.double z :: rest)) :=
  Go.retW X hx hlk hret rfl (Or.inr (Or.inr (Or.inl ⟨rfl, rfl, z, rfl⟩))) hd hc hs hq
theorem Go.retR (X : Stand p l e R s m args below meth c T locs cells slots) (hx : p.tables.exec = Jvm.exec) (hlk : meth.locks = false) {t : FieldType} (hret : meth.sig.returnType = some t) (ht : t.isReference = true) {pc : Nat} {Ls : Array Slot} {w : Value} {rest : List Value} (hn : narrow t w = w) (hw : w.isRef = true)
    (hd : decode c.code pc = .ok (.areturn, 1)) (hc : cells ≤ C) (hs : slots ≤ S) (hq : Q (some w) T.heap locs) : Go p e below s C S Q T (mkF m pc Ls (w :: rest)) :=
  Go.retW X hx hlk hret hn (Or.inr (Or.inr (Or.inr (Or.inr ⟨rfl, ht, hw⟩)))) hd hc hs hq
/-- a method's contract out of its walk -/
theorem con_of {y : MethodName} {bytes : ByteArray} {ml : Nat} {rt : Option FieldType} {ws : List Jvm.Cond} {rm : Room} {as' : Array Value} {h0 : Heap} (hpl : plainFor y = true)
    (body : ∀ (p : Program) (e : Env) (s : State) (m : MethodId) (below : List Frame) (meth : Method) (c : Code) (T : State), Stand p l e rm s m as' below meth c T [] 0 0 → p.tables.exec = Jvm.exec → Z.Warmed39 s.vm → c.code = bytes → c.maxLocals = ml → s.vm.findClass y.cls = some m.cls → meth.name = y.name →
      meth.sig.returnType = rt → meth.locks = false → T.heap = h0 → Go p e below s rm.cells rm.slots Q T (entryFrame m as' ml)) :
    MetFree l y (head1 (Jvm.Cond.code y bytes ml rt :: ws) rm) (fun a U => a = as' ∧ Z.Warmed39 U.vm ∧ U.heap = h0) (fun _ _ _ _ _ => True) (fun _ U o U' => ∃ v L, o = .returned v ∧ Q v U'.heap L ∧ FrameEnd U o U' L rm.cells rm.slots) := by
  refine MetFree.of_bodySF hpl hisR ?_
  intro p e s m args below meth c s₁ Bd hml0 hP hK
  obtain ⟨rfl, hZ, hh⟩ := hP
  exact body p e s m below meth c s₁ (Stand.of_body Bd) Bd.exec hZ Bd.bytes hml0 (findClass_of_methodNamed Bd.named) (name_of_methodNamed Bd.named Bd.method).1 Bd.returns (BodyLoose.notSynchronized Bd) (by rw [← hh, Bd.state]; rfl)
abbrev Con (l : Launch) (Z : State) (y : MethodName) (bytes : ByteArray) (ml : Nat) (rt : Option FieldType) (rm : Room) (as' : Array Value) (h0 : Heap) (Q : Option Value → Heap → List Loc → Prop) : Prop :=
  MetFree l y (head1 [Jvm.Cond.code y bytes ml rt] rm) (fun a U => a = as' ∧ Z.Warmed39 U.vm ∧ U.heap = h0) (fun _ _ _ _ _ => True) (fun _ U o U' => ∃ v L, o = .returned v ∧ Q v U'.heap L ∧ FrameEnd U o U' L rm.cells rm.slots)
theorem Go.callS (X : Stand p l e R s m args below meth c T locs cells slots) (hx : p.tables.exec = Jvm.exec) (hZ : Z.Warmed39 s.vm) {own : String} {index : Nat} {y : MethodName} {bytes : ByteArray} {maxL : Nat} {ret : Option FieldType} {rm : Room} {as' : Array Value} {Qc : Option Value → Heap → List Loc → Prop} {W pc : Nat} {Ls : Array Slot} {st : List Value} {argsL rest : List Value} (hml : Ls.size = c.maxLocals)
    (hown : s.vm.findClass own = some m.cls) (w1 : (Jvm.Cond.methodLink own index y).before a0 Z = true) (w2 : (Jvm.Cond.static y).before a0 Z = true) (w3 : (Jvm.Cond.initialized y.cls).before a0 Z = true) (w4 : (Jvm.Cond.code y bytes maxL ret).before a0 Z = true) (hy : y.cls ≠ "java/lang/invoke/MethodHandle" ∧ y.cls ≠ "java/lang/invoke/VarHandle")
    (hM : Con l Z y bytes maxL ret rm as' h Qc) (eT : T.heap = h) (hd : decode c.code pc = .ok (.invokestatic index, 3)) (hlen : ∀ sig, parseMethodDescriptor y.desc = some sig → argsL.length = sig.parameters.length) (hst : st = argsL.reverse ++ rest) (has : argsL.toArray = as')
    (hW : (rest.map fun v => v.category).sum ≤ W) (hf : rm.frames + 1 ≤ R.frames) (hl : W + (maxL + 11) + rm.locals ≤ R.locals) (hc : cells + rm.cells ≤ R.cells) (hs : slots + rm.slots ≤ R.slots)
    (k : ∀ (v : Option Value) (T' : State) (L : List Loc), Stand p l e R s m args below meth c T' (locs ++ L) (cells + rm.cells) (slots + rm.slots) → Qc v T'.heap L → Go p e below s C S Q T' (mkF m (pc + 3) Ls (v.toList ++ rest))) :
    Go p e below s C S Q T (mkF m pc Ls st) := by
  obtain ⟨v, _, ⟨T', L', k', n'⟩, -, X', ⟨Lc, hQ, l1, y1, z1⟩, stp⟩ := Jvm.LawKit.callS X hx (y := y) hown (mvT hZ w1) (mvT hZ w2) (mvT hZ w3) (mvT hZ w4) hy (backOf (W := W) hM hZ w4 w3 hf hl) (g := mkF m pc Ls st) rfl hml (argsL := argsL) (rest := rest) hlen hst (by show 2 * 0 + _ ≤ _; omega) hd (fun _ _ => ⟨has, eT, hc, hs⟩)
  dsimp only [Pt.U, Pt.locs, Pt.cells, Pt.slots] at X' l1 y1 z1 stp hQ
  subst l1 y1 z1
  exact Go.step stp (k v T' Lc X' hQ)
theorem Go.callI (X : Stand p l e R s m args below meth c T locs cells slots) (hx : p.tables.exec = Jvm.exec) (hZ : Z.Warmed39 s.vm) {own : String} {index : Nat} {y : MethodName} {bytes : ByteArray} {maxL : Nat} {rm : Room} {as' : Array Value} {Qc : Option Value → Heap → List Loc → Prop} {W pc : Nat} {Ls : Array Slot} {st : List Value} {a : Addr} {argsL rest : List Value} (hml : Ls.size = c.maxLocals)
    (hy1 : y.name = "<init>") (hown : s.vm.findClass own = some m.cls) (w1 : (Jvm.Cond.methodLink own index y).before a0 Z = true) (w2 : (Jvm.Cond.instanceMethod y).before a0 Z = true) (w3 : (Jvm.Cond.initialized y.cls).before a0 Z = true) (w4 : (Jvm.Cond.code y bytes maxL none).before a0 Z = true) (hy : y.cls ≠ "java/lang/invoke/MethodHandle" ∧ y.cls ≠ "java/lang/invoke/VarHandle")
    (hM : Con l Z y bytes maxL none rm as' h Qc) (eT : T.heap = h) (hd : decode c.code pc = .ok (.invokespecial index, 3)) (hlen : ∀ sig, parseMethodDescriptor y.desc = some sig → argsL.length = sig.parameters.length) (hst : st = argsL.reverse ++ .ref a :: rest) (has : (Value.ref a :: argsL).toArray = as')
    (hW : (rest.map fun v => v.category).sum ≤ W) (hf : rm.frames + 1 ≤ R.frames) (hl : W + (maxL + 11) + rm.locals ≤ R.locals) (hc : cells + rm.cells ≤ R.cells) (hs : slots + rm.slots ≤ R.slots)
    (k : ∀ (v : Option Value) (T' : State) (L : List Loc), Stand p l e R s m args below meth c T' (locs ++ L) (cells + rm.cells) (slots + rm.slots) → Qc v T'.heap L → Go p e below s C S Q T' (mkF m (pc + 3) Ls (v.toList ++ rest))) :
    Go p e below s C S Q T (mkF m pc Ls st) := by
  obtain ⟨v, _, ⟨T', L', k', n'⟩, -, X', ⟨Lc, hQ, l1, y1, z1⟩, stp⟩ := X.specialBack hx (y := y) hy1 hown (mvT hZ w1) (mvT hZ w2) (mvT hZ w4) hy (backOf (W := W) hM hZ w4 w3 hf hl) (g := mkF m pc Ls st) rfl hml (Steps.refl _) (a := a) (argsL := argsL) (rest := rest) hlen hst (by show 2 * 0 + _ ≤ _; omega) hd (fun _ _ => ⟨has, eT, hc, hs⟩)
  dsimp only [Pt.U, Pt.locs, Pt.cells, Pt.slots] at X' l1 y1 z1 stp hQ
  subst l1 y1 z1
  exact Go.step (fun _ q => stp.trans q) (k v T' Lc X' hQ)
theorem Go.callV (X : Stand p l e R s m args below meth c T locs cells slots) (hx : p.tables.exec = Jvm.exec) (hZ : Z.Warmed39 s.vm) {own K : String} {index : Nat} {y z : MethodName} {bytes : ByteArray} {maxL : Nat} {ret : Option FieldType} {rm : Room} {as' : Array Value} {Qc : Option Value → Heap → List Loc → Prop} {W pc : Nat} {Ls : Array Slot} {st : List Value} {a : Addr} {argsL rest : List Value} (hml : Ls.size = c.maxLocals)
    (hown : s.vm.findClass own = some m.cls) (w1 : (Jvm.Cond.methodLink own index y).before a0 Z = true) (w2 : (Jvm.Cond.declares y).before a0 Z = true) (hnf : NotFace s y) (w5 : (Jvm.Cond.selects K y z).before a0 Z = true) (w6 : (Jvm.Cond.instanceMethod z).before a0 Z = true) (w3 : (Jvm.Cond.initialized z.cls).before a0 Z = true) (w4 : (Jvm.Cond.code z bytes maxL ret).before a0 Z = true) (hy : y.cls ≠ "java/lang/invoke/MethodHandle" ∧ y.cls ≠ "java/lang/invoke/VarHandle")
    (hM : Con l Z z bytes maxL ret rm as' h Qc) (eT : T.heap = h) (E : Exa Z h a K) (hd : decode c.code pc = .ok (.invokevirtual index, 3)) (hlen : ∀ sig, parseMethodDescriptor y.desc = some sig → argsL.length = sig.parameters.length) (hst : st = argsL.reverse ++ .ref a :: rest) (has : (Value.ref a :: argsL).toArray = as')
    (hW : (rest.map fun v => v.category).sum ≤ W) (hf : rm.frames + 1 ≤ R.frames) (hl : W + (maxL + 11) + rm.locals ≤ R.locals) (hc : cells + rm.cells ≤ R.cells) (hs : slots + rm.slots ≤ R.slots)
    (k : ∀ (v : Option Value) (T' : State) (L : List Loc), Stand p l e R s m args below meth c T' (locs ++ L) (cells + rm.cells) (slots + rm.slots) → Qc v T'.heap L → Go p e below s C S Q T' (mkF m (pc + 3) Ls (v.toList ++ rest))) :
    Go p e below s C S Q T (mkF m pc Ls st) := by
  obtain ⟨cq, kq, qa, qb, qc⟩ := isOf hZ eT E
  obtain ⟨v, _, ⟨T', L', k', n'⟩, -, X', ⟨Lc, hQ, l1, y1, z1⟩, stp⟩ := X.virtualBack hx (y := y) (z := z) hown (mvT hZ w1) (mvT hZ w2) hnf (mvT hZ w5) (mvT hZ w6) hy (backOf (W := W) hM hZ w4 w3 hf hl) qa qc (g := mkF m pc Ls st) rfl hml (Steps.refl _) (argsL := argsL) (rest := rest) hlen hst (by show 2 * 0 + _ ≤ _; omega) hd (fun _ _ => ⟨has, eT, hc, hs⟩)
  dsimp only [Pt.U, Pt.locs, Pt.cells, Pt.slots] at X' l1 y1 z1 stp hQ
  subst l1 y1 z1
  exact Go.step (fun _ q => stp.trans q) (k v T' Lc X' hQ)
theorem Go.callP (X : Stand p l e R s m args below meth c T locs cells slots) (hx : p.tables.exec = Jvm.exec) (hZ : Z.Warmed39 s.vm) {own : String} {index : Nat} {y : MethodName} {bytes : ByteArray} {maxL : Nat} {ret : Option FieldType} {rm : Room} {as' : Array Value} {Qc : Option Value → Heap → List Loc → Prop} {W pc : Nat} {Ls : Array Slot} {st : List Value} {a : Addr} {argsL rest : List Value} (hml : Ls.size = c.maxLocals)
    (hown : s.vm.findClass own = some m.cls) (w1 : (Jvm.Cond.methodLink own index y).before a0 Z = true) (w6 : (Jvm.Cond.instanceMethod y).before a0 Z = true) {kk : Nat} (w5 : (Jvm.Cond.instantiable y.cls kk).before a0 Z = true) (w7 : (Jvm.Cond.privateMethod y).before a0 Z = true) (w3 : (Jvm.Cond.initialized y.cls).before a0 Z = true) (w4 : (Jvm.Cond.code y bytes maxL ret).before a0 Z = true) (hy : y.cls ≠ "java/lang/invoke/MethodHandle" ∧ y.cls ≠ "java/lang/invoke/VarHandle")
    (hM : Con l Z y bytes maxL ret rm as' h Qc) (eT : T.heap = h) {K : String} (E : Exa Z h a K) (hd : decode c.code pc = .ok (.invokevirtual index, 3)) (hlen : ∀ sig, parseMethodDescriptor y.desc = some sig → argsL.length = sig.parameters.length) (hst : st = argsL.reverse ++ .ref a :: rest) (has : (Value.ref a :: argsL).toArray = as')
    (hW : (rest.map fun v => v.category).sum ≤ W) (hf : rm.frames + 1 ≤ R.frames) (hl : W + (maxL + 11) + rm.locals ≤ R.locals) (hc : cells + rm.cells ≤ R.cells) (hs : slots + rm.slots ≤ R.slots)
    (k : ∀ (v : Option Value) (T' : State) (L : List Loc), Stand p l e R s m args below meth c T' (locs ++ L) (cells + rm.cells) (slots + rm.slots) → Qc v T'.heap L → Go p e below s C S Q T' (mkF m (pc + 3) Ls (v.toList ++ rest))) :
    Go p e below s C S Q T (mkF m pc Ls st) := by
  obtain ⟨cq, q1, q2⟩ := E.cell
  have hpriv : s.PrivateAt y := Cond.privateMethod_at (mvP hZ w7 (args := #[]))
  have w5' : (Jvm.Cond.instantiable y.cls kk).before args s = true := mvT hZ w5
  obtain ⟨c1, k1, i1, i2, -, i4, -⟩ := Cond.instantiable_spec w5'
  have hsel : (Jvm.Cond.selects y.cls y y).before args s = true := selects_self_of_private i1 i2 (by simp only [Bool.or_eq_false_iff] at i4; exact i4.1) hpriv (mvT hZ w6) hy
  obtain ⟨v, _, ⟨T', L', k', n'⟩, -, X', ⟨Lc, hQ, l1, y1, z1⟩, stp⟩ := X.privateBack hx (y := y) hown (mvT hZ w1) (mvT hZ w6) hsel hpriv (mvT hZ w4) hy (backOf (W := W) hM hZ w4 w3 hf hl) (g := mkF m pc Ls st) rfl hml (Steps.refl _) (a := a) (by rw [eT]; exact q1) q2 (argsL := argsL) (rest := rest) hlen hst (by show 2 * 0 + _ ≤ _; omega) hd (fun _ _ => ⟨has, eT, hc, hs⟩)
  dsimp only [Pt.U, Pt.locs, Pt.cells, Pt.slots] at X' l1 y1 z1 stp hQ
  subst l1 y1 z1
  exact Go.step (fun _ q => stp.trans q) (k v T' Lc X' hQ)
end OwnGo
/-! OWN: branches on a comparison of doubles, as javac writes them -/
section OwnCmp
variable {x y : UInt64}
theorem cv_none (o : CmpOp) (h : FP.dcmp x y = none) : cmpValue (FP.dcmp x y) o = (match o with | .l => -1 | .g => 1) := by rw [h]; cases o <;> rfl
theorem gt_y (h : FP.dcmp x y = some .gt) : ifCond.holds .le (cmpValue (FP.dcmp x y) .l) = false := by rw [h]; rfl
theorem gt_n (h : ¬ FP.dcmp x y = some .gt) : ifCond.holds .le (cmpValue (FP.dcmp x y) .l) = true := by
  rcases q : FP.dcmp x y with _ | (_ | _ | _) <;> first | rfl | exact absurd q h
theorem ge_y (h : FP.dcmp x y = some .gt ∨ FP.dcmp x y = some .eq) : ifCond.holds .lt (cmpValue (FP.dcmp x y) .l) = false := by rcases h with h | h <;> rw [h] <;> rfl
theorem ge_n (h : ¬ (FP.dcmp x y = some .gt ∨ FP.dcmp x y = some .eq)) : ifCond.holds .lt (cmpValue (FP.dcmp x y) .l) = true := by
  rcases q : FP.dcmp x y with _ | (_ | _ | _) <;> first | rfl | exact absurd (Or.inl q) h | exact absurd (Or.inr q) h
theorem lt_y (h : FP.dcmp x y = some .lt) : ifCond.holds .ge (cmpValue (FP.dcmp x y) .g) = false := by rw [h]; rfl
theorem lt_n (h : ¬ FP.dcmp x y = some .lt) : ifCond.holds .ge (cmpValue (FP.dcmp x y) .g) = true := by
  rcases q : FP.dcmp x y with _ | (_ | _ | _) <;> first | rfl | exact absurd q h
theorem le_y (h : FP.dcmp x y = some .lt ∨ FP.dcmp x y = some .eq) : ifCond.holds .gt (cmpValue (FP.dcmp x y) .g) = false := by rcases h with h | h <;> rw [h] <;> rfl
theorem le_n (h : ¬ (FP.dcmp x y = some .lt ∨ FP.dcmp x y = some .eq)) : ifCond.holds .gt (cmpValue (FP.dcmp x y) .g) = true := by
  rcases q : FP.dcmp x y with _ | (_ | _ | _) <;> first | rfl | exact absurd (Or.inl q) h | exact absurd (Or.inr q) h
theorem eq_y (o : CmpOp) (h : FP.dcmp x y = some .eq) : ifCond.holds .ne (cmpValue (FP.dcmp x y) o) = false ∧ ifCond.holds .eq (cmpValue (FP.dcmp x y) o) = true := by rw [h]; cases o <;> exact ⟨rfl, rfl⟩
theorem eq_n (o : CmpOp) (h : ¬ FP.dcmp x y = some .eq) : ifCond.holds .ne (cmpValue (FP.dcmp x y) o) = true ∧ ifCond.holds .eq (cmpValue (FP.dcmp x y) o) = false := by
  rcases q : FP.dcmp x y with _ | (_ | _ | _) <;> cases o <;> first | exact ⟨rfl, rfl⟩ | exact absurd q h
/-- x > y, by a taken 'ifgt' over dcmpl -/
theorem gtT_y (h : FP.dcmp x y = some .gt) : ifCond.holds .gt (cmpValue (FP.dcmp x y) .l) = true := by rw [h]; rfl
theorem gtT_n (h : ¬ FP.dcmp x y = some .gt) : ifCond.holds .gt (cmpValue (FP.dcmp x y) .l) = false := by
  rcases q : FP.dcmp x y with _ | (_ | _ | _) <;> first | rfl | exact absurd q h
theorem geT_y (h : FP.dcmp x y = some .gt ∨ FP.dcmp x y = some .eq) : ifCond.holds .ge (cmpValue (FP.dcmp x y) .l) = true := by rcases h with h | h <;> rw [h] <;> rfl
theorem geT_n (h : ¬ (FP.dcmp x y = some .gt ∨ FP.dcmp x y = some .eq)) : ifCond.holds .ge (cmpValue (FP.dcmp x y) .l) = false := by
  rcases q : FP.dcmp x y with _ | (_ | _ | _) <;> first | rfl | exact absurd (Or.inl q) h | exact absurd (Or.inr q) h
theorem ltT_y (h : FP.dcmp x y = some .lt) : ifCond.holds .lt (cmpValue (FP.dcmp x y) .g) = true := by rw [h]; rfl
theorem ltT_n (h : ¬ FP.dcmp x y = some .lt) : ifCond.holds .lt (cmpValue (FP.dcmp x y) .g) = false := by
  rcases q : FP.dcmp x y with _ | (_ | _ | _) <;> first | rfl | exact absurd q h
theorem leT_y (h : FP.dcmp x y = some .lt ∨ FP.dcmp x y = some .eq) : ifCond.holds .le (cmpValue (FP.dcmp x y) .g) = true := by rcases h with h | h <;> rw [h] <;> rfl
theorem leT_n (h : ¬ (FP.dcmp x y = some .lt ∨ FP.dcmp x y = some .eq)) : ifCond.holds .le (cmpValue (FP.dcmp x y) .g) = false := by
  rcases q : FP.dcmp x y with _ | (_ | _ | _) <;> first | rfl | exact absurd (Or.inl q) h | exact absurd (Or.inr q) h
end OwnCmp

/-! OWN: arrays by a function of the place -/
def updN {α : Type} (g : Nat → α) (j : Nat) (x : α) : Nat → α := fun i => if i = j then x else g i
theorem updN_same {α : Type} (g : Nat → α) (j : Nat) (x : α) : updN g j x j = x := by simp [updN]
theorem updN_ne {α : Type} {g : Nat → α} {i j : Nat} {x : α} (h : i ≠ j) : updN g j x i = g i := by simp [updN, h]
def Fv (Z : State) (h : Heap) (a : Addr) (ty : FieldType) (n : Int32) (f : Nat → Value) : Prop :=
  ∃ c : Cell, Arr Z h a c ty ∧ c.slots.size = n.toNatClampNeg ∧ ¬ n < 0 ∧ (∀ i, fits ty (f i) = true) ∧ ∀ i, i < c.slots.size → c.slots[i]? = some (f i)
abbrev Dv (Z : State) (h : Heap) (a : Addr) (n : Int32) (g : Nat → UInt64) : Prop := Fv Z h a .double n (fun i => .double (g i))
abbrev Iv (Z : State) (h : Heap) (a : Addr) (n : Int32) (g : Nat → Int32) : Prop := Fv Z h a .int n (fun i => .int (g i))
section OwnFv
variable {Z : State} {h h' : Heap} {a b : Addr} {ty : FieldType} {n j : Int32} {f : Nat → Value} {v : Value} {sl : Nat} {ws : List Addr}
theorem Fv.lt (F : Fv Z h a ty n f) : a < h.size := by obtain ⟨c, A, -⟩ := F; exact A.lt
theorem Fv.ext (F : Fv Z h a ty n f) (E : Ext h h') : Fv Z h' a ty n f := by obtain ⟨c, A, r⟩ := F; exact ⟨c, A.ext E, r⟩
theorem Fv.other (F : Fv Z h b ty n f) (W : Wr h h' a sl v) (q : b ≠ a) : Fv Z h' b ty n f := by obtain ⟨c, A, r⟩ := F; exact ⟨c, A.other W q, r⟩
theorem Fv.keep (F : Fv Z h a ty n f) (K : Keep h h' ws) (q : a ∉ ws) : Fv Z h' a ty n f := by obtain ⟨c, A, r⟩ := F; exact ⟨c, ⟨K.2.1 a c A.1 q, A.2⟩, r⟩
theorem Fv.new {k : ClassId} (A : Arr Z h a (newA k ty n) ty) (q : ¬ n < 0) : Fv Z h a ty n (fun _ => defaultValue ty) := ⟨_, A, sz_new _ _ _, q, fun i => by cases ty <;> rfl, fun i hi => by
  rw [sz_new] at hi; simp [newA, hi]⟩
theorem own_nat_of {j : Int32} (h : ¬ j < 0) : (j.toNatClampNeg : Int) = j.toInt := by
  rw [Int32.lt_iff_toInt_lt] at h; have e0 : (0 : Int32).toInt = 0 := rfl
  rw [Int32.toNatClampNeg]; omega
theorem Fv.set (F : Fv Z h a ty n f) (W : Wr h h' a j.toNatClampNeg v) (hv : fits ty v = true) : Fv Z h' a ty n (updN f j.toNatClampNeg v) := by
  obtain ⟨c, A, S, P, G, H⟩ := F
  refine ⟨_, A.same W, by rw [sz_set]; exact S, P, fun i => ?_, fun i hi => ?_⟩
  · unfold updN; split
    · exact hv
    · exact G i
  · rw [sz_set] at hi
    unfold updN
    by_cases u : i = j.toNatClampNeg
    · rw [if_pos u, u]; rw [u] at hi; simp [Cell.setSlot, hi]
    · rw [if_neg u]; simp only [Cell.setSlot]; rw [Array.getElem?_setIfInBounds_ne (Ne.symm u)]; exact H i hi
theorem Dv.set {g : Nat → UInt64} {x : UInt64} (F : Dv Z h a n g) (W : Wr h h' a j.toNatClampNeg (.double x)) : Dv Z h' a n (updN g j.toNatClampNeg x) := by
  have := Fv.set F W rfl
  have e : (updN (fun i => Value.double (g i)) j.toNatClampNeg (.double x)) = fun i => Value.double (updN g j.toNatClampNeg x i) := by
    funext i; unfold updN; split <;> rfl
  rw [e] at this; exact this
theorem Iv.set {g : Nat → Int32} {x : Int32} (F : Iv Z h a n g) (W : Wr h h' a j.toNatClampNeg (.int x)) : Iv Z h' a n (updN g j.toNatClampNeg x) := by
  have := Fv.set F W rfl
  have e : (updN (fun i => Value.int (g i)) j.toNatClampNeg (.int x)) = fun i => Value.int (updN g j.toNatClampNeg x i) := by
    funext i; unfold updN; split <;> rfl
  rw [e] at this; exact this
theorem Fv.congr {f' : Nat → Value} (F : Fv Z h a ty n f) (q : ∀ i, f i = f' i) : Fv Z h a ty n f' := by rw [← (funext q : f = f')]; exact F
theorem Fv.inb {c : Cell} (S : c.slots.size = n.toNatClampNeg) (q : ¬ j < 0 ∧ j < n) : ¬ (j < 0 ∨ c.slots.size ≤ j.toNatClampNeg) := inb_of S q
variable {p : Program} {l : Launch} {e : Env} {R : Room} {s : State} {m : MethodId} {args : Array Value} {below : List Frame} {meth : Method} {c : Code} {T : State} {locs : List Loc} {cells slots : Nat} {C S : Nat} {Q : Option Value → Heap → List Loc → Prop} {pc : Nat} {Ls : Array Slot} {rest : List Value}
theorem Go.alen (X : Stand p l e R s m args below meth c T locs cells slots) (hx : p.tables.exec = Jvm.exec) (hZ : Z.Warmed39 s.vm) (eT : T.heap = h) (F : Fv Z h a ty n f) (hd : decode c.code pc = .ok (.arraylength, 1))
    (k : Go p e below s C S Q T (mkF m (pc + 1) Ls (.int n :: rest))) : Go p e below s C S Q T (mkF m pc Ls (.ref a :: rest)) := by
  obtain ⟨cl, A, S', P, -, -⟩ := F
  refine Go.step (X.arraylength hx (cell := cl) (by rw [eT]; exact A.1) (State.isArrayOf_alike hZ.alike A.2.1) (g := mkF m pc Ls (.ref a :: rest)) rfl rfl hd) ?_
  rw [len_of S' P]; exact k
theorem Go.iaload {g : Nat → Int32} {v : Int32} (X : Stand p l e R s m args below meth c T locs cells slots) (hx : p.tables.exec = Jvm.exec) (hZ : Z.Warmed39 s.vm) (eT : T.heap = h) (F : Iv Z h a n g) (hj : ¬ j < 0 ∧ j < n) (hv : g j.toNatClampNeg = v) (hd : decode c.code pc = .ok (.iaload, 1))
    (k : Go p e below s C S Q T (mkF m (pc + 1) Ls (.int v :: rest))) : Go p e below s C S Q T (mkF m pc Ls (.int j :: .ref a :: rest)) := by
  obtain ⟨cl, A, S', P, G, H⟩ := F
  have q := inb_of S' hj
  exact Go.step (fun t r => X.iaload hx (j := j) (v := .int v) (by rw [eT]; exact A.1) (State.isArrayOf_alike hZ.alike A.2.1) A.2.2 q (by rw [← hv]; exact H _ (Nat.lt_of_not_le fun z => q (Or.inr z))) (g := mkF m pc Ls (.int j :: .ref a :: rest)) rfl rfl hd t r) k
theorem Go.daload {g : Nat → UInt64} {v : UInt64} (X : Stand p l e R s m args below meth c T locs cells slots) (hx : p.tables.exec = Jvm.exec) (hZ : Z.Warmed39 s.vm) (eT : T.heap = h) (F : Dv Z h a n g) (hj : ¬ j < 0 ∧ j < n) (hv : g j.toNatClampNeg = v) (hd : decode c.code pc = .ok (.daload, 1))
    (k : Go p e below s C S Q T (mkF m (pc + 1) Ls (.double v :: rest))) : Go p e below s C S Q T (mkF m pc Ls (.int j :: .ref a :: rest)) := by
  obtain ⟨cl, A, S', P, G, H⟩ := F
  have q := inb_of S' hj
  exact Go.step (fun t r => X.daload hx (j := j) (v := .double v) (by rw [eT]; exact A.1) (State.isArrayOf_alike hZ.alike A.2.1) A.2.2 q (by rw [← hv]; exact H _ (Nat.lt_of_not_le fun z => q (Or.inr z))) (g := mkF m pc Ls (.int j :: .ref a :: rest)) rfl rfl hd t r) k
theorem Go.iastore {g : Nat → Int32} {x : Int32} (X : Stand p l e R s m args below meth c T locs cells slots) (hx : p.tables.exec = Jvm.exec) (hZ : Z.Warmed39 s.vm) (eT : T.heap = h) (F : Iv Z h a n g) (hj : ¬ j < 0 ∧ j < n) (hd : decode c.code pc = .ok (.iastore, 1))
    (k : ∀ T' h', Stand p l e R s m args below meth c T' (locs ++ [⟨a, j.toNatClampNeg⟩]) cells slots → T'.heap = h' → Wr h h' a j.toNatClampNeg (.int x) → Iv Z h' a n (updN g j.toNatClampNeg x) → Go p e below s C S Q T' (mkF m (pc + 1) Ls rest)) : Go p e below s C S Q T (mkF m pc Ls (.int x :: .int j :: .ref a :: rest)) := by
  have F0 := F
  obtain ⟨cl, A, S', P, G, H⟩ := F
  obtain ⟨T', h', X', e', W, st⟩ := stI X hx hZ eT A (j := j) (x := x) (inb_of S' hj) (g := mkF m pc Ls (.int x :: .int j :: .ref a :: rest)) rfl rfl hd
  exact Go.step st (k T' h' X' e' W (Iv.set F0 W))
theorem Go.dastore {g : Nat → UInt64} {x : UInt64} (X : Stand p l e R s m args below meth c T locs cells slots) (hx : p.tables.exec = Jvm.exec) (hZ : Z.Warmed39 s.vm) (eT : T.heap = h) (F : Dv Z h a n g) (hj : ¬ j < 0 ∧ j < n) (hd : decode c.code pc = .ok (.dastore, 1))
    (k : ∀ T' h', Stand p l e R s m args below meth c T' (locs ++ [⟨a, j.toNatClampNeg⟩]) cells slots → T'.heap = h' → Wr h h' a j.toNatClampNeg (.double x) → Dv Z h' a n (updN g j.toNatClampNeg x) → Go p e below s C S Q T' (mkF m (pc + 1) Ls rest)) : Go p e below s C S Q T (mkF m pc Ls (.double x :: .int j :: .ref a :: rest)) := by
  have F0 := F
  obtain ⟨cl, A, S', P, G, H⟩ := F
  obtain ⟨T', h', X', e', W, st⟩ := stD X hx hZ eT A (j := j) (x := x) (inb_of S' hj) (g := mkF m pc Ls (.double x :: .int j :: .ref a :: rest)) rfl rfl hd
  exact Go.step st (k T' h' X' e' W (Dv.set F0 W))
abbrev Zv (Z : State) (h : Heap) (a : Addr) (n : Int32) (g : Nat → Int32) : Prop := Fv Z h a .boolean n (fun i => .int (g i))
theorem Zv.set {g : Nat → Int32} {x : Int32} (F : Zv Z h a n g) (W : Wr h h' a j.toNatClampNeg (.int x)) (hb : fits .boolean (.int x) = true) : Zv Z h' a n (updN g j.toNatClampNeg x) := by
  have := Fv.set F W hb
  have e : (updN (fun i => Value.int (g i)) j.toNatClampNeg (.int x)) = fun i => Value.int (updN g j.toNatClampNeg x i) := by
    funext i; unfold updN; split <;> rfl
  rw [e] at this; exact this
theorem Go.zaload {g : Nat → Int32} {v : Int32} (X : Stand p l e R s m args below meth c T locs cells slots) (hx : p.tables.exec = Jvm.exec) (hZ : Z.Warmed39 s.vm) (eT : T.heap = h) (F : Zv Z h a n g) (hj : ¬ j < 0 ∧ j < n) (hv : g j.toNatClampNeg = v) (hd : decode c.code pc = .ok (.baload, 1))
    (k : Go p e below s C S Q T (mkF m (pc + 1) Ls (.int v :: rest))) : Go p e below s C S Q T (mkF m pc Ls (.int j :: .ref a :: rest)) := by
  obtain ⟨cl, A, S', P, G, H⟩ := F
  have q := inb_of S' hj
  exact Go.step (fun t r => X.baloadBooleans hx (j := j) (v := .int v) (by rw [eT]; exact A.1) (State.isArrayOf_alike hZ.alike A.2.1) A.2.2 q (by rw [← hv]; exact H _ (Nat.lt_of_not_le fun z => q (Or.inr z))) (g := mkF m pc Ls (.int j :: .ref a :: rest)) rfl rfl hd t r) k
theorem Go.zastore {g : Nat → Int32} {x : Int32} (X : Stand p l e R s m args below meth c T locs cells slots) (hx : p.tables.exec = Jvm.exec) (hZ : Z.Warmed39 s.vm) (eT : T.heap = h) (F : Zv Z h a n g) (hj : ¬ j < 0 ∧ j < n) (hn : nar .boolean x = x) (hd : decode c.code pc = .ok (.bastore, 1))
    (k : ∀ T' h', Stand p l e R s m args below meth c T' (locs ++ [⟨a, j.toNatClampNeg⟩]) cells slots → T'.heap = h' → Wr h h' a j.toNatClampNeg (.int x) → Zv Z h' a n (updN g j.toNatClampNeg x) → Go p e below s C S Q T' (mkF m (pc + 1) Ls rest)) : Go p e below s C S Q T (mkF m pc Ls (.int x :: .int j :: .ref a :: rest)) := by
  have F0 := F
  obtain ⟨cl, A, S', P, G, H⟩ := F
  have hj' := inb_of S' hj
  obtain ⟨X', st⟩ := bastoreZ X hx (by rw [eT]; exact A.1) (State.isArrayOf_alike hZ.alike A.2.1) A.2.2 hj' (g := mkF m pc Ls (.int x :: .int j :: .ref a :: rest)) rfl rfl hd
  rw [hn] at X' st
  have W : Wr h (T.setCell a (cl.setSlot j.toNatClampNeg (.int x))).heap a j.toNatClampNeg (.int x) := ⟨cl, A.1, A.plain, Nat.lt_of_not_le fun q => hj' (Or.inr q), by rw [← eT]; rfl⟩
  exact Go.step st (k _ _ X' rfl W (Zv.set F0 W (by rw [← hn]; exact fits_nar_bool x)))
/-- clone() of an array -/
theorem Go.clone {a0 : Array Value} {own ad : String} {index W cap : Nat} (X : Stand p l e R s m args below meth c T locs cells slots) (hx : p.tables.exec = Jvm.exec) (hZ : Z.Warmed39 s.vm) (hml : Ls.size = c.maxLocals) (hown : s.vm.findClass own = some m.cls)
    (w1 : (Jvm.Cond.methodLink own index ⟨ad, "clone", "()Ljava/lang/Object;"⟩).before a0 Z = true) (w2 : (Jvm.Cond.sameMethod ad "java/lang/Object" "clone" "()Ljava/lang/Object;").before a0 Z = true) (w3 : (Jvm.Cond.native ⟨"java/lang/Object", "clone", "()Ljava/lang/Object;"⟩).before a0 Z = true)
    (w4 : (Jvm.Cond.instanceMethod ⟨"java/lang/Object", "clone", "()Ljava/lang/Object;"⟩).before a0 Z = true) (w5 : (Jvm.Cond.selects ad ⟨ad, "clone", "()Ljava/lang/Object;"⟩ ⟨"java/lang/Object", "clone", "()Ljava/lang/Object;"⟩).before a0 Z = true) (w6 : (Jvm.Cond.castable ad "java/lang/Cloneable").before a0 Z = true)
    (eT : T.heap = h) (F : Fv Z h a ty n f) (E : Exa Z h a ad) (hd : decode c.code pc = .ok (.invokevirtual index, 3)) (hf : 1 ≤ R.frames) (hW : (rest.map fun v => v.category).sum ≤ W) (hl : W + 14 ≤ R.locals) (hcap : n.toNatClampNeg ≤ cap) (hc : cells + 1 ≤ R.cells) (hsl : slots + cap ≤ R.slots)
    (k : ∀ T' h' b, b = h.size → Stand p l e R s m args below meth c T' locs (cells + 1) (slots + cap) → T'.heap = h' → Ext h h' → Fv Z h' b ty n f → Exa Z h' b ad → Go p e below s C S Q T' (mkF m (pc + 3) Ls (.ref b :: rest))) : Go p e below s C S Q T (mkF m pc Ls (.ref a :: rest)) := by
  obtain ⟨cl, A, S', P, G, H⟩ := F
  have FC : FitC Z cl := fitC_of A fun i hi v hv => by rw [H i hi] at hv; cases hv; exact G i
  obtain ⟨T', h', X', e', ex, A', E', st⟩ := cloneA X hx hZ hown w1 w2 w3 w4 w5 w6 eT A E FC (g := mkF m pc Ls (.ref a :: rest)) rfl hml rfl hd hf (by show 2 * 0 + _ ≤ _; omega) hl (by rw [S']; exact hcap) hc hsl
  exact Go.step st (k T' h' _ rfl X' e' ex ⟨cloneOf cl, A', S', P, G, H⟩ E')
end OwnFv

section OwnConv
open Jvm.FP.Core
theorem own_nnN {a : UInt64} (h : val64 a ≠ .nan) : Jvm.Free.Fl.NoNaN64 a := Jvm.Free.Fl.noNaN64_no.mpr ((notNaN_iff a).mpr h)
theorem own_Nnn {a : UInt64} (h : Jvm.Free.Fl.NoNaN64 a) : val64 a ≠ .nan := (notNaN_iff a).mp (Jvm.Free.Fl.noNaN64_no.mp h)
theorem own_finF {a : UInt64} (h : DFin a) : Jvm.Free.Fl.Fin64 a := Jvm.Free.Fl.fin64_core.mpr h
theorem own_Ffin {a : UInt64} (h : Jvm.Free.Fl.Fin64 a) : DFin a := Jvm.Free.Fl.fin64_core.mp h
theorem own_nnF {a : UInt64} (h : DFin a) : Jvm.Free.Fl.NoNaN64 a := own_nnN h.ne_nan
theorem own_nz {x : Int64} (h : x ≠ 0) : Jvm.Free.Fl.Nz64 (FP.l2d x) := Jvm.Free.Fl.nz64_core.mpr (fun z => l2d_ne_zero h ((zero_bits2 _).mp z))
theorem own_eqD {a b : UInt64} (h : a = b) (n : Jvm.Free.Fl.NoNaN64 a) : FP.dcmp a b = some .eq := by subst h; exact dcmp_self (own_Nnn n)
end OwnConv

section OwnDQ
open Jvm.FP.Core
/-- the heap's order among the first n labels -/
def HI (K : Nat → Int) (a : Nat → Nat) : Nat → Prop
  | 0 => True
  | 1 => True
  | 2 => K (a 0) ≤ K (a 1)
  | 3 => K (a 0) ≤ K (a 1) ∧ K (a 0) ≤ K (a 2)
  | 4 => K (a 0) ≤ K (a 1) ∧ K (a 0) ≤ K (a 2) ∧ K (a 1) ≤ K (a 3)
  | _ => K (a 0) ≤ K (a 1) ∧ K (a 0) ≤ K (a 2) ∧ K (a 1) ≤ K (a 3) ∧ K (a 1) ≤ K (a 4)
def sumA (w : Nat → Int) (a : Nat → Nat) : Nat → Int
  | 0 => 0
  | n + 1 => sumA w a n + w (a n)
theorem own_gtK {T : Nat → UInt64} {K : Nat → Int} (hT : ∀ x y, FP.dcmp (T x) (T y) = some (compare (K x) (K y))) {x y : Nat} (h : FP.dcmp (T x) (T y) = some .gt) : K y < K x := by
  rw [hT] at h; exact (compare_gt_iff _ _).mp (Option.some.inj h)
theorem own_ngtK {T : Nat → UInt64} {K : Nat → Int} (hT : ∀ x y, FP.dcmp (T x) (T y) = some (compare (K x) (K y))) {x y : Nat} (h : ¬ FP.dcmp (T x) (T y) = some .gt) : K x ≤ K y := by
  refine Int.not_lt.mp fun q => h ?_
  rw [hT, (compare_gt_iff _ _).mpr q]
theorem own_ltK {T : Nat → UInt64} {K : Nat → Int} (hT : ∀ x y, FP.dcmp (T x) (T y) = some (compare (K x) (K y))) {x y : Nat} (h : FP.dcmp (T x) (T y) = some .lt) : K x < K y := by
  rw [hT] at h; exact (compare_lt_iff _ _).mp (Option.some.inj h)
theorem own_nltK {T : Nat → UInt64} {K : Nat → Int} (hT : ∀ x y, FP.dcmp (T x) (T y) = some (compare (K x) (K y))) {x y : Nat} (h : ¬ FP.dcmp (T x) (T y) = some .lt) : K y ≤ K x := by
  refine Int.not_lt.mp fun q => h ?_
  rw [hT, (compare_lt_iff _ _).mpr q]
theorem own_geK {T : Nat → UInt64} {K : Nat → Int} (hT : ∀ x y, FP.dcmp (T x) (T y) = some (compare (K x) (K y))) {x y : Nat} (h : FP.dcmp (T x) (T y) = some .gt ∨ FP.dcmp (T x) (T y) = some .eq) : K y ≤ K x := by
  rcases h with h | h
  · exact Int.le_of_lt (own_gtK hT h)
  · rw [hT] at h; rw [(compare_eq_iff _ _).mp (Option.some.inj h)]; exact Int.le_refl _
theorem own_ngeK {T : Nat → UInt64} {K : Nat → Int} (hT : ∀ x y, FP.dcmp (T x) (T y) = some (compare (K x) (K y))) {x y : Nat} (h : ¬ (FP.dcmp (T x) (T y) = some .gt ∨ FP.dcmp (T x) (T y) = some .eq)) : K x < K y := by
  refine Int.not_le.mp fun q => h ?_
  rcases Int.lt_or_eq_of_le q with z | z
  · left; rw [hT, (compare_gt_iff _ _).mpr z]
  · right; rw [hT, (compare_eq_iff _ _).mpr z.symm]
end OwnDQ

section OwnL
def tV (p : Int32) : Nat → Int32 := (updN (updN (updN (updN (updN (fun _ => (0 : Int32)) 0 ((p &&& (7 : Int32)) - (3 : Int32))) 1 (((p >>> ((3 : Int32) &&& 31)) &&& (7 : Int32)) - (3 : Int32))) 2 (((p >>> ((6 : Int32) &&& 31)) &&& (7 : Int32)) - (3 : Int32))) 3 (((p >>> ((9 : Int32) &&& 31)) &&& (7 : Int32)) - (3 : Int32))) 4 (((p >>> ((12 : Int32) &&& 31)) &&& (7 : Int32)) - (3 : Int32)))
def tT (p : Int32) (x : Nat) : UInt64 := FP.i2d (tV p x)
def tK (p : Int32) (x : Nat) : Int := (tV p x).toInt
def tL (b : Int32) : Nat → Int32
  | 0 => b
  | 1 => b + (1 : Int32)
  | 2 => b + (2 : Int32)
  | 3 => b + (3 : Int32)
  | _ => b + (4 : Int32)
theorem tH (p : Int32) (x y : Nat) : FP.dcmp (tT p x) (tT p y) = some (compare (tK p x) (tK p y)) := Jvm.FP.Core.dcmp_int (Jvm.FP.Core.i2d_int _) (Jvm.FP.Core.i2d_int _)
def okW (r : Int32) : Int32 := if r < 0 then 0 else if r < 5 then 1 else 0
theorem own_sub (b k : Int32) : b + k - b = k := by
  rw [Int32.add_comm]; exact Int32.add_sub_cancel k b
theorem own_r {b r : Int32} {x : Nat} (hx : x < 5) (hr : r = tL b x - b) : ¬ r < 0 ∧ r < 5 ∧ r.toNatClampNeg = x ∧ okW r = 1 ∧ r = Int32.ofNat x := by
  have e : r = Int32.ofNat x := by
    rw [hr]
    rcases (by omega : x = 0 ∨ x = 1 ∨ x = 2 ∨ x = 3 ∨ x = 4) with rfl | rfl | rfl | rfl | rfl
    · show b - b = _; rw [Int32.sub_self]; rfl
    · exact own_sub b 1
    · exact own_sub b 2
    · exact own_sub b 3
    · exact own_sub b 4
  rw [e]
  rcases (by omega : x = 0 ∨ x = 1 ∨ x = 2 ∨ x = 3 ∨ x = 4) with rfl | rfl | rfl | rfl | rfl <;> decide
theorem own_ok {r : Int32} (h : okW r = 1) : ¬ okW r = (0 : Int32) := by rw [h]; decide
theorem own_seenF : ∀ a b c d e : Fin 5, (2 ^ a.1 + 2 ^ b.1 + 2 ^ c.1 + 2 ^ d.1 + 2 ^ e.1 = 31) → ((((((1 : Int32) <<< (Int32.ofNat a.1 &&& 31)) ||| ((1 : Int32) <<< (Int32.ofNat b.1 &&& 31))) ||| ((1 : Int32) <<< (Int32.ofNat c.1 &&& 31))) ||| ((1 : Int32) <<< (Int32.ofNat d.1 &&& 31))) ||| ((1 : Int32) <<< (Int32.ofNat e.1 &&& 31))) = (31 : Int32) := by first | decide +kernel | (unfold Jvm.Free.Fl.Fin64; decide +kernel) | (unfold Jvm.Free.Fl.Nz64; decide +kernel) | (unfold Jvm.Free.Fl.NoNaN64; decide +kernel)
theorem own_seen {a b c d e : Nat} (ha : a < 5) (hb : b < 5) (hc : c < 5) (hd : d < 5) (he : e < 5) (hw : ∀ w : Nat → Int, w a + w b + w c + w d + w e = w 0 + w 1 + w 2 + w 3 + w 4) {ra rb rc rd re : Int32} (ea : ra = Int32.ofNat a) (eb : rb = Int32.ofNat b) (ec : rc = Int32.ofNat c) (ed : rd = Int32.ofNat d) (ee : re = Int32.ofNat e) :
    ((((((1 : Int32) <<< (ra &&& 31)) ||| ((1 : Int32) <<< (rb &&& 31))) ||| ((1 : Int32) <<< (rc &&& 31))) ||| ((1 : Int32) <<< (rd &&& 31))) ||| ((1 : Int32) <<< (re &&& 31))) = (31 : Int32) := by
  rw [ea, eb, ec, ed, ee]
  refine own_seenF ⟨a, ha⟩ ⟨b, hb⟩ ⟨c, hc⟩ ⟨d, hd⟩ ⟨e, he⟩ ?_
  have := hw (fun x => ((2 ^ x : Nat) : Int))
  simp only at this ⊢
  omega
theorem own_le {p : Int32} {x y : Nat} {r s : Int32} (hr : r.toNatClampNeg = x) (hs : s.toNatClampNeg = y) (h : tK p x ≤ tK p y) : ¬ (tV p (s).toNatClampNeg) < (tV p (r).toNatClampNeg) := by
  rw [hr, hs, Int32.lt_iff_toInt_lt]; exact Int.not_lt.mpr h
end OwnL
theorem d1_0 : decode prog_1_method_1_code 0 = .ok (.aload_n 0, 1) := by decide +kernel
theorem d1_1 : decode prog_1_method_1_code 1 = .ok (.invokespecial 1, 3) := by decide +kernel
theorem d1_4 : decode prog_1_method_1_code 4 = .ok (.aload_n 0, 1) := by decide +kernel
theorem d1_5 : decode prog_1_method_1_code 5 = .ok (.bipush 64, 2) := by decide +kernel
theorem d1_7 : decode prog_1_method_1_code 7 = .ok (.newarray .double, 2) := by decide +kernel
theorem d1_9 : decode prog_1_method_1_code 9 = .ok (.putfield 7, 3) := by decide +kernel
theorem d1_12 : decode prog_1_method_1_code 12 = .ok (.aload_n 0, 1) := by decide +kernel
theorem d1_13 : decode prog_1_method_1_code 13 = .ok (.bipush 64, 2) := by decide +kernel
theorem d1_15 : decode prog_1_method_1_code 15 = .ok (.newarray .int, 2) := by decide +kernel
theorem d1_17 : decode prog_1_method_1_code 17 = .ok (.putfield 13, 3) := by decide +kernel
theorem d1_20 : decode prog_1_method_1_code 20 = .ok (.return_, 1) := by decide +kernel
set_option maxRecDepth 65536 in
set_option maxHeartbeats 40000000 in
theorem w1 {p : Program} {l : Launch} {e : Env} {s : State} {m : MethodId} {args : Array Value} {below : List Frame} {meth : Method} {c_ : Code} {T0 : State} {locs : List Loc} {Z : State} {a0 : Array Value} {h0 : Heap} {n0 : Nat} (q : Addr)
    (X0 : Stand p l e ({ frames := 1, cells := 2, slots := 128, locals := 12 } : Room) s m args below meth c_ T0 locs 0 0) (hx : p.tables.exec = Jvm.exec) (hZ : Z.Warmed39 s.vm) (hw : ∀ d ∈ tables_1, d.before a0 Z = true) (hby : c_.code = prog_1_method_1_code) (hml : c_.maxLocals = 1) (hown : s.vm.findClass "com/example/wavegrade/wavegrade/DepartureQueue" = some m.cls) (hnm : meth.name = "<init>") (hret : meth.sig.returnType = none) (hlk : meth.locks = false) (e0 : T0.heap = h0) (Z0 : n0 ≤ h0.size) (N0 : Fr n0 locs) (E_q : Exa Z h0 q "com/example/wavegrade/wavegrade/DepartureQueue") (F_size_q : Fld Z h0 q "com/example/wavegrade/wavegrade/DepartureQueue" "size" "I" (.int (0 : Int32))) (F_times_q : Fld Z h0 q "com/example/wavegrade/wavegrade/DepartureQueue" "times" "[D" .null) (F_lightpaths_q : Fld Z h0 q "com/example/wavegrade/wavegrade/DepartureQueue" "lightpaths" "[I" .null) (ge_q : n0 ≤ q) :
    Go p e below s ({ frames := 1, cells := 2, slots := 128, locals := 12 } : Room).cells ({ frames := 1, cells := 2, slots := 128, locals := 12 } : Room).slots (fun r h L => r = none ∧ Fr n0 L ∧ Keep h0 h [q] ∧ Exa Z h q "com/example/wavegrade/wavegrade/DepartureQueue" ∧ Fld Z h q "com/example/wavegrade/wavegrade/DepartureQueue" "size" "I" (.int (0 : Int32)) ∧ ∃ u v : Addr, Fld Z h q "com/example/wavegrade/wavegrade/DepartureQueue" "times" "[D" (.ref u) ∧ Fld Z h q "com/example/wavegrade/wavegrade/DepartureQueue" "lightpaths" "[I" (.ref v) ∧ Dv Z h u (64 : Int32) (fun _ => 0) ∧ Iv Z h v (64 : Int32) (fun _ => 0) ∧ q ≠ u ∧ q ≠ v ∧ u ≠ v ∧ h0.size ≤ u ∧ h0.size ≤ v) T0 (mkF m 0 #[.val (.ref q)] []) := by
  show Go _ _ _ _ _ _ _ T0 (mkF m 0 #[.val (.ref q)] [])
  refine Go.step (fun _ k => XS.aloadN X0.here hx rfl (hb hby d1_0) rfl rfl k) ?_
  show Go _ _ _ _ _ _ _ T0 (mkF m 1 #[.val (.ref q)] [(.ref q)])
  obtain ⟨T1, X1, e1, st1⟩ := initO X0 hx hZ hown (hw _ (List.mem_of_getElem? (i := 7) rfl)) (hw _ (List.mem_of_getElem? (i := 8) rfl)) (hw _ (List.mem_of_getElem? (i := 9) rfl)) e0 (g := (mkF m 1 #[.val (.ref q)] [(.ref q)])) rfl (by rw [hml]; rfl) rfl (hb hby d1_1) (by decide) (W := 0) (by show 2 * 0 + _ ≤ _; exact Nat.le_of_eq rfl) (by decide)
  refine Go.step st1 ?_
  show Go _ _ _ _ _ _ _ T1 (mkF m 4 #[.val (.ref q)] [])
  refine Go.step (fun _ k => XS.aloadN X1.here hx rfl (hb hby d1_4) rfl rfl k) ?_
  show Go _ _ _ _ _ _ _ T1 (mkF m 5 #[.val (.ref q)] [(.ref q)])
  refine Go.step (fun _ k => XS.bipush X1.here hx rfl (hb hby d1_5) k) ?_
  show Go _ _ _ _ _ _ _ T1 (mkF m 7 #[.val (.ref q)] [(.int (64 : Int32)), (.ref q)])
  obtain ⟨T2, h2, k2, X2, e2, E2, A2, st2⟩ := newP X1 hx hZ (hw _ (List.mem_of_getElem? (i := 10) rfl)) e1 (g := (mkF m 7 #[.val (.ref q)] [(.int (64 : Int32)), (.ref q)])) rfl (hb hby d1_7) rfl (by decide) (cap := 64) (by decide) (by decide) (by decide) (by decide)
  obtain ⟨b2, g2⟩ : ∃ z, z = h0.size := ⟨_, rfl⟩
  rw [← g2] at A2 st2
  refine Go.step st2 ?_
  have K2 : Keep h0 h2 [q] := (Keep.refl h0 [q]).ext E2
  have sz_b2 : h0.size ≤ b2 := Nat.le_trans ((Keep.refl h0 [q]) : Keep h0 h0 [q]).1 (Nat.le_of_eq g2.symm)
  have ge_b2 : n0 ≤ b2 := Nat.le_trans Z0 sz_b2
  have ne_q_b2 : q ≠ b2 := Nat.ne_of_lt (Nat.lt_of_lt_of_le E_q.lt (Nat.le_of_eq g2.symm))
  have E_q_2 := E_q.ext E2
  have F_size_q_2 := F_size_q.ext E2
  have F_times_q_2 := F_times_q.ext E2
  have F_lightpaths_q_2 := F_lightpaths_q.ext E2
  have V_b2 : Dv Z h2 b2 (64 : Int32) (fun _ => (0 : UInt64)) := Fv.new A2 (by decide)
  show Go _ _ _ _ _ _ _ T2 (mkF m 9 #[.val (.ref q)] [(.ref b2), (.ref q)])
  obtain ⟨T3, h3, X3, e3, W3, st3⟩ := putF X2 hx hZ hown (host := "") (Or.inl (hw _ (List.mem_of_getElem? (i := 11) rfl))) Via.refl e2 F_times_q_2 E_q_2 (Or.inl (hw _ (List.mem_of_getElem? (i := 12) rfl))) (hw _ (List.mem_of_getElem? (i := 2) rfl)) (ty := (.array .double)) (by decide) rfl rfl (g := (mkF m 9 #[.val (.ref q)] [(.ref b2), (.ref q)])) rfl rfl (hb hby d1_9)
  refine Go.step st3 ?_
  have N3 := Fr.snoc X3 N0 ge_q
  have F_times_q_3 := F_times_q_2.same W3
  have E_q_3 := E_q_2.wr W3
  have F_size_q_3 := F_size_q_2.other W3 (Or.inr (slot_ne (Or.inl (hw _ (List.mem_of_getElem? (i := 21) rfl))) (Or.inl (hw _ (List.mem_of_getElem? (i := 12) rfl))) (by decide) (t := .int) (t' := (.array .double)) (by decide) (by decide)))
  have F_lightpaths_q_3 := F_lightpaths_q_2.other W3 (Or.inr (slot_ne (Or.inl (hw _ (List.mem_of_getElem? (i := 14) rfl))) (Or.inl (hw _ (List.mem_of_getElem? (i := 12) rfl))) (by decide) (t := (.array .int)) (t' := (.array .double)) (by decide) (by decide)))
  have V_b2_3 := V_b2.other W3 (Ne.symm ne_q_b2)
  have K3 : Keep h0 h3 [q] := K2.wr W3 (Or.inl (List.mem_of_getElem? (i := 0) rfl))
  show Go _ _ _ _ _ _ _ T3 (mkF m 12 #[.val (.ref q)] [])
  refine Go.step (fun _ k => XS.aloadN X3.here hx rfl (hb hby d1_12) rfl rfl k) ?_
  show Go _ _ _ _ _ _ _ T3 (mkF m 13 #[.val (.ref q)] [(.ref q)])
  refine Go.step (fun _ k => XS.bipush X3.here hx rfl (hb hby d1_13) k) ?_
  show Go _ _ _ _ _ _ _ T3 (mkF m 15 #[.val (.ref q)] [(.int (64 : Int32)), (.ref q)])
  obtain ⟨T4, h4, k4, X4, e4, E4, A4, st4⟩ := newP X3 hx hZ (hw _ (List.mem_of_getElem? (i := 0) rfl)) e3 (g := (mkF m 15 #[.val (.ref q)] [(.int (64 : Int32)), (.ref q)])) rfl (hb hby d1_15) rfl (by decide) (cap := 64) (by decide) (by decide) (by decide) (by decide)
  obtain ⟨b4, g4⟩ : ∃ z, z = h3.size := ⟨_, rfl⟩
  rw [← g4] at A4 st4
  refine Go.step st4 ?_
  have K4 : Keep h0 h4 [q] := K3.ext E4
  have sz_b4 : h0.size ≤ b4 := Nat.le_trans (K3 : Keep h0 h3 [q]).1 (Nat.le_of_eq g4.symm)
  have ge_b4 : n0 ≤ b4 := Nat.le_trans Z0 sz_b4
  have ne_q_b4 : q ≠ b4 := Nat.ne_of_lt (Nat.lt_of_lt_of_le E_q_3.lt (Nat.le_of_eq g4.symm))
  have ne_b2_b4 : b2 ≠ b4 := Nat.ne_of_lt (Nat.lt_of_lt_of_le V_b2_3.lt (Nat.le_of_eq g4.symm))
  have E_q_4 := E_q_3.ext E4
  have F_size_q_4 := F_size_q_3.ext E4
  have F_times_q_4 := F_times_q_3.ext E4
  have F_lightpaths_q_4 := F_lightpaths_q_3.ext E4
  have V_b2_4 := V_b2_3.ext E4
  have V_b4 : Iv Z h4 b4 (64 : Int32) (fun _ => (0 : Int32)) := Fv.new A4 (by decide)
  show Go _ _ _ _ _ _ _ T4 (mkF m 17 #[.val (.ref q)] [(.ref b4), (.ref q)])
  obtain ⟨T5, h5, X5, e5, W5, st5⟩ := putF X4 hx hZ hown (host := "") (Or.inl (hw _ (List.mem_of_getElem? (i := 13) rfl))) Via.refl e4 F_lightpaths_q_4 E_q_4 (Or.inl (hw _ (List.mem_of_getElem? (i := 14) rfl))) (hw _ (List.mem_of_getElem? (i := 2) rfl)) (ty := (.array .int)) (by decide) rfl rfl (g := (mkF m 17 #[.val (.ref q)] [(.ref b4), (.ref q)])) rfl rfl (hb hby d1_17)
  refine Go.step st5 ?_
  have N5 := Fr.snoc X5 N3 ge_q
  have F_lightpaths_q_5 := F_lightpaths_q_4.same W5
  have E_q_5 := E_q_4.wr W5
  have F_size_q_5 := F_size_q_4.other W5 (Or.inr (slot_ne (Or.inl (hw _ (List.mem_of_getElem? (i := 21) rfl))) (Or.inl (hw _ (List.mem_of_getElem? (i := 14) rfl))) (by decide) (t := .int) (t' := (.array .int)) (by decide) (by decide)))
  have F_times_q_5 := F_times_q_4.other W5 (Or.inr (slot_ne (Or.inl (hw _ (List.mem_of_getElem? (i := 12) rfl))) (Or.inl (hw _ (List.mem_of_getElem? (i := 14) rfl))) (by decide) (t := (.array .double)) (t' := (.array .int)) (by decide) (by decide)))
  have V_b2_5 := V_b2_4.other W5 (Ne.symm ne_q_b2)
  have V_b4_5 := V_b4.other W5 (Ne.symm ne_q_b4)
  have K5 : Keep h0 h5 [q] := K4.wr W5 (Or.inl (List.mem_of_getElem? (i := 0) rfl))
  show Go _ _ _ _ _ _ _ T5 (mkF m 20 #[.val (.ref q)] [])
  refine Go.retV X5 hx hlk hret (hb hby d1_20) (by decide) (by decide) ?_
  try rw [e5]
  exact ⟨rfl, N5, K5, E_q_5, F_size_q_5, b2, b4, F_times_q_5, F_lightpaths_q_5, V_b2_5, V_b4_5, ne_q_b2, ne_q_b4, ne_b2_b4, sz_b2, sz_b4⟩
theorem pn_1 : plainName "com/example/wavegrade/wavegrade/DepartureQueue" = true := by first | (simp [plainName, overriddenIn]; done) | decide +kernel
theorem ef_rm1 (m : MethodId) (q : Addr) : entryFrame m #[(.ref q)] 1 = mkF m 0 #[.val (.ref q)] [] := by first | (simp [entryFrame, mkF, argsToLocals, Value.category]; done) | rfl
theorem rm1 (l : Launch) (Z : State) (a0 : Array Value) (hw : ∀ d ∈ tables_1, d.before a0 Z = true) (q : Addr) (h0 : Heap) (n0 : Nat) (Z0 : n0 ≤ h0.size) (E_q : Exa Z h0 q "com/example/wavegrade/wavegrade/DepartureQueue") (F_size_q : Fld Z h0 q "com/example/wavegrade/wavegrade/DepartureQueue" "size" "I" (.int (0 : Int32))) (F_times_q : Fld Z h0 q "com/example/wavegrade/wavegrade/DepartureQueue" "times" "[D" .null) (F_lightpaths_q : Fld Z h0 q "com/example/wavegrade/wavegrade/DepartureQueue" "lightpaths" "[I" .null) (ge_q : n0 ≤ q) :
    Con l Z (⟨"com/example/wavegrade/wavegrade/DepartureQueue", "<init>", "()V"⟩ : MethodName) prog_1_method_1_code 1 none ({ frames := 1, cells := 2, slots := 128, locals := 12 } : Room) #[(.ref q)] h0 (fun r h L => r = none ∧ Fr n0 L ∧ Keep h0 h [q] ∧ Exa Z h q "com/example/wavegrade/wavegrade/DepartureQueue" ∧ Fld Z h q "com/example/wavegrade/wavegrade/DepartureQueue" "size" "I" (.int (0 : Int32)) ∧ ∃ u v : Addr, Fld Z h q "com/example/wavegrade/wavegrade/DepartureQueue" "times" "[D" (.ref u) ∧ Fld Z h q "com/example/wavegrade/wavegrade/DepartureQueue" "lightpaths" "[I" (.ref v) ∧ Dv Z h u (64 : Int32) (fun _ => 0) ∧ Iv Z h v (64 : Int32) (fun _ => 0) ∧ q ≠ u ∧ q ≠ v ∧ u ≠ v ∧ h0.size ≤ u ∧ h0.size ≤ v) :=
  con_of (plainFor_of_name pn_1) (fun p_ e_ s_ m_ b_ meth_ c_ T_ X_ hx hZ hby hml hown hnm hret hlk e0 => Go.cast (ef_rm1 m_ q) (w1 q X_ hx hZ hw hby hml hown hnm hret hlk e0 Z0 (Fr.nil n0) E_q F_size_q F_times_q F_lightpaths_q ge_q))
theorem d3_0 : decode prog_1_method_4_code 0 = .ok (.aload_n 0, 1) := by decide +kernel
theorem d3_1 : decode prog_1_method_4_code 1 = .ok (.getfield 17, 3) := by decide +kernel
theorem d3_4 : decode prog_1_method_4_code 4 = .ok (.aload_n 0, 1) := by decide +kernel
theorem d3_5 : decode prog_1_method_4_code 5 = .ok (.getfield 7, 3) := by decide +kernel
theorem d3_8 : decode prog_1_method_4_code 8 = .ok (.arraylength, 1) := by decide +kernel
theorem d3_9 : decode prog_1_method_4_code 9 = .ok (.if_icmp .ne 37, 3) := by decide +kernel
theorem d3_46 : decode prog_1_method_4_code 46 = .ok (.aload_n 0, 1) := by decide +kernel
theorem d3_47 : decode prog_1_method_4_code 47 = .ok (.dup, 1) := by decide +kernel
theorem d3_48 : decode prog_1_method_4_code 48 = .ok (.getfield 17, 3) := by decide +kernel
theorem d3_51 : decode prog_1_method_4_code 51 = .ok (.dup_x1, 1) := by decide +kernel
theorem d3_52 : decode prog_1_method_4_code 52 = .ok (.iconst 1, 1) := by decide +kernel
theorem d3_53 : decode prog_1_method_4_code 53 = .ok (.iadd, 1) := by decide +kernel
theorem d3_54 : decode prog_1_method_4_code 54 = .ok (.putfield 17, 3) := by decide +kernel
theorem d3_57 : decode prog_1_method_4_code 57 = .ok (.istore 4, 2) := by decide +kernel
theorem d3_59 : decode prog_1_method_4_code 59 = .ok (.iload 4, 2) := by decide +kernel
theorem d3_61 : decode prog_1_method_4_code 61 = .ok (.ifCond .le 62, 3) := by decide +kernel
theorem d3_123 : decode prog_1_method_4_code 123 = .ok (.aload_n 0, 1) := by decide +kernel
theorem d3_124 : decode prog_1_method_4_code 124 = .ok (.getfield 7, 3) := by decide +kernel
theorem d3_127 : decode prog_1_method_4_code 127 = .ok (.iload 4, 2) := by decide +kernel
theorem d3_129 : decode prog_1_method_4_code 129 = .ok (.dload_n 1, 1) := by decide +kernel
theorem d3_130 : decode prog_1_method_4_code 130 = .ok (.dastore, 1) := by decide +kernel
theorem d3_131 : decode prog_1_method_4_code 131 = .ok (.aload_n 0, 1) := by decide +kernel
theorem d3_132 : decode prog_1_method_4_code 132 = .ok (.getfield 13, 3) := by decide +kernel
theorem d3_135 : decode prog_1_method_4_code 135 = .ok (.iload 4, 2) := by decide +kernel
theorem d3_137 : decode prog_1_method_4_code 137 = .ok (.iload_n 3, 1) := by decide +kernel
theorem d3_138 : decode prog_1_method_4_code 138 = .ok (.iastore, 1) := by decide +kernel
theorem d3_139 : decode prog_1_method_4_code 139 = .ok (.return_, 1) := by decide +kernel
set_option maxRecDepth 65536 in
set_option maxHeartbeats 40000000 in
theorem w_add0 {p : Program} {l : Launch} {e : Env} {s : State} {m : MethodId} {args : Array Value} {below : List Frame} {meth : Method} {c_ : Code} {T0 : State} {locs : List Loc} {Z : State} {a0 : Array Value} {h0 : Heap} {n0 : Nat} (q u v : Addr) (g : Nat → UInt64) (l' : Nat → Int32) (T : Nat → UInt64) (Lp : Nat → Int32) (K : Nat → Int) (a : Nat → Nat) (lam : Nat)
    (X0 : Stand p l e ({ frames := 0, cells := 0, slots := 0, locals := 0 } : Room) s m args below meth c_ T0 locs 0 0) (hx : p.tables.exec = Jvm.exec) (hZ : Z.Warmed39 s.vm) (hw : ∀ d ∈ tables_1, d.before a0 Z = true) (hby : c_.code = prog_1_method_4_code) (hml : c_.maxLocals = 6) (hown : s.vm.findClass "com/example/wavegrade/wavegrade/DepartureQueue" = some m.cls) (hnm : meth.name = "add") (hret : meth.sig.returnType = none) (hlk : meth.locks = false) (e0 : T0.heap = h0) (Z0 : n0 ≤ h0.size) (N0 : Fr n0 locs) (E_q : Exa Z h0 q "com/example/wavegrade/wavegrade/DepartureQueue") (F_size_q : Fld Z h0 q "com/example/wavegrade/wavegrade/DepartureQueue" "size" "I" (.int (0 : Int32))) (F_times_q : Fld Z h0 q "com/example/wavegrade/wavegrade/DepartureQueue" "times" "[D" (.ref u)) (F_lightpaths_q : Fld Z h0 q "com/example/wavegrade/wavegrade/DepartureQueue" "lightpaths" "[I" (.ref v)) (V_u : Dv Z h0 u (64 : Int32) g) (V_v : Iv Z h0 v (64 : Int32) l') (ne_q_u : q ≠ u) (ne_q_v : q ≠ v) (ne_u_v : u ≠ v) (ge_q : n0 ≤ q) (ge_u : n0 ≤ u) (ge_v : n0 ≤ v) (hT : ∀ x y, FP.dcmp (T x) (T y) = some (compare (K x) (K y))) (hg : ∀ i, i < 0 → g i = T (a i)) (hl : ∀ i, i < 0 → l' i = Lp (a i)) (hi : HI K a 0) :
    Go p e below s ({ frames := 0, cells := 0, slots := 0, locals := 0 } : Room).cells ({ frames := 0, cells := 0, slots := 0, locals := 0 } : Room).slots (fun r h L => r = none ∧ Fr n0 L ∧ Keep h0 h [q, u, v] ∧ Exa Z h q "com/example/wavegrade/wavegrade/DepartureQueue" ∧ Fld Z h q "com/example/wavegrade/wavegrade/DepartureQueue" "size" "I" (.int (1 : Int32)) ∧ Fld Z h q "com/example/wavegrade/wavegrade/DepartureQueue" "times" "[D" (.ref u) ∧ Fld Z h q "com/example/wavegrade/wavegrade/DepartureQueue" "lightpaths" "[I" (.ref v) ∧ ∃ (g2 : Nat → UInt64) (l2 : Nat → Int32) (a2 : Nat → Nat), Dv Z h u (64 : Int32) g2 ∧ Iv Z h v (64 : Int32) l2 ∧ (∀ i, i < 1 → g2 i = T (a2 i)) ∧ (∀ i, i < 1 → l2 i = Lp (a2 i)) ∧ HI K a2 1 ∧ (∀ w : Nat → Int, sumA w a2 1 = sumA w a 0 + w lam) ∧ ∀ P : Nat → Prop, (∀ i, i < 0 → P (a i)) → P lam → ∀ i, i < 1 → P (a2 i)) T0 (mkF m 0 #[.val (.ref q), .val (.double (T lam)), .second, .val (.int (Lp lam)), .unset, .unset] []) := by
  simp only [HI] at hi
  show Go _ _ _ _ _ _ _ T0 (mkF m 0 #[.val (.ref q), .val (.double (T lam)), .second, .val (.int (Lp lam)), .unset, .unset] [])
  refine Go.step (fun _ k => XS.aloadN X0.here hx rfl (hb hby d3_0) rfl rfl k) ?_
  show Go _ _ _ _ _ _ _ T0 (mkF m 1 #[.val (.ref q), .val (.double (T lam)), .second, .val (.int (Lp lam)), .unset, .unset] [(.ref q)])
  obtain ⟨T1, X1, e1, st1⟩ := getF X0 hx hZ hown (host := "") (Or.inl (hw _ (List.mem_of_getElem? (i := 20) rfl))) Via.refl e0 F_size_q (g := (mkF m 1 #[.val (.ref q), .val (.double (T lam)), .second, .val (.int (Lp lam)), .unset, .unset] [(.ref q)])) rfl rfl (hb hby d3_1)
  refine Go.step st1 ?_
  show Go _ _ _ _ _ _ _ T1 (mkF m 4 #[.val (.ref q), .val (.double (T lam)), .second, .val (.int (Lp lam)), .unset, .unset] [(.int (0 : Int32))])
  refine Go.step (fun _ k => XS.aloadN X1.here hx rfl (hb hby d3_4) rfl rfl k) ?_
  show Go _ _ _ _ _ _ _ T1 (mkF m 5 #[.val (.ref q), .val (.double (T lam)), .second, .val (.int (Lp lam)), .unset, .unset] [(.ref q), (.int (0 : Int32))])
  obtain ⟨T2, X2, e2, st2⟩ := getF X1 hx hZ hown (host := "") (Or.inl (hw _ (List.mem_of_getElem? (i := 11) rfl))) Via.refl e1 F_times_q (g := (mkF m 5 #[.val (.ref q), .val (.double (T lam)), .second, .val (.int (Lp lam)), .unset, .unset] [(.ref q), (.int (0 : Int32))])) rfl rfl (hb hby d3_5)
  refine Go.step st2 ?_
  show Go _ _ _ _ _ _ _ T2 (mkF m 8 #[.val (.ref q), .val (.double (T lam)), .second, .val (.int (Lp lam)), .unset, .unset] [(.ref u), (.int (0 : Int32))])
  refine Go.alen X2 hx hZ e2 V_u (hb hby d3_8) ?_
  show Go _ _ _ _ _ _ _ T2 (mkF m 9 #[.val (.ref q), .val (.double (T lam)), .second, .val (.int (Lp lam)), .unset, .unset] [(.int (64 : Int32)), (.int (0 : Int32))])
  refine Go.step (fun _ k => XS.icmpYes X2.here hx rfl (pc0 := 9) (pc' := 46) rfl (hb hby d3_9) rfl (feq (by decide : ¬ ((0 : Int32) = (64 : Int32)))).2 (by decide) (by decide) k) ?_
  show Go _ _ _ _ _ _ _ T2 (mkF m 46 #[.val (.ref q), .val (.double (T lam)), .second, .val (.int (Lp lam)), .unset, .unset] [])
  refine Go.step (fun _ k => XS.aloadN X2.here hx rfl (hb hby d3_46) rfl rfl k) ?_
  show Go _ _ _ _ _ _ _ T2 (mkF m 47 #[.val (.ref q), .val (.double (T lam)), .second, .val (.int (Lp lam)), .unset, .unset] [(.ref q)])
  refine Go.step (fun _ k => XS.dup X2.here hx rfl (hb hby d3_47) rfl rfl k) ?_
  show Go _ _ _ _ _ _ _ T2 (mkF m 48 #[.val (.ref q), .val (.double (T lam)), .second, .val (.int (Lp lam)), .unset, .unset] [(.ref q), (.ref q)])
  obtain ⟨T3, X3, e3, st3⟩ := getF X2 hx hZ hown (host := "") (Or.inl (hw _ (List.mem_of_getElem? (i := 20) rfl))) Via.refl e2 F_size_q (g := (mkF m 48 #[.val (.ref q), .val (.double (T lam)), .second, .val (.int (Lp lam)), .unset, .unset] [(.ref q), (.ref q)])) rfl rfl (hb hby d3_48)
  refine Go.step st3 ?_
  show Go _ _ _ _ _ _ _ T3 (mkF m 51 #[.val (.ref q), .val (.double (T lam)), .second, .val (.int (Lp lam)), .unset, .unset] [(.int (0 : Int32)), (.ref q)])
  refine Go.step (fun _ k => XS.dupX1 X3.here hx rfl (hb hby d3_51) rfl rfl rfl k) ?_
  show Go _ _ _ _ _ _ _ T3 (mkF m 52 #[.val (.ref q), .val (.double (T lam)), .second, .val (.int (Lp lam)), .unset, .unset] [(.int (0 : Int32)), (.ref q), (.int (0 : Int32))])
  refine Go.step (fun _ k => XS.iconst X3.here hx rfl (hb hby d3_52) k) ?_
  show Go _ _ _ _ _ _ _ T3 (mkF m 53 #[.val (.ref q), .val (.double (T lam)), .second, .val (.int (Lp lam)), .unset, .unset] [(.int (1 : Int32)), (.int (0 : Int32)), (.ref q), (.int (0 : Int32))])
  refine Go.step (fun _ k => XS.iadd X3.here hx rfl (hb hby d3_53) rfl k) ?_
  show Go _ _ _ _ _ _ _ T3 (mkF m 54 #[.val (.ref q), .val (.double (T lam)), .second, .val (.int (Lp lam)), .unset, .unset] [(.int (1 : Int32)), (.ref q), (.int (0 : Int32))])
  obtain ⟨T4, h4, X4, e4, W4, st4⟩ := putF X3 hx hZ hown (host := "") (Or.inl (hw _ (List.mem_of_getElem? (i := 20) rfl))) Via.refl e3 F_size_q E_q (Or.inl (hw _ (List.mem_of_getElem? (i := 21) rfl))) (hw _ (List.mem_of_getElem? (i := 2) rfl)) (ty := .int) (by decide) rfl rfl (g := (mkF m 54 #[.val (.ref q), .val (.double (T lam)), .second, .val (.int (Lp lam)), .unset, .unset] [(.int (1 : Int32)), (.ref q), (.int (0 : Int32))])) rfl rfl (hb hby d3_54)
  refine Go.step st4 ?_
  have N4 := Fr.snoc X4 N0 ge_q
  have F_size_q_4 := F_size_q.same W4
  have E_q_4 := E_q.wr W4
  have F_times_q_4 := F_times_q.other W4 (Or.inr (slot_ne (Or.inl (hw _ (List.mem_of_getElem? (i := 12) rfl))) (Or.inl (hw _ (List.mem_of_getElem? (i := 21) rfl))) (by decide) (t := (.array .double)) (t' := .int) (by decide) (by decide)))
  have F_lightpaths_q_4 := F_lightpaths_q.other W4 (Or.inr (slot_ne (Or.inl (hw _ (List.mem_of_getElem? (i := 14) rfl))) (Or.inl (hw _ (List.mem_of_getElem? (i := 21) rfl))) (by decide) (t := (.array .int)) (t' := .int) (by decide) (by decide)))
  have V_u_4 := V_u.other W4 (Ne.symm ne_q_u)
  have V_v_4 := V_v.other W4 (Ne.symm ne_q_v)
  have K4 : Keep h0 h4 [q, u, v] := (Keep.refl h0 [q, u, v]).wr W4 (Or.inl (List.mem_of_getElem? (i := 0) rfl))
  show Go _ _ _ _ _ _ _ T4 (mkF m 57 #[.val (.ref q), .val (.double (T lam)), .second, .val (.int (Lp lam)), .unset, .unset] [(.int (0 : Int32))])
  refine Go.step (fun _ k => XS.istore X4.here hx rfl (hb hby d3_57) rfl (l' := #[.val (.ref q), .val (.double (T lam)), .second, .val (.int (Lp lam)), .val (.int (0 : Int32)), .unset]) rfl k) ?_
  show Go _ _ _ _ _ _ _ T4 (mkF m 59 #[.val (.ref q), .val (.double (T lam)), .second, .val (.int (Lp lam)), .val (.int (0 : Int32)), .unset] [])
  refine Go.step (fun _ k => XS.iload X4.here hx rfl (hb hby d3_59) rfl k) ?_
  show Go _ _ _ _ _ _ _ T4 (mkF m 61 #[.val (.ref q), .val (.double (T lam)), .second, .val (.int (Lp lam)), .val (.int (0 : Int32)), .unset] [(.int (0 : Int32))])
  refine Go.step (fun _ k => XS.ifYes X4.here hx rfl (pc0 := 61) (pc' := 123) rfl (hb hby d3_61) rfl ((if0 _ _).trans (flt (by decide : ¬ ((0 : Int32) < (0 : Int32)))).2.2.2) (by decide) (by decide) k) ?_
  show Go _ _ _ _ _ _ _ T4 (mkF m 123 #[.val (.ref q), .val (.double (T lam)), .second, .val (.int (Lp lam)), .val (.int (0 : Int32)), .unset] [])
  refine Go.step (fun _ k => XS.aloadN X4.here hx rfl (hb hby d3_123) rfl rfl k) ?_
  show Go _ _ _ _ _ _ _ T4 (mkF m 124 #[.val (.ref q), .val (.double (T lam)), .second, .val (.int (Lp lam)), .val (.int (0 : Int32)), .unset] [(.ref q)])
  obtain ⟨T5, X5, e5, st5⟩ := getF X4 hx hZ hown (host := "") (Or.inl (hw _ (List.mem_of_getElem? (i := 11) rfl))) Via.refl e4 F_times_q_4 (g := (mkF m 124 #[.val (.ref q), .val (.double (T lam)), .second, .val (.int (Lp lam)), .val (.int (0 : Int32)), .unset] [(.ref q)])) rfl rfl (hb hby d3_124)
  refine Go.step st5 ?_
  show Go _ _ _ _ _ _ _ T5 (mkF m 127 #[.val (.ref q), .val (.double (T lam)), .second, .val (.int (Lp lam)), .val (.int (0 : Int32)), .unset] [(.ref u)])
  refine Go.step (fun _ k => XS.iload X5.here hx rfl (hb hby d3_127) rfl k) ?_
  show Go _ _ _ _ _ _ _ T5 (mkF m 129 #[.val (.ref q), .val (.double (T lam)), .second, .val (.int (Lp lam)), .val (.int (0 : Int32)), .unset] [(.int (0 : Int32)), (.ref u)])
  refine Go.step (fun _ k => XS.dloadN X5.here hx rfl (hb hby d3_129) rfl k) ?_
  show Go _ _ _ _ _ _ _ T5 (mkF m 130 #[.val (.ref q), .val (.double (T lam)), .second, .val (.int (Lp lam)), .val (.int (0 : Int32)), .unset] [(.double (T lam)), (.int (0 : Int32)), (.ref u)])
  refine Go.dastore X5 hx hZ e5 V_u_4 (j := (0 : Int32)) (x := (T lam)) (by decide) (hb hby d3_130) ?_
  intro T6 h6 X6 e6 W6 Vn6
  have V_u_6 : Dv Z h6 u (64 : Int32) (updN g 0 (T lam)) := Vn6
  have N6 := Fr.snoc X6 N4 ge_u
  have E_q_6 := E_q_4.wr W6
  have F_size_q_6 := F_size_q_4.other W6 (Or.inl ne_q_u)
  have F_times_q_6 := F_times_q_4.other W6 (Or.inl ne_q_u)
  have F_lightpaths_q_6 := F_lightpaths_q_4.other W6 (Or.inl ne_q_u)
  have V_v_6 := V_v_4.other W6 (Ne.symm ne_u_v)
  have K6 : Keep h0 h6 [q, u, v] := K4.wr W6 (Or.inl (List.mem_of_getElem? (i := 1) rfl))
  show Go _ _ _ _ _ _ _ T6 (mkF m 131 #[.val (.ref q), .val (.double (T lam)), .second, .val (.int (Lp lam)), .val (.int (0 : Int32)), .unset] [])
  refine Go.step (fun _ k => XS.aloadN X6.here hx rfl (hb hby d3_131) rfl rfl k) ?_
  show Go _ _ _ _ _ _ _ T6 (mkF m 132 #[.val (.ref q), .val (.double (T lam)), .second, .val (.int (Lp lam)), .val (.int (0 : Int32)), .unset] [(.ref q)])
  obtain ⟨T7, X7, e7, st7⟩ := getF X6 hx hZ hown (host := "") (Or.inl (hw _ (List.mem_of_getElem? (i := 13) rfl))) Via.refl e6 F_lightpaths_q_6 (g := (mkF m 132 #[.val (.ref q), .val (.double (T lam)), .second, .val (.int (Lp lam)), .val (.int (0 : Int32)), .unset] [(.ref q)])) rfl rfl (hb hby d3_132)
  refine Go.step st7 ?_
  show Go _ _ _ _ _ _ _ T7 (mkF m 135 #[.val (.ref q), .val (.double (T lam)), .second, .val (.int (Lp lam)), .val (.int (0 : Int32)), .unset] [(.ref v)])
  refine Go.step (fun _ k => XS.iload X7.here hx rfl (hb hby d3_135) rfl k) ?_
  show Go _ _ _ _ _ _ _ T7 (mkF m 137 #[.val (.ref q), .val (.double (T lam)), .second, .val (.int (Lp lam)), .val (.int (0 : Int32)), .unset] [(.int (0 : Int32)), (.ref v)])
  refine Go.step (fun _ k => XS.iloadN X7.here hx rfl (hb hby d3_137) rfl k) ?_
  show Go _ _ _ _ _ _ _ T7 (mkF m 138 #[.val (.ref q), .val (.double (T lam)), .second, .val (.int (Lp lam)), .val (.int (0 : Int32)), .unset] [(.int (Lp lam)), (.int (0 : Int32)), (.ref v)])
  refine Go.iastore X7 hx hZ e7 V_v_6 (j := (0 : Int32)) (x := (Lp lam)) (by decide) (hb hby d3_138) ?_
  intro T8 h8 X8 e8 W8 Vn8
  have V_v_8 : Iv Z h8 v (64 : Int32) (updN l' 0 (Lp lam)) := Vn8
  have N8 := Fr.snoc X8 N6 ge_v
  have E_q_8 := E_q_6.wr W8
  have F_size_q_8 := F_size_q_6.other W8 (Or.inl ne_q_v)
  have F_times_q_8 := F_times_q_6.other W8 (Or.inl ne_q_v)
  have F_lightpaths_q_8 := F_lightpaths_q_6.other W8 (Or.inl ne_q_v)
  have V_u_8 := V_u_6.other W8 ne_u_v
  have K8 : Keep h0 h8 [q, u, v] := K6.wr W8 (Or.inl (List.mem_of_getElem? (i := 2) rfl))
  show Go _ _ _ _ _ _ _ T8 (mkF m 139 #[.val (.ref q), .val (.double (T lam)), .second, .val (.int (Lp lam)), .val (.int (0 : Int32)), .unset] [])
  refine Go.retV X8 hx hlk hret (hb hby d3_139) (by decide) (by decide) ?_
  try rw [e8]
  refine ⟨rfl, N8, K8, E_q_8, F_size_q_8, F_times_q_8, F_lightpaths_q_8, _, _, (updN a 0 lam), V_u_8, V_v_8, fun i hi' => by rcases (by omega : i = 0) with rfl <;> first | rfl | simp [updN], fun i hi' => by rcases (by omega : i = 0) with rfl <;> first | rfl | simp [updN], ?_, ?_, fun P hP hP' => ?_⟩
  · simp only [HI, updN]; try simp; try omega
  · intro w; simp [sumA, updN]; try omega
  · intro i hi'; rcases (by omega : i = 0) with rfl <;> simp [updN] <;> first | exact hP' | exact hP _ (by decide)
theorem ef_rm_add0 (m : MethodId) (q : Addr) (T : Nat → UInt64) (Lp : Nat → Int32) (lam : Nat) : entryFrame m #[(.ref q), (.double (T lam)), (.int (Lp lam))] 6 = mkF m 0 #[.val (.ref q), .val (.double (T lam)), .second, .val (.int (Lp lam)), .unset, .unset] [] := by first | (simp [entryFrame, mkF, argsToLocals, Value.category]; done) | rfl
theorem rm_add0 (l : Launch) (Z : State) (a0 : Array Value) (hw : ∀ d ∈ tables_1, d.before a0 Z = true) (q u v : Addr) (g : Nat → UInt64) (l' : Nat → Int32) (T : Nat → UInt64) (Lp : Nat → Int32) (K : Nat → Int) (a : Nat → Nat) (lam : Nat) (h0 : Heap) (n0 : Nat) (Z0 : n0 ≤ h0.size) (E_q : Exa Z h0 q "com/example/wavegrade/wavegrade/DepartureQueue") (F_size_q : Fld Z h0 q "com/example/wavegrade/wavegrade/DepartureQueue" "size" "I" (.int (0 : Int32))) (F_times_q : Fld Z h0 q "com/example/wavegrade/wavegrade/DepartureQueue" "times" "[D" (.ref u)) (F_lightpaths_q : Fld Z h0 q "com/example/wavegrade/wavegrade/DepartureQueue" "lightpaths" "[I" (.ref v)) (V_u : Dv Z h0 u (64 : Int32) g) (V_v : Iv Z h0 v (64 : Int32) l') (ne_q_u : q ≠ u) (ne_q_v : q ≠ v) (ne_u_v : u ≠ v) (ge_q : n0 ≤ q) (ge_u : n0 ≤ u) (ge_v : n0 ≤ v) (hT : ∀ x y, FP.dcmp (T x) (T y) = some (compare (K x) (K y))) (hg : ∀ i, i < 0 → g i = T (a i)) (hl : ∀ i, i < 0 → l' i = Lp (a i)) (hi : HI K a 0) :
    Con l Z (⟨"com/example/wavegrade/wavegrade/DepartureQueue", "add", "(DI)V"⟩ : MethodName) prog_1_method_4_code 6 none ({ frames := 0, cells := 0, slots := 0, locals := 0 } : Room) #[(.ref q), (.double (T lam)), (.int (Lp lam))] h0 (fun r h L => r = none ∧ Fr n0 L ∧ Keep h0 h [q, u, v] ∧ Exa Z h q "com/example/wavegrade/wavegrade/DepartureQueue" ∧ Fld Z h q "com/example/wavegrade/wavegrade/DepartureQueue" "size" "I" (.int (1 : Int32)) ∧ Fld Z h q "com/example/wavegrade/wavegrade/DepartureQueue" "times" "[D" (.ref u) ∧ Fld Z h q "com/example/wavegrade/wavegrade/DepartureQueue" "lightpaths" "[I" (.ref v) ∧ ∃ (g2 : Nat → UInt64) (l2 : Nat → Int32) (a2 : Nat → Nat), Dv Z h u (64 : Int32) g2 ∧ Iv Z h v (64 : Int32) l2 ∧ (∀ i, i < 1 → g2 i = T (a2 i)) ∧ (∀ i, i < 1 → l2 i = Lp (a2 i)) ∧ HI K a2 1 ∧ (∀ w : Nat → Int, sumA w a2 1 = sumA w a 0 + w lam) ∧ ∀ P : Nat → Prop, (∀ i, i < 0 → P (a i)) → P lam → ∀ i, i < 1 → P (a2 i)) :=
  con_of (plainFor_of_name pn_1) (fun p_ e_ s_ m_ b_ meth_ c_ T_ X_ hx hZ hby hml hown hnm hret hlk e0 => Go.cast (ef_rm_add0 m_ q T Lp lam) (w_add0 q u v g l' T Lp K a lam X_ hx hZ hw hby hml hown hnm hret hlk e0 Z0 (Fr.nil n0) E_q F_size_q F_times_q F_lightpaths_q V_u V_v ne_q_u ne_q_v ne_u_v ge_q ge_u ge_v hT hg hl hi))
theorem d3_64 : decode prog_1_method_4_code 64 = .ok (.aload_n 0, 1) := by decide +kernel
theorem d3_65 : decode prog_1_method_4_code 65 = .ok (.getfield 7, 3) := by decide +kernel
theorem d3_68 : decode prog_1_method_4_code 68 = .ok (.iload 4, 2) := by decide +kernel
theorem d3_70 : decode prog_1_method_4_code 70 = .ok (.iconst 1, 1) := by decide +kernel
theorem d3_71 : decode prog_1_method_4_code 71 = .ok (.isub, 1) := by decide +kernel
theorem d3_72 : decode prog_1_method_4_code 72 = .ok (.iconst 2, 1) := by decide +kernel
theorem d3_73 : decode prog_1_method_4_code 73 = .ok (.idiv, 1) := by decide +kernel
theorem d3_74 : decode prog_1_method_4_code 74 = .ok (.daload, 1) := by decide +kernel
theorem d3_75 : decode prog_1_method_4_code 75 = .ok (.dload_n 1, 1) := by decide +kernel
theorem d3_76 : decode prog_1_method_4_code 76 = .ok (.dcmp .l, 1) := by decide +kernel
theorem d3_77 : decode prog_1_method_4_code 77 = .ok (.ifCond .le 46, 3) := by decide +kernel
theorem d3_80 : decode prog_1_method_4_code 80 = .ok (.iload 4, 2) := by decide +kernel
theorem d3_82 : decode prog_1_method_4_code 82 = .ok (.iconst 1, 1) := by decide +kernel
theorem d3_83 : decode prog_1_method_4_code 83 = .ok (.isub, 1) := by decide +kernel
theorem d3_84 : decode prog_1_method_4_code 84 = .ok (.iconst 2, 1) := by decide +kernel
theorem d3_85 : decode prog_1_method_4_code 85 = .ok (.idiv, 1) := by decide +kernel
theorem d3_86 : decode prog_1_method_4_code 86 = .ok (.istore 5, 2) := by decide +kernel
theorem d3_88 : decode prog_1_method_4_code 88 = .ok (.aload_n 0, 1) := by decide +kernel
theorem d3_89 : decode prog_1_method_4_code 89 = .ok (.getfield 7, 3) := by decide +kernel
theorem d3_92 : decode prog_1_method_4_code 92 = .ok (.iload 4, 2) := by decide +kernel
theorem d3_94 : decode prog_1_method_4_code 94 = .ok (.aload_n 0, 1) := by decide +kernel
theorem d3_95 : decode prog_1_method_4_code 95 = .ok (.getfield 7, 3) := by decide +kernel
theorem d3_98 : decode prog_1_method_4_code 98 = .ok (.iload 5, 2) := by decide +kernel
theorem d3_100 : decode prog_1_method_4_code 100 = .ok (.daload, 1) := by decide +kernel
theorem d3_101 : decode prog_1_method_4_code 101 = .ok (.dastore, 1) := by decide +kernel
theorem d3_102 : decode prog_1_method_4_code 102 = .ok (.aload_n 0, 1) := by decide +kernel
theorem d3_103 : decode prog_1_method_4_code 103 = .ok (.getfield 13, 3) := by decide +kernel
theorem d3_106 : decode prog_1_method_4_code 106 = .ok (.iload 4, 2) := by decide +kernel
theorem d3_108 : decode prog_1_method_4_code 108 = .ok (.aload_n 0, 1) := by decide +kernel
theorem d3_109 : decode prog_1_method_4_code 109 = .ok (.getfield 13, 3) := by decide +kernel
theorem d3_112 : decode prog_1_method_4_code 112 = .ok (.iload 5, 2) := by decide +kernel
theorem d3_114 : decode prog_1_method_4_code 114 = .ok (.iaload, 1) := by decide +kernel
theorem d3_115 : decode prog_1_method_4_code 115 = .ok (.iastore, 1) := by decide +kernel
theorem d3_116 : decode prog_1_method_4_code 116 = .ok (.iload 5, 2) := by decide +kernel
theorem d3_118 : decode prog_1_method_4_code 118 = .ok (.istore 4, 2) := by decide +kernel
theorem d3_120 : decode prog_1_method_4_code 120 = .ok (.goto (-61), 3) := by decide +kernel
set_option maxRecDepth 65536 in
set_option maxHeartbeats 40000000 in
theorem w_add1 {p : Program} {l : Launch} {e : Env} {s : State} {m : MethodId} {args : Array Value} {below : List Frame} {meth : Method} {c_ : Code} {T0 : State} {locs : List Loc} {Z : State} {a0 : Array Value} {h0 : Heap} {n0 : Nat} (q u v : Addr) (g : Nat → UInt64) (l' : Nat → Int32) (T : Nat → UInt64) (Lp : Nat → Int32) (K : Nat → Int) (a : Nat → Nat) (lam : Nat)
    (X0 : Stand p l e ({ frames := 0, cells := 0, slots := 0, locals := 0 } : Room) s m args below meth c_ T0 locs 0 0) (hx : p.tables.exec = Jvm.exec) (hZ : Z.Warmed39 s.vm) (hw : ∀ d ∈ tables_1, d.before a0 Z = true) (hby : c_.code = prog_1_method_4_code) (hml : c_.maxLocals = 6) (hown : s.vm.findClass "com/example/wavegrade/wavegrade/DepartureQueue" = some m.cls) (hnm : meth.name = "add") (hret : meth.sig.returnType = none) (hlk : meth.locks = false) (e0 : T0.heap = h0) (Z0 : n0 ≤ h0.size) (N0 : Fr n0 locs) (E_q : Exa Z h0 q "com/example/wavegrade/wavegrade/DepartureQueue") (F_size_q : Fld Z h0 q "com/example/wavegrade/wavegrade/DepartureQueue" "size" "I" (.int (1 : Int32))) (F_times_q : Fld Z h0 q "com/example/wavegrade/wavegrade/DepartureQueue" "times" "[D" (.ref u)) (F_lightpaths_q : Fld Z h0 q "com/example/wavegrade/wavegrade/DepartureQueue" "lightpaths" "[I" (.ref v)) (V_u : Dv Z h0 u (64 : Int32) g) (V_v : Iv Z h0 v (64 : Int32) l') (ne_q_u : q ≠ u) (ne_q_v : q ≠ v) (ne_u_v : u ≠ v) (ge_q : n0 ≤ q) (ge_u : n0 ≤ u) (ge_v : n0 ≤ v) (hT : ∀ x y, FP.dcmp (T x) (T y) = some (compare (K x) (K y))) (hg : ∀ i, i < 1 → g i = T (a i)) (hl : ∀ i, i < 1 → l' i = Lp (a i)) (hi : HI K a 1) :
    Go p e below s ({ frames := 0, cells := 0, slots := 0, locals := 0 } : Room).cells ({ frames := 0, cells := 0, slots := 0, locals := 0 } : Room).slots (fun r h L => r = none ∧ Fr n0 L ∧ Keep h0 h [q, u, v] ∧ Exa Z h q "com/example/wavegrade/wavegrade/DepartureQueue" ∧ Fld Z h q "com/example/wavegrade/wavegrade/DepartureQueue" "size" "I" (.int (2 : Int32)) ∧ Fld Z h q "com/example/wavegrade/wavegrade/DepartureQueue" "times" "[D" (.ref u) ∧ Fld Z h q "com/example/wavegrade/wavegrade/DepartureQueue" "lightpaths" "[I" (.ref v) ∧ ∃ (g2 : Nat → UInt64) (l2 : Nat → Int32) (a2 : Nat → Nat), Dv Z h u (64 : Int32) g2 ∧ Iv Z h v (64 : Int32) l2 ∧ (∀ i, i < 2 → g2 i = T (a2 i)) ∧ (∀ i, i < 2 → l2 i = Lp (a2 i)) ∧ HI K a2 2 ∧ (∀ w : Nat → Int, sumA w a2 2 = sumA w a 1 + w lam) ∧ ∀ P : Nat → Prop, (∀ i, i < 1 → P (a i)) → P lam → ∀ i, i < 2 → P (a2 i)) T0 (mkF m 0 #[.val (.ref q), .val (.double (T lam)), .second, .val (.int (Lp lam)), .unset, .unset] []) := by
  have hg0 := hg 0 (by decide)
  have hl0 := hl 0 (by decide)
  simp only [HI] at hi
  show Go _ _ _ _ _ _ _ T0 (mkF m 0 #[.val (.ref q), .val (.double (T lam)), .second, .val (.int (Lp lam)), .unset, .unset] [])
  refine Go.step (fun _ k => XS.aloadN X0.here hx rfl (hb hby d3_0) rfl rfl k) ?_
  show Go _ _ _ _ _ _ _ T0 (mkF m 1 #[.val (.ref q), .val (.double (T lam)), .second, .val (.int (Lp lam)), .unset, .unset] [(.ref q)])
  obtain ⟨T1, X1, e1, st1⟩ := getF X0 hx hZ hown (host := "") (Or.inl (hw _ (List.mem_of_getElem? (i := 20) rfl))) Via.refl e0 F_size_q (g := (mkF m 1 #[.val (.ref q), .val (.double (T lam)), .second, .val (.int (Lp lam)), .unset, .unset] [(.ref q)])) rfl rfl (hb hby d3_1)
  refine Go.step st1 ?_
  show Go _ _ _ _ _ _ _ T1 (mkF m 4 #[.val (.ref q), .val (.double (T lam)), .second, .val (.int (Lp lam)), .unset, .unset] [(.int (1 : Int32))])
  refine Go.step (fun _ k => XS.aloadN X1.here hx rfl (hb hby d3_4) rfl rfl k) ?_
  show Go _ _ _ _ _ _ _ T1 (mkF m 5 #[.val (.ref q), .val (.double (T lam)), .second, .val (.int (Lp lam)), .unset, .unset] [(.ref q), (.int (1 : Int32))])
  obtain ⟨T2, X2, e2, st2⟩ := getF X1 hx hZ hown (host := "") (Or.inl (hw _ (List.mem_of_getElem? (i := 11) rfl))) Via.refl e1 F_times_q (g := (mkF m 5 #[.val (.ref q), .val (.double (T lam)), .second, .val (.int (Lp lam)), .unset, .unset] [(.ref q), (.int (1 : Int32))])) rfl rfl (hb hby d3_5)
  refine Go.step st2 ?_
  show Go _ _ _ _ _ _ _ T2 (mkF m 8 #[.val (.ref q), .val (.double (T lam)), .second, .val (.int (Lp lam)), .unset, .unset] [(.ref u), (.int (1 : Int32))])
  refine Go.alen X2 hx hZ e2 V_u (hb hby d3_8) ?_
  show Go _ _ _ _ _ _ _ T2 (mkF m 9 #[.val (.ref q), .val (.double (T lam)), .second, .val (.int (Lp lam)), .unset, .unset] [(.int (64 : Int32)), (.int (1 : Int32))])
  refine Go.step (fun _ k => XS.icmpYes X2.here hx rfl (pc0 := 9) (pc' := 46) rfl (hb hby d3_9) rfl (feq (by decide : ¬ ((1 : Int32) = (64 : Int32)))).2 (by decide) (by decide) k) ?_
  show Go _ _ _ _ _ _ _ T2 (mkF m 46 #[.val (.ref q), .val (.double (T lam)), .second, .val (.int (Lp lam)), .unset, .unset] [])
  refine Go.step (fun _ k => XS.aloadN X2.here hx rfl (hb hby d3_46) rfl rfl k) ?_
  show Go _ _ _ _ _ _ _ T2 (mkF m 47 #[.val (.ref q), .val (.double (T lam)), .second, .val (.int (Lp lam)), .unset, .unset] [(.ref q)])
  refine Go.step (fun _ k => XS.dup X2.here hx rfl (hb hby d3_47) rfl rfl k) ?_
  show Go _ _ _ _ _ _ _ T2 (mkF m 48 #[.val (.ref q), .val (.double (T lam)), .second, .val (.int (Lp lam)), .unset, .unset] [(.ref q), (.ref q)])
  obtain ⟨T3, X3, e3, st3⟩ := getF X2 hx hZ hown (host := "") (Or.inl (hw _ (List.mem_of_getElem? (i := 20) rfl))) Via.refl e2 F_size_q (g := (mkF m 48 #[.val (.ref q), .val (.double (T lam)), .second, .val (.int (Lp lam)), .unset, .unset] [(.ref q), (.ref q)])) rfl rfl (hb hby d3_48)
  refine Go.step st3 ?_
  show Go _ _ _ _ _ _ _ T3 (mkF m 51 #[.val (.ref q), .val (.double (T lam)), .second, .val (.int (Lp lam)), .unset, .unset] [(.int (1 : Int32)), (.ref q)])
  refine Go.step (fun _ k => XS.dupX1 X3.here hx rfl (hb hby d3_51) rfl rfl rfl k) ?_
  show Go _ _ _ _ _ _ _ T3 (mkF m 52 #[.val (.ref q), .val (.double (T lam)), .second, .val (.int (Lp lam)), .unset, .unset] [(.int (1 : Int32)), (.ref q), (.int (1 : Int32))])
  refine Go.step (fun _ k => XS.iconst X3.here hx rfl (hb hby d3_52) k) ?_
  show Go _ _ _ _ _ _ _ T3 (mkF m 53 #[.val (.ref q), .val (.double (T lam)), .second, .val (.int (Lp lam)), .unset, .unset] [(.int (1 : Int32)), (.int (1 : Int32)), (.ref q), (.int (1 : Int32))])
  refine Go.step (fun _ k => XS.iadd X3.here hx rfl (hb hby d3_53) rfl k) ?_
  show Go _ _ _ _ _ _ _ T3 (mkF m 54 #[.val (.ref q), .val (.double (T lam)), .second, .val (.int (Lp lam)), .unset, .unset] [(.int (2 : Int32)), (.ref q), (.int (1 : Int32))])
  obtain ⟨T4, h4, X4, e4, W4, st4⟩ := putF X3 hx hZ hown (host := "") (Or.inl (hw _ (List.mem_of_getElem? (i := 20) rfl))) Via.refl e3 F_size_q E_q (Or.inl (hw _ (List.mem_of_getElem? (i := 21) rfl))) (hw _ (List.mem_of_getElem? (i := 2) rfl)) (ty := .int) (by decide) rfl rfl (g := (mkF m 54 #[.val (.ref q), .val (.double (T lam)), .second, .val (.int (Lp lam)), .unset, .unset] [(.int (2 : Int32)), (.ref q), (.int (1 : Int32))])) rfl rfl (hb hby d3_54)
  refine Go.step st4 ?_
  have N4 := Fr.snoc X4 N0 ge_q
  have F_size_q_4 := F_size_q.same W4
  have E_q_4 := E_q.wr W4
  have F_times_q_4 := F_times_q.other W4 (Or.inr (slot_ne (Or.inl (hw _ (List.mem_of_getElem? (i := 12) rfl))) (Or.inl (hw _ (List.mem_of_getElem? (i := 21) rfl))) (by decide) (t := (.array .double)) (t' := .int) (by decide) (by decide)))
  have F_lightpaths_q_4 := F_lightpaths_q.other W4 (Or.inr (slot_ne (Or.inl (hw _ (List.mem_of_getElem? (i := 14) rfl))) (Or.inl (hw _ (List.mem_of_getElem? (i := 21) rfl))) (by decide) (t := (.array .int)) (t' := .int) (by decide) (by decide)))
  have V_u_4 := V_u.other W4 (Ne.symm ne_q_u)
  have V_v_4 := V_v.other W4 (Ne.symm ne_q_v)
  have K4 : Keep h0 h4 [q, u, v] := (Keep.refl h0 [q, u, v]).wr W4 (Or.inl (List.mem_of_getElem? (i := 0) rfl))
  show Go _ _ _ _ _ _ _ T4 (mkF m 57 #[.val (.ref q), .val (.double (T lam)), .second, .val (.int (Lp lam)), .unset, .unset] [(.int (1 : Int32))])
  refine Go.step (fun _ k => XS.istore X4.here hx rfl (hb hby d3_57) rfl (l' := #[.val (.ref q), .val (.double (T lam)), .second, .val (.int (Lp lam)), .val (.int (1 : Int32)), .unset]) rfl k) ?_
  show Go _ _ _ _ _ _ _ T4 (mkF m 59 #[.val (.ref q), .val (.double (T lam)), .second, .val (.int (Lp lam)), .val (.int (1 : Int32)), .unset] [])
  refine Go.step (fun _ k => XS.iload X4.here hx rfl (hb hby d3_59) rfl k) ?_
  show Go _ _ _ _ _ _ _ T4 (mkF m 61 #[.val (.ref q), .val (.double (T lam)), .second, .val (.int (Lp lam)), .val (.int (1 : Int32)), .unset] [(.int (1 : Int32))])
  refine Go.step (fun _ k => XS.ifNo X4.here hx rfl (hb hby d3_61) rfl ((if0 _ _).trans (tlt (by decide : (0 : Int32) < (1 : Int32))).2.2.2) k) ?_
  show Go _ _ _ _ _ _ _ T4 (mkF m 64 #[.val (.ref q), .val (.double (T lam)), .second, .val (.int (Lp lam)), .val (.int (1 : Int32)), .unset] [])
  refine Go.step (fun _ k => XS.aloadN X4.here hx rfl (hb hby d3_64) rfl rfl k) ?_
  show Go _ _ _ _ _ _ _ T4 (mkF m 65 #[.val (.ref q), .val (.double (T lam)), .second, .val (.int (Lp lam)), .val (.int (1 : Int32)), .unset] [(.ref q)])
  obtain ⟨T5, X5, e5, st5⟩ := getF X4 hx hZ hown (host := "") (Or.inl (hw _ (List.mem_of_getElem? (i := 11) rfl))) Via.refl e4 F_times_q_4 (g := (mkF m 65 #[.val (.ref q), .val (.double (T lam)), .second, .val (.int (Lp lam)), .val (.int (1 : Int32)), .unset] [(.ref q)])) rfl rfl (hb hby d3_65)
  refine Go.step st5 ?_
  show Go _ _ _ _ _ _ _ T5 (mkF m 68 #[.val (.ref q), .val (.double (T lam)), .second, .val (.int (Lp lam)), .val (.int (1 : Int32)), .unset] [(.ref u)])
  refine Go.step (fun _ k => XS.iload X5.here hx rfl (hb hby d3_68) rfl k) ?_
  show Go _ _ _ _ _ _ _ T5 (mkF m 70 #[.val (.ref q), .val (.double (T lam)), .second, .val (.int (Lp lam)), .val (.int (1 : Int32)), .unset] [(.int (1 : Int32)), (.ref u)])
  refine Go.step (fun _ k => XS.iconst X5.here hx rfl (hb hby d3_70) k) ?_
  show Go _ _ _ _ _ _ _ T5 (mkF m 71 #[.val (.ref q), .val (.double (T lam)), .second, .val (.int (Lp lam)), .val (.int (1 : Int32)), .unset] [(.int (1 : Int32)), (.int (1 : Int32)), (.ref u)])
  refine Go.step (fun _ k => XS.isub X5.here hx rfl (hb hby d3_71) rfl k) ?_
  show Go _ _ _ _ _ _ _ T5 (mkF m 72 #[.val (.ref q), .val (.double (T lam)), .second, .val (.int (Lp lam)), .val (.int (1 : Int32)), .unset] [(.int (0 : Int32)), (.ref u)])
  refine Go.step (fun _ k => XS.iconst X5.here hx rfl (hb hby d3_72) k) ?_
  show Go _ _ _ _ _ _ _ T5 (mkF m 73 #[.val (.ref q), .val (.double (T lam)), .second, .val (.int (Lp lam)), .val (.int (1 : Int32)), .unset] [(.int (2 : Int32)), (.int (0 : Int32)), (.ref u)])
  refine Go.step (fun _ k => XS.idiv X5.here hx rfl (hb hby d3_73) rfl (by decide) k) ?_
  show Go _ _ _ _ _ _ _ T5 (mkF m 74 #[.val (.ref q), .val (.double (T lam)), .second, .val (.int (Lp lam)), .val (.int (1 : Int32)), .unset] [(.int (0 : Int32)), (.ref u)])
  refine Go.daload X5 hx hZ e5 V_u_4 (j := (0 : Int32)) (v := (T (a 0))) (by decide) (by first | rfl | simp [updN, hg0, hl0]) (hb hby d3_74) ?_
  show Go _ _ _ _ _ _ _ T5 (mkF m 75 #[.val (.ref q), .val (.double (T lam)), .second, .val (.int (Lp lam)), .val (.int (1 : Int32)), .unset] [(.double (T (a 0)))])
  refine Go.step (fun _ k => XS.dloadN X5.here hx rfl (hb hby d3_75) rfl k) ?_
  show Go _ _ _ _ _ _ _ T5 (mkF m 76 #[.val (.ref q), .val (.double (T lam)), .second, .val (.int (Lp lam)), .val (.int (1 : Int32)), .unset] [(.double (T lam)), (.double (T (a 0)))])
  refine Go.step (fun _ k => XS.dcmpS X5.here hx rfl (hb hby d3_76) rfl rfl k) ?_
  show Go _ _ _ _ _ _ _ T5 (mkF m 77 #[.val (.ref q), .val (.double (T lam)), .second, .val (.int (Lp lam)), .val (.int (1 : Int32)), .unset] [(.int (cmpValue (FP.dcmp (T (a 0)) (T lam)) .l))])
  by_cases hd77_6 : FP.dcmp (T (a 0)) (T lam) = some .gt
  · refine Go.step (fun _ k => XS.ifNo X5.here hx rfl (hb hby d3_77) rfl (gt_y hd77_6) k) ?_
    show Go _ _ _ _ _ _ _ T5 (mkF m 80 #[.val (.ref q), .val (.double (T lam)), .second, .val (.int (Lp lam)), .val (.int (1 : Int32)), .unset] [])
    refine Go.step (fun _ k => XS.iload X5.here hx rfl (hb hby d3_80) rfl k) ?_
    show Go _ _ _ _ _ _ _ T5 (mkF m 82 #[.val (.ref q), .val (.double (T lam)), .second, .val (.int (Lp lam)), .val (.int (1 : Int32)), .unset] [(.int (1 : Int32))])
    refine Go.step (fun _ k => XS.iconst X5.here hx rfl (hb hby d3_82) k) ?_
    show Go _ _ _ _ _ _ _ T5 (mkF m 83 #[.val (.ref q), .val (.double (T lam)), .second, .val (.int (Lp lam)), .val (.int (1 : Int32)), .unset] [(.int (1 : Int32)), (.int (1 : Int32))])
    refine Go.step (fun _ k => XS.isub X5.here hx rfl (hb hby d3_83) rfl k) ?_
    show Go _ _ _ _ _ _ _ T5 (mkF m 84 #[.val (.ref q), .val (.double (T lam)), .second, .val (.int (Lp lam)), .val (.int (1 : Int32)), .unset] [(.int (0 : Int32))])
    refine Go.step (fun _ k => XS.iconst X5.here hx rfl (hb hby d3_84) k) ?_
    show Go _ _ _ _ _ _ _ T5 (mkF m 85 #[.val (.ref q), .val (.double (T lam)), .second, .val (.int (Lp lam)), .val (.int (1 : Int32)), .unset] [(.int (2 : Int32)), (.int (0 : Int32))])
    refine Go.step (fun _ k => XS.idiv X5.here hx rfl (hb hby d3_85) rfl (by decide) k) ?_
    show Go _ _ _ _ _ _ _ T5 (mkF m 86 #[.val (.ref q), .val (.double (T lam)), .second, .val (.int (Lp lam)), .val (.int (1 : Int32)), .unset] [(.int (0 : Int32))])
    refine Go.step (fun _ k => XS.istore X5.here hx rfl (hb hby d3_86) rfl (l' := #[.val (.ref q), .val (.double (T lam)), .second, .val (.int (Lp lam)), .val (.int (1 : Int32)), .val (.int (0 : Int32))]) rfl k) ?_
    show Go _ _ _ _ _ _ _ T5 (mkF m 88 #[.val (.ref q), .val (.double (T lam)), .second, .val (.int (Lp lam)), .val (.int (1 : Int32)), .val (.int (0 : Int32))] [])
    refine Go.step (fun _ k => XS.aloadN X5.here hx rfl (hb hby d3_88) rfl rfl k) ?_
    show Go _ _ _ _ _ _ _ T5 (mkF m 89 #[.val (.ref q), .val (.double (T lam)), .second, .val (.int (Lp lam)), .val (.int (1 : Int32)), .val (.int (0 : Int32))] [(.ref q)])
    obtain ⟨T7, X7, e7, st7⟩ := getF X5 hx hZ hown (host := "") (Or.inl (hw _ (List.mem_of_getElem? (i := 11) rfl))) Via.refl e5 F_times_q_4 (g := (mkF m 89 #[.val (.ref q), .val (.double (T lam)), .second, .val (.int (Lp lam)), .val (.int (1 : Int32)), .val (.int (0 : Int32))] [(.ref q)])) rfl rfl (hb hby d3_89)
    refine Go.step st7 ?_
    show Go _ _ _ _ _ _ _ T7 (mkF m 92 #[.val (.ref q), .val (.double (T lam)), .second, .val (.int (Lp lam)), .val (.int (1 : Int32)), .val (.int (0 : Int32))] [(.ref u)])
    refine Go.step (fun _ k => XS.iload X7.here hx rfl (hb hby d3_92) rfl k) ?_
    show Go _ _ _ _ _ _ _ T7 (mkF m 94 #[.val (.ref q), .val (.double (T lam)), .second, .val (.int (Lp lam)), .val (.int (1 : Int32)), .val (.int (0 : Int32))] [(.int (1 : Int32)), (.ref u)])
    refine Go.step (fun _ k => XS.aloadN X7.here hx rfl (hb hby d3_94) rfl rfl k) ?_
    show Go _ _ _ _ _ _ _ T7 (mkF m 95 #[.val (.ref q), .val (.double (T lam)), .second, .val (.int (Lp lam)), .val (.int (1 : Int32)), .val (.int (0 : Int32))] [(.ref q), (.int (1 : Int32)), (.ref u)])
    obtain ⟨T8, X8, e8, st8⟩ := getF X7 hx hZ hown (host := "") (Or.inl (hw _ (List.mem_of_getElem? (i := 11) rfl))) Via.refl e7 F_times_q_4 (g := (mkF m 95 #[.val (.ref q), .val (.double (T lam)), .second, .val (.int (Lp lam)), .val (.int (1 : Int32)), .val (.int (0 : Int32))] [(.ref q), (.int (1 : Int32)), (.ref u)])) rfl rfl (hb hby d3_95)
    refine Go.step st8 ?_
    show Go _ _ _ _ _ _ _ T8 (mkF m 98 #[.val (.ref q), .val (.double (T lam)), .second, .val (.int (Lp lam)), .val (.int (1 : Int32)), .val (.int (0 : Int32))] [(.ref u), (.int (1 : Int32)), (.ref u)])
    refine Go.step (fun _ k => XS.iload X8.here hx rfl (hb hby d3_98) rfl k) ?_
    show Go _ _ _ _ _ _ _ T8 (mkF m 100 #[.val (.ref q), .val (.double (T lam)), .second, .val (.int (Lp lam)), .val (.int (1 : Int32)), .val (.int (0 : Int32))] [(.int (0 : Int32)), (.ref u), (.int (1 : Int32)), (.ref u)])
    refine Go.daload X8 hx hZ e8 V_u_4 (j := (0 : Int32)) (v := (T (a 0))) (by decide) (by first | rfl | simp [updN, hg0, hl0]) (hb hby d3_100) ?_
    show Go _ _ _ _ _ _ _ T8 (mkF m 101 #[.val (.ref q), .val (.double (T lam)), .second, .val (.int (Lp lam)), .val (.int (1 : Int32)), .val (.int (0 : Int32))] [(.double (T (a 0))), (.int (1 : Int32)), (.ref u)])
    refine Go.dastore X8 hx hZ e8 V_u_4 (j := (1 : Int32)) (x := (T (a 0))) (by decide) (hb hby d3_101) ?_
    intro T9 h9 X9 e9 W9 Vn9
    have V_u_9 : Dv Z h9 u (64 : Int32) (updN g 1 (T (a 0))) := Vn9
    have N9 := Fr.snoc X9 N4 ge_u
    have E_q_9 := E_q_4.wr W9
    have F_size_q_9 := F_size_q_4.other W9 (Or.inl ne_q_u)
    have F_times_q_9 := F_times_q_4.other W9 (Or.inl ne_q_u)
    have F_lightpaths_q_9 := F_lightpaths_q_4.other W9 (Or.inl ne_q_u)
    have V_v_9 := V_v_4.other W9 (Ne.symm ne_u_v)
    have K9 : Keep h0 h9 [q, u, v] := K4.wr W9 (Or.inl (List.mem_of_getElem? (i := 1) rfl))
    show Go _ _ _ _ _ _ _ T9 (mkF m 102 #[.val (.ref q), .val (.double (T lam)), .second, .val (.int (Lp lam)), .val (.int (1 : Int32)), .val (.int (0 : Int32))] [])
    refine Go.step (fun _ k => XS.aloadN X9.here hx rfl (hb hby d3_102) rfl rfl k) ?_
    show Go _ _ _ _ _ _ _ T9 (mkF m 103 #[.val (.ref q), .val (.double (T lam)), .second, .val (.int (Lp lam)), .val (.int (1 : Int32)), .val (.int (0 : Int32))] [(.ref q)])
    obtain ⟨T10, X10, e10, st10⟩ := getF X9 hx hZ hown (host := "") (Or.inl (hw _ (List.mem_of_getElem? (i := 13) rfl))) Via.refl e9 F_lightpaths_q_9 (g := (mkF m 103 #[.val (.ref q), .val (.double (T lam)), .second, .val (.int (Lp lam)), .val (.int (1 : Int32)), .val (.int (0 : Int32))] [(.ref q)])) rfl rfl (hb hby d3_103)
    refine Go.step st10 ?_
    show Go _ _ _ _ _ _ _ T10 (mkF m 106 #[.val (.ref q), .val (.double (T lam)), .second, .val (.int (Lp lam)), .val (.int (1 : Int32)), .val (.int (0 : Int32))] [(.ref v)])
    refine Go.step (fun _ k => XS.iload X10.here hx rfl (hb hby d3_106) rfl k) ?_
    show Go _ _ _ _ _ _ _ T10 (mkF m 108 #[.val (.ref q), .val (.double (T lam)), .second, .val (.int (Lp lam)), .val (.int (1 : Int32)), .val (.int (0 : Int32))] [(.int (1 : Int32)), (.ref v)])
    refine Go.step (fun _ k => XS.aloadN X10.here hx rfl (hb hby d3_108) rfl rfl k) ?_
    show Go _ _ _ _ _ _ _ T10 (mkF m 109 #[.val (.ref q), .val (.double (T lam)), .second, .val (.int (Lp lam)), .val (.int (1 : Int32)), .val (.int (0 : Int32))] [(.ref q), (.int (1 : Int32)), (.ref v)])
    obtain ⟨T11, X11, e11, st11⟩ := getF X10 hx hZ hown (host := "") (Or.inl (hw _ (List.mem_of_getElem? (i := 13) rfl))) Via.refl e10 F_lightpaths_q_9 (g := (mkF m 109 #[.val (.ref q), .val (.double (T lam)), .second, .val (.int (Lp lam)), .val (.int (1 : Int32)), .val (.int (0 : Int32))] [(.ref q), (.int (1 : Int32)), (.ref v)])) rfl rfl (hb hby d3_109)
    refine Go.step st11 ?_
    show Go _ _ _ _ _ _ _ T11 (mkF m 112 #[.val (.ref q), .val (.double (T lam)), .second, .val (.int (Lp lam)), .val (.int (1 : Int32)), .val (.int (0 : Int32))] [(.ref v), (.int (1 : Int32)), (.ref v)])
    refine Go.step (fun _ k => XS.iload X11.here hx rfl (hb hby d3_112) rfl k) ?_
    show Go _ _ _ _ _ _ _ T11 (mkF m 114 #[.val (.ref q), .val (.double (T lam)), .second, .val (.int (Lp lam)), .val (.int (1 : Int32)), .val (.int (0 : Int32))] [(.int (0 : Int32)), (.ref v), (.int (1 : Int32)), (.ref v)])
    refine Go.iaload X11 hx hZ e11 V_v_9 (j := (0 : Int32)) (v := (Lp (a 0))) (by decide) (by first | rfl | simp [updN, hg0, hl0]) (hb hby d3_114) ?_
    show Go _ _ _ _ _ _ _ T11 (mkF m 115 #[.val (.ref q), .val (.double (T lam)), .second, .val (.int (Lp lam)), .val (.int (1 : Int32)), .val (.int (0 : Int32))] [(.int (Lp (a 0))), (.int (1 : Int32)), (.ref v)])
    refine Go.iastore X11 hx hZ e11 V_v_9 (j := (1 : Int32)) (x := (Lp (a 0))) (by decide) (hb hby d3_115) ?_
    intro T12 h12 X12 e12 W12 Vn12
    have V_v_12 : Iv Z h12 v (64 : Int32) (updN l' 1 (Lp (a 0))) := Vn12
    have N12 := Fr.snoc X12 N9 ge_v
    have E_q_12 := E_q_9.wr W12
    have F_size_q_12 := F_size_q_9.other W12 (Or.inl ne_q_v)
    have F_times_q_12 := F_times_q_9.other W12 (Or.inl ne_q_v)
    have F_lightpaths_q_12 := F_lightpaths_q_9.other W12 (Or.inl ne_q_v)
    have V_u_12 := V_u_9.other W12 ne_u_v
    have K12 : Keep h0 h12 [q, u, v] := K9.wr W12 (Or.inl (List.mem_of_getElem? (i := 2) rfl))
    show Go _ _ _ _ _ _ _ T12 (mkF m 116 #[.val (.ref q), .val (.double (T lam)), .second, .val (.int (Lp lam)), .val (.int (1 : Int32)), .val (.int (0 : Int32))] [])
    refine Go.step (fun _ k => XS.iload X12.here hx rfl (hb hby d3_116) rfl k) ?_
    show Go _ _ _ _ _ _ _ T12 (mkF m 118 #[.val (.ref q), .val (.double (T lam)), .second, .val (.int (Lp lam)), .val (.int (1 : Int32)), .val (.int (0 : Int32))] [(.int (0 : Int32))])
    refine Go.step (fun _ k => XS.istore X12.here hx rfl (hb hby d3_118) rfl (l' := #[.val (.ref q), .val (.double (T lam)), .second, .val (.int (Lp lam)), .val (.int (0 : Int32)), .val (.int (0 : Int32))]) rfl k) ?_
    show Go _ _ _ _ _ _ _ T12 (mkF m 120 #[.val (.ref q), .val (.double (T lam)), .second, .val (.int (Lp lam)), .val (.int (0 : Int32)), .val (.int (0 : Int32))] [])
    refine Go.step (fun _ k => XS.goto X12.here hx rfl (pc0 := 120) (pc' := 59) rfl (hb hby d3_120) (by decide) (by decide) k) ?_
    show Go _ _ _ _ _ _ _ T12 (mkF m 59 #[.val (.ref q), .val (.double (T lam)), .second, .val (.int (Lp lam)), .val (.int (0 : Int32)), .val (.int (0 : Int32))] [])
    refine Go.step (fun _ k => XS.iload X12.here hx rfl (hb hby d3_59) rfl k) ?_
    show Go _ _ _ _ _ _ _ T12 (mkF m 61 #[.val (.ref q), .val (.double (T lam)), .second, .val (.int (Lp lam)), .val (.int (0 : Int32)), .val (.int (0 : Int32))] [(.int (0 : Int32))])
    refine Go.step (fun _ k => XS.ifYes X12.here hx rfl (pc0 := 61) (pc' := 123) rfl (hb hby d3_61) rfl ((if0 _ _).trans (flt (by decide : ¬ ((0 : Int32) < (0 : Int32)))).2.2.2) (by decide) (by decide) k) ?_
    show Go _ _ _ _ _ _ _ T12 (mkF m 123 #[.val (.ref q), .val (.double (T lam)), .second, .val (.int (Lp lam)), .val (.int (0 : Int32)), .val (.int (0 : Int32))] [])
    refine Go.step (fun _ k => XS.aloadN X12.here hx rfl (hb hby d3_123) rfl rfl k) ?_
    show Go _ _ _ _ _ _ _ T12 (mkF m 124 #[.val (.ref q), .val (.double (T lam)), .second, .val (.int (Lp lam)), .val (.int (0 : Int32)), .val (.int (0 : Int32))] [(.ref q)])
    obtain ⟨T13, X13, e13, st13⟩ := getF X12 hx hZ hown (host := "") (Or.inl (hw _ (List.mem_of_getElem? (i := 11) rfl))) Via.refl e12 F_times_q_12 (g := (mkF m 124 #[.val (.ref q), .val (.double (T lam)), .second, .val (.int (Lp lam)), .val (.int (0 : Int32)), .val (.int (0 : Int32))] [(.ref q)])) rfl rfl (hb hby d3_124)
    refine Go.step st13 ?_
    show Go _ _ _ _ _ _ _ T13 (mkF m 127 #[.val (.ref q), .val (.double (T lam)), .second, .val (.int (Lp lam)), .val (.int (0 : Int32)), .val (.int (0 : Int32))] [(.ref u)])
    refine Go.step (fun _ k => XS.iload X13.here hx rfl (hb hby d3_127) rfl k) ?_
    show Go _ _ _ _ _ _ _ T13 (mkF m 129 #[.val (.ref q), .val (.double (T lam)), .second, .val (.int (Lp lam)), .val (.int (0 : Int32)), .val (.int (0 : Int32))] [(.int (0 : Int32)), (.ref u)])
    refine Go.step (fun _ k => XS.dloadN X13.here hx rfl (hb hby d3_129) rfl k) ?_
    show Go _ _ _ _ _ _ _ T13 (mkF m 130 #[.val (.ref q), .val (.double (T lam)), .second, .val (.int (Lp lam)), .val (.int (0 : Int32)), .val (.int (0 : Int32))] [(.double (T lam)), (.int (0 : Int32)), (.ref u)])
    refine Go.dastore X13 hx hZ e13 V_u_12 (j := (0 : Int32)) (x := (T lam)) (by decide) (hb hby d3_130) ?_
    intro T14 h14 X14 e14 W14 Vn14
    have V_u_14 : Dv Z h14 u (64 : Int32) (updN (updN g 1 (T (a 0))) 0 (T lam)) := Vn14
    have N14 := Fr.snoc X14 N12 ge_u
    have E_q_14 := E_q_12.wr W14
    have F_size_q_14 := F_size_q_12.other W14 (Or.inl ne_q_u)
    have F_times_q_14 := F_times_q_12.other W14 (Or.inl ne_q_u)
    have F_lightpaths_q_14 := F_lightpaths_q_12.other W14 (Or.inl ne_q_u)
    have V_v_14 := V_v_12.other W14 (Ne.symm ne_u_v)
    have K14 : Keep h0 h14 [q, u, v] := K12.wr W14 (Or.inl (List.mem_of_getElem? (i := 1) rfl))
    show Go _ _ _ _ _ _ _ T14 (mkF m 131 #[.val (.ref q), .val (.double (T lam)), .second, .val (.int (Lp lam)), .val (.int (0 : Int32)), .val (.int (0 : Int32))] [])
    refine Go.step (fun _ k => XS.aloadN X14.here hx rfl (hb hby d3_131) rfl rfl k) ?_
    show Go _ _ _ _ _ _ _ T14 (mkF m 132 #[.val (.ref q), .val (.double (T lam)), .second, .val (.int (Lp lam)), .val (.int (0 : Int32)), .val (.int (0 : Int32))] [(.ref q)])
    obtain ⟨T15, X15, e15, st15⟩ := getF X14 hx hZ hown (host := "") (Or.inl (hw _ (List.mem_of_getElem? (i := 13) rfl))) Via.refl e14 F_lightpaths_q_14 (g := (mkF m 132 #[.val (.ref q), .val (.double (T lam)), .second, .val (.int (Lp lam)), .val (.int (0 : Int32)), .val (.int (0 : Int32))] [(.ref q)])) rfl rfl (hb hby d3_132)
    refine Go.step st15 ?_
    show Go _ _ _ _ _ _ _ T15 (mkF m 135 #[.val (.ref q), .val (.double (T lam)), .second, .val (.int (Lp lam)), .val (.int (0 : Int32)), .val (.int (0 : Int32))] [(.ref v)])
    refine Go.step (fun _ k => XS.iload X15.here hx rfl (hb hby d3_135) rfl k) ?_
    show Go _ _ _ _ _ _ _ T15 (mkF m 137 #[.val (.ref q), .val (.double (T lam)), .second, .val (.int (Lp lam)), .val (.int (0 : Int32)), .val (.int (0 : Int32))] [(.int (0 : Int32)), (.ref v)])
    refine Go.step (fun _ k => XS.iloadN X15.here hx rfl (hb hby d3_137) rfl k) ?_
    show Go _ _ _ _ _ _ _ T15 (mkF m 138 #[.val (.ref q), .val (.double (T lam)), .second, .val (.int (Lp lam)), .val (.int (0 : Int32)), .val (.int (0 : Int32))] [(.int (Lp lam)), (.int (0 : Int32)), (.ref v)])
    refine Go.iastore X15 hx hZ e15 V_v_14 (j := (0 : Int32)) (x := (Lp lam)) (by decide) (hb hby d3_138) ?_
    intro T16 h16 X16 e16 W16 Vn16
    have V_v_16 : Iv Z h16 v (64 : Int32) (updN (updN l' 1 (Lp (a 0))) 0 (Lp lam)) := Vn16
    have N16 := Fr.snoc X16 N14 ge_v
    have E_q_16 := E_q_14.wr W16
    have F_size_q_16 := F_size_q_14.other W16 (Or.inl ne_q_v)
    have F_times_q_16 := F_times_q_14.other W16 (Or.inl ne_q_v)
    have F_lightpaths_q_16 := F_lightpaths_q_14.other W16 (Or.inl ne_q_v)
    have V_u_16 := V_u_14.other W16 ne_u_v
    have K16 : Keep h0 h16 [q, u, v] := K14.wr W16 (Or.inl (List.mem_of_getElem? (i := 2) rfl))
    show Go _ _ _ _ _ _ _ T16 (mkF m 139 #[.val (.ref q), .val (.double (T lam)), .second, .val (.int (Lp lam)), .val (.int (0 : Int32)), .val (.int (0 : Int32))] [])
    refine Go.retV X16 hx hlk hret (hb hby d3_139) (by decide) (by decide) ?_
    try rw [e16]
    have := own_gtK hT hd77_6
    refine ⟨rfl, N16, K16, E_q_16, F_size_q_16, F_times_q_16, F_lightpaths_q_16, _, _, (updN (updN a 1 (a 0)) 0 lam), V_u_16, V_v_16, fun i hi' => by rcases (by omega : i = 0 ∨ i = 1) with rfl | rfl <;> first | rfl | simp [updN, hg0, hl0], fun i hi' => by rcases (by omega : i = 0 ∨ i = 1) with rfl | rfl <;> first | rfl | simp [updN, hg0, hl0], ?_, ?_, fun P hP hP' => ?_⟩
    · simp only [HI, updN]; try simp; try omega
    · intro w; simp [sumA, updN]; try omega
    · intro i hi'; rcases (by omega : i = 0 ∨ i = 1) with rfl | rfl <;> simp [updN] <;> first | exact hP' | exact hP _ (by decide)
  · refine Go.step (fun _ k => XS.ifYes X5.here hx rfl (pc0 := 77) (pc' := 123) rfl (hb hby d3_77) rfl (gt_n hd77_6) (by decide) (by decide) k) ?_
    show Go _ _ _ _ _ _ _ T5 (mkF m 123 #[.val (.ref q), .val (.double (T lam)), .second, .val (.int (Lp lam)), .val (.int (1 : Int32)), .unset] [])
    refine Go.step (fun _ k => XS.aloadN X5.here hx rfl (hb hby d3_123) rfl rfl k) ?_
    show Go _ _ _ _ _ _ _ T5 (mkF m 124 #[.val (.ref q), .val (.double (T lam)), .second, .val (.int (Lp lam)), .val (.int (1 : Int32)), .unset] [(.ref q)])
    obtain ⟨T17, X17, e17, st17⟩ := getF X5 hx hZ hown (host := "") (Or.inl (hw _ (List.mem_of_getElem? (i := 11) rfl))) Via.refl e5 F_times_q_4 (g := (mkF m 124 #[.val (.ref q), .val (.double (T lam)), .second, .val (.int (Lp lam)), .val (.int (1 : Int32)), .unset] [(.ref q)])) rfl rfl (hb hby d3_124)
    refine Go.step st17 ?_
    show Go _ _ _ _ _ _ _ T17 (mkF m 127 #[.val (.ref q), .val (.double (T lam)), .second, .val (.int (Lp lam)), .val (.int (1 : Int32)), .unset] [(.ref u)])
    refine Go.step (fun _ k => XS.iload X17.here hx rfl (hb hby d3_127) rfl k) ?_
    show Go _ _ _ _ _ _ _ T17 (mkF m 129 #[.val (.ref q), .val (.double (T lam)), .second, .val (.int (Lp lam)), .val (.int (1 : Int32)), .unset] [(.int (1 : Int32)), (.ref u)])
    refine Go.step (fun _ k => XS.dloadN X17.here hx rfl (hb hby d3_129) rfl k) ?_
    show Go _ _ _ _ _ _ _ T17 (mkF m 130 #[.val (.ref q), .val (.double (T lam)), .second, .val (.int (Lp lam)), .val (.int (1 : Int32)), .unset] [(.double (T lam)), (.int (1 : Int32)), (.ref u)])
    refine Go.dastore X17 hx hZ e17 V_u_4 (j := (1 : Int32)) (x := (T lam)) (by decide) (hb hby d3_130) ?_
    intro T18 h18 X18 e18 W18 Vn18
    have V_u_18 : Dv Z h18 u (64 : Int32) (updN g 1 (T lam)) := Vn18
    have N18 := Fr.snoc X18 N4 ge_u
    have E_q_18 := E_q_4.wr W18
    have F_size_q_18 := F_size_q_4.other W18 (Or.inl ne_q_u)
    have F_times_q_18 := F_times_q_4.other W18 (Or.inl ne_q_u)
    have F_lightpaths_q_18 := F_lightpaths_q_4.other W18 (Or.inl ne_q_u)
    have V_v_18 := V_v_4.other W18 (Ne.symm ne_u_v)
    have K18 : Keep h0 h18 [q, u, v] := K4.wr W18 (Or.inl (List.mem_of_getElem? (i := 1) rfl))
    show Go _ _ _ _ _ _ _ T18 (mkF m 131 #[.val (.ref q), .val (.double (T lam)), .second, .val (.int (Lp lam)), .val (.int (1 : Int32)), .unset] [])
    refine Go.step (fun _ k => XS.aloadN X18.here hx rfl (hb hby d3_131) rfl rfl k) ?_
    show Go _ _ _ _ _ _ _ T18 (mkF m 132 #[.val (.ref q), .val (.double (T lam)), .second, .val (.int (Lp lam)), .val (.int (1 : Int32)), .unset] [(.ref q)])
    obtain ⟨T19, X19, e19, st19⟩ := getF X18 hx hZ hown (host := "") (Or.inl (hw _ (List.mem_of_getElem? (i := 13) rfl))) Via.refl e18 F_lightpaths_q_18 (g := (mkF m 132 #[.val (.ref q), .val (.double (T lam)), .second, .val (.int (Lp lam)), .val (.int (1 : Int32)), .unset] [(.ref q)])) rfl rfl (hb hby d3_132)
    refine Go.step st19 ?_
    show Go _ _ _ _ _ _ _ T19 (mkF m 135 #[.val (.ref q), .val (.double (T lam)), .second, .val (.int (Lp lam)), .val (.int (1 : Int32)), .unset] [(.ref v)])
    refine Go.step (fun _ k => XS.iload X19.here hx rfl (hb hby d3_135) rfl k) ?_
    show Go _ _ _ _ _ _ _ T19 (mkF m 137 #[.val (.ref q), .val (.double (T lam)), .second, .val (.int (Lp lam)), .val (.int (1 : Int32)), .unset] [(.int (1 : Int32)), (.ref v)])
    refine Go.step (fun _ k => XS.iloadN X19.here hx rfl (hb hby d3_137) rfl k) ?_
    show Go _ _ _ _ _ _ _ T19 (mkF m 138 #[.val (.ref q), .val (.double (T lam)), .second, .val (.int (Lp lam)), .val (.int (1 : Int32)), .unset] [(.int (Lp lam)), (.int (1 : Int32)), (.ref v)])
    refine Go.iastore X19 hx hZ e19 V_v_18 (j := (1 : Int32)) (x := (Lp lam)) (by decide) (hb hby d3_138) ?_
    intro T20 h20 X20 e20 W20 Vn20
    have V_v_20 : Iv Z h20 v (64 : Int32) (updN l' 1 (Lp lam)) := Vn20
    have N20 := Fr.snoc X20 N18 ge_v
    have E_q_20 := E_q_18.wr W20
    have F_size_q_20 := F_size_q_18.other W20 (Or.inl ne_q_v)
    have F_times_q_20 := F_times_q_18.other W20 (Or.inl ne_q_v)
    have F_lightpaths_q_20 := F_lightpaths_q_18.other W20 (Or.inl ne_q_v)
    have V_u_20 := V_u_18.other W20 ne_u_v
    have K20 : Keep h0 h20 [q, u, v] := K18.wr W20 (Or.inl (List.mem_of_getElem? (i := 2) rfl))
    show Go _ _ _ _ _ _ _ T20 (mkF m 139 #[.val (.ref q), .val (.double (T lam)), .second, .val (.int (Lp lam)), .val (.int (1 : Int32)), .unset] [])
    refine Go.retV X20 hx hlk hret (hb hby d3_139) (by decide) (by decide) ?_
    try rw [e20]
    have := own_ngtK hT hd77_6
    refine ⟨rfl, N20, K20, E_q_20, F_size_q_20, F_times_q_20, F_lightpaths_q_20, _, _, (updN a 1 lam), V_u_20, V_v_20, fun i hi' => by rcases (by omega : i = 0 ∨ i = 1) with rfl | rfl <;> first | rfl | simp [updN, hg0, hl0], fun i hi' => by rcases (by omega : i = 0 ∨ i = 1) with rfl | rfl <;> first | rfl | simp [updN, hg0, hl0], ?_, ?_, fun P hP hP' => ?_⟩
    · simp only [HI, updN]; try simp; try omega
    · intro w; simp [sumA, updN]; try omega
    · intro i hi'; rcases (by omega : i = 0 ∨ i = 1) with rfl | rfl <;> simp [updN] <;> first | exact hP' | exact hP _ (by decide)
theorem ef_rm_add1 (m : MethodId) (q : Addr) (T : Nat → UInt64) (Lp : Nat → Int32) (lam : Nat) : entryFrame m #[(.ref q), (.double (T lam)), (.int (Lp lam))] 6 = mkF m 0 #[.val (.ref q), .val (.double (T lam)), .second, .val (.int (Lp lam)), .unset, .unset] [] := by first | (simp [entryFrame, mkF, argsToLocals, Value.category]; done) | rfl
theorem rm_add1 (l : Launch) (Z : State) (a0 : Array Value) (hw : ∀ d ∈ tables_1, d.before a0 Z = true) (q u v : Addr) (g : Nat → UInt64) (l' : Nat → Int32) (T : Nat → UInt64) (Lp : Nat → Int32) (K : Nat → Int) (a : Nat → Nat) (lam : Nat) (h0 : Heap) (n0 : Nat) (Z0 : n0 ≤ h0.size) (E_q : Exa Z h0 q "com/example/wavegrade/wavegrade/DepartureQueue") (F_size_q : Fld Z h0 q "com/example/wavegrade/wavegrade/DepartureQueue" "size" "I" (.int (1 : Int32))) (F_times_q : Fld Z h0 q "com/example/wavegrade/wavegrade/DepartureQueue" "times" "[D" (.ref u)) (F_lightpaths_q : Fld Z h0 q "com/example/wavegrade/wavegrade/DepartureQueue" "lightpaths" "[I" (.ref v)) (V_u : Dv Z h0 u (64 : Int32) g) (V_v : Iv Z h0 v (64 : Int32) l') (ne_q_u : q ≠ u) (ne_q_v : q ≠ v) (ne_u_v : u ≠ v) (ge_q : n0 ≤ q) (ge_u : n0 ≤ u) (ge_v : n0 ≤ v) (hT : ∀ x y, FP.dcmp (T x) (T y) = some (compare (K x) (K y))) (hg : ∀ i, i < 1 → g i = T (a i)) (hl : ∀ i, i < 1 → l' i = Lp (a i)) (hi : HI K a 1) :
    Con l Z (⟨"com/example/wavegrade/wavegrade/DepartureQueue", "add", "(DI)V"⟩ : MethodName) prog_1_method_4_code 6 none ({ frames := 0, cells := 0, slots := 0, locals := 0 } : Room) #[(.ref q), (.double (T lam)), (.int (Lp lam))] h0 (fun r h L => r = none ∧ Fr n0 L ∧ Keep h0 h [q, u, v] ∧ Exa Z h q "com/example/wavegrade/wavegrade/DepartureQueue" ∧ Fld Z h q "com/example/wavegrade/wavegrade/DepartureQueue" "size" "I" (.int (2 : Int32)) ∧ Fld Z h q "com/example/wavegrade/wavegrade/DepartureQueue" "times" "[D" (.ref u) ∧ Fld Z h q "com/example/wavegrade/wavegrade/DepartureQueue" "lightpaths" "[I" (.ref v) ∧ ∃ (g2 : Nat → UInt64) (l2 : Nat → Int32) (a2 : Nat → Nat), Dv Z h u (64 : Int32) g2 ∧ Iv Z h v (64 : Int32) l2 ∧ (∀ i, i < 2 → g2 i = T (a2 i)) ∧ (∀ i, i < 2 → l2 i = Lp (a2 i)) ∧ HI K a2 2 ∧ (∀ w : Nat → Int, sumA w a2 2 = sumA w a 1 + w lam) ∧ ∀ P : Nat → Prop, (∀ i, i < 1 → P (a i)) → P lam → ∀ i, i < 2 → P (a2 i)) :=
  con_of (plainFor_of_name pn_1) (fun p_ e_ s_ m_ b_ meth_ c_ T_ X_ hx hZ hby hml hown hnm hret hlk e0 => Go.cast (ef_rm_add1 m_ q T Lp lam) (w_add1 q u v g l' T Lp K a lam X_ hx hZ hw hby hml hown hnm hret hlk e0 Z0 (Fr.nil n0) E_q F_size_q F_times_q F_lightpaths_q V_u V_v ne_q_u ne_q_v ne_u_v ge_q ge_u ge_v hT hg hl hi))
set_option maxRecDepth 65536 in
set_option maxHeartbeats 40000000 in
theorem w_add2 {p : Program} {l : Launch} {e : Env} {s : State} {m : MethodId} {args : Array Value} {below : List Frame} {meth : Method} {c_ : Code} {T0 : State} {locs : List Loc} {Z : State} {a0 : Array Value} {h0 : Heap} {n0 : Nat} (q u v : Addr) (g : Nat → UInt64) (l' : Nat → Int32) (T : Nat → UInt64) (Lp : Nat → Int32) (K : Nat → Int) (a : Nat → Nat) (lam : Nat)
    (X0 : Stand p l e ({ frames := 0, cells := 0, slots := 0, locals := 0 } : Room) s m args below meth c_ T0 locs 0 0) (hx : p.tables.exec = Jvm.exec) (hZ : Z.Warmed39 s.vm) (hw : ∀ d ∈ tables_1, d.before a0 Z = true) (hby : c_.code = prog_1_method_4_code) (hml : c_.maxLocals = 6) (hown : s.vm.findClass "com/example/wavegrade/wavegrade/DepartureQueue" = some m.cls) (hnm : meth.name = "add") (hret : meth.sig.returnType = none) (hlk : meth.locks = false) (e0 : T0.heap = h0) (Z0 : n0 ≤ h0.size) (N0 : Fr n0 locs) (E_q : Exa Z h0 q "com/example/wavegrade/wavegrade/DepartureQueue") (F_size_q : Fld Z h0 q "com/example/wavegrade/wavegrade/DepartureQueue" "size" "I" (.int (2 : Int32))) (F_times_q : Fld Z h0 q "com/example/wavegrade/wavegrade/DepartureQueue" "times" "[D" (.ref u)) (F_lightpaths_q : Fld Z h0 q "com/example/wavegrade/wavegrade/DepartureQueue" "lightpaths" "[I" (.ref v)) (V_u : Dv Z h0 u (64 : Int32) g) (V_v : Iv Z h0 v (64 : Int32) l') (ne_q_u : q ≠ u) (ne_q_v : q ≠ v) (ne_u_v : u ≠ v) (ge_q : n0 ≤ q) (ge_u : n0 ≤ u) (ge_v : n0 ≤ v) (hT : ∀ x y, FP.dcmp (T x) (T y) = some (compare (K x) (K y))) (hg : ∀ i, i < 2 → g i = T (a i)) (hl : ∀ i, i < 2 → l' i = Lp (a i)) (hi : HI K a 2) :
    Go p e below s ({ frames := 0, cells := 0, slots := 0, locals := 0 } : Room).cells ({ frames := 0, cells := 0, slots := 0, locals := 0 } : Room).slots (fun r h L => r = none ∧ Fr n0 L ∧ Keep h0 h [q, u, v] ∧ Exa Z h q "com/example/wavegrade/wavegrade/DepartureQueue" ∧ Fld Z h q "com/example/wavegrade/wavegrade/DepartureQueue" "size" "I" (.int (3 : Int32)) ∧ Fld Z h q "com/example/wavegrade/wavegrade/DepartureQueue" "times" "[D" (.ref u) ∧ Fld Z h q "com/example/wavegrade/wavegrade/DepartureQueue" "lightpaths" "[I" (.ref v) ∧ ∃ (g2 : Nat → UInt64) (l2 : Nat → Int32) (a2 : Nat → Nat), Dv Z h u (64 : Int32) g2 ∧ Iv Z h v (64 : Int32) l2 ∧ (∀ i, i < 3 → g2 i = T (a2 i)) ∧ (∀ i, i < 3 → l2 i = Lp (a2 i)) ∧ HI K a2 3 ∧ (∀ w : Nat → Int, sumA w a2 3 = sumA w a 2 + w lam) ∧ ∀ P : Nat → Prop, (∀ i, i < 2 → P (a i)) → P lam → ∀ i, i < 3 → P (a2 i)) T0 (mkF m 0 #[.val (.ref q), .val (.double (T lam)), .second, .val (.int (Lp lam)), .unset, .unset] []) := by
  have hg0 := hg 0 (by decide)
  have hg1 := hg 1 (by decide)
  have hl0 := hl 0 (by decide)
  have hl1 := hl 1 (by decide)
  simp only [HI] at hi
  show Go _ _ _ _ _ _ _ T0 (mkF m 0 #[.val (.ref q), .val (.double (T lam)), .second, .val (.int (Lp lam)), .unset, .unset] [])
  refine Go.step (fun _ k => XS.aloadN X0.here hx rfl (hb hby d3_0) rfl rfl k) ?_
  show Go _ _ _ _ _ _ _ T0 (mkF m 1 #[.val (.ref q), .val (.double (T lam)), .second, .val (.int (Lp lam)), .unset, .unset] [(.ref q)])
  obtain ⟨T1, X1, e1, st1⟩ := getF X0 hx hZ hown (host := "") (Or.inl (hw _ (List.mem_of_getElem? (i := 20) rfl))) Via.refl e0 F_size_q (g := (mkF m 1 #[.val (.ref q), .val (.double (T lam)), .second, .val (.int (Lp lam)), .unset, .unset] [(.ref q)])) rfl rfl (hb hby d3_1)
  refine Go.step st1 ?_
  show Go _ _ _ _ _ _ _ T1 (mkF m 4 #[.val (.ref q), .val (.double (T lam)), .second, .val (.int (Lp lam)), .unset, .unset] [(.int (2 : Int32))])
  refine Go.step (fun _ k => XS.aloadN X1.here hx rfl (hb hby d3_4) rfl rfl k) ?_
  show Go _ _ _ _ _ _ _ T1 (mkF m 5 #[.val (.ref q), .val (.double (T lam)), .second, .val (.int (Lp lam)), .unset, .unset] [(.ref q), (.int (2 : Int32))])
  obtain ⟨T2, X2, e2, st2⟩ := getF X1 hx hZ hown (host := "") (Or.inl (hw _ (List.mem_of_getElem? (i := 11) rfl))) Via.refl e1 F_times_q (g := (mkF m 5 #[.val (.ref q), .val (.double (T lam)), .second, .val (.int (Lp lam)), .unset, .unset] [(.ref q), (.int (2 : Int32))])) rfl rfl (hb hby d3_5)
  refine Go.step st2 ?_
  show Go _ _ _ _ _ _ _ T2 (mkF m 8 #[.val (.ref q), .val (.double (T lam)), .second, .val (.int (Lp lam)), .unset, .unset] [(.ref u), (.int (2 : Int32))])
  refine Go.alen X2 hx hZ e2 V_u (hb hby d3_8) ?_
  show Go _ _ _ _ _ _ _ T2 (mkF m 9 #[.val (.ref q), .val (.double (T lam)), .second, .val (.int (Lp lam)), .unset, .unset] [(.int (64 : Int32)), (.int (2 : Int32))])
  refine Go.step (fun _ k => XS.icmpYes X2.here hx rfl (pc0 := 9) (pc' := 46) rfl (hb hby d3_9) rfl (feq (by decide : ¬ ((2 : Int32) = (64 : Int32)))).2 (by decide) (by decide) k) ?_
  show Go _ _ _ _ _ _ _ T2 (mkF m 46 #[.val (.ref q), .val (.double (T lam)), .second, .val (.int (Lp lam)), .unset, .unset] [])
  refine Go.step (fun _ k => XS.aloadN X2.here hx rfl (hb hby d3_46) rfl rfl k) ?_
  show Go _ _ _ _ _ _ _ T2 (mkF m 47 #[.val (.ref q), .val (.double (T lam)), .second, .val (.int (Lp lam)), .unset, .unset] [(.ref q)])
  refine Go.step (fun _ k => XS.dup X2.here hx rfl (hb hby d3_47) rfl rfl k) ?_
  show Go _ _ _ _ _ _ _ T2 (mkF m 48 #[.val (.ref q), .val (.double (T lam)), .second, .val (.int (Lp lam)), .unset, .unset] [(.ref q), (.ref q)])
  obtain ⟨T3, X3, e3, st3⟩ := getF X2 hx hZ hown (host := "") (Or.inl (hw _ (List.mem_of_getElem? (i := 20) rfl))) Via.refl e2 F_size_q (g := (mkF m 48 #[.val (.ref q), .val (.double (T lam)), .second, .val (.int (Lp lam)), .unset, .unset] [(.ref q), (.ref q)])) rfl rfl (hb hby d3_48)
  refine Go.step st3 ?_
  show Go _ _ _ _ _ _ _ T3 (mkF m 51 #[.val (.ref q), .val (.double (T lam)), .second, .val (.int (Lp lam)), .unset, .unset] [(.int (2 : Int32)), (.ref q)])
  refine Go.step (fun _ k => XS.dupX1 X3.here hx rfl (hb hby d3_51) rfl rfl rfl k) ?_
  show Go _ _ _ _ _ _ _ T3 (mkF m 52 #[.val (.ref q), .val (.double (T lam)), .second, .val (.int (Lp lam)), .unset, .unset] [(.int (2 : Int32)), (.ref q), (.int (2 : Int32))])
  refine Go.step (fun _ k => XS.iconst X3.here hx rfl (hb hby d3_52) k) ?_
  show Go _ _ _ _ _ _ _ T3 (mkF m 53 #[.val (.ref q), .val (.double (T lam)), .second, .val (.int (Lp lam)), .unset, .unset] [(.int (1 : Int32)), (.int (2 : Int32)), (.ref q), (.int (2 : Int32))])
  refine Go.step (fun _ k => XS.iadd X3.here hx rfl (hb hby d3_53) rfl k) ?_
  show Go _ _ _ _ _ _ _ T3 (mkF m 54 #[.val (.ref q), .val (.double (T lam)), .second, .val (.int (Lp lam)), .unset, .unset] [(.int (3 : Int32)), (.ref q), (.int (2 : Int32))])
  obtain ⟨T4, h4, X4, e4, W4, st4⟩ := putF X3 hx hZ hown (host := "") (Or.inl (hw _ (List.mem_of_getElem? (i := 20) rfl))) Via.refl e3 F_size_q E_q (Or.inl (hw _ (List.mem_of_getElem? (i := 21) rfl))) (hw _ (List.mem_of_getElem? (i := 2) rfl)) (ty := .int) (by decide) rfl rfl (g := (mkF m 54 #[.val (.ref q), .val (.double (T lam)), .second, .val (.int (Lp lam)), .unset, .unset] [(.int (3 : Int32)), (.ref q), (.int (2 : Int32))])) rfl rfl (hb hby d3_54)
  refine Go.step st4 ?_
  have N4 := Fr.snoc X4 N0 ge_q
  have F_size_q_4 := F_size_q.same W4
  have E_q_4 := E_q.wr W4
  have F_times_q_4 := F_times_q.other W4 (Or.inr (slot_ne (Or.inl (hw _ (List.mem_of_getElem? (i := 12) rfl))) (Or.inl (hw _ (List.mem_of_getElem? (i := 21) rfl))) (by decide) (t := (.array .double)) (t' := .int) (by decide) (by decide)))
  have F_lightpaths_q_4 := F_lightpaths_q.other W4 (Or.inr (slot_ne (Or.inl (hw _ (List.mem_of_getElem? (i := 14) rfl))) (Or.inl (hw _ (List.mem_of_getElem? (i := 21) rfl))) (by decide) (t := (.array .int)) (t' := .int) (by decide) (by decide)))
  have V_u_4 := V_u.other W4 (Ne.symm ne_q_u)
  have V_v_4 := V_v.other W4 (Ne.symm ne_q_v)
  have K4 : Keep h0 h4 [q, u, v] := (Keep.refl h0 [q, u, v]).wr W4 (Or.inl (List.mem_of_getElem? (i := 0) rfl))
  show Go _ _ _ _ _ _ _ T4 (mkF m 57 #[.val (.ref q), .val (.double (T lam)), .second, .val (.int (Lp lam)), .unset, .unset] [(.int (2 : Int32))])
  refine Go.step (fun _ k => XS.istore X4.here hx rfl (hb hby d3_57) rfl (l' := #[.val (.ref q), .val (.double (T lam)), .second, .val (.int (Lp lam)), .val (.int (2 : Int32)), .unset]) rfl k) ?_
  show Go _ _ _ _ _ _ _ T4 (mkF m 59 #[.val (.ref q), .val (.double (T lam)), .second, .val (.int (Lp lam)), .val (.int (2 : Int32)), .unset] [])
  refine Go.step (fun _ k => XS.iload X4.here hx rfl (hb hby d3_59) rfl k) ?_
  show Go _ _ _ _ _ _ _ T4 (mkF m 61 #[.val (.ref q), .val (.double (T lam)), .second, .val (.int (Lp lam)), .val (.int (2 : Int32)), .unset] [(.int (2 : Int32))])
  refine Go.step (fun _ k => XS.ifNo X4.here hx rfl (hb hby d3_61) rfl ((if0 _ _).trans (tlt (by decide : (0 : Int32) < (2 : Int32))).2.2.2) k) ?_
  show Go _ _ _ _ _ _ _ T4 (mkF m 64 #[.val (.ref q), .val (.double (T lam)), .second, .val (.int (Lp lam)), .val (.int (2 : Int32)), .unset] [])
  refine Go.step (fun _ k => XS.aloadN X4.here hx rfl (hb hby d3_64) rfl rfl k) ?_
  show Go _ _ _ _ _ _ _ T4 (mkF m 65 #[.val (.ref q), .val (.double (T lam)), .second, .val (.int (Lp lam)), .val (.int (2 : Int32)), .unset] [(.ref q)])
  obtain ⟨T5, X5, e5, st5⟩ := getF X4 hx hZ hown (host := "") (Or.inl (hw _ (List.mem_of_getElem? (i := 11) rfl))) Via.refl e4 F_times_q_4 (g := (mkF m 65 #[.val (.ref q), .val (.double (T lam)), .second, .val (.int (Lp lam)), .val (.int (2 : Int32)), .unset] [(.ref q)])) rfl rfl (hb hby d3_65)
  refine Go.step st5 ?_
  show Go _ _ _ _ _ _ _ T5 (mkF m 68 #[.val (.ref q), .val (.double (T lam)), .second, .val (.int (Lp lam)), .val (.int (2 : Int32)), .unset] [(.ref u)])
  refine Go.step (fun _ k => XS.iload X5.here hx rfl (hb hby d3_68) rfl k) ?_
  show Go _ _ _ _ _ _ _ T5 (mkF m 70 #[.val (.ref q), .val (.double (T lam)), .second, .val (.int (Lp lam)), .val (.int (2 : Int32)), .unset] [(.int (2 : Int32)), (.ref u)])
  refine Go.step (fun _ k => XS.iconst X5.here hx rfl (hb hby d3_70) k) ?_
  show Go _ _ _ _ _ _ _ T5 (mkF m 71 #[.val (.ref q), .val (.double (T lam)), .second, .val (.int (Lp lam)), .val (.int (2 : Int32)), .unset] [(.int (1 : Int32)), (.int (2 : Int32)), (.ref u)])
  refine Go.step (fun _ k => XS.isub X5.here hx rfl (hb hby d3_71) rfl k) ?_
  show Go _ _ _ _ _ _ _ T5 (mkF m 72 #[.val (.ref q), .val (.double (T lam)), .second, .val (.int (Lp lam)), .val (.int (2 : Int32)), .unset] [(.int (1 : Int32)), (.ref u)])
  refine Go.step (fun _ k => XS.iconst X5.here hx rfl (hb hby d3_72) k) ?_
  show Go _ _ _ _ _ _ _ T5 (mkF m 73 #[.val (.ref q), .val (.double (T lam)), .second, .val (.int (Lp lam)), .val (.int (2 : Int32)), .unset] [(.int (2 : Int32)), (.int (1 : Int32)), (.ref u)])
  refine Go.step (fun _ k => XS.idiv X5.here hx rfl (hb hby d3_73) rfl (by decide) k) ?_
  show Go _ _ _ _ _ _ _ T5 (mkF m 74 #[.val (.ref q), .val (.double (T lam)), .second, .val (.int (Lp lam)), .val (.int (2 : Int32)), .unset] [(.int (0 : Int32)), (.ref u)])
  refine Go.daload X5 hx hZ e5 V_u_4 (j := (0 : Int32)) (v := (T (a 0))) (by decide) (by first | rfl | simp [updN, hg0, hg1, hl0, hl1]) (hb hby d3_74) ?_
  show Go _ _ _ _ _ _ _ T5 (mkF m 75 #[.val (.ref q), .val (.double (T lam)), .second, .val (.int (Lp lam)), .val (.int (2 : Int32)), .unset] [(.double (T (a 0)))])
  refine Go.step (fun _ k => XS.dloadN X5.here hx rfl (hb hby d3_75) rfl k) ?_
  show Go _ _ _ _ _ _ _ T5 (mkF m 76 #[.val (.ref q), .val (.double (T lam)), .second, .val (.int (Lp lam)), .val (.int (2 : Int32)), .unset] [(.double (T lam)), (.double (T (a 0)))])
  refine Go.step (fun _ k => XS.dcmpS X5.here hx rfl (hb hby d3_76) rfl rfl k) ?_
  show Go _ _ _ _ _ _ _ T5 (mkF m 77 #[.val (.ref q), .val (.double (T lam)), .second, .val (.int (Lp lam)), .val (.int (2 : Int32)), .unset] [(.int (cmpValue (FP.dcmp (T (a 0)) (T lam)) .l))])
  by_cases hd77_6 : FP.dcmp (T (a 0)) (T lam) = some .gt
  · refine Go.step (fun _ k => XS.ifNo X5.here hx rfl (hb hby d3_77) rfl (gt_y hd77_6) k) ?_
    show Go _ _ _ _ _ _ _ T5 (mkF m 80 #[.val (.ref q), .val (.double (T lam)), .second, .val (.int (Lp lam)), .val (.int (2 : Int32)), .unset] [])
    refine Go.step (fun _ k => XS.iload X5.here hx rfl (hb hby d3_80) rfl k) ?_
    show Go _ _ _ _ _ _ _ T5 (mkF m 82 #[.val (.ref q), .val (.double (T lam)), .second, .val (.int (Lp lam)), .val (.int (2 : Int32)), .unset] [(.int (2 : Int32))])
    refine Go.step (fun _ k => XS.iconst X5.here hx rfl (hb hby d3_82) k) ?_
    show Go _ _ _ _ _ _ _ T5 (mkF m 83 #[.val (.ref q), .val (.double (T lam)), .second, .val (.int (Lp lam)), .val (.int (2 : Int32)), .unset] [(.int (1 : Int32)), (.int (2 : Int32))])
    refine Go.step (fun _ k => XS.isub X5.here hx rfl (hb hby d3_83) rfl k) ?_
    show Go _ _ _ _ _ _ _ T5 (mkF m 84 #[.val (.ref q), .val (.double (T lam)), .second, .val (.int (Lp lam)), .val (.int (2 : Int32)), .unset] [(.int (1 : Int32))])
    refine Go.step (fun _ k => XS.iconst X5.here hx rfl (hb hby d3_84) k) ?_
    show Go _ _ _ _ _ _ _ T5 (mkF m 85 #[.val (.ref q), .val (.double (T lam)), .second, .val (.int (Lp lam)), .val (.int (2 : Int32)), .unset] [(.int (2 : Int32)), (.int (1 : Int32))])
    refine Go.step (fun _ k => XS.idiv X5.here hx rfl (hb hby d3_85) rfl (by decide) k) ?_
    show Go _ _ _ _ _ _ _ T5 (mkF m 86 #[.val (.ref q), .val (.double (T lam)), .second, .val (.int (Lp lam)), .val (.int (2 : Int32)), .unset] [(.int (0 : Int32))])
    refine Go.step (fun _ k => XS.istore X5.here hx rfl (hb hby d3_86) rfl (l' := #[.val (.ref q), .val (.double (T lam)), .second, .val (.int (Lp lam)), .val (.int (2 : Int32)), .val (.int (0 : Int32))]) rfl k) ?_
    show Go _ _ _ _ _ _ _ T5 (mkF m 88 #[.val (.ref q), .val (.double (T lam)), .second, .val (.int (Lp lam)), .val (.int (2 : Int32)), .val (.int (0 : Int32))] [])
    refine Go.step (fun _ k => XS.aloadN X5.here hx rfl (hb hby d3_88) rfl rfl k) ?_
    show Go _ _ _ _ _ _ _ T5 (mkF m 89 #[.val (.ref q), .val (.double (T lam)), .second, .val (.int (Lp lam)), .val (.int (2 : Int32)), .val (.int (0 : Int32))] [(.ref q)])
    obtain ⟨T7, X7, e7, st7⟩ := getF X5 hx hZ hown (host := "") (Or.inl (hw _ (List.mem_of_getElem? (i := 11) rfl))) Via.refl e5 F_times_q_4 (g := (mkF m 89 #[.val (.ref q), .val (.double (T lam)), .second, .val (.int (Lp lam)), .val (.int (2 : Int32)), .val (.int (0 : Int32))] [(.ref q)])) rfl rfl (hb hby d3_89)
    refine Go.step st7 ?_
    show Go _ _ _ _ _ _ _ T7 (mkF m 92 #[.val (.ref q), .val (.double (T lam)), .second, .val (.int (Lp lam)), .val (.int (2 : Int32)), .val (.int (0 : Int32))] [(.ref u)])
    refine Go.step (fun _ k => XS.iload X7.here hx rfl (hb hby d3_92) rfl k) ?_
    show Go _ _ _ _ _ _ _ T7 (mkF m 94 #[.val (.ref q), .val (.double (T lam)), .second, .val (.int (Lp lam)), .val (.int (2 : Int32)), .val (.int (0 : Int32))] [(.int (2 : Int32)), (.ref u)])
    refine Go.step (fun _ k => XS.aloadN X7.here hx rfl (hb hby d3_94) rfl rfl k) ?_
    show Go _ _ _ _ _ _ _ T7 (mkF m 95 #[.val (.ref q), .val (.double (T lam)), .second, .val (.int (Lp lam)), .val (.int (2 : Int32)), .val (.int (0 : Int32))] [(.ref q), (.int (2 : Int32)), (.ref u)])
    obtain ⟨T8, X8, e8, st8⟩ := getF X7 hx hZ hown (host := "") (Or.inl (hw _ (List.mem_of_getElem? (i := 11) rfl))) Via.refl e7 F_times_q_4 (g := (mkF m 95 #[.val (.ref q), .val (.double (T lam)), .second, .val (.int (Lp lam)), .val (.int (2 : Int32)), .val (.int (0 : Int32))] [(.ref q), (.int (2 : Int32)), (.ref u)])) rfl rfl (hb hby d3_95)
    refine Go.step st8 ?_
    show Go _ _ _ _ _ _ _ T8 (mkF m 98 #[.val (.ref q), .val (.double (T lam)), .second, .val (.int (Lp lam)), .val (.int (2 : Int32)), .val (.int (0 : Int32))] [(.ref u), (.int (2 : Int32)), (.ref u)])
    refine Go.step (fun _ k => XS.iload X8.here hx rfl (hb hby d3_98) rfl k) ?_
    show Go _ _ _ _ _ _ _ T8 (mkF m 100 #[.val (.ref q), .val (.double (T lam)), .second, .val (.int (Lp lam)), .val (.int (2 : Int32)), .val (.int (0 : Int32))] [(.int (0 : Int32)), (.ref u), (.int (2 : Int32)), (.ref u)])
    refine Go.daload X8 hx hZ e8 V_u_4 (j := (0 : Int32)) (v := (T (a 0))) (by decide) (by first | rfl | simp [updN, hg0, hg1, hl0, hl1]) (hb hby d3_100) ?_
    show Go _ _ _ _ _ _ _ T8 (mkF m 101 #[.val (.ref q), .val (.double (T lam)), .second, .val (.int (Lp lam)), .val (.int (2 : Int32)), .val (.int (0 : Int32))] [(.double (T (a 0))), (.int (2 : Int32)), (.ref u)])
    refine Go.dastore X8 hx hZ e8 V_u_4 (j := (2 : Int32)) (x := (T (a 0))) (by decide) (hb hby d3_101) ?_
    intro T9 h9 X9 e9 W9 Vn9
    have V_u_9 : Dv Z h9 u (64 : Int32) (updN g 2 (T (a 0))) := Vn9
    have N9 := Fr.snoc X9 N4 ge_u
    have E_q_9 := E_q_4.wr W9
    have F_size_q_9 := F_size_q_4.other W9 (Or.inl ne_q_u)
    have F_times_q_9 := F_times_q_4.other W9 (Or.inl ne_q_u)
    have F_lightpaths_q_9 := F_lightpaths_q_4.other W9 (Or.inl ne_q_u)
    have V_v_9 := V_v_4.other W9 (Ne.symm ne_u_v)
    have K9 : Keep h0 h9 [q, u, v] := K4.wr W9 (Or.inl (List.mem_of_getElem? (i := 1) rfl))
    show Go _ _ _ _ _ _ _ T9 (mkF m 102 #[.val (.ref q), .val (.double (T lam)), .second, .val (.int (Lp lam)), .val (.int (2 : Int32)), .val (.int (0 : Int32))] [])
    refine Go.step (fun _ k => XS.aloadN X9.here hx rfl (hb hby d3_102) rfl rfl k) ?_
    show Go _ _ _ _ _ _ _ T9 (mkF m 103 #[.val (.ref q), .val (.double (T lam)), .second, .val (.int (Lp lam)), .val (.int (2 : Int32)), .val (.int (0 : Int32))] [(.ref q)])
    obtain ⟨T10, X10, e10, st10⟩ := getF X9 hx hZ hown (host := "") (Or.inl (hw _ (List.mem_of_getElem? (i := 13) rfl))) Via.refl e9 F_lightpaths_q_9 (g := (mkF m 103 #[.val (.ref q), .val (.double (T lam)), .second, .val (.int (Lp lam)), .val (.int (2 : Int32)), .val (.int (0 : Int32))] [(.ref q)])) rfl rfl (hb hby d3_103)
    refine Go.step st10 ?_
    show Go _ _ _ _ _ _ _ T10 (mkF m 106 #[.val (.ref q), .val (.double (T lam)), .second, .val (.int (Lp lam)), .val (.int (2 : Int32)), .val (.int (0 : Int32))] [(.ref v)])
    refine Go.step (fun _ k => XS.iload X10.here hx rfl (hb hby d3_106) rfl k) ?_
    show Go _ _ _ _ _ _ _ T10 (mkF m 108 #[.val (.ref q), .val (.double (T lam)), .second, .val (.int (Lp lam)), .val (.int (2 : Int32)), .val (.int (0 : Int32))] [(.int (2 : Int32)), (.ref v)])
    refine Go.step (fun _ k => XS.aloadN X10.here hx rfl (hb hby d3_108) rfl rfl k) ?_
    show Go _ _ _ _ _ _ _ T10 (mkF m 109 #[.val (.ref q), .val (.double (T lam)), .second, .val (.int (Lp lam)), .val (.int (2 : Int32)), .val (.int (0 : Int32))] [(.ref q), (.int (2 : Int32)), (.ref v)])
    obtain ⟨T11, X11, e11, st11⟩ := getF X10 hx hZ hown (host := "") (Or.inl (hw _ (List.mem_of_getElem? (i := 13) rfl))) Via.refl e10 F_lightpaths_q_9 (g := (mkF m 109 #[.val (.ref q), .val (.double (T lam)), .second, .val (.int (Lp lam)), .val (.int (2 : Int32)), .val (.int (0 : Int32))] [(.ref q), (.int (2 : Int32)), (.ref v)])) rfl rfl (hb hby d3_109)
    refine Go.step st11 ?_
    show Go _ _ _ _ _ _ _ T11 (mkF m 112 #[.val (.ref q), .val (.double (T lam)), .second, .val (.int (Lp lam)), .val (.int (2 : Int32)), .val (.int (0 : Int32))] [(.ref v), (.int (2 : Int32)), (.ref v)])
    refine Go.step (fun _ k => XS.iload X11.here hx rfl (hb hby d3_112) rfl k) ?_
    show Go _ _ _ _ _ _ _ T11 (mkF m 114 #[.val (.ref q), .val (.double (T lam)), .second, .val (.int (Lp lam)), .val (.int (2 : Int32)), .val (.int (0 : Int32))] [(.int (0 : Int32)), (.ref v), (.int (2 : Int32)), (.ref v)])
    refine Go.iaload X11 hx hZ e11 V_v_9 (j := (0 : Int32)) (v := (Lp (a 0))) (by decide) (by first | rfl | simp [updN, hg0, hg1, hl0, hl1]) (hb hby d3_114) ?_
    show Go _ _ _ _ _ _ _ T11 (mkF m 115 #[.val (.ref q), .val (.double (T lam)), .second, .val (.int (Lp lam)), .val (.int (2 : Int32)), .val (.int (0 : Int32))] [(.int (Lp (a 0))), (.int (2 : Int32)), (.ref v)])
    refine Go.iastore X11 hx hZ e11 V_v_9 (j := (2 : Int32)) (x := (Lp (a 0))) (by decide) (hb hby d3_115) ?_
    intro T12 h12 X12 e12 W12 Vn12
    have V_v_12 : Iv Z h12 v (64 : Int32) (updN l' 2 (Lp (a 0))) := Vn12
    have N12 := Fr.snoc X12 N9 ge_v
    have E_q_12 := E_q_9.wr W12
    have F_size_q_12 := F_size_q_9.other W12 (Or.inl ne_q_v)
    have F_times_q_12 := F_times_q_9.other W12 (Or.inl ne_q_v)
    have F_lightpaths_q_12 := F_lightpaths_q_9.other W12 (Or.inl ne_q_v)
    have V_u_12 := V_u_9.other W12 ne_u_v
    have K12 : Keep h0 h12 [q, u, v] := K9.wr W12 (Or.inl (List.mem_of_getElem? (i := 2) rfl))
    show Go _ _ _ _ _ _ _ T12 (mkF m 116 #[.val (.ref q), .val (.double (T lam)), .second, .val (.int (Lp lam)), .val (.int (2 : Int32)), .val (.int (0 : Int32))] [])
    refine Go.step (fun _ k => XS.iload X12.here hx rfl (hb hby d3_116) rfl k) ?_
    show Go _ _ _ _ _ _ _ T12 (mkF m 118 #[.val (.ref q), .val (.double (T lam)), .second, .val (.int (Lp lam)), .val (.int (2 : Int32)), .val (.int (0 : Int32))] [(.int (0 : Int32))])
    refine Go.step (fun _ k => XS.istore X12.here hx rfl (hb hby d3_118) rfl (l' := #[.val (.ref q), .val (.double (T lam)), .second, .val (.int (Lp lam)), .val (.int (0 : Int32)), .val (.int (0 : Int32))]) rfl k) ?_
    show Go _ _ _ _ _ _ _ T12 (mkF m 120 #[.val (.ref q), .val (.double (T lam)), .second, .val (.int (Lp lam)), .val (.int (0 : Int32)), .val (.int (0 : Int32))] [])
    refine Go.step (fun _ k => XS.goto X12.here hx rfl (pc0 := 120) (pc' := 59) rfl (hb hby d3_120) (by decide) (by decide) k) ?_
    show Go _ _ _ _ _ _ _ T12 (mkF m 59 #[.val (.ref q), .val (.double (T lam)), .second, .val (.int (Lp lam)), .val (.int (0 : Int32)), .val (.int (0 : Int32))] [])
    refine Go.step (fun _ k => XS.iload X12.here hx rfl (hb hby d3_59) rfl k) ?_
    show Go _ _ _ _ _ _ _ T12 (mkF m 61 #[.val (.ref q), .val (.double (T lam)), .second, .val (.int (Lp lam)), .val (.int (0 : Int32)), .val (.int (0 : Int32))] [(.int (0 : Int32))])
    refine Go.step (fun _ k => XS.ifYes X12.here hx rfl (pc0 := 61) (pc' := 123) rfl (hb hby d3_61) rfl ((if0 _ _).trans (flt (by decide : ¬ ((0 : Int32) < (0 : Int32)))).2.2.2) (by decide) (by decide) k) ?_
    show Go _ _ _ _ _ _ _ T12 (mkF m 123 #[.val (.ref q), .val (.double (T lam)), .second, .val (.int (Lp lam)), .val (.int (0 : Int32)), .val (.int (0 : Int32))] [])
    refine Go.step (fun _ k => XS.aloadN X12.here hx rfl (hb hby d3_123) rfl rfl k) ?_
    show Go _ _ _ _ _ _ _ T12 (mkF m 124 #[.val (.ref q), .val (.double (T lam)), .second, .val (.int (Lp lam)), .val (.int (0 : Int32)), .val (.int (0 : Int32))] [(.ref q)])
    obtain ⟨T13, X13, e13, st13⟩ := getF X12 hx hZ hown (host := "") (Or.inl (hw _ (List.mem_of_getElem? (i := 11) rfl))) Via.refl e12 F_times_q_12 (g := (mkF m 124 #[.val (.ref q), .val (.double (T lam)), .second, .val (.int (Lp lam)), .val (.int (0 : Int32)), .val (.int (0 : Int32))] [(.ref q)])) rfl rfl (hb hby d3_124)
    refine Go.step st13 ?_
    show Go _ _ _ _ _ _ _ T13 (mkF m 127 #[.val (.ref q), .val (.double (T lam)), .second, .val (.int (Lp lam)), .val (.int (0 : Int32)), .val (.int (0 : Int32))] [(.ref u)])
    refine Go.step (fun _ k => XS.iload X13.here hx rfl (hb hby d3_127) rfl k) ?_
    show Go _ _ _ _ _ _ _ T13 (mkF m 129 #[.val (.ref q), .val (.double (T lam)), .second, .val (.int (Lp lam)), .val (.int (0 : Int32)), .val (.int (0 : Int32))] [(.int (0 : Int32)), (.ref u)])
    refine Go.step (fun _ k => XS.dloadN X13.here hx rfl (hb hby d3_129) rfl k) ?_
    show Go _ _ _ _ _ _ _ T13 (mkF m 130 #[.val (.ref q), .val (.double (T lam)), .second, .val (.int (Lp lam)), .val (.int (0 : Int32)), .val (.int (0 : Int32))] [(.double (T lam)), (.int (0 : Int32)), (.ref u)])
    refine Go.dastore X13 hx hZ e13 V_u_12 (j := (0 : Int32)) (x := (T lam)) (by decide) (hb hby d3_130) ?_
    intro T14 h14 X14 e14 W14 Vn14
    have V_u_14 : Dv Z h14 u (64 : Int32) (updN (updN g 2 (T (a 0))) 0 (T lam)) := Vn14
    have N14 := Fr.snoc X14 N12 ge_u
    have E_q_14 := E_q_12.wr W14
    have F_size_q_14 := F_size_q_12.other W14 (Or.inl ne_q_u)
    have F_times_q_14 := F_times_q_12.other W14 (Or.inl ne_q_u)
    have F_lightpaths_q_14 := F_lightpaths_q_12.other W14 (Or.inl ne_q_u)
    have V_v_14 := V_v_12.other W14 (Ne.symm ne_u_v)
    have K14 : Keep h0 h14 [q, u, v] := K12.wr W14 (Or.inl (List.mem_of_getElem? (i := 1) rfl))
    show Go _ _ _ _ _ _ _ T14 (mkF m 131 #[.val (.ref q), .val (.double (T lam)), .second, .val (.int (Lp lam)), .val (.int (0 : Int32)), .val (.int (0 : Int32))] [])
    refine Go.step (fun _ k => XS.aloadN X14.here hx rfl (hb hby d3_131) rfl rfl k) ?_
    show Go _ _ _ _ _ _ _ T14 (mkF m 132 #[.val (.ref q), .val (.double (T lam)), .second, .val (.int (Lp lam)), .val (.int (0 : Int32)), .val (.int (0 : Int32))] [(.ref q)])
    obtain ⟨T15, X15, e15, st15⟩ := getF X14 hx hZ hown (host := "") (Or.inl (hw _ (List.mem_of_getElem? (i := 13) rfl))) Via.refl e14 F_lightpaths_q_14 (g := (mkF m 132 #[.val (.ref q), .val (.double (T lam)), .second, .val (.int (Lp lam)), .val (.int (0 : Int32)), .val (.int (0 : Int32))] [(.ref q)])) rfl rfl (hb hby d3_132)
    refine Go.step st15 ?_
    show Go _ _ _ _ _ _ _ T15 (mkF m 135 #[.val (.ref q), .val (.double (T lam)), .second, .val (.int (Lp lam)), .val (.int (0 : Int32)), .val (.int (0 : Int32))] [(.ref v)])
    refine Go.step (fun _ k => XS.iload X15.here hx rfl (hb hby d3_135) rfl k) ?_
    show Go _ _ _ _ _ _ _ T15 (mkF m 137 #[.val (.ref q), .val (.double (T lam)), .second, .val (.int (Lp lam)), .val (.int (0 : Int32)), .val (.int (0 : Int32))] [(.int (0 : Int32)), (.ref v)])
    refine Go.step (fun _ k => XS.iloadN X15.here hx rfl (hb hby d3_137) rfl k) ?_
    show Go _ _ _ _ _ _ _ T15 (mkF m 138 #[.val (.ref q), .val (.double (T lam)), .second, .val (.int (Lp lam)), .val (.int (0 : Int32)), .val (.int (0 : Int32))] [(.int (Lp lam)), (.int (0 : Int32)), (.ref v)])
    refine Go.iastore X15 hx hZ e15 V_v_14 (j := (0 : Int32)) (x := (Lp lam)) (by decide) (hb hby d3_138) ?_
    intro T16 h16 X16 e16 W16 Vn16
    have V_v_16 : Iv Z h16 v (64 : Int32) (updN (updN l' 2 (Lp (a 0))) 0 (Lp lam)) := Vn16
    have N16 := Fr.snoc X16 N14 ge_v
    have E_q_16 := E_q_14.wr W16
    have F_size_q_16 := F_size_q_14.other W16 (Or.inl ne_q_v)
    have F_times_q_16 := F_times_q_14.other W16 (Or.inl ne_q_v)
    have F_lightpaths_q_16 := F_lightpaths_q_14.other W16 (Or.inl ne_q_v)
    have V_u_16 := V_u_14.other W16 ne_u_v
    have K16 : Keep h0 h16 [q, u, v] := K14.wr W16 (Or.inl (List.mem_of_getElem? (i := 2) rfl))
    show Go _ _ _ _ _ _ _ T16 (mkF m 139 #[.val (.ref q), .val (.double (T lam)), .second, .val (.int (Lp lam)), .val (.int (0 : Int32)), .val (.int (0 : Int32))] [])
    refine Go.retV X16 hx hlk hret (hb hby d3_139) (by decide) (by decide) ?_
    try rw [e16]
    have := own_gtK hT hd77_6
    refine ⟨rfl, N16, K16, E_q_16, F_size_q_16, F_times_q_16, F_lightpaths_q_16, _, _, (updN (updN a 2 (a 0)) 0 lam), V_u_16, V_v_16, fun i hi' => by rcases (by omega : i = 0 ∨ i = 1 ∨ i = 2) with rfl | rfl | rfl <;> first | rfl | simp [updN, hg0, hg1, hl0, hl1], fun i hi' => by rcases (by omega : i = 0 ∨ i = 1 ∨ i = 2) with rfl | rfl | rfl <;> first | rfl | simp [updN, hg0, hg1, hl0, hl1], ?_, ?_, fun P hP hP' => ?_⟩
    · simp only [HI, updN]; try simp; try omega
    · intro w; simp [sumA, updN]; try omega
    · intro i hi'; rcases (by omega : i = 0 ∨ i = 1 ∨ i = 2) with rfl | rfl | rfl <;> simp [updN] <;> first | exact hP' | exact hP _ (by decide)
  · refine Go.step (fun _ k => XS.ifYes X5.here hx rfl (pc0 := 77) (pc' := 123) rfl (hb hby d3_77) rfl (gt_n hd77_6) (by decide) (by decide) k) ?_
    show Go _ _ _ _ _ _ _ T5 (mkF m 123 #[.val (.ref q), .val (.double (T lam)), .second, .val (.int (Lp lam)), .val (.int (2 : Int32)), .unset] [])
    refine Go.step (fun _ k => XS.aloadN X5.here hx rfl (hb hby d3_123) rfl rfl k) ?_
    show Go _ _ _ _ _ _ _ T5 (mkF m 124 #[.val (.ref q), .val (.double (T lam)), .second, .val (.int (Lp lam)), .val (.int (2 : Int32)), .unset] [(.ref q)])
    obtain ⟨T17, X17, e17, st17⟩ := getF X5 hx hZ hown (host := "") (Or.inl (hw _ (List.mem_of_getElem? (i := 11) rfl))) Via.refl e5 F_times_q_4 (g := (mkF m 124 #[.val (.ref q), .val (.double (T lam)), .second, .val (.int (Lp lam)), .val (.int (2 : Int32)), .unset] [(.ref q)])) rfl rfl (hb hby d3_124)
    refine Go.step st17 ?_
    show Go _ _ _ _ _ _ _ T17 (mkF m 127 #[.val (.ref q), .val (.double (T lam)), .second, .val (.int (Lp lam)), .val (.int (2 : Int32)), .unset] [(.ref u)])
    refine Go.step (fun _ k => XS.iload X17.here hx rfl (hb hby d3_127) rfl k) ?_
    show Go _ _ _ _ _ _ _ T17 (mkF m 129 #[.val (.ref q), .val (.double (T lam)), .second, .val (.int (Lp lam)), .val (.int (2 : Int32)), .unset] [(.int (2 : Int32)), (.ref u)])
    refine Go.step (fun _ k => XS.dloadN X17.here hx rfl (hb hby d3_129) rfl k) ?_
    show Go _ _ _ _ _ _ _ T17 (mkF m 130 #[.val (.ref q), .val (.double (T lam)), .second, .val (.int (Lp lam)), .val (.int (2 : Int32)), .unset] [(.double (T lam)), (.int (2 : Int32)), (.ref u)])
    refine Go.dastore X17 hx hZ e17 V_u_4 (j := (2 : Int32)) (x := (T lam)) (by decide) (hb hby d3_130) ?_
    intro T18 h18 X18 e18 W18 Vn18
    have V_u_18 : Dv Z h18 u (64 : Int32) (updN g 2 (T lam)) := Vn18
    have N18 := Fr.snoc X18 N4 ge_u
    have E_q_18 := E_q_4.wr W18
    have F_size_q_18 := F_size_q_4.other W18 (Or.inl ne_q_u)
    have F_times_q_18 := F_times_q_4.other W18 (Or.inl ne_q_u)
    have F_lightpaths_q_18 := F_lightpaths_q_4.other W18 (Or.inl ne_q_u)
    have V_v_18 := V_v_4.other W18 (Ne.symm ne_u_v)
    have K18 : Keep h0 h18 [q, u, v] := K4.wr W18 (Or.inl (List.mem_of_getElem? (i := 1) rfl))
    show Go _ _ _ _ _ _ _ T18 (mkF m 131 #[.val (.ref q), .val (.double (T lam)), .second, .val (.int (Lp lam)), .val (.int (2 : Int32)), .unset] [])
    refine Go.step (fun _ k => XS.aloadN X18.here hx rfl (hb hby d3_131) rfl rfl k) ?_
    show Go _ _ _ _ _ _ _ T18 (mkF m 132 #[.val (.ref q), .val (.double (T lam)), .second, .val (.int (Lp lam)), .val (.int (2 : Int32)), .unset] [(.ref q)])
    obtain ⟨T19, X19, e19, st19⟩ := getF X18 hx hZ hown (host := "") (Or.inl (hw _ (List.mem_of_getElem? (i := 13) rfl))) Via.refl e18 F_lightpaths_q_18 (g := (mkF m 132 #[.val (.ref q), .val (.double (T lam)), .second, .val (.int (Lp lam)), .val (.int (2 : Int32)), .unset] [(.ref q)])) rfl rfl (hb hby d3_132)
    refine Go.step st19 ?_
    show Go _ _ _ _ _ _ _ T19 (mkF m 135 #[.val (.ref q), .val (.double (T lam)), .second, .val (.int (Lp lam)), .val (.int (2 : Int32)), .unset] [(.ref v)])
    refine Go.step (fun _ k => XS.iload X19.here hx rfl (hb hby d3_135) rfl k) ?_
    show Go _ _ _ _ _ _ _ T19 (mkF m 137 #[.val (.ref q), .val (.double (T lam)), .second, .val (.int (Lp lam)), .val (.int (2 : Int32)), .unset] [(.int (2 : Int32)), (.ref v)])
    refine Go.step (fun _ k => XS.iloadN X19.here hx rfl (hb hby d3_137) rfl k) ?_
    show Go _ _ _ _ _ _ _ T19 (mkF m 138 #[.val (.ref q), .val (.double (T lam)), .second, .val (.int (Lp lam)), .val (.int (2 : Int32)), .unset] [(.int (Lp lam)), (.int (2 : Int32)), (.ref v)])
    refine Go.iastore X19 hx hZ e19 V_v_18 (j := (2 : Int32)) (x := (Lp lam)) (by decide) (hb hby d3_138) ?_
    intro T20 h20 X20 e20 W20 Vn20
    have V_v_20 : Iv Z h20 v (64 : Int32) (updN l' 2 (Lp lam)) := Vn20
    have N20 := Fr.snoc X20 N18 ge_v
    have E_q_20 := E_q_18.wr W20
    have F_size_q_20 := F_size_q_18.other W20 (Or.inl ne_q_v)
    have F_times_q_20 := F_times_q_18.other W20 (Or.inl ne_q_v)
    have F_lightpaths_q_20 := F_lightpaths_q_18.other W20 (Or.inl ne_q_v)
    have V_u_20 := V_u_18.other W20 ne_u_v
    have K20 : Keep h0 h20 [q, u, v] := K18.wr W20 (Or.inl (List.mem_of_getElem? (i := 2) rfl))
    show Go _ _ _ _ _ _ _ T20 (mkF m 139 #[.val (.ref q), .val (.double (T lam)), .second, .val (.int (Lp lam)), .val (.int (2 : Int32)), .unset] [])
    refine Go.retV X20 hx hlk hret (hb hby d3_139) (by decide) (by decide) ?_
    try rw [e20]
    have := own_ngtK hT hd77_6
    refine ⟨rfl, N20, K20, E_q_20, F_size_q_20, F_times_q_20, F_lightpaths_q_20, _, _, (updN a 2 lam), V_u_20, V_v_20, fun i hi' => by rcases (by omega : i = 0 ∨ i = 1 ∨ i = 2) with rfl | rfl | rfl <;> first | rfl | simp [updN, hg0, hg1, hl0, hl1], fun i hi' => by rcases (by omega : i = 0 ∨ i = 1 ∨ i = 2) with rfl | rfl | rfl <;> first | rfl | simp [updN, hg0, hg1, hl0, hl1], ?_, ?_, fun P hP hP' => ?_⟩
    · simp only [HI, updN]; try simp; try omega
    · intro w; simp [sumA, updN]; try omega
    · intro i hi'; rcases (by omega : i = 0 ∨ i = 1 ∨ i = 2) with rfl | rfl | rfl <;> simp [updN] <;> first | exact hP' | exact hP _ (by decide)
theorem ef_rm_add2 (m : MethodId) (q : Addr) (T : Nat → UInt64) (Lp : Nat → Int32) (lam : Nat) : entryFrame m #[(.ref q), (.double (T lam)), (.int (Lp lam))] 6 = mkF m 0 #[.val (.ref q), .val (.double (T lam)), .second, .val (.int (Lp lam)), .unset, .unset] [] := by first | (simp [entryFrame, mkF, argsToLocals, Value.category]; done) | rfl
theorem rm_add2 (l : Launch) (Z : State) (a0 : Array Value) (hw : ∀ d ∈ tables_1, d.before a0 Z = true) (q u v : Addr) (g : Nat → UInt64) (l' : Nat → Int32) (T : Nat → UInt64) (Lp : Nat → Int32) (K : Nat → Int) (a : Nat → Nat) (lam : Nat) (h0 : Heap) (n0 : Nat) (Z0 : n0 ≤ h0.size) (E_q : Exa Z h0 q "com/example/wavegrade/wavegrade/DepartureQueue") (F_size_q : Fld Z h0 q "com/example/wavegrade/wavegrade/DepartureQueue" "size" "I" (.int (2 : Int32))) (F_times_q : Fld Z h0 q "com/example/wavegrade/wavegrade/DepartureQueue" "times" "[D" (.ref u)) (F_lightpaths_q : Fld Z h0 q "com/example/wavegrade/wavegrade/DepartureQueue" "lightpaths" "[I" (.ref v)) (V_u : Dv Z h0 u (64 : Int32) g) (V_v : Iv Z h0 v (64 : Int32) l') (ne_q_u : q ≠ u) (ne_q_v : q ≠ v) (ne_u_v : u ≠ v) (ge_q : n0 ≤ q) (ge_u : n0 ≤ u) (ge_v : n0 ≤ v) (hT : ∀ x y, FP.dcmp (T x) (T y) = some (compare (K x) (K y))) (hg : ∀ i, i < 2 → g i = T (a i)) (hl : ∀ i, i < 2 → l' i = Lp (a i)) (hi : HI K a 2) :
    Con l Z (⟨"com/example/wavegrade/wavegrade/DepartureQueue", "add", "(DI)V"⟩ : MethodName) prog_1_method_4_code 6 none ({ frames := 0, cells := 0, slots := 0, locals := 0 } : Room) #[(.ref q), (.double (T lam)), (.int (Lp lam))] h0 (fun r h L => r = none ∧ Fr n0 L ∧ Keep h0 h [q, u, v] ∧ Exa Z h q "com/example/wavegrade/wavegrade/DepartureQueue" ∧ Fld Z h q "com/example/wavegrade/wavegrade/DepartureQueue" "size" "I" (.int (3 : Int32)) ∧ Fld Z h q "com/example/wavegrade/wavegrade/DepartureQueue" "times" "[D" (.ref u) ∧ Fld Z h q "com/example/wavegrade/wavegrade/DepartureQueue" "lightpaths" "[I" (.ref v) ∧ ∃ (g2 : Nat → UInt64) (l2 : Nat → Int32) (a2 : Nat → Nat), Dv Z h u (64 : Int32) g2 ∧ Iv Z h v (64 : Int32) l2 ∧ (∀ i, i < 3 → g2 i = T (a2 i)) ∧ (∀ i, i < 3 → l2 i = Lp (a2 i)) ∧ HI K a2 3 ∧ (∀ w : Nat → Int, sumA w a2 3 = sumA w a 2 + w lam) ∧ ∀ P : Nat → Prop, (∀ i, i < 2 → P (a i)) → P lam → ∀ i, i < 3 → P (a2 i)) :=
  con_of (plainFor_of_name pn_1) (fun p_ e_ s_ m_ b_ meth_ c_ T_ X_ hx hZ hby hml hown hnm hret hlk e0 => Go.cast (ef_rm_add2 m_ q T Lp lam) (w_add2 q u v g l' T Lp K a lam X_ hx hZ hw hby hml hown hnm hret hlk e0 Z0 (Fr.nil n0) E_q F_size_q F_times_q F_lightpaths_q V_u V_v ne_q_u ne_q_v ne_u_v ge_q ge_u ge_v hT hg hl hi))
set_option maxRecDepth 65536 in
set_option maxHeartbeats 40000000 in
theorem w_add3 {p : Program} {l : Launch} {e : Env} {s : State} {m : MethodId} {args : Array Value} {below : List Frame} {meth : Method} {c_ : Code} {T0 : State} {locs : List Loc} {Z : State} {a0 : Array Value} {h0 : Heap} {n0 : Nat} (q u v : Addr) (g : Nat → UInt64) (l' : Nat → Int32) (T : Nat → UInt64) (Lp : Nat → Int32) (K : Nat → Int) (a : Nat → Nat) (lam : Nat)
    (X0 : Stand p l e ({ frames := 0, cells := 0, slots := 0, locals := 0 } : Room) s m args below meth c_ T0 locs 0 0) (hx : p.tables.exec = Jvm.exec) (hZ : Z.Warmed39 s.vm) (hw : ∀ d ∈ tables_1, d.before a0 Z = true) (hby : c_.code = prog_1_method_4_code) (hml : c_.maxLocals = 6) (hown : s.vm.findClass "com/example/wavegrade/wavegrade/DepartureQueue" = some m.cls) (hnm : meth.name = "add") (hret : meth.sig.returnType = none) (hlk : meth.locks = false) (e0 : T0.heap = h0) (Z0 : n0 ≤ h0.size) (N0 : Fr n0 locs) (E_q : Exa Z h0 q "com/example/wavegrade/wavegrade/DepartureQueue") (F_size_q : Fld Z h0 q "com/example/wavegrade/wavegrade/DepartureQueue" "size" "I" (.int (3 : Int32))) (F_times_q : Fld Z h0 q "com/example/wavegrade/wavegrade/DepartureQueue" "times" "[D" (.ref u)) (F_lightpaths_q : Fld Z h0 q "com/example/wavegrade/wavegrade/DepartureQueue" "lightpaths" "[I" (.ref v)) (V_u : Dv Z h0 u (64 : Int32) g) (V_v : Iv Z h0 v (64 : Int32) l') (ne_q_u : q ≠ u) (ne_q_v : q ≠ v) (ne_u_v : u ≠ v) (ge_q : n0 ≤ q) (ge_u : n0 ≤ u) (ge_v : n0 ≤ v) (hT : ∀ x y, FP.dcmp (T x) (T y) = some (compare (K x) (K y))) (hg : ∀ i, i < 3 → g i = T (a i)) (hl : ∀ i, i < 3 → l' i = Lp (a i)) (hi : HI K a 3) :
    Go p e below s ({ frames := 0, cells := 0, slots := 0, locals := 0 } : Room).cells ({ frames := 0, cells := 0, slots := 0, locals := 0 } : Room).slots (fun r h L => r = none ∧ Fr n0 L ∧ Keep h0 h [q, u, v] ∧ Exa Z h q "com/example/wavegrade/wavegrade/DepartureQueue" ∧ Fld Z h q "com/example/wavegrade/wavegrade/DepartureQueue" "size" "I" (.int (4 : Int32)) ∧ Fld Z h q "com/example/wavegrade/wavegrade/DepartureQueue" "times" "[D" (.ref u) ∧ Fld Z h q "com/example/wavegrade/wavegrade/DepartureQueue" "lightpaths" "[I" (.ref v) ∧ ∃ (g2 : Nat → UInt64) (l2 : Nat → Int32) (a2 : Nat → Nat), Dv Z h u (64 : Int32) g2 ∧ Iv Z h v (64 : Int32) l2 ∧ (∀ i, i < 4 → g2 i = T (a2 i)) ∧ (∀ i, i < 4 → l2 i = Lp (a2 i)) ∧ HI K a2 4 ∧ (∀ w : Nat → Int, sumA w a2 4 = sumA w a 3 + w lam) ∧ ∀ P : Nat → Prop, (∀ i, i < 3 → P (a i)) → P lam → ∀ i, i < 4 → P (a2 i)) T0 (mkF m 0 #[.val (.ref q), .val (.double (T lam)), .second, .val (.int (Lp lam)), .unset, .unset] []) := by
  have hg0 := hg 0 (by decide)
  have hg1 := hg 1 (by decide)
  have hg2 := hg 2 (by decide)
  have hl0 := hl 0 (by decide)
  have hl1 := hl 1 (by decide)
  have hl2 := hl 2 (by decide)
  simp only [HI] at hi
  show Go _ _ _ _ _ _ _ T0 (mkF m 0 #[.val (.ref q), .val (.double (T lam)), .second, .val (.int (Lp lam)), .unset, .unset] [])
  refine Go.step (fun _ k => XS.aloadN X0.here hx rfl (hb hby d3_0) rfl rfl k) ?_
  show Go _ _ _ _ _ _ _ T0 (mkF m 1 #[.val (.ref q), .val (.double (T lam)), .second, .val (.int (Lp lam)), .unset, .unset] [(.ref q)])
  obtain ⟨T1, X1, e1, st1⟩ := getF X0 hx hZ hown (host := "") (Or.inl (hw _ (List.mem_of_getElem? (i := 20) rfl))) Via.refl e0 F_size_q (g := (mkF m 1 #[.val (.ref q), .val (.double (T lam)), .second, .val (.int (Lp lam)), .unset, .unset] [(.ref q)])) rfl rfl (hb hby d3_1)
  refine Go.step st1 ?_
  show Go _ _ _ _ _ _ _ T1 (mkF m 4 #[.val (.ref q), .val (.double (T lam)), .second, .val (.int (Lp lam)), .unset, .unset] [(.int (3 : Int32))])
  refine Go.step (fun _ k => XS.aloadN X1.here hx rfl (hb hby d3_4) rfl rfl k) ?_
  show Go _ _ _ _ _ _ _ T1 (mkF m 5 #[.val (.ref q), .val (.double (T lam)), .second, .val (.int (Lp lam)), .unset, .unset] [(.ref q), (.int (3 : Int32))])
  obtain ⟨T2, X2, e2, st2⟩ := getF X1 hx hZ hown (host := "") (Or.inl (hw _ (List.mem_of_getElem? (i := 11) rfl))) Via.refl e1 F_times_q (g := (mkF m 5 #[.val (.ref q), .val (.double (T lam)), .second, .val (.int (Lp lam)), .unset, .unset] [(.ref q), (.int (3 : Int32))])) rfl rfl (hb hby d3_5)
  refine Go.step st2 ?_
  show Go _ _ _ _ _ _ _ T2 (mkF m 8 #[.val (.ref q), .val (.double (T lam)), .second, .val (.int (Lp lam)), .unset, .unset] [(.ref u), (.int (3 : Int32))])
  refine Go.alen X2 hx hZ e2 V_u (hb hby d3_8) ?_
  show Go _ _ _ _ _ _ _ T2 (mkF m 9 #[.val (.ref q), .val (.double (T lam)), .second, .val (.int (Lp lam)), .unset, .unset] [(.int (64 : Int32)), (.int (3 : Int32))])
  refine Go.step (fun _ k => XS.icmpYes X2.here hx rfl (pc0 := 9) (pc' := 46) rfl (hb hby d3_9) rfl (feq (by decide : ¬ ((3 : Int32) = (64 : Int32)))).2 (by decide) (by decide) k) ?_
  show Go _ _ _ _ _ _ _ T2 (mkF m 46 #[.val (.ref q), .val (.double (T lam)), .second, .val (.int (Lp lam)), .unset, .unset] [])
  refine Go.step (fun _ k => XS.aloadN X2.here hx rfl (hb hby d3_46) rfl rfl k) ?_
  show Go _ _ _ _ _ _ _ T2 (mkF m 47 #[.val (.ref q), .val (.double (T lam)), .second, .val (.int (Lp lam)), .unset, .unset] [(.ref q)])
  refine Go.step (fun _ k => XS.dup X2.here hx rfl (hb hby d3_47) rfl rfl k) ?_
  show Go _ _ _ _ _ _ _ T2 (mkF m 48 #[.val (.ref q), .val (.double (T lam)), .second, .val (.int (Lp lam)), .unset, .unset] [(.ref q), (.ref q)])
  obtain ⟨T3, X3, e3, st3⟩ := getF X2 hx hZ hown (host := "") (Or.inl (hw _ (List.mem_of_getElem? (i := 20) rfl))) Via.refl e2 F_size_q (g := (mkF m 48 #[.val (.ref q), .val (.double (T lam)), .second, .val (.int (Lp lam)), .unset, .unset] [(.ref q), (.ref q)])) rfl rfl (hb hby d3_48)
  refine Go.step st3 ?_
  show Go _ _ _ _ _ _ _ T3 (mkF m 51 #[.val (.ref q), .val (.double (T lam)), .second, .val (.int (Lp lam)), .unset, .unset] [(.int (3 : Int32)), (.ref q)])
  refine Go.step (fun _ k => XS.dupX1 X3.here hx rfl (hb hby d3_51) rfl rfl rfl k) ?_
  show Go _ _ _ _ _ _ _ T3 (mkF m 52 #[.val (.ref q), .val (.double (T lam)), .second, .val (.int (Lp lam)), .unset, .unset] [(.int (3 : Int32)), (.ref q), (.int (3 : Int32))])
  refine Go.step (fun _ k => XS.iconst X3.here hx rfl (hb hby d3_52) k) ?_
  show Go _ _ _ _ _ _ _ T3 (mkF m 53 #[.val (.ref q), .val (.double (T lam)), .second, .val (.int (Lp lam)), .unset, .unset] [(.int (1 : Int32)), (.int (3 : Int32)), (.ref q), (.int (3 : Int32))])
  refine Go.step (fun _ k => XS.iadd X3.here hx rfl (hb hby d3_53) rfl k) ?_
  show Go _ _ _ _ _ _ _ T3 (mkF m 54 #[.val (.ref q), .val (.double (T lam)), .second, .val (.int (Lp lam)), .unset, .unset] [(.int (4 : Int32)), (.ref q), (.int (3 : Int32))])
  obtain ⟨T4, h4, X4, e4, W4, st4⟩ := putF X3 hx hZ hown (host := "") (Or.inl (hw _ (List.mem_of_getElem? (i := 20) rfl))) Via.refl e3 F_size_q E_q (Or.inl (hw _ (List.mem_of_getElem? (i := 21) rfl))) (hw _ (List.mem_of_getElem? (i := 2) rfl)) (ty := .int) (by decide) rfl rfl (g := (mkF m 54 #[.val (.ref q), .val (.double (T lam)), .second, .val (.int (Lp lam)), .unset, .unset] [(.int (4 : Int32)), (.ref q), (.int (3 : Int32))])) rfl rfl (hb hby d3_54)
  refine Go.step st4 ?_
  have N4 := Fr.snoc X4 N0 ge_q
  have F_size_q_4 := F_size_q.same W4
  have E_q_4 := E_q.wr W4
  have F_times_q_4 := F_times_q.other W4 (Or.inr (slot_ne (Or.inl (hw _ (List.mem_of_getElem? (i := 12) rfl))) (Or.inl (hw _ (List.mem_of_getElem? (i := 21) rfl))) (by decide) (t := (.array .double)) (t' := .int) (by decide) (by decide)))
  have F_lightpaths_q_4 := F_lightpaths_q.other W4 (Or.inr (slot_ne (Or.inl (hw _ (List.mem_of_getElem? (i := 14) rfl))) (Or.inl (hw _ (List.mem_of_getElem? (i := 21) rfl))) (by decide) (t := (.array .int)) (t' := .int) (by decide) (by decide)))
  have V_u_4 := V_u.other W4 (Ne.symm ne_q_u)
  have V_v_4 := V_v.other W4 (Ne.symm ne_q_v)
  have K4 : Keep h0 h4 [q, u, v] := (Keep.refl h0 [q, u, v]).wr W4 (Or.inl (List.mem_of_getElem? (i := 0) rfl))
  show Go _ _ _ _ _ _ _ T4 (mkF m 57 #[.val (.ref q), .val (.double (T lam)), .second, .val (.int (Lp lam)), .unset, .unset] [(.int (3 : Int32))])
  refine Go.step (fun _ k => XS.istore X4.here hx rfl (hb hby d3_57) rfl (l' := #[.val (.ref q), .val (.double (T lam)), .second, .val (.int (Lp lam)), .val (.int (3 : Int32)), .unset]) rfl k) ?_
  show Go _ _ _ _ _ _ _ T4 (mkF m 59 #[.val (.ref q), .val (.double (T lam)), .second, .val (.int (Lp lam)), .val (.int (3 : Int32)), .unset] [])
  refine Go.step (fun _ k => XS.iload X4.here hx rfl (hb hby d3_59) rfl k) ?_
  show Go _ _ _ _ _ _ _ T4 (mkF m 61 #[.val (.ref q), .val (.double (T lam)), .second, .val (.int (Lp lam)), .val (.int (3 : Int32)), .unset] [(.int (3 : Int32))])
  refine Go.step (fun _ k => XS.ifNo X4.here hx rfl (hb hby d3_61) rfl ((if0 _ _).trans (tlt (by decide : (0 : Int32) < (3 : Int32))).2.2.2) k) ?_
  show Go _ _ _ _ _ _ _ T4 (mkF m 64 #[.val (.ref q), .val (.double (T lam)), .second, .val (.int (Lp lam)), .val (.int (3 : Int32)), .unset] [])
  refine Go.step (fun _ k => XS.aloadN X4.here hx rfl (hb hby d3_64) rfl rfl k) ?_
  show Go _ _ _ _ _ _ _ T4 (mkF m 65 #[.val (.ref q), .val (.double (T lam)), .second, .val (.int (Lp lam)), .val (.int (3 : Int32)), .unset] [(.ref q)])
  obtain ⟨T5, X5, e5, st5⟩ := getF X4 hx hZ hown (host := "") (Or.inl (hw _ (List.mem_of_getElem? (i := 11) rfl))) Via.refl e4 F_times_q_4 (g := (mkF m 65 #[.val (.ref q), .val (.double (T lam)), .second, .val (.int (Lp lam)), .val (.int (3 : Int32)), .unset] [(.ref q)])) rfl rfl (hb hby d3_65)
  refine Go.step st5 ?_
  show Go _ _ _ _ _ _ _ T5 (mkF m 68 #[.val (.ref q), .val (.double (T lam)), .second, .val (.int (Lp lam)), .val (.int (3 : Int32)), .unset] [(.ref u)])
  refine Go.step (fun _ k => XS.iload X5.here hx rfl (hb hby d3_68) rfl k) ?_
  show Go _ _ _ _ _ _ _ T5 (mkF m 70 #[.val (.ref q), .val (.double (T lam)), .second, .val (.int (Lp lam)), .val (.int (3 : Int32)), .unset] [(.int (3 : Int32)), (.ref u)])
  refine Go.step (fun _ k => XS.iconst X5.here hx rfl (hb hby d3_70) k) ?_
  show Go _ _ _ _ _ _ _ T5 (mkF m 71 #[.val (.ref q), .val (.double (T lam)), .second, .val (.int (Lp lam)), .val (.int (3 : Int32)), .unset] [(.int (1 : Int32)), (.int (3 : Int32)), (.ref u)])
  refine Go.step (fun _ k => XS.isub X5.here hx rfl (hb hby d3_71) rfl k) ?_
  show Go _ _ _ _ _ _ _ T5 (mkF m 72 #[.val (.ref q), .val (.double (T lam)), .second, .val (.int (Lp lam)), .val (.int (3 : Int32)), .unset] [(.int (2 : Int32)), (.ref u)])
  refine Go.step (fun _ k => XS.iconst X5.here hx rfl (hb hby d3_72) k) ?_
  show Go _ _ _ _ _ _ _ T5 (mkF m 73 #[.val (.ref q), .val (.double (T lam)), .second, .val (.int (Lp lam)), .val (.int (3 : Int32)), .unset] [(.int (2 : Int32)), (.int (2 : Int32)), (.ref u)])
  refine Go.step (fun _ k => XS.idiv X5.here hx rfl (hb hby d3_73) rfl (by decide) k) ?_
  show Go _ _ _ _ _ _ _ T5 (mkF m 74 #[.val (.ref q), .val (.double (T lam)), .second, .val (.int (Lp lam)), .val (.int (3 : Int32)), .unset] [(.int (1 : Int32)), (.ref u)])
  refine Go.daload X5 hx hZ e5 V_u_4 (j := (1 : Int32)) (v := (T (a 1))) (by decide) (by first | rfl | simp [updN, hg0, hg1, hg2, hl0, hl1, hl2]) (hb hby d3_74) ?_
  show Go _ _ _ _ _ _ _ T5 (mkF m 75 #[.val (.ref q), .val (.double (T lam)), .second, .val (.int (Lp lam)), .val (.int (3 : Int32)), .unset] [(.double (T (a 1)))])
  refine Go.step (fun _ k => XS.dloadN X5.here hx rfl (hb hby d3_75) rfl k) ?_
  show Go _ _ _ _ _ _ _ T5 (mkF m 76 #[.val (.ref q), .val (.double (T lam)), .second, .val (.int (Lp lam)), .val (.int (3 : Int32)), .unset] [(.double (T lam)), (.double (T (a 1)))])
  refine Go.step (fun _ k => XS.dcmpS X5.here hx rfl (hb hby d3_76) rfl rfl k) ?_
  show Go _ _ _ _ _ _ _ T5 (mkF m 77 #[.val (.ref q), .val (.double (T lam)), .second, .val (.int (Lp lam)), .val (.int (3 : Int32)), .unset] [(.int (cmpValue (FP.dcmp (T (a 1)) (T lam)) .l))])
  by_cases hd77_6 : FP.dcmp (T (a 1)) (T lam) = some .gt
  · refine Go.step (fun _ k => XS.ifNo X5.here hx rfl (hb hby d3_77) rfl (gt_y hd77_6) k) ?_
    show Go _ _ _ _ _ _ _ T5 (mkF m 80 #[.val (.ref q), .val (.double (T lam)), .second, .val (.int (Lp lam)), .val (.int (3 : Int32)), .unset] [])
    refine Go.step (fun _ k => XS.iload X5.here hx rfl (hb hby d3_80) rfl k) ?_
    show Go _ _ _ _ _ _ _ T5 (mkF m 82 #[.val (.ref q), .val (.double (T lam)), .second, .val (.int (Lp lam)), .val (.int (3 : Int32)), .unset] [(.int (3 : Int32))])
    refine Go.step (fun _ k => XS.iconst X5.here hx rfl (hb hby d3_82) k) ?_
    show Go _ _ _ _ _ _ _ T5 (mkF m 83 #[.val (.ref q), .val (.double (T lam)), .second, .val (.int (Lp lam)), .val (.int (3 : Int32)), .unset] [(.int (1 : Int32)), (.int (3 : Int32))])
    refine Go.step (fun _ k => XS.isub X5.here hx rfl (hb hby d3_83) rfl k) ?_
    show Go _ _ _ _ _ _ _ T5 (mkF m 84 #[.val (.ref q), .val (.double (T lam)), .second, .val (.int (Lp lam)), .val (.int (3 : Int32)), .unset] [(.int (2 : Int32))])
    refine Go.step (fun _ k => XS.iconst X5.here hx rfl (hb hby d3_84) k) ?_
    show Go _ _ _ _ _ _ _ T5 (mkF m 85 #[.val (.ref q), .val (.double (T lam)), .second, .val (.int (Lp lam)), .val (.int (3 : Int32)), .unset] [(.int (2 : Int32)), (.int (2 : Int32))])
    refine Go.step (fun _ k => XS.idiv X5.here hx rfl (hb hby d3_85) rfl (by decide) k) ?_
    show Go _ _ _ _ _ _ _ T5 (mkF m 86 #[.val (.ref q), .val (.double (T lam)), .second, .val (.int (Lp lam)), .val (.int (3 : Int32)), .unset] [(.int (1 : Int32))])
    refine Go.step (fun _ k => XS.istore X5.here hx rfl (hb hby d3_86) rfl (l' := #[.val (.ref q), .val (.double (T lam)), .second, .val (.int (Lp lam)), .val (.int (3 : Int32)), .val (.int (1 : Int32))]) rfl k) ?_
    show Go _ _ _ _ _ _ _ T5 (mkF m 88 #[.val (.ref q), .val (.double (T lam)), .second, .val (.int (Lp lam)), .val (.int (3 : Int32)), .val (.int (1 : Int32))] [])
    refine Go.step (fun _ k => XS.aloadN X5.here hx rfl (hb hby d3_88) rfl rfl k) ?_
    show Go _ _ _ _ _ _ _ T5 (mkF m 89 #[.val (.ref q), .val (.double (T lam)), .second, .val (.int (Lp lam)), .val (.int (3 : Int32)), .val (.int (1 : Int32))] [(.ref q)])
    obtain ⟨T7, X7, e7, st7⟩ := getF X5 hx hZ hown (host := "") (Or.inl (hw _ (List.mem_of_getElem? (i := 11) rfl))) Via.refl e5 F_times_q_4 (g := (mkF m 89 #[.val (.ref q), .val (.double (T lam)), .second, .val (.int (Lp lam)), .val (.int (3 : Int32)), .val (.int (1 : Int32))] [(.ref q)])) rfl rfl (hb hby d3_89)
    refine Go.step st7 ?_
    show Go _ _ _ _ _ _ _ T7 (mkF m 92 #[.val (.ref q), .val (.double (T lam)), .second, .val (.int (Lp lam)), .val (.int (3 : Int32)), .val (.int (1 : Int32))] [(.ref u)])
    refine Go.step (fun _ k => XS.iload X7.here hx rfl (hb hby d3_92) rfl k) ?_
    show Go _ _ _ _ _ _ _ T7 (mkF m 94 #[.val (.ref q), .val (.double (T lam)), .second, .val (.int (Lp lam)), .val (.int (3 : Int32)), .val (.int (1 : Int32))] [(.int (3 : Int32)), (.ref u)])
    refine Go.step (fun _ k => XS.aloadN X7.here hx rfl (hb hby d3_94) rfl rfl k) ?_
    show Go _ _ _ _ _ _ _ T7 (mkF m 95 #[.val (.ref q), .val (.double (T lam)), .second, .val (.int (Lp lam)), .val (.int (3 : Int32)), .val (.int (1 : Int32))] [(.ref q), (.int (3 : Int32)), (.ref u)])
    obtain ⟨T8, X8, e8, st8⟩ := getF X7 hx hZ hown (host := "") (Or.inl (hw _ (List.mem_of_getElem? (i := 11) rfl))) Via.refl e7 F_times_q_4 (g := (mkF m 95 #[.val (.ref q), .val (.double (T lam)), .second, .val (.int (Lp lam)), .val (.int (3 : Int32)), .val (.int (1 : Int32))] [(.ref q), (.int (3 : Int32)), (.ref u)])) rfl rfl (hb hby d3_95)
    refine Go.step st8 ?_
    show Go _ _ _ _ _ _ _ T8 (mkF m 98 #[.val (.ref q), .val (.double (T lam)), .second, .val (.int (Lp lam)), .val (.int (3 : Int32)), .val (.int (1 : Int32))] [(.ref u), (.int (3 : Int32)), (.ref u)])
    refine Go.step (fun _ k => XS.iload X8.here hx rfl (hb hby d3_98) rfl k) ?_
    show Go _ _ _ _ _ _ _ T8 (mkF m 100 #[.val (.ref q), .val (.double (T lam)), .second, .val (.int (Lp lam)), .val (.int (3 : Int32)), .val (.int (1 : Int32))] [(.int (1 : Int32)), (.ref u), (.int (3 : Int32)), (.ref u)])
    refine Go.daload X8 hx hZ e8 V_u_4 (j := (1 : Int32)) (v := (T (a 1))) (by decide) (by first | rfl | simp [updN, hg0, hg1, hg2, hl0, hl1, hl2]) (hb hby d3_100) ?_
    show Go _ _ _ _ _ _ _ T8 (mkF m 101 #[.val (.ref q), .val (.double (T lam)), .second, .val (.int (Lp lam)), .val (.int (3 : Int32)), .val (.int (1 : Int32))] [(.double (T (a 1))), (.int (3 : Int32)), (.ref u)])
    refine Go.dastore X8 hx hZ e8 V_u_4 (j := (3 : Int32)) (x := (T (a 1))) (by decide) (hb hby d3_101) ?_
    intro T9 h9 X9 e9 W9 Vn9
    have V_u_9 : Dv Z h9 u (64 : Int32) (updN g 3 (T (a 1))) := Vn9
    have N9 := Fr.snoc X9 N4 ge_u
    have E_q_9 := E_q_4.wr W9
    have F_size_q_9 := F_size_q_4.other W9 (Or.inl ne_q_u)
    have F_times_q_9 := F_times_q_4.other W9 (Or.inl ne_q_u)
    have F_lightpaths_q_9 := F_lightpaths_q_4.other W9 (Or.inl ne_q_u)
    have V_v_9 := V_v_4.other W9 (Ne.symm ne_u_v)
    have K9 : Keep h0 h9 [q, u, v] := K4.wr W9 (Or.inl (List.mem_of_getElem? (i := 1) rfl))
    show Go _ _ _ _ _ _ _ T9 (mkF m 102 #[.val (.ref q), .val (.double (T lam)), .second, .val (.int (Lp lam)), .val (.int (3 : Int32)), .val (.int (1 : Int32))] [])
    refine Go.step (fun _ k => XS.aloadN X9.here hx rfl (hb hby d3_102) rfl rfl k) ?_
    show Go _ _ _ _ _ _ _ T9 (mkF m 103 #[.val (.ref q), .val (.double (T lam)), .second, .val (.int (Lp lam)), .val (.int (3 : Int32)), .val (.int (1 : Int32))] [(.ref q)])
    obtain ⟨T10, X10, e10, st10⟩ := getF X9 hx hZ hown (host := "") (Or.inl (hw _ (List.mem_of_getElem? (i := 13) rfl))) Via.refl e9 F_lightpaths_q_9 (g := (mkF m 103 #[.val (.ref q), .val (.double (T lam)), .second, .val (.int (Lp lam)), .val (.int (3 : Int32)), .val (.int (1 : Int32))] [(.ref q)])) rfl rfl (hb hby d3_103)
    refine Go.step st10 ?_
    show Go _ _ _ _ _ _ _ T10 (mkF m 106 #[.val (.ref q), .val (.double (T lam)), .second, .val (.int (Lp lam)), .val (.int (3 : Int32)), .val (.int (1 : Int32))] [(.ref v)])
    refine Go.step (fun _ k => XS.iload X10.here hx rfl (hb hby d3_106) rfl k) ?_
    show Go _ _ _ _ _ _ _ T10 (mkF m 108 #[.val (.ref q), .val (.double (T lam)), .second, .val (.int (Lp lam)), .val (.int (3 : Int32)), .val (.int (1 : Int32))] [(.int (3 : Int32)), (.ref v)])
    refine Go.step (fun _ k => XS.aloadN X10.here hx rfl (hb hby d3_108) rfl rfl k) ?_
    show Go _ _ _ _ _ _ _ T10 (mkF m 109 #[.val (.ref q), .val (.double (T lam)), .second, .val (.int (Lp lam)), .val (.int (3 : Int32)), .val (.int (1 : Int32))] [(.ref q), (.int (3 : Int32)), (.ref v)])
    obtain ⟨T11, X11, e11, st11⟩ := getF X10 hx hZ hown (host := "") (Or.inl (hw _ (List.mem_of_getElem? (i := 13) rfl))) Via.refl e10 F_lightpaths_q_9 (g := (mkF m 109 #[.val (.ref q), .val (.double (T lam)), .second, .val (.int (Lp lam)), .val (.int (3 : Int32)), .val (.int (1 : Int32))] [(.ref q), (.int (3 : Int32)), (.ref v)])) rfl rfl (hb hby d3_109)
    refine Go.step st11 ?_
    show Go _ _ _ _ _ _ _ T11 (mkF m 112 #[.val (.ref q), .val (.double (T lam)), .second, .val (.int (Lp lam)), .val (.int (3 : Int32)), .val (.int (1 : Int32))] [(.ref v), (.int (3 : Int32)), (.ref v)])
    refine Go.step (fun _ k => XS.iload X11.here hx rfl (hb hby d3_112) rfl k) ?_
    show Go _ _ _ _ _ _ _ T11 (mkF m 114 #[.val (.ref q), .val (.double (T lam)), .second, .val (.int (Lp lam)), .val (.int (3 : Int32)), .val (.int (1 : Int32))] [(.int (1 : Int32)), (.ref v), (.int (3 : Int32)), (.ref v)])
    refine Go.iaload X11 hx hZ e11 V_v_9 (j := (1 : Int32)) (v := (Lp (a 1))) (by decide) (by first | rfl | simp [updN, hg0, hg1, hg2, hl0, hl1, hl2]) (hb hby d3_114) ?_
    show Go _ _ _ _ _ _ _ T11 (mkF m 115 #[.val (.ref q), .val (.double (T lam)), .second, .val (.int (Lp lam)), .val (.int (3 : Int32)), .val (.int (1 : Int32))] [(.int (Lp (a 1))), (.int (3 : Int32)), (.ref v)])
    refine Go.iastore X11 hx hZ e11 V_v_9 (j := (3 : Int32)) (x := (Lp (a 1))) (by decide) (hb hby d3_115) ?_
    intro T12 h12 X12 e12 W12 Vn12
    have V_v_12 : Iv Z h12 v (64 : Int32) (updN l' 3 (Lp (a 1))) := Vn12
    have N12 := Fr.snoc X12 N9 ge_v
    have E_q_12 := E_q_9.wr W12
    have F_size_q_12 := F_size_q_9.other W12 (Or.inl ne_q_v)
    have F_times_q_12 := F_times_q_9.other W12 (Or.inl ne_q_v)
    have F_lightpaths_q_12 := F_lightpaths_q_9.other W12 (Or.inl ne_q_v)
    have V_u_12 := V_u_9.other W12 ne_u_v
    have K12 : Keep h0 h12 [q, u, v] := K9.wr W12 (Or.inl (List.mem_of_getElem? (i := 2) rfl))
    show Go _ _ _ _ _ _ _ T12 (mkF m 116 #[.val (.ref q), .val (.double (T lam)), .second, .val (.int (Lp lam)), .val (.int (3 : Int32)), .val (.int (1 : Int32))] [])
    refine Go.step (fun _ k => XS.iload X12.here hx rfl (hb hby d3_116) rfl k) ?_
    show Go _ _ _ _ _ _ _ T12 (mkF m 118 #[.val (.ref q), .val (.double (T lam)), .second, .val (.int (Lp lam)), .val (.int (3 : Int32)), .val (.int (1 : Int32))] [(.int (1 : Int32))])
    refine Go.step (fun _ k => XS.istore X12.here hx rfl (hb hby d3_118) rfl (l' := #[.val (.ref q), .val (.double (T lam)), .second, .val (.int (Lp lam)), .val (.int (1 : Int32)), .val (.int (1 : Int32))]) rfl k) ?_
    show Go _ _ _ _ _ _ _ T12 (mkF m 120 #[.val (.ref q), .val (.double (T lam)), .second, .val (.int (Lp lam)), .val (.int (1 : Int32)), .val (.int (1 : Int32))] [])
    refine Go.step (fun _ k => XS.goto X12.here hx rfl (pc0 := 120) (pc' := 59) rfl (hb hby d3_120) (by decide) (by decide) k) ?_
    show Go _ _ _ _ _ _ _ T12 (mkF m 59 #[.val (.ref q), .val (.double (T lam)), .second, .val (.int (Lp lam)), .val (.int (1 : Int32)), .val (.int (1 : Int32))] [])
    refine Go.step (fun _ k => XS.iload X12.here hx rfl (hb hby d3_59) rfl k) ?_
    show Go _ _ _ _ _ _ _ T12 (mkF m 61 #[.val (.ref q), .val (.double (T lam)), .second, .val (.int (Lp lam)), .val (.int (1 : Int32)), .val (.int (1 : Int32))] [(.int (1 : Int32))])
    refine Go.step (fun _ k => XS.ifNo X12.here hx rfl (hb hby d3_61) rfl ((if0 _ _).trans (tlt (by decide : (0 : Int32) < (1 : Int32))).2.2.2) k) ?_
    show Go _ _ _ _ _ _ _ T12 (mkF m 64 #[.val (.ref q), .val (.double (T lam)), .second, .val (.int (Lp lam)), .val (.int (1 : Int32)), .val (.int (1 : Int32))] [])
    refine Go.step (fun _ k => XS.aloadN X12.here hx rfl (hb hby d3_64) rfl rfl k) ?_
    show Go _ _ _ _ _ _ _ T12 (mkF m 65 #[.val (.ref q), .val (.double (T lam)), .second, .val (.int (Lp lam)), .val (.int (1 : Int32)), .val (.int (1 : Int32))] [(.ref q)])
    obtain ⟨T13, X13, e13, st13⟩ := getF X12 hx hZ hown (host := "") (Or.inl (hw _ (List.mem_of_getElem? (i := 11) rfl))) Via.refl e12 F_times_q_12 (g := (mkF m 65 #[.val (.ref q), .val (.double (T lam)), .second, .val (.int (Lp lam)), .val (.int (1 : Int32)), .val (.int (1 : Int32))] [(.ref q)])) rfl rfl (hb hby d3_65)
    refine Go.step st13 ?_
    show Go _ _ _ _ _ _ _ T13 (mkF m 68 #[.val (.ref q), .val (.double (T lam)), .second, .val (.int (Lp lam)), .val (.int (1 : Int32)), .val (.int (1 : Int32))] [(.ref u)])
    refine Go.step (fun _ k => XS.iload X13.here hx rfl (hb hby d3_68) rfl k) ?_
    show Go _ _ _ _ _ _ _ T13 (mkF m 70 #[.val (.ref q), .val (.double (T lam)), .second, .val (.int (Lp lam)), .val (.int (1 : Int32)), .val (.int (1 : Int32))] [(.int (1 : Int32)), (.ref u)])
    refine Go.step (fun _ k => XS.iconst X13.here hx rfl (hb hby d3_70) k) ?_
    show Go _ _ _ _ _ _ _ T13 (mkF m 71 #[.val (.ref q), .val (.double (T lam)), .second, .val (.int (Lp lam)), .val (.int (1 : Int32)), .val (.int (1 : Int32))] [(.int (1 : Int32)), (.int (1 : Int32)), (.ref u)])
    refine Go.step (fun _ k => XS.isub X13.here hx rfl (hb hby d3_71) rfl k) ?_
    show Go _ _ _ _ _ _ _ T13 (mkF m 72 #[.val (.ref q), .val (.double (T lam)), .second, .val (.int (Lp lam)), .val (.int (1 : Int32)), .val (.int (1 : Int32))] [(.int (0 : Int32)), (.ref u)])
    refine Go.step (fun _ k => XS.iconst X13.here hx rfl (hb hby d3_72) k) ?_
    show Go _ _ _ _ _ _ _ T13 (mkF m 73 #[.val (.ref q), .val (.double (T lam)), .second, .val (.int (Lp lam)), .val (.int (1 : Int32)), .val (.int (1 : Int32))] [(.int (2 : Int32)), (.int (0 : Int32)), (.ref u)])
    refine Go.step (fun _ k => XS.idiv X13.here hx rfl (hb hby d3_73) rfl (by decide) k) ?_
    show Go _ _ _ _ _ _ _ T13 (mkF m 74 #[.val (.ref q), .val (.double (T lam)), .second, .val (.int (Lp lam)), .val (.int (1 : Int32)), .val (.int (1 : Int32))] [(.int (0 : Int32)), (.ref u)])
    refine Go.daload X13 hx hZ e13 V_u_12 (j := (0 : Int32)) (v := (T (a 0))) (by decide) (by first | rfl | simp [updN, hg0, hg1, hg2, hl0, hl1, hl2]) (hb hby d3_74) ?_
    show Go _ _ _ _ _ _ _ T13 (mkF m 75 #[.val (.ref q), .val (.double (T lam)), .second, .val (.int (Lp lam)), .val (.int (1 : Int32)), .val (.int (1 : Int32))] [(.double (T (a 0)))])
    refine Go.step (fun _ k => XS.dloadN X13.here hx rfl (hb hby d3_75) rfl k) ?_
    show Go _ _ _ _ _ _ _ T13 (mkF m 76 #[.val (.ref q), .val (.double (T lam)), .second, .val (.int (Lp lam)), .val (.int (1 : Int32)), .val (.int (1 : Int32))] [(.double (T lam)), (.double (T (a 0)))])
    refine Go.step (fun _ k => XS.dcmpS X13.here hx rfl (hb hby d3_76) rfl rfl k) ?_
    show Go _ _ _ _ _ _ _ T13 (mkF m 77 #[.val (.ref q), .val (.double (T lam)), .second, .val (.int (Lp lam)), .val (.int (1 : Int32)), .val (.int (1 : Int32))] [(.int (cmpValue (FP.dcmp (T (a 0)) (T lam)) .l))])
    by_cases hd77_14 : FP.dcmp (T (a 0)) (T lam) = some .gt
    · refine Go.step (fun _ k => XS.ifNo X13.here hx rfl (hb hby d3_77) rfl (gt_y hd77_14) k) ?_
      show Go _ _ _ _ _ _ _ T13 (mkF m 80 #[.val (.ref q), .val (.double (T lam)), .second, .val (.int (Lp lam)), .val (.int (1 : Int32)), .val (.int (1 : Int32))] [])
      refine Go.step (fun _ k => XS.iload X13.here hx rfl (hb hby d3_80) rfl k) ?_
      show Go _ _ _ _ _ _ _ T13 (mkF m 82 #[.val (.ref q), .val (.double (T lam)), .second, .val (.int (Lp lam)), .val (.int (1 : Int32)), .val (.int (1 : Int32))] [(.int (1 : Int32))])
      refine Go.step (fun _ k => XS.iconst X13.here hx rfl (hb hby d3_82) k) ?_
      show Go _ _ _ _ _ _ _ T13 (mkF m 83 #[.val (.ref q), .val (.double (T lam)), .second, .val (.int (Lp lam)), .val (.int (1 : Int32)), .val (.int (1 : Int32))] [(.int (1 : Int32)), (.int (1 : Int32))])
      refine Go.step (fun _ k => XS.isub X13.here hx rfl (hb hby d3_83) rfl k) ?_
      show Go _ _ _ _ _ _ _ T13 (mkF m 84 #[.val (.ref q), .val (.double (T lam)), .second, .val (.int (Lp lam)), .val (.int (1 : Int32)), .val (.int (1 : Int32))] [(.int (0 : Int32))])
      refine Go.step (fun _ k => XS.iconst X13.here hx rfl (hb hby d3_84) k) ?_
      show Go _ _ _ _ _ _ _ T13 (mkF m 85 #[.val (.ref q), .val (.double (T lam)), .second, .val (.int (Lp lam)), .val (.int (1 : Int32)), .val (.int (1 : Int32))] [(.int (2 : Int32)), (.int (0 : Int32))])
      refine Go.step (fun _ k => XS.idiv X13.here hx rfl (hb hby d3_85) rfl (by decide) k) ?_
      show Go _ _ _ _ _ _ _ T13 (mkF m 86 #[.val (.ref q), .val (.double (T lam)), .second, .val (.int (Lp lam)), .val (.int (1 : Int32)), .val (.int (1 : Int32))] [(.int (0 : Int32))])
      refine Go.step (fun _ k => XS.istore X13.here hx rfl (hb hby d3_86) rfl (l' := #[.val (.ref q), .val (.double (T lam)), .second, .val (.int (Lp lam)), .val (.int (1 : Int32)), .val (.int (0 : Int32))]) rfl k) ?_
      show Go _ _ _ _ _ _ _ T13 (mkF m 88 #[.val (.ref q), .val (.double (T lam)), .second, .val (.int (Lp lam)), .val (.int (1 : Int32)), .val (.int (0 : Int32))] [])
      refine Go.step (fun _ k => XS.aloadN X13.here hx rfl (hb hby d3_88) rfl rfl k) ?_
      show Go _ _ _ _ _ _ _ T13 (mkF m 89 #[.val (.ref q), .val (.double (T lam)), .second, .val (.int (Lp lam)), .val (.int (1 : Int32)), .val (.int (0 : Int32))] [(.ref q)])
      obtain ⟨T15, X15, e15, st15⟩ := getF X13 hx hZ hown (host := "") (Or.inl (hw _ (List.mem_of_getElem? (i := 11) rfl))) Via.refl e13 F_times_q_12 (g := (mkF m 89 #[.val (.ref q), .val (.double (T lam)), .second, .val (.int (Lp lam)), .val (.int (1 : Int32)), .val (.int (0 : Int32))] [(.ref q)])) rfl rfl (hb hby d3_89)
      refine Go.step st15 ?_
      show Go _ _ _ _ _ _ _ T15 (mkF m 92 #[.val (.ref q), .val (.double (T lam)), .second, .val (.int (Lp lam)), .val (.int (1 : Int32)), .val (.int (0 : Int32))] [(.ref u)])
      refine Go.step (fun _ k => XS.iload X15.here hx rfl (hb hby d3_92) rfl k) ?_
      show Go _ _ _ _ _ _ _ T15 (mkF m 94 #[.val (.ref q), .val (.double (T lam)), .second, .val (.int (Lp lam)), .val (.int (1 : Int32)), .val (.int (0 : Int32))] [(.int (1 : Int32)), (.ref u)])
      refine Go.step (fun _ k => XS.aloadN X15.here hx rfl (hb hby d3_94) rfl rfl k) ?_
      show Go _ _ _ _ _ _ _ T15 (mkF m 95 #[.val (.ref q), .val (.double (T lam)), .second, .val (.int (Lp lam)), .val (.int (1 : Int32)), .val (.int (0 : Int32))] [(.ref q), (.int (1 : Int32)), (.ref u)])
      obtain ⟨T16, X16, e16, st16⟩ := getF X15 hx hZ hown (host := "") (Or.inl (hw _ (List.mem_of_getElem? (i := 11) rfl))) Via.refl e15 F_times_q_12 (g := (mkF m 95 #[.val (.ref q), .val (.double (T lam)), .second, .val (.int (Lp lam)), .val (.int (1 : Int32)), .val (.int (0 : Int32))] [(.ref q), (.int (1 : Int32)), (.ref u)])) rfl rfl (hb hby d3_95)
      refine Go.step st16 ?_
      show Go _ _ _ _ _ _ _ T16 (mkF m 98 #[.val (.ref q), .val (.double (T lam)), .second, .val (.int (Lp lam)), .val (.int (1 : Int32)), .val (.int (0 : Int32))] [(.ref u), (.int (1 : Int32)), (.ref u)])
      refine Go.step (fun _ k => XS.iload X16.here hx rfl (hb hby d3_98) rfl k) ?_
      show Go _ _ _ _ _ _ _ T16 (mkF m 100 #[.val (.ref q), .val (.double (T lam)), .second, .val (.int (Lp lam)), .val (.int (1 : Int32)), .val (.int (0 : Int32))] [(.int (0 : Int32)), (.ref u), (.int (1 : Int32)), (.ref u)])
      refine Go.daload X16 hx hZ e16 V_u_12 (j := (0 : Int32)) (v := (T (a 0))) (by decide) (by first | rfl | simp [updN, hg0, hg1, hg2, hl0, hl1, hl2]) (hb hby d3_100) ?_
      show Go _ _ _ _ _ _ _ T16 (mkF m 101 #[.val (.ref q), .val (.double (T lam)), .second, .val (.int (Lp lam)), .val (.int (1 : Int32)), .val (.int (0 : Int32))] [(.double (T (a 0))), (.int (1 : Int32)), (.ref u)])
      refine Go.dastore X16 hx hZ e16 V_u_12 (j := (1 : Int32)) (x := (T (a 0))) (by decide) (hb hby d3_101) ?_
      intro T17 h17 X17 e17 W17 Vn17
      have V_u_17 : Dv Z h17 u (64 : Int32) (updN (updN g 3 (T (a 1))) 1 (T (a 0))) := Vn17
      have N17 := Fr.snoc X17 N12 ge_u
      have E_q_17 := E_q_12.wr W17
      have F_size_q_17 := F_size_q_12.other W17 (Or.inl ne_q_u)
      have F_times_q_17 := F_times_q_12.other W17 (Or.inl ne_q_u)
      have F_lightpaths_q_17 := F_lightpaths_q_12.other W17 (Or.inl ne_q_u)
      have V_v_17 := V_v_12.other W17 (Ne.symm ne_u_v)
      have K17 : Keep h0 h17 [q, u, v] := K12.wr W17 (Or.inl (List.mem_of_getElem? (i := 1) rfl))
      show Go _ _ _ _ _ _ _ T17 (mkF m 102 #[.val (.ref q), .val (.double (T lam)), .second, .val (.int (Lp lam)), .val (.int (1 : Int32)), .val (.int (0 : Int32))] [])
      refine Go.step (fun _ k => XS.aloadN X17.here hx rfl (hb hby d3_102) rfl rfl k) ?_
      show Go _ _ _ _ _ _ _ T17 (mkF m 103 #[.val (.ref q), .val (.double (T lam)), .second, .val (.int (Lp lam)), .val (.int (1 : Int32)), .val (.int (0 : Int32))] [(.ref q)])
      obtain ⟨T18, X18, e18, st18⟩ := getF X17 hx hZ hown (host := "") (Or.inl (hw _ (List.mem_of_getElem? (i := 13) rfl))) Via.refl e17 F_lightpaths_q_17 (g := (mkF m 103 #[.val (.ref q), .val (.double (T lam)), .second, .val (.int (Lp lam)), .val (.int (1 : Int32)), .val (.int (0 : Int32))] [(.ref q)])) rfl rfl (hb hby d3_103)
      refine Go.step st18 ?_
      show Go _ _ _ _ _ _ _ T18 (mkF m 106 #[.val (.ref q), .val (.double (T lam)), .second, .val (.int (Lp lam)), .val (.int (1 : Int32)), .val (.int (0 : Int32))] [(.ref v)])
      refine Go.step (fun _ k => XS.iload X18.here hx rfl (hb hby d3_106) rfl k) ?_
      show Go _ _ _ _ _ _ _ T18 (mkF m 108 #[.val (.ref q), .val (.double (T lam)), .second, .val (.int (Lp lam)), .val (.int (1 : Int32)), .val (.int (0 : Int32))] [(.int (1 : Int32)), (.ref v)])
      refine Go.step (fun _ k => XS.aloadN X18.here hx rfl (hb hby d3_108) rfl rfl k) ?_
      show Go _ _ _ _ _ _ _ T18 (mkF m 109 #[.val (.ref q), .val (.double (T lam)), .second, .val (.int (Lp lam)), .val (.int (1 : Int32)), .val (.int (0 : Int32))] [(.ref q), (.int (1 : Int32)), (.ref v)])
      obtain ⟨T19, X19, e19, st19⟩ := getF X18 hx hZ hown (host := "") (Or.inl (hw _ (List.mem_of_getElem? (i := 13) rfl))) Via.refl e18 F_lightpaths_q_17 (g := (mkF m 109 #[.val (.ref q), .val (.double (T lam)), .second, .val (.int (Lp lam)), .val (.int (1 : Int32)), .val (.int (0 : Int32))] [(.ref q), (.int (1 : Int32)), (.ref v)])) rfl rfl (hb hby d3_109)
      refine Go.step st19 ?_
      show Go _ _ _ _ _ _ _ T19 (mkF m 112 #[.val (.ref q), .val (.double (T lam)), .second, .val (.int (Lp lam)), .val (.int (1 : Int32)), .val (.int (0 : Int32))] [(.ref v), (.int (1 : Int32)), (.ref v)])
      refine Go.step (fun _ k => XS.iload X19.here hx rfl (hb hby d3_112) rfl k) ?_
      show Go _ _ _ _ _ _ _ T19 (mkF m 114 #[.val (.ref q), .val (.double (T lam)), .second, .val (.int (Lp lam)), .val (.int (1 : Int32)), .val (.int (0 : Int32))] [(.int (0 : Int32)), (.ref v), (.int (1 : Int32)), (.ref v)])
      refine Go.iaload X19 hx hZ e19 V_v_17 (j := (0 : Int32)) (v := (Lp (a 0))) (by decide) (by first | rfl | simp [updN, hg0, hg1, hg2, hl0, hl1, hl2]) (hb hby d3_114) ?_
      show Go _ _ _ _ _ _ _ T19 (mkF m 115 #[.val (.ref q), .val (.double (T lam)), .second, .val (.int (Lp lam)), .val (.int (1 : Int32)), .val (.int (0 : Int32))] [(.int (Lp (a 0))), (.int (1 : Int32)), (.ref v)])
      refine Go.iastore X19 hx hZ e19 V_v_17 (j := (1 : Int32)) (x := (Lp (a 0))) (by decide) (hb hby d3_115) ?_
      intro T20 h20 X20 e20 W20 Vn20
      have V_v_20 : Iv Z h20 v (64 : Int32) (updN (updN l' 3 (Lp (a 1))) 1 (Lp (a 0))) := Vn20
      have N20 := Fr.snoc X20 N17 ge_v
      have E_q_20 := E_q_17.wr W20
      have F_size_q_20 := F_size_q_17.other W20 (Or.inl ne_q_v)
      have F_times_q_20 := F_times_q_17.other W20 (Or.inl ne_q_v)
      have F_lightpaths_q_20 := F_lightpaths_q_17.other W20 (Or.inl ne_q_v)
      have V_u_20 := V_u_17.other W20 ne_u_v
      have K20 : Keep h0 h20 [q, u, v] := K17.wr W20 (Or.inl (List.mem_of_getElem? (i := 2) rfl))
      show Go _ _ _ _ _ _ _ T20 (mkF m 116 #[.val (.ref q), .val (.double (T lam)), .second, .val (.int (Lp lam)), .val (.int (1 : Int32)), .val (.int (0 : Int32))] [])
      refine Go.step (fun _ k => XS.iload X20.here hx rfl (hb hby d3_116) rfl k) ?_
      show Go _ _ _ _ _ _ _ T20 (mkF m 118 #[.val (.ref q), .val (.double (T lam)), .second, .val (.int (Lp lam)), .val (.int (1 : Int32)), .val (.int (0 : Int32))] [(.int (0 : Int32))])
      refine Go.step (fun _ k => XS.istore X20.here hx rfl (hb hby d3_118) rfl (l' := #[.val (.ref q), .val (.double (T lam)), .second, .val (.int (Lp lam)), .val (.int (0 : Int32)), .val (.int (0 : Int32))]) rfl k) ?_
      show Go _ _ _ _ _ _ _ T20 (mkF m 120 #[.val (.ref q), .val (.double (T lam)), .second, .val (.int (Lp lam)), .val (.int (0 : Int32)), .val (.int (0 : Int32))] [])
      refine Go.step (fun _ k => XS.goto X20.here hx rfl (pc0 := 120) (pc' := 59) rfl (hb hby d3_120) (by decide) (by decide) k) ?_
      show Go _ _ _ _ _ _ _ T20 (mkF m 59 #[.val (.ref q), .val (.double (T lam)), .second, .val (.int (Lp lam)), .val (.int (0 : Int32)), .val (.int (0 : Int32))] [])
      refine Go.step (fun _ k => XS.iload X20.here hx rfl (hb hby d3_59) rfl k) ?_
      show Go _ _ _ _ _ _ _ T20 (mkF m 61 #[.val (.ref q), .val (.double (T lam)), .second, .val (.int (Lp lam)), .val (.int (0 : Int32)), .val (.int (0 : Int32))] [(.int (0 : Int32))])
      refine Go.step (fun _ k => XS.ifYes X20.here hx rfl (pc0 := 61) (pc' := 123) rfl (hb hby d3_61) rfl ((if0 _ _).trans (flt (by decide : ¬ ((0 : Int32) < (0 : Int32)))).2.2.2) (by decide) (by decide) k) ?_
      show Go _ _ _ _ _ _ _ T20 (mkF m 123 #[.val (.ref q), .val (.double (T lam)), .second, .val (.int (Lp lam)), .val (.int (0 : Int32)), .val (.int (0 : Int32))] [])
      refine Go.step (fun _ k => XS.aloadN X20.here hx rfl (hb hby d3_123) rfl rfl k) ?_
      show Go _ _ _ _ _ _ _ T20 (mkF m 124 #[.val (.ref q), .val (.double (T lam)), .second, .val (.int (Lp lam)), .val (.int (0 : Int32)), .val (.int (0 : Int32))] [(.ref q)])
      obtain ⟨T21, X21, e21, st21⟩ := getF X20 hx hZ hown (host := "") (Or.inl (hw _ (List.mem_of_getElem? (i := 11) rfl))) Via.refl e20 F_times_q_20 (g := (mkF m 124 #[.val (.ref q), .val (.double (T lam)), .second, .val (.int (Lp lam)), .val (.int (0 : Int32)), .val (.int (0 : Int32))] [(.ref q)])) rfl rfl (hb hby d3_124)
      refine Go.step st21 ?_
      show Go _ _ _ _ _ _ _ T21 (mkF m 127 #[.val (.ref q), .val (.double (T lam)), .second, .val (.int (Lp lam)), .val (.int (0 : Int32)), .val (.int (0 : Int32))] [(.ref u)])
      refine Go.step (fun _ k => XS.iload X21.here hx rfl (hb hby d3_127) rfl k) ?_
      show Go _ _ _ _ _ _ _ T21 (mkF m 129 #[.val (.ref q), .val (.double (T lam)), .second, .val (.int (Lp lam)), .val (.int (0 : Int32)), .val (.int (0 : Int32))] [(.int (0 : Int32)), (.ref u)])
      refine Go.step (fun _ k => XS.dloadN X21.here hx rfl (hb hby d3_129) rfl k) ?_
      show Go _ _ _ _ _ _ _ T21 (mkF m 130 #[.val (.ref q), .val (.double (T lam)), .second, .val (.int (Lp lam)), .val (.int (0 : Int32)), .val (.int (0 : Int32))] [(.double (T lam)), (.int (0 : Int32)), (.ref u)])
      refine Go.dastore X21 hx hZ e21 V_u_20 (j := (0 : Int32)) (x := (T lam)) (by decide) (hb hby d3_130) ?_
      intro T22 h22 X22 e22 W22 Vn22
      have V_u_22 : Dv Z h22 u (64 : Int32) (updN (updN (updN g 3 (T (a 1))) 1 (T (a 0))) 0 (T lam)) := Vn22
      have N22 := Fr.snoc X22 N20 ge_u
      have E_q_22 := E_q_20.wr W22
      have F_size_q_22 := F_size_q_20.other W22 (Or.inl ne_q_u)
      have F_times_q_22 := F_times_q_20.other W22 (Or.inl ne_q_u)
      have F_lightpaths_q_22 := F_lightpaths_q_20.other W22 (Or.inl ne_q_u)
      have V_v_22 := V_v_20.other W22 (Ne.symm ne_u_v)
      have K22 : Keep h0 h22 [q, u, v] := K20.wr W22 (Or.inl (List.mem_of_getElem? (i := 1) rfl))
      show Go _ _ _ _ _ _ _ T22 (mkF m 131 #[.val (.ref q), .val (.double (T lam)), .second, .val (.int (Lp lam)), .val (.int (0 : Int32)), .val (.int (0 : Int32))] [])
      refine Go.step (fun _ k => XS.aloadN X22.here hx rfl (hb hby d3_131) rfl rfl k) ?_
      show Go _ _ _ _ _ _ _ T22 (mkF m 132 #[.val (.ref q), .val (.double (T lam)), .second, .val (.int (Lp lam)), .val (.int (0 : Int32)), .val (.int (0 : Int32))] [(.ref q)])
      obtain ⟨T23, X23, e23, st23⟩ := getF X22 hx hZ hown (host := "") (Or.inl (hw _ (List.mem_of_getElem? (i := 13) rfl))) Via.refl e22 F_lightpaths_q_22 (g := (mkF m 132 #[.val (.ref q), .val (.double (T lam)), .second, .val (.int (Lp lam)), .val (.int (0 : Int32)), .val (.int (0 : Int32))] [(.ref q)])) rfl rfl (hb hby d3_132)
      refine Go.step st23 ?_
      show Go _ _ _ _ _ _ _ T23 (mkF m 135 #[.val (.ref q), .val (.double (T lam)), .second, .val (.int (Lp lam)), .val (.int (0 : Int32)), .val (.int (0 : Int32))] [(.ref v)])
      refine Go.step (fun _ k => XS.iload X23.here hx rfl (hb hby d3_135) rfl k) ?_
      show Go _ _ _ _ _ _ _ T23 (mkF m 137 #[.val (.ref q), .val (.double (T lam)), .second, .val (.int (Lp lam)), .val (.int (0 : Int32)), .val (.int (0 : Int32))] [(.int (0 : Int32)), (.ref v)])
      refine Go.step (fun _ k => XS.iloadN X23.here hx rfl (hb hby d3_137) rfl k) ?_
      show Go _ _ _ _ _ _ _ T23 (mkF m 138 #[.val (.ref q), .val (.double (T lam)), .second, .val (.int (Lp lam)), .val (.int (0 : Int32)), .val (.int (0 : Int32))] [(.int (Lp lam)), (.int (0 : Int32)), (.ref v)])
      refine Go.iastore X23 hx hZ e23 V_v_22 (j := (0 : Int32)) (x := (Lp lam)) (by decide) (hb hby d3_138) ?_
      intro T24 h24 X24 e24 W24 Vn24
      have V_v_24 : Iv Z h24 v (64 : Int32) (updN (updN (updN l' 3 (Lp (a 1))) 1 (Lp (a 0))) 0 (Lp lam)) := Vn24
      have N24 := Fr.snoc X24 N22 ge_v
      have E_q_24 := E_q_22.wr W24
      have F_size_q_24 := F_size_q_22.other W24 (Or.inl ne_q_v)
      have F_times_q_24 := F_times_q_22.other W24 (Or.inl ne_q_v)
      have F_lightpaths_q_24 := F_lightpaths_q_22.other W24 (Or.inl ne_q_v)
      have V_u_24 := V_u_22.other W24 ne_u_v
      have K24 : Keep h0 h24 [q, u, v] := K22.wr W24 (Or.inl (List.mem_of_getElem? (i := 2) rfl))
      show Go _ _ _ _ _ _ _ T24 (mkF m 139 #[.val (.ref q), .val (.double (T lam)), .second, .val (.int (Lp lam)), .val (.int (0 : Int32)), .val (.int (0 : Int32))] [])
      refine Go.retV X24 hx hlk hret (hb hby d3_139) (by decide) (by decide) ?_
      try rw [e24]
      have := own_gtK hT hd77_6
      have := own_gtK hT hd77_14
      refine ⟨rfl, N24, K24, E_q_24, F_size_q_24, F_times_q_24, F_lightpaths_q_24, _, _, (updN (updN (updN a 3 (a 1)) 1 (a 0)) 0 lam), V_u_24, V_v_24, fun i hi' => by rcases (by omega : i = 0 ∨ i = 1 ∨ i = 2 ∨ i = 3) with rfl | rfl | rfl | rfl <;> first | rfl | simp [updN, hg0, hg1, hg2, hl0, hl1, hl2], fun i hi' => by rcases (by omega : i = 0 ∨ i = 1 ∨ i = 2 ∨ i = 3) with rfl | rfl | rfl | rfl <;> first | rfl | simp [updN, hg0, hg1, hg2, hl0, hl1, hl2], ?_, ?_, fun P hP hP' => ?_⟩
      · simp only [HI, updN]; try simp; try omega
      · intro w; simp [sumA, updN]; try omega
      · intro i hi'; rcases (by omega : i = 0 ∨ i = 1 ∨ i = 2 ∨ i = 3) with rfl | rfl | rfl | rfl <;> simp [updN] <;> first | exact hP' | exact hP _ (by decide)
    · refine Go.step (fun _ k => XS.ifYes X13.here hx rfl (pc0 := 77) (pc' := 123) rfl (hb hby d3_77) rfl (gt_n hd77_14) (by decide) (by decide) k) ?_
      show Go _ _ _ _ _ _ _ T13 (mkF m 123 #[.val (.ref q), .val (.double (T lam)), .second, .val (.int (Lp lam)), .val (.int (1 : Int32)), .val (.int (1 : Int32))] [])
      refine Go.step (fun _ k => XS.aloadN X13.here hx rfl (hb hby d3_123) rfl rfl k) ?_
      show Go _ _ _ _ _ _ _ T13 (mkF m 124 #[.val (.ref q), .val (.double (T lam)), .second, .val (.int (Lp lam)), .val (.int (1 : Int32)), .val (.int (1 : Int32))] [(.ref q)])
      obtain ⟨T25, X25, e25, st25⟩ := getF X13 hx hZ hown (host := "") (Or.inl (hw _ (List.mem_of_getElem? (i := 11) rfl))) Via.refl e13 F_times_q_12 (g := (mkF m 124 #[.val (.ref q), .val (.double (T lam)), .second, .val (.int (Lp lam)), .val (.int (1 : Int32)), .val (.int (1 : Int32))] [(.ref q)])) rfl rfl (hb hby d3_124)
      refine Go.step st25 ?_
      show Go _ _ _ _ _ _ _ T25 (mkF m 127 #[.val (.ref q), .val (.double (T lam)), .second, .val (.int (Lp lam)), .val (.int (1 : Int32)), .val (.int (1 : Int32))] [(.ref u)])
      refine Go.step (fun _ k => XS.iload X25.here hx rfl (hb hby d3_127) rfl k) ?_
      show Go _ _ _ _ _ _ _ T25 (mkF m 129 #[.val (.ref q), .val (.double (T lam)), .second, .val (.int (Lp lam)), .val (.int (1 : Int32)), .val (.int (1 : Int32))] [(.int (1 : Int32)), (.ref u)])
      refine Go.step (fun _ k => XS.dloadN X25.here hx rfl (hb hby d3_129) rfl k) ?_
      show Go _ _ _ _ _ _ _ T25 (mkF m 130 #[.val (.ref q), .val (.double (T lam)), .second, .val (.int (Lp lam)), .val (.int (1 : Int32)), .val (.int (1 : Int32))] [(.double (T lam)), (.int (1 : Int32)), (.ref u)])
      refine Go.dastore X25 hx hZ e25 V_u_12 (j := (1 : Int32)) (x := (T lam)) (by decide) (hb hby d3_130) ?_
      intro T26 h26 X26 e26 W26 Vn26
      have V_u_26 : Dv Z h26 u (64 : Int32) (updN (updN g 3 (T (a 1))) 1 (T lam)) := Vn26
      have N26 := Fr.snoc X26 N12 ge_u
      have E_q_26 := E_q_12.wr W26
      have F_size_q_26 := F_size_q_12.other W26 (Or.inl ne_q_u)
      have F_times_q_26 := F_times_q_12.other W26 (Or.inl ne_q_u)
      have F_lightpaths_q_26 := F_lightpaths_q_12.other W26 (Or.inl ne_q_u)
      have V_v_26 := V_v_12.other W26 (Ne.symm ne_u_v)
      have K26 : Keep h0 h26 [q, u, v] := K12.wr W26 (Or.inl (List.mem_of_getElem? (i := 1) rfl))
      show Go _ _ _ _ _ _ _ T26 (mkF m 131 #[.val (.ref q), .val (.double (T lam)), .second, .val (.int (Lp lam)), .val (.int (1 : Int32)), .val (.int (1 : Int32))] [])
      refine Go.step (fun _ k => XS.aloadN X26.here hx rfl (hb hby d3_131) rfl rfl k) ?_
      show Go _ _ _ _ _ _ _ T26 (mkF m 132 #[.val (.ref q), .val (.double (T lam)), .second, .val (.int (Lp lam)), .val (.int (1 : Int32)), .val (.int (1 : Int32))] [(.ref q)])
      obtain ⟨T27, X27, e27, st27⟩ := getF X26 hx hZ hown (host := "") (Or.inl (hw _ (List.mem_of_getElem? (i := 13) rfl))) Via.refl e26 F_lightpaths_q_26 (g := (mkF m 132 #[.val (.ref q), .val (.double (T lam)), .second, .val (.int (Lp lam)), .val (.int (1 : Int32)), .val (.int (1 : Int32))] [(.ref q)])) rfl rfl (hb hby d3_132)
      refine Go.step st27 ?_
      show Go _ _ _ _ _ _ _ T27 (mkF m 135 #[.val (.ref q), .val (.double (T lam)), .second, .val (.int (Lp lam)), .val (.int (1 : Int32)), .val (.int (1 : Int32))] [(.ref v)])
      refine Go.step (fun _ k => XS.iload X27.here hx rfl (hb hby d3_135) rfl k) ?_
      show Go _ _ _ _ _ _ _ T27 (mkF m 137 #[.val (.ref q), .val (.double (T lam)), .second, .val (.int (Lp lam)), .val (.int (1 : Int32)), .val (.int (1 : Int32))] [(.int (1 : Int32)), (.ref v)])
      refine Go.step (fun _ k => XS.iloadN X27.here hx rfl (hb hby d3_137) rfl k) ?_
      show Go _ _ _ _ _ _ _ T27 (mkF m 138 #[.val (.ref q), .val (.double (T lam)), .second, .val (.int (Lp lam)), .val (.int (1 : Int32)), .val (.int (1 : Int32))] [(.int (Lp lam)), (.int (1 : Int32)), (.ref v)])
      refine Go.iastore X27 hx hZ e27 V_v_26 (j := (1 : Int32)) (x := (Lp lam)) (by decide) (hb hby d3_138) ?_
      intro T28 h28 X28 e28 W28 Vn28
      have V_v_28 : Iv Z h28 v (64 : Int32) (updN (updN l' 3 (Lp (a 1))) 1 (Lp lam)) := Vn28
      have N28 := Fr.snoc X28 N26 ge_v
      have E_q_28 := E_q_26.wr W28
      have F_size_q_28 := F_size_q_26.other W28 (Or.inl ne_q_v)
      have F_times_q_28 := F_times_q_26.other W28 (Or.inl ne_q_v)
      have F_lightpaths_q_28 := F_lightpaths_q_26.other W28 (Or.inl ne_q_v)
      have V_u_28 := V_u_26.other W28 ne_u_v
      have K28 : Keep h0 h28 [q, u, v] := K26.wr W28 (Or.inl (List.mem_of_getElem? (i := 2) rfl))
      show Go _ _ _ _ _ _ _ T28 (mkF m 139 #[.val (.ref q), .val (.double (T lam)), .second, .val (.int (Lp lam)), .val (.int (1 : Int32)), .val (.int (1 : Int32))] [])
      refine Go.retV X28 hx hlk hret (hb hby d3_139) (by decide) (by decide) ?_
      try rw [e28]
      have := own_gtK hT hd77_6
      have := own_ngtK hT hd77_14
      refine ⟨rfl, N28, K28, E_q_28, F_size_q_28, F_times_q_28, F_lightpaths_q_28, _, _, (updN (updN a 3 (a 1)) 1 lam), V_u_28, V_v_28, fun i hi' => by rcases (by omega : i = 0 ∨ i = 1 ∨ i = 2 ∨ i = 3) with rfl | rfl | rfl | rfl <;> first | rfl | simp [updN, hg0, hg1, hg2, hl0, hl1, hl2], fun i hi' => by rcases (by omega : i = 0 ∨ i = 1 ∨ i = 2 ∨ i = 3) with rfl | rfl | rfl | rfl <;> first | rfl | simp [updN, hg0, hg1, hg2, hl0, hl1, hl2], ?_, ?_, fun P hP hP' => ?_⟩
      · simp only [HI, updN]; try simp; try omega
      · intro w; simp [sumA, updN]; try omega
      · intro i hi'; rcases (by omega : i = 0 ∨ i = 1 ∨ i = 2 ∨ i = 3) with rfl | rfl | rfl | rfl <;> simp [updN] <;> first | exact hP' | exact hP _ (by decide)
  · refine Go.step (fun _ k => XS.ifYes X5.here hx rfl (pc0 := 77) (pc' := 123) rfl (hb hby d3_77) rfl (gt_n hd77_6) (by decide) (by decide) k) ?_
    show Go _ _ _ _ _ _ _ T5 (mkF m 123 #[.val (.ref q), .val (.double (T lam)), .second, .val (.int (Lp lam)), .val (.int (3 : Int32)), .unset] [])
    refine Go.step (fun _ k => XS.aloadN X5.here hx rfl (hb hby d3_123) rfl rfl k) ?_
    show Go _ _ _ _ _ _ _ T5 (mkF m 124 #[.val (.ref q), .val (.double (T lam)), .second, .val (.int (Lp lam)), .val (.int (3 : Int32)), .unset] [(.ref q)])
    obtain ⟨T29, X29, e29, st29⟩ := getF X5 hx hZ hown (host := "") (Or.inl (hw _ (List.mem_of_getElem? (i := 11) rfl))) Via.refl e5 F_times_q_4 (g := (mkF m 124 #[.val (.ref q), .val (.double (T lam)), .second, .val (.int (Lp lam)), .val (.int (3 : Int32)), .unset] [(.ref q)])) rfl rfl (hb hby d3_124)
    refine Go.step st29 ?_
    show Go _ _ _ _ _ _ _ T29 (mkF m 127 #[.val (.ref q), .val (.double (T lam)), .second, .val (.int (Lp lam)), .val (.int (3 : Int32)), .unset] [(.ref u)])
    refine Go.step (fun _ k => XS.iload X29.here hx rfl (hb hby d3_127) rfl k) ?_
    show Go _ _ _ _ _ _ _ T29 (mkF m 129 #[.val (.ref q), .val (.double (T lam)), .second, .val (.int (Lp lam)), .val (.int (3 : Int32)), .unset] [(.int (3 : Int32)), (.ref u)])
    refine Go.step (fun _ k => XS.dloadN X29.here hx rfl (hb hby d3_129) rfl k) ?_
    show Go _ _ _ _ _ _ _ T29 (mkF m 130 #[.val (.ref q), .val (.double (T lam)), .second, .val (.int (Lp lam)), .val (.int (3 : Int32)), .unset] [(.double (T lam)), (.int (3 : Int32)), (.ref u)])
    refine Go.dastore X29 hx hZ e29 V_u_4 (j := (3 : Int32)) (x := (T lam)) (by decide) (hb hby d3_130) ?_
    intro T30 h30 X30 e30 W30 Vn30
    have V_u_30 : Dv Z h30 u (64 : Int32) (updN g 3 (T lam)) := Vn30
    have N30 := Fr.snoc X30 N4 ge_u
    have E_q_30 := E_q_4.wr W30
    have F_size_q_30 := F_size_q_4.other W30 (Or.inl ne_q_u)
    have F_times_q_30 := F_times_q_4.other W30 (Or.inl ne_q_u)
    have F_lightpaths_q_30 := F_lightpaths_q_4.other W30 (Or.inl ne_q_u)
    have V_v_30 := V_v_4.other W30 (Ne.symm ne_u_v)
    have K30 : Keep h0 h30 [q, u, v] := K4.wr W30 (Or.inl (List.mem_of_getElem? (i := 1) rfl))
    show Go _ _ _ _ _ _ _ T30 (mkF m 131 #[.val (.ref q), .val (.double (T lam)), .second, .val (.int (Lp lam)), .val (.int (3 : Int32)), .unset] [])
    refine Go.step (fun _ k => XS.aloadN X30.here hx rfl (hb hby d3_131) rfl rfl k) ?_
    show Go _ _ _ _ _ _ _ T30 (mkF m 132 #[.val (.ref q), .val (.double (T lam)), .second, .val (.int (Lp lam)), .val (.int (3 : Int32)), .unset] [(.ref q)])
    obtain ⟨T31, X31, e31, st31⟩ := getF X30 hx hZ hown (host := "") (Or.inl (hw _ (List.mem_of_getElem? (i := 13) rfl))) Via.refl e30 F_lightpaths_q_30 (g := (mkF m 132 #[.val (.ref q), .val (.double (T lam)), .second, .val (.int (Lp lam)), .val (.int (3 : Int32)), .unset] [(.ref q)])) rfl rfl (hb hby d3_132)
    refine Go.step st31 ?_
    show Go _ _ _ _ _ _ _ T31 (mkF m 135 #[.val (.ref q), .val (.double (T lam)), .second, .val (.int (Lp lam)), .val (.int (3 : Int32)), .unset] [(.ref v)])
    refine Go.step (fun _ k => XS.iload X31.here hx rfl (hb hby d3_135) rfl k) ?_
    show Go _ _ _ _ _ _ _ T31 (mkF m 137 #[.val (.ref q), .val (.double (T lam)), .second, .val (.int (Lp lam)), .val (.int (3 : Int32)), .unset] [(.int (3 : Int32)), (.ref v)])
    refine Go.step (fun _ k => XS.iloadN X31.here hx rfl (hb hby d3_137) rfl k) ?_
    show Go _ _ _ _ _ _ _ T31 (mkF m 138 #[.val (.ref q), .val (.double (T lam)), .second, .val (.int (Lp lam)), .val (.int (3 : Int32)), .unset] [(.int (Lp lam)), (.int (3 : Int32)), (.ref v)])
    refine Go.iastore X31 hx hZ e31 V_v_30 (j := (3 : Int32)) (x := (Lp lam)) (by decide) (hb hby d3_138) ?_
    intro T32 h32 X32 e32 W32 Vn32
    have V_v_32 : Iv Z h32 v (64 : Int32) (updN l' 3 (Lp lam)) := Vn32
    have N32 := Fr.snoc X32 N30 ge_v
    have E_q_32 := E_q_30.wr W32
    have F_size_q_32 := F_size_q_30.other W32 (Or.inl ne_q_v)
    have F_times_q_32 := F_times_q_30.other W32 (Or.inl ne_q_v)
    have F_lightpaths_q_32 := F_lightpaths_q_30.other W32 (Or.inl ne_q_v)
    have V_u_32 := V_u_30.other W32 ne_u_v
    have K32 : Keep h0 h32 [q, u, v] := K30.wr W32 (Or.inl (List.mem_of_getElem? (i := 2) rfl))
    show Go _ _ _ _ _ _ _ T32 (mkF m 139 #[.val (.ref q), .val (.double (T lam)), .second, .val (.int (Lp lam)), .val (.int (3 : Int32)), .unset] [])
    refine Go.retV X32 hx hlk hret (hb hby d3_139) (by decide) (by decide) ?_
    try rw [e32]
    have := own_ngtK hT hd77_6
    refine ⟨rfl, N32, K32, E_q_32, F_size_q_32, F_times_q_32, F_lightpaths_q_32, _, _, (updN a 3 lam), V_u_32, V_v_32, fun i hi' => by rcases (by omega : i = 0 ∨ i = 1 ∨ i = 2 ∨ i = 3) with rfl | rfl | rfl | rfl <;> first | rfl | simp [updN, hg0, hg1, hg2, hl0, hl1, hl2], fun i hi' => by rcases (by omega : i = 0 ∨ i = 1 ∨ i = 2 ∨ i = 3) with rfl | rfl | rfl | rfl <;> first | rfl | simp [updN, hg0, hg1, hg2, hl0, hl1, hl2], ?_, ?_, fun P hP hP' => ?_⟩
    · simp only [HI, updN]; try simp; try omega
    · intro w; simp [sumA, updN]; try omega
    · intro i hi'; rcases (by omega : i = 0 ∨ i = 1 ∨ i = 2 ∨ i = 3) with rfl | rfl | rfl | rfl <;> simp [updN] <;> first | exact hP' | exact hP _ (by decide)
theorem ef_rm_add3 (m : MethodId) (q : Addr) (T : Nat → UInt64) (Lp : Nat → Int32) (lam : Nat) : entryFrame m #[(.ref q), (.double (T lam)), (.int (Lp lam))] 6 = mkF m 0 #[.val (.ref q), .val (.double (T lam)), .second, .val (.int (Lp lam)), .unset, .unset] [] := by first | (simp [entryFrame, mkF, argsToLocals, Value.category]; done) | rfl
theorem rm_add3 (l : Launch) (Z : State) (a0 : Array Value) (hw : ∀ d ∈ tables_1, d.before a0 Z = true) (q u v : Addr) (g : Nat → UInt64) (l' : Nat → Int32) (T : Nat → UInt64) (Lp : Nat → Int32) (K : Nat → Int) (a : Nat → Nat) (lam : Nat) (h0 : Heap) (n0 : Nat) (Z0 : n0 ≤ h0.size) (E_q : Exa Z h0 q "com/example/wavegrade/wavegrade/DepartureQueue") (F_size_q : Fld Z h0 q "com/example/wavegrade/wavegrade/DepartureQueue" "size" "I" (.int (3 : Int32))) (F_times_q : Fld Z h0 q "com/example/wavegrade/wavegrade/DepartureQueue" "times" "[D" (.ref u)) (F_lightpaths_q : Fld Z h0 q "com/example/wavegrade/wavegrade/DepartureQueue" "lightpaths" "[I" (.ref v)) (V_u : Dv Z h0 u (64 : Int32) g) (V_v : Iv Z h0 v (64 : Int32) l') (ne_q_u : q ≠ u) (ne_q_v : q ≠ v) (ne_u_v : u ≠ v) (ge_q : n0 ≤ q) (ge_u : n0 ≤ u) (ge_v : n0 ≤ v) (hT : ∀ x y, FP.dcmp (T x) (T y) = some (compare (K x) (K y))) (hg : ∀ i, i < 3 → g i = T (a i)) (hl : ∀ i, i < 3 → l' i = Lp (a i)) (hi : HI K a 3) :
    Con l Z (⟨"com/example/wavegrade/wavegrade/DepartureQueue", "add", "(DI)V"⟩ : MethodName) prog_1_method_4_code 6 none ({ frames := 0, cells := 0, slots := 0, locals := 0 } : Room) #[(.ref q), (.double (T lam)), (.int (Lp lam))] h0 (fun r h L => r = none ∧ Fr n0 L ∧ Keep h0 h [q, u, v] ∧ Exa Z h q "com/example/wavegrade/wavegrade/DepartureQueue" ∧ Fld Z h q "com/example/wavegrade/wavegrade/DepartureQueue" "size" "I" (.int (4 : Int32)) ∧ Fld Z h q "com/example/wavegrade/wavegrade/DepartureQueue" "times" "[D" (.ref u) ∧ Fld Z h q "com/example/wavegrade/wavegrade/DepartureQueue" "lightpaths" "[I" (.ref v) ∧ ∃ (g2 : Nat → UInt64) (l2 : Nat → Int32) (a2 : Nat → Nat), Dv Z h u (64 : Int32) g2 ∧ Iv Z h v (64 : Int32) l2 ∧ (∀ i, i < 4 → g2 i = T (a2 i)) ∧ (∀ i, i < 4 → l2 i = Lp (a2 i)) ∧ HI K a2 4 ∧ (∀ w : Nat → Int, sumA w a2 4 = sumA w a 3 + w lam) ∧ ∀ P : Nat → Prop, (∀ i, i < 3 → P (a i)) → P lam → ∀ i, i < 4 → P (a2 i)) :=
  con_of (plainFor_of_name pn_1) (fun p_ e_ s_ m_ b_ meth_ c_ T_ X_ hx hZ hby hml hown hnm hret hlk e0 => Go.cast (ef_rm_add3 m_ q T Lp lam) (w_add3 q u v g l' T Lp K a lam X_ hx hZ hw hby hml hown hnm hret hlk e0 Z0 (Fr.nil n0) E_q F_size_q F_times_q F_lightpaths_q V_u V_v ne_q_u ne_q_v ne_u_v ge_q ge_u ge_v hT hg hl hi))
set_option maxRecDepth 65536 in
set_option maxHeartbeats 40000000 in
theorem w_add4 {p : Program} {l : Launch} {e : Env} {s : State} {m : MethodId} {args : Array Value} {below : List Frame} {meth : Method} {c_ : Code} {T0 : State} {locs : List Loc} {Z : State} {a0 : Array Value} {h0 : Heap} {n0 : Nat} (q u v : Addr) (g : Nat → UInt64) (l' : Nat → Int32) (T : Nat → UInt64) (Lp : Nat → Int32) (K : Nat → Int) (a : Nat → Nat) (lam : Nat)
    (X0 : Stand p l e ({ frames := 0, cells := 0, slots := 0, locals := 0 } : Room) s m args below meth c_ T0 locs 0 0) (hx : p.tables.exec = Jvm.exec) (hZ : Z.Warmed39 s.vm) (hw : ∀ d ∈ tables_1, d.before a0 Z = true) (hby : c_.code = prog_1_method_4_code) (hml : c_.maxLocals = 6) (hown : s.vm.findClass "com/example/wavegrade/wavegrade/DepartureQueue" = some m.cls) (hnm : meth.name = "add") (hret : meth.sig.returnType = none) (hlk : meth.locks = false) (e0 : T0.heap = h0) (Z0 : n0 ≤ h0.size) (N0 : Fr n0 locs) (E_q : Exa Z h0 q "com/example/wavegrade/wavegrade/DepartureQueue") (F_size_q : Fld Z h0 q "com/example/wavegrade/wavegrade/DepartureQueue" "size" "I" (.int (4 : Int32))) (F_times_q : Fld Z h0 q "com/example/wavegrade/wavegrade/DepartureQueue" "times" "[D" (.ref u)) (F_lightpaths_q : Fld Z h0 q "com/example/wavegrade/wavegrade/DepartureQueue" "lightpaths" "[I" (.ref v)) (V_u : Dv Z h0 u (64 : Int32) g) (V_v : Iv Z h0 v (64 : Int32) l') (ne_q_u : q ≠ u) (ne_q_v : q ≠ v) (ne_u_v : u ≠ v) (ge_q : n0 ≤ q) (ge_u : n0 ≤ u) (ge_v : n0 ≤ v) (hT : ∀ x y, FP.dcmp (T x) (T y) = some (compare (K x) (K y))) (hg : ∀ i, i < 4 → g i = T (a i)) (hl : ∀ i, i < 4 → l' i = Lp (a i)) (hi : HI K a 4) :
    Go p e below s ({ frames := 0, cells := 0, slots := 0, locals := 0 } : Room).cells ({ frames := 0, cells := 0, slots := 0, locals := 0 } : Room).slots (fun r h L => r = none ∧ Fr n0 L ∧ Keep h0 h [q, u, v] ∧ Exa Z h q "com/example/wavegrade/wavegrade/DepartureQueue" ∧ Fld Z h q "com/example/wavegrade/wavegrade/DepartureQueue" "size" "I" (.int (5 : Int32)) ∧ Fld Z h q "com/example/wavegrade/wavegrade/DepartureQueue" "times" "[D" (.ref u) ∧ Fld Z h q "com/example/wavegrade/wavegrade/DepartureQueue" "lightpaths" "[I" (.ref v) ∧ ∃ (g2 : Nat → UInt64) (l2 : Nat → Int32) (a2 : Nat → Nat), Dv Z h u (64 : Int32) g2 ∧ Iv Z h v (64 : Int32) l2 ∧ (∀ i, i < 5 → g2 i = T (a2 i)) ∧ (∀ i, i < 5 → l2 i = Lp (a2 i)) ∧ HI K a2 5 ∧ (∀ w : Nat → Int, sumA w a2 5 = sumA w a 4 + w lam) ∧ ∀ P : Nat → Prop, (∀ i, i < 4 → P (a i)) → P lam → ∀ i, i < 5 → P (a2 i)) T0 (mkF m 0 #[.val (.ref q), .val (.double (T lam)), .second, .val (.int (Lp lam)), .unset, .unset] []) := by
  have hg0 := hg 0 (by decide)
  have hg1 := hg 1 (by decide)
  have hg2 := hg 2 (by decide)
  have hg3 := hg 3 (by decide)
  have hl0 := hl 0 (by decide)
  have hl1 := hl 1 (by decide)
  have hl2 := hl 2 (by decide)
  have hl3 := hl 3 (by decide)
  simp only [HI] at hi
  show Go _ _ _ _ _ _ _ T0 (mkF m 0 #[.val (.ref q), .val (.double (T lam)), .second, .val (.int (Lp lam)), .unset, .unset] [])
  refine Go.step (fun _ k => XS.aloadN X0.here hx rfl (hb hby d3_0) rfl rfl k) ?_
  show Go _ _ _ _ _ _ _ T0 (mkF m 1 #[.val (.ref q), .val (.double (T lam)), .second, .val (.int (Lp lam)), .unset, .unset] [(.ref q)])
  obtain ⟨T1, X1, e1, st1⟩ := getF X0 hx hZ hown (host := "") (Or.inl (hw _ (List.mem_of_getElem? (i := 20) rfl))) Via.refl e0 F_size_q (g := (mkF m 1 #[.val (.ref q), .val (.double (T lam)), .second, .val (.int (Lp lam)), .unset, .unset] [(.ref q)])) rfl rfl (hb hby d3_1)
  refine Go.step st1 ?_
  show Go _ _ _ _ _ _ _ T1 (mkF m 4 #[.val (.ref q), .val (.double (T lam)), .second, .val (.int (Lp lam)), .unset, .unset] [(.int (4 : Int32))])
  refine Go.step (fun _ k => XS.aloadN X1.here hx rfl (hb hby d3_4) rfl rfl k) ?_
  show Go _ _ _ _ _ _ _ T1 (mkF m 5 #[.val (.ref q), .val (.double (T lam)), .second, .val (.int (Lp lam)), .unset, .unset] [(.ref q), (.int (4 : Int32))])
  obtain ⟨T2, X2, e2, st2⟩ := getF X1 hx hZ hown (host := "") (Or.inl (hw _ (List.mem_of_getElem? (i := 11) rfl))) Via.refl e1 F_times_q (g := (mkF m 5 #[.val (.ref q), .val (.double (T lam)), .second, .val (.int (Lp lam)), .unset, .unset] [(.ref q), (.int (4 : Int32))])) rfl rfl (hb hby d3_5)
  refine Go.step st2 ?_
  show Go _ _ _ _ _ _ _ T2 (mkF m 8 #[.val (.ref q), .val (.double (T lam)), .second, .val (.int (Lp lam)), .unset, .unset] [(.ref u), (.int (4 : Int32))])
  refine Go.alen X2 hx hZ e2 V_u (hb hby d3_8) ?_
  show Go _ _ _ _ _ _ _ T2 (mkF m 9 #[.val (.ref q), .val (.double (T lam)), .second, .val (.int (Lp lam)), .unset, .unset] [(.int (64 : Int32)), (.int (4 : Int32))])
  refine Go.step (fun _ k => XS.icmpYes X2.here hx rfl (pc0 := 9) (pc' := 46) rfl (hb hby d3_9) rfl (feq (by decide : ¬ ((4 : Int32) = (64 : Int32)))).2 (by decide) (by decide) k) ?_
  show Go _ _ _ _ _ _ _ T2 (mkF m 46 #[.val (.ref q), .val (.double (T lam)), .second, .val (.int (Lp lam)), .unset, .unset] [])
  refine Go.step (fun _ k => XS.aloadN X2.here hx rfl (hb hby d3_46) rfl rfl k) ?_
  show Go _ _ _ _ _ _ _ T2 (mkF m 47 #[.val (.ref q), .val (.double (T lam)), .second, .val (.int (Lp lam)), .unset, .unset] [(.ref q)])
  refine Go.step (fun _ k => XS.dup X2.here hx rfl (hb hby d3_47) rfl rfl k) ?_
  show Go _ _ _ _ _ _ _ T2 (mkF m 48 #[.val (.ref q), .val (.double (T lam)), .second, .val (.int (Lp lam)), .unset, .unset] [(.ref q), (.ref q)])
  obtain ⟨T3, X3, e3, st3⟩ := getF X2 hx hZ hown (host := "") (Or.inl (hw _ (List.mem_of_getElem? (i := 20) rfl))) Via.refl e2 F_size_q (g := (mkF m 48 #[.val (.ref q), .val (.double (T lam)), .second, .val (.int (Lp lam)), .unset, .unset] [(.ref q), (.ref q)])) rfl rfl (hb hby d3_48)
  refine Go.step st3 ?_
  show Go _ _ _ _ _ _ _ T3 (mkF m 51 #[.val (.ref q), .val (.double (T lam)), .second, .val (.int (Lp lam)), .unset, .unset] [(.int (4 : Int32)), (.ref q)])
  refine Go.step (fun _ k => XS.dupX1 X3.here hx rfl (hb hby d3_51) rfl rfl rfl k) ?_
  show Go _ _ _ _ _ _ _ T3 (mkF m 52 #[.val (.ref q), .val (.double (T lam)), .second, .val (.int (Lp lam)), .unset, .unset] [(.int (4 : Int32)), (.ref q), (.int (4 : Int32))])
  refine Go.step (fun _ k => XS.iconst X3.here hx rfl (hb hby d3_52) k) ?_
  show Go _ _ _ _ _ _ _ T3 (mkF m 53 #[.val (.ref q), .val (.double (T lam)), .second, .val (.int (Lp lam)), .unset, .unset] [(.int (1 : Int32)), (.int (4 : Int32)), (.ref q), (.int (4 : Int32))])
  refine Go.step (fun _ k => XS.iadd X3.here hx rfl (hb hby d3_53) rfl k) ?_
  show Go _ _ _ _ _ _ _ T3 (mkF m 54 #[.val (.ref q), .val (.double (T lam)), .second, .val (.int (Lp lam)), .unset, .unset] [(.int (5 : Int32)), (.ref q), (.int (4 : Int32))])
  obtain ⟨T4, h4, X4, e4, W4, st4⟩ := putF X3 hx hZ hown (host := "") (Or.inl (hw _ (List.mem_of_getElem? (i := 20) rfl))) Via.refl e3 F_size_q E_q (Or.inl (hw _ (List.mem_of_getElem? (i := 21) rfl))) (hw _ (List.mem_of_getElem? (i := 2) rfl)) (ty := .int) (by decide) rfl rfl (g := (mkF m 54 #[.val (.ref q), .val (.double (T lam)), .second, .val (.int (Lp lam)), .unset, .unset] [(.int (5 : Int32)), (.ref q), (.int (4 : Int32))])) rfl rfl (hb hby d3_54)
  refine Go.step st4 ?_
  have N4 := Fr.snoc X4 N0 ge_q
  have F_size_q_4 := F_size_q.same W4
  have E_q_4 := E_q.wr W4
  have F_times_q_4 := F_times_q.other W4 (Or.inr (slot_ne (Or.inl (hw _ (List.mem_of_getElem? (i := 12) rfl))) (Or.inl (hw _ (List.mem_of_getElem? (i := 21) rfl))) (by decide) (t := (.array .double)) (t' := .int) (by decide) (by decide)))
  have F_lightpaths_q_4 := F_lightpaths_q.other W4 (Or.inr (slot_ne (Or.inl (hw _ (List.mem_of_getElem? (i := 14) rfl))) (Or.inl (hw _ (List.mem_of_getElem? (i := 21) rfl))) (by decide) (t := (.array .int)) (t' := .int) (by decide) (by decide)))
  have V_u_4 := V_u.other W4 (Ne.symm ne_q_u)
  have V_v_4 := V_v.other W4 (Ne.symm ne_q_v)
  have K4 : Keep h0 h4 [q, u, v] := (Keep.refl h0 [q, u, v]).wr W4 (Or.inl (List.mem_of_getElem? (i := 0) rfl))
  show Go _ _ _ _ _ _ _ T4 (mkF m 57 #[.val (.ref q), .val (.double (T lam)), .second, .val (.int (Lp lam)), .unset, .unset] [(.int (4 : Int32))])
  refine Go.step (fun _ k => XS.istore X4.here hx rfl (hb hby d3_57) rfl (l' := #[.val (.ref q), .val (.double (T lam)), .second, .val (.int (Lp lam)), .val (.int (4 : Int32)), .unset]) rfl k) ?_
  show Go _ _ _ _ _ _ _ T4 (mkF m 59 #[.val (.ref q), .val (.double (T lam)), .second, .val (.int (Lp lam)), .val (.int (4 : Int32)), .unset] [])
  refine Go.step (fun _ k => XS.iload X4.here hx rfl (hb hby d3_59) rfl k) ?_
  show Go _ _ _ _ _ _ _ T4 (mkF m 61 #[.val (.ref q), .val (.double (T lam)), .second, .val (.int (Lp lam)), .val (.int (4 : Int32)), .unset] [(.int (4 : Int32))])
  refine Go.step (fun _ k => XS.ifNo X4.here hx rfl (hb hby d3_61) rfl ((if0 _ _).trans (tlt (by decide : (0 : Int32) < (4 : Int32))).2.2.2) k) ?_
  show Go _ _ _ _ _ _ _ T4 (mkF m 64 #[.val (.ref q), .val (.double (T lam)), .second, .val (.int (Lp lam)), .val (.int (4 : Int32)), .unset] [])
  refine Go.step (fun _ k => XS.aloadN X4.here hx rfl (hb hby d3_64) rfl rfl k) ?_
  show Go _ _ _ _ _ _ _ T4 (mkF m 65 #[.val (.ref q), .val (.double (T lam)), .second, .val (.int (Lp lam)), .val (.int (4 : Int32)), .unset] [(.ref q)])
  obtain ⟨T5, X5, e5, st5⟩ := getF X4 hx hZ hown (host := "") (Or.inl (hw _ (List.mem_of_getElem? (i := 11) rfl))) Via.refl e4 F_times_q_4 (g := (mkF m 65 #[.val (.ref q), .val (.double (T lam)), .second, .val (.int (Lp lam)), .val (.int (4 : Int32)), .unset] [(.ref q)])) rfl rfl (hb hby d3_65)
  refine Go.step st5 ?_
  show Go _ _ _ _ _ _ _ T5 (mkF m 68 #[.val (.ref q), .val (.double (T lam)), .second, .val (.int (Lp lam)), .val (.int (4 : Int32)), .unset] [(.ref u)])
  refine Go.step (fun _ k => XS.iload X5.here hx rfl (hb hby d3_68) rfl k) ?_
  show Go _ _ _ _ _ _ _ T5 (mkF m 70 #[.val (.ref q), .val (.double (T lam)), .second, .val (.int (Lp lam)), .val (.int (4 : Int32)), .unset] [(.int (4 : Int32)), (.ref u)])
  refine Go.step (fun _ k => XS.iconst X5.here hx rfl (hb hby d3_70) k) ?_
  show Go _ _ _ _ _ _ _ T5 (mkF m 71 #[.val (.ref q), .val (.double (T lam)), .second, .val (.int (Lp lam)), .val (.int (4 : Int32)), .unset] [(.int (1 : Int32)), (.int (4 : Int32)), (.ref u)])
  refine Go.step (fun _ k => XS.isub X5.here hx rfl (hb hby d3_71) rfl k) ?_
  show Go _ _ _ _ _ _ _ T5 (mkF m 72 #[.val (.ref q), .val (.double (T lam)), .second, .val (.int (Lp lam)), .val (.int (4 : Int32)), .unset] [(.int (3 : Int32)), (.ref u)])
  refine Go.step (fun _ k => XS.iconst X5.here hx rfl (hb hby d3_72) k) ?_
  show Go _ _ _ _ _ _ _ T5 (mkF m 73 #[.val (.ref q), .val (.double (T lam)), .second, .val (.int (Lp lam)), .val (.int (4 : Int32)), .unset] [(.int (2 : Int32)), (.int (3 : Int32)), (.ref u)])
  refine Go.step (fun _ k => XS.idiv X5.here hx rfl (hb hby d3_73) rfl (by decide) k) ?_
  show Go _ _ _ _ _ _ _ T5 (mkF m 74 #[.val (.ref q), .val (.double (T lam)), .second, .val (.int (Lp lam)), .val (.int (4 : Int32)), .unset] [(.int (1 : Int32)), (.ref u)])
  refine Go.daload X5 hx hZ e5 V_u_4 (j := (1 : Int32)) (v := (T (a 1))) (by decide) (by first | rfl | simp [updN, hg0, hg1, hg2, hg3, hl0, hl1, hl2, hl3]) (hb hby d3_74) ?_
  show Go _ _ _ _ _ _ _ T5 (mkF m 75 #[.val (.ref q), .val (.double (T lam)), .second, .val (.int (Lp lam)), .val (.int (4 : Int32)), .unset] [(.double (T (a 1)))])
  refine Go.step (fun _ k => XS.dloadN X5.here hx rfl (hb hby d3_75) rfl k) ?_
  show Go _ _ _ _ _ _ _ T5 (mkF m 76 #[.val (.ref q), .val (.double (T lam)), .second, .val (.int (Lp lam)), .val (.int (4 : Int32)), .unset] [(.double (T lam)), (.double (T (a 1)))])
  refine Go.step (fun _ k => XS.dcmpS X5.here hx rfl (hb hby d3_76) rfl rfl k) ?_
  show Go _ _ _ _ _ _ _ T5 (mkF m 77 #[.val (.ref q), .val (.double (T lam)), .second, .val (.int (Lp lam)), .val (.int (4 : Int32)), .unset] [(.int (cmpValue (FP.dcmp (T (a 1)) (T lam)) .l))])
  by_cases hd77_6 : FP.dcmp (T (a 1)) (T lam) = some .gt
  · refine Go.step (fun _ k => XS.ifNo X5.here hx rfl (hb hby d3_77) rfl (gt_y hd77_6) k) ?_
    show Go _ _ _ _ _ _ _ T5 (mkF m 80 #[.val (.ref q), .val (.double (T lam)), .second, .val (.int (Lp lam)), .val (.int (4 : Int32)), .unset] [])
    refine Go.step (fun _ k => XS.iload X5.here hx rfl (hb hby d3_80) rfl k) ?_
    show Go _ _ _ _ _ _ _ T5 (mkF m 82 #[.val (.ref q), .val (.double (T lam)), .second, .val (.int (Lp lam)), .val (.int (4 : Int32)), .unset] [(.int (4 : Int32))])
    refine Go.step (fun _ k => XS.iconst X5.here hx rfl (hb hby d3_82) k) ?_
    show Go _ _ _ _ _ _ _ T5 (mkF m 83 #[.val (.ref q), .val (.double (T lam)), .second, .val (.int (Lp lam)), .val (.int (4 : Int32)), .unset] [(.int (1 : Int32)), (.int (4 : Int32))])
    refine Go.step (fun _ k => XS.isub X5.here hx rfl (hb hby d3_83) rfl k) ?_
    show Go _ _ _ _ _ _ _ T5 (mkF m 84 #[.val (.ref q), .val (.double (T lam)), .second, .val (.int (Lp lam)), .val (.int (4 : Int32)), .unset] [(.int (3 : Int32))])
    refine Go.step (fun _ k => XS.iconst X5.here hx rfl (hb hby d3_84) k) ?_
    show Go _ _ _ _ _ _ _ T5 (mkF m 85 #[.val (.ref q), .val (.double (T lam)), .second, .val (.int (Lp lam)), .val (.int (4 : Int32)), .unset] [(.int (2 : Int32)), (.int (3 : Int32))])
    refine Go.step (fun _ k => XS.idiv X5.here hx rfl (hb hby d3_85) rfl (by decide) k) ?_
    show Go _ _ _ _ _ _ _ T5 (mkF m 86 #[.val (.ref q), .val (.double (T lam)), .second, .val (.int (Lp lam)), .val (.int (4 : Int32)), .unset] [(.int (1 : Int32))])
    refine Go.step (fun _ k => XS.istore X5.here hx rfl (hb hby d3_86) rfl (l' := #[.val (.ref q), .val (.double (T lam)), .second, .val (.int (Lp lam)), .val (.int (4 : Int32)), .val (.int (1 : Int32))]) rfl k) ?_
    show Go _ _ _ _ _ _ _ T5 (mkF m 88 #[.val (.ref q), .val (.double (T lam)), .second, .val (.int (Lp lam)), .val (.int (4 : Int32)), .val (.int (1 : Int32))] [])
    refine Go.step (fun _ k => XS.aloadN X5.here hx rfl (hb hby d3_88) rfl rfl k) ?_
    show Go _ _ _ _ _ _ _ T5 (mkF m 89 #[.val (.ref q), .val (.double (T lam)), .second, .val (.int (Lp lam)), .val (.int (4 : Int32)), .val (.int (1 : Int32))] [(.ref q)])
    obtain ⟨T7, X7, e7, st7⟩ := getF X5 hx hZ hown (host := "") (Or.inl (hw _ (List.mem_of_getElem? (i := 11) rfl))) Via.refl e5 F_times_q_4 (g := (mkF m 89 #[.val (.ref q), .val (.double (T lam)), .second, .val (.int (Lp lam)), .val (.int (4 : Int32)), .val (.int (1 : Int32))] [(.ref q)])) rfl rfl (hb hby d3_89)
    refine Go.step st7 ?_
    show Go _ _ _ _ _ _ _ T7 (mkF m 92 #[.val (.ref q), .val (.double (T lam)), .second, .val (.int (Lp lam)), .val (.int (4 : Int32)), .val (.int (1 : Int32))] [(.ref u)])
    refine Go.step (fun _ k => XS.iload X7.here hx rfl (hb hby d3_92) rfl k) ?_
    show Go _ _ _ _ _ _ _ T7 (mkF m 94 #[.val (.ref q), .val (.double (T lam)), .second, .val (.int (Lp lam)), .val (.int (4 : Int32)), .val (.int (1 : Int32))] [(.int (4 : Int32)), (.ref u)])
    refine Go.step (fun _ k => XS.aloadN X7.here hx rfl (hb hby d3_94) rfl rfl k) ?_
    show Go _ _ _ _ _ _ _ T7 (mkF m 95 #[.val (.ref q), .val (.double (T lam)), .second, .val (.int (Lp lam)), .val (.int (4 : Int32)), .val (.int (1 : Int32))] [(.ref q), (.int (4 : Int32)), (.ref u)])
    obtain ⟨T8, X8, e8, st8⟩ := getF X7 hx hZ hown (host := "") (Or.inl (hw _ (List.mem_of_getElem? (i := 11) rfl))) Via.refl e7 F_times_q_4 (g := (mkF m 95 #[.val (.ref q), .val (.double (T lam)), .second, .val (.int (Lp lam)), .val (.int (4 : Int32)), .val (.int (1 : Int32))] [(.ref q), (.int (4 : Int32)), (.ref u)])) rfl rfl (hb hby d3_95)
    refine Go.step st8 ?_
    show Go _ _ _ _ _ _ _ T8 (mkF m 98 #[.val (.ref q), .val (.double (T lam)), .second, .val (.int (Lp lam)), .val (.int (4 : Int32)), .val (.int (1 : Int32))] [(.ref u), (.int (4 : Int32)), (.ref u)])
    refine Go.step (fun _ k => XS.iload X8.here hx rfl (hb hby d3_98) rfl k) ?_
    show Go _ _ _ _ _ _ _ T8 (mkF m 100 #[.val (.ref q), .val (.double (T lam)), .second, .val (.int (Lp lam)), .val (.int (4 : Int32)), .val (.int (1 : Int32))] [(.int (1 : Int32)), (.ref u), (.int (4 : Int32)), (.ref u)])
    refine Go.daload X8 hx hZ e8 V_u_4 (j := (1 : Int32)) (v := (T (a 1))) (by decide) (by first | rfl | simp [updN, hg0, hg1, hg2, hg3, hl0, hl1, hl2, hl3]) (hb hby d3_100) ?_
    show Go _ _ _ _ _ _ _ T8 (mkF m 101 #[.val (.ref q), .val (.double (T lam)), .second, .val (.int (Lp lam)), .val (.int (4 : Int32)), .val (.int (1 : Int32))] [(.double (T (a 1))), (.int (4 : Int32)), (.ref u)])
    refine Go.dastore X8 hx hZ e8 V_u_4 (j := (4 : Int32)) (x := (T (a 1))) (by decide) (hb hby d3_101) ?_
    intro T9 h9 X9 e9 W9 Vn9
    have V_u_9 : Dv Z h9 u (64 : Int32) (updN g 4 (T (a 1))) := Vn9
    have N9 := Fr.snoc X9 N4 ge_u
    have E_q_9 := E_q_4.wr W9
    have F_size_q_9 := F_size_q_4.other W9 (Or.inl ne_q_u)
    have F_times_q_9 := F_times_q_4.other W9 (Or.inl ne_q_u)
    have F_lightpaths_q_9 := F_lightpaths_q_4.other W9 (Or.inl ne_q_u)
    have V_v_9 := V_v_4.other W9 (Ne.symm ne_u_v)
    have K9 : Keep h0 h9 [q, u, v] := K4.wr W9 (Or.inl (List.mem_of_getElem? (i := 1) rfl))
    show Go _ _ _ _ _ _ _ T9 (mkF m 102 #[.val (.ref q), .val (.double (T lam)), .second, .val (.int (Lp lam)), .val (.int (4 : Int32)), .val (.int (1 : Int32))] [])
    refine Go.step (fun _ k => XS.aloadN X9.here hx rfl (hb hby d3_102) rfl rfl k) ?_
    show Go _ _ _ _ _ _ _ T9 (mkF m 103 #[.val (.ref q), .val (.double (T lam)), .second, .val (.int (Lp lam)), .val (.int (4 : Int32)), .val (.int (1 : Int32))] [(.ref q)])
    obtain ⟨T10, X10, e10, st10⟩ := getF X9 hx hZ hown (host := "") (Or.inl (hw _ (List.mem_of_getElem? (i := 13) rfl))) Via.refl e9 F_lightpaths_q_9 (g := (mkF m 103 #[.val (.ref q), .val (.double (T lam)), .second, .val (.int (Lp lam)), .val (.int (4 : Int32)), .val (.int (1 : Int32))] [(.ref q)])) rfl rfl (hb hby d3_103)
    refine Go.step st10 ?_
    show Go _ _ _ _ _ _ _ T10 (mkF m 106 #[.val (.ref q), .val (.double (T lam)), .second, .val (.int (Lp lam)), .val (.int (4 : Int32)), .val (.int (1 : Int32))] [(.ref v)])
    refine Go.step (fun _ k => XS.iload X10.here hx rfl (hb hby d3_106) rfl k) ?_
    show Go _ _ _ _ _ _ _ T10 (mkF m 108 #[.val (.ref q), .val (.double (T lam)), .second, .val (.int (Lp lam)), .val (.int (4 : Int32)), .val (.int (1 : Int32))] [(.int (4 : Int32)), (.ref v)])
    refine Go.step (fun _ k => XS.aloadN X10.here hx rfl (hb hby d3_108) rfl rfl k) ?_
    show Go _ _ _ _ _ _ _ T10 (mkF m 109 #[.val (.ref q), .val (.double (T lam)), .second, .val (.int (Lp lam)), .val (.int (4 : Int32)), .val (.int (1 : Int32))] [(.ref q), (.int (4 : Int32)), (.ref v)])
    obtain ⟨T11, X11, e11, st11⟩ := getF X10 hx hZ hown (host := "") (Or.inl (hw _ (List.mem_of_getElem? (i := 13) rfl))) Via.refl e10 F_lightpaths_q_9 (g := (mkF m 109 #[.val (.ref q), .val (.double (T lam)), .second, .val (.int (Lp lam)), .val (.int (4 : Int32)), .val (.int (1 : Int32))] [(.ref q), (.int (4 : Int32)), (.ref v)])) rfl rfl (hb hby d3_109)
    refine Go.step st11 ?_
    show Go _ _ _ _ _ _ _ T11 (mkF m 112 #[.val (.ref q), .val (.double (T lam)), .second, .val (.int (Lp lam)), .val (.int (4 : Int32)), .val (.int (1 : Int32))] [(.ref v), (.int (4 : Int32)), (.ref v)])
    refine Go.step (fun _ k => XS.iload X11.here hx rfl (hb hby d3_112) rfl k) ?_
    show Go _ _ _ _ _ _ _ T11 (mkF m 114 #[.val (.ref q), .val (.double (T lam)), .second, .val (.int (Lp lam)), .val (.int (4 : Int32)), .val (.int (1 : Int32))] [(.int (1 : Int32)), (.ref v), (.int (4 : Int32)), (.ref v)])
    refine Go.iaload X11 hx hZ e11 V_v_9 (j := (1 : Int32)) (v := (Lp (a 1))) (by decide) (by first | rfl | simp [updN, hg0, hg1, hg2, hg3, hl0, hl1, hl2, hl3]) (hb hby d3_114) ?_
    show Go _ _ _ _ _ _ _ T11 (mkF m 115 #[.val (.ref q), .val (.double (T lam)), .second, .val (.int (Lp lam)), .val (.int (4 : Int32)), .val (.int (1 : Int32))] [(.int (Lp (a 1))), (.int (4 : Int32)), (.ref v)])
    refine Go.iastore X11 hx hZ e11 V_v_9 (j := (4 : Int32)) (x := (Lp (a 1))) (by decide) (hb hby d3_115) ?_
    intro T12 h12 X12 e12 W12 Vn12
    have V_v_12 : Iv Z h12 v (64 : Int32) (updN l' 4 (Lp (a 1))) := Vn12
    have N12 := Fr.snoc X12 N9 ge_v
    have E_q_12 := E_q_9.wr W12
    have F_size_q_12 := F_size_q_9.other W12 (Or.inl ne_q_v)
    have F_times_q_12 := F_times_q_9.other W12 (Or.inl ne_q_v)
    have F_lightpaths_q_12 := F_lightpaths_q_9.other W12 (Or.inl ne_q_v)
    have V_u_12 := V_u_9.other W12 ne_u_v
    have K12 : Keep h0 h12 [q, u, v] := K9.wr W12 (Or.inl (List.mem_of_getElem? (i := 2) rfl))
    show Go _ _ _ _ _ _ _ T12 (mkF m 116 #[.val (.ref q), .val (.double (T lam)), .second, .val (.int (Lp lam)), .val (.int (4 : Int32)), .val (.int (1 : Int32))] [])
    refine Go.step (fun _ k => XS.iload X12.here hx rfl (hb hby d3_116) rfl k) ?_
    show Go _ _ _ _ _ _ _ T12 (mkF m 118 #[.val (.ref q), .val (.double (T lam)), .second, .val (.int (Lp lam)), .val (.int (4 : Int32)), .val (.int (1 : Int32))] [(.int (1 : Int32))])
    refine Go.step (fun _ k => XS.istore X12.here hx rfl (hb hby d3_118) rfl (l' := #[.val (.ref q), .val (.double (T lam)), .second, .val (.int (Lp lam)), .val (.int (1 : Int32)), .val (.int (1 : Int32))]) rfl k) ?_
    show Go _ _ _ _ _ _ _ T12 (mkF m 120 #[.val (.ref q), .val (.double (T lam)), .second, .val (.int (Lp lam)), .val (.int (1 : Int32)), .val (.int (1 : Int32))] [])
    refine Go.step (fun _ k => XS.goto X12.here hx rfl (pc0 := 120) (pc' := 59) rfl (hb hby d3_120) (by decide) (by decide) k) ?_
    show Go _ _ _ _ _ _ _ T12 (mkF m 59 #[.val (.ref q), .val (.double (T lam)), .second, .val (.int (Lp lam)), .val (.int (1 : Int32)), .val (.int (1 : Int32))] [])
    refine Go.step (fun _ k => XS.iload X12.here hx rfl (hb hby d3_59) rfl k) ?_
    show Go _ _ _ _ _ _ _ T12 (mkF m 61 #[.val (.ref q), .val (.double (T lam)), .second, .val (.int (Lp lam)), .val (.int (1 : Int32)), .val (.int (1 : Int32))] [(.int (1 : Int32))])
    refine Go.step (fun _ k => XS.ifNo X12.here hx rfl (hb hby d3_61) rfl ((if0 _ _).trans (tlt (by decide : (0 : Int32) < (1 : Int32))).2.2.2) k) ?_
    show Go _ _ _ _ _ _ _ T12 (mkF m 64 #[.val (.ref q), .val (.double (T lam)), .second, .val (.int (Lp lam)), .val (.int (1 : Int32)), .val (.int (1 : Int32))] [])
    refine Go.step (fun _ k => XS.aloadN X12.here hx rfl (hb hby d3_64) rfl rfl k) ?_
    show Go _ _ _ _ _ _ _ T12 (mkF m 65 #[.val (.ref q), .val (.double (T lam)), .second, .val (.int (Lp lam)), .val (.int (1 : Int32)), .val (.int (1 : Int32))] [(.ref q)])
    obtain ⟨T13, X13, e13, st13⟩ := getF X12 hx hZ hown (host := "") (Or.inl (hw _ (List.mem_of_getElem? (i := 11) rfl))) Via.refl e12 F_times_q_12 (g := (mkF m 65 #[.val (.ref q), .val (.double (T lam)), .second, .val (.int (Lp lam)), .val (.int (1 : Int32)), .val (.int (1 : Int32))] [(.ref q)])) rfl rfl (hb hby d3_65)
    refine Go.step st13 ?_
    show Go _ _ _ _ _ _ _ T13 (mkF m 68 #[.val (.ref q), .val (.double (T lam)), .second, .val (.int (Lp lam)), .val (.int (1 : Int32)), .val (.int (1 : Int32))] [(.ref u)])
    refine Go.step (fun _ k => XS.iload X13.here hx rfl (hb hby d3_68) rfl k) ?_
    show Go _ _ _ _ _ _ _ T13 (mkF m 70 #[.val (.ref q), .val (.double (T lam)), .second, .val (.int (Lp lam)), .val (.int (1 : Int32)), .val (.int (1 : Int32))] [(.int (1 : Int32)), (.ref u)])
    refine Go.step (fun _ k => XS.iconst X13.here hx rfl (hb hby d3_70) k) ?_
    show Go _ _ _ _ _ _ _ T13 (mkF m 71 #[.val (.ref q), .val (.double (T lam)), .second, .val (.int (Lp lam)), .val (.int (1 : Int32)), .val (.int (1 : Int32))] [(.int (1 : Int32)), (.int (1 : Int32)), (.ref u)])
    refine Go.step (fun _ k => XS.isub X13.here hx rfl (hb hby d3_71) rfl k) ?_
    show Go _ _ _ _ _ _ _ T13 (mkF m 72 #[.val (.ref q), .val (.double (T lam)), .second, .val (.int (Lp lam)), .val (.int (1 : Int32)), .val (.int (1 : Int32))] [(.int (0 : Int32)), (.ref u)])
    refine Go.step (fun _ k => XS.iconst X13.here hx rfl (hb hby d3_72) k) ?_
    show Go _ _ _ _ _ _ _ T13 (mkF m 73 #[.val (.ref q), .val (.double (T lam)), .second, .val (.int (Lp lam)), .val (.int (1 : Int32)), .val (.int (1 : Int32))] [(.int (2 : Int32)), (.int (0 : Int32)), (.ref u)])
    refine Go.step (fun _ k => XS.idiv X13.here hx rfl (hb hby d3_73) rfl (by decide) k) ?_
    show Go _ _ _ _ _ _ _ T13 (mkF m 74 #[.val (.ref q), .val (.double (T lam)), .second, .val (.int (Lp lam)), .val (.int (1 : Int32)), .val (.int (1 : Int32))] [(.int (0 : Int32)), (.ref u)])
    refine Go.daload X13 hx hZ e13 V_u_12 (j := (0 : Int32)) (v := (T (a 0))) (by decide) (by first | rfl | simp [updN, hg0, hg1, hg2, hg3, hl0, hl1, hl2, hl3]) (hb hby d3_74) ?_
    show Go _ _ _ _ _ _ _ T13 (mkF m 75 #[.val (.ref q), .val (.double (T lam)), .second, .val (.int (Lp lam)), .val (.int (1 : Int32)), .val (.int (1 : Int32))] [(.double (T (a 0)))])
    refine Go.step (fun _ k => XS.dloadN X13.here hx rfl (hb hby d3_75) rfl k) ?_
    show Go _ _ _ _ _ _ _ T13 (mkF m 76 #[.val (.ref q), .val (.double (T lam)), .second, .val (.int (Lp lam)), .val (.int (1 : Int32)), .val (.int (1 : Int32))] [(.double (T lam)), (.double (T (a 0)))])
    refine Go.step (fun _ k => XS.dcmpS X13.here hx rfl (hb hby d3_76) rfl rfl k) ?_
    show Go _ _ _ _ _ _ _ T13 (mkF m 77 #[.val (.ref q), .val (.double (T lam)), .second, .val (.int (Lp lam)), .val (.int (1 : Int32)), .val (.int (1 : Int32))] [(.int (cmpValue (FP.dcmp (T (a 0)) (T lam)) .l))])
    by_cases hd77_14 : FP.dcmp (T (a 0)) (T lam) = some .gt
    · refine Go.step (fun _ k => XS.ifNo X13.here hx rfl (hb hby d3_77) rfl (gt_y hd77_14) k) ?_
      show Go _ _ _ _ _ _ _ T13 (mkF m 80 #[.val (.ref q), .val (.double (T lam)), .second, .val (.int (Lp lam)), .val (.int (1 : Int32)), .val (.int (1 : Int32))] [])
      refine Go.step (fun _ k => XS.iload X13.here hx rfl (hb hby d3_80) rfl k) ?_
      show Go _ _ _ _ _ _ _ T13 (mkF m 82 #[.val (.ref q), .val (.double (T lam)), .second, .val (.int (Lp lam)), .val (.int (1 : Int32)), .val (.int (1 : Int32))] [(.int (1 : Int32))])
      refine Go.step (fun _ k => XS.iconst X13.here hx rfl (hb hby d3_82) k) ?_
      show Go _ _ _ _ _ _ _ T13 (mkF m 83 #[.val (.ref q), .val (.double (T lam)), .second, .val (.int (Lp lam)), .val (.int (1 : Int32)), .val (.int (1 : Int32))] [(.int (1 : Int32)), (.int (1 : Int32))])
      refine Go.step (fun _ k => XS.isub X13.here hx rfl (hb hby d3_83) rfl k) ?_
      show Go _ _ _ _ _ _ _ T13 (mkF m 84 #[.val (.ref q), .val (.double (T lam)), .second, .val (.int (Lp lam)), .val (.int (1 : Int32)), .val (.int (1 : Int32))] [(.int (0 : Int32))])
      refine Go.step (fun _ k => XS.iconst X13.here hx rfl (hb hby d3_84) k) ?_
      show Go _ _ _ _ _ _ _ T13 (mkF m 85 #[.val (.ref q), .val (.double (T lam)), .second, .val (.int (Lp lam)), .val (.int (1 : Int32)), .val (.int (1 : Int32))] [(.int (2 : Int32)), (.int (0 : Int32))])
      refine Go.step (fun _ k => XS.idiv X13.here hx rfl (hb hby d3_85) rfl (by decide) k) ?_
      show Go _ _ _ _ _ _ _ T13 (mkF m 86 #[.val (.ref q), .val (.double (T lam)), .second, .val (.int (Lp lam)), .val (.int (1 : Int32)), .val (.int (1 : Int32))] [(.int (0 : Int32))])
      refine Go.step (fun _ k => XS.istore X13.here hx rfl (hb hby d3_86) rfl (l' := #[.val (.ref q), .val (.double (T lam)), .second, .val (.int (Lp lam)), .val (.int (1 : Int32)), .val (.int (0 : Int32))]) rfl k) ?_
      show Go _ _ _ _ _ _ _ T13 (mkF m 88 #[.val (.ref q), .val (.double (T lam)), .second, .val (.int (Lp lam)), .val (.int (1 : Int32)), .val (.int (0 : Int32))] [])
      refine Go.step (fun _ k => XS.aloadN X13.here hx rfl (hb hby d3_88) rfl rfl k) ?_
      show Go _ _ _ _ _ _ _ T13 (mkF m 89 #[.val (.ref q), .val (.double (T lam)), .second, .val (.int (Lp lam)), .val (.int (1 : Int32)), .val (.int (0 : Int32))] [(.ref q)])
      obtain ⟨T15, X15, e15, st15⟩ := getF X13 hx hZ hown (host := "") (Or.inl (hw _ (List.mem_of_getElem? (i := 11) rfl))) Via.refl e13 F_times_q_12 (g := (mkF m 89 #[.val (.ref q), .val (.double (T lam)), .second, .val (.int (Lp lam)), .val (.int (1 : Int32)), .val (.int (0 : Int32))] [(.ref q)])) rfl rfl (hb hby d3_89)
      refine Go.step st15 ?_
      show Go _ _ _ _ _ _ _ T15 (mkF m 92 #[.val (.ref q), .val (.double (T lam)), .second, .val (.int (Lp lam)), .val (.int (1 : Int32)), .val (.int (0 : Int32))] [(.ref u)])
      refine Go.step (fun _ k => XS.iload X15.here hx rfl (hb hby d3_92) rfl k) ?_
      show Go _ _ _ _ _ _ _ T15 (mkF m 94 #[.val (.ref q), .val (.double (T lam)), .second, .val (.int (Lp lam)), .val (.int (1 : Int32)), .val (.int (0 : Int32))] [(.int (1 : Int32)), (.ref u)])
      refine Go.step (fun _ k => XS.aloadN X15.here hx rfl (hb hby d3_94) rfl rfl k) ?_
      show Go _ _ _ _ _ _ _ T15 (mkF m 95 #[.val (.ref q), .val (.double (T lam)), .second, .val (.int (Lp lam)), .val (.int (1 : Int32)), .val (.int (0 : Int32))] [(.ref q), (.int (1 : Int32)), (.ref u)])
      obtain ⟨T16, X16, e16, st16⟩ := getF X15 hx hZ hown (host := "") (Or.inl (hw _ (List.mem_of_getElem? (i := 11) rfl))) Via.refl e15 F_times_q_12 (g := (mkF m 95 #[.val (.ref q), .val (.double (T lam)), .second, .val (.int (Lp lam)), .val (.int (1 : Int32)), .val (.int (0 : Int32))] [(.ref q), (.int (1 : Int32)), (.ref u)])) rfl rfl (hb hby d3_95)
      refine Go.step st16 ?_
      show Go _ _ _ _ _ _ _ T16 (mkF m 98 #[.val (.ref q), .val (.double (T lam)), .second, .val (.int (Lp lam)), .val (.int (1 : Int32)), .val (.int (0 : Int32))] [(.ref u), (.int (1 : Int32)), (.ref u)])
      refine Go.step (fun _ k => XS.iload X16.here hx rfl (hb hby d3_98) rfl k) ?_
      show Go _ _ _ _ _ _ _ T16 (mkF m 100 #[.val (.ref q), .val (.double (T lam)), .second, .val (.int (Lp lam)), .val (.int (1 : Int32)), .val (.int (0 : Int32))] [(.int (0 : Int32)), (.ref u), (.int (1 : Int32)), (.ref u)])
      refine Go.daload X16 hx hZ e16 V_u_12 (j := (0 : Int32)) (v := (T (a 0))) (by decide) (by first | rfl | simp [updN, hg0, hg1, hg2, hg3, hl0, hl1, hl2, hl3]) (hb hby d3_100) ?_
      show Go _ _ _ _ _ _ _ T16 (mkF m 101 #[.val (.ref q), .val (.double (T lam)), .second, .val (.int (Lp lam)), .val (.int (1 : Int32)), .val (.int (0 : Int32))] [(.double (T (a 0))), (.int (1 : Int32)), (.ref u)])
      refine Go.dastore X16 hx hZ e16 V_u_12 (j := (1 : Int32)) (x := (T (a 0))) (by decide) (hb hby d3_101) ?_
      intro T17 h17 X17 e17 W17 Vn17
      have V_u_17 : Dv Z h17 u (64 : Int32) (updN (updN g 4 (T (a 1))) 1 (T (a 0))) := Vn17
      have N17 := Fr.snoc X17 N12 ge_u
      have E_q_17 := E_q_12.wr W17
      have F_size_q_17 := F_size_q_12.other W17 (Or.inl ne_q_u)
      have F_times_q_17 := F_times_q_12.other W17 (Or.inl ne_q_u)
      have F_lightpaths_q_17 := F_lightpaths_q_12.other W17 (Or.inl ne_q_u)
      have V_v_17 := V_v_12.other W17 (Ne.symm ne_u_v)
      have K17 : Keep h0 h17 [q, u, v] := K12.wr W17 (Or.inl (List.mem_of_getElem? (i := 1) rfl))
      show Go _ _ _ _ _ _ _ T17 (mkF m 102 #[.val (.ref q), .val (.double (T lam)), .second, .val (.int (Lp lam)), .val (.int (1 : Int32)), .val (.int (0 : Int32))] [])
      refine Go.step (fun _ k => XS.aloadN X17.here hx rfl (hb hby d3_102) rfl rfl k) ?_
      show Go _ _ _ _ _ _ _ T17 (mkF m 103 #[.val (.ref q), .val (.double (T lam)), .second, .val (.int (Lp lam)), .val (.int (1 : Int32)), .val (.int (0 : Int32))] [(.ref q)])
      obtain ⟨T18, X18, e18, st18⟩ := getF X17 hx hZ hown (host := "") (Or.inl (hw _ (List.mem_of_getElem? (i := 13) rfl))) Via.refl e17 F_lightpaths_q_17 (g := (mkF m 103 #[.val (.ref q), .val (.double (T lam)), .second, .val (.int (Lp lam)), .val (.int (1 : Int32)), .val (.int (0 : Int32))] [(.ref q)])) rfl rfl (hb hby d3_103)
      refine Go.step st18 ?_
      show Go _ _ _ _ _ _ _ T18 (mkF m 106 #[.val (.ref q), .val (.double (T lam)), .second, .val (.int (Lp lam)), .val (.int (1 : Int32)), .val (.int (0 : Int32))] [(.ref v)])
      refine Go.step (fun _ k => XS.iload X18.here hx rfl (hb hby d3_106) rfl k) ?_
      show Go _ _ _ _ _ _ _ T18 (mkF m 108 #[.val (.ref q), .val (.double (T lam)), .second, .val (.int (Lp lam)), .val (.int (1 : Int32)), .val (.int (0 : Int32))] [(.int (1 : Int32)), (.ref v)])
      refine Go.step (fun _ k => XS.aloadN X18.here hx rfl (hb hby d3_108) rfl rfl k) ?_
      show Go _ _ _ _ _ _ _ T18 (mkF m 109 #[.val (.ref q), .val (.double (T lam)), .second, .val (.int (Lp lam)), .val (.int (1 : Int32)), .val (.int (0 : Int32))] [(.ref q), (.int (1 : Int32)), (.ref v)])
      obtain ⟨T19, X19, e19, st19⟩ := getF X18 hx hZ hown (host := "") (Or.inl (hw _ (List.mem_of_getElem? (i := 13) rfl))) Via.refl e18 F_lightpaths_q_17 (g := (mkF m 109 #[.val (.ref q), .val (.double (T lam)), .second, .val (.int (Lp lam)), .val (.int (1 : Int32)), .val (.int (0 : Int32))] [(.ref q), (.int (1 : Int32)), (.ref v)])) rfl rfl (hb hby d3_109)
      refine Go.step st19 ?_
      show Go _ _ _ _ _ _ _ T19 (mkF m 112 #[.val (.ref q), .val (.double (T lam)), .second, .val (.int (Lp lam)), .val (.int (1 : Int32)), .val (.int (0 : Int32))] [(.ref v), (.int (1 : Int32)), (.ref v)])
      refine Go.step (fun _ k => XS.iload X19.here hx rfl (hb hby d3_112) rfl k) ?_
      show Go _ _ _ _ _ _ _ T19 (mkF m 114 #[.val (.ref q), .val (.double (T lam)), .second, .val (.int (Lp lam)), .val (.int (1 : Int32)), .val (.int (0 : Int32))] [(.int (0 : Int32)), (.ref v), (.int (1 : Int32)), (.ref v)])
      refine Go.iaload X19 hx hZ e19 V_v_17 (j := (0 : Int32)) (v := (Lp (a 0))) (by decide) (by first | rfl | simp [updN, hg0, hg1, hg2, hg3, hl0, hl1, hl2, hl3]) (hb hby d3_114) ?_
      show Go _ _ _ _ _ _ _ T19 (mkF m 115 #[.val (.ref q), .val (.double (T lam)), .second, .val (.int (Lp lam)), .val (.int (1 : Int32)), .val (.int (0 : Int32))] [(.int (Lp (a 0))), (.int (1 : Int32)), (.ref v)])
      refine Go.iastore X19 hx hZ e19 V_v_17 (j := (1 : Int32)) (x := (Lp (a 0))) (by decide) (hb hby d3_115) ?_
      intro T20 h20 X20 e20 W20 Vn20
      have V_v_20 : Iv Z h20 v (64 : Int32) (updN (updN l' 4 (Lp (a 1))) 1 (Lp (a 0))) := Vn20
      have N20 := Fr.snoc X20 N17 ge_v
      have E_q_20 := E_q_17.wr W20
      have F_size_q_20 := F_size_q_17.other W20 (Or.inl ne_q_v)
      have F_times_q_20 := F_times_q_17.other W20 (Or.inl ne_q_v)
      have F_lightpaths_q_20 := F_lightpaths_q_17.other W20 (Or.inl ne_q_v)
      have V_u_20 := V_u_17.other W20 ne_u_v
      have K20 : Keep h0 h20 [q, u, v] := K17.wr W20 (Or.inl (List.mem_of_getElem? (i := 2) rfl))
      show Go _ _ _ _ _ _ _ T20 (mkF m 116 #[.val (.ref q), .val (.double (T lam)), .second, .val (.int (Lp lam)), .val (.int (1 : Int32)), .val (.int (0 : Int32))] [])
      refine Go.step (fun _ k => XS.iload X20.here hx rfl (hb hby d3_116) rfl k) ?_
      show Go _ _ _ _ _ _ _ T20 (mkF m 118 #[.val (.ref q), .val (.double (T lam)), .second, .val (.int (Lp lam)), .val (.int (1 : Int32)), .val (.int (0 : Int32))] [(.int (0 : Int32))])
      refine Go.step (fun _ k => XS.istore X20.here hx rfl (hb hby d3_118) rfl (l' := #[.val (.ref q), .val (.double (T lam)), .second, .val (.int (Lp lam)), .val (.int (0 : Int32)), .val (.int (0 : Int32))]) rfl k) ?_
      show Go _ _ _ _ _ _ _ T20 (mkF m 120 #[.val (.ref q), .val (.double (T lam)), .second, .val (.int (Lp lam)), .val (.int (0 : Int32)), .val (.int (0 : Int32))] [])
      refine Go.step (fun _ k => XS.goto X20.here hx rfl (pc0 := 120) (pc' := 59) rfl (hb hby d3_120) (by decide) (by decide) k) ?_
      show Go _ _ _ _ _ _ _ T20 (mkF m 59 #[.val (.ref q), .val (.double (T lam)), .second, .val (.int (Lp lam)), .val (.int (0 : Int32)), .val (.int (0 : Int32))] [])
      refine Go.step (fun _ k => XS.iload X20.here hx rfl (hb hby d3_59) rfl k) ?_
      show Go _ _ _ _ _ _ _ T20 (mkF m 61 #[.val (.ref q), .val (.double (T lam)), .second, .val (.int (Lp lam)), .val (.int (0 : Int32)), .val (.int (0 : Int32))] [(.int (0 : Int32))])
      refine Go.step (fun _ k => XS.ifYes X20.here hx rfl (pc0 := 61) (pc' := 123) rfl (hb hby d3_61) rfl ((if0 _ _).trans (flt (by decide : ¬ ((0 : Int32) < (0 : Int32)))).2.2.2) (by decide) (by decide) k) ?_
      show Go _ _ _ _ _ _ _ T20 (mkF m 123 #[.val (.ref q), .val (.double (T lam)), .second, .val (.int (Lp lam)), .val (.int (0 : Int32)), .val (.int (0 : Int32))] [])
      refine Go.step (fun _ k => XS.aloadN X20.here hx rfl (hb hby d3_123) rfl rfl k) ?_
      show Go _ _ _ _ _ _ _ T20 (mkF m 124 #[.val (.ref q), .val (.double (T lam)), .second, .val (.int (Lp lam)), .val (.int (0 : Int32)), .val (.int (0 : Int32))] [(.ref q)])
      obtain ⟨T21, X21, e21, st21⟩ := getF X20 hx hZ hown (host := "") (Or.inl (hw _ (List.mem_of_getElem? (i := 11) rfl))) Via.refl e20 F_times_q_20 (g := (mkF m 124 #[.val (.ref q), .val (.double (T lam)), .second, .val (.int (Lp lam)), .val (.int (0 : Int32)), .val (.int (0 : Int32))] [(.ref q)])) rfl rfl (hb hby d3_124)
      refine Go.step st21 ?_
      show Go _ _ _ _ _ _ _ T21 (mkF m 127 #[.val (.ref q), .val (.double (T lam)), .second, .val (.int (Lp lam)), .val (.int (0 : Int32)), .val (.int (0 : Int32))] [(.ref u)])
      refine Go.step (fun _ k => XS.iload X21.here hx rfl (hb hby d3_127) rfl k) ?_
      show Go _ _ _ _ _ _ _ T21 (mkF m 129 #[.val (.ref q), .val (.double (T lam)), .second, .val (.int (Lp lam)), .val (.int (0 : Int32)), .val (.int (0 : Int32))] [(.int (0 : Int32)), (.ref u)])
      refine Go.step (fun _ k => XS.dloadN X21.here hx rfl (hb hby d3_129) rfl k) ?_
      show Go _ _ _ _ _ _ _ T21 (mkF m 130 #[.val (.ref q), .val (.double (T lam)), .second, .val (.int (Lp lam)), .val (.int (0 : Int32)), .val (.int (0 : Int32))] [(.double (T lam)), (.int (0 : Int32)), (.ref u)])
      refine Go.dastore X21 hx hZ e21 V_u_20 (j := (0 : Int32)) (x := (T lam)) (by decide) (hb hby d3_130) ?_
      intro T22 h22 X22 e22 W22 Vn22
      have V_u_22 : Dv Z h22 u (64 : Int32) (updN (updN (updN g 4 (T (a 1))) 1 (T (a 0))) 0 (T lam)) := Vn22
      have N22 := Fr.snoc X22 N20 ge_u
      have E_q_22 := E_q_20.wr W22
      have F_size_q_22 := F_size_q_20.other W22 (Or.inl ne_q_u)
      have F_times_q_22 := F_times_q_20.other W22 (Or.inl ne_q_u)
      have F_lightpaths_q_22 := F_lightpaths_q_20.other W22 (Or.inl ne_q_u)
      have V_v_22 := V_v_20.other W22 (Ne.symm ne_u_v)
      have K22 : Keep h0 h22 [q, u, v] := K20.wr W22 (Or.inl (List.mem_of_getElem? (i := 1) rfl))
      show Go _ _ _ _ _ _ _ T22 (mkF m 131 #[.val (.ref q), .val (.double (T lam)), .second, .val (.int (Lp lam)), .val (.int (0 : Int32)), .val (.int (0 : Int32))] [])
      refine Go.step (fun _ k => XS.aloadN X22.here hx rfl (hb hby d3_131) rfl rfl k) ?_
      show Go _ _ _ _ _ _ _ T22 (mkF m 132 #[.val (.ref q), .val (.double (T lam)), .second, .val (.int (Lp lam)), .val (.int (0 : Int32)), .val (.int (0 : Int32))] [(.ref q)])
      obtain ⟨T23, X23, e23, st23⟩ := getF X22 hx hZ hown (host := "") (Or.inl (hw _ (List.mem_of_getElem? (i := 13) rfl))) Via.refl e22 F_lightpaths_q_22 (g := (mkF m 132 #[.val (.ref q), .val (.double (T lam)), .second, .val (.int (Lp lam)), .val (.int (0 : Int32)), .val (.int (0 : Int32))] [(.ref q)])) rfl rfl (hb hby d3_132)
      refine Go.step st23 ?_
      show Go _ _ _ _ _ _ _ T23 (mkF m 135 #[.val (.ref q), .val (.double (T lam)), .second, .val (.int (Lp lam)), .val (.int (0 : Int32)), .val (.int (0 : Int32))] [(.ref v)])
      refine Go.step (fun _ k => XS.iload X23.here hx rfl (hb hby d3_135) rfl k) ?_
      show Go _ _ _ _ _ _ _ T23 (mkF m 137 #[.val (.ref q), .val (.double (T lam)), .second, .val (.int (Lp lam)), .val (.int (0 : Int32)), .val (.int (0 : Int32))] [(.int (0 : Int32)), (.ref v)])
      refine Go.step (fun _ k => XS.iloadN X23.here hx rfl (hb hby d3_137) rfl k) ?_
      show Go _ _ _ _ _ _ _ T23 (mkF m 138 #[.val (.ref q), .val (.double (T lam)), .second, .val (.int (Lp lam)), .val (.int (0 : Int32)), .val (.int (0 : Int32))] [(.int (Lp lam)), (.int (0 : Int32)), (.ref v)])
      refine Go.iastore X23 hx hZ e23 V_v_22 (j := (0 : Int32)) (x := (Lp lam)) (by decide) (hb hby d3_138) ?_
      intro T24 h24 X24 e24 W24 Vn24
      have V_v_24 : Iv Z h24 v (64 : Int32) (updN (updN (updN l' 4 (Lp (a 1))) 1 (Lp (a 0))) 0 (Lp lam)) := Vn24
      have N24 := Fr.snoc X24 N22 ge_v
      have E_q_24 := E_q_22.wr W24
      have F_size_q_24 := F_size_q_22.other W24 (Or.inl ne_q_v)
      have F_times_q_24 := F_times_q_22.other W24 (Or.inl ne_q_v)
      have F_lightpaths_q_24 := F_lightpaths_q_22.other W24 (Or.inl ne_q_v)
      have V_u_24 := V_u_22.other W24 ne_u_v
      have K24 : Keep h0 h24 [q, u, v] := K22.wr W24 (Or.inl (List.mem_of_getElem? (i := 2) rfl))
      show Go _ _ _ _ _ _ _ T24 (mkF m 139 #[.val (.ref q), .val (.double (T lam)), .second, .val (.int (Lp lam)), .val (.int (0 : Int32)), .val (.int (0 : Int32))] [])
      refine Go.retV X24 hx hlk hret (hb hby d3_139) (by decide) (by decide) ?_
      try rw [e24]
      have := own_gtK hT hd77_6
      have := own_gtK hT hd77_14
      refine ⟨rfl, N24, K24, E_q_24, F_size_q_24, F_times_q_24, F_lightpaths_q_24, _, _, (updN (updN (updN a 4 (a 1)) 1 (a 0)) 0 lam), V_u_24, V_v_24, fun i hi' => by rcases (by omega : i = 0 ∨ i = 1 ∨ i = 2 ∨ i = 3 ∨ i = 4) with rfl | rfl | rfl | rfl | rfl <;> first | rfl | simp [updN, hg0, hg1, hg2, hg3, hl0, hl1, hl2, hl3], fun i hi' => by rcases (by omega : i = 0 ∨ i = 1 ∨ i = 2 ∨ i = 3 ∨ i = 4) with rfl | rfl | rfl | rfl | rfl <;> first | rfl | simp [updN, hg0, hg1, hg2, hg3, hl0, hl1, hl2, hl3], ?_, ?_, fun P hP hP' => ?_⟩
      · simp only [HI, updN]; try simp; try omega
      · intro w; simp [sumA, updN]; try omega
      · intro i hi'; rcases (by omega : i = 0 ∨ i = 1 ∨ i = 2 ∨ i = 3 ∨ i = 4) with rfl | rfl | rfl | rfl | rfl <;> simp [updN] <;> first | exact hP' | exact hP _ (by decide)
    · refine Go.step (fun _ k => XS.ifYes X13.here hx rfl (pc0 := 77) (pc' := 123) rfl (hb hby d3_77) rfl (gt_n hd77_14) (by decide) (by decide) k) ?_
      show Go _ _ _ _ _ _ _ T13 (mkF m 123 #[.val (.ref q), .val (.double (T lam)), .second, .val (.int (Lp lam)), .val (.int (1 : Int32)), .val (.int (1 : Int32))] [])
      refine Go.step (fun _ k => XS.aloadN X13.here hx rfl (hb hby d3_123) rfl rfl k) ?_
      show Go _ _ _ _ _ _ _ T13 (mkF m 124 #[.val (.ref q), .val (.double (T lam)), .second, .val (.int (Lp lam)), .val (.int (1 : Int32)), .val (.int (1 : Int32))] [(.ref q)])
      obtain ⟨T25, X25, e25, st25⟩ := getF X13 hx hZ hown (host := "") (Or.inl (hw _ (List.mem_of_getElem? (i := 11) rfl))) Via.refl e13 F_times_q_12 (g := (mkF m 124 #[.val (.ref q), .val (.double (T lam)), .second, .val (.int (Lp lam)), .val (.int (1 : Int32)), .val (.int (1 : Int32))] [(.ref q)])) rfl rfl (hb hby d3_124)
      refine Go.step st25 ?_
      show Go _ _ _ _ _ _ _ T25 (mkF m 127 #[.val (.ref q), .val (.double (T lam)), .second, .val (.int (Lp lam)), .val (.int (1 : Int32)), .val (.int (1 : Int32))] [(.ref u)])
      refine Go.step (fun _ k => XS.iload X25.here hx rfl (hb hby d3_127) rfl k) ?_
      show Go _ _ _ _ _ _ _ T25 (mkF m 129 #[.val (.ref q), .val (.double (T lam)), .second, .val (.int (Lp lam)), .val (.int (1 : Int32)), .val (.int (1 : Int32))] [(.int (1 : Int32)), (.ref u)])
      refine Go.step (fun _ k => XS.dloadN X25.here hx rfl (hb hby d3_129) rfl k) ?_
      show Go _ _ _ _ _ _ _ T25 (mkF m 130 #[.val (.ref q), .val (.double (T lam)), .second, .val (.int (Lp lam)), .val (.int (1 : Int32)), .val (.int (1 : Int32))] [(.double (T lam)), (.int (1 : Int32)), (.ref u)])
      refine Go.dastore X25 hx hZ e25 V_u_12 (j := (1 : Int32)) (x := (T lam)) (by decide) (hb hby d3_130) ?_
      intro T26 h26 X26 e26 W26 Vn26
      have V_u_26 : Dv Z h26 u (64 : Int32) (updN (updN g 4 (T (a 1))) 1 (T lam)) := Vn26
      have N26 := Fr.snoc X26 N12 ge_u
      have E_q_26 := E_q_12.wr W26
      have F_size_q_26 := F_size_q_12.other W26 (Or.inl ne_q_u)
      have F_times_q_26 := F_times_q_12.other W26 (Or.inl ne_q_u)
      have F_lightpaths_q_26 := F_lightpaths_q_12.other W26 (Or.inl ne_q_u)
      have V_v_26 := V_v_12.other W26 (Ne.symm ne_u_v)
      have K26 : Keep h0 h26 [q, u, v] := K12.wr W26 (Or.inl (List.mem_of_getElem? (i := 1) rfl))
      show Go _ _ _ _ _ _ _ T26 (mkF m 131 #[.val (.ref q), .val (.double (T lam)), .second, .val (.int (Lp lam)), .val (.int (1 : Int32)), .val (.int (1 : Int32))] [])
      refine Go.step (fun _ k => XS.aloadN X26.here hx rfl (hb hby d3_131) rfl rfl k) ?_
      show Go _ _ _ _ _ _ _ T26 (mkF m 132 #[.val (.ref q), .val (.double (T lam)), .second, .val (.int (Lp lam)), .val (.int (1 : Int32)), .val (.int (1 : Int32))] [(.ref q)])
      obtain ⟨T27, X27, e27, st27⟩ := getF X26 hx hZ hown (host := "") (Or.inl (hw _ (List.mem_of_getElem? (i := 13) rfl))) Via.refl e26 F_lightpaths_q_26 (g := (mkF m 132 #[.val (.ref q), .val (.double (T lam)), .second, .val (.int (Lp lam)), .val (.int (1 : Int32)), .val (.int (1 : Int32))] [(.ref q)])) rfl rfl (hb hby d3_132)
      refine Go.step st27 ?_
      show Go _ _ _ _ _ _ _ T27 (mkF m 135 #[.val (.ref q), .val (.double (T lam)), .second, .val (.int (Lp lam)), .val (.int (1 : Int32)), .val (.int (1 : Int32))] [(.ref v)])
      refine Go.step (fun _ k => XS.iload X27.here hx rfl (hb hby d3_135) rfl k) ?_
      show Go _ _ _ _ _ _ _ T27 (mkF m 137 #[.val (.ref q), .val (.double (T lam)), .second, .val (.int (Lp lam)), .val (.int (1 : Int32)), .val (.int (1 : Int32))] [(.int (1 : Int32)), (.ref v)])
      refine Go.step (fun _ k => XS.iloadN X27.here hx rfl (hb hby d3_137) rfl k) ?_
      show Go _ _ _ _ _ _ _ T27 (mkF m 138 #[.val (.ref q), .val (.double (T lam)), .second, .val (.int (Lp lam)), .val (.int (1 : Int32)), .val (.int (1 : Int32))] [(.int (Lp lam)), (.int (1 : Int32)), (.ref v)])
      refine Go.iastore X27 hx hZ e27 V_v_26 (j := (1 : Int32)) (x := (Lp lam)) (by decide) (hb hby d3_138) ?_
      intro T28 h28 X28 e28 W28 Vn28
      have V_v_28 : Iv Z h28 v (64 : Int32) (updN (updN l' 4 (Lp (a 1))) 1 (Lp lam)) := Vn28
      have N28 := Fr.snoc X28 N26 ge_v
      have E_q_28 := E_q_26.wr W28
      have F_size_q_28 := F_size_q_26.other W28 (Or.inl ne_q_v)
      have F_times_q_28 := F_times_q_26.other W28 (Or.inl ne_q_v)
      have F_lightpaths_q_28 := F_lightpaths_q_26.other W28 (Or.inl ne_q_v)
      have V_u_28 := V_u_26.other W28 ne_u_v
      have K28 : Keep h0 h28 [q, u, v] := K26.wr W28 (Or.inl (List.mem_of_getElem? (i := 2) rfl))
      show Go _ _ _ _ _ _ _ T28 (mkF m 139 #[.val (.ref q), .val (.double (T lam)), .second, .val (.int (Lp lam)), .val (.int (1 : Int32)), .val (.int (1 : Int32))] [])
      refine Go.retV X28 hx hlk hret (hb hby d3_139) (by decide) (by decide) ?_
      try rw [e28]
      have := own_gtK hT hd77_6
      have := own_ngtK hT hd77_14
      refine ⟨rfl, N28, K28, E_q_28, F_size_q_28, F_times_q_28, F_lightpaths_q_28, _, _, (updN (updN a 4 (a 1)) 1 lam), V_u_28, V_v_28, fun i hi' => by rcases (by omega : i = 0 ∨ i = 1 ∨ i = 2 ∨ i = 3 ∨ i = 4) with rfl | rfl | rfl | rfl | rfl <;> first | rfl | simp [updN, hg0, hg1, hg2, hg3, hl0, hl1, hl2, hl3], fun i hi' => by rcases (by omega : i = 0 ∨ i = 1 ∨ i = 2 ∨ i = 3 ∨ i = 4) with rfl | rfl | rfl | rfl | rfl <;> first | rfl | simp [updN, hg0, hg1, hg2, hg3, hl0, hl1, hl2, hl3], ?_, ?_, fun P hP hP' => ?_⟩
      · simp only [HI, updN]; try simp; try omega
      · intro w; simp [sumA, updN]; try omega
      · intro i hi'; rcases (by omega : i = 0 ∨ i = 1 ∨ i = 2 ∨ i = 3 ∨ i = 4) with rfl | rfl | rfl | rfl | rfl <;> simp [updN] <;> first | exact hP' | exact hP _ (by decide)
  · refine Go.step (fun _ k => XS.ifYes X5.here hx rfl (pc0 := 77) (pc' := 123) rfl (hb hby d3_77) rfl (gt_n hd77_6) (by decide) (by decide) k) ?_
    show Go _ _ _ _ _ _ _ T5 (mkF m 123 #[.val (.ref q), .val (.double (T lam)), .second, .val (.int (Lp lam)), .val (.int (4 : Int32)), .unset] [])
    refine Go.step (fun _ k => XS.aloadN X5.here hx rfl (hb hby d3_123) rfl rfl k) ?_
    show Go _ _ _ _ _ _ _ T5 (mkF m 124 #[.val (.ref q), .val (.double (T lam)), .second, .val (.int (Lp lam)), .val (.int (4 : Int32)), .unset] [(.ref q)])
    obtain ⟨T29, X29, e29, st29⟩ := getF X5 hx hZ hown (host := "") (Or.inl (hw _ (List.mem_of_getElem? (i := 11) rfl))) Via.refl e5 F_times_q_4 (g := (mkF m 124 #[.val (.ref q), .val (.double (T lam)), .second, .val (.int (Lp lam)), .val (.int (4 : Int32)), .unset] [(.ref q)])) rfl rfl (hb hby d3_124)
    refine Go.step st29 ?_
    show Go _ _ _ _ _ _ _ T29 (mkF m 127 #[.val (.ref q), .val (.double (T lam)), .second, .val (.int (Lp lam)), .val (.int (4 : Int32)), .unset] [(.ref u)])
    refine Go.step (fun _ k => XS.iload X29.here hx rfl (hb hby d3_127) rfl k) ?_
    show Go _ _ _ _ _ _ _ T29 (mkF m 129 #[.val (.ref q), .val (.double (T lam)), .second, .val (.int (Lp lam)), .val (.int (4 : Int32)), .unset] [(.int (4 : Int32)), (.ref u)])
    refine Go.step (fun _ k => XS.dloadN X29.here hx rfl (hb hby d3_129) rfl k) ?_
    show Go _ _ _ _ _ _ _ T29 (mkF m 130 #[.val (.ref q), .val (.double (T lam)), .second, .val (.int (Lp lam)), .val (.int (4 : Int32)), .unset] [(.double (T lam)), (.int (4 : Int32)), (.ref u)])
    refine Go.dastore X29 hx hZ e29 V_u_4 (j := (4 : Int32)) (x := (T lam)) (by decide) (hb hby d3_130) ?_
    intro T30 h30 X30 e30 W30 Vn30
    have V_u_30 : Dv Z h30 u (64 : Int32) (updN g 4 (T lam)) := Vn30
    have N30 := Fr.snoc X30 N4 ge_u
    have E_q_30 := E_q_4.wr W30
    have F_size_q_30 := F_size_q_4.other W30 (Or.inl ne_q_u)
    have F_times_q_30 := F_times_q_4.other W30 (Or.inl ne_q_u)
    have F_lightpaths_q_30 := F_lightpaths_q_4.other W30 (Or.inl ne_q_u)
    have V_v_30 := V_v_4.other W30 (Ne.symm ne_u_v)
    have K30 : Keep h0 h30 [q, u, v] := K4.wr W30 (Or.inl (List.mem_of_getElem? (i := 1) rfl))
    show Go _ _ _ _ _ _ _ T30 (mkF m 131 #[.val (.ref q), .val (.double (T lam)), .second, .val (.int (Lp lam)), .val (.int (4 : Int32)), .unset] [])
    refine Go.step (fun _ k => XS.aloadN X30.here hx rfl (hb hby d3_131) rfl rfl k) ?_
    show Go _ _ _ _ _ _ _ T30 (mkF m 132 #[.val (.ref q), .val (.double (T lam)), .second, .val (.int (Lp lam)), .val (.int (4 : Int32)), .unset] [(.ref q)])
    obtain ⟨T31, X31, e31, st31⟩ := getF X30 hx hZ hown (host := "") (Or.inl (hw _ (List.mem_of_getElem? (i := 13) rfl))) Via.refl e30 F_lightpaths_q_30 (g := (mkF m 132 #[.val (.ref q), .val (.double (T lam)), .second, .val (.int (Lp lam)), .val (.int (4 : Int32)), .unset] [(.ref q)])) rfl rfl (hb hby d3_132)
    refine Go.step st31 ?_
    show Go _ _ _ _ _ _ _ T31 (mkF m 135 #[.val (.ref q), .val (.double (T lam)), .second, .val (.int (Lp lam)), .val (.int (4 : Int32)), .unset] [(.ref v)])
    refine Go.step (fun _ k => XS.iload X31.here hx rfl (hb hby d3_135) rfl k) ?_
    show Go _ _ _ _ _ _ _ T31 (mkF m 137 #[.val (.ref q), .val (.double (T lam)), .second, .val (.int (Lp lam)), .val (.int (4 : Int32)), .unset] [(.int (4 : Int32)), (.ref v)])
    refine Go.step (fun _ k => XS.iloadN X31.here hx rfl (hb hby d3_137) rfl k) ?_
    show Go _ _ _ _ _ _ _ T31 (mkF m 138 #[.val (.ref q), .val (.double (T lam)), .second, .val (.int (Lp lam)), .val (.int (4 : Int32)), .unset] [(.int (Lp lam)), (.int (4 : Int32)), (.ref v)])
    refine Go.iastore X31 hx hZ e31 V_v_30 (j := (4 : Int32)) (x := (Lp lam)) (by decide) (hb hby d3_138) ?_
    intro T32 h32 X32 e32 W32 Vn32
    have V_v_32 : Iv Z h32 v (64 : Int32) (updN l' 4 (Lp lam)) := Vn32
    have N32 := Fr.snoc X32 N30 ge_v
    have E_q_32 := E_q_30.wr W32
    have F_size_q_32 := F_size_q_30.other W32 (Or.inl ne_q_v)
    have F_times_q_32 := F_times_q_30.other W32 (Or.inl ne_q_v)
    have F_lightpaths_q_32 := F_lightpaths_q_30.other W32 (Or.inl ne_q_v)
    have V_u_32 := V_u_30.other W32 ne_u_v
    have K32 : Keep h0 h32 [q, u, v] := K30.wr W32 (Or.inl (List.mem_of_getElem? (i := 2) rfl))
    show Go _ _ _ _ _ _ _ T32 (mkF m 139 #[.val (.ref q), .val (.double (T lam)), .second, .val (.int (Lp lam)), .val (.int (4 : Int32)), .unset] [])
    refine Go.retV X32 hx hlk hret (hb hby d3_139) (by decide) (by decide) ?_
    try rw [e32]
    have := own_ngtK hT hd77_6
    refine ⟨rfl, N32, K32, E_q_32, F_size_q_32, F_times_q_32, F_lightpaths_q_32, _, _, (updN a 4 lam), V_u_32, V_v_32, fun i hi' => by rcases (by omega : i = 0 ∨ i = 1 ∨ i = 2 ∨ i = 3 ∨ i = 4) with rfl | rfl | rfl | rfl | rfl <;> first | rfl | simp [updN, hg0, hg1, hg2, hg3, hl0, hl1, hl2, hl3], fun i hi' => by rcases (by omega : i = 0 ∨ i = 1 ∨ i = 2 ∨ i = 3 ∨ i = 4) with rfl | rfl | rfl | rfl | rfl <;> first | rfl | simp [updN, hg0, hg1, hg2, hg3, hl0, hl1, hl2, hl3], ?_, ?_, fun P hP hP' => ?_⟩
    · simp only [HI, updN]; try simp; try omega
    · intro w; simp [sumA, updN]; try omega
    · intro i hi'; rcases (by omega : i = 0 ∨ i = 1 ∨ i = 2 ∨ i = 3 ∨ i = 4) with rfl | rfl | rfl | rfl | rfl <;> simp [updN] <;> first | exact hP' | exact hP _ (by decide)
theorem ef_rm_add4 (m : MethodId) (q : Addr) (T : Nat → UInt64) (Lp : Nat → Int32) (lam : Nat) : entryFrame m #[(.ref q), (.double (T lam)), (.int (Lp lam))] 6 = mkF m 0 #[.val (.ref q), .val (.double (T lam)), .second, .val (.int (Lp lam)), .unset, .unset] [] := by first | (simp [entryFrame, mkF, argsToLocals, Value.category]; done) | rfl
theorem rm_add4 (l : Launch) (Z : State) (a0 : Array Value) (hw : ∀ d ∈ tables_1, d.before a0 Z = true) (q u v : Addr) (g : Nat → UInt64) (l' : Nat → Int32) (T : Nat → UInt64) (Lp : Nat → Int32) (K : Nat → Int) (a : Nat → Nat) (lam : Nat) (h0 : Heap) (n0 : Nat) (Z0 : n0 ≤ h0.size) (E_q : Exa Z h0 q "com/example/wavegrade/wavegrade/DepartureQueue") (F_size_q : Fld Z h0 q "com/example/wavegrade/wavegrade/DepartureQueue" "size" "I" (.int (4 : Int32))) (F_times_q : Fld Z h0 q "com/example/wavegrade/wavegrade/DepartureQueue" "times" "[D" (.ref u)) (F_lightpaths_q : Fld Z h0 q "com/example/wavegrade/wavegrade/DepartureQueue" "lightpaths" "[I" (.ref v)) (V_u : Dv Z h0 u (64 : Int32) g) (V_v : Iv Z h0 v (64 : Int32) l') (ne_q_u : q ≠ u) (ne_q_v : q ≠ v) (ne_u_v : u ≠ v) (ge_q : n0 ≤ q) (ge_u : n0 ≤ u) (ge_v : n0 ≤ v) (hT : ∀ x y, FP.dcmp (T x) (T y) = some (compare (K x) (K y))) (hg : ∀ i, i < 4 → g i = T (a i)) (hl : ∀ i, i < 4 → l' i = Lp (a i)) (hi : HI K a 4) :
    Con l Z (⟨"com/example/wavegrade/wavegrade/DepartureQueue", "add", "(DI)V"⟩ : MethodName) prog_1_method_4_code 6 none ({ frames := 0, cells := 0, slots := 0, locals := 0 } : Room) #[(.ref q), (.double (T lam)), (.int (Lp lam))] h0 (fun r h L => r = none ∧ Fr n0 L ∧ Keep h0 h [q, u, v] ∧ Exa Z h q "com/example/wavegrade/wavegrade/DepartureQueue" ∧ Fld Z h q "com/example/wavegrade/wavegrade/DepartureQueue" "size" "I" (.int (5 : Int32)) ∧ Fld Z h q "com/example/wavegrade/wavegrade/DepartureQueue" "times" "[D" (.ref u) ∧ Fld Z h q "com/example/wavegrade/wavegrade/DepartureQueue" "lightpaths" "[I" (.ref v) ∧ ∃ (g2 : Nat → UInt64) (l2 : Nat → Int32) (a2 : Nat → Nat), Dv Z h u (64 : Int32) g2 ∧ Iv Z h v (64 : Int32) l2 ∧ (∀ i, i < 5 → g2 i = T (a2 i)) ∧ (∀ i, i < 5 → l2 i = Lp (a2 i)) ∧ HI K a2 5 ∧ (∀ w : Nat → Int, sumA w a2 5 = sumA w a 4 + w lam) ∧ ∀ P : Nat → Prop, (∀ i, i < 4 → P (a i)) → P lam → ∀ i, i < 5 → P (a2 i)) :=
  con_of (plainFor_of_name pn_1) (fun p_ e_ s_ m_ b_ meth_ c_ T_ X_ hx hZ hby hml hown hnm hret hlk e0 => Go.cast (ef_rm_add4 m_ q T Lp lam) (w_add4 q u v g l' T Lp K a lam X_ hx hZ hw hby hml hown hnm hret hlk e0 Z0 (Fr.nil n0) E_q F_size_q F_times_q F_lightpaths_q V_u V_v ne_q_u ne_q_v ne_u_v ge_q ge_u ge_v hT hg hl hi))
theorem d4_0 : decode prog_1_method_5_code 0 = .ok (.aload_n 0, 1) := by decide +kernel
theorem d4_1 : decode prog_1_method_5_code 1 = .ok (.getfield 13, 3) := by decide +kernel
theorem d4_4 : decode prog_1_method_5_code 4 = .ok (.iconst 0, 1) := by decide +kernel
theorem d4_5 : decode prog_1_method_5_code 5 = .ok (.iaload, 1) := by decide +kernel
theorem d4_6 : decode prog_1_method_5_code 6 = .ok (.istore_n 1, 1) := by decide +kernel
theorem d4_7 : decode prog_1_method_5_code 7 = .ok (.aload_n 0, 1) := by decide +kernel
theorem d4_8 : decode prog_1_method_5_code 8 = .ok (.dup, 1) := by decide +kernel
theorem d4_9 : decode prog_1_method_5_code 9 = .ok (.getfield 17, 3) := by decide +kernel
theorem d4_12 : decode prog_1_method_5_code 12 = .ok (.iconst 1, 1) := by decide +kernel
theorem d4_13 : decode prog_1_method_5_code 13 = .ok (.isub, 1) := by decide +kernel
theorem d4_14 : decode prog_1_method_5_code 14 = .ok (.putfield 17, 3) := by decide +kernel
theorem d4_17 : decode prog_1_method_5_code 17 = .ok (.aload_n 0, 1) := by decide +kernel
theorem d4_18 : decode prog_1_method_5_code 18 = .ok (.getfield 7, 3) := by decide +kernel
theorem d4_21 : decode prog_1_method_5_code 21 = .ok (.aload_n 0, 1) := by decide +kernel
theorem d4_22 : decode prog_1_method_5_code 22 = .ok (.getfield 17, 3) := by decide +kernel
theorem d4_25 : decode prog_1_method_5_code 25 = .ok (.daload, 1) := by decide +kernel
theorem d4_26 : decode prog_1_method_5_code 26 = .ok (.dstore_n 2, 1) := by decide +kernel
theorem d4_27 : decode prog_1_method_5_code 27 = .ok (.aload_n 0, 1) := by decide +kernel
theorem d4_28 : decode prog_1_method_5_code 28 = .ok (.getfield 13, 3) := by decide +kernel
theorem d4_31 : decode prog_1_method_5_code 31 = .ok (.aload_n 0, 1) := by decide +kernel
theorem d4_32 : decode prog_1_method_5_code 32 = .ok (.getfield 17, 3) := by decide +kernel
theorem d4_35 : decode prog_1_method_5_code 35 = .ok (.iaload, 1) := by decide +kernel
theorem d4_36 : decode prog_1_method_5_code 36 = .ok (.istore 4, 2) := by decide +kernel
theorem d4_38 : decode prog_1_method_5_code 38 = .ok (.iconst 0, 1) := by decide +kernel
theorem d4_39 : decode prog_1_method_5_code 39 = .ok (.istore 5, 2) := by decide +kernel
theorem d4_41 : decode prog_1_method_5_code 41 = .ok (.iconst 2, 1) := by decide +kernel
theorem d4_42 : decode prog_1_method_5_code 42 = .ok (.iload 5, 2) := by decide +kernel
theorem d4_44 : decode prog_1_method_5_code 44 = .ok (.imul, 1) := by decide +kernel
theorem d4_45 : decode prog_1_method_5_code 45 = .ok (.iconst 1, 1) := by decide +kernel
theorem d4_46 : decode prog_1_method_5_code 46 = .ok (.iadd, 1) := by decide +kernel
theorem d4_47 : decode prog_1_method_5_code 47 = .ok (.istore 6, 2) := by decide +kernel
theorem d4_49 : decode prog_1_method_5_code 49 = .ok (.iload 6, 2) := by decide +kernel
theorem d4_51 : decode prog_1_method_5_code 51 = .ok (.aload_n 0, 1) := by decide +kernel
theorem d4_52 : decode prog_1_method_5_code 52 = .ok (.getfield 17, 3) := by decide +kernel
theorem d4_55 : decode prog_1_method_5_code 55 = .ok (.if_icmp .lt 6, 3) := by decide +kernel
theorem d4_61 : decode prog_1_method_5_code 61 = .ok (.iload 6, 2) := by decide +kernel
theorem d4_63 : decode prog_1_method_5_code 63 = .ok (.iconst 1, 1) := by decide +kernel
theorem d4_64 : decode prog_1_method_5_code 64 = .ok (.iadd, 1) := by decide +kernel
theorem d4_65 : decode prog_1_method_5_code 65 = .ok (.aload_n 0, 1) := by decide +kernel
theorem d4_66 : decode prog_1_method_5_code 66 = .ok (.getfield 17, 3) := by decide +kernel
theorem d4_69 : decode prog_1_method_5_code 69 = .ok (.if_icmp .ge 26, 3) := by decide +kernel
theorem d4_72 : decode prog_1_method_5_code 72 = .ok (.aload_n 0, 1) := by decide +kernel
theorem d4_73 : decode prog_1_method_5_code 73 = .ok (.getfield 7, 3) := by decide +kernel
theorem d4_76 : decode prog_1_method_5_code 76 = .ok (.iload 6, 2) := by decide +kernel
theorem d4_78 : decode prog_1_method_5_code 78 = .ok (.iconst 1, 1) := by decide +kernel
theorem d4_79 : decode prog_1_method_5_code 79 = .ok (.iadd, 1) := by decide +kernel
theorem d4_80 : decode prog_1_method_5_code 80 = .ok (.daload, 1) := by decide +kernel
theorem d4_81 : decode prog_1_method_5_code 81 = .ok (.aload_n 0, 1) := by decide +kernel
theorem d4_82 : decode prog_1_method_5_code 82 = .ok (.getfield 7, 3) := by decide +kernel
theorem d4_85 : decode prog_1_method_5_code 85 = .ok (.iload 6, 2) := by decide +kernel
theorem d4_87 : decode prog_1_method_5_code 87 = .ok (.daload, 1) := by decide +kernel
theorem d4_88 : decode prog_1_method_5_code 88 = .ok (.dcmp .g, 1) := by decide +kernel
theorem d4_89 : decode prog_1_method_5_code 89 = .ok (.ifCond .ge 6, 3) := by decide +kernel
theorem d4_92 : decode prog_1_method_5_code 92 = .ok (.iinc 6 1, 3) := by decide +kernel
theorem d4_95 : decode prog_1_method_5_code 95 = .ok (.aload_n 0, 1) := by decide +kernel
theorem d4_96 : decode prog_1_method_5_code 96 = .ok (.getfield 7, 3) := by decide +kernel
theorem d4_99 : decode prog_1_method_5_code 99 = .ok (.iload 6, 2) := by decide +kernel
theorem d4_101 : decode prog_1_method_5_code 101 = .ok (.daload, 1) := by decide +kernel
theorem d4_102 : decode prog_1_method_5_code 102 = .ok (.dload_n 2, 1) := by decide +kernel
theorem d4_103 : decode prog_1_method_5_code 103 = .ok (.dcmp .l, 1) := by decide +kernel
theorem d4_104 : decode prog_1_method_5_code 104 = .ok (.ifCond .lt 6, 3) := by decide +kernel
theorem d4_107 : decode prog_1_method_5_code 107 = .ok (.goto 38, 3) := by decide +kernel
theorem d4_145 : decode prog_1_method_5_code 145 = .ok (.aload_n 0, 1) := by decide +kernel
theorem d4_146 : decode prog_1_method_5_code 146 = .ok (.getfield 7, 3) := by decide +kernel
theorem d4_149 : decode prog_1_method_5_code 149 = .ok (.iload 5, 2) := by decide +kernel
theorem d4_151 : decode prog_1_method_5_code 151 = .ok (.dload_n 2, 1) := by decide +kernel
theorem d4_152 : decode prog_1_method_5_code 152 = .ok (.dastore, 1) := by decide +kernel
theorem d4_153 : decode prog_1_method_5_code 153 = .ok (.aload_n 0, 1) := by decide +kernel
theorem d4_154 : decode prog_1_method_5_code 154 = .ok (.getfield 13, 3) := by decide +kernel
theorem d4_157 : decode prog_1_method_5_code 157 = .ok (.iload 5, 2) := by decide +kernel
theorem d4_159 : decode prog_1_method_5_code 159 = .ok (.iload 4, 2) := by decide +kernel
theorem d4_161 : decode prog_1_method_5_code 161 = .ok (.iastore, 1) := by decide +kernel
theorem d4_162 : decode prog_1_method_5_code 162 = .ok (.iload_n 1, 1) := by decide +kernel
theorem d4_163 : decode prog_1_method_5_code 163 = .ok (.ireturn, 1) := by decide +kernel
theorem d4_110 : decode prog_1_method_5_code 110 = .ok (.aload_n 0, 1) := by decide +kernel
theorem d4_111 : decode prog_1_method_5_code 111 = .ok (.getfield 7, 3) := by decide +kernel
theorem d4_114 : decode prog_1_method_5_code 114 = .ok (.iload 5, 2) := by decide +kernel
theorem d4_116 : decode prog_1_method_5_code 116 = .ok (.aload_n 0, 1) := by decide +kernel
theorem d4_117 : decode prog_1_method_5_code 117 = .ok (.getfield 7, 3) := by decide +kernel
theorem d4_120 : decode prog_1_method_5_code 120 = .ok (.iload 6, 2) := by decide +kernel
theorem d4_122 : decode prog_1_method_5_code 122 = .ok (.daload, 1) := by decide +kernel
theorem d4_123 : decode prog_1_method_5_code 123 = .ok (.dastore, 1) := by decide +kernel
theorem d4_124 : decode prog_1_method_5_code 124 = .ok (.aload_n 0, 1) := by decide +kernel
theorem d4_125 : decode prog_1_method_5_code 125 = .ok (.getfield 13, 3) := by decide +kernel
theorem d4_128 : decode prog_1_method_5_code 128 = .ok (.iload 5, 2) := by decide +kernel
theorem d4_130 : decode prog_1_method_5_code 130 = .ok (.aload_n 0, 1) := by decide +kernel
theorem d4_131 : decode prog_1_method_5_code 131 = .ok (.getfield 13, 3) := by decide +kernel
theorem d4_134 : decode prog_1_method_5_code 134 = .ok (.iload 6, 2) := by decide +kernel
theorem d4_136 : decode prog_1_method_5_code 136 = .ok (.iaload, 1) := by decide +kernel
theorem d4_137 : decode prog_1_method_5_code 137 = .ok (.iastore, 1) := by decide +kernel
theorem d4_138 : decode prog_1_method_5_code 138 = .ok (.iload 6, 2) := by decide +kernel
theorem d4_140 : decode prog_1_method_5_code 140 = .ok (.istore 5, 2) := by decide +kernel
theorem d4_142 : decode prog_1_method_5_code 142 = .ok (.goto (-101), 3) := by decide +kernel
theorem d4_58 : decode prog_1_method_5_code 58 = .ok (.goto 87, 3) := by decide +kernel
set_option maxRecDepth 65536 in
set_option maxHeartbeats 40000000 in
theorem w_rem5 {p : Program} {l : Launch} {e : Env} {s : State} {m : MethodId} {args : Array Value} {below : List Frame} {meth : Method} {c_ : Code} {T0 : State} {locs : List Loc} {Z : State} {a0 : Array Value} {h0 : Heap} {n0 : Nat} (q u v : Addr) (g : Nat → UInt64) (l' : Nat → Int32) (T : Nat → UInt64) (Lp : Nat → Int32) (K : Nat → Int) (a : Nat → Nat)
    (X0 : Stand p l e ({ frames := 0, cells := 0, slots := 0, locals := 0 } : Room) s m args below meth c_ T0 locs 0 0) (hx : p.tables.exec = Jvm.exec) (hZ : Z.Warmed39 s.vm) (hw : ∀ d ∈ tables_1, d.before a0 Z = true) (hby : c_.code = prog_1_method_5_code) (hml : c_.maxLocals = 7) (hown : s.vm.findClass "com/example/wavegrade/wavegrade/DepartureQueue" = some m.cls) (hnm : meth.name = "removeFirst") (hret : meth.sig.returnType = some .int) (hlk : meth.locks = false) (e0 : T0.heap = h0) (Z0 : n0 ≤ h0.size) (N0 : Fr n0 locs) (E_q : Exa Z h0 q "com/example/wavegrade/wavegrade/DepartureQueue") (F_size_q : Fld Z h0 q "com/example/wavegrade/wavegrade/DepartureQueue" "size" "I" (.int (5 : Int32))) (F_times_q : Fld Z h0 q "com/example/wavegrade/wavegrade/DepartureQueue" "times" "[D" (.ref u)) (F_lightpaths_q : Fld Z h0 q "com/example/wavegrade/wavegrade/DepartureQueue" "lightpaths" "[I" (.ref v)) (V_u : Dv Z h0 u (64 : Int32) g) (V_v : Iv Z h0 v (64 : Int32) l') (ne_q_u : q ≠ u) (ne_q_v : q ≠ v) (ne_u_v : u ≠ v) (ge_q : n0 ≤ q) (ge_u : n0 ≤ u) (ge_v : n0 ≤ v) (hT : ∀ x y, FP.dcmp (T x) (T y) = some (compare (K x) (K y))) (hg : ∀ i, i < 5 → g i = T (a i)) (hl : ∀ i, i < 5 → l' i = Lp (a i)) (hi : HI K a 5) :
    Go p e below s ({ frames := 0, cells := 0, slots := 0, locals := 0 } : Room).cells ({ frames := 0, cells := 0, slots := 0, locals := 0 } : Room).slots (fun r h L => r = some (.int (Lp (a 0))) ∧ Fr n0 L ∧ Keep h0 h [q, u, v] ∧ Exa Z h q "com/example/wavegrade/wavegrade/DepartureQueue" ∧ Fld Z h q "com/example/wavegrade/wavegrade/DepartureQueue" "size" "I" (.int (4 : Int32)) ∧ Fld Z h q "com/example/wavegrade/wavegrade/DepartureQueue" "times" "[D" (.ref u) ∧ Fld Z h q "com/example/wavegrade/wavegrade/DepartureQueue" "lightpaths" "[I" (.ref v) ∧ ∃ (g2 : Nat → UInt64) (l2 : Nat → Int32) (a2 : Nat → Nat), Dv Z h u (64 : Int32) g2 ∧ Iv Z h v (64 : Int32) l2 ∧ (∀ i, i < 4 → g2 i = T (a2 i)) ∧ (∀ i, i < 4 → l2 i = Lp (a2 i)) ∧ HI K a2 4 ∧ ((∀ i, i < 4 → K (a 0) ≤ K (a2 i)) ∧ ∀ w : Nat → Int, sumA w a2 4 + w (a 0) = sumA w a 5) ∧ ∀ P : Nat → Prop, (∀ i, i < 5 → P (a i)) → ∀ i, i < 4 → P (a2 i)) T0 (mkF m 0 #[.val (.ref q), .unset, .unset, .unset, .unset, .unset, .unset] []) := by
  have hg0 := hg 0 (by decide)
  have hg1 := hg 1 (by decide)
  have hg2 := hg 2 (by decide)
  have hg3 := hg 3 (by decide)
  have hg4 := hg 4 (by decide)
  have hl0 := hl 0 (by decide)
  have hl1 := hl 1 (by decide)
  have hl2 := hl 2 (by decide)
  have hl3 := hl 3 (by decide)
  have hl4 := hl 4 (by decide)
  simp only [HI] at hi
  show Go _ _ _ _ _ _ _ T0 (mkF m 0 #[.val (.ref q), .unset, .unset, .unset, .unset, .unset, .unset] [])
  refine Go.step (fun _ k => XS.aloadN X0.here hx rfl (hb hby d4_0) rfl rfl k) ?_
  show Go _ _ _ _ _ _ _ T0 (mkF m 1 #[.val (.ref q), .unset, .unset, .unset, .unset, .unset, .unset] [(.ref q)])
  obtain ⟨T1, X1, e1, st1⟩ := getF X0 hx hZ hown (host := "") (Or.inl (hw _ (List.mem_of_getElem? (i := 13) rfl))) Via.refl e0 F_lightpaths_q (g := (mkF m 1 #[.val (.ref q), .unset, .unset, .unset, .unset, .unset, .unset] [(.ref q)])) rfl rfl (hb hby d4_1)
  refine Go.step st1 ?_
  show Go _ _ _ _ _ _ _ T1 (mkF m 4 #[.val (.ref q), .unset, .unset, .unset, .unset, .unset, .unset] [(.ref v)])
  refine Go.step (fun _ k => XS.iconst X1.here hx rfl (hb hby d4_4) k) ?_
  show Go _ _ _ _ _ _ _ T1 (mkF m 5 #[.val (.ref q), .unset, .unset, .unset, .unset, .unset, .unset] [(.int (0 : Int32)), (.ref v)])
  refine Go.iaload X1 hx hZ e1 V_v (j := (0 : Int32)) (v := (Lp (a 0))) (by decide) (by first | rfl | simp [updN, hg0, hg1, hg2, hg3, hg4, hl0, hl1, hl2, hl3, hl4]) (hb hby d4_5) ?_
  show Go _ _ _ _ _ _ _ T1 (mkF m 6 #[.val (.ref q), .unset, .unset, .unset, .unset, .unset, .unset] [(.int (Lp (a 0)))])
  refine Go.step (fun _ k => XS.istoreN X1.here hx rfl (hb hby d4_6) rfl (l' := #[.val (.ref q), .val (.int (Lp (a 0))), .unset, .unset, .unset, .unset, .unset]) rfl k) ?_
  show Go _ _ _ _ _ _ _ T1 (mkF m 7 #[.val (.ref q), .val (.int (Lp (a 0))), .unset, .unset, .unset, .unset, .unset] [])
  refine Go.step (fun _ k => XS.aloadN X1.here hx rfl (hb hby d4_7) rfl rfl k) ?_
  show Go _ _ _ _ _ _ _ T1 (mkF m 8 #[.val (.ref q), .val (.int (Lp (a 0))), .unset, .unset, .unset, .unset, .unset] [(.ref q)])
  refine Go.step (fun _ k => XS.dup X1.here hx rfl (hb hby d4_8) rfl rfl k) ?_
  show Go _ _ _ _ _ _ _ T1 (mkF m 9 #[.val (.ref q), .val (.int (Lp (a 0))), .unset, .unset, .unset, .unset, .unset] [(.ref q), (.ref q)])
  obtain ⟨T2, X2, e2, st2⟩ := getF X1 hx hZ hown (host := "") (Or.inl (hw _ (List.mem_of_getElem? (i := 20) rfl))) Via.refl e1 F_size_q (g := (mkF m 9 #[.val (.ref q), .val (.int (Lp (a 0))), .unset, .unset, .unset, .unset, .unset] [(.ref q), (.ref q)])) rfl rfl (hb hby d4_9)
  refine Go.step st2 ?_
  show Go _ _ _ _ _ _ _ T2 (mkF m 12 #[.val (.ref q), .val (.int (Lp (a 0))), .unset, .unset, .unset, .unset, .unset] [(.int (5 : Int32)), (.ref q)])
  refine Go.step (fun _ k => XS.iconst X2.here hx rfl (hb hby d4_12) k) ?_
  show Go _ _ _ _ _ _ _ T2 (mkF m 13 #[.val (.ref q), .val (.int (Lp (a 0))), .unset, .unset, .unset, .unset, .unset] [(.int (1 : Int32)), (.int (5 : Int32)), (.ref q)])
  refine Go.step (fun _ k => XS.isub X2.here hx rfl (hb hby d4_13) rfl k) ?_
  show Go _ _ _ _ _ _ _ T2 (mkF m 14 #[.val (.ref q), .val (.int (Lp (a 0))), .unset, .unset, .unset, .unset, .unset] [(.int (4 : Int32)), (.ref q)])
  obtain ⟨T3, h3, X3, e3, W3, st3⟩ := putF X2 hx hZ hown (host := "") (Or.inl (hw _ (List.mem_of_getElem? (i := 20) rfl))) Via.refl e2 F_size_q E_q (Or.inl (hw _ (List.mem_of_getElem? (i := 21) rfl))) (hw _ (List.mem_of_getElem? (i := 2) rfl)) (ty := .int) (by decide) rfl rfl (g := (mkF m 14 #[.val (.ref q), .val (.int (Lp (a 0))), .unset, .unset, .unset, .unset, .unset] [(.int (4 : Int32)), (.ref q)])) rfl rfl (hb hby d4_14)
  refine Go.step st3 ?_
  have N3 := Fr.snoc X3 N0 ge_q
  have F_size_q_3 := F_size_q.same W3
  have E_q_3 := E_q.wr W3
  have F_times_q_3 := F_times_q.other W3 (Or.inr (slot_ne (Or.inl (hw _ (List.mem_of_getElem? (i := 12) rfl))) (Or.inl (hw _ (List.mem_of_getElem? (i := 21) rfl))) (by decide) (t := (.array .double)) (t' := .int) (by decide) (by decide)))
  have F_lightpaths_q_3 := F_lightpaths_q.other W3 (Or.inr (slot_ne (Or.inl (hw _ (List.mem_of_getElem? (i := 14) rfl))) (Or.inl (hw _ (List.mem_of_getElem? (i := 21) rfl))) (by decide) (t := (.array .int)) (t' := .int) (by decide) (by decide)))
  have V_u_3 := V_u.other W3 (Ne.symm ne_q_u)
  have V_v_3 := V_v.other W3 (Ne.symm ne_q_v)
  have K3 : Keep h0 h3 [q, u, v] := (Keep.refl h0 [q, u, v]).wr W3 (Or.inl (List.mem_of_getElem? (i := 0) rfl))
  show Go _ _ _ _ _ _ _ T3 (mkF m 17 #[.val (.ref q), .val (.int (Lp (a 0))), .unset, .unset, .unset, .unset, .unset] [])
  refine Go.step (fun _ k => XS.aloadN X3.here hx rfl (hb hby d4_17) rfl rfl k) ?_
  show Go _ _ _ _ _ _ _ T3 (mkF m 18 #[.val (.ref q), .val (.int (Lp (a 0))), .unset, .unset, .unset, .unset, .unset] [(.ref q)])
  obtain ⟨T4, X4, e4, st4⟩ := getF X3 hx hZ hown (host := "") (Or.inl (hw _ (List.mem_of_getElem? (i := 11) rfl))) Via.refl e3 F_times_q_3 (g := (mkF m 18 #[.val (.ref q), .val (.int (Lp (a 0))), .unset, .unset, .unset, .unset, .unset] [(.ref q)])) rfl rfl (hb hby d4_18)
  refine Go.step st4 ?_
  show Go _ _ _ _ _ _ _ T4 (mkF m 21 #[.val (.ref q), .val (.int (Lp (a 0))), .unset, .unset, .unset, .unset, .unset] [(.ref u)])
  refine Go.step (fun _ k => XS.aloadN X4.here hx rfl (hb hby d4_21) rfl rfl k) ?_
  show Go _ _ _ _ _ _ _ T4 (mkF m 22 #[.val (.ref q), .val (.int (Lp (a 0))), .unset, .unset, .unset, .unset, .unset] [(.ref q), (.ref u)])
  obtain ⟨T5, X5, e5, st5⟩ := getF X4 hx hZ hown (host := "") (Or.inl (hw _ (List.mem_of_getElem? (i := 20) rfl))) Via.refl e4 F_size_q_3 (g := (mkF m 22 #[.val (.ref q), .val (.int (Lp (a 0))), .unset, .unset, .unset, .unset, .unset] [(.ref q), (.ref u)])) rfl rfl (hb hby d4_22)
  refine Go.step st5 ?_
  show Go _ _ _ _ _ _ _ T5 (mkF m 25 #[.val (.ref q), .val (.int (Lp (a 0))), .unset, .unset, .unset, .unset, .unset] [(.int (4 : Int32)), (.ref u)])
  refine Go.daload X5 hx hZ e5 V_u_3 (j := (4 : Int32)) (v := (T (a 4))) (by decide) (by first | rfl | simp [updN, hg0, hg1, hg2, hg3, hg4, hl0, hl1, hl2, hl3, hl4]) (hb hby d4_25) ?_
  show Go _ _ _ _ _ _ _ T5 (mkF m 26 #[.val (.ref q), .val (.int (Lp (a 0))), .unset, .unset, .unset, .unset, .unset] [(.double (T (a 4)))])
  refine Go.step (fun _ k => XS.dstoreN X5.here hx rfl (hb hby d4_26) rfl (l' := #[.val (.ref q), .val (.int (Lp (a 0))), .val (.double (T (a 4))), .second, .unset, .unset, .unset]) rfl k) ?_
  show Go _ _ _ _ _ _ _ T5 (mkF m 27 #[.val (.ref q), .val (.int (Lp (a 0))), .val (.double (T (a 4))), .second, .unset, .unset, .unset] [])
  refine Go.step (fun _ k => XS.aloadN X5.here hx rfl (hb hby d4_27) rfl rfl k) ?_
  show Go _ _ _ _ _ _ _ T5 (mkF m 28 #[.val (.ref q), .val (.int (Lp (a 0))), .val (.double (T (a 4))), .second, .unset, .unset, .unset] [(.ref q)])
  obtain ⟨T6, X6, e6, st6⟩ := getF X5 hx hZ hown (host := "") (Or.inl (hw _ (List.mem_of_getElem? (i := 13) rfl))) Via.refl e5 F_lightpaths_q_3 (g := (mkF m 28 #[.val (.ref q), .val (.int (Lp (a 0))), .val (.double (T (a 4))), .second, .unset, .unset, .unset] [(.ref q)])) rfl rfl (hb hby d4_28)
  refine Go.step st6 ?_
  show Go _ _ _ _ _ _ _ T6 (mkF m 31 #[.val (.ref q), .val (.int (Lp (a 0))), .val (.double (T (a 4))), .second, .unset, .unset, .unset] [(.ref v)])
  refine Go.step (fun _ k => XS.aloadN X6.here hx rfl (hb hby d4_31) rfl rfl k) ?_
  show Go _ _ _ _ _ _ _ T6 (mkF m 32 #[.val (.ref q), .val (.int (Lp (a 0))), .val (.double (T (a 4))), .second, .unset, .unset, .unset] [(.ref q), (.ref v)])
  obtain ⟨T7, X7, e7, st7⟩ := getF X6 hx hZ hown (host := "") (Or.inl (hw _ (List.mem_of_getElem? (i := 20) rfl))) Via.refl e6 F_size_q_3 (g := (mkF m 32 #[.val (.ref q), .val (.int (Lp (a 0))), .val (.double (T (a 4))), .second, .unset, .unset, .unset] [(.ref q), (.ref v)])) rfl rfl (hb hby d4_32)
  refine Go.step st7 ?_
  show Go _ _ _ _ _ _ _ T7 (mkF m 35 #[.val (.ref q), .val (.int (Lp (a 0))), .val (.double (T (a 4))), .second, .unset, .unset, .unset] [(.int (4 : Int32)), (.ref v)])
  refine Go.iaload X7 hx hZ e7 V_v_3 (j := (4 : Int32)) (v := (Lp (a 4))) (by decide) (by first | rfl | simp [updN, hg0, hg1, hg2, hg3, hg4, hl0, hl1, hl2, hl3, hl4]) (hb hby d4_35) ?_
  show Go _ _ _ _ _ _ _ T7 (mkF m 36 #[.val (.ref q), .val (.int (Lp (a 0))), .val (.double (T (a 4))), .second, .unset, .unset, .unset] [(.int (Lp (a 4)))])
  refine Go.step (fun _ k => XS.istore X7.here hx rfl (hb hby d4_36) rfl (l' := #[.val (.ref q), .val (.int (Lp (a 0))), .val (.double (T (a 4))), .second, .val (.int (Lp (a 4))), .unset, .unset]) rfl k) ?_
  show Go _ _ _ _ _ _ _ T7 (mkF m 38 #[.val (.ref q), .val (.int (Lp (a 0))), .val (.double (T (a 4))), .second, .val (.int (Lp (a 4))), .unset, .unset] [])
  refine Go.step (fun _ k => XS.iconst X7.here hx rfl (hb hby d4_38) k) ?_
  show Go _ _ _ _ _ _ _ T7 (mkF m 39 #[.val (.ref q), .val (.int (Lp (a 0))), .val (.double (T (a 4))), .second, .val (.int (Lp (a 4))), .unset, .unset] [(.int (0 : Int32))])
  refine Go.step (fun _ k => XS.istore X7.here hx rfl (hb hby d4_39) rfl (l' := #[.val (.ref q), .val (.int (Lp (a 0))), .val (.double (T (a 4))), .second, .val (.int (Lp (a 4))), .val (.int (0 : Int32)), .unset]) rfl k) ?_
  show Go _ _ _ _ _ _ _ T7 (mkF m 41 #[.val (.ref q), .val (.int (Lp (a 0))), .val (.double (T (a 4))), .second, .val (.int (Lp (a 4))), .val (.int (0 : Int32)), .unset] [])
  refine Go.step (fun _ k => XS.iconst X7.here hx rfl (hb hby d4_41) k) ?_
  show Go _ _ _ _ _ _ _ T7 (mkF m 42 #[.val (.ref q), .val (.int (Lp (a 0))), .val (.double (T (a 4))), .second, .val (.int (Lp (a 4))), .val (.int (0 : Int32)), .unset] [(.int (2 : Int32))])
  refine Go.step (fun _ k => XS.iload X7.here hx rfl (hb hby d4_42) rfl k) ?_
  show Go _ _ _ _ _ _ _ T7 (mkF m 44 #[.val (.ref q), .val (.int (Lp (a 0))), .val (.double (T (a 4))), .second, .val (.int (Lp (a 4))), .val (.int (0 : Int32)), .unset] [(.int (0 : Int32)), (.int (2 : Int32))])
  refine Go.step (fun _ k => XS.imul X7.here hx rfl (hb hby d4_44) rfl k) ?_
  show Go _ _ _ _ _ _ _ T7 (mkF m 45 #[.val (.ref q), .val (.int (Lp (a 0))), .val (.double (T (a 4))), .second, .val (.int (Lp (a 4))), .val (.int (0 : Int32)), .unset] [(.int (0 : Int32))])
  refine Go.step (fun _ k => XS.iconst X7.here hx rfl (hb hby d4_45) k) ?_
  show Go _ _ _ _ _ _ _ T7 (mkF m 46 #[.val (.ref q), .val (.int (Lp (a 0))), .val (.double (T (a 4))), .second, .val (.int (Lp (a 4))), .val (.int (0 : Int32)), .unset] [(.int (1 : Int32)), (.int (0 : Int32))])
  refine Go.step (fun _ k => XS.iadd X7.here hx rfl (hb hby d4_46) rfl k) ?_
  show Go _ _ _ _ _ _ _ T7 (mkF m 47 #[.val (.ref q), .val (.int (Lp (a 0))), .val (.double (T (a 4))), .second, .val (.int (Lp (a 4))), .val (.int (0 : Int32)), .unset] [(.int (1 : Int32))])
  refine Go.step (fun _ k => XS.istore X7.here hx rfl (hb hby d4_47) rfl (l' := #[.val (.ref q), .val (.int (Lp (a 0))), .val (.double (T (a 4))), .second, .val (.int (Lp (a 4))), .val (.int (0 : Int32)), .val (.int (1 : Int32))]) rfl k) ?_
  show Go _ _ _ _ _ _ _ T7 (mkF m 49 #[.val (.ref q), .val (.int (Lp (a 0))), .val (.double (T (a 4))), .second, .val (.int (Lp (a 4))), .val (.int (0 : Int32)), .val (.int (1 : Int32))] [])
  refine Go.step (fun _ k => XS.iload X7.here hx rfl (hb hby d4_49) rfl k) ?_
  show Go _ _ _ _ _ _ _ T7 (mkF m 51 #[.val (.ref q), .val (.int (Lp (a 0))), .val (.double (T (a 4))), .second, .val (.int (Lp (a 4))), .val (.int (0 : Int32)), .val (.int (1 : Int32))] [(.int (1 : Int32))])
  refine Go.step (fun _ k => XS.aloadN X7.here hx rfl (hb hby d4_51) rfl rfl k) ?_
  show Go _ _ _ _ _ _ _ T7 (mkF m 52 #[.val (.ref q), .val (.int (Lp (a 0))), .val (.double (T (a 4))), .second, .val (.int (Lp (a 4))), .val (.int (0 : Int32)), .val (.int (1 : Int32))] [(.ref q), (.int (1 : Int32))])
  obtain ⟨T8, X8, e8, st8⟩ := getF X7 hx hZ hown (host := "") (Or.inl (hw _ (List.mem_of_getElem? (i := 20) rfl))) Via.refl e7 F_size_q_3 (g := (mkF m 52 #[.val (.ref q), .val (.int (Lp (a 0))), .val (.double (T (a 4))), .second, .val (.int (Lp (a 4))), .val (.int (0 : Int32)), .val (.int (1 : Int32))] [(.ref q), (.int (1 : Int32))])) rfl rfl (hb hby d4_52)
  refine Go.step st8 ?_
  show Go _ _ _ _ _ _ _ T8 (mkF m 55 #[.val (.ref q), .val (.int (Lp (a 0))), .val (.double (T (a 4))), .second, .val (.int (Lp (a 4))), .val (.int (0 : Int32)), .val (.int (1 : Int32))] [(.int (4 : Int32)), (.int (1 : Int32))])
  refine Go.step (fun _ k => XS.icmpYes X8.here hx rfl (pc0 := 55) (pc' := 61) rfl (hb hby d4_55) rfl (tlt (by decide : (1 : Int32) < (4 : Int32))).1 (by decide) (by decide) k) ?_
  show Go _ _ _ _ _ _ _ T8 (mkF m 61 #[.val (.ref q), .val (.int (Lp (a 0))), .val (.double (T (a 4))), .second, .val (.int (Lp (a 4))), .val (.int (0 : Int32)), .val (.int (1 : Int32))] [])
  refine Go.step (fun _ k => XS.iload X8.here hx rfl (hb hby d4_61) rfl k) ?_
  show Go _ _ _ _ _ _ _ T8 (mkF m 63 #[.val (.ref q), .val (.int (Lp (a 0))), .val (.double (T (a 4))), .second, .val (.int (Lp (a 4))), .val (.int (0 : Int32)), .val (.int (1 : Int32))] [(.int (1 : Int32))])
  refine Go.step (fun _ k => XS.iconst X8.here hx rfl (hb hby d4_63) k) ?_
  show Go _ _ _ _ _ _ _ T8 (mkF m 64 #[.val (.ref q), .val (.int (Lp (a 0))), .val (.double (T (a 4))), .second, .val (.int (Lp (a 4))), .val (.int (0 : Int32)), .val (.int (1 : Int32))] [(.int (1 : Int32)), (.int (1 : Int32))])
  refine Go.step (fun _ k => XS.iadd X8.here hx rfl (hb hby d4_64) rfl k) ?_
  show Go _ _ _ _ _ _ _ T8 (mkF m 65 #[.val (.ref q), .val (.int (Lp (a 0))), .val (.double (T (a 4))), .second, .val (.int (Lp (a 4))), .val (.int (0 : Int32)), .val (.int (1 : Int32))] [(.int (2 : Int32))])
  refine Go.step (fun _ k => XS.aloadN X8.here hx rfl (hb hby d4_65) rfl rfl k) ?_
  show Go _ _ _ _ _ _ _ T8 (mkF m 66 #[.val (.ref q), .val (.int (Lp (a 0))), .val (.double (T (a 4))), .second, .val (.int (Lp (a 4))), .val (.int (0 : Int32)), .val (.int (1 : Int32))] [(.ref q), (.int (2 : Int32))])
  obtain ⟨T9, X9, e9, st9⟩ := getF X8 hx hZ hown (host := "") (Or.inl (hw _ (List.mem_of_getElem? (i := 20) rfl))) Via.refl e8 F_size_q_3 (g := (mkF m 66 #[.val (.ref q), .val (.int (Lp (a 0))), .val (.double (T (a 4))), .second, .val (.int (Lp (a 4))), .val (.int (0 : Int32)), .val (.int (1 : Int32))] [(.ref q), (.int (2 : Int32))])) rfl rfl (hb hby d4_66)
  refine Go.step st9 ?_
  show Go _ _ _ _ _ _ _ T9 (mkF m 69 #[.val (.ref q), .val (.int (Lp (a 0))), .val (.double (T (a 4))), .second, .val (.int (Lp (a 4))), .val (.int (0 : Int32)), .val (.int (1 : Int32))] [(.int (4 : Int32)), (.int (2 : Int32))])
  refine Go.step (fun _ k => XS.icmpNo X9.here hx rfl (hb hby d4_69) rfl (tlt (by decide : (2 : Int32) < (4 : Int32))).2.1 k) ?_
  show Go _ _ _ _ _ _ _ T9 (mkF m 72 #[.val (.ref q), .val (.int (Lp (a 0))), .val (.double (T (a 4))), .second, .val (.int (Lp (a 4))), .val (.int (0 : Int32)), .val (.int (1 : Int32))] [])
  refine Go.step (fun _ k => XS.aloadN X9.here hx rfl (hb hby d4_72) rfl rfl k) ?_
  show Go _ _ _ _ _ _ _ T9 (mkF m 73 #[.val (.ref q), .val (.int (Lp (a 0))), .val (.double (T (a 4))), .second, .val (.int (Lp (a 4))), .val (.int (0 : Int32)), .val (.int (1 : Int32))] [(.ref q)])
  obtain ⟨T10, X10, e10, st10⟩ := getF X9 hx hZ hown (host := "") (Or.inl (hw _ (List.mem_of_getElem? (i := 11) rfl))) Via.refl e9 F_times_q_3 (g := (mkF m 73 #[.val (.ref q), .val (.int (Lp (a 0))), .val (.double (T (a 4))), .second, .val (.int (Lp (a 4))), .val (.int (0 : Int32)), .val (.int (1 : Int32))] [(.ref q)])) rfl rfl (hb hby d4_73)
  refine Go.step st10 ?_
  show Go _ _ _ _ _ _ _ T10 (mkF m 76 #[.val (.ref q), .val (.int (Lp (a 0))), .val (.double (T (a 4))), .second, .val (.int (Lp (a 4))), .val (.int (0 : Int32)), .val (.int (1 : Int32))] [(.ref u)])
  refine Go.step (fun _ k => XS.iload X10.here hx rfl (hb hby d4_76) rfl k) ?_
  show Go _ _ _ _ _ _ _ T10 (mkF m 78 #[.val (.ref q), .val (.int (Lp (a 0))), .val (.double (T (a 4))), .second, .val (.int (Lp (a 4))), .val (.int (0 : Int32)), .val (.int (1 : Int32))] [(.int (1 : Int32)), (.ref u)])
  refine Go.step (fun _ k => XS.iconst X10.here hx rfl (hb hby d4_78) k) ?_
  show Go _ _ _ _ _ _ _ T10 (mkF m 79 #[.val (.ref q), .val (.int (Lp (a 0))), .val (.double (T (a 4))), .second, .val (.int (Lp (a 4))), .val (.int (0 : Int32)), .val (.int (1 : Int32))] [(.int (1 : Int32)), (.int (1 : Int32)), (.ref u)])
  refine Go.step (fun _ k => XS.iadd X10.here hx rfl (hb hby d4_79) rfl k) ?_
  show Go _ _ _ _ _ _ _ T10 (mkF m 80 #[.val (.ref q), .val (.int (Lp (a 0))), .val (.double (T (a 4))), .second, .val (.int (Lp (a 4))), .val (.int (0 : Int32)), .val (.int (1 : Int32))] [(.int (2 : Int32)), (.ref u)])
  refine Go.daload X10 hx hZ e10 V_u_3 (j := (2 : Int32)) (v := (T (a 2))) (by decide) (by first | rfl | simp [updN, hg0, hg1, hg2, hg3, hg4, hl0, hl1, hl2, hl3, hl4]) (hb hby d4_80) ?_
  show Go _ _ _ _ _ _ _ T10 (mkF m 81 #[.val (.ref q), .val (.int (Lp (a 0))), .val (.double (T (a 4))), .second, .val (.int (Lp (a 4))), .val (.int (0 : Int32)), .val (.int (1 : Int32))] [(.double (T (a 2)))])
  refine Go.step (fun _ k => XS.aloadN X10.here hx rfl (hb hby d4_81) rfl rfl k) ?_
  show Go _ _ _ _ _ _ _ T10 (mkF m 82 #[.val (.ref q), .val (.int (Lp (a 0))), .val (.double (T (a 4))), .second, .val (.int (Lp (a 4))), .val (.int (0 : Int32)), .val (.int (1 : Int32))] [(.ref q), (.double (T (a 2)))])
  obtain ⟨T11, X11, e11, st11⟩ := getF X10 hx hZ hown (host := "") (Or.inl (hw _ (List.mem_of_getElem? (i := 11) rfl))) Via.refl e10 F_times_q_3 (g := (mkF m 82 #[.val (.ref q), .val (.int (Lp (a 0))), .val (.double (T (a 4))), .second, .val (.int (Lp (a 4))), .val (.int (0 : Int32)), .val (.int (1 : Int32))] [(.ref q), (.double (T (a 2)))])) rfl rfl (hb hby d4_82)
  refine Go.step st11 ?_
  show Go _ _ _ _ _ _ _ T11 (mkF m 85 #[.val (.ref q), .val (.int (Lp (a 0))), .val (.double (T (a 4))), .second, .val (.int (Lp (a 4))), .val (.int (0 : Int32)), .val (.int (1 : Int32))] [(.ref u), (.double (T (a 2)))])
  refine Go.step (fun _ k => XS.iload X11.here hx rfl (hb hby d4_85) rfl k) ?_
  show Go _ _ _ _ _ _ _ T11 (mkF m 87 #[.val (.ref q), .val (.int (Lp (a 0))), .val (.double (T (a 4))), .second, .val (.int (Lp (a 4))), .val (.int (0 : Int32)), .val (.int (1 : Int32))] [(.int (1 : Int32)), (.ref u), (.double (T (a 2)))])
  refine Go.daload X11 hx hZ e11 V_u_3 (j := (1 : Int32)) (v := (T (a 1))) (by decide) (by first | rfl | simp [updN, hg0, hg1, hg2, hg3, hg4, hl0, hl1, hl2, hl3, hl4]) (hb hby d4_87) ?_
  show Go _ _ _ _ _ _ _ T11 (mkF m 88 #[.val (.ref q), .val (.int (Lp (a 0))), .val (.double (T (a 4))), .second, .val (.int (Lp (a 4))), .val (.int (0 : Int32)), .val (.int (1 : Int32))] [(.double (T (a 1))), (.double (T (a 2)))])
  refine Go.step (fun _ k => XS.dcmpS X11.here hx rfl (hb hby d4_88) rfl rfl k) ?_
  show Go _ _ _ _ _ _ _ T11 (mkF m 89 #[.val (.ref q), .val (.int (Lp (a 0))), .val (.double (T (a 4))), .second, .val (.int (Lp (a 4))), .val (.int (0 : Int32)), .val (.int (1 : Int32))] [(.int (cmpValue (FP.dcmp (T (a 2)) (T (a 1))) .g))])
  by_cases hd89_12 : FP.dcmp (T (a 2)) (T (a 1)) = some .lt
  · refine Go.step (fun _ k => XS.ifNo X11.here hx rfl (hb hby d4_89) rfl (lt_y hd89_12) k) ?_
    show Go _ _ _ _ _ _ _ T11 (mkF m 92 #[.val (.ref q), .val (.int (Lp (a 0))), .val (.double (T (a 4))), .second, .val (.int (Lp (a 4))), .val (.int (0 : Int32)), .val (.int (1 : Int32))] [])
    refine Go.step (fun _ k => XS.iinc X11.here hx rfl (hb hby d4_92) rfl (l' := #[.val (.ref q), .val (.int (Lp (a 0))), .val (.double (T (a 4))), .second, .val (.int (Lp (a 4))), .val (.int (0 : Int32)), .val (.int (2 : Int32))]) rfl k) ?_
    show Go _ _ _ _ _ _ _ T11 (mkF m 95 #[.val (.ref q), .val (.int (Lp (a 0))), .val (.double (T (a 4))), .second, .val (.int (Lp (a 4))), .val (.int (0 : Int32)), .val (.int (2 : Int32))] [])
    refine Go.step (fun _ k => XS.aloadN X11.here hx rfl (hb hby d4_95) rfl rfl k) ?_
    show Go _ _ _ _ _ _ _ T11 (mkF m 96 #[.val (.ref q), .val (.int (Lp (a 0))), .val (.double (T (a 4))), .second, .val (.int (Lp (a 4))), .val (.int (0 : Int32)), .val (.int (2 : Int32))] [(.ref q)])
    obtain ⟨T13, X13, e13, st13⟩ := getF X11 hx hZ hown (host := "") (Or.inl (hw _ (List.mem_of_getElem? (i := 11) rfl))) Via.refl e11 F_times_q_3 (g := (mkF m 96 #[.val (.ref q), .val (.int (Lp (a 0))), .val (.double (T (a 4))), .second, .val (.int (Lp (a 4))), .val (.int (0 : Int32)), .val (.int (2 : Int32))] [(.ref q)])) rfl rfl (hb hby d4_96)
    refine Go.step st13 ?_
    show Go _ _ _ _ _ _ _ T13 (mkF m 99 #[.val (.ref q), .val (.int (Lp (a 0))), .val (.double (T (a 4))), .second, .val (.int (Lp (a 4))), .val (.int (0 : Int32)), .val (.int (2 : Int32))] [(.ref u)])
    refine Go.step (fun _ k => XS.iload X13.here hx rfl (hb hby d4_99) rfl k) ?_
    show Go _ _ _ _ _ _ _ T13 (mkF m 101 #[.val (.ref q), .val (.int (Lp (a 0))), .val (.double (T (a 4))), .second, .val (.int (Lp (a 4))), .val (.int (0 : Int32)), .val (.int (2 : Int32))] [(.int (2 : Int32)), (.ref u)])
    refine Go.daload X13 hx hZ e13 V_u_3 (j := (2 : Int32)) (v := (T (a 2))) (by decide) (by first | rfl | simp [updN, hg0, hg1, hg2, hg3, hg4, hl0, hl1, hl2, hl3, hl4]) (hb hby d4_101) ?_
    show Go _ _ _ _ _ _ _ T13 (mkF m 102 #[.val (.ref q), .val (.int (Lp (a 0))), .val (.double (T (a 4))), .second, .val (.int (Lp (a 4))), .val (.int (0 : Int32)), .val (.int (2 : Int32))] [(.double (T (a 2)))])
    refine Go.step (fun _ k => XS.dloadN X13.here hx rfl (hb hby d4_102) rfl k) ?_
    show Go _ _ _ _ _ _ _ T13 (mkF m 103 #[.val (.ref q), .val (.int (Lp (a 0))), .val (.double (T (a 4))), .second, .val (.int (Lp (a 4))), .val (.int (0 : Int32)), .val (.int (2 : Int32))] [(.double (T (a 4))), (.double (T (a 2)))])
    refine Go.step (fun _ k => XS.dcmpS X13.here hx rfl (hb hby d4_103) rfl rfl k) ?_
    show Go _ _ _ _ _ _ _ T13 (mkF m 104 #[.val (.ref q), .val (.int (Lp (a 0))), .val (.double (T (a 4))), .second, .val (.int (Lp (a 4))), .val (.int (0 : Int32)), .val (.int (2 : Int32))] [(.int (cmpValue (FP.dcmp (T (a 2)) (T (a 4))) .l))])
    by_cases hd104_14 : (FP.dcmp (T (a 2)) (T (a 4)) = some .gt ∨ FP.dcmp (T (a 2)) (T (a 4)) = some .eq)
    · refine Go.step (fun _ k => XS.ifNo X13.here hx rfl (hb hby d4_104) rfl (ge_y hd104_14) k) ?_
      show Go _ _ _ _ _ _ _ T13 (mkF m 107 #[.val (.ref q), .val (.int (Lp (a 0))), .val (.double (T (a 4))), .second, .val (.int (Lp (a 4))), .val (.int (0 : Int32)), .val (.int (2 : Int32))] [])
      refine Go.step (fun _ k => XS.goto X13.here hx rfl (pc0 := 107) (pc' := 145) rfl (hb hby d4_107) (by decide) (by decide) k) ?_
      show Go _ _ _ _ _ _ _ T13 (mkF m 145 #[.val (.ref q), .val (.int (Lp (a 0))), .val (.double (T (a 4))), .second, .val (.int (Lp (a 4))), .val (.int (0 : Int32)), .val (.int (2 : Int32))] [])
      refine Go.step (fun _ k => XS.aloadN X13.here hx rfl (hb hby d4_145) rfl rfl k) ?_
      show Go _ _ _ _ _ _ _ T13 (mkF m 146 #[.val (.ref q), .val (.int (Lp (a 0))), .val (.double (T (a 4))), .second, .val (.int (Lp (a 4))), .val (.int (0 : Int32)), .val (.int (2 : Int32))] [(.ref q)])
      obtain ⟨T15, X15, e15, st15⟩ := getF X13 hx hZ hown (host := "") (Or.inl (hw _ (List.mem_of_getElem? (i := 11) rfl))) Via.refl e13 F_times_q_3 (g := (mkF m 146 #[.val (.ref q), .val (.int (Lp (a 0))), .val (.double (T (a 4))), .second, .val (.int (Lp (a 4))), .val (.int (0 : Int32)), .val (.int (2 : Int32))] [(.ref q)])) rfl rfl (hb hby d4_146)
      refine Go.step st15 ?_
      show Go _ _ _ _ _ _ _ T15 (mkF m 149 #[.val (.ref q), .val (.int (Lp (a 0))), .val (.double (T (a 4))), .second, .val (.int (Lp (a 4))), .val (.int (0 : Int32)), .val (.int (2 : Int32))] [(.ref u)])
      refine Go.step (fun _ k => XS.iload X15.here hx rfl (hb hby d4_149) rfl k) ?_
      show Go _ _ _ _ _ _ _ T15 (mkF m 151 #[.val (.ref q), .val (.int (Lp (a 0))), .val (.double (T (a 4))), .second, .val (.int (Lp (a 4))), .val (.int (0 : Int32)), .val (.int (2 : Int32))] [(.int (0 : Int32)), (.ref u)])
      refine Go.step (fun _ k => XS.dloadN X15.here hx rfl (hb hby d4_151) rfl k) ?_
      show Go _ _ _ _ _ _ _ T15 (mkF m 152 #[.val (.ref q), .val (.int (Lp (a 0))), .val (.double (T (a 4))), .second, .val (.int (Lp (a 4))), .val (.int (0 : Int32)), .val (.int (2 : Int32))] [(.double (T (a 4))), (.int (0 : Int32)), (.ref u)])
      refine Go.dastore X15 hx hZ e15 V_u_3 (j := (0 : Int32)) (x := (T (a 4))) (by decide) (hb hby d4_152) ?_
      intro T16 h16 X16 e16 W16 Vn16
      have V_u_16 : Dv Z h16 u (64 : Int32) (updN g 0 (T (a 4))) := Vn16
      have N16 := Fr.snoc X16 N3 ge_u
      have E_q_16 := E_q_3.wr W16
      have F_size_q_16 := F_size_q_3.other W16 (Or.inl ne_q_u)
      have F_times_q_16 := F_times_q_3.other W16 (Or.inl ne_q_u)
      have F_lightpaths_q_16 := F_lightpaths_q_3.other W16 (Or.inl ne_q_u)
      have V_v_16 := V_v_3.other W16 (Ne.symm ne_u_v)
      have K16 : Keep h0 h16 [q, u, v] := K3.wr W16 (Or.inl (List.mem_of_getElem? (i := 1) rfl))
      show Go _ _ _ _ _ _ _ T16 (mkF m 153 #[.val (.ref q), .val (.int (Lp (a 0))), .val (.double (T (a 4))), .second, .val (.int (Lp (a 4))), .val (.int (0 : Int32)), .val (.int (2 : Int32))] [])
      refine Go.step (fun _ k => XS.aloadN X16.here hx rfl (hb hby d4_153) rfl rfl k) ?_
      show Go _ _ _ _ _ _ _ T16 (mkF m 154 #[.val (.ref q), .val (.int (Lp (a 0))), .val (.double (T (a 4))), .second, .val (.int (Lp (a 4))), .val (.int (0 : Int32)), .val (.int (2 : Int32))] [(.ref q)])
      obtain ⟨T17, X17, e17, st17⟩ := getF X16 hx hZ hown (host := "") (Or.inl (hw _ (List.mem_of_getElem? (i := 13) rfl))) Via.refl e16 F_lightpaths_q_16 (g := (mkF m 154 #[.val (.ref q), .val (.int (Lp (a 0))), .val (.double (T (a 4))), .second, .val (.int (Lp (a 4))), .val (.int (0 : Int32)), .val (.int (2 : Int32))] [(.ref q)])) rfl rfl (hb hby d4_154)
      refine Go.step st17 ?_
      show Go _ _ _ _ _ _ _ T17 (mkF m 157 #[.val (.ref q), .val (.int (Lp (a 0))), .val (.double (T (a 4))), .second, .val (.int (Lp (a 4))), .val (.int (0 : Int32)), .val (.int (2 : Int32))] [(.ref v)])
      refine Go.step (fun _ k => XS.iload X17.here hx rfl (hb hby d4_157) rfl k) ?_
      show Go _ _ _ _ _ _ _ T17 (mkF m 159 #[.val (.ref q), .val (.int (Lp (a 0))), .val (.double (T (a 4))), .second, .val (.int (Lp (a 4))), .val (.int (0 : Int32)), .val (.int (2 : Int32))] [(.int (0 : Int32)), (.ref v)])
      refine Go.step (fun _ k => XS.iload X17.here hx rfl (hb hby d4_159) rfl k) ?_
      show Go _ _ _ _ _ _ _ T17 (mkF m 161 #[.val (.ref q), .val (.int (Lp (a 0))), .val (.double (T (a 4))), .second, .val (.int (Lp (a 4))), .val (.int (0 : Int32)), .val (.int (2 : Int32))] [(.int (Lp (a 4))), (.int (0 : Int32)), (.ref v)])
      refine Go.iastore X17 hx hZ e17 V_v_16 (j := (0 : Int32)) (x := (Lp (a 4))) (by decide) (hb hby d4_161) ?_
      intro T18 h18 X18 e18 W18 Vn18
      have V_v_18 : Iv Z h18 v (64 : Int32) (updN l' 0 (Lp (a 4))) := Vn18
      have N18 := Fr.snoc X18 N16 ge_v
      have E_q_18 := E_q_16.wr W18
      have F_size_q_18 := F_size_q_16.other W18 (Or.inl ne_q_v)
      have F_times_q_18 := F_times_q_16.other W18 (Or.inl ne_q_v)
      have F_lightpaths_q_18 := F_lightpaths_q_16.other W18 (Or.inl ne_q_v)
      have V_u_18 := V_u_16.other W18 ne_u_v
      have K18 : Keep h0 h18 [q, u, v] := K16.wr W18 (Or.inl (List.mem_of_getElem? (i := 2) rfl))
      show Go _ _ _ _ _ _ _ T18 (mkF m 162 #[.val (.ref q), .val (.int (Lp (a 0))), .val (.double (T (a 4))), .second, .val (.int (Lp (a 4))), .val (.int (0 : Int32)), .val (.int (2 : Int32))] [])
      refine Go.step (fun _ k => XS.iloadN X18.here hx rfl (hb hby d4_162) rfl k) ?_
      show Go _ _ _ _ _ _ _ T18 (mkF m 163 #[.val (.ref q), .val (.int (Lp (a 0))), .val (.double (T (a 4))), .second, .val (.int (Lp (a 4))), .val (.int (0 : Int32)), .val (.int (2 : Int32))] [(.int (Lp (a 0)))])
      refine Go.retI X18 hx hlk hret (hb hby d4_163) (by decide) (by decide) ?_
      try rw [e18]
      have := own_ltK hT hd89_12
      have := own_geK hT hd104_14
      refine ⟨rfl, N18, K18, E_q_18, F_size_q_18, F_times_q_18, F_lightpaths_q_18, _, _, (updN a 0 (a 4)), V_u_18, V_v_18, fun i hi' => by rcases (by omega : i = 0 ∨ i = 1 ∨ i = 2 ∨ i = 3) with rfl | rfl | rfl | rfl <;> first | rfl | simp [updN, hg0, hg1, hg2, hg3, hg4, hl0, hl1, hl2, hl3, hl4], fun i hi' => by rcases (by omega : i = 0 ∨ i = 1 ∨ i = 2 ∨ i = 3) with rfl | rfl | rfl | rfl <;> first | rfl | simp [updN, hg0, hg1, hg2, hg3, hg4, hl0, hl1, hl2, hl3, hl4], ?_, ?_, fun P hP => ?_⟩
      · simp only [HI, updN]; try simp; try omega
      · exact ⟨fun i hi' => by rcases (by omega : i = 0 ∨ i = 1 ∨ i = 2 ∨ i = 3) with rfl | rfl | rfl | rfl <;> simp [updN] <;> omega, fun w => by simp [sumA, updN]; try omega⟩
      · intro i hi'; rcases (by omega : i = 0 ∨ i = 1 ∨ i = 2 ∨ i = 3) with rfl | rfl | rfl | rfl <;> simp [updN] <;> exact hP _ (by decide)
    · refine Go.step (fun _ k => XS.ifYes X13.here hx rfl (pc0 := 104) (pc' := 110) rfl (hb hby d4_104) rfl (ge_n hd104_14) (by decide) (by decide) k) ?_
      show Go _ _ _ _ _ _ _ T13 (mkF m 110 #[.val (.ref q), .val (.int (Lp (a 0))), .val (.double (T (a 4))), .second, .val (.int (Lp (a 4))), .val (.int (0 : Int32)), .val (.int (2 : Int32))] [])
      refine Go.step (fun _ k => XS.aloadN X13.here hx rfl (hb hby d4_110) rfl rfl k) ?_
      show Go _ _ _ _ _ _ _ T13 (mkF m 111 #[.val (.ref q), .val (.int (Lp (a 0))), .val (.double (T (a 4))), .second, .val (.int (Lp (a 4))), .val (.int (0 : Int32)), .val (.int (2 : Int32))] [(.ref q)])
      obtain ⟨T19, X19, e19, st19⟩ := getF X13 hx hZ hown (host := "") (Or.inl (hw _ (List.mem_of_getElem? (i := 11) rfl))) Via.refl e13 F_times_q_3 (g := (mkF m 111 #[.val (.ref q), .val (.int (Lp (a 0))), .val (.double (T (a 4))), .second, .val (.int (Lp (a 4))), .val (.int (0 : Int32)), .val (.int (2 : Int32))] [(.ref q)])) rfl rfl (hb hby d4_111)
      refine Go.step st19 ?_
      show Go _ _ _ _ _ _ _ T19 (mkF m 114 #[.val (.ref q), .val (.int (Lp (a 0))), .val (.double (T (a 4))), .second, .val (.int (Lp (a 4))), .val (.int (0 : Int32)), .val (.int (2 : Int32))] [(.ref u)])
      refine Go.step (fun _ k => XS.iload X19.here hx rfl (hb hby d4_114) rfl k) ?_
      show Go _ _ _ _ _ _ _ T19 (mkF m 116 #[.val (.ref q), .val (.int (Lp (a 0))), .val (.double (T (a 4))), .second, .val (.int (Lp (a 4))), .val (.int (0 : Int32)), .val (.int (2 : Int32))] [(.int (0 : Int32)), (.ref u)])
      refine Go.step (fun _ k => XS.aloadN X19.here hx rfl (hb hby d4_116) rfl rfl k) ?_
      show Go _ _ _ _ _ _ _ T19 (mkF m 117 #[.val (.ref q), .val (.int (Lp (a 0))), .val (.double (T (a 4))), .second, .val (.int (Lp (a 4))), .val (.int (0 : Int32)), .val (.int (2 : Int32))] [(.ref q), (.int (0 : Int32)), (.ref u)])
      obtain ⟨T20, X20, e20, st20⟩ := getF X19 hx hZ hown (host := "") (Or.inl (hw _ (List.mem_of_getElem? (i := 11) rfl))) Via.refl e19 F_times_q_3 (g := (mkF m 117 #[.val (.ref q), .val (.int (Lp (a 0))), .val (.double (T (a 4))), .second, .val (.int (Lp (a 4))), .val (.int (0 : Int32)), .val (.int (2 : Int32))] [(.ref q), (.int (0 : Int32)), (.ref u)])) rfl rfl (hb hby d4_117)
      refine Go.step st20 ?_
      show Go _ _ _ _ _ _ _ T20 (mkF m 120 #[.val (.ref q), .val (.int (Lp (a 0))), .val (.double (T (a 4))), .second, .val (.int (Lp (a 4))), .val (.int (0 : Int32)), .val (.int (2 : Int32))] [(.ref u), (.int (0 : Int32)), (.ref u)])
      refine Go.step (fun _ k => XS.iload X20.here hx rfl (hb hby d4_120) rfl k) ?_
      show Go _ _ _ _ _ _ _ T20 (mkF m 122 #[.val (.ref q), .val (.int (Lp (a 0))), .val (.double (T (a 4))), .second, .val (.int (Lp (a 4))), .val (.int (0 : Int32)), .val (.int (2 : Int32))] [(.int (2 : Int32)), (.ref u), (.int (0 : Int32)), (.ref u)])
      refine Go.daload X20 hx hZ e20 V_u_3 (j := (2 : Int32)) (v := (T (a 2))) (by decide) (by first | rfl | simp [updN, hg0, hg1, hg2, hg3, hg4, hl0, hl1, hl2, hl3, hl4]) (hb hby d4_122) ?_
      show Go _ _ _ _ _ _ _ T20 (mkF m 123 #[.val (.ref q), .val (.int (Lp (a 0))), .val (.double (T (a 4))), .second, .val (.int (Lp (a 4))), .val (.int (0 : Int32)), .val (.int (2 : Int32))] [(.double (T (a 2))), (.int (0 : Int32)), (.ref u)])
      refine Go.dastore X20 hx hZ e20 V_u_3 (j := (0 : Int32)) (x := (T (a 2))) (by decide) (hb hby d4_123) ?_
      intro T21 h21 X21 e21 W21 Vn21
      have V_u_21 : Dv Z h21 u (64 : Int32) (updN g 0 (T (a 2))) := Vn21
      have N21 := Fr.snoc X21 N3 ge_u
      have E_q_21 := E_q_3.wr W21
      have F_size_q_21 := F_size_q_3.other W21 (Or.inl ne_q_u)
      have F_times_q_21 := F_times_q_3.other W21 (Or.inl ne_q_u)
      have F_lightpaths_q_21 := F_lightpaths_q_3.other W21 (Or.inl ne_q_u)
      have V_v_21 := V_v_3.other W21 (Ne.symm ne_u_v)
      have K21 : Keep h0 h21 [q, u, v] := K3.wr W21 (Or.inl (List.mem_of_getElem? (i := 1) rfl))
      show Go _ _ _ _ _ _ _ T21 (mkF m 124 #[.val (.ref q), .val (.int (Lp (a 0))), .val (.double (T (a 4))), .second, .val (.int (Lp (a 4))), .val (.int (0 : Int32)), .val (.int (2 : Int32))] [])
      refine Go.step (fun _ k => XS.aloadN X21.here hx rfl (hb hby d4_124) rfl rfl k) ?_
      show Go _ _ _ _ _ _ _ T21 (mkF m 125 #[.val (.ref q), .val (.int (Lp (a 0))), .val (.double (T (a 4))), .second, .val (.int (Lp (a 4))), .val (.int (0 : Int32)), .val (.int (2 : Int32))] [(.ref q)])
      obtain ⟨T22, X22, e22, st22⟩ := getF X21 hx hZ hown (host := "") (Or.inl (hw _ (List.mem_of_getElem? (i := 13) rfl))) Via.refl e21 F_lightpaths_q_21 (g := (mkF m 125 #[.val (.ref q), .val (.int (Lp (a 0))), .val (.double (T (a 4))), .second, .val (.int (Lp (a 4))), .val (.int (0 : Int32)), .val (.int (2 : Int32))] [(.ref q)])) rfl rfl (hb hby d4_125)
      refine Go.step st22 ?_
      show Go _ _ _ _ _ _ _ T22 (mkF m 128 #[.val (.ref q), .val (.int (Lp (a 0))), .val (.double (T (a 4))), .second, .val (.int (Lp (a 4))), .val (.int (0 : Int32)), .val (.int (2 : Int32))] [(.ref v)])
      refine Go.step (fun _ k => XS.iload X22.here hx rfl (hb hby d4_128) rfl k) ?_
      show Go _ _ _ _ _ _ _ T22 (mkF m 130 #[.val (.ref q), .val (.int (Lp (a 0))), .val (.double (T (a 4))), .second, .val (.int (Lp (a 4))), .val (.int (0 : Int32)), .val (.int (2 : Int32))] [(.int (0 : Int32)), (.ref v)])
      refine Go.step (fun _ k => XS.aloadN X22.here hx rfl (hb hby d4_130) rfl rfl k) ?_
      show Go _ _ _ _ _ _ _ T22 (mkF m 131 #[.val (.ref q), .val (.int (Lp (a 0))), .val (.double (T (a 4))), .second, .val (.int (Lp (a 4))), .val (.int (0 : Int32)), .val (.int (2 : Int32))] [(.ref q), (.int (0 : Int32)), (.ref v)])
      obtain ⟨T23, X23, e23, st23⟩ := getF X22 hx hZ hown (host := "") (Or.inl (hw _ (List.mem_of_getElem? (i := 13) rfl))) Via.refl e22 F_lightpaths_q_21 (g := (mkF m 131 #[.val (.ref q), .val (.int (Lp (a 0))), .val (.double (T (a 4))), .second, .val (.int (Lp (a 4))), .val (.int (0 : Int32)), .val (.int (2 : Int32))] [(.ref q), (.int (0 : Int32)), (.ref v)])) rfl rfl (hb hby d4_131)
      refine Go.step st23 ?_
      show Go _ _ _ _ _ _ _ T23 (mkF m 134 #[.val (.ref q), .val (.int (Lp (a 0))), .val (.double (T (a 4))), .second, .val (.int (Lp (a 4))), .val (.int (0 : Int32)), .val (.int (2 : Int32))] [(.ref v), (.int (0 : Int32)), (.ref v)])
      refine Go.step (fun _ k => XS.iload X23.here hx rfl (hb hby d4_134) rfl k) ?_
      show Go _ _ _ _ _ _ _ T23 (mkF m 136 #[.val (.ref q), .val (.int (Lp (a 0))), .val (.double (T (a 4))), .second, .val (.int (Lp (a 4))), .val (.int (0 : Int32)), .val (.int (2 : Int32))] [(.int (2 : Int32)), (.ref v), (.int (0 : Int32)), (.ref v)])
      refine Go.iaload X23 hx hZ e23 V_v_21 (j := (2 : Int32)) (v := (Lp (a 2))) (by decide) (by first | rfl | simp [updN, hg0, hg1, hg2, hg3, hg4, hl0, hl1, hl2, hl3, hl4]) (hb hby d4_136) ?_
      show Go _ _ _ _ _ _ _ T23 (mkF m 137 #[.val (.ref q), .val (.int (Lp (a 0))), .val (.double (T (a 4))), .second, .val (.int (Lp (a 4))), .val (.int (0 : Int32)), .val (.int (2 : Int32))] [(.int (Lp (a 2))), (.int (0 : Int32)), (.ref v)])
      refine Go.iastore X23 hx hZ e23 V_v_21 (j := (0 : Int32)) (x := (Lp (a 2))) (by decide) (hb hby d4_137) ?_
      intro T24 h24 X24 e24 W24 Vn24
      have V_v_24 : Iv Z h24 v (64 : Int32) (updN l' 0 (Lp (a 2))) := Vn24
      have N24 := Fr.snoc X24 N21 ge_v
      have E_q_24 := E_q_21.wr W24
      have F_size_q_24 := F_size_q_21.other W24 (Or.inl ne_q_v)
      have F_times_q_24 := F_times_q_21.other W24 (Or.inl ne_q_v)
      have F_lightpaths_q_24 := F_lightpaths_q_21.other W24 (Or.inl ne_q_v)
      have V_u_24 := V_u_21.other W24 ne_u_v
      have K24 : Keep h0 h24 [q, u, v] := K21.wr W24 (Or.inl (List.mem_of_getElem? (i := 2) rfl))
      show Go _ _ _ _ _ _ _ T24 (mkF m 138 #[.val (.ref q), .val (.int (Lp (a 0))), .val (.double (T (a 4))), .second, .val (.int (Lp (a 4))), .val (.int (0 : Int32)), .val (.int (2 : Int32))] [])
      refine Go.step (fun _ k => XS.iload X24.here hx rfl (hb hby d4_138) rfl k) ?_
      show Go _ _ _ _ _ _ _ T24 (mkF m 140 #[.val (.ref q), .val (.int (Lp (a 0))), .val (.double (T (a 4))), .second, .val (.int (Lp (a 4))), .val (.int (0 : Int32)), .val (.int (2 : Int32))] [(.int (2 : Int32))])
      refine Go.step (fun _ k => XS.istore X24.here hx rfl (hb hby d4_140) rfl (l' := #[.val (.ref q), .val (.int (Lp (a 0))), .val (.double (T (a 4))), .second, .val (.int (Lp (a 4))), .val (.int (2 : Int32)), .val (.int (2 : Int32))]) rfl k) ?_
      show Go _ _ _ _ _ _ _ T24 (mkF m 142 #[.val (.ref q), .val (.int (Lp (a 0))), .val (.double (T (a 4))), .second, .val (.int (Lp (a 4))), .val (.int (2 : Int32)), .val (.int (2 : Int32))] [])
      refine Go.step (fun _ k => XS.goto X24.here hx rfl (pc0 := 142) (pc' := 41) rfl (hb hby d4_142) (by decide) (by decide) k) ?_
      show Go _ _ _ _ _ _ _ T24 (mkF m 41 #[.val (.ref q), .val (.int (Lp (a 0))), .val (.double (T (a 4))), .second, .val (.int (Lp (a 4))), .val (.int (2 : Int32)), .val (.int (2 : Int32))] [])
      refine Go.step (fun _ k => XS.iconst X24.here hx rfl (hb hby d4_41) k) ?_
      show Go _ _ _ _ _ _ _ T24 (mkF m 42 #[.val (.ref q), .val (.int (Lp (a 0))), .val (.double (T (a 4))), .second, .val (.int (Lp (a 4))), .val (.int (2 : Int32)), .val (.int (2 : Int32))] [(.int (2 : Int32))])
      refine Go.step (fun _ k => XS.iload X24.here hx rfl (hb hby d4_42) rfl k) ?_
      show Go _ _ _ _ _ _ _ T24 (mkF m 44 #[.val (.ref q), .val (.int (Lp (a 0))), .val (.double (T (a 4))), .second, .val (.int (Lp (a 4))), .val (.int (2 : Int32)), .val (.int (2 : Int32))] [(.int (2 : Int32)), (.int (2 : Int32))])
      refine Go.step (fun _ k => XS.imul X24.here hx rfl (hb hby d4_44) rfl k) ?_
      show Go _ _ _ _ _ _ _ T24 (mkF m 45 #[.val (.ref q), .val (.int (Lp (a 0))), .val (.double (T (a 4))), .second, .val (.int (Lp (a 4))), .val (.int (2 : Int32)), .val (.int (2 : Int32))] [(.int (4 : Int32))])
      refine Go.step (fun _ k => XS.iconst X24.here hx rfl (hb hby d4_45) k) ?_
      show Go _ _ _ _ _ _ _ T24 (mkF m 46 #[.val (.ref q), .val (.int (Lp (a 0))), .val (.double (T (a 4))), .second, .val (.int (Lp (a 4))), .val (.int (2 : Int32)), .val (.int (2 : Int32))] [(.int (1 : Int32)), (.int (4 : Int32))])
      refine Go.step (fun _ k => XS.iadd X24.here hx rfl (hb hby d4_46) rfl k) ?_
      show Go _ _ _ _ _ _ _ T24 (mkF m 47 #[.val (.ref q), .val (.int (Lp (a 0))), .val (.double (T (a 4))), .second, .val (.int (Lp (a 4))), .val (.int (2 : Int32)), .val (.int (2 : Int32))] [(.int (5 : Int32))])
      refine Go.step (fun _ k => XS.istore X24.here hx rfl (hb hby d4_47) rfl (l' := #[.val (.ref q), .val (.int (Lp (a 0))), .val (.double (T (a 4))), .second, .val (.int (Lp (a 4))), .val (.int (2 : Int32)), .val (.int (5 : Int32))]) rfl k) ?_
      show Go _ _ _ _ _ _ _ T24 (mkF m 49 #[.val (.ref q), .val (.int (Lp (a 0))), .val (.double (T (a 4))), .second, .val (.int (Lp (a 4))), .val (.int (2 : Int32)), .val (.int (5 : Int32))] [])
      refine Go.step (fun _ k => XS.iload X24.here hx rfl (hb hby d4_49) rfl k) ?_
      show Go _ _ _ _ _ _ _ T24 (mkF m 51 #[.val (.ref q), .val (.int (Lp (a 0))), .val (.double (T (a 4))), .second, .val (.int (Lp (a 4))), .val (.int (2 : Int32)), .val (.int (5 : Int32))] [(.int (5 : Int32))])
      refine Go.step (fun _ k => XS.aloadN X24.here hx rfl (hb hby d4_51) rfl rfl k) ?_
      show Go _ _ _ _ _ _ _ T24 (mkF m 52 #[.val (.ref q), .val (.int (Lp (a 0))), .val (.double (T (a 4))), .second, .val (.int (Lp (a 4))), .val (.int (2 : Int32)), .val (.int (5 : Int32))] [(.ref q), (.int (5 : Int32))])
      obtain ⟨T25, X25, e25, st25⟩ := getF X24 hx hZ hown (host := "") (Or.inl (hw _ (List.mem_of_getElem? (i := 20) rfl))) Via.refl e24 F_size_q_24 (g := (mkF m 52 #[.val (.ref q), .val (.int (Lp (a 0))), .val (.double (T (a 4))), .second, .val (.int (Lp (a 4))), .val (.int (2 : Int32)), .val (.int (5 : Int32))] [(.ref q), (.int (5 : Int32))])) rfl rfl (hb hby d4_52)
      refine Go.step st25 ?_
      show Go _ _ _ _ _ _ _ T25 (mkF m 55 #[.val (.ref q), .val (.int (Lp (a 0))), .val (.double (T (a 4))), .second, .val (.int (Lp (a 4))), .val (.int (2 : Int32)), .val (.int (5 : Int32))] [(.int (4 : Int32)), (.int (5 : Int32))])
      refine Go.step (fun _ k => XS.icmpNo X25.here hx rfl (hb hby d4_55) rfl (flt (by decide : ¬ ((5 : Int32) < (4 : Int32)))).1 k) ?_
      show Go _ _ _ _ _ _ _ T25 (mkF m 58 #[.val (.ref q), .val (.int (Lp (a 0))), .val (.double (T (a 4))), .second, .val (.int (Lp (a 4))), .val (.int (2 : Int32)), .val (.int (5 : Int32))] [])
      refine Go.step (fun _ k => XS.goto X25.here hx rfl (pc0 := 58) (pc' := 145) rfl (hb hby d4_58) (by decide) (by decide) k) ?_
      show Go _ _ _ _ _ _ _ T25 (mkF m 145 #[.val (.ref q), .val (.int (Lp (a 0))), .val (.double (T (a 4))), .second, .val (.int (Lp (a 4))), .val (.int (2 : Int32)), .val (.int (5 : Int32))] [])
      refine Go.step (fun _ k => XS.aloadN X25.here hx rfl (hb hby d4_145) rfl rfl k) ?_
      show Go _ _ _ _ _ _ _ T25 (mkF m 146 #[.val (.ref q), .val (.int (Lp (a 0))), .val (.double (T (a 4))), .second, .val (.int (Lp (a 4))), .val (.int (2 : Int32)), .val (.int (5 : Int32))] [(.ref q)])
      obtain ⟨T26, X26, e26, st26⟩ := getF X25 hx hZ hown (host := "") (Or.inl (hw _ (List.mem_of_getElem? (i := 11) rfl))) Via.refl e25 F_times_q_24 (g := (mkF m 146 #[.val (.ref q), .val (.int (Lp (a 0))), .val (.double (T (a 4))), .second, .val (.int (Lp (a 4))), .val (.int (2 : Int32)), .val (.int (5 : Int32))] [(.ref q)])) rfl rfl (hb hby d4_146)
      refine Go.step st26 ?_
      show Go _ _ _ _ _ _ _ T26 (mkF m 149 #[.val (.ref q), .val (.int (Lp (a 0))), .val (.double (T (a 4))), .second, .val (.int (Lp (a 4))), .val (.int (2 : Int32)), .val (.int (5 : Int32))] [(.ref u)])
      refine Go.step (fun _ k => XS.iload X26.here hx rfl (hb hby d4_149) rfl k) ?_
      show Go _ _ _ _ _ _ _ T26 (mkF m 151 #[.val (.ref q), .val (.int (Lp (a 0))), .val (.double (T (a 4))), .second, .val (.int (Lp (a 4))), .val (.int (2 : Int32)), .val (.int (5 : Int32))] [(.int (2 : Int32)), (.ref u)])
      refine Go.step (fun _ k => XS.dloadN X26.here hx rfl (hb hby d4_151) rfl k) ?_
      show Go _ _ _ _ _ _ _ T26 (mkF m 152 #[.val (.ref q), .val (.int (Lp (a 0))), .val (.double (T (a 4))), .second, .val (.int (Lp (a 4))), .val (.int (2 : Int32)), .val (.int (5 : Int32))] [(.double (T (a 4))), (.int (2 : Int32)), (.ref u)])
      refine Go.dastore X26 hx hZ e26 V_u_24 (j := (2 : Int32)) (x := (T (a 4))) (by decide) (hb hby d4_152) ?_
      intro T27 h27 X27 e27 W27 Vn27
      have V_u_27 : Dv Z h27 u (64 : Int32) (updN (updN g 0 (T (a 2))) 2 (T (a 4))) := Vn27
      have N27 := Fr.snoc X27 N24 ge_u
      have E_q_27 := E_q_24.wr W27
      have F_size_q_27 := F_size_q_24.other W27 (Or.inl ne_q_u)
      have F_times_q_27 := F_times_q_24.other W27 (Or.inl ne_q_u)
      have F_lightpaths_q_27 := F_lightpaths_q_24.other W27 (Or.inl ne_q_u)
      have V_v_27 := V_v_24.other W27 (Ne.symm ne_u_v)
      have K27 : Keep h0 h27 [q, u, v] := K24.wr W27 (Or.inl (List.mem_of_getElem? (i := 1) rfl))
      show Go _ _ _ _ _ _ _ T27 (mkF m 153 #[.val (.ref q), .val (.int (Lp (a 0))), .val (.double (T (a 4))), .second, .val (.int (Lp (a 4))), .val (.int (2 : Int32)), .val (.int (5 : Int32))] [])
      refine Go.step (fun _ k => XS.aloadN X27.here hx rfl (hb hby d4_153) rfl rfl k) ?_
      show Go _ _ _ _ _ _ _ T27 (mkF m 154 #[.val (.ref q), .val (.int (Lp (a 0))), .val (.double (T (a 4))), .second, .val (.int (Lp (a 4))), .val (.int (2 : Int32)), .val (.int (5 : Int32))] [(.ref q)])
      obtain ⟨T28, X28, e28, st28⟩ := getF X27 hx hZ hown (host := "") (Or.inl (hw _ (List.mem_of_getElem? (i := 13) rfl))) Via.refl e27 F_lightpaths_q_27 (g := (mkF m 154 #[.val (.ref q), .val (.int (Lp (a 0))), .val (.double (T (a 4))), .second, .val (.int (Lp (a 4))), .val (.int (2 : Int32)), .val (.int (5 : Int32))] [(.ref q)])) rfl rfl (hb hby d4_154)
      refine Go.step st28 ?_
      show Go _ _ _ _ _ _ _ T28 (mkF m 157 #[.val (.ref q), .val (.int (Lp (a 0))), .val (.double (T (a 4))), .second, .val (.int (Lp (a 4))), .val (.int (2 : Int32)), .val (.int (5 : Int32))] [(.ref v)])
      refine Go.step (fun _ k => XS.iload X28.here hx rfl (hb hby d4_157) rfl k) ?_
      show Go _ _ _ _ _ _ _ T28 (mkF m 159 #[.val (.ref q), .val (.int (Lp (a 0))), .val (.double (T (a 4))), .second, .val (.int (Lp (a 4))), .val (.int (2 : Int32)), .val (.int (5 : Int32))] [(.int (2 : Int32)), (.ref v)])
      refine Go.step (fun _ k => XS.iload X28.here hx rfl (hb hby d4_159) rfl k) ?_
      show Go _ _ _ _ _ _ _ T28 (mkF m 161 #[.val (.ref q), .val (.int (Lp (a 0))), .val (.double (T (a 4))), .second, .val (.int (Lp (a 4))), .val (.int (2 : Int32)), .val (.int (5 : Int32))] [(.int (Lp (a 4))), (.int (2 : Int32)), (.ref v)])
      refine Go.iastore X28 hx hZ e28 V_v_27 (j := (2 : Int32)) (x := (Lp (a 4))) (by decide) (hb hby d4_161) ?_
      intro T29 h29 X29 e29 W29 Vn29
      have V_v_29 : Iv Z h29 v (64 : Int32) (updN (updN l' 0 (Lp (a 2))) 2 (Lp (a 4))) := Vn29
      have N29 := Fr.snoc X29 N27 ge_v
      have E_q_29 := E_q_27.wr W29
      have F_size_q_29 := F_size_q_27.other W29 (Or.inl ne_q_v)
      have F_times_q_29 := F_times_q_27.other W29 (Or.inl ne_q_v)
      have F_lightpaths_q_29 := F_lightpaths_q_27.other W29 (Or.inl ne_q_v)
      have V_u_29 := V_u_27.other W29 ne_u_v
      have K29 : Keep h0 h29 [q, u, v] := K27.wr W29 (Or.inl (List.mem_of_getElem? (i := 2) rfl))
      show Go _ _ _ _ _ _ _ T29 (mkF m 162 #[.val (.ref q), .val (.int (Lp (a 0))), .val (.double (T (a 4))), .second, .val (.int (Lp (a 4))), .val (.int (2 : Int32)), .val (.int (5 : Int32))] [])
      refine Go.step (fun _ k => XS.iloadN X29.here hx rfl (hb hby d4_162) rfl k) ?_
      show Go _ _ _ _ _ _ _ T29 (mkF m 163 #[.val (.ref q), .val (.int (Lp (a 0))), .val (.double (T (a 4))), .second, .val (.int (Lp (a 4))), .val (.int (2 : Int32)), .val (.int (5 : Int32))] [(.int (Lp (a 0)))])
      refine Go.retI X29 hx hlk hret (hb hby d4_163) (by decide) (by decide) ?_
      try rw [e29]
      have := own_ltK hT hd89_12
      have := own_ngeK hT hd104_14
      refine ⟨rfl, N29, K29, E_q_29, F_size_q_29, F_times_q_29, F_lightpaths_q_29, _, _, (updN (updN a 0 (a 2)) 2 (a 4)), V_u_29, V_v_29, fun i hi' => by rcases (by omega : i = 0 ∨ i = 1 ∨ i = 2 ∨ i = 3) with rfl | rfl | rfl | rfl <;> first | rfl | simp [updN, hg0, hg1, hg2, hg3, hg4, hl0, hl1, hl2, hl3, hl4], fun i hi' => by rcases (by omega : i = 0 ∨ i = 1 ∨ i = 2 ∨ i = 3) with rfl | rfl | rfl | rfl <;> first | rfl | simp [updN, hg0, hg1, hg2, hg3, hg4, hl0, hl1, hl2, hl3, hl4], ?_, ?_, fun P hP => ?_⟩
      · simp only [HI, updN]; try simp; try omega
      · exact ⟨fun i hi' => by rcases (by omega : i = 0 ∨ i = 1 ∨ i = 2 ∨ i = 3) with rfl | rfl | rfl | rfl <;> simp [updN] <;> omega, fun w => by simp [sumA, updN]; try omega⟩
      · intro i hi'; rcases (by omega : i = 0 ∨ i = 1 ∨ i = 2 ∨ i = 3) with rfl | rfl | rfl | rfl <;> simp [updN] <;> exact hP _ (by decide)
  · refine Go.step (fun _ k => XS.ifYes X11.here hx rfl (pc0 := 89) (pc' := 95) rfl (hb hby d4_89) rfl (lt_n hd89_12) (by decide) (by decide) k) ?_
    show Go _ _ _ _ _ _ _ T11 (mkF m 95 #[.val (.ref q), .val (.int (Lp (a 0))), .val (.double (T (a 4))), .second, .val (.int (Lp (a 4))), .val (.int (0 : Int32)), .val (.int (1 : Int32))] [])
    refine Go.step (fun _ k => XS.aloadN X11.here hx rfl (hb hby d4_95) rfl rfl k) ?_
    show Go _ _ _ _ _ _ _ T11 (mkF m 96 #[.val (.ref q), .val (.int (Lp (a 0))), .val (.double (T (a 4))), .second, .val (.int (Lp (a 4))), .val (.int (0 : Int32)), .val (.int (1 : Int32))] [(.ref q)])
    obtain ⟨T30, X30, e30, st30⟩ := getF X11 hx hZ hown (host := "") (Or.inl (hw _ (List.mem_of_getElem? (i := 11) rfl))) Via.refl e11 F_times_q_3 (g := (mkF m 96 #[.val (.ref q), .val (.int (Lp (a 0))), .val (.double (T (a 4))), .second, .val (.int (Lp (a 4))), .val (.int (0 : Int32)), .val (.int (1 : Int32))] [(.ref q)])) rfl rfl (hb hby d4_96)
    refine Go.step st30 ?_
    show Go _ _ _ _ _ _ _ T30 (mkF m 99 #[.val (.ref q), .val (.int (Lp (a 0))), .val (.double (T (a 4))), .second, .val (.int (Lp (a 4))), .val (.int (0 : Int32)), .val (.int (1 : Int32))] [(.ref u)])
    refine Go.step (fun _ k => XS.iload X30.here hx rfl (hb hby d4_99) rfl k) ?_
    show Go _ _ _ _ _ _ _ T30 (mkF m 101 #[.val (.ref q), .val (.int (Lp (a 0))), .val (.double (T (a 4))), .second, .val (.int (Lp (a 4))), .val (.int (0 : Int32)), .val (.int (1 : Int32))] [(.int (1 : Int32)), (.ref u)])
    refine Go.daload X30 hx hZ e30 V_u_3 (j := (1 : Int32)) (v := (T (a 1))) (by decide) (by first | rfl | simp [updN, hg0, hg1, hg2, hg3, hg4, hl0, hl1, hl2, hl3, hl4]) (hb hby d4_101) ?_
    show Go _ _ _ _ _ _ _ T30 (mkF m 102 #[.val (.ref q), .val (.int (Lp (a 0))), .val (.double (T (a 4))), .second, .val (.int (Lp (a 4))), .val (.int (0 : Int32)), .val (.int (1 : Int32))] [(.double (T (a 1)))])
    refine Go.step (fun _ k => XS.dloadN X30.here hx rfl (hb hby d4_102) rfl k) ?_
    show Go _ _ _ _ _ _ _ T30 (mkF m 103 #[.val (.ref q), .val (.int (Lp (a 0))), .val (.double (T (a 4))), .second, .val (.int (Lp (a 4))), .val (.int (0 : Int32)), .val (.int (1 : Int32))] [(.double (T (a 4))), (.double (T (a 1)))])
    refine Go.step (fun _ k => XS.dcmpS X30.here hx rfl (hb hby d4_103) rfl rfl k) ?_
    show Go _ _ _ _ _ _ _ T30 (mkF m 104 #[.val (.ref q), .val (.int (Lp (a 0))), .val (.double (T (a 4))), .second, .val (.int (Lp (a 4))), .val (.int (0 : Int32)), .val (.int (1 : Int32))] [(.int (cmpValue (FP.dcmp (T (a 1)) (T (a 4))) .l))])
    by_cases hd104_31 : (FP.dcmp (T (a 1)) (T (a 4)) = some .gt ∨ FP.dcmp (T (a 1)) (T (a 4)) = some .eq)
    · refine Go.step (fun _ k => XS.ifNo X30.here hx rfl (hb hby d4_104) rfl (ge_y hd104_31) k) ?_
      show Go _ _ _ _ _ _ _ T30 (mkF m 107 #[.val (.ref q), .val (.int (Lp (a 0))), .val (.double (T (a 4))), .second, .val (.int (Lp (a 4))), .val (.int (0 : Int32)), .val (.int (1 : Int32))] [])
      refine Go.step (fun _ k => XS.goto X30.here hx rfl (pc0 := 107) (pc' := 145) rfl (hb hby d4_107) (by decide) (by decide) k) ?_
      show Go _ _ _ _ _ _ _ T30 (mkF m 145 #[.val (.ref q), .val (.int (Lp (a 0))), .val (.double (T (a 4))), .second, .val (.int (Lp (a 4))), .val (.int (0 : Int32)), .val (.int (1 : Int32))] [])
      refine Go.step (fun _ k => XS.aloadN X30.here hx rfl (hb hby d4_145) rfl rfl k) ?_
      show Go _ _ _ _ _ _ _ T30 (mkF m 146 #[.val (.ref q), .val (.int (Lp (a 0))), .val (.double (T (a 4))), .second, .val (.int (Lp (a 4))), .val (.int (0 : Int32)), .val (.int (1 : Int32))] [(.ref q)])
      obtain ⟨T32, X32, e32, st32⟩ := getF X30 hx hZ hown (host := "") (Or.inl (hw _ (List.mem_of_getElem? (i := 11) rfl))) Via.refl e30 F_times_q_3 (g := (mkF m 146 #[.val (.ref q), .val (.int (Lp (a 0))), .val (.double (T (a 4))), .second, .val (.int (Lp (a 4))), .val (.int (0 : Int32)), .val (.int (1 : Int32))] [(.ref q)])) rfl rfl (hb hby d4_146)
      refine Go.step st32 ?_
      show Go _ _ _ _ _ _ _ T32 (mkF m 149 #[.val (.ref q), .val (.int (Lp (a 0))), .val (.double (T (a 4))), .second, .val (.int (Lp (a 4))), .val (.int (0 : Int32)), .val (.int (1 : Int32))] [(.ref u)])
      refine Go.step (fun _ k => XS.iload X32.here hx rfl (hb hby d4_149) rfl k) ?_
      show Go _ _ _ _ _ _ _ T32 (mkF m 151 #[.val (.ref q), .val (.int (Lp (a 0))), .val (.double (T (a 4))), .second, .val (.int (Lp (a 4))), .val (.int (0 : Int32)), .val (.int (1 : Int32))] [(.int (0 : Int32)), (.ref u)])
      refine Go.step (fun _ k => XS.dloadN X32.here hx rfl (hb hby d4_151) rfl k) ?_
      show Go _ _ _ _ _ _ _ T32 (mkF m 152 #[.val (.ref q), .val (.int (Lp (a 0))), .val (.double (T (a 4))), .second, .val (.int (Lp (a 4))), .val (.int (0 : Int32)), .val (.int (1 : Int32))] [(.double (T (a 4))), (.int (0 : Int32)), (.ref u)])
      refine Go.dastore X32 hx hZ e32 V_u_3 (j := (0 : Int32)) (x := (T (a 4))) (by decide) (hb hby d4_152) ?_
      intro T33 h33 X33 e33 W33 Vn33
      have V_u_33 : Dv Z h33 u (64 : Int32) (updN g 0 (T (a 4))) := Vn33
      have N33 := Fr.snoc X33 N3 ge_u
      have E_q_33 := E_q_3.wr W33
      have F_size_q_33 := F_size_q_3.other W33 (Or.inl ne_q_u)
      have F_times_q_33 := F_times_q_3.other W33 (Or.inl ne_q_u)
      have F_lightpaths_q_33 := F_lightpaths_q_3.other W33 (Or.inl ne_q_u)
      have V_v_33 := V_v_3.other W33 (Ne.symm ne_u_v)
      have K33 : Keep h0 h33 [q, u, v] := K3.wr W33 (Or.inl (List.mem_of_getElem? (i := 1) rfl))
      show Go _ _ _ _ _ _ _ T33 (mkF m 153 #[.val (.ref q), .val (.int (Lp (a 0))), .val (.double (T (a 4))), .second, .val (.int (Lp (a 4))), .val (.int (0 : Int32)), .val (.int (1 : Int32))] [])
      refine Go.step (fun _ k => XS.aloadN X33.here hx rfl (hb hby d4_153) rfl rfl k) ?_
      show Go _ _ _ _ _ _ _ T33 (mkF m 154 #[.val (.ref q), .val (.int (Lp (a 0))), .val (.double (T (a 4))), .second, .val (.int (Lp (a 4))), .val (.int (0 : Int32)), .val (.int (1 : Int32))] [(.ref q)])
      obtain ⟨T34, X34, e34, st34⟩ := getF X33 hx hZ hown (host := "") (Or.inl (hw _ (List.mem_of_getElem? (i := 13) rfl))) Via.refl e33 F_lightpaths_q_33 (g := (mkF m 154 #[.val (.ref q), .val (.int (Lp (a 0))), .val (.double (T (a 4))), .second, .val (.int (Lp (a 4))), .val (.int (0 : Int32)), .val (.int (1 : Int32))] [(.ref q)])) rfl rfl (hb hby d4_154)
      refine Go.step st34 ?_
      show Go _ _ _ _ _ _ _ T34 (mkF m 157 #[.val (.ref q), .val (.int (Lp (a 0))), .val (.double (T (a 4))), .second, .val (.int (Lp (a 4))), .val (.int (0 : Int32)), .val (.int (1 : Int32))] [(.ref v)])
      refine Go.step (fun _ k => XS.iload X34.here hx rfl (hb hby d4_157) rfl k) ?_
      show Go _ _ _ _ _ _ _ T34 (mkF m 159 #[.val (.ref q), .val (.int (Lp (a 0))), .val (.double (T (a 4))), .second, .val (.int (Lp (a 4))), .val (.int (0 : Int32)), .val (.int (1 : Int32))] [(.int (0 : Int32)), (.ref v)])
      refine Go.step (fun _ k => XS.iload X34.here hx rfl (hb hby d4_159) rfl k) ?_
      show Go _ _ _ _ _ _ _ T34 (mkF m 161 #[.val (.ref q), .val (.int (Lp (a 0))), .val (.double (T (a 4))), .second, .val (.int (Lp (a 4))), .val (.int (0 : Int32)), .val (.int (1 : Int32))] [(.int (Lp (a 4))), (.int (0 : Int32)), (.ref v)])
      refine Go.iastore X34 hx hZ e34 V_v_33 (j := (0 : Int32)) (x := (Lp (a 4))) (by decide) (hb hby d4_161) ?_
      intro T35 h35 X35 e35 W35 Vn35
      have V_v_35 : Iv Z h35 v (64 : Int32) (updN l' 0 (Lp (a 4))) := Vn35
      have N35 := Fr.snoc X35 N33 ge_v
      have E_q_35 := E_q_33.wr W35
      have F_size_q_35 := F_size_q_33.other W35 (Or.inl ne_q_v)
      have F_times_q_35 := F_times_q_33.other W35 (Or.inl ne_q_v)
      have F_lightpaths_q_35 := F_lightpaths_q_33.other W35 (Or.inl ne_q_v)
      have V_u_35 := V_u_33.other W35 ne_u_v
      have K35 : Keep h0 h35 [q, u, v] := K33.wr W35 (Or.inl (List.mem_of_getElem? (i := 2) rfl))
      show Go _ _ _ _ _ _ _ T35 (mkF m 162 #[.val (.ref q), .val (.int (Lp (a 0))), .val (.double (T (a 4))), .second, .val (.int (Lp (a 4))), .val (.int (0 : Int32)), .val (.int (1 : Int32))] [])
      refine Go.step (fun _ k => XS.iloadN X35.here hx rfl (hb hby d4_162) rfl k) ?_
      show Go _ _ _ _ _ _ _ T35 (mkF m 163 #[.val (.ref q), .val (.int (Lp (a 0))), .val (.double (T (a 4))), .second, .val (.int (Lp (a 4))), .val (.int (0 : Int32)), .val (.int (1 : Int32))] [(.int (Lp (a 0)))])
      refine Go.retI X35 hx hlk hret (hb hby d4_163) (by decide) (by decide) ?_
      try rw [e35]
      have := own_nltK hT hd89_12
      have := own_geK hT hd104_31
      refine ⟨rfl, N35, K35, E_q_35, F_size_q_35, F_times_q_35, F_lightpaths_q_35, _, _, (updN a 0 (a 4)), V_u_35, V_v_35, fun i hi' => by rcases (by omega : i = 0 ∨ i = 1 ∨ i = 2 ∨ i = 3) with rfl | rfl | rfl | rfl <;> first | rfl | simp [updN, hg0, hg1, hg2, hg3, hg4, hl0, hl1, hl2, hl3, hl4], fun i hi' => by rcases (by omega : i = 0 ∨ i = 1 ∨ i = 2 ∨ i = 3) with rfl | rfl | rfl | rfl <;> first | rfl | simp [updN, hg0, hg1, hg2, hg3, hg4, hl0, hl1, hl2, hl3, hl4], ?_, ?_, fun P hP => ?_⟩
      · simp only [HI, updN]; try simp; try omega
      · exact ⟨fun i hi' => by rcases (by omega : i = 0 ∨ i = 1 ∨ i = 2 ∨ i = 3) with rfl | rfl | rfl | rfl <;> simp [updN] <;> omega, fun w => by simp [sumA, updN]; try omega⟩
      · intro i hi'; rcases (by omega : i = 0 ∨ i = 1 ∨ i = 2 ∨ i = 3) with rfl | rfl | rfl | rfl <;> simp [updN] <;> exact hP _ (by decide)
    · refine Go.step (fun _ k => XS.ifYes X30.here hx rfl (pc0 := 104) (pc' := 110) rfl (hb hby d4_104) rfl (ge_n hd104_31) (by decide) (by decide) k) ?_
      show Go _ _ _ _ _ _ _ T30 (mkF m 110 #[.val (.ref q), .val (.int (Lp (a 0))), .val (.double (T (a 4))), .second, .val (.int (Lp (a 4))), .val (.int (0 : Int32)), .val (.int (1 : Int32))] [])
      refine Go.step (fun _ k => XS.aloadN X30.here hx rfl (hb hby d4_110) rfl rfl k) ?_
      show Go _ _ _ _ _ _ _ T30 (mkF m 111 #[.val (.ref q), .val (.int (Lp (a 0))), .val (.double (T (a 4))), .second, .val (.int (Lp (a 4))), .val (.int (0 : Int32)), .val (.int (1 : Int32))] [(.ref q)])
      obtain ⟨T36, X36, e36, st36⟩ := getF X30 hx hZ hown (host := "") (Or.inl (hw _ (List.mem_of_getElem? (i := 11) rfl))) Via.refl e30 F_times_q_3 (g := (mkF m 111 #[.val (.ref q), .val (.int (Lp (a 0))), .val (.double (T (a 4))), .second, .val (.int (Lp (a 4))), .val (.int (0 : Int32)), .val (.int (1 : Int32))] [(.ref q)])) rfl rfl (hb hby d4_111)
      refine Go.step st36 ?_
      show Go _ _ _ _ _ _ _ T36 (mkF m 114 #[.val (.ref q), .val (.int (Lp (a 0))), .val (.double (T (a 4))), .second, .val (.int (Lp (a 4))), .val (.int (0 : Int32)), .val (.int (1 : Int32))] [(.ref u)])
      refine Go.step (fun _ k => XS.iload X36.here hx rfl (hb hby d4_114) rfl k) ?_
      show Go _ _ _ _ _ _ _ T36 (mkF m 116 #[.val (.ref q), .val (.int (Lp (a 0))), .val (.double (T (a 4))), .second, .val (.int (Lp (a 4))), .val (.int (0 : Int32)), .val (.int (1 : Int32))] [(.int (0 : Int32)), (.ref u)])
      refine Go.step (fun _ k => XS.aloadN X36.here hx rfl (hb hby d4_116) rfl rfl k) ?_
      show Go _ _ _ _ _ _ _ T36 (mkF m 117 #[.val (.ref q), .val (.int (Lp (a 0))), .val (.double (T (a 4))), .second, .val (.int (Lp (a 4))), .val (.int (0 : Int32)), .val (.int (1 : Int32))] [(.ref q), (.int (0 : Int32)), (.ref u)])
      obtain ⟨T37, X37, e37, st37⟩ := getF X36 hx hZ hown (host := "") (Or.inl (hw _ (List.mem_of_getElem? (i := 11) rfl))) Via.refl e36 F_times_q_3 (g := (mkF m 117 #[.val (.ref q), .val (.int (Lp (a 0))), .val (.double (T (a 4))), .second, .val (.int (Lp (a 4))), .val (.int (0 : Int32)), .val (.int (1 : Int32))] [(.ref q), (.int (0 : Int32)), (.ref u)])) rfl rfl (hb hby d4_117)
      refine Go.step st37 ?_
      show Go _ _ _ _ _ _ _ T37 (mkF m 120 #[.val (.ref q), .val (.int (Lp (a 0))), .val (.double (T (a 4))), .second, .val (.int (Lp (a 4))), .val (.int (0 : Int32)), .val (.int (1 : Int32))] [(.ref u), (.int (0 : Int32)), (.ref u)])
      refine Go.step (fun _ k => XS.iload X37.here hx rfl (hb hby d4_120) rfl k) ?_
      show Go _ _ _ _ _ _ _ T37 (mkF m 122 #[.val (.ref q), .val (.int (Lp (a 0))), .val (.double (T (a 4))), .second, .val (.int (Lp (a 4))), .val (.int (0 : Int32)), .val (.int (1 : Int32))] [(.int (1 : Int32)), (.ref u), (.int (0 : Int32)), (.ref u)])
      refine Go.daload X37 hx hZ e37 V_u_3 (j := (1 : Int32)) (v := (T (a 1))) (by decide) (by first | rfl | simp [updN, hg0, hg1, hg2, hg3, hg4, hl0, hl1, hl2, hl3, hl4]) (hb hby d4_122) ?_
      show Go _ _ _ _ _ _ _ T37 (mkF m 123 #[.val (.ref q), .val (.int (Lp (a 0))), .val (.double (T (a 4))), .second, .val (.int (Lp (a 4))), .val (.int (0 : Int32)), .val (.int (1 : Int32))] [(.double (T (a 1))), (.int (0 : Int32)), (.ref u)])
      refine Go.dastore X37 hx hZ e37 V_u_3 (j := (0 : Int32)) (x := (T (a 1))) (by decide) (hb hby d4_123) ?_
      intro T38 h38 X38 e38 W38 Vn38
      have V_u_38 : Dv Z h38 u (64 : Int32) (updN g 0 (T (a 1))) := Vn38
      have N38 := Fr.snoc X38 N3 ge_u
      have E_q_38 := E_q_3.wr W38
      have F_size_q_38 := F_size_q_3.other W38 (Or.inl ne_q_u)
      have F_times_q_38 := F_times_q_3.other W38 (Or.inl ne_q_u)
      have F_lightpaths_q_38 := F_lightpaths_q_3.other W38 (Or.inl ne_q_u)
      have V_v_38 := V_v_3.other W38 (Ne.symm ne_u_v)
      have K38 : Keep h0 h38 [q, u, v] := K3.wr W38 (Or.inl (List.mem_of_getElem? (i := 1) rfl))
      show Go _ _ _ _ _ _ _ T38 (mkF m 124 #[.val (.ref q), .val (.int (Lp (a 0))), .val (.double (T (a 4))), .second, .val (.int (Lp (a 4))), .val (.int (0 : Int32)), .val (.int (1 : Int32))] [])
      refine Go.step (fun _ k => XS.aloadN X38.here hx rfl (hb hby d4_124) rfl rfl k) ?_
      show Go _ _ _ _ _ _ _ T38 (mkF m 125 #[.val (.ref q), .val (.int (Lp (a 0))), .val (.double (T (a 4))), .second, .val (.int (Lp (a 4))), .val (.int (0 : Int32)), .val (.int (1 : Int32))] [(.ref q)])
      obtain ⟨T39, X39, e39, st39⟩ := getF X38 hx hZ hown (host := "") (Or.inl (hw _ (List.mem_of_getElem? (i := 13) rfl))) Via.refl e38 F_lightpaths_q_38 (g := (mkF m 125 #[.val (.ref q), .val (.int (Lp (a 0))), .val (.double (T (a 4))), .second, .val (.int (Lp (a 4))), .val (.int (0 : Int32)), .val (.int (1 : Int32))] [(.ref q)])) rfl rfl (hb hby d4_125)
      refine Go.step st39 ?_
      show Go _ _ _ _ _ _ _ T39 (mkF m 128 #[.val (.ref q), .val (.int (Lp (a 0))), .val (.double (T (a 4))), .second, .val (.int (Lp (a 4))), .val (.int (0 : Int32)), .val (.int (1 : Int32))] [(.ref v)])
      refine Go.step (fun _ k => XS.iload X39.here hx rfl (hb hby d4_128) rfl k) ?_
      show Go _ _ _ _ _ _ _ T39 (mkF m 130 #[.val (.ref q), .val (.int (Lp (a 0))), .val (.double (T (a 4))), .second, .val (.int (Lp (a 4))), .val (.int (0 : Int32)), .val (.int (1 : Int32))] [(.int (0 : Int32)), (.ref v)])
      refine Go.step (fun _ k => XS.aloadN X39.here hx rfl (hb hby d4_130) rfl rfl k) ?_
      show Go _ _ _ _ _ _ _ T39 (mkF m 131 #[.val (.ref q), .val (.int (Lp (a 0))), .val (.double (T (a 4))), .second, .val (.int (Lp (a 4))), .val (.int (0 : Int32)), .val (.int (1 : Int32))] [(.ref q), (.int (0 : Int32)), (.ref v)])
      obtain ⟨T40, X40, e40, st40⟩ := getF X39 hx hZ hown (host := "") (Or.inl (hw _ (List.mem_of_getElem? (i := 13) rfl))) Via.refl e39 F_lightpaths_q_38 (g := (mkF m 131 #[.val (.ref q), .val (.int (Lp (a 0))), .val (.double (T (a 4))), .second, .val (.int (Lp (a 4))), .val (.int (0 : Int32)), .val (.int (1 : Int32))] [(.ref q), (.int (0 : Int32)), (.ref v)])) rfl rfl (hb hby d4_131)
      refine Go.step st40 ?_
      show Go _ _ _ _ _ _ _ T40 (mkF m 134 #[.val (.ref q), .val (.int (Lp (a 0))), .val (.double (T (a 4))), .second, .val (.int (Lp (a 4))), .val (.int (0 : Int32)), .val (.int (1 : Int32))] [(.ref v), (.int (0 : Int32)), (.ref v)])
      refine Go.step (fun _ k => XS.iload X40.here hx rfl (hb hby d4_134) rfl k) ?_
      show Go _ _ _ _ _ _ _ T40 (mkF m 136 #[.val (.ref q), .val (.int (Lp (a 0))), .val (.double (T (a 4))), .second, .val (.int (Lp (a 4))), .val (.int (0 : Int32)), .val (.int (1 : Int32))] [(.int (1 : Int32)), (.ref v), (.int (0 : Int32)), (.ref v)])
      refine Go.iaload X40 hx hZ e40 V_v_38 (j := (1 : Int32)) (v := (Lp (a 1))) (by decide) (by first | rfl | simp [updN, hg0, hg1, hg2, hg3, hg4, hl0, hl1, hl2, hl3, hl4]) (hb hby d4_136) ?_
      show Go _ _ _ _ _ _ _ T40 (mkF m 137 #[.val (.ref q), .val (.int (Lp (a 0))), .val (.double (T (a 4))), .second, .val (.int (Lp (a 4))), .val (.int (0 : Int32)), .val (.int (1 : Int32))] [(.int (Lp (a 1))), (.int (0 : Int32)), (.ref v)])
      refine Go.iastore X40 hx hZ e40 V_v_38 (j := (0 : Int32)) (x := (Lp (a 1))) (by decide) (hb hby d4_137) ?_
      intro T41 h41 X41 e41 W41 Vn41
      have V_v_41 : Iv Z h41 v (64 : Int32) (updN l' 0 (Lp (a 1))) := Vn41
      have N41 := Fr.snoc X41 N38 ge_v
      have E_q_41 := E_q_38.wr W41
      have F_size_q_41 := F_size_q_38.other W41 (Or.inl ne_q_v)
      have F_times_q_41 := F_times_q_38.other W41 (Or.inl ne_q_v)
      have F_lightpaths_q_41 := F_lightpaths_q_38.other W41 (Or.inl ne_q_v)
      have V_u_41 := V_u_38.other W41 ne_u_v
      have K41 : Keep h0 h41 [q, u, v] := K38.wr W41 (Or.inl (List.mem_of_getElem? (i := 2) rfl))
      show Go _ _ _ _ _ _ _ T41 (mkF m 138 #[.val (.ref q), .val (.int (Lp (a 0))), .val (.double (T (a 4))), .second, .val (.int (Lp (a 4))), .val (.int (0 : Int32)), .val (.int (1 : Int32))] [])
      refine Go.step (fun _ k => XS.iload X41.here hx rfl (hb hby d4_138) rfl k) ?_
      show Go _ _ _ _ _ _ _ T41 (mkF m 140 #[.val (.ref q), .val (.int (Lp (a 0))), .val (.double (T (a 4))), .second, .val (.int (Lp (a 4))), .val (.int (0 : Int32)), .val (.int (1 : Int32))] [(.int (1 : Int32))])
      refine Go.step (fun _ k => XS.istore X41.here hx rfl (hb hby d4_140) rfl (l' := #[.val (.ref q), .val (.int (Lp (a 0))), .val (.double (T (a 4))), .second, .val (.int (Lp (a 4))), .val (.int (1 : Int32)), .val (.int (1 : Int32))]) rfl k) ?_
      show Go _ _ _ _ _ _ _ T41 (mkF m 142 #[.val (.ref q), .val (.int (Lp (a 0))), .val (.double (T (a 4))), .second, .val (.int (Lp (a 4))), .val (.int (1 : Int32)), .val (.int (1 : Int32))] [])
      refine Go.step (fun _ k => XS.goto X41.here hx rfl (pc0 := 142) (pc' := 41) rfl (hb hby d4_142) (by decide) (by decide) k) ?_
      show Go _ _ _ _ _ _ _ T41 (mkF m 41 #[.val (.ref q), .val (.int (Lp (a 0))), .val (.double (T (a 4))), .second, .val (.int (Lp (a 4))), .val (.int (1 : Int32)), .val (.int (1 : Int32))] [])
      refine Go.step (fun _ k => XS.iconst X41.here hx rfl (hb hby d4_41) k) ?_
      show Go _ _ _ _ _ _ _ T41 (mkF m 42 #[.val (.ref q), .val (.int (Lp (a 0))), .val (.double (T (a 4))), .second, .val (.int (Lp (a 4))), .val (.int (1 : Int32)), .val (.int (1 : Int32))] [(.int (2 : Int32))])
      refine Go.step (fun _ k => XS.iload X41.here hx rfl (hb hby d4_42) rfl k) ?_
      show Go _ _ _ _ _ _ _ T41 (mkF m 44 #[.val (.ref q), .val (.int (Lp (a 0))), .val (.double (T (a 4))), .second, .val (.int (Lp (a 4))), .val (.int (1 : Int32)), .val (.int (1 : Int32))] [(.int (1 : Int32)), (.int (2 : Int32))])
      refine Go.step (fun _ k => XS.imul X41.here hx rfl (hb hby d4_44) rfl k) ?_
      show Go _ _ _ _ _ _ _ T41 (mkF m 45 #[.val (.ref q), .val (.int (Lp (a 0))), .val (.double (T (a 4))), .second, .val (.int (Lp (a 4))), .val (.int (1 : Int32)), .val (.int (1 : Int32))] [(.int (2 : Int32))])
      refine Go.step (fun _ k => XS.iconst X41.here hx rfl (hb hby d4_45) k) ?_
      show Go _ _ _ _ _ _ _ T41 (mkF m 46 #[.val (.ref q), .val (.int (Lp (a 0))), .val (.double (T (a 4))), .second, .val (.int (Lp (a 4))), .val (.int (1 : Int32)), .val (.int (1 : Int32))] [(.int (1 : Int32)), (.int (2 : Int32))])
      refine Go.step (fun _ k => XS.iadd X41.here hx rfl (hb hby d4_46) rfl k) ?_
      show Go _ _ _ _ _ _ _ T41 (mkF m 47 #[.val (.ref q), .val (.int (Lp (a 0))), .val (.double (T (a 4))), .second, .val (.int (Lp (a 4))), .val (.int (1 : Int32)), .val (.int (1 : Int32))] [(.int (3 : Int32))])
      refine Go.step (fun _ k => XS.istore X41.here hx rfl (hb hby d4_47) rfl (l' := #[.val (.ref q), .val (.int (Lp (a 0))), .val (.double (T (a 4))), .second, .val (.int (Lp (a 4))), .val (.int (1 : Int32)), .val (.int (3 : Int32))]) rfl k) ?_
      show Go _ _ _ _ _ _ _ T41 (mkF m 49 #[.val (.ref q), .val (.int (Lp (a 0))), .val (.double (T (a 4))), .second, .val (.int (Lp (a 4))), .val (.int (1 : Int32)), .val (.int (3 : Int32))] [])
      refine Go.step (fun _ k => XS.iload X41.here hx rfl (hb hby d4_49) rfl k) ?_
      show Go _ _ _ _ _ _ _ T41 (mkF m 51 #[.val (.ref q), .val (.int (Lp (a 0))), .val (.double (T (a 4))), .second, .val (.int (Lp (a 4))), .val (.int (1 : Int32)), .val (.int (3 : Int32))] [(.int (3 : Int32))])
      refine Go.step (fun _ k => XS.aloadN X41.here hx rfl (hb hby d4_51) rfl rfl k) ?_
      show Go _ _ _ _ _ _ _ T41 (mkF m 52 #[.val (.ref q), .val (.int (Lp (a 0))), .val (.double (T (a 4))), .second, .val (.int (Lp (a 4))), .val (.int (1 : Int32)), .val (.int (3 : Int32))] [(.ref q), (.int (3 : Int32))])
      obtain ⟨T42, X42, e42, st42⟩ := getF X41 hx hZ hown (host := "") (Or.inl (hw _ (List.mem_of_getElem? (i := 20) rfl))) Via.refl e41 F_size_q_41 (g := (mkF m 52 #[.val (.ref q), .val (.int (Lp (a 0))), .val (.double (T (a 4))), .second, .val (.int (Lp (a 4))), .val (.int (1 : Int32)), .val (.int (3 : Int32))] [(.ref q), (.int (3 : Int32))])) rfl rfl (hb hby d4_52)
      refine Go.step st42 ?_
      show Go _ _ _ _ _ _ _ T42 (mkF m 55 #[.val (.ref q), .val (.int (Lp (a 0))), .val (.double (T (a 4))), .second, .val (.int (Lp (a 4))), .val (.int (1 : Int32)), .val (.int (3 : Int32))] [(.int (4 : Int32)), (.int (3 : Int32))])
      refine Go.step (fun _ k => XS.icmpYes X42.here hx rfl (pc0 := 55) (pc' := 61) rfl (hb hby d4_55) rfl (tlt (by decide : (3 : Int32) < (4 : Int32))).1 (by decide) (by decide) k) ?_
      show Go _ _ _ _ _ _ _ T42 (mkF m 61 #[.val (.ref q), .val (.int (Lp (a 0))), .val (.double (T (a 4))), .second, .val (.int (Lp (a 4))), .val (.int (1 : Int32)), .val (.int (3 : Int32))] [])
      refine Go.step (fun _ k => XS.iload X42.here hx rfl (hb hby d4_61) rfl k) ?_
      show Go _ _ _ _ _ _ _ T42 (mkF m 63 #[.val (.ref q), .val (.int (Lp (a 0))), .val (.double (T (a 4))), .second, .val (.int (Lp (a 4))), .val (.int (1 : Int32)), .val (.int (3 : Int32))] [(.int (3 : Int32))])
      refine Go.step (fun _ k => XS.iconst X42.here hx rfl (hb hby d4_63) k) ?_
      show Go _ _ _ _ _ _ _ T42 (mkF m 64 #[.val (.ref q), .val (.int (Lp (a 0))), .val (.double (T (a 4))), .second, .val (.int (Lp (a 4))), .val (.int (1 : Int32)), .val (.int (3 : Int32))] [(.int (1 : Int32)), (.int (3 : Int32))])
      refine Go.step (fun _ k => XS.iadd X42.here hx rfl (hb hby d4_64) rfl k) ?_
      show Go _ _ _ _ _ _ _ T42 (mkF m 65 #[.val (.ref q), .val (.int (Lp (a 0))), .val (.double (T (a 4))), .second, .val (.int (Lp (a 4))), .val (.int (1 : Int32)), .val (.int (3 : Int32))] [(.int (4 : Int32))])
      refine Go.step (fun _ k => XS.aloadN X42.here hx rfl (hb hby d4_65) rfl rfl k) ?_
      show Go _ _ _ _ _ _ _ T42 (mkF m 66 #[.val (.ref q), .val (.int (Lp (a 0))), .val (.double (T (a 4))), .second, .val (.int (Lp (a 4))), .val (.int (1 : Int32)), .val (.int (3 : Int32))] [(.ref q), (.int (4 : Int32))])
      obtain ⟨T43, X43, e43, st43⟩ := getF X42 hx hZ hown (host := "") (Or.inl (hw _ (List.mem_of_getElem? (i := 20) rfl))) Via.refl e42 F_size_q_41 (g := (mkF m 66 #[.val (.ref q), .val (.int (Lp (a 0))), .val (.double (T (a 4))), .second, .val (.int (Lp (a 4))), .val (.int (1 : Int32)), .val (.int (3 : Int32))] [(.ref q), (.int (4 : Int32))])) rfl rfl (hb hby d4_66)
      refine Go.step st43 ?_
      show Go _ _ _ _ _ _ _ T43 (mkF m 69 #[.val (.ref q), .val (.int (Lp (a 0))), .val (.double (T (a 4))), .second, .val (.int (Lp (a 4))), .val (.int (1 : Int32)), .val (.int (3 : Int32))] [(.int (4 : Int32)), (.int (4 : Int32))])
      refine Go.step (fun _ k => XS.icmpYes X43.here hx rfl (pc0 := 69) (pc' := 95) rfl (hb hby d4_69) rfl (flt (by decide : ¬ ((4 : Int32) < (4 : Int32)))).2.1 (by decide) (by decide) k) ?_
      show Go _ _ _ _ _ _ _ T43 (mkF m 95 #[.val (.ref q), .val (.int (Lp (a 0))), .val (.double (T (a 4))), .second, .val (.int (Lp (a 4))), .val (.int (1 : Int32)), .val (.int (3 : Int32))] [])
      refine Go.step (fun _ k => XS.aloadN X43.here hx rfl (hb hby d4_95) rfl rfl k) ?_
      show Go _ _ _ _ _ _ _ T43 (mkF m 96 #[.val (.ref q), .val (.int (Lp (a 0))), .val (.double (T (a 4))), .second, .val (.int (Lp (a 4))), .val (.int (1 : Int32)), .val (.int (3 : Int32))] [(.ref q)])
      obtain ⟨T44, X44, e44, st44⟩ := getF X43 hx hZ hown (host := "") (Or.inl (hw _ (List.mem_of_getElem? (i := 11) rfl))) Via.refl e43 F_times_q_41 (g := (mkF m 96 #[.val (.ref q), .val (.int (Lp (a 0))), .val (.double (T (a 4))), .second, .val (.int (Lp (a 4))), .val (.int (1 : Int32)), .val (.int (3 : Int32))] [(.ref q)])) rfl rfl (hb hby d4_96)
      refine Go.step st44 ?_
      show Go _ _ _ _ _ _ _ T44 (mkF m 99 #[.val (.ref q), .val (.int (Lp (a 0))), .val (.double (T (a 4))), .second, .val (.int (Lp (a 4))), .val (.int (1 : Int32)), .val (.int (3 : Int32))] [(.ref u)])
      refine Go.step (fun _ k => XS.iload X44.here hx rfl (hb hby d4_99) rfl k) ?_
      show Go _ _ _ _ _ _ _ T44 (mkF m 101 #[.val (.ref q), .val (.int (Lp (a 0))), .val (.double (T (a 4))), .second, .val (.int (Lp (a 4))), .val (.int (1 : Int32)), .val (.int (3 : Int32))] [(.int (3 : Int32)), (.ref u)])
      refine Go.daload X44 hx hZ e44 V_u_41 (j := (3 : Int32)) (v := (T (a 3))) (by decide) (by first | rfl | simp [updN, hg0, hg1, hg2, hg3, hg4, hl0, hl1, hl2, hl3, hl4]) (hb hby d4_101) ?_
      show Go _ _ _ _ _ _ _ T44 (mkF m 102 #[.val (.ref q), .val (.int (Lp (a 0))), .val (.double (T (a 4))), .second, .val (.int (Lp (a 4))), .val (.int (1 : Int32)), .val (.int (3 : Int32))] [(.double (T (a 3)))])
      refine Go.step (fun _ k => XS.dloadN X44.here hx rfl (hb hby d4_102) rfl k) ?_
      show Go _ _ _ _ _ _ _ T44 (mkF m 103 #[.val (.ref q), .val (.int (Lp (a 0))), .val (.double (T (a 4))), .second, .val (.int (Lp (a 4))), .val (.int (1 : Int32)), .val (.int (3 : Int32))] [(.double (T (a 4))), (.double (T (a 3)))])
      refine Go.step (fun _ k => XS.dcmpS X44.here hx rfl (hb hby d4_103) rfl rfl k) ?_
      show Go _ _ _ _ _ _ _ T44 (mkF m 104 #[.val (.ref q), .val (.int (Lp (a 0))), .val (.double (T (a 4))), .second, .val (.int (Lp (a 4))), .val (.int (1 : Int32)), .val (.int (3 : Int32))] [(.int (cmpValue (FP.dcmp (T (a 3)) (T (a 4))) .l))])
      by_cases hd104_45 : (FP.dcmp (T (a 3)) (T (a 4)) = some .gt ∨ FP.dcmp (T (a 3)) (T (a 4)) = some .eq)
      · refine Go.step (fun _ k => XS.ifNo X44.here hx rfl (hb hby d4_104) rfl (ge_y hd104_45) k) ?_
        show Go _ _ _ _ _ _ _ T44 (mkF m 107 #[.val (.ref q), .val (.int (Lp (a 0))), .val (.double (T (a 4))), .second, .val (.int (Lp (a 4))), .val (.int (1 : Int32)), .val (.int (3 : Int32))] [])
        refine Go.step (fun _ k => XS.goto X44.here hx rfl (pc0 := 107) (pc' := 145) rfl (hb hby d4_107) (by decide) (by decide) k) ?_
        show Go _ _ _ _ _ _ _ T44 (mkF m 145 #[.val (.ref q), .val (.int (Lp (a 0))), .val (.double (T (a 4))), .second, .val (.int (Lp (a 4))), .val (.int (1 : Int32)), .val (.int (3 : Int32))] [])
        refine Go.step (fun _ k => XS.aloadN X44.here hx rfl (hb hby d4_145) rfl rfl k) ?_
        show Go _ _ _ _ _ _ _ T44 (mkF m 146 #[.val (.ref q), .val (.int (Lp (a 0))), .val (.double (T (a 4))), .second, .val (.int (Lp (a 4))), .val (.int (1 : Int32)), .val (.int (3 : Int32))] [(.ref q)])
        obtain ⟨T46, X46, e46, st46⟩ := getF X44 hx hZ hown (host := "") (Or.inl (hw _ (List.mem_of_getElem? (i := 11) rfl))) Via.refl e44 F_times_q_41 (g := (mkF m 146 #[.val (.ref q), .val (.int (Lp (a 0))), .val (.double (T (a 4))), .second, .val (.int (Lp (a 4))), .val (.int (1 : Int32)), .val (.int (3 : Int32))] [(.ref q)])) rfl rfl (hb hby d4_146)
        refine Go.step st46 ?_
        show Go _ _ _ _ _ _ _ T46 (mkF m 149 #[.val (.ref q), .val (.int (Lp (a 0))), .val (.double (T (a 4))), .second, .val (.int (Lp (a 4))), .val (.int (1 : Int32)), .val (.int (3 : Int32))] [(.ref u)])
        refine Go.step (fun _ k => XS.iload X46.here hx rfl (hb hby d4_149) rfl k) ?_
        show Go _ _ _ _ _ _ _ T46 (mkF m 151 #[.val (.ref q), .val (.int (Lp (a 0))), .val (.double (T (a 4))), .second, .val (.int (Lp (a 4))), .val (.int (1 : Int32)), .val (.int (3 : Int32))] [(.int (1 : Int32)), (.ref u)])
        refine Go.step (fun _ k => XS.dloadN X46.here hx rfl (hb hby d4_151) rfl k) ?_
        show Go _ _ _ _ _ _ _ T46 (mkF m 152 #[.val (.ref q), .val (.int (Lp (a 0))), .val (.double (T (a 4))), .second, .val (.int (Lp (a 4))), .val (.int (1 : Int32)), .val (.int (3 : Int32))] [(.double (T (a 4))), (.int (1 : Int32)), (.ref u)])
        refine Go.dastore X46 hx hZ e46 V_u_41 (j := (1 : Int32)) (x := (T (a 4))) (by decide) (hb hby d4_152) ?_
        intro T47 h47 X47 e47 W47 Vn47
        have V_u_47 : Dv Z h47 u (64 : Int32) (updN (updN g 0 (T (a 1))) 1 (T (a 4))) := Vn47
        have N47 := Fr.snoc X47 N41 ge_u
        have E_q_47 := E_q_41.wr W47
        have F_size_q_47 := F_size_q_41.other W47 (Or.inl ne_q_u)
        have F_times_q_47 := F_times_q_41.other W47 (Or.inl ne_q_u)
        have F_lightpaths_q_47 := F_lightpaths_q_41.other W47 (Or.inl ne_q_u)
        have V_v_47 := V_v_41.other W47 (Ne.symm ne_u_v)
        have K47 : Keep h0 h47 [q, u, v] := K41.wr W47 (Or.inl (List.mem_of_getElem? (i := 1) rfl))
        show Go _ _ _ _ _ _ _ T47 (mkF m 153 #[.val (.ref q), .val (.int (Lp (a 0))), .val (.double (T (a 4))), .second, .val (.int (Lp (a 4))), .val (.int (1 : Int32)), .val (.int (3 : Int32))] [])
        refine Go.step (fun _ k => XS.aloadN X47.here hx rfl (hb hby d4_153) rfl rfl k) ?_
        show Go _ _ _ _ _ _ _ T47 (mkF m 154 #[.val (.ref q), .val (.int (Lp (a 0))), .val (.double (T (a 4))), .second, .val (.int (Lp (a 4))), .val (.int (1 : Int32)), .val (.int (3 : Int32))] [(.ref q)])
        obtain ⟨T48, X48, e48, st48⟩ := getF X47 hx hZ hown (host := "") (Or.inl (hw _ (List.mem_of_getElem? (i := 13) rfl))) Via.refl e47 F_lightpaths_q_47 (g := (mkF m 154 #[.val (.ref q), .val (.int (Lp (a 0))), .val (.double (T (a 4))), .second, .val (.int (Lp (a 4))), .val (.int (1 : Int32)), .val (.int (3 : Int32))] [(.ref q)])) rfl rfl (hb hby d4_154)
        refine Go.step st48 ?_
        show Go _ _ _ _ _ _ _ T48 (mkF m 157 #[.val (.ref q), .val (.int (Lp (a 0))), .val (.double (T (a 4))), .second, .val (.int (Lp (a 4))), .val (.int (1 : Int32)), .val (.int (3 : Int32))] [(.ref v)])
        refine Go.step (fun _ k => XS.iload X48.here hx rfl (hb hby d4_157) rfl k) ?_
        show Go _ _ _ _ _ _ _ T48 (mkF m 159 #[.val (.ref q), .val (.int (Lp (a 0))), .val (.double (T (a 4))), .second, .val (.int (Lp (a 4))), .val (.int (1 : Int32)), .val (.int (3 : Int32))] [(.int (1 : Int32)), (.ref v)])
        refine Go.step (fun _ k => XS.iload X48.here hx rfl (hb hby d4_159) rfl k) ?_
        show Go _ _ _ _ _ _ _ T48 (mkF m 161 #[.val (.ref q), .val (.int (Lp (a 0))), .val (.double (T (a 4))), .second, .val (.int (Lp (a 4))), .val (.int (1 : Int32)), .val (.int (3 : Int32))] [(.int (Lp (a 4))), (.int (1 : Int32)), (.ref v)])
        refine Go.iastore X48 hx hZ e48 V_v_47 (j := (1 : Int32)) (x := (Lp (a 4))) (by decide) (hb hby d4_161) ?_
        intro T49 h49 X49 e49 W49 Vn49
        have V_v_49 : Iv Z h49 v (64 : Int32) (updN (updN l' 0 (Lp (a 1))) 1 (Lp (a 4))) := Vn49
        have N49 := Fr.snoc X49 N47 ge_v
        have E_q_49 := E_q_47.wr W49
        have F_size_q_49 := F_size_q_47.other W49 (Or.inl ne_q_v)
        have F_times_q_49 := F_times_q_47.other W49 (Or.inl ne_q_v)
        have F_lightpaths_q_49 := F_lightpaths_q_47.other W49 (Or.inl ne_q_v)
        have V_u_49 := V_u_47.other W49 ne_u_v
        have K49 : Keep h0 h49 [q, u, v] := K47.wr W49 (Or.inl (List.mem_of_getElem? (i := 2) rfl))
        show Go _ _ _ _ _ _ _ T49 (mkF m 162 #[.val (.ref q), .val (.int (Lp (a 0))), .val (.double (T (a 4))), .second, .val (.int (Lp (a 4))), .val (.int (1 : Int32)), .val (.int (3 : Int32))] [])
        refine Go.step (fun _ k => XS.iloadN X49.here hx rfl (hb hby d4_162) rfl k) ?_
        show Go _ _ _ _ _ _ _ T49 (mkF m 163 #[.val (.ref q), .val (.int (Lp (a 0))), .val (.double (T (a 4))), .second, .val (.int (Lp (a 4))), .val (.int (1 : Int32)), .val (.int (3 : Int32))] [(.int (Lp (a 0)))])
        refine Go.retI X49 hx hlk hret (hb hby d4_163) (by decide) (by decide) ?_
        try rw [e49]
        have := own_nltK hT hd89_12
        have := own_ngeK hT hd104_31
        have := own_geK hT hd104_45
        refine ⟨rfl, N49, K49, E_q_49, F_size_q_49, F_times_q_49, F_lightpaths_q_49, _, _, (updN (updN a 0 (a 1)) 1 (a 4)), V_u_49, V_v_49, fun i hi' => by rcases (by omega : i = 0 ∨ i = 1 ∨ i = 2 ∨ i = 3) with rfl | rfl | rfl | rfl <;> first | rfl | simp [updN, hg0, hg1, hg2, hg3, hg4, hl0, hl1, hl2, hl3, hl4], fun i hi' => by rcases (by omega : i = 0 ∨ i = 1 ∨ i = 2 ∨ i = 3) with rfl | rfl | rfl | rfl <;> first | rfl | simp [updN, hg0, hg1, hg2, hg3, hg4, hl0, hl1, hl2, hl3, hl4], ?_, ?_, fun P hP => ?_⟩
        · simp only [HI, updN]; try simp; try omega
        · exact ⟨fun i hi' => by rcases (by omega : i = 0 ∨ i = 1 ∨ i = 2 ∨ i = 3) with rfl | rfl | rfl | rfl <;> simp [updN] <;> omega, fun w => by simp [sumA, updN]; try omega⟩
        · intro i hi'; rcases (by omega : i = 0 ∨ i = 1 ∨ i = 2 ∨ i = 3) with rfl | rfl | rfl | rfl <;> simp [updN] <;> exact hP _ (by decide)
      · refine Go.step (fun _ k => XS.ifYes X44.here hx rfl (pc0 := 104) (pc' := 110) rfl (hb hby d4_104) rfl (ge_n hd104_45) (by decide) (by decide) k) ?_
        show Go _ _ _ _ _ _ _ T44 (mkF m 110 #[.val (.ref q), .val (.int (Lp (a 0))), .val (.double (T (a 4))), .second, .val (.int (Lp (a 4))), .val (.int (1 : Int32)), .val (.int (3 : Int32))] [])
        refine Go.step (fun _ k => XS.aloadN X44.here hx rfl (hb hby d4_110) rfl rfl k) ?_
        show Go _ _ _ _ _ _ _ T44 (mkF m 111 #[.val (.ref q), .val (.int (Lp (a 0))), .val (.double (T (a 4))), .second, .val (.int (Lp (a 4))), .val (.int (1 : Int32)), .val (.int (3 : Int32))] [(.ref q)])
        obtain ⟨T50, X50, e50, st50⟩ := getF X44 hx hZ hown (host := "") (Or.inl (hw _ (List.mem_of_getElem? (i := 11) rfl))) Via.refl e44 F_times_q_41 (g := (mkF m 111 #[.val (.ref q), .val (.int (Lp (a 0))), .val (.double (T (a 4))), .second, .val (.int (Lp (a 4))), .val (.int (1 : Int32)), .val (.int (3 : Int32))] [(.ref q)])) rfl rfl (hb hby d4_111)
        refine Go.step st50 ?_
        show Go _ _ _ _ _ _ _ T50 (mkF m 114 #[.val (.ref q), .val (.int (Lp (a 0))), .val (.double (T (a 4))), .second, .val (.int (Lp (a 4))), .val (.int (1 : Int32)), .val (.int (3 : Int32))] [(.ref u)])
        refine Go.step (fun _ k => XS.iload X50.here hx rfl (hb hby d4_114) rfl k) ?_
        show Go _ _ _ _ _ _ _ T50 (mkF m 116 #[.val (.ref q), .val (.int (Lp (a 0))), .val (.double (T (a 4))), .second, .val (.int (Lp (a 4))), .val (.int (1 : Int32)), .val (.int (3 : Int32))] [(.int (1 : Int32)), (.ref u)])
        refine Go.step (fun _ k => XS.aloadN X50.here hx rfl (hb hby d4_116) rfl rfl k) ?_
        show Go _ _ _ _ _ _ _ T50 (mkF m 117 #[.val (.ref q), .val (.int (Lp (a 0))), .val (.double (T (a 4))), .second, .val (.int (Lp (a 4))), .val (.int (1 : Int32)), .val (.int (3 : Int32))] [(.ref q), (.int (1 : Int32)), (.ref u)])
        obtain ⟨T51, X51, e51, st51⟩ := getF X50 hx hZ hown (host := "") (Or.inl (hw _ (List.mem_of_getElem? (i := 11) rfl))) Via.refl e50 F_times_q_41 (g := (mkF m 117 #[.val (.ref q), .val (.int (Lp (a 0))), .val (.double (T (a 4))), .second, .val (.int (Lp (a 4))), .val (.int (1 : Int32)), .val (.int (3 : Int32))] [(.ref q), (.int (1 : Int32)), (.ref u)])) rfl rfl (hb hby d4_117)
        refine Go.step st51 ?_
        show Go _ _ _ _ _ _ _ T51 (mkF m 120 #[.val (.ref q), .val (.int (Lp (a 0))), .val (.double (T (a 4))), .second, .val (.int (Lp (a 4))), .val (.int (1 : Int32)), .val (.int (3 : Int32))] [(.ref u), (.int (1 : Int32)), (.ref u)])
        refine Go.step (fun _ k => XS.iload X51.here hx rfl (hb hby d4_120) rfl k) ?_
        show Go _ _ _ _ _ _ _ T51 (mkF m 122 #[.val (.ref q), .val (.int (Lp (a 0))), .val (.double (T (a 4))), .second, .val (.int (Lp (a 4))), .val (.int (1 : Int32)), .val (.int (3 : Int32))] [(.int (3 : Int32)), (.ref u), (.int (1 : Int32)), (.ref u)])
        refine Go.daload X51 hx hZ e51 V_u_41 (j := (3 : Int32)) (v := (T (a 3))) (by decide) (by first | rfl | simp [updN, hg0, hg1, hg2, hg3, hg4, hl0, hl1, hl2, hl3, hl4]) (hb hby d4_122) ?_
        show Go _ _ _ _ _ _ _ T51 (mkF m 123 #[.val (.ref q), .val (.int (Lp (a 0))), .val (.double (T (a 4))), .second, .val (.int (Lp (a 4))), .val (.int (1 : Int32)), .val (.int (3 : Int32))] [(.double (T (a 3))), (.int (1 : Int32)), (.ref u)])
        refine Go.dastore X51 hx hZ e51 V_u_41 (j := (1 : Int32)) (x := (T (a 3))) (by decide) (hb hby d4_123) ?_
        intro T52 h52 X52 e52 W52 Vn52
        have V_u_52 : Dv Z h52 u (64 : Int32) (updN (updN g 0 (T (a 1))) 1 (T (a 3))) := Vn52
        have N52 := Fr.snoc X52 N41 ge_u
        have E_q_52 := E_q_41.wr W52
        have F_size_q_52 := F_size_q_41.other W52 (Or.inl ne_q_u)
        have F_times_q_52 := F_times_q_41.other W52 (Or.inl ne_q_u)
        have F_lightpaths_q_52 := F_lightpaths_q_41.other W52 (Or.inl ne_q_u)
        have V_v_52 := V_v_41.other W52 (Ne.symm ne_u_v)
        have K52 : Keep h0 h52 [q, u, v] := K41.wr W52 (Or.inl (List.mem_of_getElem? (i := 1) rfl))
        show Go _ _ _ _ _ _ _ T52 (mkF m 124 #[.val (.ref q), .val (.int (Lp (a 0))), .val (.double (T (a 4))), .second, .val (.int (Lp (a 4))), .val (.int (1 : Int32)), .val (.int (3 : Int32))] [])
        refine Go.step (fun _ k => XS.aloadN X52.here hx rfl (hb hby d4_124) rfl rfl k) ?_
        show Go _ _ _ _ _ _ _ T52 (mkF m 125 #[.val (.ref q), .val (.int (Lp (a 0))), .val (.double (T (a 4))), .second, .val (.int (Lp (a 4))), .val (.int (1 : Int32)), .val (.int (3 : Int32))] [(.ref q)])
        obtain ⟨T53, X53, e53, st53⟩ := getF X52 hx hZ hown (host := "") (Or.inl (hw _ (List.mem_of_getElem? (i := 13) rfl))) Via.refl e52 F_lightpaths_q_52 (g := (mkF m 125 #[.val (.ref q), .val (.int (Lp (a 0))), .val (.double (T (a 4))), .second, .val (.int (Lp (a 4))), .val (.int (1 : Int32)), .val (.int (3 : Int32))] [(.ref q)])) rfl rfl (hb hby d4_125)
        refine Go.step st53 ?_
        show Go _ _ _ _ _ _ _ T53 (mkF m 128 #[.val (.ref q), .val (.int (Lp (a 0))), .val (.double (T (a 4))), .second, .val (.int (Lp (a 4))), .val (.int (1 : Int32)), .val (.int (3 : Int32))] [(.ref v)])
        refine Go.step (fun _ k => XS.iload X53.here hx rfl (hb hby d4_128) rfl k) ?_
        show Go _ _ _ _ _ _ _ T53 (mkF m 130 #[.val (.ref q), .val (.int (Lp (a 0))), .val (.double (T (a 4))), .second, .val (.int (Lp (a 4))), .val (.int (1 : Int32)), .val (.int (3 : Int32))] [(.int (1 : Int32)), (.ref v)])
        refine Go.step (fun _ k => XS.aloadN X53.here hx rfl (hb hby d4_130) rfl rfl k) ?_
        show Go _ _ _ _ _ _ _ T53 (mkF m 131 #[.val (.ref q), .val (.int (Lp (a 0))), .val (.double (T (a 4))), .second, .val (.int (Lp (a 4))), .val (.int (1 : Int32)), .val (.int (3 : Int32))] [(.ref q), (.int (1 : Int32)), (.ref v)])
        obtain ⟨T54, X54, e54, st54⟩ := getF X53 hx hZ hown (host := "") (Or.inl (hw _ (List.mem_of_getElem? (i := 13) rfl))) Via.refl e53 F_lightpaths_q_52 (g := (mkF m 131 #[.val (.ref q), .val (.int (Lp (a 0))), .val (.double (T (a 4))), .second, .val (.int (Lp (a 4))), .val (.int (1 : Int32)), .val (.int (3 : Int32))] [(.ref q), (.int (1 : Int32)), (.ref v)])) rfl rfl (hb hby d4_131)
        refine Go.step st54 ?_
        show Go _ _ _ _ _ _ _ T54 (mkF m 134 #[.val (.ref q), .val (.int (Lp (a 0))), .val (.double (T (a 4))), .second, .val (.int (Lp (a 4))), .val (.int (1 : Int32)), .val (.int (3 : Int32))] [(.ref v), (.int (1 : Int32)), (.ref v)])
        refine Go.step (fun _ k => XS.iload X54.here hx rfl (hb hby d4_134) rfl k) ?_
        show Go _ _ _ _ _ _ _ T54 (mkF m 136 #[.val (.ref q), .val (.int (Lp (a 0))), .val (.double (T (a 4))), .second, .val (.int (Lp (a 4))), .val (.int (1 : Int32)), .val (.int (3 : Int32))] [(.int (3 : Int32)), (.ref v), (.int (1 : Int32)), (.ref v)])
        refine Go.iaload X54 hx hZ e54 V_v_52 (j := (3 : Int32)) (v := (Lp (a 3))) (by decide) (by first | rfl | simp [updN, hg0, hg1, hg2, hg3, hg4, hl0, hl1, hl2, hl3, hl4]) (hb hby d4_136) ?_
        show Go _ _ _ _ _ _ _ T54 (mkF m 137 #[.val (.ref q), .val (.int (Lp (a 0))), .val (.double (T (a 4))), .second, .val (.int (Lp (a 4))), .val (.int (1 : Int32)), .val (.int (3 : Int32))] [(.int (Lp (a 3))), (.int (1 : Int32)), (.ref v)])
        refine Go.iastore X54 hx hZ e54 V_v_52 (j := (1 : Int32)) (x := (Lp (a 3))) (by decide) (hb hby d4_137) ?_
        intro T55 h55 X55 e55 W55 Vn55
        have V_v_55 : Iv Z h55 v (64 : Int32) (updN (updN l' 0 (Lp (a 1))) 1 (Lp (a 3))) := Vn55
        have N55 := Fr.snoc X55 N52 ge_v
        have E_q_55 := E_q_52.wr W55
        have F_size_q_55 := F_size_q_52.other W55 (Or.inl ne_q_v)
        have F_times_q_55 := F_times_q_52.other W55 (Or.inl ne_q_v)
        have F_lightpaths_q_55 := F_lightpaths_q_52.other W55 (Or.inl ne_q_v)
        have V_u_55 := V_u_52.other W55 ne_u_v
        have K55 : Keep h0 h55 [q, u, v] := K52.wr W55 (Or.inl (List.mem_of_getElem? (i := 2) rfl))
        show Go _ _ _ _ _ _ _ T55 (mkF m 138 #[.val (.ref q), .val (.int (Lp (a 0))), .val (.double (T (a 4))), .second, .val (.int (Lp (a 4))), .val (.int (1 : Int32)), .val (.int (3 : Int32))] [])
        refine Go.step (fun _ k => XS.iload X55.here hx rfl (hb hby d4_138) rfl k) ?_
        show Go _ _ _ _ _ _ _ T55 (mkF m 140 #[.val (.ref q), .val (.int (Lp (a 0))), .val (.double (T (a 4))), .second, .val (.int (Lp (a 4))), .val (.int (1 : Int32)), .val (.int (3 : Int32))] [(.int (3 : Int32))])
        refine Go.step (fun _ k => XS.istore X55.here hx rfl (hb hby d4_140) rfl (l' := #[.val (.ref q), .val (.int (Lp (a 0))), .val (.double (T (a 4))), .second, .val (.int (Lp (a 4))), .val (.int (3 : Int32)), .val (.int (3 : Int32))]) rfl k) ?_
        show Go _ _ _ _ _ _ _ T55 (mkF m 142 #[.val (.ref q), .val (.int (Lp (a 0))), .val (.double (T (a 4))), .second, .val (.int (Lp (a 4))), .val (.int (3 : Int32)), .val (.int (3 : Int32))] [])
        refine Go.step (fun _ k => XS.goto X55.here hx rfl (pc0 := 142) (pc' := 41) rfl (hb hby d4_142) (by decide) (by decide) k) ?_
        show Go _ _ _ _ _ _ _ T55 (mkF m 41 #[.val (.ref q), .val (.int (Lp (a 0))), .val (.double (T (a 4))), .second, .val (.int (Lp (a 4))), .val (.int (3 : Int32)), .val (.int (3 : Int32))] [])
        refine Go.step (fun _ k => XS.iconst X55.here hx rfl (hb hby d4_41) k) ?_
        show Go _ _ _ _ _ _ _ T55 (mkF m 42 #[.val (.ref q), .val (.int (Lp (a 0))), .val (.double (T (a 4))), .second, .val (.int (Lp (a 4))), .val (.int (3 : Int32)), .val (.int (3 : Int32))] [(.int (2 : Int32))])
        refine Go.step (fun _ k => XS.iload X55.here hx rfl (hb hby d4_42) rfl k) ?_
        show Go _ _ _ _ _ _ _ T55 (mkF m 44 #[.val (.ref q), .val (.int (Lp (a 0))), .val (.double (T (a 4))), .second, .val (.int (Lp (a 4))), .val (.int (3 : Int32)), .val (.int (3 : Int32))] [(.int (3 : Int32)), (.int (2 : Int32))])
        refine Go.step (fun _ k => XS.imul X55.here hx rfl (hb hby d4_44) rfl k) ?_
        show Go _ _ _ _ _ _ _ T55 (mkF m 45 #[.val (.ref q), .val (.int (Lp (a 0))), .val (.double (T (a 4))), .second, .val (.int (Lp (a 4))), .val (.int (3 : Int32)), .val (.int (3 : Int32))] [(.int (6 : Int32))])
        refine Go.step (fun _ k => XS.iconst X55.here hx rfl (hb hby d4_45) k) ?_
        show Go _ _ _ _ _ _ _ T55 (mkF m 46 #[.val (.ref q), .val (.int (Lp (a 0))), .val (.double (T (a 4))), .second, .val (.int (Lp (a 4))), .val (.int (3 : Int32)), .val (.int (3 : Int32))] [(.int (1 : Int32)), (.int (6 : Int32))])
        refine Go.step (fun _ k => XS.iadd X55.here hx rfl (hb hby d4_46) rfl k) ?_
        show Go _ _ _ _ _ _ _ T55 (mkF m 47 #[.val (.ref q), .val (.int (Lp (a 0))), .val (.double (T (a 4))), .second, .val (.int (Lp (a 4))), .val (.int (3 : Int32)), .val (.int (3 : Int32))] [(.int (7 : Int32))])
        refine Go.step (fun _ k => XS.istore X55.here hx rfl (hb hby d4_47) rfl (l' := #[.val (.ref q), .val (.int (Lp (a 0))), .val (.double (T (a 4))), .second, .val (.int (Lp (a 4))), .val (.int (3 : Int32)), .val (.int (7 : Int32))]) rfl k) ?_
        show Go _ _ _ _ _ _ _ T55 (mkF m 49 #[.val (.ref q), .val (.int (Lp (a 0))), .val (.double (T (a 4))), .second, .val (.int (Lp (a 4))), .val (.int (3 : Int32)), .val (.int (7 : Int32))] [])
        refine Go.step (fun _ k => XS.iload X55.here hx rfl (hb hby d4_49) rfl k) ?_
        show Go _ _ _ _ _ _ _ T55 (mkF m 51 #[.val (.ref q), .val (.int (Lp (a 0))), .val (.double (T (a 4))), .second, .val (.int (Lp (a 4))), .val (.int (3 : Int32)), .val (.int (7 : Int32))] [(.int (7 : Int32))])
        refine Go.step (fun _ k => XS.aloadN X55.here hx rfl (hb hby d4_51) rfl rfl k) ?_
        show Go _ _ _ _ _ _ _ T55 (mkF m 52 #[.val (.ref q), .val (.int (Lp (a 0))), .val (.double (T (a 4))), .second, .val (.int (Lp (a 4))), .val (.int (3 : Int32)), .val (.int (7 : Int32))] [(.ref q), (.int (7 : Int32))])
        obtain ⟨T56, X56, e56, st56⟩ := getF X55 hx hZ hown (host := "") (Or.inl (hw _ (List.mem_of_getElem? (i := 20) rfl))) Via.refl e55 F_size_q_55 (g := (mkF m 52 #[.val (.ref q), .val (.int (Lp (a 0))), .val (.double (T (a 4))), .second, .val (.int (Lp (a 4))), .val (.int (3 : Int32)), .val (.int (7 : Int32))] [(.ref q), (.int (7 : Int32))])) rfl rfl (hb hby d4_52)
        refine Go.step st56 ?_
        show Go _ _ _ _ _ _ _ T56 (mkF m 55 #[.val (.ref q), .val (.int (Lp (a 0))), .val (.double (T (a 4))), .second, .val (.int (Lp (a 4))), .val (.int (3 : Int32)), .val (.int (7 : Int32))] [(.int (4 : Int32)), (.int (7 : Int32))])
        refine Go.step (fun _ k => XS.icmpNo X56.here hx rfl (hb hby d4_55) rfl (flt (by decide : ¬ ((7 : Int32) < (4 : Int32)))).1 k) ?_
        show Go _ _ _ _ _ _ _ T56 (mkF m 58 #[.val (.ref q), .val (.int (Lp (a 0))), .val (.double (T (a 4))), .second, .val (.int (Lp (a 4))), .val (.int (3 : Int32)), .val (.int (7 : Int32))] [])
        refine Go.step (fun _ k => XS.goto X56.here hx rfl (pc0 := 58) (pc' := 145) rfl (hb hby d4_58) (by decide) (by decide) k) ?_
        show Go _ _ _ _ _ _ _ T56 (mkF m 145 #[.val (.ref q), .val (.int (Lp (a 0))), .val (.double (T (a 4))), .second, .val (.int (Lp (a 4))), .val (.int (3 : Int32)), .val (.int (7 : Int32))] [])
        refine Go.step (fun _ k => XS.aloadN X56.here hx rfl (hb hby d4_145) rfl rfl k) ?_
        show Go _ _ _ _ _ _ _ T56 (mkF m 146 #[.val (.ref q), .val (.int (Lp (a 0))), .val (.double (T (a 4))), .second, .val (.int (Lp (a 4))), .val (.int (3 : Int32)), .val (.int (7 : Int32))] [(.ref q)])
        obtain ⟨T57, X57, e57, st57⟩ := getF X56 hx hZ hown (host := "") (Or.inl (hw _ (List.mem_of_getElem? (i := 11) rfl))) Via.refl e56 F_times_q_55 (g := (mkF m 146 #[.val (.ref q), .val (.int (Lp (a 0))), .val (.double (T (a 4))), .second, .val (.int (Lp (a 4))), .val (.int (3 : Int32)), .val (.int (7 : Int32))] [(.ref q)])) rfl rfl (hb hby d4_146)
        refine Go.step st57 ?_
        show Go _ _ _ _ _ _ _ T57 (mkF m 149 #[.val (.ref q), .val (.int (Lp (a 0))), .val (.double (T (a 4))), .second, .val (.int (Lp (a 4))), .val (.int (3 : Int32)), .val (.int (7 : Int32))] [(.ref u)])
        refine Go.step (fun _ k => XS.iload X57.here hx rfl (hb hby d4_149) rfl k) ?_
        show Go _ _ _ _ _ _ _ T57 (mkF m 151 #[.val (.ref q), .val (.int (Lp (a 0))), .val (.double (T (a 4))), .second, .val (.int (Lp (a 4))), .val (.int (3 : Int32)), .val (.int (7 : Int32))] [(.int (3 : Int32)), (.ref u)])
        refine Go.step (fun _ k => XS.dloadN X57.here hx rfl (hb hby d4_151) rfl k) ?_
        show Go _ _ _ _ _ _ _ T57 (mkF m 152 #[.val (.ref q), .val (.int (Lp (a 0))), .val (.double (T (a 4))), .second, .val (.int (Lp (a 4))), .val (.int (3 : Int32)), .val (.int (7 : Int32))] [(.double (T (a 4))), (.int (3 : Int32)), (.ref u)])
        refine Go.dastore X57 hx hZ e57 V_u_55 (j := (3 : Int32)) (x := (T (a 4))) (by decide) (hb hby d4_152) ?_
        intro T58 h58 X58 e58 W58 Vn58
        have V_u_58 : Dv Z h58 u (64 : Int32) (updN (updN (updN g 0 (T (a 1))) 1 (T (a 3))) 3 (T (a 4))) := Vn58
        have N58 := Fr.snoc X58 N55 ge_u
        have E_q_58 := E_q_55.wr W58
        have F_size_q_58 := F_size_q_55.other W58 (Or.inl ne_q_u)
        have F_times_q_58 := F_times_q_55.other W58 (Or.inl ne_q_u)
        have F_lightpaths_q_58 := F_lightpaths_q_55.other W58 (Or.inl ne_q_u)
        have V_v_58 := V_v_55.other W58 (Ne.symm ne_u_v)
        have K58 : Keep h0 h58 [q, u, v] := K55.wr W58 (Or.inl (List.mem_of_getElem? (i := 1) rfl))
        show Go _ _ _ _ _ _ _ T58 (mkF m 153 #[.val (.ref q), .val (.int (Lp (a 0))), .val (.double (T (a 4))), .second, .val (.int (Lp (a 4))), .val (.int (3 : Int32)), .val (.int (7 : Int32))] [])
        refine Go.step (fun _ k => XS.aloadN X58.here hx rfl (hb hby d4_153) rfl rfl k) ?_
        show Go _ _ _ _ _ _ _ T58 (mkF m 154 #[.val (.ref q), .val (.int (Lp (a 0))), .val (.double (T (a 4))), .second, .val (.int (Lp (a 4))), .val (.int (3 : Int32)), .val (.int (7 : Int32))] [(.ref q)])
        obtain ⟨T59, X59, e59, st59⟩ := getF X58 hx hZ hown (host := "") (Or.inl (hw _ (List.mem_of_getElem? (i := 13) rfl))) Via.refl e58 F_lightpaths_q_58 (g := (mkF m 154 #[.val (.ref q), .val (.int (Lp (a 0))), .val (.double (T (a 4))), .second, .val (.int (Lp (a 4))), .val (.int (3 : Int32)), .val (.int (7 : Int32))] [(.ref q)])) rfl rfl (hb hby d4_154)
        refine Go.step st59 ?_
        show Go _ _ _ _ _ _ _ T59 (mkF m 157 #[.val (.ref q), .val (.int (Lp (a 0))), .val (.double (T (a 4))), .second, .val (.int (Lp (a 4))), .val (.int (3 : Int32)), .val (.int (7 : Int32))] [(.ref v)])
        refine Go.step (fun _ k => XS.iload X59.here hx rfl (hb hby d4_157) rfl k) ?_
        show Go _ _ _ _ _ _ _ T59 (mkF m 159 #[.val (.ref q), .val (.int (Lp (a 0))), .val (.double (T (a 4))), .second, .val (.int (Lp (a 4))), .val (.int (3 : Int32)), .val (.int (7 : Int32))] [(.int (3 : Int32)), (.ref v)])
        refine Go.step (fun _ k => XS.iload X59.here hx rfl (hb hby d4_159) rfl k) ?_
        show Go _ _ _ _ _ _ _ T59 (mkF m 161 #[.val (.ref q), .val (.int (Lp (a 0))), .val (.double (T (a 4))), .second, .val (.int (Lp (a 4))), .val (.int (3 : Int32)), .val (.int (7 : Int32))] [(.int (Lp (a 4))), (.int (3 : Int32)), (.ref v)])
        refine Go.iastore X59 hx hZ e59 V_v_58 (j := (3 : Int32)) (x := (Lp (a 4))) (by decide) (hb hby d4_161) ?_
        intro T60 h60 X60 e60 W60 Vn60
        have V_v_60 : Iv Z h60 v (64 : Int32) (updN (updN (updN l' 0 (Lp (a 1))) 1 (Lp (a 3))) 3 (Lp (a 4))) := Vn60
        have N60 := Fr.snoc X60 N58 ge_v
        have E_q_60 := E_q_58.wr W60
        have F_size_q_60 := F_size_q_58.other W60 (Or.inl ne_q_v)
        have F_times_q_60 := F_times_q_58.other W60 (Or.inl ne_q_v)
        have F_lightpaths_q_60 := F_lightpaths_q_58.other W60 (Or.inl ne_q_v)
        have V_u_60 := V_u_58.other W60 ne_u_v
        have K60 : Keep h0 h60 [q, u, v] := K58.wr W60 (Or.inl (List.mem_of_getElem? (i := 2) rfl))
        show Go _ _ _ _ _ _ _ T60 (mkF m 162 #[.val (.ref q), .val (.int (Lp (a 0))), .val (.double (T (a 4))), .second, .val (.int (Lp (a 4))), .val (.int (3 : Int32)), .val (.int (7 : Int32))] [])
        refine Go.step (fun _ k => XS.iloadN X60.here hx rfl (hb hby d4_162) rfl k) ?_
        show Go _ _ _ _ _ _ _ T60 (mkF m 163 #[.val (.ref q), .val (.int (Lp (a 0))), .val (.double (T (a 4))), .second, .val (.int (Lp (a 4))), .val (.int (3 : Int32)), .val (.int (7 : Int32))] [(.int (Lp (a 0)))])
        refine Go.retI X60 hx hlk hret (hb hby d4_163) (by decide) (by decide) ?_
        try rw [e60]
        have := own_nltK hT hd89_12
        have := own_ngeK hT hd104_31
        have := own_ngeK hT hd104_45
        refine ⟨rfl, N60, K60, E_q_60, F_size_q_60, F_times_q_60, F_lightpaths_q_60, _, _, (updN (updN (updN a 0 (a 1)) 1 (a 3)) 3 (a 4)), V_u_60, V_v_60, fun i hi' => by rcases (by omega : i = 0 ∨ i = 1 ∨ i = 2 ∨ i = 3) with rfl | rfl | rfl | rfl <;> first | rfl | simp [updN, hg0, hg1, hg2, hg3, hg4, hl0, hl1, hl2, hl3, hl4], fun i hi' => by rcases (by omega : i = 0 ∨ i = 1 ∨ i = 2 ∨ i = 3) with rfl | rfl | rfl | rfl <;> first | rfl | simp [updN, hg0, hg1, hg2, hg3, hg4, hl0, hl1, hl2, hl3, hl4], ?_, ?_, fun P hP => ?_⟩
        · simp only [HI, updN]; try simp; try omega
        · exact ⟨fun i hi' => by rcases (by omega : i = 0 ∨ i = 1 ∨ i = 2 ∨ i = 3) with rfl | rfl | rfl | rfl <;> simp [updN] <;> omega, fun w => by simp [sumA, updN]; try omega⟩
        · intro i hi'; rcases (by omega : i = 0 ∨ i = 1 ∨ i = 2 ∨ i = 3) with rfl | rfl | rfl | rfl <;> simp [updN] <;> exact hP _ (by decide)
theorem ef_rm_rem5 (m : MethodId) (q : Addr) : entryFrame m #[(.ref q)] 7 = mkF m 0 #[.val (.ref q), .unset, .unset, .unset, .unset, .unset, .unset] [] := by first | (simp [entryFrame, mkF, argsToLocals, Value.category]; done) | rfl
theorem rm_rem5 (l : Launch) (Z : State) (a0 : Array Value) (hw : ∀ d ∈ tables_1, d.before a0 Z = true) (q u v : Addr) (g : Nat → UInt64) (l' : Nat → Int32) (T : Nat → UInt64) (Lp : Nat → Int32) (K : Nat → Int) (a : Nat → Nat) (h0 : Heap) (n0 : Nat) (Z0 : n0 ≤ h0.size) (E_q : Exa Z h0 q "com/example/wavegrade/wavegrade/DepartureQueue") (F_size_q : Fld Z h0 q "com/example/wavegrade/wavegrade/DepartureQueue" "size" "I" (.int (5 : Int32))) (F_times_q : Fld Z h0 q "com/example/wavegrade/wavegrade/DepartureQueue" "times" "[D" (.ref u)) (F_lightpaths_q : Fld Z h0 q "com/example/wavegrade/wavegrade/DepartureQueue" "lightpaths" "[I" (.ref v)) (V_u : Dv Z h0 u (64 : Int32) g) (V_v : Iv Z h0 v (64 : Int32) l') (ne_q_u : q ≠ u) (ne_q_v : q ≠ v) (ne_u_v : u ≠ v) (ge_q : n0 ≤ q) (ge_u : n0 ≤ u) (ge_v : n0 ≤ v) (hT : ∀ x y, FP.dcmp (T x) (T y) = some (compare (K x) (K y))) (hg : ∀ i, i < 5 → g i = T (a i)) (hl : ∀ i, i < 5 → l' i = Lp (a i)) (hi : HI K a 5) :
    Con l Z (⟨"com/example/wavegrade/wavegrade/DepartureQueue", "removeFirst", "()I"⟩ : MethodName) prog_1_method_5_code 7 (some .int) ({ frames := 0, cells := 0, slots := 0, locals := 0 } : Room) #[(.ref q)] h0 (fun r h L => r = some (.int (Lp (a 0))) ∧ Fr n0 L ∧ Keep h0 h [q, u, v] ∧ Exa Z h q "com/example/wavegrade/wavegrade/DepartureQueue" ∧ Fld Z h q "com/example/wavegrade/wavegrade/DepartureQueue" "size" "I" (.int (4 : Int32)) ∧ Fld Z h q "com/example/wavegrade/wavegrade/DepartureQueue" "times" "[D" (.ref u) ∧ Fld Z h q "com/example/wavegrade/wavegrade/DepartureQueue" "lightpaths" "[I" (.ref v) ∧ ∃ (g2 : Nat → UInt64) (l2 : Nat → Int32) (a2 : Nat → Nat), Dv Z h u (64 : Int32) g2 ∧ Iv Z h v (64 : Int32) l2 ∧ (∀ i, i < 4 → g2 i = T (a2 i)) ∧ (∀ i, i < 4 → l2 i = Lp (a2 i)) ∧ HI K a2 4 ∧ ((∀ i, i < 4 → K (a 0) ≤ K (a2 i)) ∧ ∀ w : Nat → Int, sumA w a2 4 + w (a 0) = sumA w a 5) ∧ ∀ P : Nat → Prop, (∀ i, i < 5 → P (a i)) → ∀ i, i < 4 → P (a2 i)) :=
  con_of (plainFor_of_name pn_1) (fun p_ e_ s_ m_ b_ meth_ c_ T_ X_ hx hZ hby hml hown hnm hret hlk e0 => Go.cast (ef_rm_rem5 m_ q) (w_rem5 q u v g l' T Lp K a X_ hx hZ hw hby hml hown hnm hret hlk e0 Z0 (Fr.nil n0) E_q F_size_q F_times_q F_lightpaths_q V_u V_v ne_q_u ne_q_v ne_u_v ge_q ge_u ge_v hT hg hl hi))
set_option maxRecDepth 65536 in
set_option maxHeartbeats 40000000 in
theorem w_rem4 {p : Program} {l : Launch} {e : Env} {s : State} {m : MethodId} {args : Array Value} {below : List Frame} {meth : Method} {c_ : Code} {T0 : State} {locs : List Loc} {Z : State} {a0 : Array Value} {h0 : Heap} {n0 : Nat} (q u v : Addr) (g : Nat → UInt64) (l' : Nat → Int32) (T : Nat → UInt64) (Lp : Nat → Int32) (K : Nat → Int) (a : Nat → Nat)
    (X0 : Stand p l e ({ frames := 0, cells := 0, slots := 0, locals := 0 } : Room) s m args below meth c_ T0 locs 0 0) (hx : p.tables.exec = Jvm.exec) (hZ : Z.Warmed39 s.vm) (hw : ∀ d ∈ tables_1, d.before a0 Z = true) (hby : c_.code = prog_1_method_5_code) (hml : c_.maxLocals = 7) (hown : s.vm.findClass "com/example/wavegrade/wavegrade/DepartureQueue" = some m.cls) (hnm : meth.name = "removeFirst") (hret : meth.sig.returnType = some .int) (hlk : meth.locks = false) (e0 : T0.heap = h0) (Z0 : n0 ≤ h0.size) (N0 : Fr n0 locs) (E_q : Exa Z h0 q "com/example/wavegrade/wavegrade/DepartureQueue") (F_size_q : Fld Z h0 q "com/example/wavegrade/wavegrade/DepartureQueue" "size" "I" (.int (4 : Int32))) (F_times_q : Fld Z h0 q "com/example/wavegrade/wavegrade/DepartureQueue" "times" "[D" (.ref u)) (F_lightpaths_q : Fld Z h0 q "com/example/wavegrade/wavegrade/DepartureQueue" "lightpaths" "[I" (.ref v)) (V_u : Dv Z h0 u (64 : Int32) g) (V_v : Iv Z h0 v (64 : Int32) l') (ne_q_u : q ≠ u) (ne_q_v : q ≠ v) (ne_u_v : u ≠ v) (ge_q : n0 ≤ q) (ge_u : n0 ≤ u) (ge_v : n0 ≤ v) (hT : ∀ x y, FP.dcmp (T x) (T y) = some (compare (K x) (K y))) (hg : ∀ i, i < 4 → g i = T (a i)) (hl : ∀ i, i < 4 → l' i = Lp (a i)) (hi : HI K a 4) :
    Go p e below s ({ frames := 0, cells := 0, slots := 0, locals := 0 } : Room).cells ({ frames := 0, cells := 0, slots := 0, locals := 0 } : Room).slots (fun r h L => r = some (.int (Lp (a 0))) ∧ Fr n0 L ∧ Keep h0 h [q, u, v] ∧ Exa Z h q "com/example/wavegrade/wavegrade/DepartureQueue" ∧ Fld Z h q "com/example/wavegrade/wavegrade/DepartureQueue" "size" "I" (.int (3 : Int32)) ∧ Fld Z h q "com/example/wavegrade/wavegrade/DepartureQueue" "times" "[D" (.ref u) ∧ Fld Z h q "com/example/wavegrade/wavegrade/DepartureQueue" "lightpaths" "[I" (.ref v) ∧ ∃ (g2 : Nat → UInt64) (l2 : Nat → Int32) (a2 : Nat → Nat), Dv Z h u (64 : Int32) g2 ∧ Iv Z h v (64 : Int32) l2 ∧ (∀ i, i < 3 → g2 i = T (a2 i)) ∧ (∀ i, i < 3 → l2 i = Lp (a2 i)) ∧ HI K a2 3 ∧ ((∀ i, i < 3 → K (a 0) ≤ K (a2 i)) ∧ ∀ w : Nat → Int, sumA w a2 3 + w (a 0) = sumA w a 4) ∧ ∀ P : Nat → Prop, (∀ i, i < 4 → P (a i)) → ∀ i, i < 3 → P (a2 i)) T0 (mkF m 0 #[.val (.ref q), .unset, .unset, .unset, .unset, .unset, .unset] []) := by
  have hg0 := hg 0 (by decide)
  have hg1 := hg 1 (by decide)
  have hg2 := hg 2 (by decide)
  have hg3 := hg 3 (by decide)
  have hl0 := hl 0 (by decide)
  have hl1 := hl 1 (by decide)
  have hl2 := hl 2 (by decide)
  have hl3 := hl 3 (by decide)
  simp only [HI] at hi
  show Go _ _ _ _ _ _ _ T0 (mkF m 0 #[.val (.ref q), .unset, .unset, .unset, .unset, .unset, .unset] [])
  refine Go.step (fun _ k => XS.aloadN X0.here hx rfl (hb hby d4_0) rfl rfl k) ?_
  show Go _ _ _ _ _ _ _ T0 (mkF m 1 #[.val (.ref q), .unset, .unset, .unset, .unset, .unset, .unset] [(.ref q)])
  obtain ⟨T1, X1, e1, st1⟩ := getF X0 hx hZ hown (host := "") (Or.inl (hw _ (List.mem_of_getElem? (i := 13) rfl))) Via.refl e0 F_lightpaths_q (g := (mkF m 1 #[.val (.ref q), .unset, .unset, .unset, .unset, .unset, .unset] [(.ref q)])) rfl rfl (hb hby d4_1)
  refine Go.step st1 ?_
  show Go _ _ _ _ _ _ _ T1 (mkF m 4 #[.val (.ref q), .unset, .unset, .unset, .unset, .unset, .unset] [(.ref v)])
  refine Go.step (fun _ k => XS.iconst X1.here hx rfl (hb hby d4_4) k) ?_
  show Go _ _ _ _ _ _ _ T1 (mkF m 5 #[.val (.ref q), .unset, .unset, .unset, .unset, .unset, .unset] [(.int (0 : Int32)), (.ref v)])
  refine Go.iaload X1 hx hZ e1 V_v (j := (0 : Int32)) (v := (Lp (a 0))) (by decide) (by first | rfl | simp [updN, hg0, hg1, hg2, hg3, hl0, hl1, hl2, hl3]) (hb hby d4_5) ?_
  show Go _ _ _ _ _ _ _ T1 (mkF m 6 #[.val (.ref q), .unset, .unset, .unset, .unset, .unset, .unset] [(.int (Lp (a 0)))])
  refine Go.step (fun _ k => XS.istoreN X1.here hx rfl (hb hby d4_6) rfl (l' := #[.val (.ref q), .val (.int (Lp (a 0))), .unset, .unset, .unset, .unset, .unset]) rfl k) ?_
  show Go _ _ _ _ _ _ _ T1 (mkF m 7 #[.val (.ref q), .val (.int (Lp (a 0))), .unset, .unset, .unset, .unset, .unset] [])
  refine Go.step (fun _ k => XS.aloadN X1.here hx rfl (hb hby d4_7) rfl rfl k) ?_
  show Go _ _ _ _ _ _ _ T1 (mkF m 8 #[.val (.ref q), .val (.int (Lp (a 0))), .unset, .unset, .unset, .unset, .unset] [(.ref q)])
  refine Go.step (fun _ k => XS.dup X1.here hx rfl (hb hby d4_8) rfl rfl k) ?_
  show Go _ _ _ _ _ _ _ T1 (mkF m 9 #[.val (.ref q), .val (.int (Lp (a 0))), .unset, .unset, .unset, .unset, .unset] [(.ref q), (.ref q)])
  obtain ⟨T2, X2, e2, st2⟩ := getF X1 hx hZ hown (host := "") (Or.inl (hw _ (List.mem_of_getElem? (i := 20) rfl))) Via.refl e1 F_size_q (g := (mkF m 9 #[.val (.ref q), .val (.int (Lp (a 0))), .unset, .unset, .unset, .unset, .unset] [(.ref q), (.ref q)])) rfl rfl (hb hby d4_9)
  refine Go.step st2 ?_
  show Go _ _ _ _ _ _ _ T2 (mkF m 12 #[.val (.ref q), .val (.int (Lp (a 0))), .unset, .unset, .unset, .unset, .unset] [(.int (4 : Int32)), (.ref q)])
  refine Go.step (fun _ k => XS.iconst X2.here hx rfl (hb hby d4_12) k) ?_
  show Go _ _ _ _ _ _ _ T2 (mkF m 13 #[.val (.ref q), .val (.int (Lp (a 0))), .unset, .unset, .unset, .unset, .unset] [(.int (1 : Int32)), (.int (4 : Int32)), (.ref q)])
  refine Go.step (fun _ k => XS.isub X2.here hx rfl (hb hby d4_13) rfl k) ?_
  show Go _ _ _ _ _ _ _ T2 (mkF m 14 #[.val (.ref q), .val (.int (Lp (a 0))), .unset, .unset, .unset, .unset, .unset] [(.int (3 : Int32)), (.ref q)])
  obtain ⟨T3, h3, X3, e3, W3, st3⟩ := putF X2 hx hZ hown (host := "") (Or.inl (hw _ (List.mem_of_getElem? (i := 20) rfl))) Via.refl e2 F_size_q E_q (Or.inl (hw _ (List.mem_of_getElem? (i := 21) rfl))) (hw _ (List.mem_of_getElem? (i := 2) rfl)) (ty := .int) (by decide) rfl rfl (g := (mkF m 14 #[.val (.ref q), .val (.int (Lp (a 0))), .unset, .unset, .unset, .unset, .unset] [(.int (3 : Int32)), (.ref q)])) rfl rfl (hb hby d4_14)
  refine Go.step st3 ?_
  have N3 := Fr.snoc X3 N0 ge_q
  have F_size_q_3 := F_size_q.same W3
  have E_q_3 := E_q.wr W3
  have F_times_q_3 := F_times_q.other W3 (Or.inr (slot_ne (Or.inl (hw _ (List.mem_of_getElem? (i := 12) rfl))) (Or.inl (hw _ (List.mem_of_getElem? (i := 21) rfl))) (by decide) (t := (.array .double)) (t' := .int) (by decide) (by decide)))
  have F_lightpaths_q_3 := F_lightpaths_q.other W3 (Or.inr (slot_ne (Or.inl (hw _ (List.mem_of_getElem? (i := 14) rfl))) (Or.inl (hw _ (List.mem_of_getElem? (i := 21) rfl))) (by decide) (t := (.array .int)) (t' := .int) (by decide) (by decide)))
  have V_u_3 := V_u.other W3 (Ne.symm ne_q_u)
  have V_v_3 := V_v.other W3 (Ne.symm ne_q_v)
  have K3 : Keep h0 h3 [q, u, v] := (Keep.refl h0 [q, u, v]).wr W3 (Or.inl (List.mem_of_getElem? (i := 0) rfl))
  show Go _ _ _ _ _ _ _ T3 (mkF m 17 #[.val (.ref q), .val (.int (Lp (a 0))), .unset, .unset, .unset, .unset, .unset] [])
  refine Go.step (fun _ k => XS.aloadN X3.here hx rfl (hb hby d4_17) rfl rfl k) ?_
  show Go _ _ _ _ _ _ _ T3 (mkF m 18 #[.val (.ref q), .val (.int (Lp (a 0))), .unset, .unset, .unset, .unset, .unset] [(.ref q)])
  obtain ⟨T4, X4, e4, st4⟩ := getF X3 hx hZ hown (host := "") (Or.inl (hw _ (List.mem_of_getElem? (i := 11) rfl))) Via.refl e3 F_times_q_3 (g := (mkF m 18 #[.val (.ref q), .val (.int (Lp (a 0))), .unset, .unset, .unset, .unset, .unset] [(.ref q)])) rfl rfl (hb hby d4_18)
  refine Go.step st4 ?_
  show Go _ _ _ _ _ _ _ T4 (mkF m 21 #[.val (.ref q), .val (.int (Lp (a 0))), .unset, .unset, .unset, .unset, .unset] [(.ref u)])
  refine Go.step (fun _ k => XS.aloadN X4.here hx rfl (hb hby d4_21) rfl rfl k) ?_
  show Go _ _ _ _ _ _ _ T4 (mkF m 22 #[.val (.ref q), .val (.int (Lp (a 0))), .unset, .unset, .unset, .unset, .unset] [(.ref q), (.ref u)])
  obtain ⟨T5, X5, e5, st5⟩ := getF X4 hx hZ hown (host := "") (Or.inl (hw _ (List.mem_of_getElem? (i := 20) rfl))) Via.refl e4 F_size_q_3 (g := (mkF m 22 #[.val (.ref q), .val (.int (Lp (a 0))), .unset, .unset, .unset, .unset, .unset] [(.ref q), (.ref u)])) rfl rfl (hb hby d4_22)
  refine Go.step st5 ?_
  show Go _ _ _ _ _ _ _ T5 (mkF m 25 #[.val (.ref q), .val (.int (Lp (a 0))), .unset, .unset, .unset, .unset, .unset] [(.int (3 : Int32)), (.ref u)])
  refine Go.daload X5 hx hZ e5 V_u_3 (j := (3 : Int32)) (v := (T (a 3))) (by decide) (by first | rfl | simp [updN, hg0, hg1, hg2, hg3, hl0, hl1, hl2, hl3]) (hb hby d4_25) ?_
  show Go _ _ _ _ _ _ _ T5 (mkF m 26 #[.val (.ref q), .val (.int (Lp (a 0))), .unset, .unset, .unset, .unset, .unset] [(.double (T (a 3)))])
  refine Go.step (fun _ k => XS.dstoreN X5.here hx rfl (hb hby d4_26) rfl (l' := #[.val (.ref q), .val (.int (Lp (a 0))), .val (.double (T (a 3))), .second, .unset, .unset, .unset]) rfl k) ?_
  show Go _ _ _ _ _ _ _ T5 (mkF m 27 #[.val (.ref q), .val (.int (Lp (a 0))), .val (.double (T (a 3))), .second, .unset, .unset, .unset] [])
  refine Go.step (fun _ k => XS.aloadN X5.here hx rfl (hb hby d4_27) rfl rfl k) ?_
  show Go _ _ _ _ _ _ _ T5 (mkF m 28 #[.val (.ref q), .val (.int (Lp (a 0))), .val (.double (T (a 3))), .second, .unset, .unset, .unset] [(.ref q)])
  obtain ⟨T6, X6, e6, st6⟩ := getF X5 hx hZ hown (host := "") (Or.inl (hw _ (List.mem_of_getElem? (i := 13) rfl))) Via.refl e5 F_lightpaths_q_3 (g := (mkF m 28 #[.val (.ref q), .val (.int (Lp (a 0))), .val (.double (T (a 3))), .second, .unset, .unset, .unset] [(.ref q)])) rfl rfl (hb hby d4_28)
  refine Go.step st6 ?_
  show Go _ _ _ _ _ _ _ T6 (mkF m 31 #[.val (.ref q), .val (.int (Lp (a 0))), .val (.double (T (a 3))), .second, .unset, .unset, .unset] [(.ref v)])
  refine Go.step (fun _ k => XS.aloadN X6.here hx rfl (hb hby d4_31) rfl rfl k) ?_
  show Go _ _ _ _ _ _ _ T6 (mkF m 32 #[.val (.ref q), .val (.int (Lp (a 0))), .val (.double (T (a 3))), .second, .unset, .unset, .unset] [(.ref q), (.ref v)])
  obtain ⟨T7, X7, e7, st7⟩ := getF X6 hx hZ hown (host := "") (Or.inl (hw _ (List.mem_of_getElem? (i := 20) rfl))) Via.refl e6 F_size_q_3 (g := (mkF m 32 #[.val (.ref q), .val (.int (Lp (a 0))), .val (.double (T (a 3))), .second, .unset, .unset, .unset] [(.ref q), (.ref v)])) rfl rfl (hb hby d4_32)
  refine Go.step st7 ?_
  show Go _ _ _ _ _ _ _ T7 (mkF m 35 #[.val (.ref q), .val (.int (Lp (a 0))), .val (.double (T (a 3))), .second, .unset, .unset, .unset] [(.int (3 : Int32)), (.ref v)])
  refine Go.iaload X7 hx hZ e7 V_v_3 (j := (3 : Int32)) (v := (Lp (a 3))) (by decide) (by first | rfl | simp [updN, hg0, hg1, hg2, hg3, hl0, hl1, hl2, hl3]) (hb hby d4_35) ?_
  show Go _ _ _ _ _ _ _ T7 (mkF m 36 #[.val (.ref q), .val (.int (Lp (a 0))), .val (.double (T (a 3))), .second, .unset, .unset, .unset] [(.int (Lp (a 3)))])
  refine Go.step (fun _ k => XS.istore X7.here hx rfl (hb hby d4_36) rfl (l' := #[.val (.ref q), .val (.int (Lp (a 0))), .val (.double (T (a 3))), .second, .val (.int (Lp (a 3))), .unset, .unset]) rfl k) ?_
  show Go _ _ _ _ _ _ _ T7 (mkF m 38 #[.val (.ref q), .val (.int (Lp (a 0))), .val (.double (T (a 3))), .second, .val (.int (Lp (a 3))), .unset, .unset] [])
  refine Go.step (fun _ k => XS.iconst X7.here hx rfl (hb hby d4_38) k) ?_
  show Go _ _ _ _ _ _ _ T7 (mkF m 39 #[.val (.ref q), .val (.int (Lp (a 0))), .val (.double (T (a 3))), .second, .val (.int (Lp (a 3))), .unset, .unset] [(.int (0 : Int32))])
  refine Go.step (fun _ k => XS.istore X7.here hx rfl (hb hby d4_39) rfl (l' := #[.val (.ref q), .val (.int (Lp (a 0))), .val (.double (T (a 3))), .second, .val (.int (Lp (a 3))), .val (.int (0 : Int32)), .unset]) rfl k) ?_
  show Go _ _ _ _ _ _ _ T7 (mkF m 41 #[.val (.ref q), .val (.int (Lp (a 0))), .val (.double (T (a 3))), .second, .val (.int (Lp (a 3))), .val (.int (0 : Int32)), .unset] [])
  refine Go.step (fun _ k => XS.iconst X7.here hx rfl (hb hby d4_41) k) ?_
  show Go _ _ _ _ _ _ _ T7 (mkF m 42 #[.val (.ref q), .val (.int (Lp (a 0))), .val (.double (T (a 3))), .second, .val (.int (Lp (a 3))), .val (.int (0 : Int32)), .unset] [(.int (2 : Int32))])
  refine Go.step (fun _ k => XS.iload X7.here hx rfl (hb hby d4_42) rfl k) ?_
  show Go _ _ _ _ _ _ _ T7 (mkF m 44 #[.val (.ref q), .val (.int (Lp (a 0))), .val (.double (T (a 3))), .second, .val (.int (Lp (a 3))), .val (.int (0 : Int32)), .unset] [(.int (0 : Int32)), (.int (2 : Int32))])
  refine Go.step (fun _ k => XS.imul X7.here hx rfl (hb hby d4_44) rfl k) ?_
  show Go _ _ _ _ _ _ _ T7 (mkF m 45 #[.val (.ref q), .val (.int (Lp (a 0))), .val (.double (T (a 3))), .second, .val (.int (Lp (a 3))), .val (.int (0 : Int32)), .unset] [(.int (0 : Int32))])
  refine Go.step (fun _ k => XS.iconst X7.here hx rfl (hb hby d4_45) k) ?_
  show Go _ _ _ _ _ _ _ T7 (mkF m 46 #[.val (.ref q), .val (.int (Lp (a 0))), .val (.double (T (a 3))), .second, .val (.int (Lp (a 3))), .val (.int (0 : Int32)), .unset] [(.int (1 : Int32)), (.int (0 : Int32))])
  refine Go.step (fun _ k => XS.iadd X7.here hx rfl (hb hby d4_46) rfl k) ?_
  show Go _ _ _ _ _ _ _ T7 (mkF m 47 #[.val (.ref q), .val (.int (Lp (a 0))), .val (.double (T (a 3))), .second, .val (.int (Lp (a 3))), .val (.int (0 : Int32)), .unset] [(.int (1 : Int32))])
  refine Go.step (fun _ k => XS.istore X7.here hx rfl (hb hby d4_47) rfl (l' := #[.val (.ref q), .val (.int (Lp (a 0))), .val (.double (T (a 3))), .second, .val (.int (Lp (a 3))), .val (.int (0 : Int32)), .val (.int (1 : Int32))]) rfl k) ?_
  show Go _ _ _ _ _ _ _ T7 (mkF m 49 #[.val (.ref q), .val (.int (Lp (a 0))), .val (.double (T (a 3))), .second, .val (.int (Lp (a 3))), .val (.int (0 : Int32)), .val (.int (1 : Int32))] [])
  refine Go.step (fun _ k => XS.iload X7.here hx rfl (hb hby d4_49) rfl k) ?_
  show Go _ _ _ _ _ _ _ T7 (mkF m 51 #[.val (.ref q), .val (.int (Lp (a 0))), .val (.double (T (a 3))), .second, .val (.int (Lp (a 3))), .val (.int (0 : Int32)), .val (.int (1 : Int32))] [(.int (1 : Int32))])
  refine Go.step (fun _ k => XS.aloadN X7.here hx rfl (hb hby d4_51) rfl rfl k) ?_
  show Go _ _ _ _ _ _ _ T7 (mkF m 52 #[.val (.ref q), .val (.int (Lp (a 0))), .val (.double (T (a 3))), .second, .val (.int (Lp (a 3))), .val (.int (0 : Int32)), .val (.int (1 : Int32))] [(.ref q), (.int (1 : Int32))])
  obtain ⟨T8, X8, e8, st8⟩ := getF X7 hx hZ hown (host := "") (Or.inl (hw _ (List.mem_of_getElem? (i := 20) rfl))) Via.refl e7 F_size_q_3 (g := (mkF m 52 #[.val (.ref q), .val (.int (Lp (a 0))), .val (.double (T (a 3))), .second, .val (.int (Lp (a 3))), .val (.int (0 : Int32)), .val (.int (1 : Int32))] [(.ref q), (.int (1 : Int32))])) rfl rfl (hb hby d4_52)
  refine Go.step st8 ?_
  show Go _ _ _ _ _ _ _ T8 (mkF m 55 #[.val (.ref q), .val (.int (Lp (a 0))), .val (.double (T (a 3))), .second, .val (.int (Lp (a 3))), .val (.int (0 : Int32)), .val (.int (1 : Int32))] [(.int (3 : Int32)), (.int (1 : Int32))])
  refine Go.step (fun _ k => XS.icmpYes X8.here hx rfl (pc0 := 55) (pc' := 61) rfl (hb hby d4_55) rfl (tlt (by decide : (1 : Int32) < (3 : Int32))).1 (by decide) (by decide) k) ?_
  show Go _ _ _ _ _ _ _ T8 (mkF m 61 #[.val (.ref q), .val (.int (Lp (a 0))), .val (.double (T (a 3))), .second, .val (.int (Lp (a 3))), .val (.int (0 : Int32)), .val (.int (1 : Int32))] [])
  refine Go.step (fun _ k => XS.iload X8.here hx rfl (hb hby d4_61) rfl k) ?_
  show Go _ _ _ _ _ _ _ T8 (mkF m 63 #[.val (.ref q), .val (.int (Lp (a 0))), .val (.double (T (a 3))), .second, .val (.int (Lp (a 3))), .val (.int (0 : Int32)), .val (.int (1 : Int32))] [(.int (1 : Int32))])
  refine Go.step (fun _ k => XS.iconst X8.here hx rfl (hb hby d4_63) k) ?_
  show Go _ _ _ _ _ _ _ T8 (mkF m 64 #[.val (.ref q), .val (.int (Lp (a 0))), .val (.double (T (a 3))), .second, .val (.int (Lp (a 3))), .val (.int (0 : Int32)), .val (.int (1 : Int32))] [(.int (1 : Int32)), (.int (1 : Int32))])
  refine Go.step (fun _ k => XS.iadd X8.here hx rfl (hb hby d4_64) rfl k) ?_
  show Go _ _ _ _ _ _ _ T8 (mkF m 65 #[.val (.ref q), .val (.int (Lp (a 0))), .val (.double (T (a 3))), .second, .val (.int (Lp (a 3))), .val (.int (0 : Int32)), .val (.int (1 : Int32))] [(.int (2 : Int32))])
  refine Go.step (fun _ k => XS.aloadN X8.here hx rfl (hb hby d4_65) rfl rfl k) ?_
  show Go _ _ _ _ _ _ _ T8 (mkF m 66 #[.val (.ref q), .val (.int (Lp (a 0))), .val (.double (T (a 3))), .second, .val (.int (Lp (a 3))), .val (.int (0 : Int32)), .val (.int (1 : Int32))] [(.ref q), (.int (2 : Int32))])
  obtain ⟨T9, X9, e9, st9⟩ := getF X8 hx hZ hown (host := "") (Or.inl (hw _ (List.mem_of_getElem? (i := 20) rfl))) Via.refl e8 F_size_q_3 (g := (mkF m 66 #[.val (.ref q), .val (.int (Lp (a 0))), .val (.double (T (a 3))), .second, .val (.int (Lp (a 3))), .val (.int (0 : Int32)), .val (.int (1 : Int32))] [(.ref q), (.int (2 : Int32))])) rfl rfl (hb hby d4_66)
  refine Go.step st9 ?_
  show Go _ _ _ _ _ _ _ T9 (mkF m 69 #[.val (.ref q), .val (.int (Lp (a 0))), .val (.double (T (a 3))), .second, .val (.int (Lp (a 3))), .val (.int (0 : Int32)), .val (.int (1 : Int32))] [(.int (3 : Int32)), (.int (2 : Int32))])
  refine Go.step (fun _ k => XS.icmpNo X9.here hx rfl (hb hby d4_69) rfl (tlt (by decide : (2 : Int32) < (3 : Int32))).2.1 k) ?_
  show Go _ _ _ _ _ _ _ T9 (mkF m 72 #[.val (.ref q), .val (.int (Lp (a 0))), .val (.double (T (a 3))), .second, .val (.int (Lp (a 3))), .val (.int (0 : Int32)), .val (.int (1 : Int32))] [])
  refine Go.step (fun _ k => XS.aloadN X9.here hx rfl (hb hby d4_72) rfl rfl k) ?_
  show Go _ _ _ _ _ _ _ T9 (mkF m 73 #[.val (.ref q), .val (.int (Lp (a 0))), .val (.double (T (a 3))), .second, .val (.int (Lp (a 3))), .val (.int (0 : Int32)), .val (.int (1 : Int32))] [(.ref q)])
  obtain ⟨T10, X10, e10, st10⟩ := getF X9 hx hZ hown (host := "") (Or.inl (hw _ (List.mem_of_getElem? (i := 11) rfl))) Via.refl e9 F_times_q_3 (g := (mkF m 73 #[.val (.ref q), .val (.int (Lp (a 0))), .val (.double (T (a 3))), .second, .val (.int (Lp (a 3))), .val (.int (0 : Int32)), .val (.int (1 : Int32))] [(.ref q)])) rfl rfl (hb hby d4_73)
  refine Go.step st10 ?_
  show Go _ _ _ _ _ _ _ T10 (mkF m 76 #[.val (.ref q), .val (.int (Lp (a 0))), .val (.double (T (a 3))), .second, .val (.int (Lp (a 3))), .val (.int (0 : Int32)), .val (.int (1 : Int32))] [(.ref u)])
  refine Go.step (fun _ k => XS.iload X10.here hx rfl (hb hby d4_76) rfl k) ?_
  show Go _ _ _ _ _ _ _ T10 (mkF m 78 #[.val (.ref q), .val (.int (Lp (a 0))), .val (.double (T (a 3))), .second, .val (.int (Lp (a 3))), .val (.int (0 : Int32)), .val (.int (1 : Int32))] [(.int (1 : Int32)), (.ref u)])
  refine Go.step (fun _ k => XS.iconst X10.here hx rfl (hb hby d4_78) k) ?_
  show Go _ _ _ _ _ _ _ T10 (mkF m 79 #[.val (.ref q), .val (.int (Lp (a 0))), .val (.double (T (a 3))), .second, .val (.int (Lp (a 3))), .val (.int (0 : Int32)), .val (.int (1 : Int32))] [(.int (1 : Int32)), (.int (1 : Int32)), (.ref u)])
  refine Go.step (fun _ k => XS.iadd X10.here hx rfl (hb hby d4_79) rfl k) ?_
  show Go _ _ _ _ _ _ _ T10 (mkF m 80 #[.val (.ref q), .val (.int (Lp (a 0))), .val (.double (T (a 3))), .second, .val (.int (Lp (a 3))), .val (.int (0 : Int32)), .val (.int (1 : Int32))] [(.int (2 : Int32)), (.ref u)])
  refine Go.daload X10 hx hZ e10 V_u_3 (j := (2 : Int32)) (v := (T (a 2))) (by decide) (by first | rfl | simp [updN, hg0, hg1, hg2, hg3, hl0, hl1, hl2, hl3]) (hb hby d4_80) ?_
  show Go _ _ _ _ _ _ _ T10 (mkF m 81 #[.val (.ref q), .val (.int (Lp (a 0))), .val (.double (T (a 3))), .second, .val (.int (Lp (a 3))), .val (.int (0 : Int32)), .val (.int (1 : Int32))] [(.double (T (a 2)))])
  refine Go.step (fun _ k => XS.aloadN X10.here hx rfl (hb hby d4_81) rfl rfl k) ?_
  show Go _ _ _ _ _ _ _ T10 (mkF m 82 #[.val (.ref q), .val (.int (Lp (a 0))), .val (.double (T (a 3))), .second, .val (.int (Lp (a 3))), .val (.int (0 : Int32)), .val (.int (1 : Int32))] [(.ref q), (.double (T (a 2)))])
  obtain ⟨T11, X11, e11, st11⟩ := getF X10 hx hZ hown (host := "") (Or.inl (hw _ (List.mem_of_getElem? (i := 11) rfl))) Via.refl e10 F_times_q_3 (g := (mkF m 82 #[.val (.ref q), .val (.int (Lp (a 0))), .val (.double (T (a 3))), .second, .val (.int (Lp (a 3))), .val (.int (0 : Int32)), .val (.int (1 : Int32))] [(.ref q), (.double (T (a 2)))])) rfl rfl (hb hby d4_82)
  refine Go.step st11 ?_
  show Go _ _ _ _ _ _ _ T11 (mkF m 85 #[.val (.ref q), .val (.int (Lp (a 0))), .val (.double (T (a 3))), .second, .val (.int (Lp (a 3))), .val (.int (0 : Int32)), .val (.int (1 : Int32))] [(.ref u), (.double (T (a 2)))])
  refine Go.step (fun _ k => XS.iload X11.here hx rfl (hb hby d4_85) rfl k) ?_
  show Go _ _ _ _ _ _ _ T11 (mkF m 87 #[.val (.ref q), .val (.int (Lp (a 0))), .val (.double (T (a 3))), .second, .val (.int (Lp (a 3))), .val (.int (0 : Int32)), .val (.int (1 : Int32))] [(.int (1 : Int32)), (.ref u), (.double (T (a 2)))])
  refine Go.daload X11 hx hZ e11 V_u_3 (j := (1 : Int32)) (v := (T (a 1))) (by decide) (by first | rfl | simp [updN, hg0, hg1, hg2, hg3, hl0, hl1, hl2, hl3]) (hb hby d4_87) ?_
  show Go _ _ _ _ _ _ _ T11 (mkF m 88 #[.val (.ref q), .val (.int (Lp (a 0))), .val (.double (T (a 3))), .second, .val (.int (Lp (a 3))), .val (.int (0 : Int32)), .val (.int (1 : Int32))] [(.double (T (a 1))), (.double (T (a 2)))])
  refine Go.step (fun _ k => XS.dcmpS X11.here hx rfl (hb hby d4_88) rfl rfl k) ?_
  show Go _ _ _ _ _ _ _ T11 (mkF m 89 #[.val (.ref q), .val (.int (Lp (a 0))), .val (.double (T (a 3))), .second, .val (.int (Lp (a 3))), .val (.int (0 : Int32)), .val (.int (1 : Int32))] [(.int (cmpValue (FP.dcmp (T (a 2)) (T (a 1))) .g))])
  by_cases hd89_12 : FP.dcmp (T (a 2)) (T (a 1)) = some .lt
  · refine Go.step (fun _ k => XS.ifNo X11.here hx rfl (hb hby d4_89) rfl (lt_y hd89_12) k) ?_
    show Go _ _ _ _ _ _ _ T11 (mkF m 92 #[.val (.ref q), .val (.int (Lp (a 0))), .val (.double (T (a 3))), .second, .val (.int (Lp (a 3))), .val (.int (0 : Int32)), .val (.int (1 : Int32))] [])
    refine Go.step (fun _ k => XS.iinc X11.here hx rfl (hb hby d4_92) rfl (l' := #[.val (.ref q), .val (.int (Lp (a 0))), .val (.double (T (a 3))), .second, .val (.int (Lp (a 3))), .val (.int (0 : Int32)), .val (.int (2 : Int32))]) rfl k) ?_
    show Go _ _ _ _ _ _ _ T11 (mkF m 95 #[.val (.ref q), .val (.int (Lp (a 0))), .val (.double (T (a 3))), .second, .val (.int (Lp (a 3))), .val (.int (0 : Int32)), .val (.int (2 : Int32))] [])
    refine Go.step (fun _ k => XS.aloadN X11.here hx rfl (hb hby d4_95) rfl rfl k) ?_
    show Go _ _ _ _ _ _ _ T11 (mkF m 96 #[.val (.ref q), .val (.int (Lp (a 0))), .val (.double (T (a 3))), .second, .val (.int (Lp (a 3))), .val (.int (0 : Int32)), .val (.int (2 : Int32))] [(.ref q)])
    obtain ⟨T13, X13, e13, st13⟩ := getF X11 hx hZ hown (host := "") (Or.inl (hw _ (List.mem_of_getElem? (i := 11) rfl))) Via.refl e11 F_times_q_3 (g := (mkF m 96 #[.val (.ref q), .val (.int (Lp (a 0))), .val (.double (T (a 3))), .second, .val (.int (Lp (a 3))), .val (.int (0 : Int32)), .val (.int (2 : Int32))] [(.ref q)])) rfl rfl (hb hby d4_96)
    refine Go.step st13 ?_
    show Go _ _ _ _ _ _ _ T13 (mkF m 99 #[.val (.ref q), .val (.int (Lp (a 0))), .val (.double (T (a 3))), .second, .val (.int (Lp (a 3))), .val (.int (0 : Int32)), .val (.int (2 : Int32))] [(.ref u)])
    refine Go.step (fun _ k => XS.iload X13.here hx rfl (hb hby d4_99) rfl k) ?_
    show Go _ _ _ _ _ _ _ T13 (mkF m 101 #[.val (.ref q), .val (.int (Lp (a 0))), .val (.double (T (a 3))), .second, .val (.int (Lp (a 3))), .val (.int (0 : Int32)), .val (.int (2 : Int32))] [(.int (2 : Int32)), (.ref u)])
    refine Go.daload X13 hx hZ e13 V_u_3 (j := (2 : Int32)) (v := (T (a 2))) (by decide) (by first | rfl | simp [updN, hg0, hg1, hg2, hg3, hl0, hl1, hl2, hl3]) (hb hby d4_101) ?_
    show Go _ _ _ _ _ _ _ T13 (mkF m 102 #[.val (.ref q), .val (.int (Lp (a 0))), .val (.double (T (a 3))), .second, .val (.int (Lp (a 3))), .val (.int (0 : Int32)), .val (.int (2 : Int32))] [(.double (T (a 2)))])
    refine Go.step (fun _ k => XS.dloadN X13.here hx rfl (hb hby d4_102) rfl k) ?_
    show Go _ _ _ _ _ _ _ T13 (mkF m 103 #[.val (.ref q), .val (.int (Lp (a 0))), .val (.double (T (a 3))), .second, .val (.int (Lp (a 3))), .val (.int (0 : Int32)), .val (.int (2 : Int32))] [(.double (T (a 3))), (.double (T (a 2)))])
    refine Go.step (fun _ k => XS.dcmpS X13.here hx rfl (hb hby d4_103) rfl rfl k) ?_
    show Go _ _ _ _ _ _ _ T13 (mkF m 104 #[.val (.ref q), .val (.int (Lp (a 0))), .val (.double (T (a 3))), .second, .val (.int (Lp (a 3))), .val (.int (0 : Int32)), .val (.int (2 : Int32))] [(.int (cmpValue (FP.dcmp (T (a 2)) (T (a 3))) .l))])
    by_cases hd104_14 : (FP.dcmp (T (a 2)) (T (a 3)) = some .gt ∨ FP.dcmp (T (a 2)) (T (a 3)) = some .eq)
    · refine Go.step (fun _ k => XS.ifNo X13.here hx rfl (hb hby d4_104) rfl (ge_y hd104_14) k) ?_
      show Go _ _ _ _ _ _ _ T13 (mkF m 107 #[.val (.ref q), .val (.int (Lp (a 0))), .val (.double (T (a 3))), .second, .val (.int (Lp (a 3))), .val (.int (0 : Int32)), .val (.int (2 : Int32))] [])
      refine Go.step (fun _ k => XS.goto X13.here hx rfl (pc0 := 107) (pc' := 145) rfl (hb hby d4_107) (by decide) (by decide) k) ?_
      show Go _ _ _ _ _ _ _ T13 (mkF m 145 #[.val (.ref q), .val (.int (Lp (a 0))), .val (.double (T (a 3))), .second, .val (.int (Lp (a 3))), .val (.int (0 : Int32)), .val (.int (2 : Int32))] [])
      refine Go.step (fun _ k => XS.aloadN X13.here hx rfl (hb hby d4_145) rfl rfl k) ?_
      show Go _ _ _ _ _ _ _ T13 (mkF m 146 #[.val (.ref q), .val (.int (Lp (a 0))), .val (.double (T (a 3))), .second, .val (.int (Lp (a 3))), .val (.int (0 : Int32)), .val (.int (2 : Int32))] [(.ref q)])
      obtain ⟨T15, X15, e15, st15⟩ := getF X13 hx hZ hown (host := "") (Or.inl (hw _ (List.mem_of_getElem? (i := 11) rfl))) Via.refl e13 F_times_q_3 (g := (mkF m 146 #[.val (.ref q), .val (.int (Lp (a 0))), .val (.double (T (a 3))), .second, .val (.int (Lp (a 3))), .val (.int (0 : Int32)), .val (.int (2 : Int32))] [(.ref q)])) rfl rfl (hb hby d4_146)
      refine Go.step st15 ?_
      show Go _ _ _ _ _ _ _ T15 (mkF m 149 #[.val (.ref q), .val (.int (Lp (a 0))), .val (.double (T (a 3))), .second, .val (.int (Lp (a 3))), .val (.int (0 : Int32)), .val (.int (2 : Int32))] [(.ref u)])
      refine Go.step (fun _ k => XS.iload X15.here hx rfl (hb hby d4_149) rfl k) ?_
      show Go _ _ _ _ _ _ _ T15 (mkF m 151 #[.val (.ref q), .val (.int (Lp (a 0))), .val (.double (T (a 3))), .second, .val (.int (Lp (a 3))), .val (.int (0 : Int32)), .val (.int (2 : Int32))] [(.int (0 : Int32)), (.ref u)])
      refine Go.step (fun _ k => XS.dloadN X15.here hx rfl (hb hby d4_151) rfl k) ?_
      show Go _ _ _ _ _ _ _ T15 (mkF m 152 #[.val (.ref q), .val (.int (Lp (a 0))), .val (.double (T (a 3))), .second, .val (.int (Lp (a 3))), .val (.int (0 : Int32)), .val (.int (2 : Int32))] [(.double (T (a 3))), (.int (0 : Int32)), (.ref u)])
      refine Go.dastore X15 hx hZ e15 V_u_3 (j := (0 : Int32)) (x := (T (a 3))) (by decide) (hb hby d4_152) ?_
      intro T16 h16 X16 e16 W16 Vn16
      have V_u_16 : Dv Z h16 u (64 : Int32) (updN g 0 (T (a 3))) := Vn16
      have N16 := Fr.snoc X16 N3 ge_u
      have E_q_16 := E_q_3.wr W16
      have F_size_q_16 := F_size_q_3.other W16 (Or.inl ne_q_u)
      have F_times_q_16 := F_times_q_3.other W16 (Or.inl ne_q_u)
      have F_lightpaths_q_16 := F_lightpaths_q_3.other W16 (Or.inl ne_q_u)
      have V_v_16 := V_v_3.other W16 (Ne.symm ne_u_v)
      have K16 : Keep h0 h16 [q, u, v] := K3.wr W16 (Or.inl (List.mem_of_getElem? (i := 1) rfl))
      show Go _ _ _ _ _ _ _ T16 (mkF m 153 #[.val (.ref q), .val (.int (Lp (a 0))), .val (.double (T (a 3))), .second, .val (.int (Lp (a 3))), .val (.int (0 : Int32)), .val (.int (2 : Int32))] [])
      refine Go.step (fun _ k => XS.aloadN X16.here hx rfl (hb hby d4_153) rfl rfl k) ?_
      show Go _ _ _ _ _ _ _ T16 (mkF m 154 #[.val (.ref q), .val (.int (Lp (a 0))), .val (.double (T (a 3))), .second, .val (.int (Lp (a 3))), .val (.int (0 : Int32)), .val (.int (2 : Int32))] [(.ref q)])
      obtain ⟨T17, X17, e17, st17⟩ := getF X16 hx hZ hown (host := "") (Or.inl (hw _ (List.mem_of_getElem? (i := 13) rfl))) Via.refl e16 F_lightpaths_q_16 (g := (mkF m 154 #[.val (.ref q), .val (.int (Lp (a 0))), .val (.double (T (a 3))), .second, .val (.int (Lp (a 3))), .val (.int (0 : Int32)), .val (.int (2 : Int32))] [(.ref q)])) rfl rfl (hb hby d4_154)
      refine Go.step st17 ?_
      show Go _ _ _ _ _ _ _ T17 (mkF m 157 #[.val (.ref q), .val (.int (Lp (a 0))), .val (.double (T (a 3))), .second, .val (.int (Lp (a 3))), .val (.int (0 : Int32)), .val (.int (2 : Int32))] [(.ref v)])
      refine Go.step (fun _ k => XS.iload X17.here hx rfl (hb hby d4_157) rfl k) ?_
      show Go _ _ _ _ _ _ _ T17 (mkF m 159 #[.val (.ref q), .val (.int (Lp (a 0))), .val (.double (T (a 3))), .second, .val (.int (Lp (a 3))), .val (.int (0 : Int32)), .val (.int (2 : Int32))] [(.int (0 : Int32)), (.ref v)])
      refine Go.step (fun _ k => XS.iload X17.here hx rfl (hb hby d4_159) rfl k) ?_
      show Go _ _ _ _ _ _ _ T17 (mkF m 161 #[.val (.ref q), .val (.int (Lp (a 0))), .val (.double (T (a 3))), .second, .val (.int (Lp (a 3))), .val (.int (0 : Int32)), .val (.int (2 : Int32))] [(.int (Lp (a 3))), (.int (0 : Int32)), (.ref v)])
      refine Go.iastore X17 hx hZ e17 V_v_16 (j := (0 : Int32)) (x := (Lp (a 3))) (by decide) (hb hby d4_161) ?_
      intro T18 h18 X18 e18 W18 Vn18
      have V_v_18 : Iv Z h18 v (64 : Int32) (updN l' 0 (Lp (a 3))) := Vn18
      have N18 := Fr.snoc X18 N16 ge_v
      have E_q_18 := E_q_16.wr W18
      have F_size_q_18 := F_size_q_16.other W18 (Or.inl ne_q_v)
      have F_times_q_18 := F_times_q_16.other W18 (Or.inl ne_q_v)
      have F_lightpaths_q_18 := F_lightpaths_q_16.other W18 (Or.inl ne_q_v)
      have V_u_18 := V_u_16.other W18 ne_u_v
      have K18 : Keep h0 h18 [q, u, v] := K16.wr W18 (Or.inl (List.mem_of_getElem? (i := 2) rfl))
      show Go _ _ _ _ _ _ _ T18 (mkF m 162 #[.val (.ref q), .val (.int (Lp (a 0))), .val (.double (T (a 3))), .second, .val (.int (Lp (a 3))), .val (.int (0 : Int32)), .val (.int (2 : Int32))] [])
      refine Go.step (fun _ k => XS.iloadN X18.here hx rfl (hb hby d4_162) rfl k) ?_
      show Go _ _ _ _ _ _ _ T18 (mkF m 163 #[.val (.ref q), .val (.int (Lp (a 0))), .val (.double (T (a 3))), .second, .val (.int (Lp (a 3))), .val (.int (0 : Int32)), .val (.int (2 : Int32))] [(.int (Lp (a 0)))])
      refine Go.retI X18 hx hlk hret (hb hby d4_163) (by decide) (by decide) ?_
      try rw [e18]
      have := own_ltK hT hd89_12
      have := own_geK hT hd104_14
      refine ⟨rfl, N18, K18, E_q_18, F_size_q_18, F_times_q_18, F_lightpaths_q_18, _, _, (updN a 0 (a 3)), V_u_18, V_v_18, fun i hi' => by rcases (by omega : i = 0 ∨ i = 1 ∨ i = 2) with rfl | rfl | rfl <;> first | rfl | simp [updN, hg0, hg1, hg2, hg3, hl0, hl1, hl2, hl3], fun i hi' => by rcases (by omega : i = 0 ∨ i = 1 ∨ i = 2) with rfl | rfl | rfl <;> first | rfl | simp [updN, hg0, hg1, hg2, hg3, hl0, hl1, hl2, hl3], ?_, ?_, fun P hP => ?_⟩
      · simp only [HI, updN]; try simp; try omega
      · exact ⟨fun i hi' => by rcases (by omega : i = 0 ∨ i = 1 ∨ i = 2) with rfl | rfl | rfl <;> simp [updN] <;> omega, fun w => by simp [sumA, updN]; try omega⟩
      · intro i hi'; rcases (by omega : i = 0 ∨ i = 1 ∨ i = 2) with rfl | rfl | rfl <;> simp [updN] <;> exact hP _ (by decide)
    · refine Go.step (fun _ k => XS.ifYes X13.here hx rfl (pc0 := 104) (pc' := 110) rfl (hb hby d4_104) rfl (ge_n hd104_14) (by decide) (by decide) k) ?_
      show Go _ _ _ _ _ _ _ T13 (mkF m 110 #[.val (.ref q), .val (.int (Lp (a 0))), .val (.double (T (a 3))), .second, .val (.int (Lp (a 3))), .val (.int (0 : Int32)), .val (.int (2 : Int32))] [])
      refine Go.step (fun _ k => XS.aloadN X13.here hx rfl (hb hby d4_110) rfl rfl k) ?_
      show Go _ _ _ _ _ _ _ T13 (mkF m 111 #[.val (.ref q), .val (.int (Lp (a 0))), .val (.double (T (a 3))), .second, .val (.int (Lp (a 3))), .val (.int (0 : Int32)), .val (.int (2 : Int32))] [(.ref q)])
      obtain ⟨T19, X19, e19, st19⟩ := getF X13 hx hZ hown (host := "") (Or.inl (hw _ (List.mem_of_getElem? (i := 11) rfl))) Via.refl e13 F_times_q_3 (g := (mkF m 111 #[.val (.ref q), .val (.int (Lp (a 0))), .val (.double (T (a 3))), .second, .val (.int (Lp (a 3))), .val (.int (0 : Int32)), .val (.int (2 : Int32))] [(.ref q)])) rfl rfl (hb hby d4_111)
      refine Go.step st19 ?_
      show Go _ _ _ _ _ _ _ T19 (mkF m 114 #[.val (.ref q), .val (.int (Lp (a 0))), .val (.double (T (a 3))), .second, .val (.int (Lp (a 3))), .val (.int (0 : Int32)), .val (.int (2 : Int32))] [(.ref u)])
      refine Go.step (fun _ k => XS.iload X19.here hx rfl (hb hby d4_114) rfl k) ?_
      show Go _ _ _ _ _ _ _ T19 (mkF m 116 #[.val (.ref q), .val (.int (Lp (a 0))), .val (.double (T (a 3))), .second, .val (.int (Lp (a 3))), .val (.int (0 : Int32)), .val (.int (2 : Int32))] [(.int (0 : Int32)), (.ref u)])
      refine Go.step (fun _ k => XS.aloadN X19.here hx rfl (hb hby d4_116) rfl rfl k) ?_
      show Go _ _ _ _ _ _ _ T19 (mkF m 117 #[.val (.ref q), .val (.int (Lp (a 0))), .val (.double (T (a 3))), .second, .val (.int (Lp (a 3))), .val (.int (0 : Int32)), .val (.int (2 : Int32))] [(.ref q), (.int (0 : Int32)), (.ref u)])
      obtain ⟨T20, X20, e20, st20⟩ := getF X19 hx hZ hown (host := "") (Or.inl (hw _ (List.mem_of_getElem? (i := 11) rfl))) Via.refl e19 F_times_q_3 (g := (mkF m 117 #[.val (.ref q), .val (.int (Lp (a 0))), .val (.double (T (a 3))), .second, .val (.int (Lp (a 3))), .val (.int (0 : Int32)), .val (.int (2 : Int32))] [(.ref q), (.int (0 : Int32)), (.ref u)])) rfl rfl (hb hby d4_117)
      refine Go.step st20 ?_
      show Go _ _ _ _ _ _ _ T20 (mkF m 120 #[.val (.ref q), .val (.int (Lp (a 0))), .val (.double (T (a 3))), .second, .val (.int (Lp (a 3))), .val (.int (0 : Int32)), .val (.int (2 : Int32))] [(.ref u), (.int (0 : Int32)), (.ref u)])
      refine Go.step (fun _ k => XS.iload X20.here hx rfl (hb hby d4_120) rfl k) ?_
      show Go _ _ _ _ _ _ _ T20 (mkF m 122 #[.val (.ref q), .val (.int (Lp (a 0))), .val (.double (T (a 3))), .second, .val (.int (Lp (a 3))), .val (.int (0 : Int32)), .val (.int (2 : Int32))] [(.int (2 : Int32)), (.ref u), (.int (0 : Int32)), (.ref u)])
      refine Go.daload X20 hx hZ e20 V_u_3 (j := (2 : Int32)) (v := (T (a 2))) (by decide) (by first | rfl | simp [updN, hg0, hg1, hg2, hg3, hl0, hl1, hl2, hl3]) (hb hby d4_122) ?_
      show Go _ _ _ _ _ _ _ T20 (mkF m 123 #[.val (.ref q), .val (.int (Lp (a 0))), .val (.double (T (a 3))), .second, .val (.int (Lp (a 3))), .val (.int (0 : Int32)), .val (.int (2 : Int32))] [(.double (T (a 2))), (.int (0 : Int32)), (.ref u)])
      refine Go.dastore X20 hx hZ e20 V_u_3 (j := (0 : Int32)) (x := (T (a 2))) (by decide) (hb hby d4_123) ?_
      intro T21 h21 X21 e21 W21 Vn21
      have V_u_21 : Dv Z h21 u (64 : Int32) (updN g 0 (T (a 2))) := Vn21
      have N21 := Fr.snoc X21 N3 ge_u
      have E_q_21 := E_q_3.wr W21
      have F_size_q_21 := F_size_q_3.other W21 (Or.inl ne_q_u)
      have F_times_q_21 := F_times_q_3.other W21 (Or.inl ne_q_u)
      have F_lightpaths_q_21 := F_lightpaths_q_3.other W21 (Or.inl ne_q_u)
      have V_v_21 := V_v_3.other W21 (Ne.symm ne_u_v)
      have K21 : Keep h0 h21 [q, u, v] := K3.wr W21 (Or.inl (List.mem_of_getElem? (i := 1) rfl))
      show Go _ _ _ _ _ _ _ T21 (mkF m 124 #[.val (.ref q), .val (.int (Lp (a 0))), .val (.double (T (a 3))), .second, .val (.int (Lp (a 3))), .val (.int (0 : Int32)), .val (.int (2 : Int32))] [])
      refine Go.step (fun _ k => XS.aloadN X21.here hx rfl (hb hby d4_124) rfl rfl k) ?_
      show Go _ _ _ _ _ _ _ T21 (mkF m 125 #[.val (.ref q), .val (.int (Lp (a 0))), .val (.double (T (a 3))), .second, .val (.int (Lp (a 3))), .val (.int (0 : Int32)), .val (.int (2 : Int32))] [(.ref q)])
      obtain ⟨T22, X22, e22, st22⟩ := getF X21 hx hZ hown (host := "") (Or.inl (hw _ (List.mem_of_getElem? (i := 13) rfl))) Via.refl e21 F_lightpaths_q_21 (g := (mkF m 125 #[.val (.ref q), .val (.int (Lp (a 0))), .val (.double (T (a 3))), .second, .val (.int (Lp (a 3))), .val (.int (0 : Int32)), .val (.int (2 : Int32))] [(.ref q)])) rfl rfl (hb hby d4_125)
      refine Go.step st22 ?_
      show Go _ _ _ _ _ _ _ T22 (mkF m 128 #[.val (.ref q), .val (.int (Lp (a 0))), .val (.double (T (a 3))), .second, .val (.int (Lp (a 3))), .val (.int (0 : Int32)), .val (.int (2 : Int32))] [(.ref v)])
      refine Go.step (fun _ k => XS.iload X22.here hx rfl (hb hby d4_128) rfl k) ?_
      show Go _ _ _ _ _ _ _ T22 (mkF m 130 #[.val (.ref q), .val (.int (Lp (a 0))), .val (.double (T (a 3))), .second, .val (.int (Lp (a 3))), .val (.int (0 : Int32)), .val (.int (2 : Int32))] [(.int (0 : Int32)), (.ref v)])
      refine Go.step (fun _ k => XS.aloadN X22.here hx rfl (hb hby d4_130) rfl rfl k) ?_
      show Go _ _ _ _ _ _ _ T22 (mkF m 131 #[.val (.ref q), .val (.int (Lp (a 0))), .val (.double (T (a 3))), .second, .val (.int (Lp (a 3))), .val (.int (0 : Int32)), .val (.int (2 : Int32))] [(.ref q), (.int (0 : Int32)), (.ref v)])
      obtain ⟨T23, X23, e23, st23⟩ := getF X22 hx hZ hown (host := "") (Or.inl (hw _ (List.mem_of_getElem? (i := 13) rfl))) Via.refl e22 F_lightpaths_q_21 (g := (mkF m 131 #[.val (.ref q), .val (.int (Lp (a 0))), .val (.double (T (a 3))), .second, .val (.int (Lp (a 3))), .val (.int (0 : Int32)), .val (.int (2 : Int32))] [(.ref q), (.int (0 : Int32)), (.ref v)])) rfl rfl (hb hby d4_131)
      refine Go.step st23 ?_
      show Go _ _ _ _ _ _ _ T23 (mkF m 134 #[.val (.ref q), .val (.int (Lp (a 0))), .val (.double (T (a 3))), .second, .val (.int (Lp (a 3))), .val (.int (0 : Int32)), .val (.int (2 : Int32))] [(.ref v), (.int (0 : Int32)), (.ref v)])
      refine Go.step (fun _ k => XS.iload X23.here hx rfl (hb hby d4_134) rfl k) ?_
      show Go _ _ _ _ _ _ _ T23 (mkF m 136 #[.val (.ref q), .val (.int (Lp (a 0))), .val (.double (T (a 3))), .second, .val (.int (Lp (a 3))), .val (.int (0 : Int32)), .val (.int (2 : Int32))] [(.int (2 : Int32)), (.ref v), (.int (0 : Int32)), (.ref v)])
      refine Go.iaload X23 hx hZ e23 V_v_21 (j := (2 : Int32)) (v := (Lp (a 2))) (by decide) (by first | rfl | simp [updN, hg0, hg1, hg2, hg3, hl0, hl1, hl2, hl3]) (hb hby d4_136) ?_
      show Go _ _ _ _ _ _ _ T23 (mkF m 137 #[.val (.ref q), .val (.int (Lp (a 0))), .val (.double (T (a 3))), .second, .val (.int (Lp (a 3))), .val (.int (0 : Int32)), .val (.int (2 : Int32))] [(.int (Lp (a 2))), (.int (0 : Int32)), (.ref v)])
      refine Go.iastore X23 hx hZ e23 V_v_21 (j := (0 : Int32)) (x := (Lp (a 2))) (by decide) (hb hby d4_137) ?_
      intro T24 h24 X24 e24 W24 Vn24
      have V_v_24 : Iv Z h24 v (64 : Int32) (updN l' 0 (Lp (a 2))) := Vn24
      have N24 := Fr.snoc X24 N21 ge_v
      have E_q_24 := E_q_21.wr W24
      have F_size_q_24 := F_size_q_21.other W24 (Or.inl ne_q_v)
      have F_times_q_24 := F_times_q_21.other W24 (Or.inl ne_q_v)
      have F_lightpaths_q_24 := F_lightpaths_q_21.other W24 (Or.inl ne_q_v)
      have V_u_24 := V_u_21.other W24 ne_u_v
      have K24 : Keep h0 h24 [q, u, v] := K21.wr W24 (Or.inl (List.mem_of_getElem? (i := 2) rfl))
      show Go _ _ _ _ _ _ _ T24 (mkF m 138 #[.val (.ref q), .val (.int (Lp (a 0))), .val (.double (T (a 3))), .second, .val (.int (Lp (a 3))), .val (.int (0 : Int32)), .val (.int (2 : Int32))] [])
      refine Go.step (fun _ k => XS.iload X24.here hx rfl (hb hby d4_138) rfl k) ?_
      show Go _ _ _ _ _ _ _ T24 (mkF m 140 #[.val (.ref q), .val (.int (Lp (a 0))), .val (.double (T (a 3))), .second, .val (.int (Lp (a 3))), .val (.int (0 : Int32)), .val (.int (2 : Int32))] [(.int (2 : Int32))])
      refine Go.step (fun _ k => XS.istore X24.here hx rfl (hb hby d4_140) rfl (l' := #[.val (.ref q), .val (.int (Lp (a 0))), .val (.double (T (a 3))), .second, .val (.int (Lp (a 3))), .val (.int (2 : Int32)), .val (.int (2 : Int32))]) rfl k) ?_
      show Go _ _ _ _ _ _ _ T24 (mkF m 142 #[.val (.ref q), .val (.int (Lp (a 0))), .val (.double (T (a 3))), .second, .val (.int (Lp (a 3))), .val (.int (2 : Int32)), .val (.int (2 : Int32))] [])
      refine Go.step (fun _ k => XS.goto X24.here hx rfl (pc0 := 142) (pc' := 41) rfl (hb hby d4_142) (by decide) (by decide) k) ?_
      show Go _ _ _ _ _ _ _ T24 (mkF m 41 #[.val (.ref q), .val (.int (Lp (a 0))), .val (.double (T (a 3))), .second, .val (.int (Lp (a 3))), .val (.int (2 : Int32)), .val (.int (2 : Int32))] [])
      refine Go.step (fun _ k => XS.iconst X24.here hx rfl (hb hby d4_41) k) ?_
      show Go _ _ _ _ _ _ _ T24 (mkF m 42 #[.val (.ref q), .val (.int (Lp (a 0))), .val (.double (T (a 3))), .second, .val (.int (Lp (a 3))), .val (.int (2 : Int32)), .val (.int (2 : Int32))] [(.int (2 : Int32))])
      refine Go.step (fun _ k => XS.iload X24.here hx rfl (hb hby d4_42) rfl k) ?_
      show Go _ _ _ _ _ _ _ T24 (mkF m 44 #[.val (.ref q), .val (.int (Lp (a 0))), .val (.double (T (a 3))), .second, .val (.int (Lp (a 3))), .val (.int (2 : Int32)), .val (.int (2 : Int32))] [(.int (2 : Int32)), (.int (2 : Int32))])
      refine Go.step (fun _ k => XS.imul X24.here hx rfl (hb hby d4_44) rfl k) ?_
      show Go _ _ _ _ _ _ _ T24 (mkF m 45 #[.val (.ref q), .val (.int (Lp (a 0))), .val (.double (T (a 3))), .second, .val (.int (Lp (a 3))), .val (.int (2 : Int32)), .val (.int (2 : Int32))] [(.int (4 : Int32))])
      refine Go.step (fun _ k => XS.iconst X24.here hx rfl (hb hby d4_45) k) ?_
      show Go _ _ _ _ _ _ _ T24 (mkF m 46 #[.val (.ref q), .val (.int (Lp (a 0))), .val (.double (T (a 3))), .second, .val (.int (Lp (a 3))), .val (.int (2 : Int32)), .val (.int (2 : Int32))] [(.int (1 : Int32)), (.int (4 : Int32))])
      refine Go.step (fun _ k => XS.iadd X24.here hx rfl (hb hby d4_46) rfl k) ?_
      show Go _ _ _ _ _ _ _ T24 (mkF m 47 #[.val (.ref q), .val (.int (Lp (a 0))), .val (.double (T (a 3))), .second, .val (.int (Lp (a 3))), .val (.int (2 : Int32)), .val (.int (2 : Int32))] [(.int (5 : Int32))])
      refine Go.step (fun _ k => XS.istore X24.here hx rfl (hb hby d4_47) rfl (l' := #[.val (.ref q), .val (.int (Lp (a 0))), .val (.double (T (a 3))), .second, .val (.int (Lp (a 3))), .val (.int (2 : Int32)), .val (.int (5 : Int32))]) rfl k) ?_
      show Go _ _ _ _ _ _ _ T24 (mkF m 49 #[.val (.ref q), .val (.int (Lp (a 0))), .val (.double (T (a 3))), .second, .val (.int (Lp (a 3))), .val (.int (2 : Int32)), .val (.int (5 : Int32))] [])
      refine Go.step (fun _ k => XS.iload X24.here hx rfl (hb hby d4_49) rfl k) ?_
      show Go _ _ _ _ _ _ _ T24 (mkF m 51 #[.val (.ref q), .val (.int (Lp (a 0))), .val (.double (T (a 3))), .second, .val (.int (Lp (a 3))), .val (.int (2 : Int32)), .val (.int (5 : Int32))] [(.int (5 : Int32))])
      refine Go.step (fun _ k => XS.aloadN X24.here hx rfl (hb hby d4_51) rfl rfl k) ?_
      show Go _ _ _ _ _ _ _ T24 (mkF m 52 #[.val (.ref q), .val (.int (Lp (a 0))), .val (.double (T (a 3))), .second, .val (.int (Lp (a 3))), .val (.int (2 : Int32)), .val (.int (5 : Int32))] [(.ref q), (.int (5 : Int32))])
      obtain ⟨T25, X25, e25, st25⟩ := getF X24 hx hZ hown (host := "") (Or.inl (hw _ (List.mem_of_getElem? (i := 20) rfl))) Via.refl e24 F_size_q_24 (g := (mkF m 52 #[.val (.ref q), .val (.int (Lp (a 0))), .val (.double (T (a 3))), .second, .val (.int (Lp (a 3))), .val (.int (2 : Int32)), .val (.int (5 : Int32))] [(.ref q), (.int (5 : Int32))])) rfl rfl (hb hby d4_52)
      refine Go.step st25 ?_
      show Go _ _ _ _ _ _ _ T25 (mkF m 55 #[.val (.ref q), .val (.int (Lp (a 0))), .val (.double (T (a 3))), .second, .val (.int (Lp (a 3))), .val (.int (2 : Int32)), .val (.int (5 : Int32))] [(.int (3 : Int32)), (.int (5 : Int32))])
      refine Go.step (fun _ k => XS.icmpNo X25.here hx rfl (hb hby d4_55) rfl (flt (by decide : ¬ ((5 : Int32) < (3 : Int32)))).1 k) ?_
      show Go _ _ _ _ _ _ _ T25 (mkF m 58 #[.val (.ref q), .val (.int (Lp (a 0))), .val (.double (T (a 3))), .second, .val (.int (Lp (a 3))), .val (.int (2 : Int32)), .val (.int (5 : Int32))] [])
      refine Go.step (fun _ k => XS.goto X25.here hx rfl (pc0 := 58) (pc' := 145) rfl (hb hby d4_58) (by decide) (by decide) k) ?_
      show Go _ _ _ _ _ _ _ T25 (mkF m 145 #[.val (.ref q), .val (.int (Lp (a 0))), .val (.double (T (a 3))), .second, .val (.int (Lp (a 3))), .val (.int (2 : Int32)), .val (.int (5 : Int32))] [])
      refine Go.step (fun _ k => XS.aloadN X25.here hx rfl (hb hby d4_145) rfl rfl k) ?_
      show Go _ _ _ _ _ _ _ T25 (mkF m 146 #[.val (.ref q), .val (.int (Lp (a 0))), .val (.double (T (a 3))), .second, .val (.int (Lp (a 3))), .val (.int (2 : Int32)), .val (.int (5 : Int32))] [(.ref q)])
      obtain ⟨T26, X26, e26, st26⟩ := getF X25 hx hZ hown (host := "") (Or.inl (hw _ (List.mem_of_getElem? (i := 11) rfl))) Via.refl e25 F_times_q_24 (g := (mkF m 146 #[.val (.ref q), .val (.int (Lp (a 0))), .val (.double (T (a 3))), .second, .val (.int (Lp (a 3))), .val (.int (2 : Int32)), .val (.int (5 : Int32))] [(.ref q)])) rfl rfl (hb hby d4_146)
      refine Go.step st26 ?_
      show Go _ _ _ _ _ _ _ T26 (mkF m 149 #[.val (.ref q), .val (.int (Lp (a 0))), .val (.double (T (a 3))), .second, .val (.int (Lp (a 3))), .val (.int (2 : Int32)), .val (.int (5 : Int32))] [(.ref u)])
      refine Go.step (fun _ k => XS.iload X26.here hx rfl (hb hby d4_149) rfl k) ?_
      show Go _ _ _ _ _ _ _ T26 (mkF m 151 #[.val (.ref q), .val (.int (Lp (a 0))), .val (.double (T (a 3))), .second, .val (.int (Lp (a 3))), .val (.int (2 : Int32)), .val (.int (5 : Int32))] [(.int (2 : Int32)), (.ref u)])
      refine Go.step (fun _ k => XS.dloadN X26.here hx rfl (hb hby d4_151) rfl k) ?_
      show Go _ _ _ _ _ _ _ T26 (mkF m 152 #[.val (.ref q), .val (.int (Lp (a 0))), .val (.double (T (a 3))), .second, .val (.int (Lp (a 3))), .val (.int (2 : Int32)), .val (.int (5 : Int32))] [(.double (T (a 3))), (.int (2 : Int32)), (.ref u)])
      refine Go.dastore X26 hx hZ e26 V_u_24 (j := (2 : Int32)) (x := (T (a 3))) (by decide) (hb hby d4_152) ?_
      intro T27 h27 X27 e27 W27 Vn27
      have V_u_27 : Dv Z h27 u (64 : Int32) (updN (updN g 0 (T (a 2))) 2 (T (a 3))) := Vn27
      have N27 := Fr.snoc X27 N24 ge_u
      have E_q_27 := E_q_24.wr W27
      have F_size_q_27 := F_size_q_24.other W27 (Or.inl ne_q_u)
      have F_times_q_27 := F_times_q_24.other W27 (Or.inl ne_q_u)
      have F_lightpaths_q_27 := F_lightpaths_q_24.other W27 (Or.inl ne_q_u)
      have V_v_27 := V_v_24.other W27 (Ne.symm ne_u_v)
      have K27 : Keep h0 h27 [q, u, v] := K24.wr W27 (Or.inl (List.mem_of_getElem? (i := 1) rfl))
      show Go _ _ _ _ _ _ _ T27 (mkF m 153 #[.val (.ref q), .val (.int (Lp (a 0))), .val (.double (T (a 3))), .second, .val (.int (Lp (a 3))), .val (.int (2 : Int32)), .val (.int (5 : Int32))] [])
      refine Go.step (fun _ k => XS.aloadN X27.here hx rfl (hb hby d4_153) rfl rfl k) ?_
      show Go _ _ _ _ _ _ _ T27 (mkF m 154 #[.val (.ref q), .val (.int (Lp (a 0))), .val (.double (T (a 3))), .second, .val (.int (Lp (a 3))), .val (.int (2 : Int32)), .val (.int (5 : Int32))] [(.ref q)])
      obtain ⟨T28, X28, e28, st28⟩ := getF X27 hx hZ hown (host := "") (Or.inl (hw _ (List.mem_of_getElem? (i := 13) rfl))) Via.refl e27 F_lightpaths_q_27 (g := (mkF m 154 #[.val (.ref q), .val (.int (Lp (a 0))), .val (.double (T (a 3))), .second, .val (.int (Lp (a 3))), .val (.int (2 : Int32)), .val (.int (5 : Int32))] [(.ref q)])) rfl rfl (hb hby d4_154)
      refine Go.step st28 ?_
      show Go _ _ _ _ _ _ _ T28 (mkF m 157 #[.val (.ref q), .val (.int (Lp (a 0))), .val (.double (T (a 3))), .second, .val (.int (Lp (a 3))), .val (.int (2 : Int32)), .val (.int (5 : Int32))] [(.ref v)])
      refine Go.step (fun _ k => XS.iload X28.here hx rfl (hb hby d4_157) rfl k) ?_
      show Go _ _ _ _ _ _ _ T28 (mkF m 159 #[.val (.ref q), .val (.int (Lp (a 0))), .val (.double (T (a 3))), .second, .val (.int (Lp (a 3))), .val (.int (2 : Int32)), .val (.int (5 : Int32))] [(.int (2 : Int32)), (.ref v)])
      refine Go.step (fun _ k => XS.iload X28.here hx rfl (hb hby d4_159) rfl k) ?_
      show Go _ _ _ _ _ _ _ T28 (mkF m 161 #[.val (.ref q), .val (.int (Lp (a 0))), .val (.double (T (a 3))), .second, .val (.int (Lp (a 3))), .val (.int (2 : Int32)), .val (.int (5 : Int32))] [(.int (Lp (a 3))), (.int (2 : Int32)), (.ref v)])
      refine Go.iastore X28 hx hZ e28 V_v_27 (j := (2 : Int32)) (x := (Lp (a 3))) (by decide) (hb hby d4_161) ?_
      intro T29 h29 X29 e29 W29 Vn29
      have V_v_29 : Iv Z h29 v (64 : Int32) (updN (updN l' 0 (Lp (a 2))) 2 (Lp (a 3))) := Vn29
      have N29 := Fr.snoc X29 N27 ge_v
      have E_q_29 := E_q_27.wr W29
      have F_size_q_29 := F_size_q_27.other W29 (Or.inl ne_q_v)
      have F_times_q_29 := F_times_q_27.other W29 (Or.inl ne_q_v)
      have F_lightpaths_q_29 := F_lightpaths_q_27.other W29 (Or.inl ne_q_v)
      have V_u_29 := V_u_27.other W29 ne_u_v
      have K29 : Keep h0 h29 [q, u, v] := K27.wr W29 (Or.inl (List.mem_of_getElem? (i := 2) rfl))
      show Go _ _ _ _ _ _ _ T29 (mkF m 162 #[.val (.ref q), .val (.int (Lp (a 0))), .val (.double (T (a 3))), .second, .val (.int (Lp (a 3))), .val (.int (2 : Int32)), .val (.int (5 : Int32))] [])
      refine Go.step (fun _ k => XS.iloadN X29.here hx rfl (hb hby d4_162) rfl k) ?_
      show Go _ _ _ _ _ _ _ T29 (mkF m 163 #[.val (.ref q), .val (.int (Lp (a 0))), .val (.double (T (a 3))), .second, .val (.int (Lp (a 3))), .val (.int (2 : Int32)), .val (.int (5 : Int32))] [(.int (Lp (a 0)))])
      refine Go.retI X29 hx hlk hret (hb hby d4_163) (by decide) (by decide) ?_
      try rw [e29]
      have := own_ltK hT hd89_12
      have := own_ngeK hT hd104_14
      refine ⟨rfl, N29, K29, E_q_29, F_size_q_29, F_times_q_29, F_lightpaths_q_29, _, _, (updN (updN a 0 (a 2)) 2 (a 3)), V_u_29, V_v_29, fun i hi' => by rcases (by omega : i = 0 ∨ i = 1 ∨ i = 2) with rfl | rfl | rfl <;> first | rfl | simp [updN, hg0, hg1, hg2, hg3, hl0, hl1, hl2, hl3], fun i hi' => by rcases (by omega : i = 0 ∨ i = 1 ∨ i = 2) with rfl | rfl | rfl <;> first | rfl | simp [updN, hg0, hg1, hg2, hg3, hl0, hl1, hl2, hl3], ?_, ?_, fun P hP => ?_⟩
      · simp only [HI, updN]; try simp; try omega
      · exact ⟨fun i hi' => by rcases (by omega : i = 0 ∨ i = 1 ∨ i = 2) with rfl | rfl | rfl <;> simp [updN] <;> omega, fun w => by simp [sumA, updN]; try omega⟩
      · intro i hi'; rcases (by omega : i = 0 ∨ i = 1 ∨ i = 2) with rfl | rfl | rfl <;> simp [updN] <;> exact hP _ (by decide)
  · refine Go.step (fun _ k => XS.ifYes X11.here hx rfl (pc0 := 89) (pc' := 95) rfl (hb hby d4_89) rfl (lt_n hd89_12) (by decide) (by decide) k) ?_
    show Go _ _ _ _ _ _ _ T11 (mkF m 95 #[.val (.ref q), .val (.int (Lp (a 0))), .val (.double (T (a 3))), .second, .val (.int (Lp (a 3))), .val (.int (0 : Int32)), .val (.int (1 : Int32))] [])
    refine Go.step (fun _ k => XS.aloadN X11.here hx rfl (hb hby d4_95) rfl rfl k) ?_
    show Go _ _ _ _ _ _ _ T11 (mkF m 96 #[.val (.ref q), .val (.int (Lp (a 0))), .val (.double (T (a 3))), .second, .val (.int (Lp (a 3))), .val (.int (0 : Int32)), .val (.int (1 : Int32))] [(.ref q)])
    obtain ⟨T30, X30, e30, st30⟩ := getF X11 hx hZ hown (host := "") (Or.inl (hw _ (List.mem_of_getElem? (i := 11) rfl))) Via.refl e11 F_times_q_3 (g := (mkF m 96 #[.val (.ref q), .val (.int (Lp (a 0))), .val (.double (T (a 3))), .second, .val (.int (Lp (a 3))), .val (.int (0 : Int32)), .val (.int (1 : Int32))] [(.ref q)])) rfl rfl (hb hby d4_96)
    refine Go.step st30 ?_
    show Go _ _ _ _ _ _ _ T30 (mkF m 99 #[.val (.ref q), .val (.int (Lp (a 0))), .val (.double (T (a 3))), .second, .val (.int (Lp (a 3))), .val (.int (0 : Int32)), .val (.int (1 : Int32))] [(.ref u)])
    refine Go.step (fun _ k => XS.iload X30.here hx rfl (hb hby d4_99) rfl k) ?_
    show Go _ _ _ _ _ _ _ T30 (mkF m 101 #[.val (.ref q), .val (.int (Lp (a 0))), .val (.double (T (a 3))), .second, .val (.int (Lp (a 3))), .val (.int (0 : Int32)), .val (.int (1 : Int32))] [(.int (1 : Int32)), (.ref u)])
    refine Go.daload X30 hx hZ e30 V_u_3 (j := (1 : Int32)) (v := (T (a 1))) (by decide) (by first | rfl | simp [updN, hg0, hg1, hg2, hg3, hl0, hl1, hl2, hl3]) (hb hby d4_101) ?_
    show Go _ _ _ _ _ _ _ T30 (mkF m 102 #[.val (.ref q), .val (.int (Lp (a 0))), .val (.double (T (a 3))), .second, .val (.int (Lp (a 3))), .val (.int (0 : Int32)), .val (.int (1 : Int32))] [(.double (T (a 1)))])
    refine Go.step (fun _ k => XS.dloadN X30.here hx rfl (hb hby d4_102) rfl k) ?_
    show Go _ _ _ _ _ _ _ T30 (mkF m 103 #[.val (.ref q), .val (.int (Lp (a 0))), .val (.double (T (a 3))), .second, .val (.int (Lp (a 3))), .val (.int (0 : Int32)), .val (.int (1 : Int32))] [(.double (T (a 3))), (.double (T (a 1)))])
    refine Go.step (fun _ k => XS.dcmpS X30.here hx rfl (hb hby d4_103) rfl rfl k) ?_
    show Go _ _ _ _ _ _ _ T30 (mkF m 104 #[.val (.ref q), .val (.int (Lp (a 0))), .val (.double (T (a 3))), .second, .val (.int (Lp (a 3))), .val (.int (0 : Int32)), .val (.int (1 : Int32))] [(.int (cmpValue (FP.dcmp (T (a 1)) (T (a 3))) .l))])
    by_cases hd104_31 : (FP.dcmp (T (a 1)) (T (a 3)) = some .gt ∨ FP.dcmp (T (a 1)) (T (a 3)) = some .eq)
    · refine Go.step (fun _ k => XS.ifNo X30.here hx rfl (hb hby d4_104) rfl (ge_y hd104_31) k) ?_
      show Go _ _ _ _ _ _ _ T30 (mkF m 107 #[.val (.ref q), .val (.int (Lp (a 0))), .val (.double (T (a 3))), .second, .val (.int (Lp (a 3))), .val (.int (0 : Int32)), .val (.int (1 : Int32))] [])
      refine Go.step (fun _ k => XS.goto X30.here hx rfl (pc0 := 107) (pc' := 145) rfl (hb hby d4_107) (by decide) (by decide) k) ?_
      show Go _ _ _ _ _ _ _ T30 (mkF m 145 #[.val (.ref q), .val (.int (Lp (a 0))), .val (.double (T (a 3))), .second, .val (.int (Lp (a 3))), .val (.int (0 : Int32)), .val (.int (1 : Int32))] [])
      refine Go.step (fun _ k => XS.aloadN X30.here hx rfl (hb hby d4_145) rfl rfl k) ?_
      show Go _ _ _ _ _ _ _ T30 (mkF m 146 #[.val (.ref q), .val (.int (Lp (a 0))), .val (.double (T (a 3))), .second, .val (.int (Lp (a 3))), .val (.int (0 : Int32)), .val (.int (1 : Int32))] [(.ref q)])
      obtain ⟨T32, X32, e32, st32⟩ := getF X30 hx hZ hown (host := "") (Or.inl (hw _ (List.mem_of_getElem? (i := 11) rfl))) Via.refl e30 F_times_q_3 (g := (mkF m 146 #[.val (.ref q), .val (.int (Lp (a 0))), .val (.double (T (a 3))), .second, .val (.int (Lp (a 3))), .val (.int (0 : Int32)), .val (.int (1 : Int32))] [(.ref q)])) rfl rfl (hb hby d4_146)
      refine Go.step st32 ?_
      show Go _ _ _ _ _ _ _ T32 (mkF m 149 #[.val (.ref q), .val (.int (Lp (a 0))), .val (.double (T (a 3))), .second, .val (.int (Lp (a 3))), .val (.int (0 : Int32)), .val (.int (1 : Int32))] [(.ref u)])
      refine Go.step (fun _ k => XS.iload X32.here hx rfl (hb hby d4_149) rfl k) ?_
      show Go _ _ _ _ _ _ _ T32 (mkF m 151 #[.val (.ref q), .val (.int (Lp (a 0))), .val (.double (T (a 3))), .second, .val (.int (Lp (a 3))), .val (.int (0 : Int32)), .val (.int (1 : Int32))] [(.int (0 : Int32)), (.ref u)])
      refine Go.step (fun _ k => XS.dloadN X32.here hx rfl (hb hby d4_151) rfl k) ?_
      show Go _ _ _ _ _ _ _ T32 (mkF m 152 #[.val (.ref q), .val (.int (Lp (a 0))), .val (.double (T (a 3))), .second, .val (.int (Lp (a 3))), .val (.int (0 : Int32)), .val (.int (1 : Int32))] [(.double (T (a 3))), (.int (0 : Int32)), (.ref u)])
      refine Go.dastore X32 hx hZ e32 V_u_3 (j := (0 : Int32)) (x := (T (a 3))) (by decide) (hb hby d4_152) ?_
      intro T33 h33 X33 e33 W33 Vn33
      have V_u_33 : Dv Z h33 u (64 : Int32) (updN g 0 (T (a 3))) := Vn33
      have N33 := Fr.snoc X33 N3 ge_u
      have E_q_33 := E_q_3.wr W33
      have F_size_q_33 := F_size_q_3.other W33 (Or.inl ne_q_u)
      have F_times_q_33 := F_times_q_3.other W33 (Or.inl ne_q_u)
      have F_lightpaths_q_33 := F_lightpaths_q_3.other W33 (Or.inl ne_q_u)
      have V_v_33 := V_v_3.other W33 (Ne.symm ne_u_v)
      have K33 : Keep h0 h33 [q, u, v] := K3.wr W33 (Or.inl (List.mem_of_getElem? (i := 1) rfl))
      show Go _ _ _ _ _ _ _ T33 (mkF m 153 #[.val (.ref q), .val (.int (Lp (a 0))), .val (.double (T (a 3))), .second, .val (.int (Lp (a 3))), .val (.int (0 : Int32)), .val (.int (1 : Int32))] [])
      refine Go.step (fun _ k => XS.aloadN X33.here hx rfl (hb hby d4_153) rfl rfl k) ?_
      show Go _ _ _ _ _ _ _ T33 (mkF m 154 #[.val (.ref q), .val (.int (Lp (a 0))), .val (.double (T (a 3))), .second, .val (.int (Lp (a 3))), .val (.int (0 : Int32)), .val (.int (1 : Int32))] [(.ref q)])
      obtain ⟨T34, X34, e34, st34⟩ := getF X33 hx hZ hown (host := "") (Or.inl (hw _ (List.mem_of_getElem? (i := 13) rfl))) Via.refl e33 F_lightpaths_q_33 (g := (mkF m 154 #[.val (.ref q), .val (.int (Lp (a 0))), .val (.double (T (a 3))), .second, .val (.int (Lp (a 3))), .val (.int (0 : Int32)), .val (.int (1 : Int32))] [(.ref q)])) rfl rfl (hb hby d4_154)
      refine Go.step st34 ?_
      show Go _ _ _ _ _ _ _ T34 (mkF m 157 #[.val (.ref q), .val (.int (Lp (a 0))), .val (.double (T (a 3))), .second, .val (.int (Lp (a 3))), .val (.int (0 : Int32)), .val (.int (1 : Int32))] [(.ref v)])
      refine Go.step (fun _ k => XS.iload X34.here hx rfl (hb hby d4_157) rfl k) ?_
      show Go _ _ _ _ _ _ _ T34 (mkF m 159 #[.val (.ref q), .val (.int (Lp (a 0))), .val (.double (T (a 3))), .second, .val (.int (Lp (a 3))), .val (.int (0 : Int32)), .val (.int (1 : Int32))] [(.int (0 : Int32)), (.ref v)])
      refine Go.step (fun _ k => XS.iload X34.here hx rfl (hb hby d4_159) rfl k) ?_
      show Go _ _ _ _ _ _ _ T34 (mkF m 161 #[.val (.ref q), .val (.int (Lp (a 0))), .val (.double (T (a 3))), .second, .val (.int (Lp (a 3))), .val (.int (0 : Int32)), .val (.int (1 : Int32))] [(.int (Lp (a 3))), (.int (0 : Int32)), (.ref v)])
      refine Go.iastore X34 hx hZ e34 V_v_33 (j := (0 : Int32)) (x := (Lp (a 3))) (by decide) (hb hby d4_161) ?_
      intro T35 h35 X35 e35 W35 Vn35
      have V_v_35 : Iv Z h35 v (64 : Int32) (updN l' 0 (Lp (a 3))) := Vn35
      have N35 := Fr.snoc X35 N33 ge_v
      have E_q_35 := E_q_33.wr W35
      have F_size_q_35 := F_size_q_33.other W35 (Or.inl ne_q_v)
      have F_times_q_35 := F_times_q_33.other W35 (Or.inl ne_q_v)
      have F_lightpaths_q_35 := F_lightpaths_q_33.other W35 (Or.inl ne_q_v)
      have V_u_35 := V_u_33.other W35 ne_u_v
      have K35 : Keep h0 h35 [q, u, v] := K33.wr W35 (Or.inl (List.mem_of_getElem? (i := 2) rfl))
      show Go _ _ _ _ _ _ _ T35 (mkF m 162 #[.val (.ref q), .val (.int (Lp (a 0))), .val (.double (T (a 3))), .second, .val (.int (Lp (a 3))), .val (.int (0 : Int32)), .val (.int (1 : Int32))] [])
      refine Go.step (fun _ k => XS.iloadN X35.here hx rfl (hb hby d4_162) rfl k) ?_
      show Go _ _ _ _ _ _ _ T35 (mkF m 163 #[.val (.ref q), .val (.int (Lp (a 0))), .val (.double (T (a 3))), .second, .val (.int (Lp (a 3))), .val (.int (0 : Int32)), .val (.int (1 : Int32))] [(.int (Lp (a 0)))])
      refine Go.retI X35 hx hlk hret (hb hby d4_163) (by decide) (by decide) ?_
      try rw [e35]
      have := own_nltK hT hd89_12
      have := own_geK hT hd104_31
      refine ⟨rfl, N35, K35, E_q_35, F_size_q_35, F_times_q_35, F_lightpaths_q_35, _, _, (updN a 0 (a 3)), V_u_35, V_v_35, fun i hi' => by rcases (by omega : i = 0 ∨ i = 1 ∨ i = 2) with rfl | rfl | rfl <;> first | rfl | simp [updN, hg0, hg1, hg2, hg3, hl0, hl1, hl2, hl3], fun i hi' => by rcases (by omega : i = 0 ∨ i = 1 ∨ i = 2) with rfl | rfl | rfl <;> first | rfl | simp [updN, hg0, hg1, hg2, hg3, hl0, hl1, hl2, hl3], ?_, ?_, fun P hP => ?_⟩
      · simp only [HI, updN]; try simp; try omega
      · exact ⟨fun i hi' => by rcases (by omega : i = 0 ∨ i = 1 ∨ i = 2) with rfl | rfl | rfl <;> simp [updN] <;> omega, fun w => by simp [sumA, updN]; try omega⟩
      · intro i hi'; rcases (by omega : i = 0 ∨ i = 1 ∨ i = 2) with rfl | rfl | rfl <;> simp [updN] <;> exact hP _ (by decide)
    · refine Go.step (fun _ k => XS.ifYes X30.here hx rfl (pc0 := 104) (pc' := 110) rfl (hb hby d4_104) rfl (ge_n hd104_31) (by decide) (by decide) k) ?_
      show Go _ _ _ _ _ _ _ T30 (mkF m 110 #[.val (.ref q), .val (.int (Lp (a 0))), .val (.double (T (a 3))), .second, .val (.int (Lp (a 3))), .val (.int (0 : Int32)), .val (.int (1 : Int32))] [])
      refine Go.step (fun _ k => XS.aloadN X30.here hx rfl (hb hby d4_110) rfl rfl k) ?_
      show Go _ _ _ _ _ _ _ T30 (mkF m 111 #[.val (.ref q), .val (.int (Lp (a 0))), .val (.double (T (a 3))), .second, .val (.int (Lp (a 3))), .val (.int (0 : Int32)), .val (.int (1 : Int32))] [(.ref q)])
      obtain ⟨T36, X36, e36, st36⟩ := getF X30 hx hZ hown (host := "") (Or.inl (hw _ (List.mem_of_getElem? (i := 11) rfl))) Via.refl e30 F_times_q_3 (g := (mkF m 111 #[.val (.ref q), .val (.int (Lp (a 0))), .val (.double (T (a 3))), .second, .val (.int (Lp (a 3))), .val (.int (0 : Int32)), .val (.int (1 : Int32))] [(.ref q)])) rfl rfl (hb hby d4_111)
      refine Go.step st36 ?_
      show Go _ _ _ _ _ _ _ T36 (mkF m 114 #[.val (.ref q), .val (.int (Lp (a 0))), .val (.double (T (a 3))), .second, .val (.int (Lp (a 3))), .val (.int (0 : Int32)), .val (.int (1 : Int32))] [(.ref u)])
      refine Go.step (fun _ k => XS.iload X36.here hx rfl (hb hby d4_114) rfl k) ?_
      show Go _ _ _ _ _ _ _ T36 (mkF m 116 #[.val (.ref q), .val (.int (Lp (a 0))), .val (.double (T (a 3))), .second, .val (.int (Lp (a 3))), .val (.int (0 : Int32)), .val (.int (1 : Int32))] [(.int (0 : Int32)), (.ref u)])
      refine Go.step (fun _ k => XS.aloadN X36.here hx rfl (hb hby d4_116) rfl rfl k) ?_
      show Go _ _ _ _ _ _ _ T36 (mkF m 117 #[.val (.ref q), .val (.int (Lp (a 0))), .val (.double (T (a 3))), .second, .val (.int (Lp (a 3))), .val (.int (0 : Int32)), .val (.int (1 : Int32))] [(.ref q), (.int (0 : Int32)), (.ref u)])
      obtain ⟨T37, X37, e37, st37⟩ := getF X36 hx hZ hown (host := "") (Or.inl (hw _ (List.mem_of_getElem? (i := 11) rfl))) Via.refl e36 F_times_q_3 (g := (mkF m 117 #[.val (.ref q), .val (.int (Lp (a 0))), .val (.double (T (a 3))), .second, .val (.int (Lp (a 3))), .val (.int (0 : Int32)), .val (.int (1 : Int32))] [(.ref q), (.int (0 : Int32)), (.ref u)])) rfl rfl (hb hby d4_117)
      refine Go.step st37 ?_
      show Go _ _ _ _ _ _ _ T37 (mkF m 120 #[.val (.ref q), .val (.int (Lp (a 0))), .val (.double (T (a 3))), .second, .val (.int (Lp (a 3))), .val (.int (0 : Int32)), .val (.int (1 : Int32))] [(.ref u), (.int (0 : Int32)), (.ref u)])
      refine Go.step (fun _ k => XS.iload X37.here hx rfl (hb hby d4_120) rfl k) ?_
      show Go _ _ _ _ _ _ _ T37 (mkF m 122 #[.val (.ref q), .val (.int (Lp (a 0))), .val (.double (T (a 3))), .second, .val (.int (Lp (a 3))), .val (.int (0 : Int32)), .val (.int (1 : Int32))] [(.int (1 : Int32)), (.ref u), (.int (0 : Int32)), (.ref u)])
      refine Go.daload X37 hx hZ e37 V_u_3 (j := (1 : Int32)) (v := (T (a 1))) (by decide) (by first | rfl | simp [updN, hg0, hg1, hg2, hg3, hl0, hl1, hl2, hl3]) (hb hby d4_122) ?_
      show Go _ _ _ _ _ _ _ T37 (mkF m 123 #[.val (.ref q), .val (.int (Lp (a 0))), .val (.double (T (a 3))), .second, .val (.int (Lp (a 3))), .val (.int (0 : Int32)), .val (.int (1 : Int32))] [(.double (T (a 1))), (.int (0 : Int32)), (.ref u)])
      refine Go.dastore X37 hx hZ e37 V_u_3 (j := (0 : Int32)) (x := (T (a 1))) (by decide) (hb hby d4_123) ?_
      intro T38 h38 X38 e38 W38 Vn38
      have V_u_38 : Dv Z h38 u (64 : Int32) (updN g 0 (T (a 1))) := Vn38
      have N38 := Fr.snoc X38 N3 ge_u
      have E_q_38 := E_q_3.wr W38
      have F_size_q_38 := F_size_q_3.other W38 (Or.inl ne_q_u)
      have F_times_q_38 := F_times_q_3.other W38 (Or.inl ne_q_u)
      have F_lightpaths_q_38 := F_lightpaths_q_3.other W38 (Or.inl ne_q_u)
      have V_v_38 := V_v_3.other W38 (Ne.symm ne_u_v)
      have K38 : Keep h0 h38 [q, u, v] := K3.wr W38 (Or.inl (List.mem_of_getElem? (i := 1) rfl))
      show Go _ _ _ _ _ _ _ T38 (mkF m 124 #[.val (.ref q), .val (.int (Lp (a 0))), .val (.double (T (a 3))), .second, .val (.int (Lp (a 3))), .val (.int (0 : Int32)), .val (.int (1 : Int32))] [])
      refine Go.step (fun _ k => XS.aloadN X38.here hx rfl (hb hby d4_124) rfl rfl k) ?_
      show Go _ _ _ _ _ _ _ T38 (mkF m 125 #[.val (.ref q), .val (.int (Lp (a 0))), .val (.double (T (a 3))), .second, .val (.int (Lp (a 3))), .val (.int (0 : Int32)), .val (.int (1 : Int32))] [(.ref q)])
      obtain ⟨T39, X39, e39, st39⟩ := getF X38 hx hZ hown (host := "") (Or.inl (hw _ (List.mem_of_getElem? (i := 13) rfl))) Via.refl e38 F_lightpaths_q_38 (g := (mkF m 125 #[.val (.ref q), .val (.int (Lp (a 0))), .val (.double (T (a 3))), .second, .val (.int (Lp (a 3))), .val (.int (0 : Int32)), .val (.int (1 : Int32))] [(.ref q)])) rfl rfl (hb hby d4_125)
      refine Go.step st39 ?_
      show Go _ _ _ _ _ _ _ T39 (mkF m 128 #[.val (.ref q), .val (.int (Lp (a 0))), .val (.double (T (a 3))), .second, .val (.int (Lp (a 3))), .val (.int (0 : Int32)), .val (.int (1 : Int32))] [(.ref v)])
      refine Go.step (fun _ k => XS.iload X39.here hx rfl (hb hby d4_128) rfl k) ?_
      show Go _ _ _ _ _ _ _ T39 (mkF m 130 #[.val (.ref q), .val (.int (Lp (a 0))), .val (.double (T (a 3))), .second, .val (.int (Lp (a 3))), .val (.int (0 : Int32)), .val (.int (1 : Int32))] [(.int (0 : Int32)), (.ref v)])
      refine Go.step (fun _ k => XS.aloadN X39.here hx rfl (hb hby d4_130) rfl rfl k) ?_
      show Go _ _ _ _ _ _ _ T39 (mkF m 131 #[.val (.ref q), .val (.int (Lp (a 0))), .val (.double (T (a 3))), .second, .val (.int (Lp (a 3))), .val (.int (0 : Int32)), .val (.int (1 : Int32))] [(.ref q), (.int (0 : Int32)), (.ref v)])
      obtain ⟨T40, X40, e40, st40⟩ := getF X39 hx hZ hown (host := "") (Or.inl (hw _ (List.mem_of_getElem? (i := 13) rfl))) Via.refl e39 F_lightpaths_q_38 (g := (mkF m 131 #[.val (.ref q), .val (.int (Lp (a 0))), .val (.double (T (a 3))), .second, .val (.int (Lp (a 3))), .val (.int (0 : Int32)), .val (.int (1 : Int32))] [(.ref q), (.int (0 : Int32)), (.ref v)])) rfl rfl (hb hby d4_131)
      refine Go.step st40 ?_
      show Go _ _ _ _ _ _ _ T40 (mkF m 134 #[.val (.ref q), .val (.int (Lp (a 0))), .val (.double (T (a 3))), .second, .val (.int (Lp (a 3))), .val (.int (0 : Int32)), .val (.int (1 : Int32))] [(.ref v), (.int (0 : Int32)), (.ref v)])
      refine Go.step (fun _ k => XS.iload X40.here hx rfl (hb hby d4_134) rfl k) ?_
      show Go _ _ _ _ _ _ _ T40 (mkF m 136 #[.val (.ref q), .val (.int (Lp (a 0))), .val (.double (T (a 3))), .second, .val (.int (Lp (a 3))), .val (.int (0 : Int32)), .val (.int (1 : Int32))] [(.int (1 : Int32)), (.ref v), (.int (0 : Int32)), (.ref v)])
      refine Go.iaload X40 hx hZ e40 V_v_38 (j := (1 : Int32)) (v := (Lp (a 1))) (by decide) (by first | rfl | simp [updN, hg0, hg1, hg2, hg3, hl0, hl1, hl2, hl3]) (hb hby d4_136) ?_
      show Go _ _ _ _ _ _ _ T40 (mkF m 137 #[.val (.ref q), .val (.int (Lp (a 0))), .val (.double (T (a 3))), .second, .val (.int (Lp (a 3))), .val (.int (0 : Int32)), .val (.int (1 : Int32))] [(.int (Lp (a 1))), (.int (0 : Int32)), (.ref v)])
      refine Go.iastore X40 hx hZ e40 V_v_38 (j := (0 : Int32)) (x := (Lp (a 1))) (by decide) (hb hby d4_137) ?_
      intro T41 h41 X41 e41 W41 Vn41
      have V_v_41 : Iv Z h41 v (64 : Int32) (updN l' 0 (Lp (a 1))) := Vn41
      have N41 := Fr.snoc X41 N38 ge_v
      have E_q_41 := E_q_38.wr W41
      have F_size_q_41 := F_size_q_38.other W41 (Or.inl ne_q_v)
      have F_times_q_41 := F_times_q_38.other W41 (Or.inl ne_q_v)
      have F_lightpaths_q_41 := F_lightpaths_q_38.other W41 (Or.inl ne_q_v)
      have V_u_41 := V_u_38.other W41 ne_u_v
      have K41 : Keep h0 h41 [q, u, v] := K38.wr W41 (Or.inl (List.mem_of_getElem? (i := 2) rfl))
      show Go _ _ _ _ _ _ _ T41 (mkF m 138 #[.val (.ref q), .val (.int (Lp (a 0))), .val (.double (T (a 3))), .second, .val (.int (Lp (a 3))), .val (.int (0 : Int32)), .val (.int (1 : Int32))] [])
      refine Go.step (fun _ k => XS.iload X41.here hx rfl (hb hby d4_138) rfl k) ?_
      show Go _ _ _ _ _ _ _ T41 (mkF m 140 #[.val (.ref q), .val (.int (Lp (a 0))), .val (.double (T (a 3))), .second, .val (.int (Lp (a 3))), .val (.int (0 : Int32)), .val (.int (1 : Int32))] [(.int (1 : Int32))])
      refine Go.step (fun _ k => XS.istore X41.here hx rfl (hb hby d4_140) rfl (l' := #[.val (.ref q), .val (.int (Lp (a 0))), .val (.double (T (a 3))), .second, .val (.int (Lp (a 3))), .val (.int (1 : Int32)), .val (.int (1 : Int32))]) rfl k) ?_
      show Go _ _ _ _ _ _ _ T41 (mkF m 142 #[.val (.ref q), .val (.int (Lp (a 0))), .val (.double (T (a 3))), .second, .val (.int (Lp (a 3))), .val (.int (1 : Int32)), .val (.int (1 : Int32))] [])
      refine Go.step (fun _ k => XS.goto X41.here hx rfl (pc0 := 142) (pc' := 41) rfl (hb hby d4_142) (by decide) (by decide) k) ?_
      show Go _ _ _ _ _ _ _ T41 (mkF m 41 #[.val (.ref q), .val (.int (Lp (a 0))), .val (.double (T (a 3))), .second, .val (.int (Lp (a 3))), .val (.int (1 : Int32)), .val (.int (1 : Int32))] [])
      refine Go.step (fun _ k => XS.iconst X41.here hx rfl (hb hby d4_41) k) ?_
      show Go _ _ _ _ _ _ _ T41 (mkF m 42 #[.val (.ref q), .val (.int (Lp (a 0))), .val (.double (T (a 3))), .second, .val (.int (Lp (a 3))), .val (.int (1 : Int32)), .val (.int (1 : Int32))] [(.int (2 : Int32))])
      refine Go.step (fun _ k => XS.iload X41.here hx rfl (hb hby d4_42) rfl k) ?_
      show Go _ _ _ _ _ _ _ T41 (mkF m 44 #[.val (.ref q), .val (.int (Lp (a 0))), .val (.double (T (a 3))), .second, .val (.int (Lp (a 3))), .val (.int (1 : Int32)), .val (.int (1 : Int32))] [(.int (1 : Int32)), (.int (2 : Int32))])
      refine Go.step (fun _ k => XS.imul X41.here hx rfl (hb hby d4_44) rfl k) ?_
      show Go _ _ _ _ _ _ _ T41 (mkF m 45 #[.val (.ref q), .val (.int (Lp (a 0))), .val (.double (T (a 3))), .second, .val (.int (Lp (a 3))), .val (.int (1 : Int32)), .val (.int (1 : Int32))] [(.int (2 : Int32))])
      refine Go.step (fun _ k => XS.iconst X41.here hx rfl (hb hby d4_45) k) ?_
      show Go _ _ _ _ _ _ _ T41 (mkF m 46 #[.val (.ref q), .val (.int (Lp (a 0))), .val (.double (T (a 3))), .second, .val (.int (Lp (a 3))), .val (.int (1 : Int32)), .val (.int (1 : Int32))] [(.int (1 : Int32)), (.int (2 : Int32))])
      refine Go.step (fun _ k => XS.iadd X41.here hx rfl (hb hby d4_46) rfl k) ?_
      show Go _ _ _ _ _ _ _ T41 (mkF m 47 #[.val (.ref q), .val (.int (Lp (a 0))), .val (.double (T (a 3))), .second, .val (.int (Lp (a 3))), .val (.int (1 : Int32)), .val (.int (1 : Int32))] [(.int (3 : Int32))])
      refine Go.step (fun _ k => XS.istore X41.here hx rfl (hb hby d4_47) rfl (l' := #[.val (.ref q), .val (.int (Lp (a 0))), .val (.double (T (a 3))), .second, .val (.int (Lp (a 3))), .val (.int (1 : Int32)), .val (.int (3 : Int32))]) rfl k) ?_
      show Go _ _ _ _ _ _ _ T41 (mkF m 49 #[.val (.ref q), .val (.int (Lp (a 0))), .val (.double (T (a 3))), .second, .val (.int (Lp (a 3))), .val (.int (1 : Int32)), .val (.int (3 : Int32))] [])
      refine Go.step (fun _ k => XS.iload X41.here hx rfl (hb hby d4_49) rfl k) ?_
      show Go _ _ _ _ _ _ _ T41 (mkF m 51 #[.val (.ref q), .val (.int (Lp (a 0))), .val (.double (T (a 3))), .second, .val (.int (Lp (a 3))), .val (.int (1 : Int32)), .val (.int (3 : Int32))] [(.int (3 : Int32))])
      refine Go.step (fun _ k => XS.aloadN X41.here hx rfl (hb hby d4_51) rfl rfl k) ?_
      show Go _ _ _ _ _ _ _ T41 (mkF m 52 #[.val (.ref q), .val (.int (Lp (a 0))), .val (.double (T (a 3))), .second, .val (.int (Lp (a 3))), .val (.int (1 : Int32)), .val (.int (3 : Int32))] [(.ref q), (.int (3 : Int32))])
      obtain ⟨T42, X42, e42, st42⟩ := getF X41 hx hZ hown (host := "") (Or.inl (hw _ (List.mem_of_getElem? (i := 20) rfl))) Via.refl e41 F_size_q_41 (g := (mkF m 52 #[.val (.ref q), .val (.int (Lp (a 0))), .val (.double (T (a 3))), .second, .val (.int (Lp (a 3))), .val (.int (1 : Int32)), .val (.int (3 : Int32))] [(.ref q), (.int (3 : Int32))])) rfl rfl (hb hby d4_52)
      refine Go.step st42 ?_
      show Go _ _ _ _ _ _ _ T42 (mkF m 55 #[.val (.ref q), .val (.int (Lp (a 0))), .val (.double (T (a 3))), .second, .val (.int (Lp (a 3))), .val (.int (1 : Int32)), .val (.int (3 : Int32))] [(.int (3 : Int32)), (.int (3 : Int32))])
      refine Go.step (fun _ k => XS.icmpNo X42.here hx rfl (hb hby d4_55) rfl (flt (by decide : ¬ ((3 : Int32) < (3 : Int32)))).1 k) ?_
      show Go _ _ _ _ _ _ _ T42 (mkF m 58 #[.val (.ref q), .val (.int (Lp (a 0))), .val (.double (T (a 3))), .second, .val (.int (Lp (a 3))), .val (.int (1 : Int32)), .val (.int (3 : Int32))] [])
      refine Go.step (fun _ k => XS.goto X42.here hx rfl (pc0 := 58) (pc' := 145) rfl (hb hby d4_58) (by decide) (by decide) k) ?_
      show Go _ _ _ _ _ _ _ T42 (mkF m 145 #[.val (.ref q), .val (.int (Lp (a 0))), .val (.double (T (a 3))), .second, .val (.int (Lp (a 3))), .val (.int (1 : Int32)), .val (.int (3 : Int32))] [])
      refine Go.step (fun _ k => XS.aloadN X42.here hx rfl (hb hby d4_145) rfl rfl k) ?_
      show Go _ _ _ _ _ _ _ T42 (mkF m 146 #[.val (.ref q), .val (.int (Lp (a 0))), .val (.double (T (a 3))), .second, .val (.int (Lp (a 3))), .val (.int (1 : Int32)), .val (.int (3 : Int32))] [(.ref q)])
      obtain ⟨T43, X43, e43, st43⟩ := getF X42 hx hZ hown (host := "") (Or.inl (hw _ (List.mem_of_getElem? (i := 11) rfl))) Via.refl e42 F_times_q_41 (g := (mkF m 146 #[.val (.ref q), .val (.int (Lp (a 0))), .val (.double (T (a 3))), .second, .val (.int (Lp (a 3))), .val (.int (1 : Int32)), .val (.int (3 : Int32))] [(.ref q)])) rfl rfl (hb hby d4_146)
      refine Go.step st43 ?_
      show Go _ _ _ _ _ _ _ T43 (mkF m 149 #[.val (.ref q), .val (.int (Lp (a 0))), .val (.double (T (a 3))), .second, .val (.int (Lp (a 3))), .val (.int (1 : Int32)), .val (.int (3 : Int32))] [(.ref u)])
      refine Go.step (fun _ k => XS.iload X43.here hx rfl (hb hby d4_149) rfl k) ?_
      show Go _ _ _ _ _ _ _ T43 (mkF m 151 #[.val (.ref q), .val (.int (Lp (a 0))), .val (.double (T (a 3))), .second, .val (.int (Lp (a 3))), .val (.int (1 : Int32)), .val (.int (3 : Int32))] [(.int (1 : Int32)), (.ref u)])
      refine Go.step (fun _ k => XS.dloadN X43.here hx rfl (hb hby d4_151) rfl k) ?_
      show Go _ _ _ _ _ _ _ T43 (mkF m 152 #[.val (.ref q), .val (.int (Lp (a 0))), .val (.double (T (a 3))), .second, .val (.int (Lp (a 3))), .val (.int (1 : Int32)), .val (.int (3 : Int32))] [(.double (T (a 3))), (.int (1 : Int32)), (.ref u)])
      refine Go.dastore X43 hx hZ e43 V_u_41 (j := (1 : Int32)) (x := (T (a 3))) (by decide) (hb hby d4_152) ?_
      intro T44 h44 X44 e44 W44 Vn44
      have V_u_44 : Dv Z h44 u (64 : Int32) (updN (updN g 0 (T (a 1))) 1 (T (a 3))) := Vn44
      have N44 := Fr.snoc X44 N41 ge_u
      have E_q_44 := E_q_41.wr W44
      have F_size_q_44 := F_size_q_41.other W44 (Or.inl ne_q_u)
      have F_times_q_44 := F_times_q_41.other W44 (Or.inl ne_q_u)
      have F_lightpaths_q_44 := F_lightpaths_q_41.other W44 (Or.inl ne_q_u)
      have V_v_44 := V_v_41.other W44 (Ne.symm ne_u_v)
      have K44 : Keep h0 h44 [q, u, v] := K41.wr W44 (Or.inl (List.mem_of_getElem? (i := 1) rfl))
      show Go _ _ _ _ _ _ _ T44 (mkF m 153 #[.val (.ref q), .val (.int (Lp (a 0))), .val (.double (T (a 3))), .second, .val (.int (Lp (a 3))), .val (.int (1 : Int32)), .val (.int (3 : Int32))] [])
      refine Go.step (fun _ k => XS.aloadN X44.here hx rfl (hb hby d4_153) rfl rfl k) ?_
      show Go _ _ _ _ _ _ _ T44 (mkF m 154 #[.val (.ref q), .val (.int (Lp (a 0))), .val (.double (T (a 3))), .second, .val (.int (Lp (a 3))), .val (.int (1 : Int32)), .val (.int (3 : Int32))] [(.ref q)])
      obtain ⟨T45, X45, e45, st45⟩ := getF X44 hx hZ hown (host := "") (Or.inl (hw _ (List.mem_of_getElem? (i := 13) rfl))) Via.refl e44 F_lightpaths_q_44 (g := (mkF m 154 #[.val (.ref q), .val (.int (Lp (a 0))), .val (.double (T (a 3))), .second, .val (.int (Lp (a 3))), .val (.int (1 : Int32)), .val (.int (3 : Int32))] [(.ref q)])) rfl rfl (hb hby d4_154)
      refine Go.step st45 ?_
      show Go _ _ _ _ _ _ _ T45 (mkF m 157 #[.val (.ref q), .val (.int (Lp (a 0))), .val (.double (T (a 3))), .second, .val (.int (Lp (a 3))), .val (.int (1 : Int32)), .val (.int (3 : Int32))] [(.ref v)])
      refine Go.step (fun _ k => XS.iload X45.here hx rfl (hb hby d4_157) rfl k) ?_
      show Go _ _ _ _ _ _ _ T45 (mkF m 159 #[.val (.ref q), .val (.int (Lp (a 0))), .val (.double (T (a 3))), .second, .val (.int (Lp (a 3))), .val (.int (1 : Int32)), .val (.int (3 : Int32))] [(.int (1 : Int32)), (.ref v)])
      refine Go.step (fun _ k => XS.iload X45.here hx rfl (hb hby d4_159) rfl k) ?_
      show Go _ _ _ _ _ _ _ T45 (mkF m 161 #[.val (.ref q), .val (.int (Lp (a 0))), .val (.double (T (a 3))), .second, .val (.int (Lp (a 3))), .val (.int (1 : Int32)), .val (.int (3 : Int32))] [(.int (Lp (a 3))), (.int (1 : Int32)), (.ref v)])
      refine Go.iastore X45 hx hZ e45 V_v_44 (j := (1 : Int32)) (x := (Lp (a 3))) (by decide) (hb hby d4_161) ?_
      intro T46 h46 X46 e46 W46 Vn46
      have V_v_46 : Iv Z h46 v (64 : Int32) (updN (updN l' 0 (Lp (a 1))) 1 (Lp (a 3))) := Vn46
      have N46 := Fr.snoc X46 N44 ge_v
      have E_q_46 := E_q_44.wr W46
      have F_size_q_46 := F_size_q_44.other W46 (Or.inl ne_q_v)
      have F_times_q_46 := F_times_q_44.other W46 (Or.inl ne_q_v)
      have F_lightpaths_q_46 := F_lightpaths_q_44.other W46 (Or.inl ne_q_v)
      have V_u_46 := V_u_44.other W46 ne_u_v
      have K46 : Keep h0 h46 [q, u, v] := K44.wr W46 (Or.inl (List.mem_of_getElem? (i := 2) rfl))
      show Go _ _ _ _ _ _ _ T46 (mkF m 162 #[.val (.ref q), .val (.int (Lp (a 0))), .val (.double (T (a 3))), .second, .val (.int (Lp (a 3))), .val (.int (1 : Int32)), .val (.int (3 : Int32))] [])
      refine Go.step (fun _ k => XS.iloadN X46.here hx rfl (hb hby d4_162) rfl k) ?_
      show Go _ _ _ _ _ _ _ T46 (mkF m 163 #[.val (.ref q), .val (.int (Lp (a 0))), .val (.double (T (a 3))), .second, .val (.int (Lp (a 3))), .val (.int (1 : Int32)), .val (.int (3 : Int32))] [(.int (Lp (a 0)))])
      refine Go.retI X46 hx hlk hret (hb hby d4_163) (by decide) (by decide) ?_
      try rw [e46]
      have := own_nltK hT hd89_12
      have := own_ngeK hT hd104_31
      refine ⟨rfl, N46, K46, E_q_46, F_size_q_46, F_times_q_46, F_lightpaths_q_46, _, _, (updN (updN a 0 (a 1)) 1 (a 3)), V_u_46, V_v_46, fun i hi' => by rcases (by omega : i = 0 ∨ i = 1 ∨ i = 2) with rfl | rfl | rfl <;> first | rfl | simp [updN, hg0, hg1, hg2, hg3, hl0, hl1, hl2, hl3], fun i hi' => by rcases (by omega : i = 0 ∨ i = 1 ∨ i = 2) with rfl | rfl | rfl <;> first | rfl | simp [updN, hg0, hg1, hg2, hg3, hl0, hl1, hl2, hl3], ?_, ?_, fun P hP => ?_⟩
      · simp only [HI, updN]; try simp; try omega
      · exact ⟨fun i hi' => by rcases (by omega : i = 0 ∨ i = 1 ∨ i = 2) with rfl | rfl | rfl <;> simp [updN] <;> omega, fun w => by simp [sumA, updN]; try omega⟩
      · intro i hi'; rcases (by omega : i = 0 ∨ i = 1 ∨ i = 2) with rfl | rfl | rfl <;> simp [updN] <;> exact hP _ (by decide)
theorem ef_rm_rem4 (m : MethodId) (q : Addr) : entryFrame m #[(.ref q)] 7 = mkF m 0 #[.val (.ref q), .unset, .unset, .unset, .unset, .unset, .unset] [] := by first | (simp [entryFrame, mkF, argsToLocals, Value.category]; done) | rfl
theorem rm_rem4 (l : Launch) (Z : State) (a0 : Array Value) (hw : ∀ d ∈ tables_1, d.before a0 Z = true) (q u v : Addr) (g : Nat → UInt64) (l' : Nat → Int32) (T : Nat → UInt64) (Lp : Nat → Int32) (K : Nat → Int) (a : Nat → Nat) (h0 : Heap) (n0 : Nat) (Z0 : n0 ≤ h0.size) (E_q : Exa Z h0 q "com/example/wavegrade/wavegrade/DepartureQueue") (F_size_q : Fld Z h0 q "com/example/wavegrade/wavegrade/DepartureQueue" "size" "I" (.int (4 : Int32))) (F_times_q : Fld Z h0 q "com/example/wavegrade/wavegrade/DepartureQueue" "times" "[D" (.ref u)) (F_lightpaths_q : Fld Z h0 q "com/example/wavegrade/wavegrade/DepartureQueue" "lightpaths" "[I" (.ref v)) (V_u : Dv Z h0 u (64 : Int32) g) (V_v : Iv Z h0 v (64 : Int32) l') (ne_q_u : q ≠ u) (ne_q_v : q ≠ v) (ne_u_v : u ≠ v) (ge_q : n0 ≤ q) (ge_u : n0 ≤ u) (ge_v : n0 ≤ v) (hT : ∀ x y, FP.dcmp (T x) (T y) = some (compare (K x) (K y))) (hg : ∀ i, i < 4 → g i = T (a i)) (hl : ∀ i, i < 4 → l' i = Lp (a i)) (hi : HI K a 4) :
    Con l Z (⟨"com/example/wavegrade/wavegrade/DepartureQueue", "removeFirst", "()I"⟩ : MethodName) prog_1_method_5_code 7 (some .int) ({ frames := 0, cells := 0, slots := 0, locals := 0 } : Room) #[(.ref q)] h0 (fun r h L => r = some (.int (Lp (a 0))) ∧ Fr n0 L ∧ Keep h0 h [q, u, v] ∧ Exa Z h q "com/example/wavegrade/wavegrade/DepartureQueue" ∧ Fld Z h q "com/example/wavegrade/wavegrade/DepartureQueue" "size" "I" (.int (3 : Int32)) ∧ Fld Z h q "com/example/wavegrade/wavegrade/DepartureQueue" "times" "[D" (.ref u) ∧ Fld Z h q "com/example/wavegrade/wavegrade/DepartureQueue" "lightpaths" "[I" (.ref v) ∧ ∃ (g2 : Nat → UInt64) (l2 : Nat → Int32) (a2 : Nat → Nat), Dv Z h u (64 : Int32) g2 ∧ Iv Z h v (64 : Int32) l2 ∧ (∀ i, i < 3 → g2 i = T (a2 i)) ∧ (∀ i, i < 3 → l2 i = Lp (a2 i)) ∧ HI K a2 3 ∧ ((∀ i, i < 3 → K (a 0) ≤ K (a2 i)) ∧ ∀ w : Nat → Int, sumA w a2 3 + w (a 0) = sumA w a 4) ∧ ∀ P : Nat → Prop, (∀ i, i < 4 → P (a i)) → ∀ i, i < 3 → P (a2 i)) :=
  con_of (plainFor_of_name pn_1) (fun p_ e_ s_ m_ b_ meth_ c_ T_ X_ hx hZ hby hml hown hnm hret hlk e0 => Go.cast (ef_rm_rem4 m_ q) (w_rem4 q u v g l' T Lp K a X_ hx hZ hw hby hml hown hnm hret hlk e0 Z0 (Fr.nil n0) E_q F_size_q F_times_q F_lightpaths_q V_u V_v ne_q_u ne_q_v ne_u_v ge_q ge_u ge_v hT hg hl hi))
set_option maxRecDepth 65536 in
set_option maxHeartbeats 40000000 in
theorem w_rem3 {p : Program} {l : Launch} {e : Env} {s : State} {m : MethodId} {args : Array Value} {below : List Frame} {meth : Method} {c_ : Code} {T0 : State} {locs : List Loc} {Z : State} {a0 : Array Value} {h0 : Heap} {n0 : Nat} (q u v : Addr) (g : Nat → UInt64) (l' : Nat → Int32) (T : Nat → UInt64) (Lp : Nat → Int32) (K : Nat → Int) (a : Nat → Nat)
    (X0 : Stand p l e ({ frames := 0, cells := 0, slots := 0, locals := 0 } : Room) s m args below meth c_ T0 locs 0 0) (hx : p.tables.exec = Jvm.exec) (hZ : Z.Warmed39 s.vm) (hw : ∀ d ∈ tables_1, d.before a0 Z = true) (hby : c_.code = prog_1_method_5_code) (hml : c_.maxLocals = 7) (hown : s.vm.findClass "com/example/wavegrade/wavegrade/DepartureQueue" = some m.cls) (hnm : meth.name = "removeFirst") (hret : meth.sig.returnType = some .int) (hlk : meth.locks = false) (e0 : T0.heap = h0) (Z0 : n0 ≤ h0.size) (N0 : Fr n0 locs) (E_q : Exa Z h0 q "com/example/wavegrade/wavegrade/DepartureQueue") (F_size_q : Fld Z h0 q "com/example/wavegrade/wavegrade/DepartureQueue" "size" "I" (.int (3 : Int32))) (F_times_q : Fld Z h0 q "com/example/wavegrade/wavegrade/DepartureQueue" "times" "[D" (.ref u)) (F_lightpaths_q : Fld Z h0 q "com/example/wavegrade/wavegrade/DepartureQueue" "lightpaths" "[I" (.ref v)) (V_u : Dv Z h0 u (64 : Int32) g) (V_v : Iv Z h0 v (64 : Int32) l') (ne_q_u : q ≠ u) (ne_q_v : q ≠ v) (ne_u_v : u ≠ v) (ge_q : n0 ≤ q) (ge_u : n0 ≤ u) (ge_v : n0 ≤ v) (hT : ∀ x y, FP.dcmp (T x) (T y) = some (compare (K x) (K y))) (hg : ∀ i, i < 3 → g i = T (a i)) (hl : ∀ i, i < 3 → l' i = Lp (a i)) (hi : HI K a 3) :
    Go p e below s ({ frames := 0, cells := 0, slots := 0, locals := 0 } : Room).cells ({ frames := 0, cells := 0, slots := 0, locals := 0 } : Room).slots (fun r h L => r = some (.int (Lp (a 0))) ∧ Fr n0 L ∧ Keep h0 h [q, u, v] ∧ Exa Z h q "com/example/wavegrade/wavegrade/DepartureQueue" ∧ Fld Z h q "com/example/wavegrade/wavegrade/DepartureQueue" "size" "I" (.int (2 : Int32)) ∧ Fld Z h q "com/example/wavegrade/wavegrade/DepartureQueue" "times" "[D" (.ref u) ∧ Fld Z h q "com/example/wavegrade/wavegrade/DepartureQueue" "lightpaths" "[I" (.ref v) ∧ ∃ (g2 : Nat → UInt64) (l2 : Nat → Int32) (a2 : Nat → Nat), Dv Z h u (64 : Int32) g2 ∧ Iv Z h v (64 : Int32) l2 ∧ (∀ i, i < 2 → g2 i = T (a2 i)) ∧ (∀ i, i < 2 → l2 i = Lp (a2 i)) ∧ HI K a2 2 ∧ ((∀ i, i < 2 → K (a 0) ≤ K (a2 i)) ∧ ∀ w : Nat → Int, sumA w a2 2 + w (a 0) = sumA w a 3) ∧ ∀ P : Nat → Prop, (∀ i, i < 3 → P (a i)) → ∀ i, i < 2 → P (a2 i)) T0 (mkF m 0 #[.val (.ref q), .unset, .unset, .unset, .unset, .unset, .unset] []) := by
  have hg0 := hg 0 (by decide)
  have hg1 := hg 1 (by decide)
  have hg2 := hg 2 (by decide)
  have hl0 := hl 0 (by decide)
  have hl1 := hl 1 (by decide)
  have hl2 := hl 2 (by decide)
  simp only [HI] at hi
  show Go _ _ _ _ _ _ _ T0 (mkF m 0 #[.val (.ref q), .unset, .unset, .unset, .unset, .unset, .unset] [])
  refine Go.step (fun _ k => XS.aloadN X0.here hx rfl (hb hby d4_0) rfl rfl k) ?_
  show Go _ _ _ _ _ _ _ T0 (mkF m 1 #[.val (.ref q), .unset, .unset, .unset, .unset, .unset, .unset] [(.ref q)])
  obtain ⟨T1, X1, e1, st1⟩ := getF X0 hx hZ hown (host := "") (Or.inl (hw _ (List.mem_of_getElem? (i := 13) rfl))) Via.refl e0 F_lightpaths_q (g := (mkF m 1 #[.val (.ref q), .unset, .unset, .unset, .unset, .unset, .unset] [(.ref q)])) rfl rfl (hb hby d4_1)
  refine Go.step st1 ?_
  show Go _ _ _ _ _ _ _ T1 (mkF m 4 #[.val (.ref q), .unset, .unset, .unset, .unset, .unset, .unset] [(.ref v)])
  refine Go.step (fun _ k => XS.iconst X1.here hx rfl (hb hby d4_4) k) ?_
  show Go _ _ _ _ _ _ _ T1 (mkF m 5 #[.val (.ref q), .unset, .unset, .unset, .unset, .unset, .unset] [(.int (0 : Int32)), (.ref v)])
  refine Go.iaload X1 hx hZ e1 V_v (j := (0 : Int32)) (v := (Lp (a 0))) (by decide) (by first | rfl | simp [updN, hg0, hg1, hg2, hl0, hl1, hl2]) (hb hby d4_5) ?_
  show Go _ _ _ _ _ _ _ T1 (mkF m 6 #[.val (.ref q), .unset, .unset, .unset, .unset, .unset, .unset] [(.int (Lp (a 0)))])
  refine Go.step (fun _ k => XS.istoreN X1.here hx rfl (hb hby d4_6) rfl (l' := #[.val (.ref q), .val (.int (Lp (a 0))), .unset, .unset, .unset, .unset, .unset]) rfl k) ?_
  show Go _ _ _ _ _ _ _ T1 (mkF m 7 #[.val (.ref q), .val (.int (Lp (a 0))), .unset, .unset, .unset, .unset, .unset] [])
  refine Go.step (fun _ k => XS.aloadN X1.here hx rfl (hb hby d4_7) rfl rfl k) ?_
  show Go _ _ _ _ _ _ _ T1 (mkF m 8 #[.val (.ref q), .val (.int (Lp (a 0))), .unset, .unset, .unset, .unset, .unset] [(.ref q)])
  refine Go.step (fun _ k => XS.dup X1.here hx rfl (hb hby d4_8) rfl rfl k) ?_
  show Go _ _ _ _ _ _ _ T1 (mkF m 9 #[.val (.ref q), .val (.int (Lp (a 0))), .unset, .unset, .unset, .unset, .unset] [(.ref q), (.ref q)])
  obtain ⟨T2, X2, e2, st2⟩ := getF X1 hx hZ hown (host := "") (Or.inl (hw _ (List.mem_of_getElem? (i := 20) rfl))) Via.refl e1 F_size_q (g := (mkF m 9 #[.val (.ref q), .val (.int (Lp (a 0))), .unset, .unset, .unset, .unset, .unset] [(.ref q), (.ref q)])) rfl rfl (hb hby d4_9)
  refine Go.step st2 ?_
  show Go _ _ _ _ _ _ _ T2 (mkF m 12 #[.val (.ref q), .val (.int (Lp (a 0))), .unset, .unset, .unset, .unset, .unset] [(.int (3 : Int32)), (.ref q)])
  refine Go.step (fun _ k => XS.iconst X2.here hx rfl (hb hby d4_12) k) ?_
  show Go _ _ _ _ _ _ _ T2 (mkF m 13 #[.val (.ref q), .val (.int (Lp (a 0))), .unset, .unset, .unset, .unset, .unset] [(.int (1 : Int32)), (.int (3 : Int32)), (.ref q)])
  refine Go.step (fun _ k => XS.isub X2.here hx rfl (hb hby d4_13) rfl k) ?_
  show Go _ _ _ _ _ _ _ T2 (mkF m 14 #[.val (.ref q), .val (.int (Lp (a 0))), .unset, .unset, .unset, .unset, .unset] [(.int (2 : Int32)), (.ref q)])
  obtain ⟨T3, h3, X3, e3, W3, st3⟩ := putF X2 hx hZ hown (host := "") (Or.inl (hw _ (List.mem_of_getElem? (i := 20) rfl))) Via.refl e2 F_size_q E_q (Or.inl (hw _ (List.mem_of_getElem? (i := 21) rfl))) (hw _ (List.mem_of_getElem? (i := 2) rfl)) (ty := .int) (by decide) rfl rfl (g := (mkF m 14 #[.val (.ref q), .val (.int (Lp (a 0))), .unset, .unset, .unset, .unset, .unset] [(.int (2 : Int32)), (.ref q)])) rfl rfl (hb hby d4_14)
  refine Go.step st3 ?_
  have N3 := Fr.snoc X3 N0 ge_q
  have F_size_q_3 := F_size_q.same W3
  have E_q_3 := E_q.wr W3
  have F_times_q_3 := F_times_q.other W3 (Or.inr (slot_ne (Or.inl (hw _ (List.mem_of_getElem? (i := 12) rfl))) (Or.inl (hw _ (List.mem_of_getElem? (i := 21) rfl))) (by decide) (t := (.array .double)) (t' := .int) (by decide) (by decide)))
  have F_lightpaths_q_3 := F_lightpaths_q.other W3 (Or.inr (slot_ne (Or.inl (hw _ (List.mem_of_getElem? (i := 14) rfl))) (Or.inl (hw _ (List.mem_of_getElem? (i := 21) rfl))) (by decide) (t := (.array .int)) (t' := .int) (by decide) (by decide)))
  have V_u_3 := V_u.other W3 (Ne.symm ne_q_u)
  have V_v_3 := V_v.other W3 (Ne.symm ne_q_v)
  have K3 : Keep h0 h3 [q, u, v] := (Keep.refl h0 [q, u, v]).wr W3 (Or.inl (List.mem_of_getElem? (i := 0) rfl))
  show Go _ _ _ _ _ _ _ T3 (mkF m 17 #[.val (.ref q), .val (.int (Lp (a 0))), .unset, .unset, .unset, .unset, .unset] [])
  refine Go.step (fun _ k => XS.aloadN X3.here hx rfl (hb hby d4_17) rfl rfl k) ?_
  show Go _ _ _ _ _ _ _ T3 (mkF m 18 #[.val (.ref q), .val (.int (Lp (a 0))), .unset, .unset, .unset, .unset, .unset] [(.ref q)])
  obtain ⟨T4, X4, e4, st4⟩ := getF X3 hx hZ hown (host := "") (Or.inl (hw _ (List.mem_of_getElem? (i := 11) rfl))) Via.refl e3 F_times_q_3 (g := (mkF m 18 #[.val (.ref q), .val (.int (Lp (a 0))), .unset, .unset, .unset, .unset, .unset] [(.ref q)])) rfl rfl (hb hby d4_18)
  refine Go.step st4 ?_
  show Go _ _ _ _ _ _ _ T4 (mkF m 21 #[.val (.ref q), .val (.int (Lp (a 0))), .unset, .unset, .unset, .unset, .unset] [(.ref u)])
  refine Go.step (fun _ k => XS.aloadN X4.here hx rfl (hb hby d4_21) rfl rfl k) ?_
  show Go _ _ _ _ _ _ _ T4 (mkF m 22 #[.val (.ref q), .val (.int (Lp (a 0))), .unset, .unset, .unset, .unset, .unset] [(.ref q), (.ref u)])
  obtain ⟨T5, X5, e5, st5⟩ := getF X4 hx hZ hown (host := "") (Or.inl (hw _ (List.mem_of_getElem? (i := 20) rfl))) Via.refl e4 F_size_q_3 (g := (mkF m 22 #[.val (.ref q), .val (.int (Lp (a 0))), .unset, .unset, .unset, .unset, .unset] [(.ref q), (.ref u)])) rfl rfl (hb hby d4_22)
  refine Go.step st5 ?_
  show Go _ _ _ _ _ _ _ T5 (mkF m 25 #[.val (.ref q), .val (.int (Lp (a 0))), .unset, .unset, .unset, .unset, .unset] [(.int (2 : Int32)), (.ref u)])
  refine Go.daload X5 hx hZ e5 V_u_3 (j := (2 : Int32)) (v := (T (a 2))) (by decide) (by first | rfl | simp [updN, hg0, hg1, hg2, hl0, hl1, hl2]) (hb hby d4_25) ?_
  show Go _ _ _ _ _ _ _ T5 (mkF m 26 #[.val (.ref q), .val (.int (Lp (a 0))), .unset, .unset, .unset, .unset, .unset] [(.double (T (a 2)))])
  refine Go.step (fun _ k => XS.dstoreN X5.here hx rfl (hb hby d4_26) rfl (l' := #[.val (.ref q), .val (.int (Lp (a 0))), .val (.double (T (a 2))), .second, .unset, .unset, .unset]) rfl k) ?_
  show Go _ _ _ _ _ _ _ T5 (mkF m 27 #[.val (.ref q), .val (.int (Lp (a 0))), .val (.double (T (a 2))), .second, .unset, .unset, .unset] [])
  refine Go.step (fun _ k => XS.aloadN X5.here hx rfl (hb hby d4_27) rfl rfl k) ?_
  show Go _ _ _ _ _ _ _ T5 (mkF m 28 #[.val (.ref q), .val (.int (Lp (a 0))), .val (.double (T (a 2))), .second, .unset, .unset, .unset] [(.ref q)])
  obtain ⟨T6, X6, e6, st6⟩ := getF X5 hx hZ hown (host := "") (Or.inl (hw _ (List.mem_of_getElem? (i := 13) rfl))) Via.refl e5 F_lightpaths_q_3 (g := (mkF m 28 #[.val (.ref q), .val (.int (Lp (a 0))), .val (.double (T (a 2))), .second, .unset, .unset, .unset] [(.ref q)])) rfl rfl (hb hby d4_28)
  refine Go.step st6 ?_
  show Go _ _ _ _ _ _ _ T6 (mkF m 31 #[.val (.ref q), .val (.int (Lp (a 0))), .val (.double (T (a 2))), .second, .unset, .unset, .unset] [(.ref v)])
  refine Go.step (fun _ k => XS.aloadN X6.here hx rfl (hb hby d4_31) rfl rfl k) ?_
  show Go _ _ _ _ _ _ _ T6 (mkF m 32 #[.val (.ref q), .val (.int (Lp (a 0))), .val (.double (T (a 2))), .second, .unset, .unset, .unset] [(.ref q), (.ref v)])
  obtain ⟨T7, X7, e7, st7⟩ := getF X6 hx hZ hown (host := "") (Or.inl (hw _ (List.mem_of_getElem? (i := 20) rfl))) Via.refl e6 F_size_q_3 (g := (mkF m 32 #[.val (.ref q), .val (.int (Lp (a 0))), .val (.double (T (a 2))), .second, .unset, .unset, .unset] [(.ref q), (.ref v)])) rfl rfl (hb hby d4_32)
  refine Go.step st7 ?_
  show Go _ _ _ _ _ _ _ T7 (mkF m 35 #[.val (.ref q), .val (.int (Lp (a 0))), .val (.double (T (a 2))), .second, .unset, .unset, .unset] [(.int (2 : Int32)), (.ref v)])
  refine Go.iaload X7 hx hZ e7 V_v_3 (j := (2 : Int32)) (v := (Lp (a 2))) (by decide) (by first | rfl | simp [updN, hg0, hg1, hg2, hl0, hl1, hl2]) (hb hby d4_35) ?_
  show Go _ _ _ _ _ _ _ T7 (mkF m 36 #[.val (.ref q), .val (.int (Lp (a 0))), .val (.double (T (a 2))), .second, .unset, .unset, .unset] [(.int (Lp (a 2)))])
  refine Go.step (fun _ k => XS.istore X7.here hx rfl (hb hby d4_36) rfl (l' := #[.val (.ref q), .val (.int (Lp (a 0))), .val (.double (T (a 2))), .second, .val (.int (Lp (a 2))), .unset, .unset]) rfl k) ?_
  show Go _ _ _ _ _ _ _ T7 (mkF m 38 #[.val (.ref q), .val (.int (Lp (a 0))), .val (.double (T (a 2))), .second, .val (.int (Lp (a 2))), .unset, .unset] [])
  refine Go.step (fun _ k => XS.iconst X7.here hx rfl (hb hby d4_38) k) ?_
  show Go _ _ _ _ _ _ _ T7 (mkF m 39 #[.val (.ref q), .val (.int (Lp (a 0))), .val (.double (T (a 2))), .second, .val (.int (Lp (a 2))), .unset, .unset] [(.int (0 : Int32))])
  refine Go.step (fun _ k => XS.istore X7.here hx rfl (hb hby d4_39) rfl (l' := #[.val (.ref q), .val (.int (Lp (a 0))), .val (.double (T (a 2))), .second, .val (.int (Lp (a 2))), .val (.int (0 : Int32)), .unset]) rfl k) ?_
  show Go _ _ _ _ _ _ _ T7 (mkF m 41 #[.val (.ref q), .val (.int (Lp (a 0))), .val (.double (T (a 2))), .second, .val (.int (Lp (a 2))), .val (.int (0 : Int32)), .unset] [])
  refine Go.step (fun _ k => XS.iconst X7.here hx rfl (hb hby d4_41) k) ?_
  show Go _ _ _ _ _ _ _ T7 (mkF m 42 #[.val (.ref q), .val (.int (Lp (a 0))), .val (.double (T (a 2))), .second, .val (.int (Lp (a 2))), .val (.int (0 : Int32)), .unset] [(.int (2 : Int32))])
  refine Go.step (fun _ k => XS.iload X7.here hx rfl (hb hby d4_42) rfl k) ?_
  show Go _ _ _ _ _ _ _ T7 (mkF m 44 #[.val (.ref q), .val (.int (Lp (a 0))), .val (.double (T (a 2))), .second, .val (.int (Lp (a 2))), .val (.int (0 : Int32)), .unset] [(.int (0 : Int32)), (.int (2 : Int32))])
  refine Go.step (fun _ k => XS.imul X7.here hx rfl (hb hby d4_44) rfl k) ?_
  show Go _ _ _ _ _ _ _ T7 (mkF m 45 #[.val (.ref q), .val (.int (Lp (a 0))), .val (.double (T (a 2))), .second, .val (.int (Lp (a 2))), .val (.int (0 : Int32)), .unset] [(.int (0 : Int32))])
  refine Go.step (fun _ k => XS.iconst X7.here hx rfl (hb hby d4_45) k) ?_
  show Go _ _ _ _ _ _ _ T7 (mkF m 46 #[.val (.ref q), .val (.int (Lp (a 0))), .val (.double (T (a 2))), .second, .val (.int (Lp (a 2))), .val (.int (0 : Int32)), .unset] [(.int (1 : Int32)), (.int (0 : Int32))])
  refine Go.step (fun _ k => XS.iadd X7.here hx rfl (hb hby d4_46) rfl k) ?_
  show Go _ _ _ _ _ _ _ T7 (mkF m 47 #[.val (.ref q), .val (.int (Lp (a 0))), .val (.double (T (a 2))), .second, .val (.int (Lp (a 2))), .val (.int (0 : Int32)), .unset] [(.int (1 : Int32))])
  refine Go.step (fun _ k => XS.istore X7.here hx rfl (hb hby d4_47) rfl (l' := #[.val (.ref q), .val (.int (Lp (a 0))), .val (.double (T (a 2))), .second, .val (.int (Lp (a 2))), .val (.int (0 : Int32)), .val (.int (1 : Int32))]) rfl k) ?_
  show Go _ _ _ _ _ _ _ T7 (mkF m 49 #[.val (.ref q), .val (.int (Lp (a 0))), .val (.double (T (a 2))), .second, .val (.int (Lp (a 2))), .val (.int (0 : Int32)), .val (.int (1 : Int32))] [])
  refine Go.step (fun _ k => XS.iload X7.here hx rfl (hb hby d4_49) rfl k) ?_
  show Go _ _ _ _ _ _ _ T7 (mkF m 51 #[.val (.ref q), .val (.int (Lp (a 0))), .val (.double (T (a 2))), .second, .val (.int (Lp (a 2))), .val (.int (0 : Int32)), .val (.int (1 : Int32))] [(.int (1 : Int32))])
  refine Go.step (fun _ k => XS.aloadN X7.here hx rfl (hb hby d4_51) rfl rfl k) ?_
  show Go _ _ _ _ _ _ _ T7 (mkF m 52 #[.val (.ref q), .val (.int (Lp (a 0))), .val (.double (T (a 2))), .second, .val (.int (Lp (a 2))), .val (.int (0 : Int32)), .val (.int (1 : Int32))] [(.ref q), (.int (1 : Int32))])
  obtain ⟨T8, X8, e8, st8⟩ := getF X7 hx hZ hown (host := "") (Or.inl (hw _ (List.mem_of_getElem? (i := 20) rfl))) Via.refl e7 F_size_q_3 (g := (mkF m 52 #[.val (.ref q), .val (.int (Lp (a 0))), .val (.double (T (a 2))), .second, .val (.int (Lp (a 2))), .val (.int (0 : Int32)), .val (.int (1 : Int32))] [(.ref q), (.int (1 : Int32))])) rfl rfl (hb hby d4_52)
  refine Go.step st8 ?_
  show Go _ _ _ _ _ _ _ T8 (mkF m 55 #[.val (.ref q), .val (.int (Lp (a 0))), .val (.double (T (a 2))), .second, .val (.int (Lp (a 2))), .val (.int (0 : Int32)), .val (.int (1 : Int32))] [(.int (2 : Int32)), (.int (1 : Int32))])
  refine Go.step (fun _ k => XS.icmpYes X8.here hx rfl (pc0 := 55) (pc' := 61) rfl (hb hby d4_55) rfl (tlt (by decide : (1 : Int32) < (2 : Int32))).1 (by decide) (by decide) k) ?_
  show Go _ _ _ _ _ _ _ T8 (mkF m 61 #[.val (.ref q), .val (.int (Lp (a 0))), .val (.double (T (a 2))), .second, .val (.int (Lp (a 2))), .val (.int (0 : Int32)), .val (.int (1 : Int32))] [])
  refine Go.step (fun _ k => XS.iload X8.here hx rfl (hb hby d4_61) rfl k) ?_
  show Go _ _ _ _ _ _ _ T8 (mkF m 63 #[.val (.ref q), .val (.int (Lp (a 0))), .val (.double (T (a 2))), .second, .val (.int (Lp (a 2))), .val (.int (0 : Int32)), .val (.int (1 : Int32))] [(.int (1 : Int32))])
  refine Go.step (fun _ k => XS.iconst X8.here hx rfl (hb hby d4_63) k) ?_
  show Go _ _ _ _ _ _ _ T8 (mkF m 64 #[.val (.ref q), .val (.int (Lp (a 0))), .val (.double (T (a 2))), .second, .val (.int (Lp (a 2))), .val (.int (0 : Int32)), .val (.int (1 : Int32))] [(.int (1 : Int32)), (.int (1 : Int32))])
  refine Go.step (fun _ k => XS.iadd X8.here hx rfl (hb hby d4_64) rfl k) ?_
  show Go _ _ _ _ _ _ _ T8 (mkF m 65 #[.val (.ref q), .val (.int (Lp (a 0))), .val (.double (T (a 2))), .second, .val (.int (Lp (a 2))), .val (.int (0 : Int32)), .val (.int (1 : Int32))] [(.int (2 : Int32))])
  refine Go.step (fun _ k => XS.aloadN X8.here hx rfl (hb hby d4_65) rfl rfl k) ?_
  show Go _ _ _ _ _ _ _ T8 (mkF m 66 #[.val (.ref q), .val (.int (Lp (a 0))), .val (.double (T (a 2))), .second, .val (.int (Lp (a 2))), .val (.int (0 : Int32)), .val (.int (1 : Int32))] [(.ref q), (.int (2 : Int32))])
  obtain ⟨T9, X9, e9, st9⟩ := getF X8 hx hZ hown (host := "") (Or.inl (hw _ (List.mem_of_getElem? (i := 20) rfl))) Via.refl e8 F_size_q_3 (g := (mkF m 66 #[.val (.ref q), .val (.int (Lp (a 0))), .val (.double (T (a 2))), .second, .val (.int (Lp (a 2))), .val (.int (0 : Int32)), .val (.int (1 : Int32))] [(.ref q), (.int (2 : Int32))])) rfl rfl (hb hby d4_66)
  refine Go.step st9 ?_
  show Go _ _ _ _ _ _ _ T9 (mkF m 69 #[.val (.ref q), .val (.int (Lp (a 0))), .val (.double (T (a 2))), .second, .val (.int (Lp (a 2))), .val (.int (0 : Int32)), .val (.int (1 : Int32))] [(.int (2 : Int32)), (.int (2 : Int32))])
  refine Go.step (fun _ k => XS.icmpYes X9.here hx rfl (pc0 := 69) (pc' := 95) rfl (hb hby d4_69) rfl (flt (by decide : ¬ ((2 : Int32) < (2 : Int32)))).2.1 (by decide) (by decide) k) ?_
  show Go _ _ _ _ _ _ _ T9 (mkF m 95 #[.val (.ref q), .val (.int (Lp (a 0))), .val (.double (T (a 2))), .second, .val (.int (Lp (a 2))), .val (.int (0 : Int32)), .val (.int (1 : Int32))] [])
  refine Go.step (fun _ k => XS.aloadN X9.here hx rfl (hb hby d4_95) rfl rfl k) ?_
  show Go _ _ _ _ _ _ _ T9 (mkF m 96 #[.val (.ref q), .val (.int (Lp (a 0))), .val (.double (T (a 2))), .second, .val (.int (Lp (a 2))), .val (.int (0 : Int32)), .val (.int (1 : Int32))] [(.ref q)])
  obtain ⟨T10, X10, e10, st10⟩ := getF X9 hx hZ hown (host := "") (Or.inl (hw _ (List.mem_of_getElem? (i := 11) rfl))) Via.refl e9 F_times_q_3 (g := (mkF m 96 #[.val (.ref q), .val (.int (Lp (a 0))), .val (.double (T (a 2))), .second, .val (.int (Lp (a 2))), .val (.int (0 : Int32)), .val (.int (1 : Int32))] [(.ref q)])) rfl rfl (hb hby d4_96)
  refine Go.step st10 ?_
  show Go _ _ _ _ _ _ _ T10 (mkF m 99 #[.val (.ref q), .val (.int (Lp (a 0))), .val (.double (T (a 2))), .second, .val (.int (Lp (a 2))), .val (.int (0 : Int32)), .val (.int (1 : Int32))] [(.ref u)])
  refine Go.step (fun _ k => XS.iload X10.here hx rfl (hb hby d4_99) rfl k) ?_
  show Go _ _ _ _ _ _ _ T10 (mkF m 101 #[.val (.ref q), .val (.int (Lp (a 0))), .val (.double (T (a 2))), .second, .val (.int (Lp (a 2))), .val (.int (0 : Int32)), .val (.int (1 : Int32))] [(.int (1 : Int32)), (.ref u)])
  refine Go.daload X10 hx hZ e10 V_u_3 (j := (1 : Int32)) (v := (T (a 1))) (by decide) (by first | rfl | simp [updN, hg0, hg1, hg2, hl0, hl1, hl2]) (hb hby d4_101) ?_
  show Go _ _ _ _ _ _ _ T10 (mkF m 102 #[.val (.ref q), .val (.int (Lp (a 0))), .val (.double (T (a 2))), .second, .val (.int (Lp (a 2))), .val (.int (0 : Int32)), .val (.int (1 : Int32))] [(.double (T (a 1)))])
  refine Go.step (fun _ k => XS.dloadN X10.here hx rfl (hb hby d4_102) rfl k) ?_
  show Go _ _ _ _ _ _ _ T10 (mkF m 103 #[.val (.ref q), .val (.int (Lp (a 0))), .val (.double (T (a 2))), .second, .val (.int (Lp (a 2))), .val (.int (0 : Int32)), .val (.int (1 : Int32))] [(.double (T (a 2))), (.double (T (a 1)))])
  refine Go.step (fun _ k => XS.dcmpS X10.here hx rfl (hb hby d4_103) rfl rfl k) ?_
  show Go _ _ _ _ _ _ _ T10 (mkF m 104 #[.val (.ref q), .val (.int (Lp (a 0))), .val (.double (T (a 2))), .second, .val (.int (Lp (a 2))), .val (.int (0 : Int32)), .val (.int (1 : Int32))] [(.int (cmpValue (FP.dcmp (T (a 1)) (T (a 2))) .l))])
  by_cases hd104_11 : (FP.dcmp (T (a 1)) (T (a 2)) = some .gt ∨ FP.dcmp (T (a 1)) (T (a 2)) = some .eq)
  · refine Go.step (fun _ k => XS.ifNo X10.here hx rfl (hb hby d4_104) rfl (ge_y hd104_11) k) ?_
    show Go _ _ _ _ _ _ _ T10 (mkF m 107 #[.val (.ref q), .val (.int (Lp (a 0))), .val (.double (T (a 2))), .second, .val (.int (Lp (a 2))), .val (.int (0 : Int32)), .val (.int (1 : Int32))] [])
    refine Go.step (fun _ k => XS.goto X10.here hx rfl (pc0 := 107) (pc' := 145) rfl (hb hby d4_107) (by decide) (by decide) k) ?_
    show Go _ _ _ _ _ _ _ T10 (mkF m 145 #[.val (.ref q), .val (.int (Lp (a 0))), .val (.double (T (a 2))), .second, .val (.int (Lp (a 2))), .val (.int (0 : Int32)), .val (.int (1 : Int32))] [])
    refine Go.step (fun _ k => XS.aloadN X10.here hx rfl (hb hby d4_145) rfl rfl k) ?_
    show Go _ _ _ _ _ _ _ T10 (mkF m 146 #[.val (.ref q), .val (.int (Lp (a 0))), .val (.double (T (a 2))), .second, .val (.int (Lp (a 2))), .val (.int (0 : Int32)), .val (.int (1 : Int32))] [(.ref q)])
    obtain ⟨T12, X12, e12, st12⟩ := getF X10 hx hZ hown (host := "") (Or.inl (hw _ (List.mem_of_getElem? (i := 11) rfl))) Via.refl e10 F_times_q_3 (g := (mkF m 146 #[.val (.ref q), .val (.int (Lp (a 0))), .val (.double (T (a 2))), .second, .val (.int (Lp (a 2))), .val (.int (0 : Int32)), .val (.int (1 : Int32))] [(.ref q)])) rfl rfl (hb hby d4_146)
    refine Go.step st12 ?_
    show Go _ _ _ _ _ _ _ T12 (mkF m 149 #[.val (.ref q), .val (.int (Lp (a 0))), .val (.double (T (a 2))), .second, .val (.int (Lp (a 2))), .val (.int (0 : Int32)), .val (.int (1 : Int32))] [(.ref u)])
    refine Go.step (fun _ k => XS.iload X12.here hx rfl (hb hby d4_149) rfl k) ?_
    show Go _ _ _ _ _ _ _ T12 (mkF m 151 #[.val (.ref q), .val (.int (Lp (a 0))), .val (.double (T (a 2))), .second, .val (.int (Lp (a 2))), .val (.int (0 : Int32)), .val (.int (1 : Int32))] [(.int (0 : Int32)), (.ref u)])
    refine Go.step (fun _ k => XS.dloadN X12.here hx rfl (hb hby d4_151) rfl k) ?_
    show Go _ _ _ _ _ _ _ T12 (mkF m 152 #[.val (.ref q), .val (.int (Lp (a 0))), .val (.double (T (a 2))), .second, .val (.int (Lp (a 2))), .val (.int (0 : Int32)), .val (.int (1 : Int32))] [(.double (T (a 2))), (.int (0 : Int32)), (.ref u)])
    refine Go.dastore X12 hx hZ e12 V_u_3 (j := (0 : Int32)) (x := (T (a 2))) (by decide) (hb hby d4_152) ?_
    intro T13 h13 X13 e13 W13 Vn13
    have V_u_13 : Dv Z h13 u (64 : Int32) (updN g 0 (T (a 2))) := Vn13
    have N13 := Fr.snoc X13 N3 ge_u
    have E_q_13 := E_q_3.wr W13
    have F_size_q_13 := F_size_q_3.other W13 (Or.inl ne_q_u)
    have F_times_q_13 := F_times_q_3.other W13 (Or.inl ne_q_u)
    have F_lightpaths_q_13 := F_lightpaths_q_3.other W13 (Or.inl ne_q_u)
    have V_v_13 := V_v_3.other W13 (Ne.symm ne_u_v)
    have K13 : Keep h0 h13 [q, u, v] := K3.wr W13 (Or.inl (List.mem_of_getElem? (i := 1) rfl))
    show Go _ _ _ _ _ _ _ T13 (mkF m 153 #[.val (.ref q), .val (.int (Lp (a 0))), .val (.double (T (a 2))), .second, .val (.int (Lp (a 2))), .val (.int (0 : Int32)), .val (.int (1 : Int32))] [])
    refine Go.step (fun _ k => XS.aloadN X13.here hx rfl (hb hby d4_153) rfl rfl k) ?_
    show Go _ _ _ _ _ _ _ T13 (mkF m 154 #[.val (.ref q), .val (.int (Lp (a 0))), .val (.double (T (a 2))), .second, .val (.int (Lp (a 2))), .val (.int (0 : Int32)), .val (.int (1 : Int32))] [(.ref q)])
    obtain ⟨T14, X14, e14, st14⟩ := getF X13 hx hZ hown (host := "") (Or.inl (hw _ (List.mem_of_getElem? (i := 13) rfl))) Via.refl e13 F_lightpaths_q_13 (g := (mkF m 154 #[.val (.ref q), .val (.int (Lp (a 0))), .val (.double (T (a 2))), .second, .val (.int (Lp (a 2))), .val (.int (0 : Int32)), .val (.int (1 : Int32))] [(.ref q)])) rfl rfl (hb hby d4_154)
    refine Go.step st14 ?_
    show Go _ _ _ _ _ _ _ T14 (mkF m 157 #[.val (.ref q), .val (.int (Lp (a 0))), .val (.double (T (a 2))), .second, .val (.int (Lp (a 2))), .val (.int (0 : Int32)), .val (.int (1 : Int32))] [(.ref v)])
    refine Go.step (fun _ k => XS.iload X14.here hx rfl (hb hby d4_157) rfl k) ?_
    show Go _ _ _ _ _ _ _ T14 (mkF m 159 #[.val (.ref q), .val (.int (Lp (a 0))), .val (.double (T (a 2))), .second, .val (.int (Lp (a 2))), .val (.int (0 : Int32)), .val (.int (1 : Int32))] [(.int (0 : Int32)), (.ref v)])
    refine Go.step (fun _ k => XS.iload X14.here hx rfl (hb hby d4_159) rfl k) ?_
    show Go _ _ _ _ _ _ _ T14 (mkF m 161 #[.val (.ref q), .val (.int (Lp (a 0))), .val (.double (T (a 2))), .second, .val (.int (Lp (a 2))), .val (.int (0 : Int32)), .val (.int (1 : Int32))] [(.int (Lp (a 2))), (.int (0 : Int32)), (.ref v)])
    refine Go.iastore X14 hx hZ e14 V_v_13 (j := (0 : Int32)) (x := (Lp (a 2))) (by decide) (hb hby d4_161) ?_
    intro T15 h15 X15 e15 W15 Vn15
    have V_v_15 : Iv Z h15 v (64 : Int32) (updN l' 0 (Lp (a 2))) := Vn15
    have N15 := Fr.snoc X15 N13 ge_v
    have E_q_15 := E_q_13.wr W15
    have F_size_q_15 := F_size_q_13.other W15 (Or.inl ne_q_v)
    have F_times_q_15 := F_times_q_13.other W15 (Or.inl ne_q_v)
    have F_lightpaths_q_15 := F_lightpaths_q_13.other W15 (Or.inl ne_q_v)
    have V_u_15 := V_u_13.other W15 ne_u_v
    have K15 : Keep h0 h15 [q, u, v] := K13.wr W15 (Or.inl (List.mem_of_getElem? (i := 2) rfl))
    show Go _ _ _ _ _ _ _ T15 (mkF m 162 #[.val (.ref q), .val (.int (Lp (a 0))), .val (.double (T (a 2))), .second, .val (.int (Lp (a 2))), .val (.int (0 : Int32)), .val (.int (1 : Int32))] [])
    refine Go.step (fun _ k => XS.iloadN X15.here hx rfl (hb hby d4_162) rfl k) ?_
    show Go _ _ _ _ _ _ _ T15 (mkF m 163 #[.val (.ref q), .val (.int (Lp (a 0))), .val (.double (T (a 2))), .second, .val (.int (Lp (a 2))), .val (.int (0 : Int32)), .val (.int (1 : Int32))] [(.int (Lp (a 0)))])
    refine Go.retI X15 hx hlk hret (hb hby d4_163) (by decide) (by decide) ?_
    try rw [e15]
    have := own_geK hT hd104_11
    refine ⟨rfl, N15, K15, E_q_15, F_size_q_15, F_times_q_15, F_lightpaths_q_15, _, _, (updN a 0 (a 2)), V_u_15, V_v_15, fun i hi' => by rcases (by omega : i = 0 ∨ i = 1) with rfl | rfl <;> first | rfl | simp [updN, hg0, hg1, hg2, hl0, hl1, hl2], fun i hi' => by rcases (by omega : i = 0 ∨ i = 1) with rfl | rfl <;> first | rfl | simp [updN, hg0, hg1, hg2, hl0, hl1, hl2], ?_, ?_, fun P hP => ?_⟩
    · simp only [HI, updN]; try simp; try omega
    · exact ⟨fun i hi' => by rcases (by omega : i = 0 ∨ i = 1) with rfl | rfl <;> simp [updN] <;> omega, fun w => by simp [sumA, updN]; try omega⟩
    · intro i hi'; rcases (by omega : i = 0 ∨ i = 1) with rfl | rfl <;> simp [updN] <;> exact hP _ (by decide)
  · refine Go.step (fun _ k => XS.ifYes X10.here hx rfl (pc0 := 104) (pc' := 110) rfl (hb hby d4_104) rfl (ge_n hd104_11) (by decide) (by decide) k) ?_
    show Go _ _ _ _ _ _ _ T10 (mkF m 110 #[.val (.ref q), .val (.int (Lp (a 0))), .val (.double (T (a 2))), .second, .val (.int (Lp (a 2))), .val (.int (0 : Int32)), .val (.int (1 : Int32))] [])
    refine Go.step (fun _ k => XS.aloadN X10.here hx rfl (hb hby d4_110) rfl rfl k) ?_
    show Go _ _ _ _ _ _ _ T10 (mkF m 111 #[.val (.ref q), .val (.int (Lp (a 0))), .val (.double (T (a 2))), .second, .val (.int (Lp (a 2))), .val (.int (0 : Int32)), .val (.int (1 : Int32))] [(.ref q)])
    obtain ⟨T16, X16, e16, st16⟩ := getF X10 hx hZ hown (host := "") (Or.inl (hw _ (List.mem_of_getElem? (i := 11) rfl))) Via.refl e10 F_times_q_3 (g := (mkF m 111 #[.val (.ref q), .val (.int (Lp (a 0))), .val (.double (T (a 2))), .second, .val (.int (Lp (a 2))), .val (.int (0 : Int32)), .val (.int (1 : Int32))] [(.ref q)])) rfl rfl (hb hby d4_111)
    refine Go.step st16 ?_
    show Go _ _ _ _ _ _ _ T16 (mkF m 114 #[.val (.ref q), .val (.int (Lp (a 0))), .val (.double (T (a 2))), .second, .val (.int (Lp (a 2))), .val (.int (0 : Int32)), .val (.int (1 : Int32))] [(.ref u)])
    refine Go.step (fun _ k => XS.iload X16.here hx rfl (hb hby d4_114) rfl k) ?_
    show Go _ _ _ _ _ _ _ T16 (mkF m 116 #[.val (.ref q), .val (.int (Lp (a 0))), .val (.double (T (a 2))), .second, .val (.int (Lp (a 2))), .val (.int (0 : Int32)), .val (.int (1 : Int32))] [(.int (0 : Int32)), (.ref u)])
    refine Go.step (fun _ k => XS.aloadN X16.here hx rfl (hb hby d4_116) rfl rfl k) ?_
    show Go _ _ _ _ _ _ _ T16 (mkF m 117 #[.val (.ref q), .val (.int (Lp (a 0))), .val (.double (T (a 2))), .second, .val (.int (Lp (a 2))), .val (.int (0 : Int32)), .val (.int (1 : Int32))] [(.ref q), (.int (0 : Int32)), (.ref u)])
    obtain ⟨T17, X17, e17, st17⟩ := getF X16 hx hZ hown (host := "") (Or.inl (hw _ (List.mem_of_getElem? (i := 11) rfl))) Via.refl e16 F_times_q_3 (g := (mkF m 117 #[.val (.ref q), .val (.int (Lp (a 0))), .val (.double (T (a 2))), .second, .val (.int (Lp (a 2))), .val (.int (0 : Int32)), .val (.int (1 : Int32))] [(.ref q), (.int (0 : Int32)), (.ref u)])) rfl rfl (hb hby d4_117)
    refine Go.step st17 ?_
    show Go _ _ _ _ _ _ _ T17 (mkF m 120 #[.val (.ref q), .val (.int (Lp (a 0))), .val (.double (T (a 2))), .second, .val (.int (Lp (a 2))), .val (.int (0 : Int32)), .val (.int (1 : Int32))] [(.ref u), (.int (0 : Int32)), (.ref u)])
    refine Go.step (fun _ k => XS.iload X17.here hx rfl (hb hby d4_120) rfl k) ?_
    show Go _ _ _ _ _ _ _ T17 (mkF m 122 #[.val (.ref q), .val (.int (Lp (a 0))), .val (.double (T (a 2))), .second, .val (.int (Lp (a 2))), .val (.int (0 : Int32)), .val (.int (1 : Int32))] [(.int (1 : Int32)), (.ref u), (.int (0 : Int32)), (.ref u)])
    refine Go.daload X17 hx hZ e17 V_u_3 (j := (1 : Int32)) (v := (T (a 1))) (by decide) (by first | rfl | simp [updN, hg0, hg1, hg2, hl0, hl1, hl2]) (hb hby d4_122) ?_
    show Go _ _ _ _ _ _ _ T17 (mkF m 123 #[.val (.ref q), .val (.int (Lp (a 0))), .val (.double (T (a 2))), .second, .val (.int (Lp (a 2))), .val (.int (0 : Int32)), .val (.int (1 : Int32))] [(.double (T (a 1))), (.int (0 : Int32)), (.ref u)])
    refine Go.dastore X17 hx hZ e17 V_u_3 (j := (0 : Int32)) (x := (T (a 1))) (by decide) (hb hby d4_123) ?_
    intro T18 h18 X18 e18 W18 Vn18
    have V_u_18 : Dv Z h18 u (64 : Int32) (updN g 0 (T (a 1))) := Vn18
    have N18 := Fr.snoc X18 N3 ge_u
    have E_q_18 := E_q_3.wr W18
    have F_size_q_18 := F_size_q_3.other W18 (Or.inl ne_q_u)
    have F_times_q_18 := F_times_q_3.other W18 (Or.inl ne_q_u)
    have F_lightpaths_q_18 := F_lightpaths_q_3.other W18 (Or.inl ne_q_u)
    have V_v_18 := V_v_3.other W18 (Ne.symm ne_u_v)
    have K18 : Keep h0 h18 [q, u, v] := K3.wr W18 (Or.inl (List.mem_of_getElem? (i := 1) rfl))
    show Go _ _ _ _ _ _ _ T18 (mkF m 124 #[.val (.ref q), .val (.int (Lp (a 0))), .val (.double (T (a 2))), .second, .val (.int (Lp (a 2))), .val (.int (0 : Int32)), .val (.int (1 : Int32))] [])
    refine Go.step (fun _ k => XS.aloadN X18.here hx rfl (hb hby d4_124) rfl rfl k) ?_
    show Go _ _ _ _ _ _ _ T18 (mkF m 125 #[.val (.ref q), .val (.int (Lp (a 0))), .val (.double (T (a 2))), .second, .val (.int (Lp (a 2))), .val (.int (0 : Int32)), .val (.int (1 : Int32))] [(.ref q)])
    obtain ⟨T19, X19, e19, st19⟩ := getF X18 hx hZ hown (host := "") (Or.inl (hw _ (List.mem_of_getElem? (i := 13) rfl))) Via.refl e18 F_lightpaths_q_18 (g := (mkF m 125 #[.val (.ref q), .val (.int (Lp (a 0))), .val (.double (T (a 2))), .second, .val (.int (Lp (a 2))), .val (.int (0 : Int32)), .val (.int (1 : Int32))] [(.ref q)])) rfl rfl (hb hby d4_125)
    refine Go.step st19 ?_
    show Go _ _ _ _ _ _ _ T19 (mkF m 128 #[.val (.ref q), .val (.int (Lp (a 0))), .val (.double (T (a 2))), .second, .val (.int (Lp (a 2))), .val (.int (0 : Int32)), .val (.int (1 : Int32))] [(.ref v)])
    refine Go.step (fun _ k => XS.iload X19.here hx rfl (hb hby d4_128) rfl k) ?_
    show Go _ _ _ _ _ _ _ T19 (mkF m 130 #[.val (.ref q), .val (.int (Lp (a 0))), .val (.double (T (a 2))), .second, .val (.int (Lp (a 2))), .val (.int (0 : Int32)), .val (.int (1 : Int32))] [(.int (0 : Int32)), (.ref v)])
    refine Go.step (fun _ k => XS.aloadN X19.here hx rfl (hb hby d4_130) rfl rfl k) ?_
    show Go _ _ _ _ _ _ _ T19 (mkF m 131 #[.val (.ref q), .val (.int (Lp (a 0))), .val (.double (T (a 2))), .second, .val (.int (Lp (a 2))), .val (.int (0 : Int32)), .val (.int (1 : Int32))] [(.ref q), (.int (0 : Int32)), (.ref v)])
    obtain ⟨T20, X20, e20, st20⟩ := getF X19 hx hZ hown (host := "") (Or.inl (hw _ (List.mem_of_getElem? (i := 13) rfl))) Via.refl e19 F_lightpaths_q_18 (g := (mkF m 131 #[.val (.ref q), .val (.int (Lp (a 0))), .val (.double (T (a 2))), .second, .val (.int (Lp (a 2))), .val (.int (0 : Int32)), .val (.int (1 : Int32))] [(.ref q), (.int (0 : Int32)), (.ref v)])) rfl rfl (hb hby d4_131)
    refine Go.step st20 ?_
    show Go _ _ _ _ _ _ _ T20 (mkF m 134 #[.val (.ref q), .val (.int (Lp (a 0))), .val (.double (T (a 2))), .second, .val (.int (Lp (a 2))), .val (.int (0 : Int32)), .val (.int (1 : Int32))] [(.ref v), (.int (0 : Int32)), (.ref v)])
    refine Go.step (fun _ k => XS.iload X20.here hx rfl (hb hby d4_134) rfl k) ?_
    show Go _ _ _ _ _ _ _ T20 (mkF m 136 #[.val (.ref q), .val (.int (Lp (a 0))), .val (.double (T (a 2))), .second, .val (.int (Lp (a 2))), .val (.int (0 : Int32)), .val (.int (1 : Int32))] [(.int (1 : Int32)), (.ref v), (.int (0 : Int32)), (.ref v)])
    refine Go.iaload X20 hx hZ e20 V_v_18 (j := (1 : Int32)) (v := (Lp (a 1))) (by decide) (by first | rfl | simp [updN, hg0, hg1, hg2, hl0, hl1, hl2]) (hb hby d4_136) ?_
    show Go _ _ _ _ _ _ _ T20 (mkF m 137 #[.val (.ref q), .val (.int (Lp (a 0))), .val (.double (T (a 2))), .second, .val (.int (Lp (a 2))), .val (.int (0 : Int32)), .val (.int (1 : Int32))] [(.int (Lp (a 1))), (.int (0 : Int32)), (.ref v)])
    refine Go.iastore X20 hx hZ e20 V_v_18 (j := (0 : Int32)) (x := (Lp (a 1))) (by decide) (hb hby d4_137) ?_
    intro T21 h21 X21 e21 W21 Vn21
    have V_v_21 : Iv Z h21 v (64 : Int32) (updN l' 0 (Lp (a 1))) := Vn21
    have N21 := Fr.snoc X21 N18 ge_v
    have E_q_21 := E_q_18.wr W21
    have F_size_q_21 := F_size_q_18.other W21 (Or.inl ne_q_v)
    have F_times_q_21 := F_times_q_18.other W21 (Or.inl ne_q_v)
    have F_lightpaths_q_21 := F_lightpaths_q_18.other W21 (Or.inl ne_q_v)
    have V_u_21 := V_u_18.other W21 ne_u_v
    have K21 : Keep h0 h21 [q, u, v] := K18.wr W21 (Or.inl (List.mem_of_getElem? (i := 2) rfl))
    show Go _ _ _ _ _ _ _ T21 (mkF m 138 #[.val (.ref q), .val (.int (Lp (a 0))), .val (.double (T (a 2))), .second, .val (.int (Lp (a 2))), .val (.int (0 : Int32)), .val (.int (1 : Int32))] [])
    refine Go.step (fun _ k => XS.iload X21.here hx rfl (hb hby d4_138) rfl k) ?_
    show Go _ _ _ _ _ _ _ T21 (mkF m 140 #[.val (.ref q), .val (.int (Lp (a 0))), .val (.double (T (a 2))), .second, .val (.int (Lp (a 2))), .val (.int (0 : Int32)), .val (.int (1 : Int32))] [(.int (1 : Int32))])
    refine Go.step (fun _ k => XS.istore X21.here hx rfl (hb hby d4_140) rfl (l' := #[.val (.ref q), .val (.int (Lp (a 0))), .val (.double (T (a 2))), .second, .val (.int (Lp (a 2))), .val (.int (1 : Int32)), .val (.int (1 : Int32))]) rfl k) ?_
    show Go _ _ _ _ _ _ _ T21 (mkF m 142 #[.val (.ref q), .val (.int (Lp (a 0))), .val (.double (T (a 2))), .second, .val (.int (Lp (a 2))), .val (.int (1 : Int32)), .val (.int (1 : Int32))] [])
    refine Go.step (fun _ k => XS.goto X21.here hx rfl (pc0 := 142) (pc' := 41) rfl (hb hby d4_142) (by decide) (by decide) k) ?_
    show Go _ _ _ _ _ _ _ T21 (mkF m 41 #[.val (.ref q), .val (.int (Lp (a 0))), .val (.double (T (a 2))), .second, .val (.int (Lp (a 2))), .val (.int (1 : Int32)), .val (.int (1 : Int32))] [])
    refine Go.step (fun _ k => XS.iconst X21.here hx rfl (hb hby d4_41) k) ?_
    show Go _ _ _ _ _ _ _ T21 (mkF m 42 #[.val (.ref q), .val (.int (Lp (a 0))), .val (.double (T (a 2))), .second, .val (.int (Lp (a 2))), .val (.int (1 : Int32)), .val (.int (1 : Int32))] [(.int (2 : Int32))])
    refine Go.step (fun _ k => XS.iload X21.here hx rfl (hb hby d4_42) rfl k) ?_
    show Go _ _ _ _ _ _ _ T21 (mkF m 44 #[.val (.ref q), .val (.int (Lp (a 0))), .val (.double (T (a 2))), .second, .val (.int (Lp (a 2))), .val (.int (1 : Int32)), .val (.int (1 : Int32))] [(.int (1 : Int32)), (.int (2 : Int32))])
    refine Go.step (fun _ k => XS.imul X21.here hx rfl (hb hby d4_44) rfl k) ?_
    show Go _ _ _ _ _ _ _ T21 (mkF m 45 #[.val (.ref q), .val (.int (Lp (a 0))), .val (.double (T (a 2))), .second, .val (.int (Lp (a 2))), .val (.int (1 : Int32)), .val (.int (1 : Int32))] [(.int (2 : Int32))])
    refine Go.step (fun _ k => XS.iconst X21.here hx rfl (hb hby d4_45) k) ?_
    show Go _ _ _ _ _ _ _ T21 (mkF m 46 #[.val (.ref q), .val (.int (Lp (a 0))), .val (.double (T (a 2))), .second, .val (.int (Lp (a 2))), .val (.int (1 : Int32)), .val (.int (1 : Int32))] [(.int (1 : Int32)), (.int (2 : Int32))])
    refine Go.step (fun _ k => XS.iadd X21.here hx rfl (hb hby d4_46) rfl k) ?_
    show Go _ _ _ _ _ _ _ T21 (mkF m 47 #[.val (.ref q), .val (.int (Lp (a 0))), .val (.double (T (a 2))), .second, .val (.int (Lp (a 2))), .val (.int (1 : Int32)), .val (.int (1 : Int32))] [(.int (3 : Int32))])
    refine Go.step (fun _ k => XS.istore X21.here hx rfl (hb hby d4_47) rfl (l' := #[.val (.ref q), .val (.int (Lp (a 0))), .val (.double (T (a 2))), .second, .val (.int (Lp (a 2))), .val (.int (1 : Int32)), .val (.int (3 : Int32))]) rfl k) ?_
    show Go _ _ _ _ _ _ _ T21 (mkF m 49 #[.val (.ref q), .val (.int (Lp (a 0))), .val (.double (T (a 2))), .second, .val (.int (Lp (a 2))), .val (.int (1 : Int32)), .val (.int (3 : Int32))] [])
    refine Go.step (fun _ k => XS.iload X21.here hx rfl (hb hby d4_49) rfl k) ?_
    show Go _ _ _ _ _ _ _ T21 (mkF m 51 #[.val (.ref q), .val (.int (Lp (a 0))), .val (.double (T (a 2))), .second, .val (.int (Lp (a 2))), .val (.int (1 : Int32)), .val (.int (3 : Int32))] [(.int (3 : Int32))])
    refine Go.step (fun _ k => XS.aloadN X21.here hx rfl (hb hby d4_51) rfl rfl k) ?_
    show Go _ _ _ _ _ _ _ T21 (mkF m 52 #[.val (.ref q), .val (.int (Lp (a 0))), .val (.double (T (a 2))), .second, .val (.int (Lp (a 2))), .val (.int (1 : Int32)), .val (.int (3 : Int32))] [(.ref q), (.int (3 : Int32))])
    obtain ⟨T22, X22, e22, st22⟩ := getF X21 hx hZ hown (host := "") (Or.inl (hw _ (List.mem_of_getElem? (i := 20) rfl))) Via.refl e21 F_size_q_21 (g := (mkF m 52 #[.val (.ref q), .val (.int (Lp (a 0))), .val (.double (T (a 2))), .second, .val (.int (Lp (a 2))), .val (.int (1 : Int32)), .val (.int (3 : Int32))] [(.ref q), (.int (3 : Int32))])) rfl rfl (hb hby d4_52)
    refine Go.step st22 ?_
    show Go _ _ _ _ _ _ _ T22 (mkF m 55 #[.val (.ref q), .val (.int (Lp (a 0))), .val (.double (T (a 2))), .second, .val (.int (Lp (a 2))), .val (.int (1 : Int32)), .val (.int (3 : Int32))] [(.int (2 : Int32)), (.int (3 : Int32))])
    refine Go.step (fun _ k => XS.icmpNo X22.here hx rfl (hb hby d4_55) rfl (flt (by decide : ¬ ((3 : Int32) < (2 : Int32)))).1 k) ?_
    show Go _ _ _ _ _ _ _ T22 (mkF m 58 #[.val (.ref q), .val (.int (Lp (a 0))), .val (.double (T (a 2))), .second, .val (.int (Lp (a 2))), .val (.int (1 : Int32)), .val (.int (3 : Int32))] [])
    refine Go.step (fun _ k => XS.goto X22.here hx rfl (pc0 := 58) (pc' := 145) rfl (hb hby d4_58) (by decide) (by decide) k) ?_
    show Go _ _ _ _ _ _ _ T22 (mkF m 145 #[.val (.ref q), .val (.int (Lp (a 0))), .val (.double (T (a 2))), .second, .val (.int (Lp (a 2))), .val (.int (1 : Int32)), .val (.int (3 : Int32))] [])
    refine Go.step (fun _ k => XS.aloadN X22.here hx rfl (hb hby d4_145) rfl rfl k) ?_
    show Go _ _ _ _ _ _ _ T22 (mkF m 146 #[.val (.ref q), .val (.int (Lp (a 0))), .val (.double (T (a 2))), .second, .val (.int (Lp (a 2))), .val (.int (1 : Int32)), .val (.int (3 : Int32))] [(.ref q)])
    obtain ⟨T23, X23, e23, st23⟩ := getF X22 hx hZ hown (host := "") (Or.inl (hw _ (List.mem_of_getElem? (i := 11) rfl))) Via.refl e22 F_times_q_21 (g := (mkF m 146 #[.val (.ref q), .val (.int (Lp (a 0))), .val (.double (T (a 2))), .second, .val (.int (Lp (a 2))), .val (.int (1 : Int32)), .val (.int (3 : Int32))] [(.ref q)])) rfl rfl (hb hby d4_146)
    refine Go.step st23 ?_
    show Go _ _ _ _ _ _ _ T23 (mkF m 149 #[.val (.ref q), .val (.int (Lp (a 0))), .val (.double (T (a 2))), .second, .val (.int (Lp (a 2))), .val (.int (1 : Int32)), .val (.int (3 : Int32))] [(.ref u)])
    refine Go.step (fun _ k => XS.iload X23.here hx rfl (hb hby d4_149) rfl k) ?_
    show Go _ _ _ _ _ _ _ T23 (mkF m 151 #[.val (.ref q), .val (.int (Lp (a 0))), .val (.double (T (a 2))), .second, .val (.int (Lp (a 2))), .val (.int (1 : Int32)), .val (.int (3 : Int32))] [(.int (1 : Int32)), (.ref u)])
    refine Go.step (fun _ k => XS.dloadN X23.here hx rfl (hb hby d4_151) rfl k) ?_
    show Go _ _ _ _ _ _ _ T23 (mkF m 152 #[.val (.ref q), .val (.int (Lp (a 0))), .val (.double (T (a 2))), .second, .val (.int (Lp (a 2))), .val (.int (1 : Int32)), .val (.int (3 : Int32))] [(.double (T (a 2))), (.int (1 : Int32)), (.ref u)])
    refine Go.dastore X23 hx hZ e23 V_u_21 (j := (1 : Int32)) (x := (T (a 2))) (by decide) (hb hby d4_152) ?_
    intro T24 h24 X24 e24 W24 Vn24
    have V_u_24 : Dv Z h24 u (64 : Int32) (updN (updN g 0 (T (a 1))) 1 (T (a 2))) := Vn24
    have N24 := Fr.snoc X24 N21 ge_u
    have E_q_24 := E_q_21.wr W24
    have F_size_q_24 := F_size_q_21.other W24 (Or.inl ne_q_u)
    have F_times_q_24 := F_times_q_21.other W24 (Or.inl ne_q_u)
    have F_lightpaths_q_24 := F_lightpaths_q_21.other W24 (Or.inl ne_q_u)
    have V_v_24 := V_v_21.other W24 (Ne.symm ne_u_v)
    have K24 : Keep h0 h24 [q, u, v] := K21.wr W24 (Or.inl (List.mem_of_getElem? (i := 1) rfl))
    show Go _ _ _ _ _ _ _ T24 (mkF m 153 #[.val (.ref q), .val (.int (Lp (a 0))), .val (.double (T (a 2))), .second, .val (.int (Lp (a 2))), .val (.int (1 : Int32)), .val (.int (3 : Int32))] [])
    refine Go.step (fun _ k => XS.aloadN X24.here hx rfl (hb hby d4_153) rfl rfl k) ?_
    show Go _ _ _ _ _ _ _ T24 (mkF m 154 #[.val (.ref q), .val (.int (Lp (a 0))), .val (.double (T (a 2))), .second, .val (.int (Lp (a 2))), .val (.int (1 : Int32)), .val (.int (3 : Int32))] [(.ref q)])
    obtain ⟨T25, X25, e25, st25⟩ := getF X24 hx hZ hown (host := "") (Or.inl (hw _ (List.mem_of_getElem? (i := 13) rfl))) Via.refl e24 F_lightpaths_q_24 (g := (mkF m 154 #[.val (.ref q), .val (.int (Lp (a 0))), .val (.double (T (a 2))), .second, .val (.int (Lp (a 2))), .val (.int (1 : Int32)), .val (.int (3 : Int32))] [(.ref q)])) rfl rfl (hb hby d4_154)
    refine Go.step st25 ?_
    show Go _ _ _ _ _ _ _ T25 (mkF m 157 #[.val (.ref q), .val (.int (Lp (a 0))), .val (.double (T (a 2))), .second, .val (.int (Lp (a 2))), .val (.int (1 : Int32)), .val (.int (3 : Int32))] [(.ref v)])
    refine Go.step (fun _ k => XS.iload X25.here hx rfl (hb hby d4_157) rfl k) ?_
    show Go _ _ _ _ _ _ _ T25 (mkF m 159 #[.val (.ref q), .val (.int (Lp (a 0))), .val (.double (T (a 2))), .second, .val (.int (Lp (a 2))), .val (.int (1 : Int32)), .val (.int (3 : Int32))] [(.int (1 : Int32)), (.ref v)])
    refine Go.step (fun _ k => XS.iload X25.here hx rfl (hb hby d4_159) rfl k) ?_
    show Go _ _ _ _ _ _ _ T25 (mkF m 161 #[.val (.ref q), .val (.int (Lp (a 0))), .val (.double (T (a 2))), .second, .val (.int (Lp (a 2))), .val (.int (1 : Int32)), .val (.int (3 : Int32))] [(.int (Lp (a 2))), (.int (1 : Int32)), (.ref v)])
    refine Go.iastore X25 hx hZ e25 V_v_24 (j := (1 : Int32)) (x := (Lp (a 2))) (by decide) (hb hby d4_161) ?_
    intro T26 h26 X26 e26 W26 Vn26
    have V_v_26 : Iv Z h26 v (64 : Int32) (updN (updN l' 0 (Lp (a 1))) 1 (Lp (a 2))) := Vn26
    have N26 := Fr.snoc X26 N24 ge_v
    have E_q_26 := E_q_24.wr W26
    have F_size_q_26 := F_size_q_24.other W26 (Or.inl ne_q_v)
    have F_times_q_26 := F_times_q_24.other W26 (Or.inl ne_q_v)
    have F_lightpaths_q_26 := F_lightpaths_q_24.other W26 (Or.inl ne_q_v)
    have V_u_26 := V_u_24.other W26 ne_u_v
    have K26 : Keep h0 h26 [q, u, v] := K24.wr W26 (Or.inl (List.mem_of_getElem? (i := 2) rfl))
    show Go _ _ _ _ _ _ _ T26 (mkF m 162 #[.val (.ref q), .val (.int (Lp (a 0))), .val (.double (T (a 2))), .second, .val (.int (Lp (a 2))), .val (.int (1 : Int32)), .val (.int (3 : Int32))] [])
    refine Go.step (fun _ k => XS.iloadN X26.here hx rfl (hb hby d4_162) rfl k) ?_
    show Go _ _ _ _ _ _ _ T26 (mkF m 163 #[.val (.ref q), .val (.int (Lp (a 0))), .val (.double (T (a 2))), .second, .val (.int (Lp (a 2))), .val (.int (1 : Int32)), .val (.int (3 : Int32))] [(.int (Lp (a 0)))])
    refine Go.retI X26 hx hlk hret (hb hby d4_163) (by decide) (by decide) ?_
    try rw [e26]
    have := own_ngeK hT hd104_11
    refine ⟨rfl, N26, K26, E_q_26, F_size_q_26, F_times_q_26, F_lightpaths_q_26, _, _, (updN (updN a 0 (a 1)) 1 (a 2)), V_u_26, V_v_26, fun i hi' => by rcases (by omega : i = 0 ∨ i = 1) with rfl | rfl <;> first | rfl | simp [updN, hg0, hg1, hg2, hl0, hl1, hl2], fun i hi' => by rcases (by omega : i = 0 ∨ i = 1) with rfl | rfl <;> first | rfl | simp [updN, hg0, hg1, hg2, hl0, hl1, hl2], ?_, ?_, fun P hP => ?_⟩
    · simp only [HI, updN]; try simp; try omega
    · exact ⟨fun i hi' => by rcases (by omega : i = 0 ∨ i = 1) with rfl | rfl <;> simp [updN] <;> omega, fun w => by simp [sumA, updN]; try omega⟩
    · intro i hi'; rcases (by omega : i = 0 ∨ i = 1) with rfl | rfl <;> simp [updN] <;> exact hP _ (by decide)
theorem ef_rm_rem3 (m : MethodId) (q : Addr) : entryFrame m #[(.ref q)] 7 = mkF m 0 #[.val (.ref q), .unset, .unset, .unset, .unset, .unset, .unset] [] := by first | (simp [entryFrame, mkF, argsToLocals, Value.category]; done) | rfl
theorem rm_rem3 (l : Launch) (Z : State) (a0 : Array Value) (hw : ∀ d ∈ tables_1, d.before a0 Z = true) (q u v : Addr) (g : Nat → UInt64) (l' : Nat → Int32) (T : Nat → UInt64) (Lp : Nat → Int32) (K : Nat → Int) (a : Nat → Nat) (h0 : Heap) (n0 : Nat) (Z0 : n0 ≤ h0.size) (E_q : Exa Z h0 q "com/example/wavegrade/wavegrade/DepartureQueue") (F_size_q : Fld Z h0 q "com/example/wavegrade/wavegrade/DepartureQueue" "size" "I" (.int (3 : Int32))) (F_times_q : Fld Z h0 q "com/example/wavegrade/wavegrade/DepartureQueue" "times" "[D" (.ref u)) (F_lightpaths_q : Fld Z h0 q "com/example/wavegrade/wavegrade/DepartureQueue" "lightpaths" "[I" (.ref v)) (V_u : Dv Z h0 u (64 : Int32) g) (V_v : Iv Z h0 v (64 : Int32) l') (ne_q_u : q ≠ u) (ne_q_v : q ≠ v) (ne_u_v : u ≠ v) (ge_q : n0 ≤ q) (ge_u : n0 ≤ u) (ge_v : n0 ≤ v) (hT : ∀ x y, FP.dcmp (T x) (T y) = some (compare (K x) (K y))) (hg : ∀ i, i < 3 → g i = T (a i)) (hl : ∀ i, i < 3 → l' i = Lp (a i)) (hi : HI K a 3) :
    Con l Z (⟨"com/example/wavegrade/wavegrade/DepartureQueue", "removeFirst", "()I"⟩ : MethodName) prog_1_method_5_code 7 (some .int) ({ frames := 0, cells := 0, slots := 0, locals := 0 } : Room) #[(.ref q)] h0 (fun r h L => r = some (.int (Lp (a 0))) ∧ Fr n0 L ∧ Keep h0 h [q, u, v] ∧ Exa Z h q "com/example/wavegrade/wavegrade/DepartureQueue" ∧ Fld Z h q "com/example/wavegrade/wavegrade/DepartureQueue" "size" "I" (.int (2 : Int32)) ∧ Fld Z h q "com/example/wavegrade/wavegrade/DepartureQueue" "times" "[D" (.ref u) ∧ Fld Z h q "com/example/wavegrade/wavegrade/DepartureQueue" "lightpaths" "[I" (.ref v) ∧ ∃ (g2 : Nat → UInt64) (l2 : Nat → Int32) (a2 : Nat → Nat), Dv Z h u (64 : Int32) g2 ∧ Iv Z h v (64 : Int32) l2 ∧ (∀ i, i < 2 → g2 i = T (a2 i)) ∧ (∀ i, i < 2 → l2 i = Lp (a2 i)) ∧ HI K a2 2 ∧ ((∀ i, i < 2 → K (a 0) ≤ K (a2 i)) ∧ ∀ w : Nat → Int, sumA w a2 2 + w (a 0) = sumA w a 3) ∧ ∀ P : Nat → Prop, (∀ i, i < 3 → P (a i)) → ∀ i, i < 2 → P (a2 i)) :=
  con_of (plainFor_of_name pn_1) (fun p_ e_ s_ m_ b_ meth_ c_ T_ X_ hx hZ hby hml hown hnm hret hlk e0 => Go.cast (ef_rm_rem3 m_ q) (w_rem3 q u v g l' T Lp K a X_ hx hZ hw hby hml hown hnm hret hlk e0 Z0 (Fr.nil n0) E_q F_size_q F_times_q F_lightpaths_q V_u V_v ne_q_u ne_q_v ne_u_v ge_q ge_u ge_v hT hg hl hi))
set_option maxRecDepth 65536 in
set_option maxHeartbeats 40000000 in
theorem w_rem2 {p : Program} {l : Launch} {e : Env} {s : State} {m : MethodId} {args : Array Value} {below : List Frame} {meth : Method} {c_ : Code} {T0 : State} {locs : List Loc} {Z : State} {a0 : Array Value} {h0 : Heap} {n0 : Nat} (q u v : Addr) (g : Nat → UInt64) (l' : Nat → Int32) (T : Nat → UInt64) (Lp : Nat → Int32) (K : Nat → Int) (a : Nat → Nat)
    (X0 : Stand p l e ({ frames := 0, cells := 0, slots := 0, locals := 0 } : Room) s m args below meth c_ T0 locs 0 0) (hx : p.tables.exec = Jvm.exec) (hZ : Z.Warmed39 s.vm) (hw : ∀ d ∈ tables_1, d.before a0 Z = true) (hby : c_.code = prog_1_method_5_code) (hml : c_.maxLocals = 7) (hown : s.vm.findClass "com/example/wavegrade/wavegrade/DepartureQueue" = some m.cls) (hnm : meth.name = "removeFirst") (hret : meth.sig.returnType = some .int) (hlk : meth.locks = false) (e0 : T0.heap = h0) (Z0 : n0 ≤ h0.size) (N0 : Fr n0 locs) (E_q : Exa Z h0 q "com/example/wavegrade/wavegrade/DepartureQueue") (F_size_q : Fld Z h0 q "com/example/wavegrade/wavegrade/DepartureQueue" "size" "I" (.int (2 : Int32))) (F_times_q : Fld Z h0 q "com/example/wavegrade/wavegrade/DepartureQueue" "times" "[D" (.ref u)) (F_lightpaths_q : Fld Z h0 q "com/example/wavegrade/wavegrade/DepartureQueue" "lightpaths" "[I" (.ref v)) (V_u : Dv Z h0 u (64 : Int32) g) (V_v : Iv Z h0 v (64 : Int32) l') (ne_q_u : q ≠ u) (ne_q_v : q ≠ v) (ne_u_v : u ≠ v) (ge_q : n0 ≤ q) (ge_u : n0 ≤ u) (ge_v : n0 ≤ v) (hT : ∀ x y, FP.dcmp (T x) (T y) = some (compare (K x) (K y))) (hg : ∀ i, i < 2 → g i = T (a i)) (hl : ∀ i, i < 2 → l' i = Lp (a i)) (hi : HI K a 2) :
    Go p e below s ({ frames := 0, cells := 0, slots := 0, locals := 0 } : Room).cells ({ frames := 0, cells := 0, slots := 0, locals := 0 } : Room).slots (fun r h L => r = some (.int (Lp (a 0))) ∧ Fr n0 L ∧ Keep h0 h [q, u, v] ∧ Exa Z h q "com/example/wavegrade/wavegrade/DepartureQueue" ∧ Fld Z h q "com/example/wavegrade/wavegrade/DepartureQueue" "size" "I" (.int (1 : Int32)) ∧ Fld Z h q "com/example/wavegrade/wavegrade/DepartureQueue" "times" "[D" (.ref u) ∧ Fld Z h q "com/example/wavegrade/wavegrade/DepartureQueue" "lightpaths" "[I" (.ref v) ∧ ∃ (g2 : Nat → UInt64) (l2 : Nat → Int32) (a2 : Nat → Nat), Dv Z h u (64 : Int32) g2 ∧ Iv Z h v (64 : Int32) l2 ∧ (∀ i, i < 1 → g2 i = T (a2 i)) ∧ (∀ i, i < 1 → l2 i = Lp (a2 i)) ∧ HI K a2 1 ∧ ((∀ i, i < 1 → K (a 0) ≤ K (a2 i)) ∧ ∀ w : Nat → Int, sumA w a2 1 + w (a 0) = sumA w a 2) ∧ ∀ P : Nat → Prop, (∀ i, i < 2 → P (a i)) → ∀ i, i < 1 → P (a2 i)) T0 (mkF m 0 #[.val (.ref q), .unset, .unset, .unset, .unset, .unset, .unset] []) := by
  have hg0 := hg 0 (by decide)
  have hg1 := hg 1 (by decide)
  have hl0 := hl 0 (by decide)
  have hl1 := hl 1 (by decide)
  simp only [HI] at hi
  show Go _ _ _ _ _ _ _ T0 (mkF m 0 #[.val (.ref q), .unset, .unset, .unset, .unset, .unset, .unset] [])
  refine Go.step (fun _ k => XS.aloadN X0.here hx rfl (hb hby d4_0) rfl rfl k) ?_
  show Go _ _ _ _ _ _ _ T0 (mkF m 1 #[.val (.ref q), .unset, .unset, .unset, .unset, .unset, .unset] [(.ref q)])
  obtain ⟨T1, X1, e1, st1⟩ := getF X0 hx hZ hown (host := "") (Or.inl (hw _ (List.mem_of_getElem? (i := 13) rfl))) Via.refl e0 F_lightpaths_q (g := (mkF m 1 #[.val (.ref q), .unset, .unset, .unset, .unset, .unset, .unset] [(.ref q)])) rfl rfl (hb hby d4_1)
  refine Go.step st1 ?_
  show Go _ _ _ _ _ _ _ T1 (mkF m 4 #[.val (.ref q), .unset, .unset, .unset, .unset, .unset, .unset] [(.ref v)])
  refine Go.step (fun _ k => XS.iconst X1.here hx rfl (hb hby d4_4) k) ?_
  show Go _ _ _ _ _ _ _ T1 (mkF m 5 #[.val (.ref q), .unset, .unset, .unset, .unset, .unset, .unset] [(.int (0 : Int32)), (.ref v)])
  refine Go.iaload X1 hx hZ e1 V_v (j := (0 : Int32)) (v := (Lp (a 0))) (by decide) (by first | rfl | simp [updN, hg0, hg1, hl0, hl1]) (hb hby d4_5) ?_
  show Go _ _ _ _ _ _ _ T1 (mkF m 6 #[.val (.ref q), .unset, .unset, .unset, .unset, .unset, .unset] [(.int (Lp (a 0)))])
  refine Go.step (fun _ k => XS.istoreN X1.here hx rfl (hb hby d4_6) rfl (l' := #[.val (.ref q), .val (.int (Lp (a 0))), .unset, .unset, .unset, .unset, .unset]) rfl k) ?_
  show Go _ _ _ _ _ _ _ T1 (mkF m 7 #[.val (.ref q), .val (.int (Lp (a 0))), .unset, .unset, .unset, .unset, .unset] [])
  refine Go.step (fun _ k => XS.aloadN X1.here hx rfl (hb hby d4_7) rfl rfl k) ?_
  show Go _ _ _ _ _ _ _ T1 (mkF m 8 #[.val (.ref q), .val (.int (Lp (a 0))), .unset, .unset, .unset, .unset, .unset] [(.ref q)])
  refine Go.step (fun _ k => XS.dup X1.here hx rfl (hb hby d4_8) rfl rfl k) ?_
  show Go _ _ _ _ _ _ _ T1 (mkF m 9 #[.val (.ref q), .val (.int (Lp (a 0))), .unset, .unset, .unset, .unset, .unset] [(.ref q), (.ref q)])
  obtain ⟨T2, X2, e2, st2⟩ := getF X1 hx hZ hown (host := "") (Or.inl (hw _ (List.mem_of_getElem? (i := 20) rfl))) Via.refl e1 F_size_q (g := (mkF m 9 #[.val (.ref q), .val (.int (Lp (a 0))), .unset, .unset, .unset, .unset, .unset] [(.ref q), (.ref q)])) rfl rfl (hb hby d4_9)
  refine Go.step st2 ?_
  show Go _ _ _ _ _ _ _ T2 (mkF m 12 #[.val (.ref q), .val (.int (Lp (a 0))), .unset, .unset, .unset, .unset, .unset] [(.int (2 : Int32)), (.ref q)])
  refine Go.step (fun _ k => XS.iconst X2.here hx rfl (hb hby d4_12) k) ?_
  show Go _ _ _ _ _ _ _ T2 (mkF m 13 #[.val (.ref q), .val (.int (Lp (a 0))), .unset, .unset, .unset, .unset, .unset] [(.int (1 : Int32)), (.int (2 : Int32)), (.ref q)])
  refine Go.step (fun _ k => XS.isub X2.here hx rfl (hb hby d4_13) rfl k) ?_
  show Go _ _ _ _ _ _ _ T2 (mkF m 14 #[.val (.ref q), .val (.int (Lp (a 0))), .unset, .unset, .unset, .unset, .unset] [(.int (1 : Int32)), (.ref q)])
  obtain ⟨T3, h3, X3, e3, W3, st3⟩ := putF X2 hx hZ hown (host := "") (Or.inl (hw _ (List.mem_of_getElem? (i := 20) rfl))) Via.refl e2 F_size_q E_q (Or.inl (hw _ (List.mem_of_getElem? (i := 21) rfl))) (hw _ (List.mem_of_getElem? (i := 2) rfl)) (ty := .int) (by decide) rfl rfl (g := (mkF m 14 #[.val (.ref q), .val (.int (Lp (a 0))), .unset, .unset, .unset, .unset, .unset] [(.int (1 : Int32)), (.ref q)])) rfl rfl (hb hby d4_14)
  refine Go.step st3 ?_
  have N3 := Fr.snoc X3 N0 ge_q
  have F_size_q_3 := F_size_q.same W3
  have E_q_3 := E_q.wr W3
  have F_times_q_3 := F_times_q.other W3 (Or.inr (slot_ne (Or.inl (hw _ (List.mem_of_getElem? (i := 12) rfl))) (Or.inl (hw _ (List.mem_of_getElem? (i := 21) rfl))) (by decide) (t := (.array .double)) (t' := .int) (by decide) (by decide)))
  have F_lightpaths_q_3 := F_lightpaths_q.other W3 (Or.inr (slot_ne (Or.inl (hw _ (List.mem_of_getElem? (i := 14) rfl))) (Or.inl (hw _ (List.mem_of_getElem? (i := 21) rfl))) (by decide) (t := (.array .int)) (t' := .int) (by decide) (by decide)))
  have V_u_3 := V_u.other W3 (Ne.symm ne_q_u)
  have V_v_3 := V_v.other W3 (Ne.symm ne_q_v)
  have K3 : Keep h0 h3 [q, u, v] := (Keep.refl h0 [q, u, v]).wr W3 (Or.inl (List.mem_of_getElem? (i := 0) rfl))
  show Go _ _ _ _ _ _ _ T3 (mkF m 17 #[.val (.ref q), .val (.int (Lp (a 0))), .unset, .unset, .unset, .unset, .unset] [])
  refine Go.step (fun _ k => XS.aloadN X3.here hx rfl (hb hby d4_17) rfl rfl k) ?_
  show Go _ _ _ _ _ _ _ T3 (mkF m 18 #[.val (.ref q), .val (.int (Lp (a 0))), .unset, .unset, .unset, .unset, .unset] [(.ref q)])
  obtain ⟨T4, X4, e4, st4⟩ := getF X3 hx hZ hown (host := "") (Or.inl (hw _ (List.mem_of_getElem? (i := 11) rfl))) Via.refl e3 F_times_q_3 (g := (mkF m 18 #[.val (.ref q), .val (.int (Lp (a 0))), .unset, .unset, .unset, .unset, .unset] [(.ref q)])) rfl rfl (hb hby d4_18)
  refine Go.step st4 ?_
  show Go _ _ _ _ _ _ _ T4 (mkF m 21 #[.val (.ref q), .val (.int (Lp (a 0))), .unset, .unset, .unset, .unset, .unset] [(.ref u)])
  refine Go.step (fun _ k => XS.aloadN X4.here hx rfl (hb hby d4_21) rfl rfl k) ?_
  show Go _ _ _ _ _ _ _ T4 (mkF m 22 #[.val (.ref q), .val (.int (Lp (a 0))), .unset, .unset, .unset, .unset, .unset] [(.ref q), (.ref u)])
  obtain ⟨T5, X5, e5, st5⟩ := getF X4 hx hZ hown (host := "") (Or.inl (hw _ (List.mem_of_getElem? (i := 20) rfl))) Via.refl e4 F_size_q_3 (g := (mkF m 22 #[.val (.ref q), .val (.int (Lp (a 0))), .unset, .unset, .unset, .unset, .unset] [(.ref q), (.ref u)])) rfl rfl (hb hby d4_22)
  refine Go.step st5 ?_
  show Go _ _ _ _ _ _ _ T5 (mkF m 25 #[.val (.ref q), .val (.int (Lp (a 0))), .unset, .unset, .unset, .unset, .unset] [(.int (1 : Int32)), (.ref u)])
  refine Go.daload X5 hx hZ e5 V_u_3 (j := (1 : Int32)) (v := (T (a 1))) (by decide) (by first | rfl | simp [updN, hg0, hg1, hl0, hl1]) (hb hby d4_25) ?_
  show Go _ _ _ _ _ _ _ T5 (mkF m 26 #[.val (.ref q), .val (.int (Lp (a 0))), .unset, .unset, .unset, .unset, .unset] [(.double (T (a 1)))])
  refine Go.step (fun _ k => XS.dstoreN X5.here hx rfl (hb hby d4_26) rfl (l' := #[.val (.ref q), .val (.int (Lp (a 0))), .val (.double (T (a 1))), .second, .unset, .unset, .unset]) rfl k) ?_
  show Go _ _ _ _ _ _ _ T5 (mkF m 27 #[.val (.ref q), .val (.int (Lp (a 0))), .val (.double (T (a 1))), .second, .unset, .unset, .unset] [])
  refine Go.step (fun _ k => XS.aloadN X5.here hx rfl (hb hby d4_27) rfl rfl k) ?_
  show Go _ _ _ _ _ _ _ T5 (mkF m 28 #[.val (.ref q), .val (.int (Lp (a 0))), .val (.double (T (a 1))), .second, .unset, .unset, .unset] [(.ref q)])
  obtain ⟨T6, X6, e6, st6⟩ := getF X5 hx hZ hown (host := "") (Or.inl (hw _ (List.mem_of_getElem? (i := 13) rfl))) Via.refl e5 F_lightpaths_q_3 (g := (mkF m 28 #[.val (.ref q), .val (.int (Lp (a 0))), .val (.double (T (a 1))), .second, .unset, .unset, .unset] [(.ref q)])) rfl rfl (hb hby d4_28)
  refine Go.step st6 ?_
  show Go _ _ _ _ _ _ _ T6 (mkF m 31 #[.val (.ref q), .val (.int (Lp (a 0))), .val (.double (T (a 1))), .second, .unset, .unset, .unset] [(.ref v)])
  refine Go.step (fun _ k => XS.aloadN X6.here hx rfl (hb hby d4_31) rfl rfl k) ?_
  show Go _ _ _ _ _ _ _ T6 (mkF m 32 #[.val (.ref q), .val (.int (Lp (a 0))), .val (.double (T (a 1))), .second, .unset, .unset, .unset] [(.ref q), (.ref v)])
  obtain ⟨T7, X7, e7, st7⟩ := getF X6 hx hZ hown (host := "") (Or.inl (hw _ (List.mem_of_getElem? (i := 20) rfl))) Via.refl e6 F_size_q_3 (g := (mkF m 32 #[.val (.ref q), .val (.int (Lp (a 0))), .val (.double (T (a 1))), .second, .unset, .unset, .unset] [(.ref q), (.ref v)])) rfl rfl (hb hby d4_32)
  refine Go.step st7 ?_
  show Go _ _ _ _ _ _ _ T7 (mkF m 35 #[.val (.ref q), .val (.int (Lp (a 0))), .val (.double (T (a 1))), .second, .unset, .unset, .unset] [(.int (1 : Int32)), (.ref v)])
  refine Go.iaload X7 hx hZ e7 V_v_3 (j := (1 : Int32)) (v := (Lp (a 1))) (by decide) (by first | rfl | simp [updN, hg0, hg1, hl0, hl1]) (hb hby d4_35) ?_
  show Go _ _ _ _ _ _ _ T7 (mkF m 36 #[.val (.ref q), .val (.int (Lp (a 0))), .val (.double (T (a 1))), .second, .unset, .unset, .unset] [(.int (Lp (a 1)))])
  refine Go.step (fun _ k => XS.istore X7.here hx rfl (hb hby d4_36) rfl (l' := #[.val (.ref q), .val (.int (Lp (a 0))), .val (.double (T (a 1))), .second, .val (.int (Lp (a 1))), .unset, .unset]) rfl k) ?_
  show Go _ _ _ _ _ _ _ T7 (mkF m 38 #[.val (.ref q), .val (.int (Lp (a 0))), .val (.double (T (a 1))), .second, .val (.int (Lp (a 1))), .unset, .unset] [])
  refine Go.step (fun _ k => XS.iconst X7.here hx rfl (hb hby d4_38) k) ?_
  show Go _ _ _ _ _ _ _ T7 (mkF m 39 #[.val (.ref q), .val (.int (Lp (a 0))), .val (.double (T (a 1))), .second, .val (.int (Lp (a 1))), .unset, .unset] [(.int (0 : Int32))])
  refine Go.step (fun _ k => XS.istore X7.here hx rfl (hb hby d4_39) rfl (l' := #[.val (.ref q), .val (.int (Lp (a 0))), .val (.double (T (a 1))), .second, .val (.int (Lp (a 1))), .val (.int (0 : Int32)), .unset]) rfl k) ?_
  show Go _ _ _ _ _ _ _ T7 (mkF m 41 #[.val (.ref q), .val (.int (Lp (a 0))), .val (.double (T (a 1))), .second, .val (.int (Lp (a 1))), .val (.int (0 : Int32)), .unset] [])
  refine Go.step (fun _ k => XS.iconst X7.here hx rfl (hb hby d4_41) k) ?_
  show Go _ _ _ _ _ _ _ T7 (mkF m 42 #[.val (.ref q), .val (.int (Lp (a 0))), .val (.double (T (a 1))), .second, .val (.int (Lp (a 1))), .val (.int (0 : Int32)), .unset] [(.int (2 : Int32))])
  refine Go.step (fun _ k => XS.iload X7.here hx rfl (hb hby d4_42) rfl k) ?_
  show Go _ _ _ _ _ _ _ T7 (mkF m 44 #[.val (.ref q), .val (.int (Lp (a 0))), .val (.double (T (a 1))), .second, .val (.int (Lp (a 1))), .val (.int (0 : Int32)), .unset] [(.int (0 : Int32)), (.int (2 : Int32))])
  refine Go.step (fun _ k => XS.imul X7.here hx rfl (hb hby d4_44) rfl k) ?_
  show Go _ _ _ _ _ _ _ T7 (mkF m 45 #[.val (.ref q), .val (.int (Lp (a 0))), .val (.double (T (a 1))), .second, .val (.int (Lp (a 1))), .val (.int (0 : Int32)), .unset] [(.int (0 : Int32))])
  refine Go.step (fun _ k => XS.iconst X7.here hx rfl (hb hby d4_45) k) ?_
  show Go _ _ _ _ _ _ _ T7 (mkF m 46 #[.val (.ref q), .val (.int (Lp (a 0))), .val (.double (T (a 1))), .second, .val (.int (Lp (a 1))), .val (.int (0 : Int32)), .unset] [(.int (1 : Int32)), (.int (0 : Int32))])
  refine Go.step (fun _ k => XS.iadd X7.here hx rfl (hb hby d4_46) rfl k) ?_
  show Go _ _ _ _ _ _ _ T7 (mkF m 47 #[.val (.ref q), .val (.int (Lp (a 0))), .val (.double (T (a 1))), .second, .val (.int (Lp (a 1))), .val (.int (0 : Int32)), .unset] [(.int (1 : Int32))])
  refine Go.step (fun _ k => XS.istore X7.here hx rfl (hb hby d4_47) rfl (l' := #[.val (.ref q), .val (.int (Lp (a 0))), .val (.double (T (a 1))), .second, .val (.int (Lp (a 1))), .val (.int (0 : Int32)), .val (.int (1 : Int32))]) rfl k) ?_
  show Go _ _ _ _ _ _ _ T7 (mkF m 49 #[.val (.ref q), .val (.int (Lp (a 0))), .val (.double (T (a 1))), .second, .val (.int (Lp (a 1))), .val (.int (0 : Int32)), .val (.int (1 : Int32))] [])
  refine Go.step (fun _ k => XS.iload X7.here hx rfl (hb hby d4_49) rfl k) ?_
  show Go _ _ _ _ _ _ _ T7 (mkF m 51 #[.val (.ref q), .val (.int (Lp (a 0))), .val (.double (T (a 1))), .second, .val (.int (Lp (a 1))), .val (.int (0 : Int32)), .val (.int (1 : Int32))] [(.int (1 : Int32))])
  refine Go.step (fun _ k => XS.aloadN X7.here hx rfl (hb hby d4_51) rfl rfl k) ?_
  show Go _ _ _ _ _ _ _ T7 (mkF m 52 #[.val (.ref q), .val (.int (Lp (a 0))), .val (.double (T (a 1))), .second, .val (.int (Lp (a 1))), .val (.int (0 : Int32)), .val (.int (1 : Int32))] [(.ref q), (.int (1 : Int32))])
  obtain ⟨T8, X8, e8, st8⟩ := getF X7 hx hZ hown (host := "") (Or.inl (hw _ (List.mem_of_getElem? (i := 20) rfl))) Via.refl e7 F_size_q_3 (g := (mkF m 52 #[.val (.ref q), .val (.int (Lp (a 0))), .val (.double (T (a 1))), .second, .val (.int (Lp (a 1))), .val (.int (0 : Int32)), .val (.int (1 : Int32))] [(.ref q), (.int (1 : Int32))])) rfl rfl (hb hby d4_52)
  refine Go.step st8 ?_
  show Go _ _ _ _ _ _ _ T8 (mkF m 55 #[.val (.ref q), .val (.int (Lp (a 0))), .val (.double (T (a 1))), .second, .val (.int (Lp (a 1))), .val (.int (0 : Int32)), .val (.int (1 : Int32))] [(.int (1 : Int32)), (.int (1 : Int32))])
  refine Go.step (fun _ k => XS.icmpNo X8.here hx rfl (hb hby d4_55) rfl (flt (by decide : ¬ ((1 : Int32) < (1 : Int32)))).1 k) ?_
  show Go _ _ _ _ _ _ _ T8 (mkF m 58 #[.val (.ref q), .val (.int (Lp (a 0))), .val (.double (T (a 1))), .second, .val (.int (Lp (a 1))), .val (.int (0 : Int32)), .val (.int (1 : Int32))] [])
  refine Go.step (fun _ k => XS.goto X8.here hx rfl (pc0 := 58) (pc' := 145) rfl (hb hby d4_58) (by decide) (by decide) k) ?_
  show Go _ _ _ _ _ _ _ T8 (mkF m 145 #[.val (.ref q), .val (.int (Lp (a 0))), .val (.double (T (a 1))), .second, .val (.int (Lp (a 1))), .val (.int (0 : Int32)), .val (.int (1 : Int32))] [])
  refine Go.step (fun _ k => XS.aloadN X8.here hx rfl (hb hby d4_145) rfl rfl k) ?_
  show Go _ _ _ _ _ _ _ T8 (mkF m 146 #[.val (.ref q), .val (.int (Lp (a 0))), .val (.double (T (a 1))), .second, .val (.int (Lp (a 1))), .val (.int (0 : Int32)), .val (.int (1 : Int32))] [(.ref q)])
  obtain ⟨T9, X9, e9, st9⟩ := getF X8 hx hZ hown (host := "") (Or.inl (hw _ (List.mem_of_getElem? (i := 11) rfl))) Via.refl e8 F_times_q_3 (g := (mkF m 146 #[.val (.ref q), .val (.int (Lp (a 0))), .val (.double (T (a 1))), .second, .val (.int (Lp (a 1))), .val (.int (0 : Int32)), .val (.int (1 : Int32))] [(.ref q)])) rfl rfl (hb hby d4_146)
  refine Go.step st9 ?_
  show Go _ _ _ _ _ _ _ T9 (mkF m 149 #[.val (.ref q), .val (.int (Lp (a 0))), .val (.double (T (a 1))), .second, .val (.int (Lp (a 1))), .val (.int (0 : Int32)), .val (.int (1 : Int32))] [(.ref u)])
  refine Go.step (fun _ k => XS.iload X9.here hx rfl (hb hby d4_149) rfl k) ?_
  show Go _ _ _ _ _ _ _ T9 (mkF m 151 #[.val (.ref q), .val (.int (Lp (a 0))), .val (.double (T (a 1))), .second, .val (.int (Lp (a 1))), .val (.int (0 : Int32)), .val (.int (1 : Int32))] [(.int (0 : Int32)), (.ref u)])
  refine Go.step (fun _ k => XS.dloadN X9.here hx rfl (hb hby d4_151) rfl k) ?_
  show Go _ _ _ _ _ _ _ T9 (mkF m 152 #[.val (.ref q), .val (.int (Lp (a 0))), .val (.double (T (a 1))), .second, .val (.int (Lp (a 1))), .val (.int (0 : Int32)), .val (.int (1 : Int32))] [(.double (T (a 1))), (.int (0 : Int32)), (.ref u)])
  refine Go.dastore X9 hx hZ e9 V_u_3 (j := (0 : Int32)) (x := (T (a 1))) (by decide) (hb hby d4_152) ?_
  intro T10 h10 X10 e10 W10 Vn10
  have V_u_10 : Dv Z h10 u (64 : Int32) (updN g 0 (T (a 1))) := Vn10
  have N10 := Fr.snoc X10 N3 ge_u
  have E_q_10 := E_q_3.wr W10
  have F_size_q_10 := F_size_q_3.other W10 (Or.inl ne_q_u)
  have F_times_q_10 := F_times_q_3.other W10 (Or.inl ne_q_u)
  have F_lightpaths_q_10 := F_lightpaths_q_3.other W10 (Or.inl ne_q_u)
  have V_v_10 := V_v_3.other W10 (Ne.symm ne_u_v)
  have K10 : Keep h0 h10 [q, u, v] := K3.wr W10 (Or.inl (List.mem_of_getElem? (i := 1) rfl))
  show Go _ _ _ _ _ _ _ T10 (mkF m 153 #[.val (.ref q), .val (.int (Lp (a 0))), .val (.double (T (a 1))), .second, .val (.int (Lp (a 1))), .val (.int (0 : Int32)), .val (.int (1 : Int32))] [])
  refine Go.step (fun _ k => XS.aloadN X10.here hx rfl (hb hby d4_153) rfl rfl k) ?_
  show Go _ _ _ _ _ _ _ T10 (mkF m 154 #[.val (.ref q), .val (.int (Lp (a 0))), .val (.double (T (a 1))), .second, .val (.int (Lp (a 1))), .val (.int (0 : Int32)), .val (.int (1 : Int32))] [(.ref q)])
  obtain ⟨T11, X11, e11, st11⟩ := getF X10 hx hZ hown (host := "") (Or.inl (hw _ (List.mem_of_getElem? (i := 13) rfl))) Via.refl e10 F_lightpaths_q_10 (g := (mkF m 154 #[.val (.ref q), .val (.int (Lp (a 0))), .val (.double (T (a 1))), .second, .val (.int (Lp (a 1))), .val (.int (0 : Int32)), .val (.int (1 : Int32))] [(.ref q)])) rfl rfl (hb hby d4_154)
  refine Go.step st11 ?_
  show Go _ _ _ _ _ _ _ T11 (mkF m 157 #[.val (.ref q), .val (.int (Lp (a 0))), .val (.double (T (a 1))), .second, .val (.int (Lp (a 1))), .val (.int (0 : Int32)), .val (.int (1 : Int32))] [(.ref v)])
  refine Go.step (fun _ k => XS.iload X11.here hx rfl (hb hby d4_157) rfl k) ?_
  show Go _ _ _ _ _ _ _ T11 (mkF m 159 #[.val (.ref q), .val (.int (Lp (a 0))), .val (.double (T (a 1))), .second, .val (.int (Lp (a 1))), .val (.int (0 : Int32)), .val (.int (1 : Int32))] [(.int (0 : Int32)), (.ref v)])
  refine Go.step (fun _ k => XS.iload X11.here hx rfl (hb hby d4_159) rfl k) ?_
  show Go _ _ _ _ _ _ _ T11 (mkF m 161 #[.val (.ref q), .val (.int (Lp (a 0))), .val (.double (T (a 1))), .second, .val (.int (Lp (a 1))), .val (.int (0 : Int32)), .val (.int (1 : Int32))] [(.int (Lp (a 1))), (.int (0 : Int32)), (.ref v)])
  refine Go.iastore X11 hx hZ e11 V_v_10 (j := (0 : Int32)) (x := (Lp (a 1))) (by decide) (hb hby d4_161) ?_
  intro T12 h12 X12 e12 W12 Vn12
  have V_v_12 : Iv Z h12 v (64 : Int32) (updN l' 0 (Lp (a 1))) := Vn12
  have N12 := Fr.snoc X12 N10 ge_v
  have E_q_12 := E_q_10.wr W12
  have F_size_q_12 := F_size_q_10.other W12 (Or.inl ne_q_v)
  have F_times_q_12 := F_times_q_10.other W12 (Or.inl ne_q_v)
  have F_lightpaths_q_12 := F_lightpaths_q_10.other W12 (Or.inl ne_q_v)
  have V_u_12 := V_u_10.other W12 ne_u_v
  have K12 : Keep h0 h12 [q, u, v] := K10.wr W12 (Or.inl (List.mem_of_getElem? (i := 2) rfl))
  show Go _ _ _ _ _ _ _ T12 (mkF m 162 #[.val (.ref q), .val (.int (Lp (a 0))), .val (.double (T (a 1))), .second, .val (.int (Lp (a 1))), .val (.int (0 : Int32)), .val (.int (1 : Int32))] [])
  refine Go.step (fun _ k => XS.iloadN X12.here hx rfl (hb hby d4_162) rfl k) ?_
  show Go _ _ _ _ _ _ _ T12 (mkF m 163 #[.val (.ref q), .val (.int (Lp (a 0))), .val (.double (T (a 1))), .second, .val (.int (Lp (a 1))), .val (.int (0 : Int32)), .val (.int (1 : Int32))] [(.int (Lp (a 0)))])
  refine Go.retI X12 hx hlk hret (hb hby d4_163) (by decide) (by decide) ?_
  try rw [e12]
  refine ⟨rfl, N12, K12, E_q_12, F_size_q_12, F_times_q_12, F_lightpaths_q_12, _, _, (updN a 0 (a 1)), V_u_12, V_v_12, fun i hi' => by rcases (by omega : i = 0) with rfl <;> first | rfl | simp [updN, hg0, hg1, hl0, hl1], fun i hi' => by rcases (by omega : i = 0) with rfl <;> first | rfl | simp [updN, hg0, hg1, hl0, hl1], ?_, ?_, fun P hP => ?_⟩
  · simp only [HI, updN]; try simp; try omega
  · exact ⟨fun i hi' => by rcases (by omega : i = 0) with rfl <;> simp [updN] <;> omega, fun w => by simp [sumA, updN]; try omega⟩
  · intro i hi'; rcases (by omega : i = 0) with rfl <;> simp [updN] <;> exact hP _ (by decide)
theorem ef_rm_rem2 (m : MethodId) (q : Addr) : entryFrame m #[(.ref q)] 7 = mkF m 0 #[.val (.ref q), .unset, .unset, .unset, .unset, .unset, .unset] [] := by first | (simp [entryFrame, mkF, argsToLocals, Value.category]; done) | rfl
theorem rm_rem2 (l : Launch) (Z : State) (a0 : Array Value) (hw : ∀ d ∈ tables_1, d.before a0 Z = true) (q u v : Addr) (g : Nat → UInt64) (l' : Nat → Int32) (T : Nat → UInt64) (Lp : Nat → Int32) (K : Nat → Int) (a : Nat → Nat) (h0 : Heap) (n0 : Nat) (Z0 : n0 ≤ h0.size) (E_q : Exa Z h0 q "com/example/wavegrade/wavegrade/DepartureQueue") (F_size_q : Fld Z h0 q "com/example/wavegrade/wavegrade/DepartureQueue" "size" "I" (.int (2 : Int32))) (F_times_q : Fld Z h0 q "com/example/wavegrade/wavegrade/DepartureQueue" "times" "[D" (.ref u)) (F_lightpaths_q : Fld Z h0 q "com/example/wavegrade/wavegrade/DepartureQueue" "lightpaths" "[I" (.ref v)) (V_u : Dv Z h0 u (64 : Int32) g) (V_v : Iv Z h0 v (64 : Int32) l') (ne_q_u : q ≠ u) (ne_q_v : q ≠ v) (ne_u_v : u ≠ v) (ge_q : n0 ≤ q) (ge_u : n0 ≤ u) (ge_v : n0 ≤ v) (hT : ∀ x y, FP.dcmp (T x) (T y) = some (compare (K x) (K y))) (hg : ∀ i, i < 2 → g i = T (a i)) (hl : ∀ i, i < 2 → l' i = Lp (a i)) (hi : HI K a 2) :
    Con l Z (⟨"com/example/wavegrade/wavegrade/DepartureQueue", "removeFirst", "()I"⟩ : MethodName) prog_1_method_5_code 7 (some .int) ({ frames := 0, cells := 0, slots := 0, locals := 0 } : Room) #[(.ref q)] h0 (fun r h L => r = some (.int (Lp (a 0))) ∧ Fr n0 L ∧ Keep h0 h [q, u, v] ∧ Exa Z h q "com/example/wavegrade/wavegrade/DepartureQueue" ∧ Fld Z h q "com/example/wavegrade/wavegrade/DepartureQueue" "size" "I" (.int (1 : Int32)) ∧ Fld Z h q "com/example/wavegrade/wavegrade/DepartureQueue" "times" "[D" (.ref u) ∧ Fld Z h q "com/example/wavegrade/wavegrade/DepartureQueue" "lightpaths" "[I" (.ref v) ∧ ∃ (g2 : Nat → UInt64) (l2 : Nat → Int32) (a2 : Nat → Nat), Dv Z h u (64 : Int32) g2 ∧ Iv Z h v (64 : Int32) l2 ∧ (∀ i, i < 1 → g2 i = T (a2 i)) ∧ (∀ i, i < 1 → l2 i = Lp (a2 i)) ∧ HI K a2 1 ∧ ((∀ i, i < 1 → K (a 0) ≤ K (a2 i)) ∧ ∀ w : Nat → Int, sumA w a2 1 + w (a 0) = sumA w a 2) ∧ ∀ P : Nat → Prop, (∀ i, i < 2 → P (a i)) → ∀ i, i < 1 → P (a2 i)) :=
  con_of (plainFor_of_name pn_1) (fun p_ e_ s_ m_ b_ meth_ c_ T_ X_ hx hZ hby hml hown hnm hret hlk e0 => Go.cast (ef_rm_rem2 m_ q) (w_rem2 q u v g l' T Lp K a X_ hx hZ hw hby hml hown hnm hret hlk e0 Z0 (Fr.nil n0) E_q F_size_q F_times_q F_lightpaths_q V_u V_v ne_q_u ne_q_v ne_u_v ge_q ge_u ge_v hT hg hl hi))
set_option maxRecDepth 65536 in
set_option maxHeartbeats 40000000 in
theorem w_rem1 {p : Program} {l : Launch} {e : Env} {s : State} {m : MethodId} {args : Array Value} {below : List Frame} {meth : Method} {c_ : Code} {T0 : State} {locs : List Loc} {Z : State} {a0 : Array Value} {h0 : Heap} {n0 : Nat} (q u v : Addr) (g : Nat → UInt64) (l' : Nat → Int32) (T : Nat → UInt64) (Lp : Nat → Int32) (K : Nat → Int) (a : Nat → Nat)
    (X0 : Stand p l e ({ frames := 0, cells := 0, slots := 0, locals := 0 } : Room) s m args below meth c_ T0 locs 0 0) (hx : p.tables.exec = Jvm.exec) (hZ : Z.Warmed39 s.vm) (hw : ∀ d ∈ tables_1, d.before a0 Z = true) (hby : c_.code = prog_1_method_5_code) (hml : c_.maxLocals = 7) (hown : s.vm.findClass "com/example/wavegrade/wavegrade/DepartureQueue" = some m.cls) (hnm : meth.name = "removeFirst") (hret : meth.sig.returnType = some .int) (hlk : meth.locks = false) (e0 : T0.heap = h0) (Z0 : n0 ≤ h0.size) (N0 : Fr n0 locs) (E_q : Exa Z h0 q "com/example/wavegrade/wavegrade/DepartureQueue") (F_size_q : Fld Z h0 q "com/example/wavegrade/wavegrade/DepartureQueue" "size" "I" (.int (1 : Int32))) (F_times_q : Fld Z h0 q "com/example/wavegrade/wavegrade/DepartureQueue" "times" "[D" (.ref u)) (F_lightpaths_q : Fld Z h0 q "com/example/wavegrade/wavegrade/DepartureQueue" "lightpaths" "[I" (.ref v)) (V_u : Dv Z h0 u (64 : Int32) g) (V_v : Iv Z h0 v (64 : Int32) l') (ne_q_u : q ≠ u) (ne_q_v : q ≠ v) (ne_u_v : u ≠ v) (ge_q : n0 ≤ q) (ge_u : n0 ≤ u) (ge_v : n0 ≤ v) (hT : ∀ x y, FP.dcmp (T x) (T y) = some (compare (K x) (K y))) (hg : ∀ i, i < 1 → g i = T (a i)) (hl : ∀ i, i < 1 → l' i = Lp (a i)) (hi : HI K a 1) :
    Go p e below s ({ frames := 0, cells := 0, slots := 0, locals := 0 } : Room).cells ({ frames := 0, cells := 0, slots := 0, locals := 0 } : Room).slots (fun r h L => r = some (.int (Lp (a 0))) ∧ Fr n0 L ∧ Keep h0 h [q, u, v] ∧ Exa Z h q "com/example/wavegrade/wavegrade/DepartureQueue" ∧ Fld Z h q "com/example/wavegrade/wavegrade/DepartureQueue" "size" "I" (.int (0 : Int32)) ∧ Fld Z h q "com/example/wavegrade/wavegrade/DepartureQueue" "times" "[D" (.ref u) ∧ Fld Z h q "com/example/wavegrade/wavegrade/DepartureQueue" "lightpaths" "[I" (.ref v) ∧ ∃ (g2 : Nat → UInt64) (l2 : Nat → Int32) (a2 : Nat → Nat), Dv Z h u (64 : Int32) g2 ∧ Iv Z h v (64 : Int32) l2 ∧ (∀ i, i < 0 → g2 i = T (a2 i)) ∧ (∀ i, i < 0 → l2 i = Lp (a2 i)) ∧ HI K a2 0 ∧ ((∀ i, i < 0 → K (a 0) ≤ K (a2 i)) ∧ ∀ w : Nat → Int, sumA w a2 0 + w (a 0) = sumA w a 1) ∧ ∀ P : Nat → Prop, (∀ i, i < 1 → P (a i)) → ∀ i, i < 0 → P (a2 i)) T0 (mkF m 0 #[.val (.ref q), .unset, .unset, .unset, .unset, .unset, .unset] []) := by
  have hg0 := hg 0 (by decide)
  have hl0 := hl 0 (by decide)
  simp only [HI] at hi
  show Go _ _ _ _ _ _ _ T0 (mkF m 0 #[.val (.ref q), .unset, .unset, .unset, .unset, .unset, .unset] [])
  refine Go.step (fun _ k => XS.aloadN X0.here hx rfl (hb hby d4_0) rfl rfl k) ?_
  show Go _ _ _ _ _ _ _ T0 (mkF m 1 #[.val (.ref q), .unset, .unset, .unset, .unset, .unset, .unset] [(.ref q)])
  obtain ⟨T1, X1, e1, st1⟩ := getF X0 hx hZ hown (host := "") (Or.inl (hw _ (List.mem_of_getElem? (i := 13) rfl))) Via.refl e0 F_lightpaths_q (g := (mkF m 1 #[.val (.ref q), .unset, .unset, .unset, .unset, .unset, .unset] [(.ref q)])) rfl rfl (hb hby d4_1)
  refine Go.step st1 ?_
  show Go _ _ _ _ _ _ _ T1 (mkF m 4 #[.val (.ref q), .unset, .unset, .unset, .unset, .unset, .unset] [(.ref v)])
  refine Go.step (fun _ k => XS.iconst X1.here hx rfl (hb hby d4_4) k) ?_
  show Go _ _ _ _ _ _ _ T1 (mkF m 5 #[.val (.ref q), .unset, .unset, .unset, .unset, .unset, .unset] [(.int (0 : Int32)), (.ref v)])
  refine Go.iaload X1 hx hZ e1 V_v (j := (0 : Int32)) (v := (Lp (a 0))) (by decide) (by first | rfl | simp [updN, hg0, hl0]) (hb hby d4_5) ?_
  show Go _ _ _ _ _ _ _ T1 (mkF m 6 #[.val (.ref q), .unset, .unset, .unset, .unset, .unset, .unset] [(.int (Lp (a 0)))])
  refine Go.step (fun _ k => XS.istoreN X1.here hx rfl (hb hby d4_6) rfl (l' := #[.val (.ref q), .val (.int (Lp (a 0))), .unset, .unset, .unset, .unset, .unset]) rfl k) ?_
  show Go _ _ _ _ _ _ _ T1 (mkF m 7 #[.val (.ref q), .val (.int (Lp (a 0))), .unset, .unset, .unset, .unset, .unset] [])
  refine Go.step (fun _ k => XS.aloadN X1.here hx rfl (hb hby d4_7) rfl rfl k) ?_
  show Go _ _ _ _ _ _ _ T1 (mkF m 8 #[.val (.ref q), .val (.int (Lp (a 0))), .unset, .unset, .unset, .unset, .unset] [(.ref q)])
  refine Go.step (fun _ k => XS.dup X1.here hx rfl (hb hby d4_8) rfl rfl k) ?_
  show Go _ _ _ _ _ _ _ T1 (mkF m 9 #[.val (.ref q), .val (.int (Lp (a 0))), .unset, .unset, .unset, .unset, .unset] [(.ref q), (.ref q)])
  obtain ⟨T2, X2, e2, st2⟩ := getF X1 hx hZ hown (host := "") (Or.inl (hw _ (List.mem_of_getElem? (i := 20) rfl))) Via.refl e1 F_size_q (g := (mkF m 9 #[.val (.ref q), .val (.int (Lp (a 0))), .unset, .unset, .unset, .unset, .unset] [(.ref q), (.ref q)])) rfl rfl (hb hby d4_9)
  refine Go.step st2 ?_
  show Go _ _ _ _ _ _ _ T2 (mkF m 12 #[.val (.ref q), .val (.int (Lp (a 0))), .unset, .unset, .unset, .unset, .unset] [(.int (1 : Int32)), (.ref q)])
  refine Go.step (fun _ k => XS.iconst X2.here hx rfl (hb hby d4_12) k) ?_
  show Go _ _ _ _ _ _ _ T2 (mkF m 13 #[.val (.ref q), .val (.int (Lp (a 0))), .unset, .unset, .unset, .unset, .unset] [(.int (1 : Int32)), (.int (1 : Int32)), (.ref q)])
  refine Go.step (fun _ k => XS.isub X2.here hx rfl (hb hby d4_13) rfl k) ?_
  show Go _ _ _ _ _ _ _ T2 (mkF m 14 #[.val (.ref q), .val (.int (Lp (a 0))), .unset, .unset, .unset, .unset, .unset] [(.int (0 : Int32)), (.ref q)])
  obtain ⟨T3, h3, X3, e3, W3, st3⟩ := putF X2 hx hZ hown (host := "") (Or.inl (hw _ (List.mem_of_getElem? (i := 20) rfl))) Via.refl e2 F_size_q E_q (Or.inl (hw _ (List.mem_of_getElem? (i := 21) rfl))) (hw _ (List.mem_of_getElem? (i := 2) rfl)) (ty := .int) (by decide) rfl rfl (g := (mkF m 14 #[.val (.ref q), .val (.int (Lp (a 0))), .unset, .unset, .unset, .unset, .unset] [(.int (0 : Int32)), (.ref q)])) rfl rfl (hb hby d4_14)
  refine Go.step st3 ?_
  have N3 := Fr.snoc X3 N0 ge_q
  have F_size_q_3 := F_size_q.same W3
  have E_q_3 := E_q.wr W3
  have F_times_q_3 := F_times_q.other W3 (Or.inr (slot_ne (Or.inl (hw _ (List.mem_of_getElem? (i := 12) rfl))) (Or.inl (hw _ (List.mem_of_getElem? (i := 21) rfl))) (by decide) (t := (.array .double)) (t' := .int) (by decide) (by decide)))
  have F_lightpaths_q_3 := F_lightpaths_q.other W3 (Or.inr (slot_ne (Or.inl (hw _ (List.mem_of_getElem? (i := 14) rfl))) (Or.inl (hw _ (List.mem_of_getElem? (i := 21) rfl))) (by decide) (t := (.array .int)) (t' := .int) (by decide) (by decide)))
  have V_u_3 := V_u.other W3 (Ne.symm ne_q_u)
  have V_v_3 := V_v.other W3 (Ne.symm ne_q_v)
  have K3 : Keep h0 h3 [q, u, v] := (Keep.refl h0 [q, u, v]).wr W3 (Or.inl (List.mem_of_getElem? (i := 0) rfl))
  show Go _ _ _ _ _ _ _ T3 (mkF m 17 #[.val (.ref q), .val (.int (Lp (a 0))), .unset, .unset, .unset, .unset, .unset] [])
  refine Go.step (fun _ k => XS.aloadN X3.here hx rfl (hb hby d4_17) rfl rfl k) ?_
  show Go _ _ _ _ _ _ _ T3 (mkF m 18 #[.val (.ref q), .val (.int (Lp (a 0))), .unset, .unset, .unset, .unset, .unset] [(.ref q)])
  obtain ⟨T4, X4, e4, st4⟩ := getF X3 hx hZ hown (host := "") (Or.inl (hw _ (List.mem_of_getElem? (i := 11) rfl))) Via.refl e3 F_times_q_3 (g := (mkF m 18 #[.val (.ref q), .val (.int (Lp (a 0))), .unset, .unset, .unset, .unset, .unset] [(.ref q)])) rfl rfl (hb hby d4_18)
  refine Go.step st4 ?_
  show Go _ _ _ _ _ _ _ T4 (mkF m 21 #[.val (.ref q), .val (.int (Lp (a 0))), .unset, .unset, .unset, .unset, .unset] [(.ref u)])
  refine Go.step (fun _ k => XS.aloadN X4.here hx rfl (hb hby d4_21) rfl rfl k) ?_
  show Go _ _ _ _ _ _ _ T4 (mkF m 22 #[.val (.ref q), .val (.int (Lp (a 0))), .unset, .unset, .unset, .unset, .unset] [(.ref q), (.ref u)])
  obtain ⟨T5, X5, e5, st5⟩ := getF X4 hx hZ hown (host := "") (Or.inl (hw _ (List.mem_of_getElem? (i := 20) rfl))) Via.refl e4 F_size_q_3 (g := (mkF m 22 #[.val (.ref q), .val (.int (Lp (a 0))), .unset, .unset, .unset, .unset, .unset] [(.ref q), (.ref u)])) rfl rfl (hb hby d4_22)
  refine Go.step st5 ?_
  show Go _ _ _ _ _ _ _ T5 (mkF m 25 #[.val (.ref q), .val (.int (Lp (a 0))), .unset, .unset, .unset, .unset, .unset] [(.int (0 : Int32)), (.ref u)])
  refine Go.daload X5 hx hZ e5 V_u_3 (j := (0 : Int32)) (v := (T (a 0))) (by decide) (by first | rfl | simp [updN, hg0, hl0]) (hb hby d4_25) ?_
  show Go _ _ _ _ _ _ _ T5 (mkF m 26 #[.val (.ref q), .val (.int (Lp (a 0))), .unset, .unset, .unset, .unset, .unset] [(.double (T (a 0)))])
  refine Go.step (fun _ k => XS.dstoreN X5.here hx rfl (hb hby d4_26) rfl (l' := #[.val (.ref q), .val (.int (Lp (a 0))), .val (.double (T (a 0))), .second, .unset, .unset, .unset]) rfl k) ?_
  show Go _ _ _ _ _ _ _ T5 (mkF m 27 #[.val (.ref q), .val (.int (Lp (a 0))), .val (.double (T (a 0))), .second, .unset, .unset, .unset] [])
  refine Go.step (fun _ k => XS.aloadN X5.here hx rfl (hb hby d4_27) rfl rfl k) ?_
  show Go _ _ _ _ _ _ _ T5 (mkF m 28 #[.val (.ref q), .val (.int (Lp (a 0))), .val (.double (T (a 0))), .second, .unset, .unset, .unset] [(.ref q)])
  obtain ⟨T6, X6, e6, st6⟩ := getF X5 hx hZ hown (host := "") (Or.inl (hw _ (List.mem_of_getElem? (i := 13) rfl))) Via.refl e5 F_lightpaths_q_3 (g := (mkF m 28 #[.val (.ref q), .val (.int (Lp (a 0))), .val (.double (T (a 0))), .second, .unset, .unset, .unset] [(.ref q)])) rfl rfl (hb hby d4_28)
  refine Go.step st6 ?_
  show Go _ _ _ _ _ _ _ T6 (mkF m 31 #[.val (.ref q), .val (.int (Lp (a 0))), .val (.double (T (a 0))), .second, .unset, .unset, .unset] [(.ref v)])
  refine Go.step (fun _ k => XS.aloadN X6.here hx rfl (hb hby d4_31) rfl rfl k) ?_
  show Go _ _ _ _ _ _ _ T6 (mkF m 32 #[.val (.ref q), .val (.int (Lp (a 0))), .val (.double (T (a 0))), .second, .unset, .unset, .unset] [(.ref q), (.ref v)])
  obtain ⟨T7, X7, e7, st7⟩ := getF X6 hx hZ hown (host := "") (Or.inl (hw _ (List.mem_of_getElem? (i := 20) rfl))) Via.refl e6 F_size_q_3 (g := (mkF m 32 #[.val (.ref q), .val (.int (Lp (a 0))), .val (.double (T (a 0))), .second, .unset, .unset, .unset] [(.ref q), (.ref v)])) rfl rfl (hb hby d4_32)
  refine Go.step st7 ?_
  show Go _ _ _ _ _ _ _ T7 (mkF m 35 #[.val (.ref q), .val (.int (Lp (a 0))), .val (.double (T (a 0))), .second, .unset, .unset, .unset] [(.int (0 : Int32)), (.ref v)])
  refine Go.iaload X7 hx hZ e7 V_v_3 (j := (0 : Int32)) (v := (Lp (a 0))) (by decide) (by first | rfl | simp [updN, hg0, hl0]) (hb hby d4_35) ?_
  show Go _ _ _ _ _ _ _ T7 (mkF m 36 #[.val (.ref q), .val (.int (Lp (a 0))), .val (.double (T (a 0))), .second, .unset, .unset, .unset] [(.int (Lp (a 0)))])
  refine Go.step (fun _ k => XS.istore X7.here hx rfl (hb hby d4_36) rfl (l' := #[.val (.ref q), .val (.int (Lp (a 0))), .val (.double (T (a 0))), .second, .val (.int (Lp (a 0))), .unset, .unset]) rfl k) ?_
  show Go _ _ _ _ _ _ _ T7 (mkF m 38 #[.val (.ref q), .val (.int (Lp (a 0))), .val (.double (T (a 0))), .second, .val (.int (Lp (a 0))), .unset, .unset] [])
  refine Go.step (fun _ k => XS.iconst X7.here hx rfl (hb hby d4_38) k) ?_
  show Go _ _ _ _ _ _ _ T7 (mkF m 39 #[.val (.ref q), .val (.int (Lp (a 0))), .val (.double (T (a 0))), .second, .val (.int (Lp (a 0))), .unset, .unset] [(.int (0 : Int32))])
  refine Go.step (fun _ k => XS.istore X7.here hx rfl (hb hby d4_39) rfl (l' := #[.val (.ref q), .val (.int (Lp (a 0))), .val (.double (T (a 0))), .second, .val (.int (Lp (a 0))), .val (.int (0 : Int32)), .unset]) rfl k) ?_
  show Go _ _ _ _ _ _ _ T7 (mkF m 41 #[.val (.ref q), .val (.int (Lp (a 0))), .val (.double (T (a 0))), .second, .val (.int (Lp (a 0))), .val (.int (0 : Int32)), .unset] [])
  refine Go.step (fun _ k => XS.iconst X7.here hx rfl (hb hby d4_41) k) ?_
  show Go _ _ _ _ _ _ _ T7 (mkF m 42 #[.val (.ref q), .val (.int (Lp (a 0))), .val (.double (T (a 0))), .second, .val (.int (Lp (a 0))), .val (.int (0 : Int32)), .unset] [(.int (2 : Int32))])
  refine Go.step (fun _ k => XS.iload X7.here hx rfl (hb hby d4_42) rfl k) ?_
  show Go _ _ _ _ _ _ _ T7 (mkF m 44 #[.val (.ref q), .val (.int (Lp (a 0))), .val (.double (T (a 0))), .second, .val (.int (Lp (a 0))), .val (.int (0 : Int32)), .unset] [(.int (0 : Int32)), (.int (2 : Int32))])
  refine Go.step (fun _ k => XS.imul X7.here hx rfl (hb hby d4_44) rfl k) ?_
  show Go _ _ _ _ _ _ _ T7 (mkF m 45 #[.val (.ref q), .val (.int (Lp (a 0))), .val (.double (T (a 0))), .second, .val (.int (Lp (a 0))), .val (.int (0 : Int32)), .unset] [(.int (0 : Int32))])
  refine Go.step (fun _ k => XS.iconst X7.here hx rfl (hb hby d4_45) k) ?_
  show Go _ _ _ _ _ _ _ T7 (mkF m 46 #[.val (.ref q), .val (.int (Lp (a 0))), .val (.double (T (a 0))), .second, .val (.int (Lp (a 0))), .val (.int (0 : Int32)), .unset] [(.int (1 : Int32)), (.int (0 : Int32))])
  refine Go.step (fun _ k => XS.iadd X7.here hx rfl (hb hby d4_46) rfl k) ?_
  show Go _ _ _ _ _ _ _ T7 (mkF m 47 #[.val (.ref q), .val (.int (Lp (a 0))), .val (.double (T (a 0))), .second, .val (.int (Lp (a 0))), .val (.int (0 : Int32)), .unset] [(.int (1 : Int32))])
  refine Go.step (fun _ k => XS.istore X7.here hx rfl (hb hby d4_47) rfl (l' := #[.val (.ref q), .val (.int (Lp (a 0))), .val (.double (T (a 0))), .second, .val (.int (Lp (a 0))), .val (.int (0 : Int32)), .val (.int (1 : Int32))]) rfl k) ?_
  show Go _ _ _ _ _ _ _ T7 (mkF m 49 #[.val (.ref q), .val (.int (Lp (a 0))), .val (.double (T (a 0))), .second, .val (.int (Lp (a 0))), .val (.int (0 : Int32)), .val (.int (1 : Int32))] [])
  refine Go.step (fun _ k => XS.iload X7.here hx rfl (hb hby d4_49) rfl k) ?_
  show Go _ _ _ _ _ _ _ T7 (mkF m 51 #[.val (.ref q), .val (.int (Lp (a 0))), .val (.double (T (a 0))), .second, .val (.int (Lp (a 0))), .val (.int (0 : Int32)), .val (.int (1 : Int32))] [(.int (1 : Int32))])
  refine Go.step (fun _ k => XS.aloadN X7.here hx rfl (hb hby d4_51) rfl rfl k) ?_
  show Go _ _ _ _ _ _ _ T7 (mkF m 52 #[.val (.ref q), .val (.int (Lp (a 0))), .val (.double (T (a 0))), .second, .val (.int (Lp (a 0))), .val (.int (0 : Int32)), .val (.int (1 : Int32))] [(.ref q), (.int (1 : Int32))])
  obtain ⟨T8, X8, e8, st8⟩ := getF X7 hx hZ hown (host := "") (Or.inl (hw _ (List.mem_of_getElem? (i := 20) rfl))) Via.refl e7 F_size_q_3 (g := (mkF m 52 #[.val (.ref q), .val (.int (Lp (a 0))), .val (.double (T (a 0))), .second, .val (.int (Lp (a 0))), .val (.int (0 : Int32)), .val (.int (1 : Int32))] [(.ref q), (.int (1 : Int32))])) rfl rfl (hb hby d4_52)
  refine Go.step st8 ?_
  show Go _ _ _ _ _ _ _ T8 (mkF m 55 #[.val (.ref q), .val (.int (Lp (a 0))), .val (.double (T (a 0))), .second, .val (.int (Lp (a 0))), .val (.int (0 : Int32)), .val (.int (1 : Int32))] [(.int (0 : Int32)), (.int (1 : Int32))])
  refine Go.step (fun _ k => XS.icmpNo X8.here hx rfl (hb hby d4_55) rfl (flt (by decide : ¬ ((1 : Int32) < (0 : Int32)))).1 k) ?_
  show Go _ _ _ _ _ _ _ T8 (mkF m 58 #[.val (.ref q), .val (.int (Lp (a 0))), .val (.double (T (a 0))), .second, .val (.int (Lp (a 0))), .val (.int (0 : Int32)), .val (.int (1 : Int32))] [])
  refine Go.step (fun _ k => XS.goto X8.here hx rfl (pc0 := 58) (pc' := 145) rfl (hb hby d4_58) (by decide) (by decide) k) ?_
  show Go _ _ _ _ _ _ _ T8 (mkF m 145 #[.val (.ref q), .val (.int (Lp (a 0))), .val (.double (T (a 0))), .second, .val (.int (Lp (a 0))), .val (.int (0 : Int32)), .val (.int (1 : Int32))] [])
  refine Go.step (fun _ k => XS.aloadN X8.here hx rfl (hb hby d4_145) rfl rfl k) ?_
  show Go _ _ _ _ _ _ _ T8 (mkF m 146 #[.val (.ref q), .val (.int (Lp (a 0))), .val (.double (T (a 0))), .second, .val (.int (Lp (a 0))), .val (.int (0 : Int32)), .val (.int (1 : Int32))] [(.ref q)])
  obtain ⟨T9, X9, e9, st9⟩ := getF X8 hx hZ hown (host := "") (Or.inl (hw _ (List.mem_of_getElem? (i := 11) rfl))) Via.refl e8 F_times_q_3 (g := (mkF m 146 #[.val (.ref q), .val (.int (Lp (a 0))), .val (.double (T (a 0))), .second, .val (.int (Lp (a 0))), .val (.int (0 : Int32)), .val (.int (1 : Int32))] [(.ref q)])) rfl rfl (hb hby d4_146)
  refine Go.step st9 ?_
  show Go _ _ _ _ _ _ _ T9 (mkF m 149 #[.val (.ref q), .val (.int (Lp (a 0))), .val (.double (T (a 0))), .second, .val (.int (Lp (a 0))), .val (.int (0 : Int32)), .val (.int (1 : Int32))] [(.ref u)])
  refine Go.step (fun _ k => XS.iload X9.here hx rfl (hb hby d4_149) rfl k) ?_
  show Go _ _ _ _ _ _ _ T9 (mkF m 151 #[.val (.ref q), .val (.int (Lp (a 0))), .val (.double (T (a 0))), .second, .val (.int (Lp (a 0))), .val (.int (0 : Int32)), .val (.int (1 : Int32))] [(.int (0 : Int32)), (.ref u)])
  refine Go.step (fun _ k => XS.dloadN X9.here hx rfl (hb hby d4_151) rfl k) ?_
  show Go _ _ _ _ _ _ _ T9 (mkF m 152 #[.val (.ref q), .val (.int (Lp (a 0))), .val (.double (T (a 0))), .second, .val (.int (Lp (a 0))), .val (.int (0 : Int32)), .val (.int (1 : Int32))] [(.double (T (a 0))), (.int (0 : Int32)), (.ref u)])
  refine Go.dastore X9 hx hZ e9 V_u_3 (j := (0 : Int32)) (x := (T (a 0))) (by decide) (hb hby d4_152) ?_
  intro T10 h10 X10 e10 W10 Vn10
  have V_u_10 : Dv Z h10 u (64 : Int32) (updN g 0 (T (a 0))) := Vn10
  have N10 := Fr.snoc X10 N3 ge_u
  have E_q_10 := E_q_3.wr W10
  have F_size_q_10 := F_size_q_3.other W10 (Or.inl ne_q_u)
  have F_times_q_10 := F_times_q_3.other W10 (Or.inl ne_q_u)
  have F_lightpaths_q_10 := F_lightpaths_q_3.other W10 (Or.inl ne_q_u)
  have V_v_10 := V_v_3.other W10 (Ne.symm ne_u_v)
  have K10 : Keep h0 h10 [q, u, v] := K3.wr W10 (Or.inl (List.mem_of_getElem? (i := 1) rfl))
  show Go _ _ _ _ _ _ _ T10 (mkF m 153 #[.val (.ref q), .val (.int (Lp (a 0))), .val (.double (T (a 0))), .second, .val (.int (Lp (a 0))), .val (.int (0 : Int32)), .val (.int (1 : Int32))] [])
  refine Go.step (fun _ k => XS.aloadN X10.here hx rfl (hb hby d4_153) rfl rfl k) ?_
  show Go _ _ _ _ _ _ _ T10 (mkF m 154 #[.val (.ref q), .val (.int (Lp (a 0))), .val (.double (T (a 0))), .second, .val (.int (Lp (a 0))), .val (.int (0 : Int32)), .val (.int (1 : Int32))] [(.ref q)])
  obtain ⟨T11, X11, e11, st11⟩ := getF X10 hx hZ hown (host := "") (Or.inl (hw _ (List.mem_of_getElem? (i := 13) rfl))) Via.refl e10 F_lightpaths_q_10 (g := (mkF m 154 #[.val (.ref q), .val (.int (Lp (a 0))), .val (.double (T (a 0))), .second, .val (.int (Lp (a 0))), .val (.int (0 : Int32)), .val (.int (1 : Int32))] [(.ref q)])) rfl rfl (hb hby d4_154)
  refine Go.step st11 ?_
  show Go _ _ _ _ _ _ _ T11 (mkF m 157 #[.val (.ref q), .val (.int (Lp (a 0))), .val (.double (T (a 0))), .second, .val (.int (Lp (a 0))), .val (.int (0 : Int32)), .val (.int (1 : Int32))] [(.ref v)])
  refine Go.step (fun _ k => XS.iload X11.here hx rfl (hb hby d4_157) rfl k) ?_
  show Go _ _ _ _ _ _ _ T11 (mkF m 159 #[.val (.ref q), .val (.int (Lp (a 0))), .val (.double (T (a 0))), .second, .val (.int (Lp (a 0))), .val (.int (0 : Int32)), .val (.int (1 : Int32))] [(.int (0 : Int32)), (.ref v)])
  refine Go.step (fun _ k => XS.iload X11.here hx rfl (hb hby d4_159) rfl k) ?_
  show Go _ _ _ _ _ _ _ T11 (mkF m 161 #[.val (.ref q), .val (.int (Lp (a 0))), .val (.double (T (a 0))), .second, .val (.int (Lp (a 0))), .val (.int (0 : Int32)), .val (.int (1 : Int32))] [(.int (Lp (a 0))), (.int (0 : Int32)), (.ref v)])
  refine Go.iastore X11 hx hZ e11 V_v_10 (j := (0 : Int32)) (x := (Lp (a 0))) (by decide) (hb hby d4_161) ?_
  intro T12 h12 X12 e12 W12 Vn12
  have V_v_12 : Iv Z h12 v (64 : Int32) (updN l' 0 (Lp (a 0))) := Vn12
  have N12 := Fr.snoc X12 N10 ge_v
  have E_q_12 := E_q_10.wr W12
  have F_size_q_12 := F_size_q_10.other W12 (Or.inl ne_q_v)
  have F_times_q_12 := F_times_q_10.other W12 (Or.inl ne_q_v)
  have F_lightpaths_q_12 := F_lightpaths_q_10.other W12 (Or.inl ne_q_v)
  have V_u_12 := V_u_10.other W12 ne_u_v
  have K12 : Keep h0 h12 [q, u, v] := K10.wr W12 (Or.inl (List.mem_of_getElem? (i := 2) rfl))
  show Go _ _ _ _ _ _ _ T12 (mkF m 162 #[.val (.ref q), .val (.int (Lp (a 0))), .val (.double (T (a 0))), .second, .val (.int (Lp (a 0))), .val (.int (0 : Int32)), .val (.int (1 : Int32))] [])
  refine Go.step (fun _ k => XS.iloadN X12.here hx rfl (hb hby d4_162) rfl k) ?_
  show Go _ _ _ _ _ _ _ T12 (mkF m 163 #[.val (.ref q), .val (.int (Lp (a 0))), .val (.double (T (a 0))), .second, .val (.int (Lp (a 0))), .val (.int (0 : Int32)), .val (.int (1 : Int32))] [(.int (Lp (a 0)))])
  refine Go.retI X12 hx hlk hret (hb hby d4_163) (by decide) (by decide) ?_
  try rw [e12]
  refine ⟨rfl, N12, K12, E_q_12, F_size_q_12, F_times_q_12, F_lightpaths_q_12, _, _, (updN a 0 (a 0)), V_u_12, V_v_12, fun i hi' => absurd hi' (by omega), fun i hi' => absurd hi' (by omega), ?_, ?_, fun P hP => ?_⟩
  · simp only [HI, updN]; try simp; try omega
  · exact ⟨fun i hi' => by omega, fun w => by simp [sumA, updN]; try omega⟩
  · intro i hi'; omega
theorem ef_rm_rem1 (m : MethodId) (q : Addr) : entryFrame m #[(.ref q)] 7 = mkF m 0 #[.val (.ref q), .unset, .unset, .unset, .unset, .unset, .unset] [] := by first | (simp [entryFrame, mkF, argsToLocals, Value.category]; done) | rfl
theorem rm_rem1 (l : Launch) (Z : State) (a0 : Array Value) (hw : ∀ d ∈ tables_1, d.before a0 Z = true) (q u v : Addr) (g : Nat → UInt64) (l' : Nat → Int32) (T : Nat → UInt64) (Lp : Nat → Int32) (K : Nat → Int) (a : Nat → Nat) (h0 : Heap) (n0 : Nat) (Z0 : n0 ≤ h0.size) (E_q : Exa Z h0 q "com/example/wavegrade/wavegrade/DepartureQueue") (F_size_q : Fld Z h0 q "com/example/wavegrade/wavegrade/DepartureQueue" "size" "I" (.int (1 : Int32))) (F_times_q : Fld Z h0 q "com/example/wavegrade/wavegrade/DepartureQueue" "times" "[D" (.ref u)) (F_lightpaths_q : Fld Z h0 q "com/example/wavegrade/wavegrade/DepartureQueue" "lightpaths" "[I" (.ref v)) (V_u : Dv Z h0 u (64 : Int32) g) (V_v : Iv Z h0 v (64 : Int32) l') (ne_q_u : q ≠ u) (ne_q_v : q ≠ v) (ne_u_v : u ≠ v) (ge_q : n0 ≤ q) (ge_u : n0 ≤ u) (ge_v : n0 ≤ v) (hT : ∀ x y, FP.dcmp (T x) (T y) = some (compare (K x) (K y))) (hg : ∀ i, i < 1 → g i = T (a i)) (hl : ∀ i, i < 1 → l' i = Lp (a i)) (hi : HI K a 1) :
    Con l Z (⟨"com/example/wavegrade/wavegrade/DepartureQueue", "removeFirst", "()I"⟩ : MethodName) prog_1_method_5_code 7 (some .int) ({ frames := 0, cells := 0, slots := 0, locals := 0 } : Room) #[(.ref q)] h0 (fun r h L => r = some (.int (Lp (a 0))) ∧ Fr n0 L ∧ Keep h0 h [q, u, v] ∧ Exa Z h q "com/example/wavegrade/wavegrade/DepartureQueue" ∧ Fld Z h q "com/example/wavegrade/wavegrade/DepartureQueue" "size" "I" (.int (0 : Int32)) ∧ Fld Z h q "com/example/wavegrade/wavegrade/DepartureQueue" "times" "[D" (.ref u) ∧ Fld Z h q "com/example/wavegrade/wavegrade/DepartureQueue" "lightpaths" "[I" (.ref v) ∧ ∃ (g2 : Nat → UInt64) (l2 : Nat → Int32) (a2 : Nat → Nat), Dv Z h u (64 : Int32) g2 ∧ Iv Z h v (64 : Int32) l2 ∧ (∀ i, i < 0 → g2 i = T (a2 i)) ∧ (∀ i, i < 0 → l2 i = Lp (a2 i)) ∧ HI K a2 0 ∧ ((∀ i, i < 0 → K (a 0) ≤ K (a2 i)) ∧ ∀ w : Nat → Int, sumA w a2 0 + w (a 0) = sumA w a 1) ∧ ∀ P : Nat → Prop, (∀ i, i < 1 → P (a i)) → ∀ i, i < 0 → P (a2 i)) :=
  con_of (plainFor_of_name pn_1) (fun p_ e_ s_ m_ b_ meth_ c_ T_ X_ hx hZ hby hml hown hnm hret hlk e0 => Go.cast (ef_rm_rem1 m_ q) (w_rem1 q u v g l' T Lp K a X_ hx hZ hw hby hml hown hnm hret hlk e0 Z0 (Fr.nil n0) E_q F_size_q F_times_q F_lightpaths_q V_u V_v ne_q_u ne_q_v ne_u_v ge_q ge_u ge_v hT hg hl hi))
theorem d5_0 : decode method_2_code 0 = .ok (.iload_n 0, 1) := by decide +kernel
theorem d5_1 : decode method_2_code 1 = .ok (.ifCond .lt 12, 3) := by decide +kernel
theorem d5_13 : decode method_2_code 13 = .ok (.iconst 0, 1) := by decide +kernel
theorem d5_14 : decode method_2_code 14 = .ok (.ireturn, 1) := by decide +kernel
theorem d5_4 : decode method_2_code 4 = .ok (.iload_n 0, 1) := by decide +kernel
theorem d5_5 : decode method_2_code 5 = .ok (.iconst 5, 1) := by decide +kernel
theorem d5_6 : decode method_2_code 6 = .ok (.if_icmp .ge 7, 3) := by decide +kernel
theorem d5_9 : decode method_2_code 9 = .ok (.iconst 1, 1) := by decide +kernel
theorem d5_10 : decode method_2_code 10 = .ok (.goto 4, 3) := by decide +kernel
set_option maxRecDepth 65536 in
set_option maxHeartbeats 40000000 in
theorem w5 {p : Program} {l : Launch} {e : Env} {s : State} {m : MethodId} {args : Array Value} {below : List Frame} {meth : Method} {c_ : Code} {T0 : State} {locs : List Loc} {Z : State} {a0 : Array Value} {h0 : Heap} {n0 : Nat} (r : Int32)
    (X0 : Stand p l e ({ frames := 0, cells := 0, slots := 0, locals := 0 } : Room) s m args below meth c_ T0 locs 0 0) (hx : p.tables.exec = Jvm.exec) (hZ : Z.Warmed39 s.vm) (hw : ∀ d ∈ tables_1, d.before a0 Z = true) (hby : c_.code = method_2_code) (hml : c_.maxLocals = 1) (hown : s.vm.findClass "com/example/wavegrade/wavegrade/DepartureQueueRemoveFirstPinLaw" = some m.cls) (hnm : meth.name = "ok") (hret : meth.sig.returnType = some .boolean) (hlk : meth.locks = false) (e0 : T0.heap = h0) (Z0 : n0 ≤ h0.size) (N0 : Fr n0 locs)  :
    Go p e below s ({ frames := 0, cells := 0, slots := 0, locals := 0 } : Room).cells ({ frames := 0, cells := 0, slots := 0, locals := 0 } : Room).slots (fun v h L => v = some (.int (okW r)) ∧ Fr n0 L ∧ h = h0) T0 (mkF m 0 #[.val (.int r)] []) := by
  show Go _ _ _ _ _ _ _ T0 (mkF m 0 #[.val (.int r)] [])
  refine Go.step (fun _ k => XS.iloadN X0.here hx rfl (hb hby d5_0) rfl k) ?_
  show Go _ _ _ _ _ _ _ T0 (mkF m 1 #[.val (.int r)] [(.int r)])
  by_cases hc1_1 : r < (0 : Int32)
  · refine Go.step (fun _ k => XS.ifYes X0.here hx rfl (pc0 := 1) (pc' := 13) rfl (hb hby d5_1) rfl ((if0 _ _).trans (tlt hc1_1).1) (by decide) (by decide) k) ?_
    show Go _ _ _ _ _ _ _ T0 (mkF m 13 #[.val (.int r)] [])
    refine Go.step (fun _ k => XS.iconst X0.here hx rfl (hb hby d5_13) k) ?_
    show Go _ _ _ _ _ _ _ T0 (mkF m 14 #[.val (.int r)] [(.int (0 : Int32))])
    refine Go.retZ X0 hx hlk hret (by decide) (hb hby d5_14) (by decide) (by decide) ?_
    try rw [e0]
    exact ⟨by simp only [okW]; rw [if_pos hc1_1], N0, rfl⟩
  · refine Go.step (fun _ k => XS.ifNo X0.here hx rfl (hb hby d5_1) rfl ((if0 _ _).trans (flt hc1_1).1) k) ?_
    show Go _ _ _ _ _ _ _ T0 (mkF m 4 #[.val (.int r)] [])
    refine Go.step (fun _ k => XS.iloadN X0.here hx rfl (hb hby d5_4) rfl k) ?_
    show Go _ _ _ _ _ _ _ T0 (mkF m 5 #[.val (.int r)] [(.int r)])
    refine Go.step (fun _ k => XS.iconst X0.here hx rfl (hb hby d5_5) k) ?_
    show Go _ _ _ _ _ _ _ T0 (mkF m 6 #[.val (.int r)] [(.int (5 : Int32)), (.int r)])
    by_cases hc6_2 : r < (5 : Int32)
    · refine Go.step (fun _ k => XS.icmpNo X0.here hx rfl (hb hby d5_6) rfl (tlt hc6_2).2.1 k) ?_
      show Go _ _ _ _ _ _ _ T0 (mkF m 9 #[.val (.int r)] [])
      refine Go.step (fun _ k => XS.iconst X0.here hx rfl (hb hby d5_9) k) ?_
      show Go _ _ _ _ _ _ _ T0 (mkF m 10 #[.val (.int r)] [(.int (1 : Int32))])
      refine Go.step (fun _ k => XS.goto X0.here hx rfl (pc0 := 10) (pc' := 14) rfl (hb hby d5_10) (by decide) (by decide) k) ?_
      show Go _ _ _ _ _ _ _ T0 (mkF m 14 #[.val (.int r)] [(.int (1 : Int32))])
      refine Go.retZ X0 hx hlk hret (by decide) (hb hby d5_14) (by decide) (by decide) ?_
      try rw [e0]
      exact ⟨by simp only [okW]; rw [if_neg hc1_1]; rw [if_pos hc6_2], N0, rfl⟩
    · refine Go.step (fun _ k => XS.icmpYes X0.here hx rfl (pc0 := 6) (pc' := 13) rfl (hb hby d5_6) rfl (flt hc6_2).2.1 (by decide) (by decide) k) ?_
      show Go _ _ _ _ _ _ _ T0 (mkF m 13 #[.val (.int r)] [])
      refine Go.step (fun _ k => XS.iconst X0.here hx rfl (hb hby d5_13) k) ?_
      show Go _ _ _ _ _ _ _ T0 (mkF m 14 #[.val (.int r)] [(.int (0 : Int32))])
      refine Go.retZ X0 hx hlk hret (by decide) (hb hby d5_14) (by decide) (by decide) ?_
      try rw [e0]
      exact ⟨by simp only [okW]; rw [if_neg hc1_1]; rw [if_neg hc6_2], N0, rfl⟩
theorem pn_5 : plainName "com/example/wavegrade/wavegrade/DepartureQueueRemoveFirstPinLaw" = true := by first | (simp [plainName, overriddenIn]; done) | decide +kernel
theorem ef_rm5 (m : MethodId) (r : Int32) : entryFrame m #[(.int r)] 1 = mkF m 0 #[.val (.int r)] [] := by first | (simp [entryFrame, mkF, argsToLocals, Value.category]; done) | rfl
theorem rm5 (l : Launch) (Z : State) (a0 : Array Value) (hw : ∀ d ∈ tables_1, d.before a0 Z = true) (r : Int32) (h0 : Heap) (n0 : Nat) (Z0 : n0 ≤ h0.size)  :
    Con l Z (⟨"com/example/wavegrade/wavegrade/DepartureQueueRemoveFirstPinLaw", "ok", "(I)Z"⟩ : MethodName) method_2_code 1 (some .boolean) ({ frames := 0, cells := 0, slots := 0, locals := 0 } : Room) #[(.int r)] h0 (fun v h L => v = some (.int (okW r)) ∧ Fr n0 L ∧ h = h0) :=
  con_of (plainFor_of_name pn_5) (fun p_ e_ s_ m_ b_ meth_ c_ T_ X_ hx hZ hby hml hown hnm hret hlk e0 => Go.cast (ef_rm5 m_ r) (w5 r X_ hx hZ hw hby hml hown hnm hret hlk e0 Z0 (Fr.nil n0) ))
theorem pd_0 : parseMethodDescriptor "()V" = some ⟨[], none⟩ := by decide +kernel
theorem pd_1 : parseMethodDescriptor "(DI)V" = some ⟨[.double, .int], none⟩ := by decide +kernel
theorem pd_2 : parseMethodDescriptor "()I" = some ⟨[], some .int⟩ := by decide +kernel
theorem pd_3 : parseMethodDescriptor "(I)Z" = some ⟨[.int], some .boolean⟩ := by decide +kernel
set_option maxRecDepth 65536 in
set_option maxHeartbeats 40000000 in
theorem w0 {p : Program} {l : Launch} {e : Env} {s : State} {m : MethodId} {args : Array Value} {below : List Frame} {meth : Method} {c_ : Code} {T0 : State} {locs : List Loc} {Z : State} {a0 : Array Value} {h0 : Heap} {n0 : Nat} (p0 p1 : Int32)
    (X0 : Stand p l e room_1 s m args below meth c_ T0 locs 0 0) (hx : p.tables.exec = Jvm.exec) (hZ : Z.Warmed39 s.vm) (hw : ∀ d ∈ tables_1, d.before a0 Z = true) (hby : c_.code = code) (hml : c_.maxLocals = maxLocals) (hown : s.vm.findClass "com/example/wavegrade/wavegrade/DepartureQueueRemoveFirstPinLaw" = some m.cls) (hnm : meth.name = "law") (hret : meth.sig.returnType = ret) (hlk : meth.locks = false) (e0 : T0.heap = h0) (Z0 : n0 ≤ h0.size) (N0 : Fr n0 locs)  :
    Go p e below s room_1.cells room_1.slots (fun r h L => r = some (.int 1) ∧ Fr n0 L) T0 (mkF m 0 #[.val (.int p0), .val (.int p1), .unset, .unset, .unset, .unset, .unset, .unset, .unset, .unset] []) := by
  have hret : meth.sig.returnType = some .boolean := hret
  show Go _ _ _ _ _ _ _ T0 (mkF m 0 #[.val (.int p0), .val (.int p1), .unset, .unset, .unset, .unset, .unset, .unset, .unset, .unset] [])
  refine Go.step (fun _ k => XS.iconst X0.here hx rfl (hb hby at_0) k) ?_
  show Go _ _ _ _ _ _ _ T0 (mkF m 1 #[.val (.int p0), .val (.int p1), .unset, .unset, .unset, .unset, .unset, .unset, .unset, .unset] [(.int (5 : Int32))])
  obtain ⟨T1, h1, k1, X1, e1, E1, A1, st1⟩ := newP X0 hx hZ (hw _ (List.mem_of_getElem? (i := 0) rfl)) e0 (g := (mkF m 1 #[.val (.int p0), .val (.int p1), .unset, .unset, .unset, .unset, .unset, .unset, .unset, .unset] [(.int (5 : Int32))])) rfl (hb hby at_1) rfl (by decide) (cap := 5) (by decide) (by decide) (by decide) (by decide)
  obtain ⟨b1, g1⟩ : ∃ z, z = h0.size := ⟨_, rfl⟩
  rw [← g1] at A1 st1
  refine Go.step st1 ?_
  have K1 : Keep h0 h1 [] := (Keep.refl h0 []).ext E1
  have sz_b1 : h0.size ≤ b1 := Nat.le_trans ((Keep.refl h0 []) : Keep h0 h0 []).1 (Nat.le_of_eq g1.symm)
  have ge_b1 : n0 ≤ b1 := Nat.le_trans Z0 sz_b1
  have V_b1 : Iv Z h1 b1 (5 : Int32) (fun _ => (0 : Int32)) := Fv.new A1 (by decide)
  show Go _ _ _ _ _ _ _ T1 (mkF m 3 #[.val (.int p0), .val (.int p1), .unset, .unset, .unset, .unset, .unset, .unset, .unset, .unset] [(.ref b1)])
  refine Go.step (fun _ k => XS.astoreN X1.here hx rfl (hb hby at_3) rfl rfl (l' := #[.val (.int p0), .val (.int p1), .val (.ref b1), .unset, .unset, .unset, .unset, .unset, .unset, .unset]) rfl k) ?_
  show Go _ _ _ _ _ _ _ T1 (mkF m 4 #[.val (.int p0), .val (.int p1), .val (.ref b1), .unset, .unset, .unset, .unset, .unset, .unset, .unset] [])
  refine Go.step (fun _ k => XS.aloadN X1.here hx rfl (hb hby at_4) rfl rfl k) ?_
  show Go _ _ _ _ _ _ _ T1 (mkF m 5 #[.val (.int p0), .val (.int p1), .val (.ref b1), .unset, .unset, .unset, .unset, .unset, .unset, .unset] [(.ref b1)])
  refine Go.step (fun _ k => XS.iconst X1.here hx rfl (hb hby at_5) k) ?_
  show Go _ _ _ _ _ _ _ T1 (mkF m 6 #[.val (.int p0), .val (.int p1), .val (.ref b1), .unset, .unset, .unset, .unset, .unset, .unset, .unset] [(.int (0 : Int32)), (.ref b1)])
  refine Go.step (fun _ k => XS.iloadN X1.here hx rfl (hb hby at_6) rfl k) ?_
  show Go _ _ _ _ _ _ _ T1 (mkF m 7 #[.val (.int p0), .val (.int p1), .val (.ref b1), .unset, .unset, .unset, .unset, .unset, .unset, .unset] [(.int p0), (.int (0 : Int32)), (.ref b1)])
  refine Go.step (fun _ k => XS.bipush X1.here hx rfl (hb hby at_7) k) ?_
  show Go _ _ _ _ _ _ _ T1 (mkF m 9 #[.val (.int p0), .val (.int p1), .val (.ref b1), .unset, .unset, .unset, .unset, .unset, .unset, .unset] [(.int (7 : Int32)), (.int p0), (.int (0 : Int32)), (.ref b1)])
  refine Go.step (fun _ k => XS.iand X1.here hx rfl (hb hby at_9) rfl k) ?_
  show Go _ _ _ _ _ _ _ T1 (mkF m 10 #[.val (.int p0), .val (.int p1), .val (.ref b1), .unset, .unset, .unset, .unset, .unset, .unset, .unset] [(.int (p0 &&& (7 : Int32))), (.int (0 : Int32)), (.ref b1)])
  refine Go.step (fun _ k => XS.iconst X1.here hx rfl (hb hby at_10) k) ?_
  show Go _ _ _ _ _ _ _ T1 (mkF m 11 #[.val (.int p0), .val (.int p1), .val (.ref b1), .unset, .unset, .unset, .unset, .unset, .unset, .unset] [(.int (3 : Int32)), (.int (p0 &&& (7 : Int32))), (.int (0 : Int32)), (.ref b1)])
  refine Go.step (fun _ k => XS.isub X1.here hx rfl (hb hby at_11) rfl k) ?_
  show Go _ _ _ _ _ _ _ T1 (mkF m 12 #[.val (.int p0), .val (.int p1), .val (.ref b1), .unset, .unset, .unset, .unset, .unset, .unset, .unset] [(.int ((p0 &&& (7 : Int32)) - (3 : Int32))), (.int (0 : Int32)), (.ref b1)])
  refine Go.iastore X1 hx hZ e1 V_b1 (j := (0 : Int32)) (x := ((p0 &&& (7 : Int32)) - (3 : Int32))) (by decide) (hb hby at_12) ?_
  intro T2 h2 X2 e2 W2 Vn2
  have V_b1_2 : Iv Z h2 b1 (5 : Int32) (updN (fun _ => (0 : Int32)) 0 ((p0 &&& (7 : Int32)) - (3 : Int32))) := Vn2
  have N2 := Fr.snoc X2 N0 ge_b1
  have K2 : Keep h0 h2 [] := K1.wr W2 (Or.inr sz_b1)
  show Go _ _ _ _ _ _ _ T2 (mkF m 13 #[.val (.int p0), .val (.int p1), .val (.ref b1), .unset, .unset, .unset, .unset, .unset, .unset, .unset] [])
  refine Go.step (fun _ k => XS.aloadN X2.here hx rfl (hb hby at_13) rfl rfl k) ?_
  show Go _ _ _ _ _ _ _ T2 (mkF m 14 #[.val (.int p0), .val (.int p1), .val (.ref b1), .unset, .unset, .unset, .unset, .unset, .unset, .unset] [(.ref b1)])
  refine Go.step (fun _ k => XS.iconst X2.here hx rfl (hb hby at_14) k) ?_
  show Go _ _ _ _ _ _ _ T2 (mkF m 15 #[.val (.int p0), .val (.int p1), .val (.ref b1), .unset, .unset, .unset, .unset, .unset, .unset, .unset] [(.int (1 : Int32)), (.ref b1)])
  refine Go.step (fun _ k => XS.iloadN X2.here hx rfl (hb hby at_15) rfl k) ?_
  show Go _ _ _ _ _ _ _ T2 (mkF m 16 #[.val (.int p0), .val (.int p1), .val (.ref b1), .unset, .unset, .unset, .unset, .unset, .unset, .unset] [(.int p0), (.int (1 : Int32)), (.ref b1)])
  refine Go.step (fun _ k => XS.iconst X2.here hx rfl (hb hby at_16) k) ?_
  show Go _ _ _ _ _ _ _ T2 (mkF m 17 #[.val (.int p0), .val (.int p1), .val (.ref b1), .unset, .unset, .unset, .unset, .unset, .unset, .unset] [(.int (3 : Int32)), (.int p0), (.int (1 : Int32)), (.ref b1)])
  refine Go.step (fun _ k => XS.ishr X2.here hx rfl (hb hby at_17) rfl k) ?_
  show Go _ _ _ _ _ _ _ T2 (mkF m 18 #[.val (.int p0), .val (.int p1), .val (.ref b1), .unset, .unset, .unset, .unset, .unset, .unset, .unset] [(.int (p0 >>> ((3 : Int32) &&& 31))), (.int (1 : Int32)), (.ref b1)])
  refine Go.step (fun _ k => XS.bipush X2.here hx rfl (hb hby at_18) k) ?_
  show Go _ _ _ _ _ _ _ T2 (mkF m 20 #[.val (.int p0), .val (.int p1), .val (.ref b1), .unset, .unset, .unset, .unset, .unset, .unset, .unset] [(.int (7 : Int32)), (.int (p0 >>> ((3 : Int32) &&& 31))), (.int (1 : Int32)), (.ref b1)])
  refine Go.step (fun _ k => XS.iand X2.here hx rfl (hb hby at_20) rfl k) ?_
  show Go _ _ _ _ _ _ _ T2 (mkF m 21 #[.val (.int p0), .val (.int p1), .val (.ref b1), .unset, .unset, .unset, .unset, .unset, .unset, .unset] [(.int ((p0 >>> ((3 : Int32) &&& 31)) &&& (7 : Int32))), (.int (1 : Int32)), (.ref b1)])
  refine Go.step (fun _ k => XS.iconst X2.here hx rfl (hb hby at_21) k) ?_
  show Go _ _ _ _ _ _ _ T2 (mkF m 22 #[.val (.int p0), .val (.int p1), .val (.ref b1), .unset, .unset, .unset, .unset, .unset, .unset, .unset] [(.int (3 : Int32)), (.int ((p0 >>> ((3 : Int32) &&& 31)) &&& (7 : Int32))), (.int (1 : Int32)), (.ref b1)])
  refine Go.step (fun _ k => XS.isub X2.here hx rfl (hb hby at_22) rfl k) ?_
  show Go _ _ _ _ _ _ _ T2 (mkF m 23 #[.val (.int p0), .val (.int p1), .val (.ref b1), .unset, .unset, .unset, .unset, .unset, .unset, .unset] [(.int (((p0 >>> ((3 : Int32) &&& 31)) &&& (7 : Int32)) - (3 : Int32))), (.int (1 : Int32)), (.ref b1)])
  refine Go.iastore X2 hx hZ e2 V_b1_2 (j := (1 : Int32)) (x := (((p0 >>> ((3 : Int32) &&& 31)) &&& (7 : Int32)) - (3 : Int32))) (by decide) (hb hby at_23) ?_
  intro T3 h3 X3 e3 W3 Vn3
  have V_b1_3 : Iv Z h3 b1 (5 : Int32) (updN (updN (fun _ => (0 : Int32)) 0 ((p0 &&& (7 : Int32)) - (3 : Int32))) 1 (((p0 >>> ((3 : Int32) &&& 31)) &&& (7 : Int32)) - (3 : Int32))) := Vn3
  have N3 := Fr.snoc X3 N2 ge_b1
  have K3 : Keep h0 h3 [] := K2.wr W3 (Or.inr sz_b1)
  show Go _ _ _ _ _ _ _ T3 (mkF m 24 #[.val (.int p0), .val (.int p1), .val (.ref b1), .unset, .unset, .unset, .unset, .unset, .unset, .unset] [])
  refine Go.step (fun _ k => XS.aloadN X3.here hx rfl (hb hby at_24) rfl rfl k) ?_
  show Go _ _ _ _ _ _ _ T3 (mkF m 25 #[.val (.int p0), .val (.int p1), .val (.ref b1), .unset, .unset, .unset, .unset, .unset, .unset, .unset] [(.ref b1)])
  refine Go.step (fun _ k => XS.iconst X3.here hx rfl (hb hby at_25) k) ?_
  show Go _ _ _ _ _ _ _ T3 (mkF m 26 #[.val (.int p0), .val (.int p1), .val (.ref b1), .unset, .unset, .unset, .unset, .unset, .unset, .unset] [(.int (2 : Int32)), (.ref b1)])
  refine Go.step (fun _ k => XS.iloadN X3.here hx rfl (hb hby at_26) rfl k) ?_
  show Go _ _ _ _ _ _ _ T3 (mkF m 27 #[.val (.int p0), .val (.int p1), .val (.ref b1), .unset, .unset, .unset, .unset, .unset, .unset, .unset] [(.int p0), (.int (2 : Int32)), (.ref b1)])
  refine Go.step (fun _ k => XS.bipush X3.here hx rfl (hb hby at_27) k) ?_
  show Go _ _ _ _ _ _ _ T3 (mkF m 29 #[.val (.int p0), .val (.int p1), .val (.ref b1), .unset, .unset, .unset, .unset, .unset, .unset, .unset] [(.int (6 : Int32)), (.int p0), (.int (2 : Int32)), (.ref b1)])
  refine Go.step (fun _ k => XS.ishr X3.here hx rfl (hb hby at_29) rfl k) ?_
  show Go _ _ _ _ _ _ _ T3 (mkF m 30 #[.val (.int p0), .val (.int p1), .val (.ref b1), .unset, .unset, .unset, .unset, .unset, .unset, .unset] [(.int (p0 >>> ((6 : Int32) &&& 31))), (.int (2 : Int32)), (.ref b1)])
  refine Go.step (fun _ k => XS.bipush X3.here hx rfl (hb hby at_30) k) ?_
  show Go _ _ _ _ _ _ _ T3 (mkF m 32 #[.val (.int p0), .val (.int p1), .val (.ref b1), .unset, .unset, .unset, .unset, .unset, .unset, .unset] [(.int (7 : Int32)), (.int (p0 >>> ((6 : Int32) &&& 31))), (.int (2 : Int32)), (.ref b1)])
  refine Go.step (fun _ k => XS.iand X3.here hx rfl (hb hby at_32) rfl k) ?_
  show Go _ _ _ _ _ _ _ T3 (mkF m 33 #[.val (.int p0), .val (.int p1), .val (.ref b1), .unset, .unset, .unset, .unset, .unset, .unset, .unset] [(.int ((p0 >>> ((6 : Int32) &&& 31)) &&& (7 : Int32))), (.int (2 : Int32)), (.ref b1)])
  refine Go.step (fun _ k => XS.iconst X3.here hx rfl (hb hby at_33) k) ?_
  show Go _ _ _ _ _ _ _ T3 (mkF m 34 #[.val (.int p0), .val (.int p1), .val (.ref b1), .unset, .unset, .unset, .unset, .unset, .unset, .unset] [(.int (3 : Int32)), (.int ((p0 >>> ((6 : Int32) &&& 31)) &&& (7 : Int32))), (.int (2 : Int32)), (.ref b1)])
  refine Go.step (fun _ k => XS.isub X3.here hx rfl (hb hby at_34) rfl k) ?_
  show Go _ _ _ _ _ _ _ T3 (mkF m 35 #[.val (.int p0), .val (.int p1), .val (.ref b1), .unset, .unset, .unset, .unset, .unset, .unset, .unset] [(.int (((p0 >>> ((6 : Int32) &&& 31)) &&& (7 : Int32)) - (3 : Int32))), (.int (2 : Int32)), (.ref b1)])
  refine Go.iastore X3 hx hZ e3 V_b1_3 (j := (2 : Int32)) (x := (((p0 >>> ((6 : Int32) &&& 31)) &&& (7 : Int32)) - (3 : Int32))) (by decide) (hb hby at_35) ?_
  intro T4 h4 X4 e4 W4 Vn4
  have V_b1_4 : Iv Z h4 b1 (5 : Int32) (updN (updN (updN (fun _ => (0 : Int32)) 0 ((p0 &&& (7 : Int32)) - (3 : Int32))) 1 (((p0 >>> ((3 : Int32) &&& 31)) &&& (7 : Int32)) - (3 : Int32))) 2 (((p0 >>> ((6 : Int32) &&& 31)) &&& (7 : Int32)) - (3 : Int32))) := Vn4
  have N4 := Fr.snoc X4 N3 ge_b1
  have K4 : Keep h0 h4 [] := K3.wr W4 (Or.inr sz_b1)
  show Go _ _ _ _ _ _ _ T4 (mkF m 36 #[.val (.int p0), .val (.int p1), .val (.ref b1), .unset, .unset, .unset, .unset, .unset, .unset, .unset] [])
  refine Go.step (fun _ k => XS.aloadN X4.here hx rfl (hb hby at_36) rfl rfl k) ?_
  show Go _ _ _ _ _ _ _ T4 (mkF m 37 #[.val (.int p0), .val (.int p1), .val (.ref b1), .unset, .unset, .unset, .unset, .unset, .unset, .unset] [(.ref b1)])
  refine Go.step (fun _ k => XS.iconst X4.here hx rfl (hb hby at_37) k) ?_
  show Go _ _ _ _ _ _ _ T4 (mkF m 38 #[.val (.int p0), .val (.int p1), .val (.ref b1), .unset, .unset, .unset, .unset, .unset, .unset, .unset] [(.int (3 : Int32)), (.ref b1)])
  refine Go.step (fun _ k => XS.iloadN X4.here hx rfl (hb hby at_38) rfl k) ?_
  show Go _ _ _ _ _ _ _ T4 (mkF m 39 #[.val (.int p0), .val (.int p1), .val (.ref b1), .unset, .unset, .unset, .unset, .unset, .unset, .unset] [(.int p0), (.int (3 : Int32)), (.ref b1)])
  refine Go.step (fun _ k => XS.bipush X4.here hx rfl (hb hby at_39) k) ?_
  show Go _ _ _ _ _ _ _ T4 (mkF m 41 #[.val (.int p0), .val (.int p1), .val (.ref b1), .unset, .unset, .unset, .unset, .unset, .unset, .unset] [(.int (9 : Int32)), (.int p0), (.int (3 : Int32)), (.ref b1)])
  refine Go.step (fun _ k => XS.ishr X4.here hx rfl (hb hby at_41) rfl k) ?_
  show Go _ _ _ _ _ _ _ T4 (mkF m 42 #[.val (.int p0), .val (.int p1), .val (.ref b1), .unset, .unset, .unset, .unset, .unset, .unset, .unset] [(.int (p0 >>> ((9 : Int32) &&& 31))), (.int (3 : Int32)), (.ref b1)])
  refine Go.step (fun _ k => XS.bipush X4.here hx rfl (hb hby at_42) k) ?_
  show Go _ _ _ _ _ _ _ T4 (mkF m 44 #[.val (.int p0), .val (.int p1), .val (.ref b1), .unset, .unset, .unset, .unset, .unset, .unset, .unset] [(.int (7 : Int32)), (.int (p0 >>> ((9 : Int32) &&& 31))), (.int (3 : Int32)), (.ref b1)])
  refine Go.step (fun _ k => XS.iand X4.here hx rfl (hb hby at_44) rfl k) ?_
  show Go _ _ _ _ _ _ _ T4 (mkF m 45 #[.val (.int p0), .val (.int p1), .val (.ref b1), .unset, .unset, .unset, .unset, .unset, .unset, .unset] [(.int ((p0 >>> ((9 : Int32) &&& 31)) &&& (7 : Int32))), (.int (3 : Int32)), (.ref b1)])
  refine Go.step (fun _ k => XS.iconst X4.here hx rfl (hb hby at_45) k) ?_
  show Go _ _ _ _ _ _ _ T4 (mkF m 46 #[.val (.int p0), .val (.int p1), .val (.ref b1), .unset, .unset, .unset, .unset, .unset, .unset, .unset] [(.int (3 : Int32)), (.int ((p0 >>> ((9 : Int32) &&& 31)) &&& (7 : Int32))), (.int (3 : Int32)), (.ref b1)])
  refine Go.step (fun _ k => XS.isub X4.here hx rfl (hb hby at_46) rfl k) ?_
  show Go _ _ _ _ _ _ _ T4 (mkF m 47 #[.val (.int p0), .val (.int p1), .val (.ref b1), .unset, .unset, .unset, .unset, .unset, .unset, .unset] [(.int (((p0 >>> ((9 : Int32) &&& 31)) &&& (7 : Int32)) - (3 : Int32))), (.int (3 : Int32)), (.ref b1)])
  refine Go.iastore X4 hx hZ e4 V_b1_4 (j := (3 : Int32)) (x := (((p0 >>> ((9 : Int32) &&& 31)) &&& (7 : Int32)) - (3 : Int32))) (by decide) (hb hby at_47) ?_
  intro T5 h5 X5 e5 W5 Vn5
  have V_b1_5 : Iv Z h5 b1 (5 : Int32) (updN (updN (updN (updN (fun _ => (0 : Int32)) 0 ((p0 &&& (7 : Int32)) - (3 : Int32))) 1 (((p0 >>> ((3 : Int32) &&& 31)) &&& (7 : Int32)) - (3 : Int32))) 2 (((p0 >>> ((6 : Int32) &&& 31)) &&& (7 : Int32)) - (3 : Int32))) 3 (((p0 >>> ((9 : Int32) &&& 31)) &&& (7 : Int32)) - (3 : Int32))) := Vn5
  have N5 := Fr.snoc X5 N4 ge_b1
  have K5 : Keep h0 h5 [] := K4.wr W5 (Or.inr sz_b1)
  show Go _ _ _ _ _ _ _ T5 (mkF m 48 #[.val (.int p0), .val (.int p1), .val (.ref b1), .unset, .unset, .unset, .unset, .unset, .unset, .unset] [])
  refine Go.step (fun _ k => XS.aloadN X5.here hx rfl (hb hby at_48) rfl rfl k) ?_
  show Go _ _ _ _ _ _ _ T5 (mkF m 49 #[.val (.int p0), .val (.int p1), .val (.ref b1), .unset, .unset, .unset, .unset, .unset, .unset, .unset] [(.ref b1)])
  refine Go.step (fun _ k => XS.iconst X5.here hx rfl (hb hby at_49) k) ?_
  show Go _ _ _ _ _ _ _ T5 (mkF m 50 #[.val (.int p0), .val (.int p1), .val (.ref b1), .unset, .unset, .unset, .unset, .unset, .unset, .unset] [(.int (4 : Int32)), (.ref b1)])
  refine Go.step (fun _ k => XS.iloadN X5.here hx rfl (hb hby at_50) rfl k) ?_
  show Go _ _ _ _ _ _ _ T5 (mkF m 51 #[.val (.int p0), .val (.int p1), .val (.ref b1), .unset, .unset, .unset, .unset, .unset, .unset, .unset] [(.int p0), (.int (4 : Int32)), (.ref b1)])
  refine Go.step (fun _ k => XS.bipush X5.here hx rfl (hb hby at_51) k) ?_
  show Go _ _ _ _ _ _ _ T5 (mkF m 53 #[.val (.int p0), .val (.int p1), .val (.ref b1), .unset, .unset, .unset, .unset, .unset, .unset, .unset] [(.int (12 : Int32)), (.int p0), (.int (4 : Int32)), (.ref b1)])
  refine Go.step (fun _ k => XS.ishr X5.here hx rfl (hb hby at_53) rfl k) ?_
  show Go _ _ _ _ _ _ _ T5 (mkF m 54 #[.val (.int p0), .val (.int p1), .val (.ref b1), .unset, .unset, .unset, .unset, .unset, .unset, .unset] [(.int (p0 >>> ((12 : Int32) &&& 31))), (.int (4 : Int32)), (.ref b1)])
  refine Go.step (fun _ k => XS.bipush X5.here hx rfl (hb hby at_54) k) ?_
  show Go _ _ _ _ _ _ _ T5 (mkF m 56 #[.val (.int p0), .val (.int p1), .val (.ref b1), .unset, .unset, .unset, .unset, .unset, .unset, .unset] [(.int (7 : Int32)), (.int (p0 >>> ((12 : Int32) &&& 31))), (.int (4 : Int32)), (.ref b1)])
  refine Go.step (fun _ k => XS.iand X5.here hx rfl (hb hby at_56) rfl k) ?_
  show Go _ _ _ _ _ _ _ T5 (mkF m 57 #[.val (.int p0), .val (.int p1), .val (.ref b1), .unset, .unset, .unset, .unset, .unset, .unset, .unset] [(.int ((p0 >>> ((12 : Int32) &&& 31)) &&& (7 : Int32))), (.int (4 : Int32)), (.ref b1)])
  refine Go.step (fun _ k => XS.iconst X5.here hx rfl (hb hby at_57) k) ?_
  show Go _ _ _ _ _ _ _ T5 (mkF m 58 #[.val (.int p0), .val (.int p1), .val (.ref b1), .unset, .unset, .unset, .unset, .unset, .unset, .unset] [(.int (3 : Int32)), (.int ((p0 >>> ((12 : Int32) &&& 31)) &&& (7 : Int32))), (.int (4 : Int32)), (.ref b1)])
  refine Go.step (fun _ k => XS.isub X5.here hx rfl (hb hby at_58) rfl k) ?_
  show Go _ _ _ _ _ _ _ T5 (mkF m 59 #[.val (.int p0), .val (.int p1), .val (.ref b1), .unset, .unset, .unset, .unset, .unset, .unset, .unset] [(.int (((p0 >>> ((12 : Int32) &&& 31)) &&& (7 : Int32)) - (3 : Int32))), (.int (4 : Int32)), (.ref b1)])
  refine Go.iastore X5 hx hZ e5 V_b1_5 (j := (4 : Int32)) (x := (((p0 >>> ((12 : Int32) &&& 31)) &&& (7 : Int32)) - (3 : Int32))) (by decide) (hb hby at_59) ?_
  intro T6 h6 X6 e6 W6 Vn6
  have V_b1_6 : Iv Z h6 b1 (5 : Int32) (updN (updN (updN (updN (updN (fun _ => (0 : Int32)) 0 ((p0 &&& (7 : Int32)) - (3 : Int32))) 1 (((p0 >>> ((3 : Int32) &&& 31)) &&& (7 : Int32)) - (3 : Int32))) 2 (((p0 >>> ((6 : Int32) &&& 31)) &&& (7 : Int32)) - (3 : Int32))) 3 (((p0 >>> ((9 : Int32) &&& 31)) &&& (7 : Int32)) - (3 : Int32))) 4 (((p0 >>> ((12 : Int32) &&& 31)) &&& (7 : Int32)) - (3 : Int32))) := Vn6
  have N6 := Fr.snoc X6 N5 ge_b1
  have K6 : Keep h0 h6 [] := K5.wr W6 (Or.inr sz_b1)
  show Go _ _ _ _ _ _ _ T6 (mkF m 60 #[.val (.int p0), .val (.int p1), .val (.ref b1), .unset, .unset, .unset, .unset, .unset, .unset, .unset] [])
  obtain ⟨T7, h7, X7, e7, E7, A7, D7, -, st7⟩ := newO X6 hx hZ hown (hw _ (List.mem_of_getElem? (i := 1) rfl)) (hw _ (List.mem_of_getElem? (i := 2) rfl)) (hw _ (List.mem_of_getElem? (i := 3) rfl)) e6 (g := (mkF m 60 #[.val (.int p0), .val (.int p1), .val (.ref b1), .unset, .unset, .unset, .unset, .unset, .unset, .unset] [])) rfl (hb hby at_60) (by decide) (by decide)
  obtain ⟨b7, g7⟩ : ∃ z, z = h6.size := ⟨_, rfl⟩
  rw [← g7] at A7 D7 st7
  refine Go.step st7 ?_
  have K7 : Keep h0 h7 [] := K6.ext E7
  have sz_b7 : h0.size ≤ b7 := Nat.le_trans (K6 : Keep h0 h6 []).1 (Nat.le_of_eq g7.symm)
  have ge_b7 : n0 ≤ b7 := Nat.le_trans Z0 sz_b7
  have ne_b1_b7 : b1 ≠ b7 := Nat.ne_of_lt (Nat.lt_of_lt_of_le V_b1_6.lt (Nat.le_of_eq g7.symm))
  have V_b1_7 := V_b1_6.ext E7
  have E_b7 := A7
  have F_times_b7 : Fld Z h7 b7 "com/example/wavegrade/wavegrade/DepartureQueue" "times" "[D" .null := D7 (Or.inl (hw _ (List.mem_of_getElem? (i := 12) rfl))) (ty := (.array .double)) (by decide)
  have F_lightpaths_b7 : Fld Z h7 b7 "com/example/wavegrade/wavegrade/DepartureQueue" "lightpaths" "[I" .null := D7 (Or.inl (hw _ (List.mem_of_getElem? (i := 14) rfl))) (ty := (.array .int)) (by decide)
  have F_size_b7 : Fld Z h7 b7 "com/example/wavegrade/wavegrade/DepartureQueue" "size" "I" (.int (0 : Int32)) := D7 (Or.inl (hw _ (List.mem_of_getElem? (i := 21) rfl))) (ty := .int) (by decide)
  show Go _ _ _ _ _ _ _ T7 (mkF m 63 #[.val (.int p0), .val (.int p1), .val (.ref b1), .unset, .unset, .unset, .unset, .unset, .unset, .unset] [(.ref b7)])
  refine Go.step (fun _ k => XS.dup X7.here hx rfl (hb hby at_63) rfl rfl k) ?_
  show Go _ _ _ _ _ _ _ T7 (mkF m 64 #[.val (.int p0), .val (.int p1), .val (.ref b1), .unset, .unset, .unset, .unset, .unset, .unset, .unset] [(.ref b7), (.ref b7)])
  refine Go.callI X7 hx hZ (by rw [hml]; rfl) (y := (⟨"com/example/wavegrade/wavegrade/DepartureQueue", "<init>", "()V"⟩ : MethodName)) (a := b7) (argsL := []) (rest := [(.ref b7)]) rfl hown (hw _ (List.mem_of_getElem? (i := 4) rfl)) (hw _ (List.mem_of_getElem? (i := 5) rfl)) (hw _ (List.mem_of_getElem? (i := 3) rfl)) (hw _ (List.mem_of_getElem? (i := 6) rfl)) (by decide) (rm1 l Z a0 hw b7 h7 n0 (Nat.le_trans Z0 (K7 : Keep h0 h7 []).1) E_b7 F_size_b7 F_times_b7 F_lightpaths_b7 ge_b7) e7 (hb hby at_64) (lenOf pd_0 rfl) rfl rfl (W := 1) (Nat.le_of_eq rfl) (by decide) (by decide) (by decide) (by decide) ?_
  intro v8 T8 L8 X8 Q8
  obtain ⟨rfl, N8q, Kc8, Ec8, Fs8, u8, v8, Ft8, Fl8, Vu8, Vv8, nqu8, nqv8, nuv8, su8, sv8⟩ := Q8
  have N8 := Fr.app N6 N8q
  have ne_b1_u8 : b1 ≠ u8 := Nat.ne_of_lt (Nat.lt_of_lt_of_le V_b1_7.lt su8)
  have ne_b1_v8 : b1 ≠ v8 := Nat.ne_of_lt (Nat.lt_of_lt_of_le V_b1_7.lt sv8)
  have V_b1_8 := V_b1_7.keep Kc8 (ninS ne_b1_b7 nin0)
  have E_b7_8 := E_b7.keep Kc8
  have KK8 : Keep h0 T8.heap [] := (K7 : Keep h0 h7 []).trans Kc8 (allS (Or.inr sz_b7) all0)
  have sz_u8 : h0.size ≤ u8 := Nat.le_trans (K7 : Keep h0 h7 []).1 su8
  have ge_u8 : n0 ≤ u8 := Nat.le_trans Z0 sz_u8
  have sz_v8 : h0.size ≤ v8 := Nat.le_trans (K7 : Keep h0 h7 []).1 sv8
  have ge_v8 : n0 ≤ v8 := Nat.le_trans Z0 sz_v8
  have hg8 : ∀ i, i < 0 → (fun _ => (0 : UInt64)) i = (tT p0) ((fun x => x) i) := fun i hi' => absurd hi' (by omega)
  have hl8 : ∀ i, i < 0 → (fun _ => (0 : Int32)) i = (tL p1) ((fun x => x) i) := fun i hi' => absurd hi' (by omega)
  have hi8 : HI (tK p0) (fun x => x) 0 := trivial
  show Go _ _ _ _ _ _ _ T8 (mkF m 67 #[.val (.int p0), .val (.int p1), .val (.ref b1), .unset, .unset, .unset, .unset, .unset, .unset, .unset] [(.ref b7)])
  refine Go.step (fun _ k => XS.astoreN X8.here hx rfl (hb hby at_67) rfl rfl (l' := #[.val (.int p0), .val (.int p1), .val (.ref b1), .val (.ref b7), .unset, .unset, .unset, .unset, .unset, .unset]) rfl k) ?_
  show Go _ _ _ _ _ _ _ T8 (mkF m 68 #[.val (.int p0), .val (.int p1), .val (.ref b1), .val (.ref b7), .unset, .unset, .unset, .unset, .unset, .unset] [])
  refine Go.step (fun _ k => XS.aloadN X8.here hx rfl (hb hby at_68) rfl rfl k) ?_
  show Go _ _ _ _ _ _ _ T8 (mkF m 69 #[.val (.int p0), .val (.int p1), .val (.ref b1), .val (.ref b7), .unset, .unset, .unset, .unset, .unset, .unset] [(.ref b7)])
  refine Go.step (fun _ k => XS.aloadN X8.here hx rfl (hb hby at_69) rfl rfl k) ?_
  show Go _ _ _ _ _ _ _ T8 (mkF m 70 #[.val (.int p0), .val (.int p1), .val (.ref b1), .val (.ref b7), .unset, .unset, .unset, .unset, .unset, .unset] [(.ref b1), (.ref b7)])
  refine Go.step (fun _ k => XS.iconst X8.here hx rfl (hb hby at_70) k) ?_
  show Go _ _ _ _ _ _ _ T8 (mkF m 71 #[.val (.int p0), .val (.int p1), .val (.ref b1), .val (.ref b7), .unset, .unset, .unset, .unset, .unset, .unset] [(.int (0 : Int32)), (.ref b1), (.ref b7)])
  refine Go.iaload X8 hx hZ rfl V_b1_8 (j := (0 : Int32)) (v := ((p0 &&& (7 : Int32)) - (3 : Int32))) (by decide) rfl (hb hby at_71) ?_
  show Go _ _ _ _ _ _ _ T8 (mkF m 72 #[.val (.int p0), .val (.int p1), .val (.ref b1), .val (.ref b7), .unset, .unset, .unset, .unset, .unset, .unset] [(.int ((p0 &&& (7 : Int32)) - (3 : Int32))), (.ref b7)])
  refine Go.step (fun _ k => XS.i2dS X8.here hx rfl (hb hby at_72) rfl rfl k) ?_
  show Go _ _ _ _ _ _ _ T8 (mkF m 73 #[.val (.int p0), .val (.int p1), .val (.ref b1), .val (.ref b7), .unset, .unset, .unset, .unset, .unset, .unset] [(.double (FP.i2d ((p0 &&& (7 : Int32)) - (3 : Int32)))), (.ref b7)])
  refine Go.step (fun _ k => XS.iloadN X8.here hx rfl (hb hby at_73) rfl k) ?_
  show Go _ _ _ _ _ _ _ T8 (mkF m 74 #[.val (.int p0), .val (.int p1), .val (.ref b1), .val (.ref b7), .unset, .unset, .unset, .unset, .unset, .unset] [(.int p1), (.double (FP.i2d ((p0 &&& (7 : Int32)) - (3 : Int32)))), (.ref b7)])
  refine Go.callV X8 hx hZ (by rw [hml]; rfl) (y := (⟨"com/example/wavegrade/wavegrade/DepartureQueue", "add", "(DI)V"⟩ : MethodName)) (z := (⟨"com/example/wavegrade/wavegrade/DepartureQueue", "add", "(DI)V"⟩ : MethodName)) (a := b7) (argsL := [(.double (FP.i2d ((p0 &&& (7 : Int32)) - (3 : Int32)))), (.int p1)]) (rest := []) hown (hw _ (List.mem_of_getElem? (i := 15) rfl)) (hw _ (List.mem_of_getElem? (i := 16) rfl)) (notFace_of_selects (args := #[]) (mvT hZ (hw _ (List.mem_of_getElem? (i := 18) rfl)))) (hw _ (List.mem_of_getElem? (i := 18) rfl)) (hw _ (List.mem_of_getElem? (i := 17) rfl)) (hw _ (List.mem_of_getElem? (i := 3) rfl)) (hw _ (List.mem_of_getElem? (i := 19) rfl)) (by decide) (rm_add0 l Z a0 hw b7 u8 v8 (fun _ => (0 : UInt64)) (fun _ => (0 : Int32)) (tT p0) (tL p1) (tK p0) (fun x => x) 0 T8.heap n0 (Nat.le_trans Z0 (KK8 : Keep h0 T8.heap []).1) Ec8 Fs8 Ft8 Fl8 Vu8 Vv8 nqu8 nqv8 nuv8 ge_b7 ge_u8 ge_v8 (tH p0) hg8 hl8 hi8) rfl Ec8 (hb hby at_74) (lenOf pd_1 rfl) rfl rfl (W := 0) (Nat.le_of_eq rfl) (by decide) (by decide) (by decide) (by decide) ?_
  intro v9 T9 L9 X9 Q9
  obtain ⟨rfl, N9q, Kc9, Ec9, Fs9, Ft9, Fl9, g9x, l9x, a9x, Vu9, Vv9, hg9, hl9, hi9, hs9, hP9⟩ := Q9
  have N9 := Fr.app N8 N9q
  have V_b1_9 := V_b1_8.keep Kc9 (ninS ne_b1_b7 (ninS ne_b1_u8 (ninS ne_b1_v8 nin0)))
  have Ec8_9 := Ec8.keep Kc9
  have KK9 : Keep h0 T9.heap [] := (KK8 : Keep h0 T8.heap []).trans Kc9 (allS (Or.inr sz_b7) (allS (Or.inr sz_u8) (allS (Or.inr sz_v8) all0)))
  show Go _ _ _ _ _ _ _ T9 (mkF m 77 #[.val (.int p0), .val (.int p1), .val (.ref b1), .val (.ref b7), .unset, .unset, .unset, .unset, .unset, .unset] [])
  refine Go.step (fun _ k => XS.aloadN X9.here hx rfl (hb hby at_77) rfl rfl k) ?_
  show Go _ _ _ _ _ _ _ T9 (mkF m 78 #[.val (.int p0), .val (.int p1), .val (.ref b1), .val (.ref b7), .unset, .unset, .unset, .unset, .unset, .unset] [(.ref b7)])
  refine Go.step (fun _ k => XS.aloadN X9.here hx rfl (hb hby at_78) rfl rfl k) ?_
  show Go _ _ _ _ _ _ _ T9 (mkF m 79 #[.val (.int p0), .val (.int p1), .val (.ref b1), .val (.ref b7), .unset, .unset, .unset, .unset, .unset, .unset] [(.ref b1), (.ref b7)])
  refine Go.step (fun _ k => XS.iconst X9.here hx rfl (hb hby at_79) k) ?_
  show Go _ _ _ _ _ _ _ T9 (mkF m 80 #[.val (.int p0), .val (.int p1), .val (.ref b1), .val (.ref b7), .unset, .unset, .unset, .unset, .unset, .unset] [(.int (1 : Int32)), (.ref b1), (.ref b7)])
  refine Go.iaload X9 hx hZ rfl V_b1_9 (j := (1 : Int32)) (v := (((p0 >>> ((3 : Int32) &&& 31)) &&& (7 : Int32)) - (3 : Int32))) (by decide) rfl (hb hby at_80) ?_
  show Go _ _ _ _ _ _ _ T9 (mkF m 81 #[.val (.int p0), .val (.int p1), .val (.ref b1), .val (.ref b7), .unset, .unset, .unset, .unset, .unset, .unset] [(.int (((p0 >>> ((3 : Int32) &&& 31)) &&& (7 : Int32)) - (3 : Int32))), (.ref b7)])
  refine Go.step (fun _ k => XS.i2dS X9.here hx rfl (hb hby at_81) rfl rfl k) ?_
  show Go _ _ _ _ _ _ _ T9 (mkF m 82 #[.val (.int p0), .val (.int p1), .val (.ref b1), .val (.ref b7), .unset, .unset, .unset, .unset, .unset, .unset] [(.double (FP.i2d (((p0 >>> ((3 : Int32) &&& 31)) &&& (7 : Int32)) - (3 : Int32)))), (.ref b7)])
  refine Go.step (fun _ k => XS.iloadN X9.here hx rfl (hb hby at_82) rfl k) ?_
  show Go _ _ _ _ _ _ _ T9 (mkF m 83 #[.val (.int p0), .val (.int p1), .val (.ref b1), .val (.ref b7), .unset, .unset, .unset, .unset, .unset, .unset] [(.int p1), (.double (FP.i2d (((p0 >>> ((3 : Int32) &&& 31)) &&& (7 : Int32)) - (3 : Int32)))), (.ref b7)])
  refine Go.step (fun _ k => XS.iconst X9.here hx rfl (hb hby at_83) k) ?_
  show Go _ _ _ _ _ _ _ T9 (mkF m 84 #[.val (.int p0), .val (.int p1), .val (.ref b1), .val (.ref b7), .unset, .unset, .unset, .unset, .unset, .unset] [(.int (1 : Int32)), (.int p1), (.double (FP.i2d (((p0 >>> ((3 : Int32) &&& 31)) &&& (7 : Int32)) - (3 : Int32)))), (.ref b7)])
  refine Go.step (fun _ k => XS.iadd X9.here hx rfl (hb hby at_84) rfl k) ?_
  show Go _ _ _ _ _ _ _ T9 (mkF m 85 #[.val (.int p0), .val (.int p1), .val (.ref b1), .val (.ref b7), .unset, .unset, .unset, .unset, .unset, .unset] [(.int (p1 + (1 : Int32))), (.double (FP.i2d (((p0 >>> ((3 : Int32) &&& 31)) &&& (7 : Int32)) - (3 : Int32)))), (.ref b7)])
  refine Go.callV X9 hx hZ (by rw [hml]; rfl) (y := (⟨"com/example/wavegrade/wavegrade/DepartureQueue", "add", "(DI)V"⟩ : MethodName)) (z := (⟨"com/example/wavegrade/wavegrade/DepartureQueue", "add", "(DI)V"⟩ : MethodName)) (a := b7) (argsL := [(.double (FP.i2d (((p0 >>> ((3 : Int32) &&& 31)) &&& (7 : Int32)) - (3 : Int32)))), (.int (p1 + (1 : Int32)))]) (rest := []) hown (hw _ (List.mem_of_getElem? (i := 15) rfl)) (hw _ (List.mem_of_getElem? (i := 16) rfl)) (notFace_of_selects (args := #[]) (mvT hZ (hw _ (List.mem_of_getElem? (i := 18) rfl)))) (hw _ (List.mem_of_getElem? (i := 18) rfl)) (hw _ (List.mem_of_getElem? (i := 17) rfl)) (hw _ (List.mem_of_getElem? (i := 3) rfl)) (hw _ (List.mem_of_getElem? (i := 19) rfl)) (by decide) (rm_add1 l Z a0 hw b7 u8 v8 g9x l9x (tT p0) (tL p1) (tK p0) a9x 1 T9.heap n0 (Nat.le_trans Z0 (KK9 : Keep h0 T9.heap []).1) Ec9 Fs9 Ft9 Fl9 Vu9 Vv9 nqu8 nqv8 nuv8 ge_b7 ge_u8 ge_v8 (tH p0) hg9 hl9 hi9) rfl Ec9 (hb hby at_85) (lenOf pd_1 rfl) rfl rfl (W := 0) (Nat.le_of_eq rfl) (by decide) (by decide) (by decide) (by decide) ?_
  intro v10 T10 L10 X10 Q10
  obtain ⟨rfl, N10q, Kc10, Ec10, Fs10, Ft10, Fl10, g10x, l10x, a10x, Vu10, Vv10, hg10, hl10, hi10, hs10, hP10⟩ := Q10
  have N10 := Fr.app N9 N10q
  have V_b1_10 := V_b1_9.keep Kc10 (ninS ne_b1_b7 (ninS ne_b1_u8 (ninS ne_b1_v8 nin0)))
  have Ec9_10 := Ec9.keep Kc10
  have KK10 : Keep h0 T10.heap [] := (KK9 : Keep h0 T9.heap []).trans Kc10 (allS (Or.inr sz_b7) (allS (Or.inr sz_u8) (allS (Or.inr sz_v8) all0)))
  show Go _ _ _ _ _ _ _ T10 (mkF m 88 #[.val (.int p0), .val (.int p1), .val (.ref b1), .val (.ref b7), .unset, .unset, .unset, .unset, .unset, .unset] [])
  refine Go.step (fun _ k => XS.aloadN X10.here hx rfl (hb hby at_88) rfl rfl k) ?_
  show Go _ _ _ _ _ _ _ T10 (mkF m 89 #[.val (.int p0), .val (.int p1), .val (.ref b1), .val (.ref b7), .unset, .unset, .unset, .unset, .unset, .unset] [(.ref b7)])
  refine Go.step (fun _ k => XS.aloadN X10.here hx rfl (hb hby at_89) rfl rfl k) ?_
  show Go _ _ _ _ _ _ _ T10 (mkF m 90 #[.val (.int p0), .val (.int p1), .val (.ref b1), .val (.ref b7), .unset, .unset, .unset, .unset, .unset, .unset] [(.ref b1), (.ref b7)])
  refine Go.step (fun _ k => XS.iconst X10.here hx rfl (hb hby at_90) k) ?_
  show Go _ _ _ _ _ _ _ T10 (mkF m 91 #[.val (.int p0), .val (.int p1), .val (.ref b1), .val (.ref b7), .unset, .unset, .unset, .unset, .unset, .unset] [(.int (2 : Int32)), (.ref b1), (.ref b7)])
  refine Go.iaload X10 hx hZ rfl V_b1_10 (j := (2 : Int32)) (v := (((p0 >>> ((6 : Int32) &&& 31)) &&& (7 : Int32)) - (3 : Int32))) (by decide) rfl (hb hby at_91) ?_
  show Go _ _ _ _ _ _ _ T10 (mkF m 92 #[.val (.int p0), .val (.int p1), .val (.ref b1), .val (.ref b7), .unset, .unset, .unset, .unset, .unset, .unset] [(.int (((p0 >>> ((6 : Int32) &&& 31)) &&& (7 : Int32)) - (3 : Int32))), (.ref b7)])
  refine Go.step (fun _ k => XS.i2dS X10.here hx rfl (hb hby at_92) rfl rfl k) ?_
  show Go _ _ _ _ _ _ _ T10 (mkF m 93 #[.val (.int p0), .val (.int p1), .val (.ref b1), .val (.ref b7), .unset, .unset, .unset, .unset, .unset, .unset] [(.double (FP.i2d (((p0 >>> ((6 : Int32) &&& 31)) &&& (7 : Int32)) - (3 : Int32)))), (.ref b7)])
  refine Go.step (fun _ k => XS.iloadN X10.here hx rfl (hb hby at_93) rfl k) ?_
  show Go _ _ _ _ _ _ _ T10 (mkF m 94 #[.val (.int p0), .val (.int p1), .val (.ref b1), .val (.ref b7), .unset, .unset, .unset, .unset, .unset, .unset] [(.int p1), (.double (FP.i2d (((p0 >>> ((6 : Int32) &&& 31)) &&& (7 : Int32)) - (3 : Int32)))), (.ref b7)])
  refine Go.step (fun _ k => XS.iconst X10.here hx rfl (hb hby at_94) k) ?_
  show Go _ _ _ _ _ _ _ T10 (mkF m 95 #[.val (.int p0), .val (.int p1), .val (.ref b1), .val (.ref b7), .unset, .unset, .unset, .unset, .unset, .unset] [(.int (2 : Int32)), (.int p1), (.double (FP.i2d (((p0 >>> ((6 : Int32) &&& 31)) &&& (7 : Int32)) - (3 : Int32)))), (.ref b7)])
  refine Go.step (fun _ k => XS.iadd X10.here hx rfl (hb hby at_95) rfl k) ?_
  show Go _ _ _ _ _ _ _ T10 (mkF m 96 #[.val (.int p0), .val (.int p1), .val (.ref b1), .val (.ref b7), .unset, .unset, .unset, .unset, .unset, .unset] [(.int (p1 + (2 : Int32))), (.double (FP.i2d (((p0 >>> ((6 : Int32) &&& 31)) &&& (7 : Int32)) - (3 : Int32)))), (.ref b7)])
  refine Go.callV X10 hx hZ (by rw [hml]; rfl) (y := (⟨"com/example/wavegrade/wavegrade/DepartureQueue", "add", "(DI)V"⟩ : MethodName)) (z := (⟨"com/example/wavegrade/wavegrade/DepartureQueue", "add", "(DI)V"⟩ : MethodName)) (a := b7) (argsL := [(.double (FP.i2d (((p0 >>> ((6 : Int32) &&& 31)) &&& (7 : Int32)) - (3 : Int32)))), (.int (p1 + (2 : Int32)))]) (rest := []) hown (hw _ (List.mem_of_getElem? (i := 15) rfl)) (hw _ (List.mem_of_getElem? (i := 16) rfl)) (notFace_of_selects (args := #[]) (mvT hZ (hw _ (List.mem_of_getElem? (i := 18) rfl)))) (hw _ (List.mem_of_getElem? (i := 18) rfl)) (hw _ (List.mem_of_getElem? (i := 17) rfl)) (hw _ (List.mem_of_getElem? (i := 3) rfl)) (hw _ (List.mem_of_getElem? (i := 19) rfl)) (by decide) (rm_add2 l Z a0 hw b7 u8 v8 g10x l10x (tT p0) (tL p1) (tK p0) a10x 2 T10.heap n0 (Nat.le_trans Z0 (KK10 : Keep h0 T10.heap []).1) Ec10 Fs10 Ft10 Fl10 Vu10 Vv10 nqu8 nqv8 nuv8 ge_b7 ge_u8 ge_v8 (tH p0) hg10 hl10 hi10) rfl Ec10 (hb hby at_96) (lenOf pd_1 rfl) rfl rfl (W := 0) (Nat.le_of_eq rfl) (by decide) (by decide) (by decide) (by decide) ?_
  intro v11 T11 L11 X11 Q11
  obtain ⟨rfl, N11q, Kc11, Ec11, Fs11, Ft11, Fl11, g11x, l11x, a11x, Vu11, Vv11, hg11, hl11, hi11, hs11, hP11⟩ := Q11
  have N11 := Fr.app N10 N11q
  have V_b1_11 := V_b1_10.keep Kc11 (ninS ne_b1_b7 (ninS ne_b1_u8 (ninS ne_b1_v8 nin0)))
  have Ec10_11 := Ec10.keep Kc11
  have KK11 : Keep h0 T11.heap [] := (KK10 : Keep h0 T10.heap []).trans Kc11 (allS (Or.inr sz_b7) (allS (Or.inr sz_u8) (allS (Or.inr sz_v8) all0)))
  show Go _ _ _ _ _ _ _ T11 (mkF m 99 #[.val (.int p0), .val (.int p1), .val (.ref b1), .val (.ref b7), .unset, .unset, .unset, .unset, .unset, .unset] [])
  refine Go.step (fun _ k => XS.aloadN X11.here hx rfl (hb hby at_99) rfl rfl k) ?_
  show Go _ _ _ _ _ _ _ T11 (mkF m 100 #[.val (.int p0), .val (.int p1), .val (.ref b1), .val (.ref b7), .unset, .unset, .unset, .unset, .unset, .unset] [(.ref b7)])
  refine Go.step (fun _ k => XS.aloadN X11.here hx rfl (hb hby at_100) rfl rfl k) ?_
  show Go _ _ _ _ _ _ _ T11 (mkF m 101 #[.val (.int p0), .val (.int p1), .val (.ref b1), .val (.ref b7), .unset, .unset, .unset, .unset, .unset, .unset] [(.ref b1), (.ref b7)])
  refine Go.step (fun _ k => XS.iconst X11.here hx rfl (hb hby at_101) k) ?_
  show Go _ _ _ _ _ _ _ T11 (mkF m 102 #[.val (.int p0), .val (.int p1), .val (.ref b1), .val (.ref b7), .unset, .unset, .unset, .unset, .unset, .unset] [(.int (3 : Int32)), (.ref b1), (.ref b7)])
  refine Go.iaload X11 hx hZ rfl V_b1_11 (j := (3 : Int32)) (v := (((p0 >>> ((9 : Int32) &&& 31)) &&& (7 : Int32)) - (3 : Int32))) (by decide) rfl (hb hby at_102) ?_
  show Go _ _ _ _ _ _ _ T11 (mkF m 103 #[.val (.int p0), .val (.int p1), .val (.ref b1), .val (.ref b7), .unset, .unset, .unset, .unset, .unset, .unset] [(.int (((p0 >>> ((9 : Int32) &&& 31)) &&& (7 : Int32)) - (3 : Int32))), (.ref b7)])
  refine Go.step (fun _ k => XS.i2dS X11.here hx rfl (hb hby at_103) rfl rfl k) ?_
  show Go _ _ _ _ _ _ _ T11 (mkF m 104 #[.val (.int p0), .val (.int p1), .val (.ref b1), .val (.ref b7), .unset, .unset, .unset, .unset, .unset, .unset] [(.double (FP.i2d (((p0 >>> ((9 : Int32) &&& 31)) &&& (7 : Int32)) - (3 : Int32)))), (.ref b7)])
  refine Go.step (fun _ k => XS.iloadN X11.here hx rfl (hb hby at_104) rfl k) ?_
  show Go _ _ _ _ _ _ _ T11 (mkF m 105 #[.val (.int p0), .val (.int p1), .val (.ref b1), .val (.ref b7), .unset, .unset, .unset, .unset, .unset, .unset] [(.int p1), (.double (FP.i2d (((p0 >>> ((9 : Int32) &&& 31)) &&& (7 : Int32)) - (3 : Int32)))), (.ref b7)])
  refine Go.step (fun _ k => XS.iconst X11.here hx rfl (hb hby at_105) k) ?_
  show Go _ _ _ _ _ _ _ T11 (mkF m 106 #[.val (.int p0), .val (.int p1), .val (.ref b1), .val (.ref b7), .unset, .unset, .unset, .unset, .unset, .unset] [(.int (3 : Int32)), (.int p1), (.double (FP.i2d (((p0 >>> ((9 : Int32) &&& 31)) &&& (7 : Int32)) - (3 : Int32)))), (.ref b7)])
  refine Go.step (fun _ k => XS.iadd X11.here hx rfl (hb hby at_106) rfl k) ?_
  show Go _ _ _ _ _ _ _ T11 (mkF m 107 #[.val (.int p0), .val (.int p1), .val (.ref b1), .val (.ref b7), .unset, .unset, .unset, .unset, .unset, .unset] [(.int (p1 + (3 : Int32))), (.double (FP.i2d (((p0 >>> ((9 : Int32) &&& 31)) &&& (7 : Int32)) - (3 : Int32)))), (.ref b7)])
  refine Go.callV X11 hx hZ (by rw [hml]; rfl) (y := (⟨"com/example/wavegrade/wavegrade/DepartureQueue", "add", "(DI)V"⟩ : MethodName)) (z := (⟨"com/example/wavegrade/wavegrade/DepartureQueue", "add", "(DI)V"⟩ : MethodName)) (a := b7) (argsL := [(.double (FP.i2d (((p0 >>> ((9 : Int32) &&& 31)) &&& (7 : Int32)) - (3 : Int32)))), (.int (p1 + (3 : Int32)))]) (rest := []) hown (hw _ (List.mem_of_getElem? (i := 15) rfl)) (hw _ (List.mem_of_getElem? (i := 16) rfl)) (notFace_of_selects (args := #[]) (mvT hZ (hw _ (List.mem_of_getElem? (i := 18) rfl)))) (hw _ (List.mem_of_getElem? (i := 18) rfl)) (hw _ (List.mem_of_getElem? (i := 17) rfl)) (hw _ (List.mem_of_getElem? (i := 3) rfl)) (hw _ (List.mem_of_getElem? (i := 19) rfl)) (by decide) (rm_add3 l Z a0 hw b7 u8 v8 g11x l11x (tT p0) (tL p1) (tK p0) a11x 3 T11.heap n0 (Nat.le_trans Z0 (KK11 : Keep h0 T11.heap []).1) Ec11 Fs11 Ft11 Fl11 Vu11 Vv11 nqu8 nqv8 nuv8 ge_b7 ge_u8 ge_v8 (tH p0) hg11 hl11 hi11) rfl Ec11 (hb hby at_107) (lenOf pd_1 rfl) rfl rfl (W := 0) (Nat.le_of_eq rfl) (by decide) (by decide) (by decide) (by decide) ?_
  intro v12 T12 L12 X12 Q12
  obtain ⟨rfl, N12q, Kc12, Ec12, Fs12, Ft12, Fl12, g12x, l12x, a12x, Vu12, Vv12, hg12, hl12, hi12, hs12, hP12⟩ := Q12
  have N12 := Fr.app N11 N12q
  have V_b1_12 := V_b1_11.keep Kc12 (ninS ne_b1_b7 (ninS ne_b1_u8 (ninS ne_b1_v8 nin0)))
  have Ec11_12 := Ec11.keep Kc12
  have KK12 : Keep h0 T12.heap [] := (KK11 : Keep h0 T11.heap []).trans Kc12 (allS (Or.inr sz_b7) (allS (Or.inr sz_u8) (allS (Or.inr sz_v8) all0)))
  show Go _ _ _ _ _ _ _ T12 (mkF m 110 #[.val (.int p0), .val (.int p1), .val (.ref b1), .val (.ref b7), .unset, .unset, .unset, .unset, .unset, .unset] [])
  refine Go.step (fun _ k => XS.aloadN X12.here hx rfl (hb hby at_110) rfl rfl k) ?_
  show Go _ _ _ _ _ _ _ T12 (mkF m 111 #[.val (.int p0), .val (.int p1), .val (.ref b1), .val (.ref b7), .unset, .unset, .unset, .unset, .unset, .unset] [(.ref b7)])
  refine Go.step (fun _ k => XS.aloadN X12.here hx rfl (hb hby at_111) rfl rfl k) ?_
  show Go _ _ _ _ _ _ _ T12 (mkF m 112 #[.val (.int p0), .val (.int p1), .val (.ref b1), .val (.ref b7), .unset, .unset, .unset, .unset, .unset, .unset] [(.ref b1), (.ref b7)])
  refine Go.step (fun _ k => XS.iconst X12.here hx rfl (hb hby at_112) k) ?_
  show Go _ _ _ _ _ _ _ T12 (mkF m 113 #[.val (.int p0), .val (.int p1), .val (.ref b1), .val (.ref b7), .unset, .unset, .unset, .unset, .unset, .unset] [(.int (4 : Int32)), (.ref b1), (.ref b7)])
  refine Go.iaload X12 hx hZ rfl V_b1_12 (j := (4 : Int32)) (v := (((p0 >>> ((12 : Int32) &&& 31)) &&& (7 : Int32)) - (3 : Int32))) (by decide) rfl (hb hby at_113) ?_
  show Go _ _ _ _ _ _ _ T12 (mkF m 114 #[.val (.int p0), .val (.int p1), .val (.ref b1), .val (.ref b7), .unset, .unset, .unset, .unset, .unset, .unset] [(.int (((p0 >>> ((12 : Int32) &&& 31)) &&& (7 : Int32)) - (3 : Int32))), (.ref b7)])
  refine Go.step (fun _ k => XS.i2dS X12.here hx rfl (hb hby at_114) rfl rfl k) ?_
  show Go _ _ _ _ _ _ _ T12 (mkF m 115 #[.val (.int p0), .val (.int p1), .val (.ref b1), .val (.ref b7), .unset, .unset, .unset, .unset, .unset, .unset] [(.double (FP.i2d (((p0 >>> ((12 : Int32) &&& 31)) &&& (7 : Int32)) - (3 : Int32)))), (.ref b7)])
  refine Go.step (fun _ k => XS.iloadN X12.here hx rfl (hb hby at_115) rfl k) ?_
  show Go _ _ _ _ _ _ _ T12 (mkF m 116 #[.val (.int p0), .val (.int p1), .val (.ref b1), .val (.ref b7), .unset, .unset, .unset, .unset, .unset, .unset] [(.int p1), (.double (FP.i2d (((p0 >>> ((12 : Int32) &&& 31)) &&& (7 : Int32)) - (3 : Int32)))), (.ref b7)])
  refine Go.step (fun _ k => XS.iconst X12.here hx rfl (hb hby at_116) k) ?_
  show Go _ _ _ _ _ _ _ T12 (mkF m 117 #[.val (.int p0), .val (.int p1), .val (.ref b1), .val (.ref b7), .unset, .unset, .unset, .unset, .unset, .unset] [(.int (4 : Int32)), (.int p1), (.double (FP.i2d (((p0 >>> ((12 : Int32) &&& 31)) &&& (7 : Int32)) - (3 : Int32)))), (.ref b7)])
  refine Go.step (fun _ k => XS.iadd X12.here hx rfl (hb hby at_117) rfl k) ?_
  show Go _ _ _ _ _ _ _ T12 (mkF m 118 #[.val (.int p0), .val (.int p1), .val (.ref b1), .val (.ref b7), .unset, .unset, .unset, .unset, .unset, .unset] [(.int (p1 + (4 : Int32))), (.double (FP.i2d (((p0 >>> ((12 : Int32) &&& 31)) &&& (7 : Int32)) - (3 : Int32)))), (.ref b7)])
  refine Go.callV X12 hx hZ (by rw [hml]; rfl) (y := (⟨"com/example/wavegrade/wavegrade/DepartureQueue", "add", "(DI)V"⟩ : MethodName)) (z := (⟨"com/example/wavegrade/wavegrade/DepartureQueue", "add", "(DI)V"⟩ : MethodName)) (a := b7) (argsL := [(.double (FP.i2d (((p0 >>> ((12 : Int32) &&& 31)) &&& (7 : Int32)) - (3 : Int32)))), (.int (p1 + (4 : Int32)))]) (rest := []) hown (hw _ (List.mem_of_getElem? (i := 15) rfl)) (hw _ (List.mem_of_getElem? (i := 16) rfl)) (notFace_of_selects (args := #[]) (mvT hZ (hw _ (List.mem_of_getElem? (i := 18) rfl)))) (hw _ (List.mem_of_getElem? (i := 18) rfl)) (hw _ (List.mem_of_getElem? (i := 17) rfl)) (hw _ (List.mem_of_getElem? (i := 3) rfl)) (hw _ (List.mem_of_getElem? (i := 19) rfl)) (by decide) (rm_add4 l Z a0 hw b7 u8 v8 g12x l12x (tT p0) (tL p1) (tK p0) a12x 4 T12.heap n0 (Nat.le_trans Z0 (KK12 : Keep h0 T12.heap []).1) Ec12 Fs12 Ft12 Fl12 Vu12 Vv12 nqu8 nqv8 nuv8 ge_b7 ge_u8 ge_v8 (tH p0) hg12 hl12 hi12) rfl Ec12 (hb hby at_118) (lenOf pd_1 rfl) rfl rfl (W := 0) (Nat.le_of_eq rfl) (by decide) (by decide) (by decide) (by decide) ?_
  intro v13 T13 L13 X13 Q13
  obtain ⟨rfl, N13q, Kc13, Ec13, Fs13, Ft13, Fl13, g13x, l13x, a13x, Vu13, Vv13, hg13, hl13, hi13, hs13, hP13⟩ := Q13
  have N13 := Fr.app N12 N13q
  have V_b1_13 := V_b1_12.keep Kc13 (ninS ne_b1_b7 (ninS ne_b1_u8 (ninS ne_b1_v8 nin0)))
  have Ec12_13 := Ec12.keep Kc13
  have KK13 : Keep h0 T13.heap [] := (KK12 : Keep h0 T12.heap []).trans Kc13 (allS (Or.inr sz_b7) (allS (Or.inr sz_u8) (allS (Or.inr sz_v8) all0)))
  show Go _ _ _ _ _ _ _ T13 (mkF m 121 #[.val (.int p0), .val (.int p1), .val (.ref b1), .val (.ref b7), .unset, .unset, .unset, .unset, .unset, .unset] [])
  refine Go.step (fun _ k => XS.aloadN X13.here hx rfl (hb hby at_121) rfl rfl k) ?_
  show Go _ _ _ _ _ _ _ T13 (mkF m 122 #[.val (.int p0), .val (.int p1), .val (.ref b1), .val (.ref b7), .unset, .unset, .unset, .unset, .unset, .unset] [(.ref b7)])
  refine Go.callV X13 hx hZ (by rw [hml]; rfl) (y := (⟨"com/example/wavegrade/wavegrade/DepartureQueue", "removeFirst", "()I"⟩ : MethodName)) (z := (⟨"com/example/wavegrade/wavegrade/DepartureQueue", "removeFirst", "()I"⟩ : MethodName)) (a := b7) (argsL := []) (rest := []) hown (hw _ (List.mem_of_getElem? (i := 22) rfl)) (hw _ (List.mem_of_getElem? (i := 23) rfl)) (notFace_of_selects (args := #[]) (mvT hZ (hw _ (List.mem_of_getElem? (i := 25) rfl)))) (hw _ (List.mem_of_getElem? (i := 25) rfl)) (hw _ (List.mem_of_getElem? (i := 24) rfl)) (hw _ (List.mem_of_getElem? (i := 3) rfl)) (hw _ (List.mem_of_getElem? (i := 26) rfl)) (by decide) (rm_rem5 l Z a0 hw b7 u8 v8 g13x l13x (tT p0) (tL p1) (tK p0) a13x T13.heap n0 (Nat.le_trans Z0 (KK13 : Keep h0 T13.heap []).1) Ec13 Fs13 Ft13 Fl13 Vu13 Vv13 nqu8 nqv8 nuv8 ge_b7 ge_u8 ge_v8 (tH p0) hg13 hl13 hi13) rfl Ec13 (hb hby at_122) (lenOf pd_2 rfl) rfl rfl (W := 0) (Nat.le_of_eq rfl) (by decide) (by decide) (by decide) (by decide) ?_
  intro v14 T14 L14 X14 Q14
  obtain ⟨rfl, N14q, Kc14, Ec14, Fs14, Ft14, Fl14, g14x, l14x, a14x, Vu14, Vv14, hg14, hl14, hi14, ⟨hm14, hs14⟩, hP14⟩ := Q14
  have N14 := Fr.app N13 N14q
  have V_b1_14 := V_b1_13.keep Kc14 (ninS ne_b1_b7 (ninS ne_b1_u8 (ninS ne_b1_v8 nin0)))
  have Ec13_14 := Ec13.keep Kc14
  have KK14 : Keep h0 T14.heap [] := (KK13 : Keep h0 T13.heap []).trans Kc14 (allS (Or.inr sz_b7) (allS (Or.inr sz_u8) (allS (Or.inr sz_v8) all0)))
  show Go _ _ _ _ _ _ _ T14 (mkF m 125 #[.val (.int p0), .val (.int p1), .val (.ref b1), .val (.ref b7), .unset, .unset, .unset, .unset, .unset, .unset] [(.int ((tL p1) (a13x 0)))])
  refine Go.step (fun _ k => XS.iloadN X14.here hx rfl (hb hby at_125) rfl k) ?_
  show Go _ _ _ _ _ _ _ T14 (mkF m 126 #[.val (.int p0), .val (.int p1), .val (.ref b1), .val (.ref b7), .unset, .unset, .unset, .unset, .unset, .unset] [(.int p1), (.int ((tL p1) (a13x 0)))])
  refine Go.step (fun _ k => XS.isub X14.here hx rfl (hb hby at_126) rfl k) ?_
  show Go _ _ _ _ _ _ _ T14 (mkF m 127 #[.val (.int p0), .val (.int p1), .val (.ref b1), .val (.ref b7), .unset, .unset, .unset, .unset, .unset, .unset] [(.int (((tL p1) (a13x 0)) - p1))])
  refine Go.step (fun _ k => XS.istore X14.here hx rfl (hb hby at_127) rfl (l' := #[.val (.int p0), .val (.int p1), .val (.ref b1), .val (.ref b7), .val (.int (((tL p1) (a13x 0)) - p1)), .unset, .unset, .unset, .unset, .unset]) rfl k) ?_
  show Go _ _ _ _ _ _ _ T14 (mkF m 129 #[.val (.int p0), .val (.int p1), .val (.ref b1), .val (.ref b7), .val (.int (((tL p1) (a13x 0)) - p1)), .unset, .unset, .unset, .unset, .unset] [])
  refine Go.step (fun _ k => XS.aloadN X14.here hx rfl (hb hby at_129) rfl rfl k) ?_
  show Go _ _ _ _ _ _ _ T14 (mkF m 130 #[.val (.int p0), .val (.int p1), .val (.ref b1), .val (.ref b7), .val (.int (((tL p1) (a13x 0)) - p1)), .unset, .unset, .unset, .unset, .unset] [(.ref b7)])
  refine Go.callV X14 hx hZ (by rw [hml]; rfl) (y := (⟨"com/example/wavegrade/wavegrade/DepartureQueue", "removeFirst", "()I"⟩ : MethodName)) (z := (⟨"com/example/wavegrade/wavegrade/DepartureQueue", "removeFirst", "()I"⟩ : MethodName)) (a := b7) (argsL := []) (rest := []) hown (hw _ (List.mem_of_getElem? (i := 22) rfl)) (hw _ (List.mem_of_getElem? (i := 23) rfl)) (notFace_of_selects (args := #[]) (mvT hZ (hw _ (List.mem_of_getElem? (i := 25) rfl)))) (hw _ (List.mem_of_getElem? (i := 25) rfl)) (hw _ (List.mem_of_getElem? (i := 24) rfl)) (hw _ (List.mem_of_getElem? (i := 3) rfl)) (hw _ (List.mem_of_getElem? (i := 26) rfl)) (by decide) (rm_rem4 l Z a0 hw b7 u8 v8 g14x l14x (tT p0) (tL p1) (tK p0) a14x T14.heap n0 (Nat.le_trans Z0 (KK14 : Keep h0 T14.heap []).1) Ec14 Fs14 Ft14 Fl14 Vu14 Vv14 nqu8 nqv8 nuv8 ge_b7 ge_u8 ge_v8 (tH p0) hg14 hl14 hi14) rfl Ec14 (hb hby at_130) (lenOf pd_2 rfl) rfl rfl (W := 0) (Nat.le_of_eq rfl) (by decide) (by decide) (by decide) (by decide) ?_
  intro v15 T15 L15 X15 Q15
  obtain ⟨rfl, N15q, Kc15, Ec15, Fs15, Ft15, Fl15, g15x, l15x, a15x, Vu15, Vv15, hg15, hl15, hi15, ⟨hm15, hs15⟩, hP15⟩ := Q15
  have N15 := Fr.app N14 N15q
  have V_b1_15 := V_b1_14.keep Kc15 (ninS ne_b1_b7 (ninS ne_b1_u8 (ninS ne_b1_v8 nin0)))
  have Ec14_15 := Ec14.keep Kc15
  have KK15 : Keep h0 T15.heap [] := (KK14 : Keep h0 T14.heap []).trans Kc15 (allS (Or.inr sz_b7) (allS (Or.inr sz_u8) (allS (Or.inr sz_v8) all0)))
  show Go _ _ _ _ _ _ _ T15 (mkF m 133 #[.val (.int p0), .val (.int p1), .val (.ref b1), .val (.ref b7), .val (.int (((tL p1) (a13x 0)) - p1)), .unset, .unset, .unset, .unset, .unset] [(.int ((tL p1) (a14x 0)))])
  refine Go.step (fun _ k => XS.iloadN X15.here hx rfl (hb hby at_133) rfl k) ?_
  show Go _ _ _ _ _ _ _ T15 (mkF m 134 #[.val (.int p0), .val (.int p1), .val (.ref b1), .val (.ref b7), .val (.int (((tL p1) (a13x 0)) - p1)), .unset, .unset, .unset, .unset, .unset] [(.int p1), (.int ((tL p1) (a14x 0)))])
  refine Go.step (fun _ k => XS.isub X15.here hx rfl (hb hby at_134) rfl k) ?_
  show Go _ _ _ _ _ _ _ T15 (mkF m 135 #[.val (.int p0), .val (.int p1), .val (.ref b1), .val (.ref b7), .val (.int (((tL p1) (a13x 0)) - p1)), .unset, .unset, .unset, .unset, .unset] [(.int (((tL p1) (a14x 0)) - p1))])
  refine Go.step (fun _ k => XS.istore X15.here hx rfl (hb hby at_135) rfl (l' := #[.val (.int p0), .val (.int p1), .val (.ref b1), .val (.ref b7), .val (.int (((tL p1) (a13x 0)) - p1)), .val (.int (((tL p1) (a14x 0)) - p1)), .unset, .unset, .unset, .unset]) rfl k) ?_
  show Go _ _ _ _ _ _ _ T15 (mkF m 137 #[.val (.int p0), .val (.int p1), .val (.ref b1), .val (.ref b7), .val (.int (((tL p1) (a13x 0)) - p1)), .val (.int (((tL p1) (a14x 0)) - p1)), .unset, .unset, .unset, .unset] [])
  refine Go.step (fun _ k => XS.aloadN X15.here hx rfl (hb hby at_137) rfl rfl k) ?_
  show Go _ _ _ _ _ _ _ T15 (mkF m 138 #[.val (.int p0), .val (.int p1), .val (.ref b1), .val (.ref b7), .val (.int (((tL p1) (a13x 0)) - p1)), .val (.int (((tL p1) (a14x 0)) - p1)), .unset, .unset, .unset, .unset] [(.ref b7)])
  refine Go.callV X15 hx hZ (by rw [hml]; rfl) (y := (⟨"com/example/wavegrade/wavegrade/DepartureQueue", "removeFirst", "()I"⟩ : MethodName)) (z := (⟨"com/example/wavegrade/wavegrade/DepartureQueue", "removeFirst", "()I"⟩ : MethodName)) (a := b7) (argsL := []) (rest := []) hown (hw _ (List.mem_of_getElem? (i := 22) rfl)) (hw _ (List.mem_of_getElem? (i := 23) rfl)) (notFace_of_selects (args := #[]) (mvT hZ (hw _ (List.mem_of_getElem? (i := 25) rfl)))) (hw _ (List.mem_of_getElem? (i := 25) rfl)) (hw _ (List.mem_of_getElem? (i := 24) rfl)) (hw _ (List.mem_of_getElem? (i := 3) rfl)) (hw _ (List.mem_of_getElem? (i := 26) rfl)) (by decide) (rm_rem3 l Z a0 hw b7 u8 v8 g15x l15x (tT p0) (tL p1) (tK p0) a15x T15.heap n0 (Nat.le_trans Z0 (KK15 : Keep h0 T15.heap []).1) Ec15 Fs15 Ft15 Fl15 Vu15 Vv15 nqu8 nqv8 nuv8 ge_b7 ge_u8 ge_v8 (tH p0) hg15 hl15 hi15) rfl Ec15 (hb hby at_138) (lenOf pd_2 rfl) rfl rfl (W := 0) (Nat.le_of_eq rfl) (by decide) (by decide) (by decide) (by decide) ?_
  intro v16 T16 L16 X16 Q16
  obtain ⟨rfl, N16q, Kc16, Ec16, Fs16, Ft16, Fl16, g16x, l16x, a16x, Vu16, Vv16, hg16, hl16, hi16, ⟨hm16, hs16⟩, hP16⟩ := Q16
  have N16 := Fr.app N15 N16q
  have V_b1_16 := V_b1_15.keep Kc16 (ninS ne_b1_b7 (ninS ne_b1_u8 (ninS ne_b1_v8 nin0)))
  have Ec15_16 := Ec15.keep Kc16
  have KK16 : Keep h0 T16.heap [] := (KK15 : Keep h0 T15.heap []).trans Kc16 (allS (Or.inr sz_b7) (allS (Or.inr sz_u8) (allS (Or.inr sz_v8) all0)))
  show Go _ _ _ _ _ _ _ T16 (mkF m 141 #[.val (.int p0), .val (.int p1), .val (.ref b1), .val (.ref b7), .val (.int (((tL p1) (a13x 0)) - p1)), .val (.int (((tL p1) (a14x 0)) - p1)), .unset, .unset, .unset, .unset] [(.int ((tL p1) (a15x 0)))])
  refine Go.step (fun _ k => XS.iloadN X16.here hx rfl (hb hby at_141) rfl k) ?_
  show Go _ _ _ _ _ _ _ T16 (mkF m 142 #[.val (.int p0), .val (.int p1), .val (.ref b1), .val (.ref b7), .val (.int (((tL p1) (a13x 0)) - p1)), .val (.int (((tL p1) (a14x 0)) - p1)), .unset, .unset, .unset, .unset] [(.int p1), (.int ((tL p1) (a15x 0)))])
  refine Go.step (fun _ k => XS.isub X16.here hx rfl (hb hby at_142) rfl k) ?_
  show Go _ _ _ _ _ _ _ T16 (mkF m 143 #[.val (.int p0), .val (.int p1), .val (.ref b1), .val (.ref b7), .val (.int (((tL p1) (a13x 0)) - p1)), .val (.int (((tL p1) (a14x 0)) - p1)), .unset, .unset, .unset, .unset] [(.int (((tL p1) (a15x 0)) - p1))])
  refine Go.step (fun _ k => XS.istore X16.here hx rfl (hb hby at_143) rfl (l' := #[.val (.int p0), .val (.int p1), .val (.ref b1), .val (.ref b7), .val (.int (((tL p1) (a13x 0)) - p1)), .val (.int (((tL p1) (a14x 0)) - p1)), .val (.int (((tL p1) (a15x 0)) - p1)), .unset, .unset, .unset]) rfl k) ?_
  show Go _ _ _ _ _ _ _ T16 (mkF m 145 #[.val (.int p0), .val (.int p1), .val (.ref b1), .val (.ref b7), .val (.int (((tL p1) (a13x 0)) - p1)), .val (.int (((tL p1) (a14x 0)) - p1)), .val (.int (((tL p1) (a15x 0)) - p1)), .unset, .unset, .unset] [])
  refine Go.step (fun _ k => XS.aloadN X16.here hx rfl (hb hby at_145) rfl rfl k) ?_
  show Go _ _ _ _ _ _ _ T16 (mkF m 146 #[.val (.int p0), .val (.int p1), .val (.ref b1), .val (.ref b7), .val (.int (((tL p1) (a13x 0)) - p1)), .val (.int (((tL p1) (a14x 0)) - p1)), .val (.int (((tL p1) (a15x 0)) - p1)), .unset, .unset, .unset] [(.ref b7)])
  refine Go.callV X16 hx hZ (by rw [hml]; rfl) (y := (⟨"com/example/wavegrade/wavegrade/DepartureQueue", "removeFirst", "()I"⟩ : MethodName)) (z := (⟨"com/example/wavegrade/wavegrade/DepartureQueue", "removeFirst", "()I"⟩ : MethodName)) (a := b7) (argsL := []) (rest := []) hown (hw _ (List.mem_of_getElem? (i := 22) rfl)) (hw _ (List.mem_of_getElem? (i := 23) rfl)) (notFace_of_selects (args := #[]) (mvT hZ (hw _ (List.mem_of_getElem? (i := 25) rfl)))) (hw _ (List.mem_of_getElem? (i := 25) rfl)) (hw _ (List.mem_of_getElem? (i := 24) rfl)) (hw _ (List.mem_of_getElem? (i := 3) rfl)) (hw _ (List.mem_of_getElem? (i := 26) rfl)) (by decide) (rm_rem2 l Z a0 hw b7 u8 v8 g16x l16x (tT p0) (tL p1) (tK p0) a16x T16.heap n0 (Nat.le_trans Z0 (KK16 : Keep h0 T16.heap []).1) Ec16 Fs16 Ft16 Fl16 Vu16 Vv16 nqu8 nqv8 nuv8 ge_b7 ge_u8 ge_v8 (tH p0) hg16 hl16 hi16) rfl Ec16 (hb hby at_146) (lenOf pd_2 rfl) rfl rfl (W := 0) (Nat.le_of_eq rfl) (by decide) (by decide) (by decide) (by decide) ?_
  intro v17 T17 L17 X17 Q17
  obtain ⟨rfl, N17q, Kc17, Ec17, Fs17, Ft17, Fl17, g17x, l17x, a17x, Vu17, Vv17, hg17, hl17, hi17, ⟨hm17, hs17⟩, hP17⟩ := Q17
  have N17 := Fr.app N16 N17q
  have V_b1_17 := V_b1_16.keep Kc17 (ninS ne_b1_b7 (ninS ne_b1_u8 (ninS ne_b1_v8 nin0)))
  have Ec16_17 := Ec16.keep Kc17
  have KK17 : Keep h0 T17.heap [] := (KK16 : Keep h0 T16.heap []).trans Kc17 (allS (Or.inr sz_b7) (allS (Or.inr sz_u8) (allS (Or.inr sz_v8) all0)))
  show Go _ _ _ _ _ _ _ T17 (mkF m 149 #[.val (.int p0), .val (.int p1), .val (.ref b1), .val (.ref b7), .val (.int (((tL p1) (a13x 0)) - p1)), .val (.int (((tL p1) (a14x 0)) - p1)), .val (.int (((tL p1) (a15x 0)) - p1)), .unset, .unset, .unset] [(.int ((tL p1) (a16x 0)))])
  refine Go.step (fun _ k => XS.iloadN X17.here hx rfl (hb hby at_149) rfl k) ?_
  show Go _ _ _ _ _ _ _ T17 (mkF m 150 #[.val (.int p0), .val (.int p1), .val (.ref b1), .val (.ref b7), .val (.int (((tL p1) (a13x 0)) - p1)), .val (.int (((tL p1) (a14x 0)) - p1)), .val (.int (((tL p1) (a15x 0)) - p1)), .unset, .unset, .unset] [(.int p1), (.int ((tL p1) (a16x 0)))])
  refine Go.step (fun _ k => XS.isub X17.here hx rfl (hb hby at_150) rfl k) ?_
  show Go _ _ _ _ _ _ _ T17 (mkF m 151 #[.val (.int p0), .val (.int p1), .val (.ref b1), .val (.ref b7), .val (.int (((tL p1) (a13x 0)) - p1)), .val (.int (((tL p1) (a14x 0)) - p1)), .val (.int (((tL p1) (a15x 0)) - p1)), .unset, .unset, .unset] [(.int (((tL p1) (a16x 0)) - p1))])
  refine Go.step (fun _ k => XS.istore X17.here hx rfl (hb hby at_151) rfl (l' := #[.val (.int p0), .val (.int p1), .val (.ref b1), .val (.ref b7), .val (.int (((tL p1) (a13x 0)) - p1)), .val (.int (((tL p1) (a14x 0)) - p1)), .val (.int (((tL p1) (a15x 0)) - p1)), .val (.int (((tL p1) (a16x 0)) - p1)), .unset, .unset]) rfl k) ?_
  show Go _ _ _ _ _ _ _ T17 (mkF m 153 #[.val (.int p0), .val (.int p1), .val (.ref b1), .val (.ref b7), .val (.int (((tL p1) (a13x 0)) - p1)), .val (.int (((tL p1) (a14x 0)) - p1)), .val (.int (((tL p1) (a15x 0)) - p1)), .val (.int (((tL p1) (a16x 0)) - p1)), .unset, .unset] [])
  refine Go.step (fun _ k => XS.aloadN X17.here hx rfl (hb hby at_153) rfl rfl k) ?_
  show Go _ _ _ _ _ _ _ T17 (mkF m 154 #[.val (.int p0), .val (.int p1), .val (.ref b1), .val (.ref b7), .val (.int (((tL p1) (a13x 0)) - p1)), .val (.int (((tL p1) (a14x 0)) - p1)), .val (.int (((tL p1) (a15x 0)) - p1)), .val (.int (((tL p1) (a16x 0)) - p1)), .unset, .unset] [(.ref b7)])
  refine Go.callV X17 hx hZ (by rw [hml]; rfl) (y := (⟨"com/example/wavegrade/wavegrade/DepartureQueue", "removeFirst", "()I"⟩ : MethodName)) (z := (⟨"com/example/wavegrade/wavegrade/DepartureQueue", "removeFirst", "()I"⟩ : MethodName)) (a := b7) (argsL := []) (rest := []) hown (hw _ (List.mem_of_getElem? (i := 22) rfl)) (hw _ (List.mem_of_getElem? (i := 23) rfl)) (notFace_of_selects (args := #[]) (mvT hZ (hw _ (List.mem_of_getElem? (i := 25) rfl)))) (hw _ (List.mem_of_getElem? (i := 25) rfl)) (hw _ (List.mem_of_getElem? (i := 24) rfl)) (hw _ (List.mem_of_getElem? (i := 3) rfl)) (hw _ (List.mem_of_getElem? (i := 26) rfl)) (by decide) (rm_rem1 l Z a0 hw b7 u8 v8 g17x l17x (tT p0) (tL p1) (tK p0) a17x T17.heap n0 (Nat.le_trans Z0 (KK17 : Keep h0 T17.heap []).1) Ec17 Fs17 Ft17 Fl17 Vu17 Vv17 nqu8 nqv8 nuv8 ge_b7 ge_u8 ge_v8 (tH p0) hg17 hl17 hi17) rfl Ec17 (hb hby at_154) (lenOf pd_2 rfl) rfl rfl (W := 0) (Nat.le_of_eq rfl) (by decide) (by decide) (by decide) (by decide) ?_
  intro v18 T18 L18 X18 Q18
  obtain ⟨rfl, N18q, Kc18, Ec18, Fs18, Ft18, Fl18, g18x, l18x, a18x, Vu18, Vv18, hg18, hl18, hi18, ⟨hm18, hs18⟩, hP18⟩ := Q18
  have N18 := Fr.app N17 N18q
  have V_b1_18 := V_b1_17.keep Kc18 (ninS ne_b1_b7 (ninS ne_b1_u8 (ninS ne_b1_v8 nin0)))
  have Ec17_18 := Ec17.keep Kc18
  have KK18 : Keep h0 T18.heap [] := (KK17 : Keep h0 T17.heap []).trans Kc18 (allS (Or.inr sz_b7) (allS (Or.inr sz_u8) (allS (Or.inr sz_v8) all0)))
  show Go _ _ _ _ _ _ _ T18 (mkF m 157 #[.val (.int p0), .val (.int p1), .val (.ref b1), .val (.ref b7), .val (.int (((tL p1) (a13x 0)) - p1)), .val (.int (((tL p1) (a14x 0)) - p1)), .val (.int (((tL p1) (a15x 0)) - p1)), .val (.int (((tL p1) (a16x 0)) - p1)), .unset, .unset] [(.int ((tL p1) (a17x 0)))])
  refine Go.step (fun _ k => XS.iloadN X18.here hx rfl (hb hby at_157) rfl k) ?_
  show Go _ _ _ _ _ _ _ T18 (mkF m 158 #[.val (.int p0), .val (.int p1), .val (.ref b1), .val (.ref b7), .val (.int (((tL p1) (a13x 0)) - p1)), .val (.int (((tL p1) (a14x 0)) - p1)), .val (.int (((tL p1) (a15x 0)) - p1)), .val (.int (((tL p1) (a16x 0)) - p1)), .unset, .unset] [(.int p1), (.int ((tL p1) (a17x 0)))])
  refine Go.step (fun _ k => XS.isub X18.here hx rfl (hb hby at_158) rfl k) ?_
  show Go _ _ _ _ _ _ _ T18 (mkF m 159 #[.val (.int p0), .val (.int p1), .val (.ref b1), .val (.ref b7), .val (.int (((tL p1) (a13x 0)) - p1)), .val (.int (((tL p1) (a14x 0)) - p1)), .val (.int (((tL p1) (a15x 0)) - p1)), .val (.int (((tL p1) (a16x 0)) - p1)), .unset, .unset] [(.int (((tL p1) (a17x 0)) - p1))])
  refine Go.step (fun _ k => XS.istore X18.here hx rfl (hb hby at_159) rfl (l' := #[.val (.int p0), .val (.int p1), .val (.ref b1), .val (.ref b7), .val (.int (((tL p1) (a13x 0)) - p1)), .val (.int (((tL p1) (a14x 0)) - p1)), .val (.int (((tL p1) (a15x 0)) - p1)), .val (.int (((tL p1) (a16x 0)) - p1)), .val (.int (((tL p1) (a17x 0)) - p1)), .unset]) rfl k) ?_
  have b9 := hP9 (fun x => x < 5) (fun i hi' => absurd hi' (by omega)) (by decide)
  have b10 := hP10 (fun x => x < 5) b9 (by decide)
  have b11 := hP11 (fun x => x < 5) b10 (by decide)
  have b12 := hP12 (fun x => x < 5) b11 (by decide)
  have b13 := hP13 (fun x => x < 5) b12 (by decide)
  have c0 : a13x 0 < 5 := b13 0 (by decide)
  have b14 := hP14 (fun x => x < 5) b13
  have c1 : a14x 0 < 5 := b14 0 (by decide)
  have b15 := hP15 (fun x => x < 5) b14
  have c2 : a15x 0 < 5 := b15 0 (by decide)
  have b16 := hP16 (fun x => x < 5) b15
  have c3 : a16x 0 < 5 := b16 0 (by decide)
  have b17 := hP17 (fun x => x < 5) b16
  have c4 : a17x 0 < 5 := b17 0 (by decide)
  have b18 := hP18 (fun x => x < 5) b17
  have k0 := hm14 0 (by decide)
  have k1 := hm15 0 (by decide)
  have k2 := hm16 0 (by decide)
  have k3 := hm17 0 (by decide)
  have hsum : ∀ w : Nat → Int, w (a13x 0) + w (a14x 0) + w (a15x 0) + w (a16x 0) + w (a17x 0) = w 0 + w 1 + w 2 + w 3 + w 4 := fun w => by
    have := hs9 w
    have := hs10 w
    have := hs11 w
    have := hs12 w
    have := hs13 w
    have := hs14 w
    have := hs15 w
    have := hs16 w
    have := hs17 w
    have := hs18 w
    simp only [sumA] at *; omega
  obtain ⟨r0, h_r0⟩ : ∃ z, z = (((tL p1) (a13x 0)) - p1) := ⟨_, rfl⟩
  rw [← h_r0]
  have hr0 := own_r c0 h_r0
  obtain ⟨r1, h_r1⟩ : ∃ z, z = (((tL p1) (a14x 0)) - p1) := ⟨_, rfl⟩
  rw [← h_r1]
  have hr1 := own_r c1 h_r1
  obtain ⟨r2, h_r2⟩ : ∃ z, z = (((tL p1) (a15x 0)) - p1) := ⟨_, rfl⟩
  rw [← h_r2]
  have hr2 := own_r c2 h_r2
  obtain ⟨r3, h_r3⟩ : ∃ z, z = (((tL p1) (a16x 0)) - p1) := ⟨_, rfl⟩
  rw [← h_r3]
  have hr3 := own_r c3 h_r3
  obtain ⟨r4, h_r4⟩ : ∃ z, z = (((tL p1) (a17x 0)) - p1) := ⟨_, rfl⟩
  rw [← h_r4]
  have hr4 := own_r c4 h_r4
  have Vtv : Iv Z T18.heap b1 (5 : Int32) (tV p0) := V_b1_18
  show Go _ _ _ _ _ _ _ T18 (mkF m 161 #[.val (.int p0), .val (.int p1), .val (.ref b1), .val (.ref b7), .val (.int r0), .val (.int r1), .val (.int r2), .val (.int r3), .val (.int r4), .unset] [])
  refine Go.step (fun _ k => XS.iload X18.here hx rfl (hb hby at_161) rfl k) ?_
  show Go _ _ _ _ _ _ _ T18 (mkF m 163 #[.val (.int p0), .val (.int p1), .val (.ref b1), .val (.ref b7), .val (.int r0), .val (.int r1), .val (.int r2), .val (.int r3), .val (.int r4), .unset] [(.int r0)])
  refine Go.callS X18 hx hZ (by rw [hml]; rfl) (y := (⟨"com/example/wavegrade/wavegrade/DepartureQueueRemoveFirstPinLaw", "ok", "(I)Z"⟩ : MethodName)) (argsL := [(.int r0)]) (rest := []) hown (hw _ (List.mem_of_getElem? (i := 27) rfl)) (hw _ (List.mem_of_getElem? (i := 28) rfl)) (hw _ (List.mem_of_getElem? (i := 29) rfl)) (hw _ (List.mem_of_getElem? (i := 30) rfl)) (by decide) (rm5 l Z a0 hw r0 T18.heap n0 (Nat.le_trans Z0 (KK18 : Keep h0 T18.heap []).1)) rfl (hb hby at_163) (lenOf pd_3 rfl) rfl rfl (W := 0) (Nat.le_of_eq rfl) (by decide) (by decide) (by decide) (by decide) ?_
  intro v19 T19 L19 X19 Q19
  obtain ⟨rfl, N19q, hh19⟩ := Q19
  have N19 := Fr.app N18 N19q
  show Go _ _ _ _ _ _ _ T19 (mkF m 166 #[.val (.int p0), .val (.int p1), .val (.ref b1), .val (.ref b7), .val (.int r0), .val (.int r1), .val (.int r2), .val (.int r3), .val (.int r4), .unset] [(.int (okW r0))])
  refine Go.step (fun _ k => XS.ifNo X19.here hx rfl (hb hby at_166) rfl ((if0 _ _).trans (feq (own_ok hr0.2.2.2.1)).1) k) ?_
  show Go _ _ _ _ _ _ _ T19 (mkF m 169 #[.val (.int p0), .val (.int p1), .val (.ref b1), .val (.ref b7), .val (.int r0), .val (.int r1), .val (.int r2), .val (.int r3), .val (.int r4), .unset] [])
  refine Go.step (fun _ k => XS.iload X19.here hx rfl (hb hby at_169) rfl k) ?_
  show Go _ _ _ _ _ _ _ T19 (mkF m 171 #[.val (.int p0), .val (.int p1), .val (.ref b1), .val (.ref b7), .val (.int r0), .val (.int r1), .val (.int r2), .val (.int r3), .val (.int r4), .unset] [(.int r1)])
  refine Go.callS X19 hx hZ (by rw [hml]; rfl) (y := (⟨"com/example/wavegrade/wavegrade/DepartureQueueRemoveFirstPinLaw", "ok", "(I)Z"⟩ : MethodName)) (argsL := [(.int r1)]) (rest := []) hown (hw _ (List.mem_of_getElem? (i := 27) rfl)) (hw _ (List.mem_of_getElem? (i := 28) rfl)) (hw _ (List.mem_of_getElem? (i := 29) rfl)) (hw _ (List.mem_of_getElem? (i := 30) rfl)) (by decide) (rm5 l Z a0 hw r1 T18.heap n0 (Nat.le_trans Z0 (KK18 : Keep h0 T18.heap []).1)) hh19 (hb hby at_171) (lenOf pd_3 rfl) rfl rfl (W := 0) (Nat.le_of_eq rfl) (by decide) (by decide) (by decide) (by decide) ?_
  intro v20 T20 L20 X20 Q20
  obtain ⟨rfl, N20q, hh20⟩ := Q20
  have N20 := Fr.app N19 N20q
  show Go _ _ _ _ _ _ _ T20 (mkF m 174 #[.val (.int p0), .val (.int p1), .val (.ref b1), .val (.ref b7), .val (.int r0), .val (.int r1), .val (.int r2), .val (.int r3), .val (.int r4), .unset] [(.int (okW r1))])
  refine Go.step (fun _ k => XS.ifNo X20.here hx rfl (hb hby at_174) rfl ((if0 _ _).trans (feq (own_ok hr1.2.2.2.1)).1) k) ?_
  show Go _ _ _ _ _ _ _ T20 (mkF m 177 #[.val (.int p0), .val (.int p1), .val (.ref b1), .val (.ref b7), .val (.int r0), .val (.int r1), .val (.int r2), .val (.int r3), .val (.int r4), .unset] [])
  refine Go.step (fun _ k => XS.iload X20.here hx rfl (hb hby at_177) rfl k) ?_
  show Go _ _ _ _ _ _ _ T20 (mkF m 179 #[.val (.int p0), .val (.int p1), .val (.ref b1), .val (.ref b7), .val (.int r0), .val (.int r1), .val (.int r2), .val (.int r3), .val (.int r4), .unset] [(.int r2)])
  refine Go.callS X20 hx hZ (by rw [hml]; rfl) (y := (⟨"com/example/wavegrade/wavegrade/DepartureQueueRemoveFirstPinLaw", "ok", "(I)Z"⟩ : MethodName)) (argsL := [(.int r2)]) (rest := []) hown (hw _ (List.mem_of_getElem? (i := 27) rfl)) (hw _ (List.mem_of_getElem? (i := 28) rfl)) (hw _ (List.mem_of_getElem? (i := 29) rfl)) (hw _ (List.mem_of_getElem? (i := 30) rfl)) (by decide) (rm5 l Z a0 hw r2 T18.heap n0 (Nat.le_trans Z0 (KK18 : Keep h0 T18.heap []).1)) hh20 (hb hby at_179) (lenOf pd_3 rfl) rfl rfl (W := 0) (Nat.le_of_eq rfl) (by decide) (by decide) (by decide) (by decide) ?_
  intro v21 T21 L21 X21 Q21
  obtain ⟨rfl, N21q, hh21⟩ := Q21
  have N21 := Fr.app N20 N21q
  show Go _ _ _ _ _ _ _ T21 (mkF m 182 #[.val (.int p0), .val (.int p1), .val (.ref b1), .val (.ref b7), .val (.int r0), .val (.int r1), .val (.int r2), .val (.int r3), .val (.int r4), .unset] [(.int (okW r2))])
  refine Go.step (fun _ k => XS.ifNo X21.here hx rfl (hb hby at_182) rfl ((if0 _ _).trans (feq (own_ok hr2.2.2.2.1)).1) k) ?_
  show Go _ _ _ _ _ _ _ T21 (mkF m 185 #[.val (.int p0), .val (.int p1), .val (.ref b1), .val (.ref b7), .val (.int r0), .val (.int r1), .val (.int r2), .val (.int r3), .val (.int r4), .unset] [])
  refine Go.step (fun _ k => XS.iload X21.here hx rfl (hb hby at_185) rfl k) ?_
  show Go _ _ _ _ _ _ _ T21 (mkF m 187 #[.val (.int p0), .val (.int p1), .val (.ref b1), .val (.ref b7), .val (.int r0), .val (.int r1), .val (.int r2), .val (.int r3), .val (.int r4), .unset] [(.int r3)])
  refine Go.callS X21 hx hZ (by rw [hml]; rfl) (y := (⟨"com/example/wavegrade/wavegrade/DepartureQueueRemoveFirstPinLaw", "ok", "(I)Z"⟩ : MethodName)) (argsL := [(.int r3)]) (rest := []) hown (hw _ (List.mem_of_getElem? (i := 27) rfl)) (hw _ (List.mem_of_getElem? (i := 28) rfl)) (hw _ (List.mem_of_getElem? (i := 29) rfl)) (hw _ (List.mem_of_getElem? (i := 30) rfl)) (by decide) (rm5 l Z a0 hw r3 T18.heap n0 (Nat.le_trans Z0 (KK18 : Keep h0 T18.heap []).1)) hh21 (hb hby at_187) (lenOf pd_3 rfl) rfl rfl (W := 0) (Nat.le_of_eq rfl) (by decide) (by decide) (by decide) (by decide) ?_
  intro v22 T22 L22 X22 Q22
  obtain ⟨rfl, N22q, hh22⟩ := Q22
  have N22 := Fr.app N21 N22q
  show Go _ _ _ _ _ _ _ T22 (mkF m 190 #[.val (.int p0), .val (.int p1), .val (.ref b1), .val (.ref b7), .val (.int r0), .val (.int r1), .val (.int r2), .val (.int r3), .val (.int r4), .unset] [(.int (okW r3))])
  refine Go.step (fun _ k => XS.ifNo X22.here hx rfl (hb hby at_190) rfl ((if0 _ _).trans (feq (own_ok hr3.2.2.2.1)).1) k) ?_
  show Go _ _ _ _ _ _ _ T22 (mkF m 193 #[.val (.int p0), .val (.int p1), .val (.ref b1), .val (.ref b7), .val (.int r0), .val (.int r1), .val (.int r2), .val (.int r3), .val (.int r4), .unset] [])
  refine Go.step (fun _ k => XS.iload X22.here hx rfl (hb hby at_193) rfl k) ?_
  show Go _ _ _ _ _ _ _ T22 (mkF m 195 #[.val (.int p0), .val (.int p1), .val (.ref b1), .val (.ref b7), .val (.int r0), .val (.int r1), .val (.int r2), .val (.int r3), .val (.int r4), .unset] [(.int r4)])
  refine Go.callS X22 hx hZ (by rw [hml]; rfl) (y := (⟨"com/example/wavegrade/wavegrade/DepartureQueueRemoveFirstPinLaw", "ok", "(I)Z"⟩ : MethodName)) (argsL := [(.int r4)]) (rest := []) hown (hw _ (List.mem_of_getElem? (i := 27) rfl)) (hw _ (List.mem_of_getElem? (i := 28) rfl)) (hw _ (List.mem_of_getElem? (i := 29) rfl)) (hw _ (List.mem_of_getElem? (i := 30) rfl)) (by decide) (rm5 l Z a0 hw r4 T18.heap n0 (Nat.le_trans Z0 (KK18 : Keep h0 T18.heap []).1)) hh22 (hb hby at_195) (lenOf pd_3 rfl) rfl rfl (W := 0) (Nat.le_of_eq rfl) (by decide) (by decide) (by decide) (by decide) ?_
  intro v23 T23 L23 X23 Q23
  obtain ⟨rfl, N23q, hh23⟩ := Q23
  have N23 := Fr.app N22 N23q
  show Go _ _ _ _ _ _ _ T23 (mkF m 198 #[.val (.int p0), .val (.int p1), .val (.ref b1), .val (.ref b7), .val (.int r0), .val (.int r1), .val (.int r2), .val (.int r3), .val (.int r4), .unset] [(.int (okW r4))])
  refine Go.step (fun _ k => XS.ifYes X23.here hx rfl (pc0 := 198) (pc' := 203) rfl (hb hby at_198) rfl ((if0 _ _).trans (feq (own_ok hr4.2.2.2.1)).2) (by decide) (by decide) k) ?_
  show Go _ _ _ _ _ _ _ T23 (mkF m 203 #[.val (.int p0), .val (.int p1), .val (.ref b1), .val (.ref b7), .val (.int r0), .val (.int r1), .val (.int r2), .val (.int r3), .val (.int r4), .unset] [])
  refine Go.step (fun _ k => XS.iconst X23.here hx rfl (hb hby at_203) k) ?_
  show Go _ _ _ _ _ _ _ T23 (mkF m 204 #[.val (.int p0), .val (.int p1), .val (.ref b1), .val (.ref b7), .val (.int r0), .val (.int r1), .val (.int r2), .val (.int r3), .val (.int r4), .unset] [(.int (1 : Int32))])
  refine Go.step (fun _ k => XS.iload X23.here hx rfl (hb hby at_204) rfl k) ?_
  show Go _ _ _ _ _ _ _ T23 (mkF m 206 #[.val (.int p0), .val (.int p1), .val (.ref b1), .val (.ref b7), .val (.int r0), .val (.int r1), .val (.int r2), .val (.int r3), .val (.int r4), .unset] [(.int r0), (.int (1 : Int32))])
  refine Go.step (fun _ k => XS.ishl X23.here hx rfl (hb hby at_206) rfl k) ?_
  show Go _ _ _ _ _ _ _ T23 (mkF m 207 #[.val (.int p0), .val (.int p1), .val (.ref b1), .val (.ref b7), .val (.int r0), .val (.int r1), .val (.int r2), .val (.int r3), .val (.int r4), .unset] [(.int ((1 : Int32) <<< (r0 &&& 31)))])
  refine Go.step (fun _ k => XS.iconst X23.here hx rfl (hb hby at_207) k) ?_
  show Go _ _ _ _ _ _ _ T23 (mkF m 208 #[.val (.int p0), .val (.int p1), .val (.ref b1), .val (.ref b7), .val (.int r0), .val (.int r1), .val (.int r2), .val (.int r3), .val (.int r4), .unset] [(.int (1 : Int32)), (.int ((1 : Int32) <<< (r0 &&& 31)))])
  refine Go.step (fun _ k => XS.iload X23.here hx rfl (hb hby at_208) rfl k) ?_
  show Go _ _ _ _ _ _ _ T23 (mkF m 210 #[.val (.int p0), .val (.int p1), .val (.ref b1), .val (.ref b7), .val (.int r0), .val (.int r1), .val (.int r2), .val (.int r3), .val (.int r4), .unset] [(.int r1), (.int (1 : Int32)), (.int ((1 : Int32) <<< (r0 &&& 31)))])
  refine Go.step (fun _ k => XS.ishl X23.here hx rfl (hb hby at_210) rfl k) ?_
  show Go _ _ _ _ _ _ _ T23 (mkF m 211 #[.val (.int p0), .val (.int p1), .val (.ref b1), .val (.ref b7), .val (.int r0), .val (.int r1), .val (.int r2), .val (.int r3), .val (.int r4), .unset] [(.int ((1 : Int32) <<< (r1 &&& 31))), (.int ((1 : Int32) <<< (r0 &&& 31)))])
  refine Go.step (fun _ k => XS.ior X23.here hx rfl (hb hby at_211) rfl k) ?_
  show Go _ _ _ _ _ _ _ T23 (mkF m 212 #[.val (.int p0), .val (.int p1), .val (.ref b1), .val (.ref b7), .val (.int r0), .val (.int r1), .val (.int r2), .val (.int r3), .val (.int r4), .unset] [(.int (((1 : Int32) <<< (r0 &&& 31)) ||| ((1 : Int32) <<< (r1 &&& 31))))])
  refine Go.step (fun _ k => XS.iconst X23.here hx rfl (hb hby at_212) k) ?_
  show Go _ _ _ _ _ _ _ T23 (mkF m 213 #[.val (.int p0), .val (.int p1), .val (.ref b1), .val (.ref b7), .val (.int r0), .val (.int r1), .val (.int r2), .val (.int r3), .val (.int r4), .unset] [(.int (1 : Int32)), (.int (((1 : Int32) <<< (r0 &&& 31)) ||| ((1 : Int32) <<< (r1 &&& 31))))])
  refine Go.step (fun _ k => XS.iload X23.here hx rfl (hb hby at_213) rfl k) ?_
  show Go _ _ _ _ _ _ _ T23 (mkF m 215 #[.val (.int p0), .val (.int p1), .val (.ref b1), .val (.ref b7), .val (.int r0), .val (.int r1), .val (.int r2), .val (.int r3), .val (.int r4), .unset] [(.int r2), (.int (1 : Int32)), (.int (((1 : Int32) <<< (r0 &&& 31)) ||| ((1 : Int32) <<< (r1 &&& 31))))])
  refine Go.step (fun _ k => XS.ishl X23.here hx rfl (hb hby at_215) rfl k) ?_
  show Go _ _ _ _ _ _ _ T23 (mkF m 216 #[.val (.int p0), .val (.int p1), .val (.ref b1), .val (.ref b7), .val (.int r0), .val (.int r1), .val (.int r2), .val (.int r3), .val (.int r4), .unset] [(.int ((1 : Int32) <<< (r2 &&& 31))), (.int (((1 : Int32) <<< (r0 &&& 31)) ||| ((1 : Int32) <<< (r1 &&& 31))))])
  refine Go.step (fun _ k => XS.ior X23.here hx rfl (hb hby at_216) rfl k) ?_
  show Go _ _ _ _ _ _ _ T23 (mkF m 217 #[.val (.int p0), .val (.int p1), .val (.ref b1), .val (.ref b7), .val (.int r0), .val (.int r1), .val (.int r2), .val (.int r3), .val (.int r4), .unset] [(.int ((((1 : Int32) <<< (r0 &&& 31)) ||| ((1 : Int32) <<< (r1 &&& 31))) ||| ((1 : Int32) <<< (r2 &&& 31))))])
  refine Go.step (fun _ k => XS.iconst X23.here hx rfl (hb hby at_217) k) ?_
  show Go _ _ _ _ _ _ _ T23 (mkF m 218 #[.val (.int p0), .val (.int p1), .val (.ref b1), .val (.ref b7), .val (.int r0), .val (.int r1), .val (.int r2), .val (.int r3), .val (.int r4), .unset] [(.int (1 : Int32)), (.int ((((1 : Int32) <<< (r0 &&& 31)) ||| ((1 : Int32) <<< (r1 &&& 31))) ||| ((1 : Int32) <<< (r2 &&& 31))))])
  refine Go.step (fun _ k => XS.iload X23.here hx rfl (hb hby at_218) rfl k) ?_
  show Go _ _ _ _ _ _ _ T23 (mkF m 220 #[.val (.int p0), .val (.int p1), .val (.ref b1), .val (.ref b7), .val (.int r0), .val (.int r1), .val (.int r2), .val (.int r3), .val (.int r4), .unset] [(.int r3), (.int (1 : Int32)), (.int ((((1 : Int32) <<< (r0 &&& 31)) ||| ((1 : Int32) <<< (r1 &&& 31))) ||| ((1 : Int32) <<< (r2 &&& 31))))])
  refine Go.step (fun _ k => XS.ishl X23.here hx rfl (hb hby at_220) rfl k) ?_
  show Go _ _ _ _ _ _ _ T23 (mkF m 221 #[.val (.int p0), .val (.int p1), .val (.ref b1), .val (.ref b7), .val (.int r0), .val (.int r1), .val (.int r2), .val (.int r3), .val (.int r4), .unset] [(.int ((1 : Int32) <<< (r3 &&& 31))), (.int ((((1 : Int32) <<< (r0 &&& 31)) ||| ((1 : Int32) <<< (r1 &&& 31))) ||| ((1 : Int32) <<< (r2 &&& 31))))])
  refine Go.step (fun _ k => XS.ior X23.here hx rfl (hb hby at_221) rfl k) ?_
  show Go _ _ _ _ _ _ _ T23 (mkF m 222 #[.val (.int p0), .val (.int p1), .val (.ref b1), .val (.ref b7), .val (.int r0), .val (.int r1), .val (.int r2), .val (.int r3), .val (.int r4), .unset] [(.int (((((1 : Int32) <<< (r0 &&& 31)) ||| ((1 : Int32) <<< (r1 &&& 31))) ||| ((1 : Int32) <<< (r2 &&& 31))) ||| ((1 : Int32) <<< (r3 &&& 31))))])
  refine Go.step (fun _ k => XS.iconst X23.here hx rfl (hb hby at_222) k) ?_
  show Go _ _ _ _ _ _ _ T23 (mkF m 223 #[.val (.int p0), .val (.int p1), .val (.ref b1), .val (.ref b7), .val (.int r0), .val (.int r1), .val (.int r2), .val (.int r3), .val (.int r4), .unset] [(.int (1 : Int32)), (.int (((((1 : Int32) <<< (r0 &&& 31)) ||| ((1 : Int32) <<< (r1 &&& 31))) ||| ((1 : Int32) <<< (r2 &&& 31))) ||| ((1 : Int32) <<< (r3 &&& 31))))])
  refine Go.step (fun _ k => XS.iload X23.here hx rfl (hb hby at_223) rfl k) ?_
  show Go _ _ _ _ _ _ _ T23 (mkF m 225 #[.val (.int p0), .val (.int p1), .val (.ref b1), .val (.ref b7), .val (.int r0), .val (.int r1), .val (.int r2), .val (.int r3), .val (.int r4), .unset] [(.int r4), (.int (1 : Int32)), (.int (((((1 : Int32) <<< (r0 &&& 31)) ||| ((1 : Int32) <<< (r1 &&& 31))) ||| ((1 : Int32) <<< (r2 &&& 31))) ||| ((1 : Int32) <<< (r3 &&& 31))))])
  refine Go.step (fun _ k => XS.ishl X23.here hx rfl (hb hby at_225) rfl k) ?_
  show Go _ _ _ _ _ _ _ T23 (mkF m 226 #[.val (.int p0), .val (.int p1), .val (.ref b1), .val (.ref b7), .val (.int r0), .val (.int r1), .val (.int r2), .val (.int r3), .val (.int r4), .unset] [(.int ((1 : Int32) <<< (r4 &&& 31))), (.int (((((1 : Int32) <<< (r0 &&& 31)) ||| ((1 : Int32) <<< (r1 &&& 31))) ||| ((1 : Int32) <<< (r2 &&& 31))) ||| ((1 : Int32) <<< (r3 &&& 31))))])
  refine Go.step (fun _ k => XS.ior X23.here hx rfl (hb hby at_226) rfl k) ?_
  show Go _ _ _ _ _ _ _ T23 (mkF m 227 #[.val (.int p0), .val (.int p1), .val (.ref b1), .val (.ref b7), .val (.int r0), .val (.int r1), .val (.int r2), .val (.int r3), .val (.int r4), .unset] [(.int ((((((1 : Int32) <<< (r0 &&& 31)) ||| ((1 : Int32) <<< (r1 &&& 31))) ||| ((1 : Int32) <<< (r2 &&& 31))) ||| ((1 : Int32) <<< (r3 &&& 31))) ||| ((1 : Int32) <<< (r4 &&& 31))))])
  refine Go.step (fun _ k => XS.istore X23.here hx rfl (hb hby at_227) rfl (l' := #[.val (.int p0), .val (.int p1), .val (.ref b1), .val (.ref b7), .val (.int r0), .val (.int r1), .val (.int r2), .val (.int r3), .val (.int r4), .val (.int ((((((1 : Int32) <<< (r0 &&& 31)) ||| ((1 : Int32) <<< (r1 &&& 31))) ||| ((1 : Int32) <<< (r2 &&& 31))) ||| ((1 : Int32) <<< (r3 &&& 31))) ||| ((1 : Int32) <<< (r4 &&& 31))))]) rfl k) ?_
  show Go _ _ _ _ _ _ _ T23 (mkF m 229 #[.val (.int p0), .val (.int p1), .val (.ref b1), .val (.ref b7), .val (.int r0), .val (.int r1), .val (.int r2), .val (.int r3), .val (.int r4), .val (.int ((((((1 : Int32) <<< (r0 &&& 31)) ||| ((1 : Int32) <<< (r1 &&& 31))) ||| ((1 : Int32) <<< (r2 &&& 31))) ||| ((1 : Int32) <<< (r3 &&& 31))) ||| ((1 : Int32) <<< (r4 &&& 31))))] [])
  refine Go.step (fun _ k => XS.iload X23.here hx rfl (hb hby at_229) rfl k) ?_
  show Go _ _ _ _ _ _ _ T23 (mkF m 231 #[.val (.int p0), .val (.int p1), .val (.ref b1), .val (.ref b7), .val (.int r0), .val (.int r1), .val (.int r2), .val (.int r3), .val (.int r4), .val (.int ((((((1 : Int32) <<< (r0 &&& 31)) ||| ((1 : Int32) <<< (r1 &&& 31))) ||| ((1 : Int32) <<< (r2 &&& 31))) ||| ((1 : Int32) <<< (r3 &&& 31))) ||| ((1 : Int32) <<< (r4 &&& 31))))] [(.int ((((((1 : Int32) <<< (r0 &&& 31)) ||| ((1 : Int32) <<< (r1 &&& 31))) ||| ((1 : Int32) <<< (r2 &&& 31))) ||| ((1 : Int32) <<< (r3 &&& 31))) ||| ((1 : Int32) <<< (r4 &&& 31))))])
  refine Go.step (fun _ k => XS.bipush X23.here hx rfl (hb hby at_231) k) ?_
  show Go _ _ _ _ _ _ _ T23 (mkF m 233 #[.val (.int p0), .val (.int p1), .val (.ref b1), .val (.ref b7), .val (.int r0), .val (.int r1), .val (.int r2), .val (.int r3), .val (.int r4), .val (.int ((((((1 : Int32) <<< (r0 &&& 31)) ||| ((1 : Int32) <<< (r1 &&& 31))) ||| ((1 : Int32) <<< (r2 &&& 31))) ||| ((1 : Int32) <<< (r3 &&& 31))) ||| ((1 : Int32) <<< (r4 &&& 31))))] [(.int (31 : Int32)), (.int ((((((1 : Int32) <<< (r0 &&& 31)) ||| ((1 : Int32) <<< (r1 &&& 31))) ||| ((1 : Int32) <<< (r2 &&& 31))) ||| ((1 : Int32) <<< (r3 &&& 31))) ||| ((1 : Int32) <<< (r4 &&& 31))))])
  refine Go.step (fun _ k => XS.icmpYes X23.here hx rfl (pc0 := 233) (pc' := 238) rfl (hb hby at_233) rfl (teq (own_seen c0 c1 c2 c3 c4 hsum hr0.2.2.2.2 hr1.2.2.2.2 hr2.2.2.2.2 hr3.2.2.2.2 hr4.2.2.2.2)).1 (by decide) (by decide) k) ?_
  show Go _ _ _ _ _ _ _ T23 (mkF m 238 #[.val (.int p0), .val (.int p1), .val (.ref b1), .val (.ref b7), .val (.int r0), .val (.int r1), .val (.int r2), .val (.int r3), .val (.int r4), .val (.int ((((((1 : Int32) <<< (r0 &&& 31)) ||| ((1 : Int32) <<< (r1 &&& 31))) ||| ((1 : Int32) <<< (r2 &&& 31))) ||| ((1 : Int32) <<< (r3 &&& 31))) ||| ((1 : Int32) <<< (r4 &&& 31))))] [])
  refine Go.step (fun _ k => XS.aloadN X23.here hx rfl (hb hby at_238) rfl rfl k) ?_
  show Go _ _ _ _ _ _ _ T23 (mkF m 239 #[.val (.int p0), .val (.int p1), .val (.ref b1), .val (.ref b7), .val (.int r0), .val (.int r1), .val (.int r2), .val (.int r3), .val (.int r4), .val (.int ((((((1 : Int32) <<< (r0 &&& 31)) ||| ((1 : Int32) <<< (r1 &&& 31))) ||| ((1 : Int32) <<< (r2 &&& 31))) ||| ((1 : Int32) <<< (r3 &&& 31))) ||| ((1 : Int32) <<< (r4 &&& 31))))] [(.ref b1)])
  refine Go.step (fun _ k => XS.iload X23.here hx rfl (hb hby at_239) rfl k) ?_
  show Go _ _ _ _ _ _ _ T23 (mkF m 241 #[.val (.int p0), .val (.int p1), .val (.ref b1), .val (.ref b7), .val (.int r0), .val (.int r1), .val (.int r2), .val (.int r3), .val (.int r4), .val (.int ((((((1 : Int32) <<< (r0 &&& 31)) ||| ((1 : Int32) <<< (r1 &&& 31))) ||| ((1 : Int32) <<< (r2 &&& 31))) ||| ((1 : Int32) <<< (r3 &&& 31))) ||| ((1 : Int32) <<< (r4 &&& 31))))] [(.int r0), (.ref b1)])
  refine Go.iaload X23 hx hZ hh23 Vtv (j := r0) (v := ((tV p0) (r0).toNatClampNeg)) ⟨hr0.1, hr0.2.1⟩ rfl (hb hby at_241) ?_
  show Go _ _ _ _ _ _ _ T23 (mkF m 242 #[.val (.int p0), .val (.int p1), .val (.ref b1), .val (.ref b7), .val (.int r0), .val (.int r1), .val (.int r2), .val (.int r3), .val (.int r4), .val (.int ((((((1 : Int32) <<< (r0 &&& 31)) ||| ((1 : Int32) <<< (r1 &&& 31))) ||| ((1 : Int32) <<< (r2 &&& 31))) ||| ((1 : Int32) <<< (r3 &&& 31))) ||| ((1 : Int32) <<< (r4 &&& 31))))] [(.int ((tV p0) (r0).toNatClampNeg))])
  refine Go.step (fun _ k => XS.aloadN X23.here hx rfl (hb hby at_242) rfl rfl k) ?_
  show Go _ _ _ _ _ _ _ T23 (mkF m 243 #[.val (.int p0), .val (.int p1), .val (.ref b1), .val (.ref b7), .val (.int r0), .val (.int r1), .val (.int r2), .val (.int r3), .val (.int r4), .val (.int ((((((1 : Int32) <<< (r0 &&& 31)) ||| ((1 : Int32) <<< (r1 &&& 31))) ||| ((1 : Int32) <<< (r2 &&& 31))) ||| ((1 : Int32) <<< (r3 &&& 31))) ||| ((1 : Int32) <<< (r4 &&& 31))))] [(.ref b1), (.int ((tV p0) (r0).toNatClampNeg))])
  refine Go.step (fun _ k => XS.iload X23.here hx rfl (hb hby at_243) rfl k) ?_
  show Go _ _ _ _ _ _ _ T23 (mkF m 245 #[.val (.int p0), .val (.int p1), .val (.ref b1), .val (.ref b7), .val (.int r0), .val (.int r1), .val (.int r2), .val (.int r3), .val (.int r4), .val (.int ((((((1 : Int32) <<< (r0 &&& 31)) ||| ((1 : Int32) <<< (r1 &&& 31))) ||| ((1 : Int32) <<< (r2 &&& 31))) ||| ((1 : Int32) <<< (r3 &&& 31))) ||| ((1 : Int32) <<< (r4 &&& 31))))] [(.int r1), (.ref b1), (.int ((tV p0) (r0).toNatClampNeg))])
  refine Go.iaload X23 hx hZ hh23 Vtv (j := r1) (v := ((tV p0) (r1).toNatClampNeg)) ⟨hr1.1, hr1.2.1⟩ rfl (hb hby at_245) ?_
  show Go _ _ _ _ _ _ _ T23 (mkF m 246 #[.val (.int p0), .val (.int p1), .val (.ref b1), .val (.ref b7), .val (.int r0), .val (.int r1), .val (.int r2), .val (.int r3), .val (.int r4), .val (.int ((((((1 : Int32) <<< (r0 &&& 31)) ||| ((1 : Int32) <<< (r1 &&& 31))) ||| ((1 : Int32) <<< (r2 &&& 31))) ||| ((1 : Int32) <<< (r3 &&& 31))) ||| ((1 : Int32) <<< (r4 &&& 31))))] [(.int ((tV p0) (r1).toNatClampNeg)), (.int ((tV p0) (r0).toNatClampNeg))])
  refine Go.step (fun _ k => XS.icmpNo X23.here hx rfl (hb hby at_246) rfl (flt (own_le hr0.2.2.1 hr1.2.2.1 k0)).2.2.1 k) ?_
  show Go _ _ _ _ _ _ _ T23 (mkF m 249 #[.val (.int p0), .val (.int p1), .val (.ref b1), .val (.ref b7), .val (.int r0), .val (.int r1), .val (.int r2), .val (.int r3), .val (.int r4), .val (.int ((((((1 : Int32) <<< (r0 &&& 31)) ||| ((1 : Int32) <<< (r1 &&& 31))) ||| ((1 : Int32) <<< (r2 &&& 31))) ||| ((1 : Int32) <<< (r3 &&& 31))) ||| ((1 : Int32) <<< (r4 &&& 31))))] [])
  refine Go.step (fun _ k => XS.aloadN X23.here hx rfl (hb hby at_249) rfl rfl k) ?_
  show Go _ _ _ _ _ _ _ T23 (mkF m 250 #[.val (.int p0), .val (.int p1), .val (.ref b1), .val (.ref b7), .val (.int r0), .val (.int r1), .val (.int r2), .val (.int r3), .val (.int r4), .val (.int ((((((1 : Int32) <<< (r0 &&& 31)) ||| ((1 : Int32) <<< (r1 &&& 31))) ||| ((1 : Int32) <<< (r2 &&& 31))) ||| ((1 : Int32) <<< (r3 &&& 31))) ||| ((1 : Int32) <<< (r4 &&& 31))))] [(.ref b1)])
  refine Go.step (fun _ k => XS.iload X23.here hx rfl (hb hby at_250) rfl k) ?_
  show Go _ _ _ _ _ _ _ T23 (mkF m 252 #[.val (.int p0), .val (.int p1), .val (.ref b1), .val (.ref b7), .val (.int r0), .val (.int r1), .val (.int r2), .val (.int r3), .val (.int r4), .val (.int ((((((1 : Int32) <<< (r0 &&& 31)) ||| ((1 : Int32) <<< (r1 &&& 31))) ||| ((1 : Int32) <<< (r2 &&& 31))) ||| ((1 : Int32) <<< (r3 &&& 31))) ||| ((1 : Int32) <<< (r4 &&& 31))))] [(.int r1), (.ref b1)])
  refine Go.iaload X23 hx hZ hh23 Vtv (j := r1) (v := ((tV p0) (r1).toNatClampNeg)) ⟨hr1.1, hr1.2.1⟩ rfl (hb hby at_252) ?_
  show Go _ _ _ _ _ _ _ T23 (mkF m 253 #[.val (.int p0), .val (.int p1), .val (.ref b1), .val (.ref b7), .val (.int r0), .val (.int r1), .val (.int r2), .val (.int r3), .val (.int r4), .val (.int ((((((1 : Int32) <<< (r0 &&& 31)) ||| ((1 : Int32) <<< (r1 &&& 31))) ||| ((1 : Int32) <<< (r2 &&& 31))) ||| ((1 : Int32) <<< (r3 &&& 31))) ||| ((1 : Int32) <<< (r4 &&& 31))))] [(.int ((tV p0) (r1).toNatClampNeg))])
  refine Go.step (fun _ k => XS.aloadN X23.here hx rfl (hb hby at_253) rfl rfl k) ?_
  show Go _ _ _ _ _ _ _ T23 (mkF m 254 #[.val (.int p0), .val (.int p1), .val (.ref b1), .val (.ref b7), .val (.int r0), .val (.int r1), .val (.int r2), .val (.int r3), .val (.int r4), .val (.int ((((((1 : Int32) <<< (r0 &&& 31)) ||| ((1 : Int32) <<< (r1 &&& 31))) ||| ((1 : Int32) <<< (r2 &&& 31))) ||| ((1 : Int32) <<< (r3 &&& 31))) ||| ((1 : Int32) <<< (r4 &&& 31))))] [(.ref b1), (.int ((tV p0) (r1).toNatClampNeg))])
  refine Go.step (fun _ k => XS.iload X23.here hx rfl (hb hby at_254) rfl k) ?_
  show Go _ _ _ _ _ _ _ T23 (mkF m 256 #[.val (.int p0), .val (.int p1), .val (.ref b1), .val (.ref b7), .val (.int r0), .val (.int r1), .val (.int r2), .val (.int r3), .val (.int r4), .val (.int ((((((1 : Int32) <<< (r0 &&& 31)) ||| ((1 : Int32) <<< (r1 &&& 31))) ||| ((1 : Int32) <<< (r2 &&& 31))) ||| ((1 : Int32) <<< (r3 &&& 31))) ||| ((1 : Int32) <<< (r4 &&& 31))))] [(.int r2), (.ref b1), (.int ((tV p0) (r1).toNatClampNeg))])
  refine Go.iaload X23 hx hZ hh23 Vtv (j := r2) (v := ((tV p0) (r2).toNatClampNeg)) ⟨hr2.1, hr2.2.1⟩ rfl (hb hby at_256) ?_
  show Go _ _ _ _ _ _ _ T23 (mkF m 257 #[.val (.int p0), .val (.int p1), .val (.ref b1), .val (.ref b7), .val (.int r0), .val (.int r1), .val (.int r2), .val (.int r3), .val (.int r4), .val (.int ((((((1 : Int32) <<< (r0 &&& 31)) ||| ((1 : Int32) <<< (r1 &&& 31))) ||| ((1 : Int32) <<< (r2 &&& 31))) ||| ((1 : Int32) <<< (r3 &&& 31))) ||| ((1 : Int32) <<< (r4 &&& 31))))] [(.int ((tV p0) (r2).toNatClampNeg)), (.int ((tV p0) (r1).toNatClampNeg))])
  refine Go.step (fun _ k => XS.icmpNo X23.here hx rfl (hb hby at_257) rfl (flt (own_le hr1.2.2.1 hr2.2.2.1 k1)).2.2.1 k) ?_
  show Go _ _ _ _ _ _ _ T23 (mkF m 260 #[.val (.int p0), .val (.int p1), .val (.ref b1), .val (.ref b7), .val (.int r0), .val (.int r1), .val (.int r2), .val (.int r3), .val (.int r4), .val (.int ((((((1 : Int32) <<< (r0 &&& 31)) ||| ((1 : Int32) <<< (r1 &&& 31))) ||| ((1 : Int32) <<< (r2 &&& 31))) ||| ((1 : Int32) <<< (r3 &&& 31))) ||| ((1 : Int32) <<< (r4 &&& 31))))] [])
  refine Go.step (fun _ k => XS.aloadN X23.here hx rfl (hb hby at_260) rfl rfl k) ?_
  show Go _ _ _ _ _ _ _ T23 (mkF m 261 #[.val (.int p0), .val (.int p1), .val (.ref b1), .val (.ref b7), .val (.int r0), .val (.int r1), .val (.int r2), .val (.int r3), .val (.int r4), .val (.int ((((((1 : Int32) <<< (r0 &&& 31)) ||| ((1 : Int32) <<< (r1 &&& 31))) ||| ((1 : Int32) <<< (r2 &&& 31))) ||| ((1 : Int32) <<< (r3 &&& 31))) ||| ((1 : Int32) <<< (r4 &&& 31))))] [(.ref b1)])
  refine Go.step (fun _ k => XS.iload X23.here hx rfl (hb hby at_261) rfl k) ?_
  show Go _ _ _ _ _ _ _ T23 (mkF m 263 #[.val (.int p0), .val (.int p1), .val (.ref b1), .val (.ref b7), .val (.int r0), .val (.int r1), .val (.int r2), .val (.int r3), .val (.int r4), .val (.int ((((((1 : Int32) <<< (r0 &&& 31)) ||| ((1 : Int32) <<< (r1 &&& 31))) ||| ((1 : Int32) <<< (r2 &&& 31))) ||| ((1 : Int32) <<< (r3 &&& 31))) ||| ((1 : Int32) <<< (r4 &&& 31))))] [(.int r2), (.ref b1)])
  refine Go.iaload X23 hx hZ hh23 Vtv (j := r2) (v := ((tV p0) (r2).toNatClampNeg)) ⟨hr2.1, hr2.2.1⟩ rfl (hb hby at_263) ?_
  show Go _ _ _ _ _ _ _ T23 (mkF m 264 #[.val (.int p0), .val (.int p1), .val (.ref b1), .val (.ref b7), .val (.int r0), .val (.int r1), .val (.int r2), .val (.int r3), .val (.int r4), .val (.int ((((((1 : Int32) <<< (r0 &&& 31)) ||| ((1 : Int32) <<< (r1 &&& 31))) ||| ((1 : Int32) <<< (r2 &&& 31))) ||| ((1 : Int32) <<< (r3 &&& 31))) ||| ((1 : Int32) <<< (r4 &&& 31))))] [(.int ((tV p0) (r2).toNatClampNeg))])
  refine Go.step (fun _ k => XS.aloadN X23.here hx rfl (hb hby at_264) rfl rfl k) ?_
  show Go _ _ _ _ _ _ _ T23 (mkF m 265 #[.val (.int p0), .val (.int p1), .val (.ref b1), .val (.ref b7), .val (.int r0), .val (.int r1), .val (.int r2), .val (.int r3), .val (.int r4), .val (.int ((((((1 : Int32) <<< (r0 &&& 31)) ||| ((1 : Int32) <<< (r1 &&& 31))) ||| ((1 : Int32) <<< (r2 &&& 31))) ||| ((1 : Int32) <<< (r3 &&& 31))) ||| ((1 : Int32) <<< (r4 &&& 31))))] [(.ref b1), (.int ((tV p0) (r2).toNatClampNeg))])
  refine Go.step (fun _ k => XS.iload X23.here hx rfl (hb hby at_265) rfl k) ?_
  show Go _ _ _ _ _ _ _ T23 (mkF m 267 #[.val (.int p0), .val (.int p1), .val (.ref b1), .val (.ref b7), .val (.int r0), .val (.int r1), .val (.int r2), .val (.int r3), .val (.int r4), .val (.int ((((((1 : Int32) <<< (r0 &&& 31)) ||| ((1 : Int32) <<< (r1 &&& 31))) ||| ((1 : Int32) <<< (r2 &&& 31))) ||| ((1 : Int32) <<< (r3 &&& 31))) ||| ((1 : Int32) <<< (r4 &&& 31))))] [(.int r3), (.ref b1), (.int ((tV p0) (r2).toNatClampNeg))])
  refine Go.iaload X23 hx hZ hh23 Vtv (j := r3) (v := ((tV p0) (r3).toNatClampNeg)) ⟨hr3.1, hr3.2.1⟩ rfl (hb hby at_267) ?_
  show Go _ _ _ _ _ _ _ T23 (mkF m 268 #[.val (.int p0), .val (.int p1), .val (.ref b1), .val (.ref b7), .val (.int r0), .val (.int r1), .val (.int r2), .val (.int r3), .val (.int r4), .val (.int ((((((1 : Int32) <<< (r0 &&& 31)) ||| ((1 : Int32) <<< (r1 &&& 31))) ||| ((1 : Int32) <<< (r2 &&& 31))) ||| ((1 : Int32) <<< (r3 &&& 31))) ||| ((1 : Int32) <<< (r4 &&& 31))))] [(.int ((tV p0) (r3).toNatClampNeg)), (.int ((tV p0) (r2).toNatClampNeg))])
  refine Go.step (fun _ k => XS.icmpNo X23.here hx rfl (hb hby at_268) rfl (flt (own_le hr2.2.2.1 hr3.2.2.1 k2)).2.2.1 k) ?_
  show Go _ _ _ _ _ _ _ T23 (mkF m 271 #[.val (.int p0), .val (.int p1), .val (.ref b1), .val (.ref b7), .val (.int r0), .val (.int r1), .val (.int r2), .val (.int r3), .val (.int r4), .val (.int ((((((1 : Int32) <<< (r0 &&& 31)) ||| ((1 : Int32) <<< (r1 &&& 31))) ||| ((1 : Int32) <<< (r2 &&& 31))) ||| ((1 : Int32) <<< (r3 &&& 31))) ||| ((1 : Int32) <<< (r4 &&& 31))))] [])
  refine Go.step (fun _ k => XS.aloadN X23.here hx rfl (hb hby at_271) rfl rfl k) ?_
  show Go _ _ _ _ _ _ _ T23 (mkF m 272 #[.val (.int p0), .val (.int p1), .val (.ref b1), .val (.ref b7), .val (.int r0), .val (.int r1), .val (.int r2), .val (.int r3), .val (.int r4), .val (.int ((((((1 : Int32) <<< (r0 &&& 31)) ||| ((1 : Int32) <<< (r1 &&& 31))) ||| ((1 : Int32) <<< (r2 &&& 31))) ||| ((1 : Int32) <<< (r3 &&& 31))) ||| ((1 : Int32) <<< (r4 &&& 31))))] [(.ref b1)])
  refine Go.step (fun _ k => XS.iload X23.here hx rfl (hb hby at_272) rfl k) ?_
  show Go _ _ _ _ _ _ _ T23 (mkF m 274 #[.val (.int p0), .val (.int p1), .val (.ref b1), .val (.ref b7), .val (.int r0), .val (.int r1), .val (.int r2), .val (.int r3), .val (.int r4), .val (.int ((((((1 : Int32) <<< (r0 &&& 31)) ||| ((1 : Int32) <<< (r1 &&& 31))) ||| ((1 : Int32) <<< (r2 &&& 31))) ||| ((1 : Int32) <<< (r3 &&& 31))) ||| ((1 : Int32) <<< (r4 &&& 31))))] [(.int r3), (.ref b1)])
  refine Go.iaload X23 hx hZ hh23 Vtv (j := r3) (v := ((tV p0) (r3).toNatClampNeg)) ⟨hr3.1, hr3.2.1⟩ rfl (hb hby at_274) ?_
  show Go _ _ _ _ _ _ _ T23 (mkF m 275 #[.val (.int p0), .val (.int p1), .val (.ref b1), .val (.ref b7), .val (.int r0), .val (.int r1), .val (.int r2), .val (.int r3), .val (.int r4), .val (.int ((((((1 : Int32) <<< (r0 &&& 31)) ||| ((1 : Int32) <<< (r1 &&& 31))) ||| ((1 : Int32) <<< (r2 &&& 31))) ||| ((1 : Int32) <<< (r3 &&& 31))) ||| ((1 : Int32) <<< (r4 &&& 31))))] [(.int ((tV p0) (r3).toNatClampNeg))])
  refine Go.step (fun _ k => XS.aloadN X23.here hx rfl (hb hby at_275) rfl rfl k) ?_
  show Go _ _ _ _ _ _ _ T23 (mkF m 276 #[.val (.int p0), .val (.int p1), .val (.ref b1), .val (.ref b7), .val (.int r0), .val (.int r1), .val (.int r2), .val (.int r3), .val (.int r4), .val (.int ((((((1 : Int32) <<< (r0 &&& 31)) ||| ((1 : Int32) <<< (r1 &&& 31))) ||| ((1 : Int32) <<< (r2 &&& 31))) ||| ((1 : Int32) <<< (r3 &&& 31))) ||| ((1 : Int32) <<< (r4 &&& 31))))] [(.ref b1), (.int ((tV p0) (r3).toNatClampNeg))])
  refine Go.step (fun _ k => XS.iload X23.here hx rfl (hb hby at_276) rfl k) ?_
  show Go _ _ _ _ _ _ _ T23 (mkF m 278 #[.val (.int p0), .val (.int p1), .val (.ref b1), .val (.ref b7), .val (.int r0), .val (.int r1), .val (.int r2), .val (.int r3), .val (.int r4), .val (.int ((((((1 : Int32) <<< (r0 &&& 31)) ||| ((1 : Int32) <<< (r1 &&& 31))) ||| ((1 : Int32) <<< (r2 &&& 31))) ||| ((1 : Int32) <<< (r3 &&& 31))) ||| ((1 : Int32) <<< (r4 &&& 31))))] [(.int r4), (.ref b1), (.int ((tV p0) (r3).toNatClampNeg))])
  refine Go.iaload X23 hx hZ hh23 Vtv (j := r4) (v := ((tV p0) (r4).toNatClampNeg)) ⟨hr4.1, hr4.2.1⟩ rfl (hb hby at_278) ?_
  show Go _ _ _ _ _ _ _ T23 (mkF m 279 #[.val (.int p0), .val (.int p1), .val (.ref b1), .val (.ref b7), .val (.int r0), .val (.int r1), .val (.int r2), .val (.int r3), .val (.int r4), .val (.int ((((((1 : Int32) <<< (r0 &&& 31)) ||| ((1 : Int32) <<< (r1 &&& 31))) ||| ((1 : Int32) <<< (r2 &&& 31))) ||| ((1 : Int32) <<< (r3 &&& 31))) ||| ((1 : Int32) <<< (r4 &&& 31))))] [(.int ((tV p0) (r4).toNatClampNeg)), (.int ((tV p0) (r3).toNatClampNeg))])
  refine Go.step (fun _ k => XS.icmpNo X23.here hx rfl (hb hby at_279) rfl (flt (own_le hr3.2.2.1 hr4.2.2.1 k3)).2.2.1 k) ?_
  show Go _ _ _ _ _ _ _ T23 (mkF m 282 #[.val (.int p0), .val (.int p1), .val (.ref b1), .val (.ref b7), .val (.int r0), .val (.int r1), .val (.int r2), .val (.int r3), .val (.int r4), .val (.int ((((((1 : Int32) <<< (r0 &&& 31)) ||| ((1 : Int32) <<< (r1 &&& 31))) ||| ((1 : Int32) <<< (r2 &&& 31))) ||| ((1 : Int32) <<< (r3 &&& 31))) ||| ((1 : Int32) <<< (r4 &&& 31))))] [])
  refine Go.step (fun _ k => XS.iconst X23.here hx rfl (hb hby at_282) k) ?_
  show Go _ _ _ _ _ _ _ T23 (mkF m 283 #[.val (.int p0), .val (.int p1), .val (.ref b1), .val (.ref b7), .val (.int r0), .val (.int r1), .val (.int r2), .val (.int r3), .val (.int r4), .val (.int ((((((1 : Int32) <<< (r0 &&& 31)) ||| ((1 : Int32) <<< (r1 &&& 31))) ||| ((1 : Int32) <<< (r2 &&& 31))) ||| ((1 : Int32) <<< (r3 &&& 31))) ||| ((1 : Int32) <<< (r4 &&& 31))))] [(.int (1 : Int32))])
  refine Go.step (fun _ k => XS.goto X23.here hx rfl (pc0 := 283) (pc' := 287) rfl (hb hby at_283) (by decide) (by decide) k) ?_
  show Go _ _ _ _ _ _ _ T23 (mkF m 287 #[.val (.int p0), .val (.int p1), .val (.ref b1), .val (.ref b7), .val (.int r0), .val (.int r1), .val (.int r2), .val (.int r3), .val (.int r4), .val (.int ((((((1 : Int32) <<< (r0 &&& 31)) ||| ((1 : Int32) <<< (r1 &&& 31))) ||| ((1 : Int32) <<< (r2 &&& 31))) ||| ((1 : Int32) <<< (r3 &&& 31))) ||| ((1 : Int32) <<< (r4 &&& 31))))] [(.int (1 : Int32))])
  refine Go.retZ X23 hx hlk hret (by decide) (hb hby at_287) (by decide) (by decide) ?_
  try rw [hh23]
  exact ⟨rfl, N23⟩
theorem ef_rm0 (m : MethodId) (p0 : Int32) (p1 : Int32) : entryFrame m #[(.int p0), (.int p1)] maxLocals = mkF m 0 #[.val (.int p0), .val (.int p1), .unset, .unset, .unset, .unset, .unset, .unset, .unset, .unset] [] := by first | (simp [entryFrame, mkF, argsToLocals, Value.category, maxLocals]; done) | rfl
theorem rm0 (l : Launch) (Z : State) (a0 : Array Value) (hw : ∀ d ∈ tables_1, d.before a0 Z = true) (ws : List Jvm.Cond) (p0 p1 : Int32) (h0 : Heap) (n0 : Nat) (Z0 : n0 ≤ h0.size)  :
    MetFree l x (head1 (Jvm.Cond.code x code maxLocals ret :: ws) room_1) (fun a U => a = #[(.int p0), (.int p1)] ∧ Z.Warmed39 U.vm ∧ U.heap = h0) (fun _ _ _ _ _ => True) (fun _ U o U' => ∃ v L, o = .returned v ∧ (fun r h L => r = some (.int 1) ∧ Fr n0 L) v U'.heap L ∧ FrameEnd U o U' L room_1.cells room_1.slots) :=
  con_of (plainFor_of_name pn_5) (fun p_ e_ s_ m_ b_ meth_ c_ T_ X_ hx hZ hby hml hown hnm hret hlk e0 => Go.cast (ef_rm0 m_ p0 p1) (w0 p0 p1 X_ hx hZ hw hby hml hown hnm hret hlk e0 Z0 (Fr.nil n0) ))
set_option maxRecDepth 65536 in
set_option maxHeartbeats 40000000 in
theorem comes_1 {Post : Tables → Env → Array Value → State → Outcome → State → Prop} (hpost : ∀ tb e args s v u, (limb_1_1.after args s (.returned v) u = true ∧ limb_1_2.after args s (.returned v) u = true ∧ True) → FrameEnd s (.returned v) u (Jvm.fieldLocs frame_1_writes args s ++ Jvm.arrayLocs frame_1_arrays args s ++ Jvm.staticLocs frame_1_statics s) 16 384 → Post tb e args s (.returned v) u) :
    ArmFor flags0 classFile x code maxLocals ret World_1 tables_1 room_1 Calls_1 rest_1 Pre_1 Post := by
  intro l hfl _ _ p e ha hc hk s m args below hf hA hF happ hP
  obtain ⟨hcalls, hrest, hpre⟩ := hP
  obtain ⟨-, -, -, hnamed, -, -, -, hat⟩ := (Spec.applies_iff hf).mp happ
  obtain ⟨hg, hn⟩ := and_e (Cond.before_iff.mp (show (Jvm.Cond.and given_1 narrow_1).before args s = true from hpre))
  obtain ⟨g1, g2⟩ := and_e hg
  obtain ⟨g3, g4⟩ := and_e g2
  obtain ⟨w0, w1, rfl⟩ : ∃ w0 w1 : Value, args = #[w0, w1] := by
    have hs : args.size = 2 := by simpa [Cond.value, given_1] using g1
    obtain ⟨L⟩ := args
    match L, hs with
    | [w0, w1], _ => exact ⟨w0, w1, rfl⟩
  have hw := fun d (hd : d ∈ tables_1) => atoms_spec (ws := Jvm.Cond.code x code maxLocals ret :: tables_1) hat d (List.mem_cons_of_mem _ hd)
  have hfit : Fit s := fun {y c} hc i hi => by
    obtain ⟨ha, rfl⟩ := Array.getElem?_eq_some_iff.mp hc
    have q := List.all_eq_true.mp ((Array.all_eq_true_iff_forall_mem.mp hF) _ (Array.getElem_mem ha)) i (List.mem_range.mpr hi)
    simpa [Array.getElem?_eq_getElem hi] using q
  obtain ⟨i0, ei0⟩ := is_v g3
  obtain rfl : w0 = (.int i0) := Option.some.inj ei0
  obtain ⟨i1, ei1⟩ := is_v g4
  obtain rfl : w1 = (.int i1) := Option.some.inj ei1
  obtain ⟨n, o, h1, h2, h3, _, L, rfl, ⟨rfl, N⟩, hq⟩ := rm0 l s _ hw tables_1 i0 i1 s.heap s.heap.size (Nat.le_refl _)  p e ha hc hk s m _ below hf ((Spec.applies_iff_loose hf).mp happ).1 ⟨rfl, State.Warmed39.refl s, rfl⟩ trivial
  refine ⟨n, _, h1, h2, h3, hpost _ _ _ _ _ _ ⟨Cond.after_iff.mpr rfl, Cond.after_iff.mpr (eq_i res_at (Term.int_eval (1)) rfl), trivial⟩ ⟨hq.1, hq.2.1, (hq.2.2.sift fun y hy => Or.inr (N y hy)).mono (by decide) (by decide)⟩⟩
theorem main_1_1 : Claimed_1_1 := comes_1 fun _ _ _ _ _ _ h hF => ⟨h.1, hF⟩
theorem main_1_2 : Claimed_1_2 := comes_1 fun _ _ _ _ _ _ h hF => ⟨h.2.1, hF⟩
end Jvm.Pilot.@@N@@
namespace Jvm.Pilot.@@N@@
open Jvm Jvm.ClassFile Sem Op Lib Jvm.Free Jvm.Stand Jvm.Pilot.@@N@@.Jvm.D
/-! MADE BY PROGRAM (witnessworld.py) out of the Statement's table words and the real class files: 11 classes; the members and pool entries that the words name. The judged class is class 1, her method 2. -/
namespace start1
open Jvm.ClassFile
def u (s : String) : CpInfo := .utf8 (stringToUtf16 s)
/-- a pool by its gaps: so many unusable entries, then the entry; so many at the end -/
def gap : Nat → List CpInfo → List CpInfo
  | 0, r => r
  | n + 1, r => .unusable :: gap n r
def poolList (es : List (Nat × CpInfo)) (last : Nat) : List CpInfo := es.foldr (fun e r => gap e.1 (e.2 :: r)) (gap last [])
def pool (es : List (Nat × CpInfo)) (last : Nat) : Array CpInfo := ⟨poolList es last⟩
def fileOf (pool : Array CpInfo) (this : Nat) (attrs : Array Attribute := #[]) (ms : Array MethodInfo := #[]) (fl : Nat := 33) (sup : Nat := 0) (ifs : Array Nat := #[]) (fds : Array FieldInfo := #[]) : ClassFile where
  minorVersion := 0
  majorVersion := 65
  constantPool := pool
  accessFlags := fl
  thisClass := this
  superClass := sup
  interfaces := ifs
  fields := fds
  methods := ms
  attributes := attrs
def plain (name : String) (sup : Option ClassId) : Class where
  name := name
  kind := .ordinary
  loader := none
  accessFlags := 33
  super := sup
  interfaces := #[]
  cf := none
  fields := #[]
  methods := #[]
  instanceTypes := #[]
  staticTypes := #[]
  resolved := #[]
  callSites := []
  init := .initialized
  statics := none
  mirror := none

def pool0 : Array CpInfo := pool [(5, u "<init>"), (0, u "()V"), (1, .class_ 10), (1, u "java/lang/Object")] 113

def k0c0 : Code := { maxStack := 0, maxLocals := 1, code := object_method_1_code, exceptionTable := #[], attributes := #[] }
def k0m0 : Method := { name := "<init>", desc := "()V", sig := { parameters := [], returnType := none }, accessFlags := 1, code := some k0c0 }
/-- java/lang/Object -/
def k0 : Class := { plain "java/lang/Object" none with
  accessFlags := 33
  interfaces := #[]
  cf := some (fileOf pool0 8 #[] #[{ accessFlags := 1, nameIndex := 5, descriptorIndex := 6, attributes := #[] }] 33 0 #[] #[])
  fields := #[]
  methods := #[k0m0]
  instanceTypes := #[]
  staticTypes := #[]
  resolved := Array.replicate 124 none
  statics := none }

def pool1 : Array CpInfo := pool [(2, .class_ 4), (0, .nameAndType 5 6), (0, u "java/lang/Object"), (0, u "<init>"), (0, u "()V"), (0, .class_ 8), (0, u "com/example/wavegrade/wavegrade/DepartureQueue"), (0, .methodref 7 3), (0, .methodref 7 11), (0, .nameAndType 12 13), (0, u "add"), (0, u "(DI)V"), (0, .methodref 7 15), (0, .nameAndType 16 17), (0, u "removeFirst"), (0, u "()I"), (0, .methodref 19 20), (0, .class_ 21), (0, .nameAndType 22 23), (0, u "com/example/wavegrade/wavegrade/DepartureQueueRemoveFirstPinLaw"), (0, u "ok"), (0, u "(I)Z"), (3, u "law"), (0, u "(II)Z")] 4

def k1m0 : Method := { name := "<init>", desc := "()V", sig := { parameters := [], returnType := none }, accessFlags := 1, code := none }
def k1c1 : Code := { maxStack := 2, maxLocals := 1, code := method_2_code, exceptionTable := #[], attributes := #[] }
def k1m1 : Method := { name := "ok", desc := "(I)Z", sig := { parameters := [.int], returnType := some .boolean }, accessFlags := 10, code := some k1c1 }
def k1c2 : Code := { maxStack := 5, maxLocals := 10, code := code, exceptionTable := #[], attributes := #[] }
def k1m2 : Method := { name := "law", desc := "(II)Z", sig := { parameters := [.int, .int], returnType := some .boolean }, accessFlags := 9, code := some k1c2 }
/-- com/example/wavegrade/wavegrade/DepartureQueueRemoveFirstPinLaw -/
def k1 : Class := { plain "com/example/wavegrade/wavegrade/DepartureQueueRemoveFirstPinLaw" (some 0) with
  accessFlags := 49
  interfaces := #[]
  cf := some (fileOf pool1 19 #[] #[{ accessFlags := 1, nameIndex := 5, descriptorIndex := 6, attributes := #[] }, { accessFlags := 10, nameIndex := 22, descriptorIndex := 23, attributes := #[] }, { accessFlags := 9, nameIndex := 27, descriptorIndex := 28, attributes := #[] }] 49 2 #[] #[])
  fields := #[]
  methods := #[k1m0, k1m1, k1m2]
  instanceTypes := #[]
  staticTypes := #[]
  resolved := Array.replicate 33 none
  statics := none }

def pool2 : Array CpInfo := pool [(1, .methodref 2 3), (0, .class_ 4), (0, .nameAndType 5 6), (0, u "java/lang/Object"), (0, u "<init>"), (0, u "()V"), (0, .fieldref 8 9), (0, .class_ 10), (0, .nameAndType 11 12), (0, u "com/example/wavegrade/wavegrade/DepartureQueue"), (0, u "times"), (0, u "[D"), (0, .fieldref 8 14), (0, .nameAndType 15 16), (0, u "lightpaths"), (0, u "[I"), (0, .fieldref 8 18), (0, .nameAndType 19 20), (0, u "size"), (0, u "I"), (16, u "add"), (0, u "(DI)V"), (0, u "removeFirst"), (0, u "()I")] 2

def k2c0 : Code := { maxStack := 2, maxLocals := 1, code := prog_1_method_1_code, exceptionTable := #[], attributes := #[] }
def k2m0 : Method := { name := "<init>", desc := "()V", sig := { parameters := [], returnType := none }, accessFlags := 0, code := some k2c0 }
def k2c1 : Code := { maxStack := 4, maxLocals := 6, code := prog_1_method_4_code, exceptionTable := #[], attributes := #[] }
def k2m1 : Method := { name := "add", desc := "(DI)V", sig := { parameters := [.double, .int], returnType := none }, accessFlags := 0, code := some k2c1 }
def k2c2 : Code := { maxStack := 4, maxLocals := 7, code := prog_1_method_5_code, exceptionTable := #[], attributes := #[] }
def k2m2 : Method := { name := "removeFirst", desc := "()I", sig := { parameters := [], returnType := some .int }, accessFlags := 0, code := some k2c2 }
/-- com/example/wavegrade/wavegrade/DepartureQueue -/
def k2 : Class := { plain "com/example/wavegrade/wavegrade/DepartureQueue" (some 0) with
  accessFlags := 48
  interfaces := #[]
  cf := some (fileOf pool2 8 #[] #[{ accessFlags := 0, nameIndex := 5, descriptorIndex := 6, attributes := #[] }, { accessFlags := 0, nameIndex := 37, descriptorIndex := 38, attributes := #[] }, { accessFlags := 0, nameIndex := 39, descriptorIndex := 40, attributes := #[] }] 48 2 #[] #[{ accessFlags := 2, nameIndex := 11, descriptorIndex := 12, attributes := #[] }, { accessFlags := 2, nameIndex := 15, descriptorIndex := 16, attributes := #[] }, { accessFlags := 2, nameIndex := 19, descriptorIndex := 20, attributes := #[] }])
  fields := #[{ name := "times", type := (.array .double), accessFlags := 2, slot := 0, constantValue := 0 }, { name := "lightpaths", type := (.array .int), accessFlags := 2, slot := 1, constantValue := 0 }, { name := "size", type := .int, accessFlags := 2, slot := 2, constantValue := 0 }]
  methods := #[k2m0, k2m1, k2m2]
  instanceTypes := #[(.array .double), (.array .int), .int]
  staticTypes := #[]
  resolved := Array.replicate 43 none
  statics := none }

def pool3 : Array CpInfo := pool [(1, u "java/lang/Cloneable"), (0, .class_ 1), (0, u "java/lang/Object"), (0, .class_ 3)] 3

/-- java/lang/Cloneable -/
def k3 : Class := { plain "java/lang/Cloneable" (some 0) with
  accessFlags := 1537
  interfaces := #[]
  cf := some (fileOf pool3 2 #[] #[] 1537 4 #[] #[])
  fields := #[]
  methods := #[]
  instanceTypes := #[]
  staticTypes := #[]
  resolved := Array.replicate 8 none
  statics := none }

def pool4 : Array CpInfo := pool [(1, u "java/io/Serializable"), (0, .class_ 1), (0, u "java/lang/Object"), (0, .class_ 3)] 3

/-- java/io/Serializable -/
def k4 : Class := { plain "java/io/Serializable" (some 0) with
  accessFlags := 1537
  interfaces := #[]
  cf := some (fileOf pool4 2 #[] #[] 1537 4 #[] #[])
  fields := #[]
  methods := #[]
  instanceTypes := #[]
  staticTypes := #[]
  resolved := Array.replicate 8 none
  statics := none }

/-- the primitive byte -/
def k5 : Class := { plain "byte" none with kind := .primitive 'B', accessFlags := 0x411 }
/-- [B -/
def k6 : Class := { plain "[B" (some 0) with kind := .array 5 .byte, interfaces := #[3, 4], accessFlags := 1041 }

/-- the primitive double -/
def k7 : Class := { plain "double" none with kind := .primitive 'D', accessFlags := 0x411 }
/-- [D -/
def k8 : Class := { plain "[D" (some 0) with kind := .array 7 .double, interfaces := #[3, 4], accessFlags := 1041 }

/-- the primitive int -/
def k9 : Class := { plain "int" none with kind := .primitive 'I', accessFlags := 0x411 }
/-- [I -/
def k10 : Class := { plain "[I" (some 0) with kind := .array 9 .int, interfaces := #[3, 4], accessFlags := 1041 }

def heap : Heap := #[]
def classes : Array Class := #[k0, k1, k2, k3, k4, k5, k6, k7, k8, k9, k10]
def interned : List (Array UInt16 × Addr) := []
def slotsUsed : Nat := 0
def theMethod : MethodId := ⟨1, 2⟩
def args0 : Array Value := #[.int 3, .int 2]
def aboutOver (below : List Frame) : State where
  vm := { classes := classes, interned := interned.toArray }
  heap := heap
  slotsUsed := slotsUsed
  threads := #[{ frames := .invoking theMethod args0 :: below }]
def below0 : List Frame := [.native { method := ⟨0, 0⟩, args := #[] }]
def about1 : State := aboutOver below0
def p0 : Program := .bare "" "" ""
def e0 : Env := launch0.env 0 0 0
theorem w_frames : about1.frames = Frame.invoking theMethod args0 :: below0 := rfl
set_option maxRecDepth 65536 in
theorem w_args : argsFit about1.vm theMethod args0 = true := by decide +kernel
set_option maxRecDepth 65536 in
theorem w_heap : heapFits about1 = true := by decide +kernel
set_option maxRecDepth 65536 in
theorem w_runnable : about1.curStatus? = some .runnable := by decide +kernel
set_option maxRecDepth 65536 in
theorem w_alone : about1.alone = true := by decide +kernel
set_option maxRecDepth 65536 in
theorem w_named : about1.methodNamed? x = some theMethod := by decide +kernel
set_option maxRecDepth 65536 in
theorem w_hears : about1.hears theMethod below0 = true := by decide +kernel
set_option maxRecDepth 65536 in
theorem w_ripe : about1.ripe theMethod args0 below0 = true := by decide +kernel
theorem w_running : about1.status = .running := rfl
set_option maxRecDepth 65536 in
theorem w_room : about1.hasRoom e0.platform room_1 = true :=
  launch0.hasRoom_least _ room_1 (by decide +kernel) (by decide +kernel) (by decide +kernel) (by decide +kernel) (by decide +kernel) (by decide +kernel)
theorem allAtoms_all (ts : List Jvm.Cond) (a : Array Jvm.Value) (st : Jvm.State) : (allAtoms ts).before a st = ts.all (fun c => c.before a st) := by
  induction ts with
  | nil => rfl
  | cons c t ih =>
    show (Jvm.Cond.and c (allAtoms t)).before a st = _
    rw [Jvm.Cond.before_and, ih, List.all_cons]
def words1 : List Jvm.Cond := Jvm.Cond.code x code maxLocals ret :: tables_1
/-- a 'code' word, met by the world's own term for the bytes: nothing is compared byte by byte -/
theorem code_word {y : MethodName} {bytes : ByteArray} {mx : Nat} {rt : Option FieldType} {a : Array Value} {s : State} {m : MethodId} {meth : Method} {c : Code} (h1 : s.methodNamed? y = some m) (h2 : s.vm.method? m = some meth) (h3 : meth.code = some c) (h4 : c.code = bytes)
    (h5 : (c.maxLocals == mx && c.exceptionTable.isEmpty && decide (c.maxStack ≤ mostOperands) && decide (meth.sig.returnType = rt) && !meth.locks && decide (parseMethodDescriptor y.desc = some meth.sig)) = true) : (Jvm.Cond.code y bytes mx rt).before a s = true := by
  simp only [Bool.and_eq_true, beq_iff_eq, Bool.not_eq_true', decide_eq_true_eq] at h5
  obtain ⟨⟨⟨⟨⟨g1, g2⟩, g3⟩, g4⟩, g5⟩, g6⟩ := h5
  simp [Cond.before, Cond.holds, Cond.value, h1, h2, h3, h4, g1, g2, g3, g4, g5, g6]
def isCode : Jvm.Cond → Bool
  | .code _ _ _ _ => true
  | _ => false
theorem all_split {L : List Jvm.Cond} {P : Jvm.Cond → Bool} (h1 : L.all (fun c => isCode c || P c) = true) (h2 : ∀ c ∈ L.filter isCode, P c = true) : L.all P = true := by
  refine List.all_eq_true.mpr fun c hc => ?_
  have h := List.all_eq_true.mp h1 c hc
  rcases Bool.eq_false_or_eq_true (isCode c) with hi | hi
  · exact h2 c (List.mem_filter.mpr ⟨hc, hi⟩)
  · simpa [hi] using h
set_option maxRecDepth 65536 in
theorem w_c0 : (Jvm.Cond.code x code maxLocals ret).before args0 about1 = true := code_word (m := ⟨1, 2⟩) (meth := k1m2) (c := k1c2) (by decide +kernel) rfl rfl rfl (by decide +kernel)
set_option maxRecDepth 65536 in
theorem w_c1 : (Jvm.Cond.code ({ cls := "com/example/wavegrade/wavegrade/DepartureQueue", name := "<init>", desc := "()V" } : Jvm.MethodName) prog_1_method_1_code (1 : Nat) (Option.none : Option Jvm.ClassFile.FieldType)).before args0 about1 = true := code_word (m := ⟨2, 0⟩) (meth := k2m0) (c := k2c0) (by decide +kernel) rfl rfl rfl (by decide +kernel)
set_option maxRecDepth 65536 in
theorem w_c2 : (Jvm.Cond.code ({ cls := "java/lang/Object", name := "<init>", desc := "()V" } : Jvm.MethodName) object_method_1_code (1 : Nat) (Option.none : Option Jvm.ClassFile.FieldType)).before args0 about1 = true := code_word (m := ⟨0, 0⟩) (meth := k0m0) (c := k0c0) (by decide +kernel) rfl rfl rfl (by decide +kernel)
set_option maxRecDepth 65536 in
theorem w_c3 : (Jvm.Cond.code ({ cls := "com/example/wavegrade/wavegrade/DepartureQueue", name := "add", desc := "(DI)V" } : Jvm.MethodName) prog_1_method_4_code (6 : Nat) (Option.none : Option Jvm.ClassFile.FieldType)).before args0 about1 = true := code_word (m := ⟨2, 1⟩) (meth := k2m1) (c := k2c1) (by decide +kernel) rfl rfl rfl (by decide +kernel)
set_option maxRecDepth 65536 in
theorem w_c4 : (Jvm.Cond.code ({ cls := "com/example/wavegrade/wavegrade/DepartureQueue", name := "removeFirst", desc := "()I" } : Jvm.MethodName) prog_1_method_5_code (7 : Nat) (Option.some Jvm.ClassFile.FieldType.int)).before args0 about1 = true := code_word (m := ⟨2, 2⟩) (meth := k2m2) (c := k2c2) (by decide +kernel) rfl rfl rfl (by decide +kernel)
set_option maxRecDepth 65536 in
theorem w_c5 : (Jvm.Cond.code ({ cls := "com/example/wavegrade/wavegrade/DepartureQueueRemoveFirstPinLaw", name := "ok", desc := "(I)Z" } : Jvm.MethodName) method_2_code (1 : Nat) (Option.some Jvm.ClassFile.FieldType.boolean)).before args0 about1 = true := code_word (m := ⟨1, 1⟩) (meth := k1m1) (c := k1c1) (by decide +kernel) rfl rfl rfl (by decide +kernel)
def codes1 : List Jvm.Cond := [Jvm.Cond.code x code maxLocals ret, Jvm.Cond.code ({ cls := "com/example/wavegrade/wavegrade/DepartureQueue", name := "<init>", desc := "()V" } : Jvm.MethodName) prog_1_method_1_code (1 : Nat) (Option.none : Option Jvm.ClassFile.FieldType), Jvm.Cond.code ({ cls := "java/lang/Object", name := "<init>", desc := "()V" } : Jvm.MethodName) object_method_1_code (1 : Nat) (Option.none : Option Jvm.ClassFile.FieldType), Jvm.Cond.code ({ cls := "com/example/wavegrade/wavegrade/DepartureQueue", name := "add", desc := "(DI)V" } : Jvm.MethodName) prog_1_method_4_code (6 : Nat) (Option.none : Option Jvm.ClassFile.FieldType), Jvm.Cond.code ({ cls := "com/example/wavegrade/wavegrade/DepartureQueue", name := "removeFirst", desc := "()I" } : Jvm.MethodName) prog_1_method_5_code (7 : Nat) (Option.some Jvm.ClassFile.FieldType.int), Jvm.Cond.code ({ cls := "com/example/wavegrade/wavegrade/DepartureQueueRemoveFirstPinLaw", name := "ok", desc := "(I)Z" } : Jvm.MethodName) method_2_code (1 : Nat) (Option.some Jvm.ClassFile.FieldType.boolean)]
set_option maxRecDepth 65536 in
theorem codes_eq : words1.filter isCode = codes1 := rfl
theorem w_codes : ∀ c ∈ words1.filter isCode, c.before args0 about1 = true := by
  rw [codes_eq]
  intro c hc
  simp only [codes1, List.mem_cons, List.not_mem_nil, or_false] at hc
  rcases hc with rfl | rfl | rfl | rfl | rfl | rfl
  · exact w_c0
  · exact w_c1
  · exact w_c2
  · exact w_c3
  · exact w_c4
  · exact w_c5
set_option maxRecDepth 65536 in
theorem w_t1 : (words1.take 24).all (fun c => isCode c || c.before args0 about1) = true := by decide +kernel
set_option maxRecDepth 65536 in
theorem w_t2 : (words1.drop 24).all (fun c => isCode c || c.before args0 about1) = true := by decide +kernel
theorem w_tables : (allAtoms (Jvm.Cond.code x code maxLocals ret :: tables_1)).before args0 about1 = true := by
  rw [allAtoms_all]
  show words1.all (fun c => c.before args0 about1) = true
  refine all_split ?_ w_codes
  rw [← List.take_append_drop 24 words1, List.all_append, w_t1, w_t2]
  rfl
set_option maxRecDepth 65536 in
theorem w_case : (Jvm.Cond.and given_1 narrow_1).before args0 about1 = true := by decide +kernel
theorem w_applies : (headSpec (Jvm.Cond.code x code maxLocals ret :: tables_1) room_1).applies x e0.platform about1 = true :=
  (Spec.applies_iff w_frames).mpr ⟨w_running, w_runnable, w_alone, w_named, w_hears, w_ripe, w_room, w_tables⟩
theorem atStart : AtStart classFile x code maxLocals ret World_1 tables_1 room_1 Calls_1 rest_1 Pre_1 launch0 p0 e0 about1 theMethod args0 below0 :=
  ⟨lists_1, trivial, launch0.admits_env _ _ _, launch0.least_env, fairChoices_fair.cas, fairChoices_fair.clock, w_frames, w_args, w_heap, w_applies, trivial, trivial, w_case⟩
end start1
theorem witness_1 : WitnessClaimed_1 := ⟨start1.p0, start1.e0, start1.about1, start1.theMethod, start1.args0, start1.below0, start1.atStart⟩
end Jvm.Pilot.@@N@@
