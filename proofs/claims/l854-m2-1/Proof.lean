import JvmDerived
import JvmDerived.Pilot.@@N@@Statement
import JvmDerived.Pilot.@@N@@Code
set_option linter.unusedVariables false
set_option linter.unusedSimpArgs false
namespace Jvm.Pilot.@@N@@
open Jvm Jvm.ClassFile Sem Op Lib Jvm.Free Jvm.Stand Jvm.LawKit Jvm.RoadKit Bundle Jvm.Pilot.@@N@@.Jvm.D
/-! OWN: the walk as a tree. Go: from here the run comes to a return that Q allows. -/
def Go (p : Program) (e : Env) (below : List Frame) (s : State) (C S : Nat) (Q : Option Value → Heap → List Loc → Prop) (T : State) (g : JFrame) : Prop :=
  ∃ s₂ o, Steps p.tables e below (T.setTop g) s₂ ∧ s₂.status = .running ∧ Ended s₂ below o ∧ ∃ v L, o = .returned v ∧ Q v s₂.heap L ∧ FrameEnd s o s₂ L C S
section OwnGo
variable {p : Program} {l : Launch} {e : Env} {R : Room} {s : State} {m : MethodId} {args : Array Value} {below : List Frame} {meth : Method} {c : Code} {T T' : State} {locs : List Loc} {cells slots : Nat} {Z : State} {a0 : Array Value} {h : Heap} {C S : Nat} {Q : Option Value → Heap → List Loc → Prop} {g g' : JFrame}
theorem Go.step (st : ∀ target, Steps p.tables e below (T'.setTop g') target → Steps p.tables e below (T.setTop g) target) (h : Go p e below s C S Q T' g') : Go p e below s C S Q T g := by
  obtain ⟨s₂, o, h1, r⟩ := h; exact ⟨s₂, o, st _ h1, r⟩
theorem Go.cast (q : g = g') (h : Go p e below s C S Q T g') : Go p e below s C S Q T g := q ▸ h
theorem Go.ret (X : Stand p l e R s m args below meth c T locs cells slots) (hlk : meth.locks = false) {v : Option Value} (hv : meth.sig.returnType = none → v = none)
    (st : ∀ fs, (∀ (f : JFrame) (acts : List Action), f.method = m → f.locked = none → f.entered = [] → (doReturn e (T.setTop f) acts v).1 = T.setFrames fs) → Steps p.tables e below (T.setTop g) (T.setFrames fs))
    (hq : Q v T.heap locs) (hc : cells ≤ C) (hs : slots ≤ S) : Go p e below s C S Q T g := by
  obtain ⟨fs, hr, hrun, hended, hW, hsame⟩ := X.leave (v := v) hv hlk
  exact ⟨_, _, st fs hr, hrun, hended, v, locs, rfl, hq, ⟨_, rfl⟩, hW, hsame.mono hc hs⟩
theorem Go.retV (X : Stand p l e R s m args below meth c T locs cells slots) (hx : p.tables.exec = Jvm.exec) (hlk : meth.locks = false) (hret : meth.sig.returnType = none) {pc : Nat} {Ls : Array Slot} (hd : decode c.code pc = .ok (.return_, 1))
    (hc : cells ≤ C) (hs : slots ≤ S) (hq : Q none T.heap locs) : Go p e below s C S Q T (mkF m pc Ls []) :=
  Go.ret X hlk (fun _ => rfl) (fun fs hr => X.returnOut hx hret hd hr) hq hc hs
theorem Go.retW (X : Stand p l e R s m args below meth c T locs cells slots) (hx : p.tables.exec = Jvm.exec) (hlk : meth.locks = false) {t : FieldType} (hret : meth.sig.returnType = some t) {pc : Nat} {Ls : Array Slot} {w : Value} {i : Instr} {rest : List Value} (hn : narrow t w = w)
    (hi : (i = .ireturn ∧ (t = .int ∨ t = .boolean ∨ t = .byte ∨ t = .char ∨ t = .short) ∧ ∃ z, w = .int z) ∨ (i = .lreturn ∧ t = .long ∧ ∃ z, w = .long z) ∨ (i = .dreturn ∧ t = .double ∧ ∃ z, w = .double z) ∨ (i = .freturn ∧ t = .float ∧ ∃ z, w = .float z) ∨ (i = .areturn ∧ t.isReference = true ∧ w.isRef = true))
    (hd : decode c.code pc = .ok (i, 1)) (hc : cells ≤ C) (hs : slots ≤ S) (hq : Q (some w) T.heap locs) : Go p e below s C S Q T (mkF m pc Ls (w :: rest)) :=
  Go.ret X hlk (fun h => by rw [hret] at h; cases h) (fun fs hr => retOut X hx hret hn hi hd hr) hq hc hs
theorem Go.retI (X : Stand p l e R s m args below meth c T locs cells slots) (hx : p.tables.exec = Jvm.exec) (hlk : meth.locks = false) (hret : meth.sig.returnType = some .int) {pc : Nat} {Ls : Array Slot} {z : Int32} {rest : List Value}
    (hd : decode c.code pc = .ok (.ireturn, 1)) (hc : cells ≤ C) (hs : slots ≤ S) (hq : Q (some (.int z)) T.heap locs) : Go p e below s C S Q T (mkF m pc Ls (.int z :: rest)) :=
  Go.retW X hx hlk hret rfl (Or.inl ⟨rfl, Or.inl rfl, z, rfl⟩) hd hc hs hq
theorem Go.retZ (X : Stand p l e R s m args below meth c T locs cells slots) (hx : p.tables.exec = Jvm.exec) (hlk : meth.locks = false) (hret : meth.sig.returnType = some .boolean) {pc : Nat} {Ls : Array Slot} {z : Int32} {rest : List Value} (hz : z = 0 ∨ z = 1)
    (hd : decode c.code pc = .ok (.ireturn, 1)) (hc : cells ≤ C) (hs : slots ≤ S) (hq : Q (some (.int z)) T.heap locs) : Go p e below s C S Q T (mkF m pc Ls (.int z :: rest)) :=
  Go.retW X hx hlk hret (by rcases hz with rfl | rfl <;> rfl) (Or.inl ⟨rfl, Or.inr (Or.inl rfl), z, rfl⟩) hd hc hs hq
theorem Go.retJ (X : Stand p l e R s m args below meth c T locs cells slots) (hx : p.tables.exec = Jvm.exec) (hlk : meth.locks = false) (hret : meth.sig.returnType = some .long) {pc : Nat} {Ls : Array Slot} {z : Int64} {rest : List Value}
    (hd : decode c.code pc = .ok (.lreturn, 1)) (hc : cells ≤ C) (hs : slots ≤ S) (hq : Q (some (.long z)) T.heap locs) : Go p e below s C S Q T (mkF m pc Ls (.long z :: rest)) :=
  Go.retW X hx hlk hret rfl (Or.inr (Or.inl ⟨rfl, rfl, z, rfl⟩)) hd hc hs hq
theorem Go.retD (X : Stand p l e R s m args below meth c T locs cells slots) (hx : p.tables.exec = Jvm.exec) (hlk : meth.locks = false) (hret : meth.sig.returnType = some .double) {pc : Nat} {Ls : Array Slot} {z : UInt64} {rest : List Value}
    (hd : decode c.code pc = .ok (.dreturn, 1)) (hc : cells ≤ C) (hs : slots ≤ S) (hq : Q (some (.double z)) T.heap locs) : Go p e below s C S Q T (mkF m pc Ls (.double z :: rest)) :=
  Go.retW X hx hlk hret rfl (Or.inr (Or.inr (Or.inl ⟨rfl, rfl, z, rfl⟩))) hd hc hs hq
theorem Go.retR (X : Stand p l e R s m args below meth c T locs cells slots) (hx : p.tables.exec = Jvm.exec) (hlk : meth.locks = false) {t : FieldType} (hret : meth.sig.returnType = some t) (ht : t.isReference = true) {pc : Nat} {Ls : Array Slot} {w : Value} {rest : List Value} (hn : narrow t w = w) (hw : w.isRef = true)
    (hd : decode c.code pc = .ok (.areturn, 1)) (hc : cells ≤ C) (hs : slots ≤ S) (hq : Q (some w) T.heap locs) : Go p e below s C S Q T (mkF m pc Ls (w :: rest)) :=
  Go.retW X hx hlk hret hn (Or.inr (Or.inr (Or.inr (Or.inr ⟨rfl, ht, hw⟩)))) hd hc hs hq
/-- a method's contract out of its walk -/
theorem con_of {y : MethodName} {bytes : ByteArray} {ml : Nat} {rt : Option FieldType} {ws : List Jvm.Cond} {rm : Room} {as' : Array Value} {h0 : Heap} (hpl : plainFor y = true)
    (body : ∀ (p : Program) (e : Env) (s : State) (m : MethodId) (below : List Frame) (meth : Method) (c : Code) (T : State), Stand p l e rm s m as' below meth c T [] 0 0 → p.tables.exec = Jvm.exec → Z.Warmed39 s.vm → c.code = bytes → c.maxLocals = ml → s.vm.findClass y.cls = some m.cls → meth.name = y.name →
      meth.sig.returnType = rt → meth.locks = false → T.heap = h0 → Go p e below s rm.cells rm.slots Q T (entryFrame m as' ml)) :
    MetFree l y (head1 (Jvm.Cond.code y bytes ml rt :: ws) rm) (fun a U => a = as' ∧ Z.Warmed39 U.vm ∧ U.heap = h0) (fun _ _ _ _ _ => True) (fun _ U o U' => ∃ v L, o = .returned v ∧ Q v U'.heap L ∧ FrameEnd U o U' L rm.cells rm.slots) := by
  refine MetFree.of_bodySF hpl hisR ?_
  intro p e s m args below meth c s₁ Bd hml0 hP hK
  obtain ⟨rfl, hZ, hh⟩ := hP
  exact body p e s m below meth c s₁ (Stand.of_body Bd) Bd.exec hZ Bd.bytes hml0 (findClass_of_methodNamed Bd.named) (name_of_methodNamed Bd.named Bd.method).1 Bd.returns (BodyLoose.notSynchronized Bd) (by rw [← hh, Bd.state]; rfl)
abbrev Con (l : Launch) (Z : State) (y : MethodName) (bytes : ByteArray) (ml : Nat) (rt : Option FieldType) (rm : Room) (as' : Array Value) (h0 : Heap) (Q : Option Value → Heap → List Loc → Prop) : Prop :=
  MetFree l y (head1 [Jvm.Cond.code y bytes ml rt] rm) (fun a U => a = as' ∧ Z.Warmed39 U.vm ∧ U.heap = h0) (fun _ _ _ _ _ => True) (fun _ U o U' => ∃ v L, o = .returned v ∧ Q v U'.heap L ∧ FrameEnd U o U' L rm.cells rm.slots)
theorem Go.callS (X : Stand p l e R s m args below meth c T locs cells slots) (hx : p.tables.exec = Jvm.exec) (hZ : Z.Warmed39 s.vm) {own : String} {index : Nat} {y : MethodName} {bytes : ByteArray} {maxL : Nat} {ret : Option FieldType} {rm : Room} {as' : Array Value} {Qc : Option Value → Heap → List Loc → Prop} {W pc : Nat} {Ls : Array Slot} {st : List Value} {argsL rest : List Value} (hml : Ls.size = c.maxLocals)
    (hown : s.vm.findClass own = some m.cls) (w1 : (Jvm.Cond.methodLink own index y).before a0 Z = true) (w2 : (Jvm.Cond.static y).before a0 Z = true) (w3 : (Jvm.Cond.initialized y.cls).before a0 Z = true) (w4 : (Jvm.Cond.code y bytes maxL ret).before a0 Z = true) (hy : y.cls ≠ "java/lang/invoke/MethodHandle" ∧ y.cls ≠ "java/lang/invoke/VarHandle")
    (hM : Con l Z y bytes maxL ret rm as' h Qc) (eT : T.heap = h) (hd : decode c.code pc = .ok (.invokestatic index, 3)) (hlen : ∀ sig, parseMethodDescriptor y.desc = some sig → argsL.length = sig.parameters.length) (hst : st = argsL.reverse ++ rest) (has : argsL.toArray = as')
    (hW : (rest.map fun v => v.category).sum ≤ W) (hf : rm.frames + 1 ≤ R.frames) (hl : W + (maxL + 11) + rm.locals ≤ R.locals) (hc : cells + rm.cells ≤ R.cells) (hs : slots + rm.slots ≤ R.slots)
    (k : ∀ (v : Option Value) (T' : State) (L : List Loc), Stand p l e R s m args below meth c T' (locs ++ L) (cells + rm.cells) (slots + rm.slots) → Qc v T'.heap L → Go p e below s C S Q T' (mkF m (pc + 3) Ls (v.toList ++ rest))) :
    Go p e below s C S Q T (mkF m pc Ls st) := by
  obtain ⟨v, _, ⟨T', L', k', n'⟩, -, X', ⟨Lc, hQ, l1, y1, z1⟩, stp⟩ := Jvm.LawKit.callS X hx (y := y) hown (mvT hZ w1) (mvT hZ w2) (mvT hZ w3) (mvT hZ w4) hy (backOf (W := W) hM hZ w4 w3 hf hl) (g := mkF m pc Ls st) rfl hml (argsL := argsL) (rest := rest) hlen hst (by show 2 * 0 + _ ≤ _; omega) hd (fun _ _ => ⟨has, eT, hc, hs⟩)
  dsimp only [Pt.U, Pt.locs, Pt.cells, Pt.slots] at X' l1 y1 z1 stp hQ
  subst l1 y1 z1
  exact Go.step stp (k v T' Lc X' hQ)
theorem Go.callI (X : Stand p l e R s m args below meth c T locs cells slots) (hx : p.tables.exec = Jvm.exec) (hZ : Z.Warmed39 s.vm) {own : String} {index : Nat} {y : MethodName} {bytes : ByteArray} {maxL : Nat} {rm : Room} {as' : Array Value} {Qc : Option Value → Heap → List Loc → Prop} {W pc : Nat} {Ls : Array Slot} {st : List Value} {a : Addr} {argsL rest : List Value} (hml : Ls.size = c.maxLocals)
    (hy1 : y.name = "<init>") (hown : s.vm.findClass own = some m.cls) (w1 : (Jvm.Cond.methodLink own index y).before a0 Z = true) (w2 : (Jvm.Cond.instanceMethod y).before a0 Z = true) (w3 : (Jvm.Cond.initialized y.cls).before a0 Z = true) (w4 : (Jvm.Cond.code y bytes maxL none).before a0 Z = true) (hy : y.cls ≠ "java/lang/invoke/MethodHandle" ∧ y.cls ≠ "java/lang/invoke/VarHandle")
    (hM : Con l Z y bytes maxL none rm as' h Qc) (eT : T.heap = h) (hd : decode c.code pc = .ok (.invokespecial index, 3)) (hlen : ∀ sig, parseMethodDescriptor y.desc = some sig → argsL.length = sig.parameters.length) (hst : st = argsL.reverse ++ .ref a :: rest) (has : (Value.ref a :: argsL).toArray = as')
    (hW : (rest.map fun v => v.category).sum ≤ W) (hf : rm.frames + 1 ≤ R.frames) (hl : W + (maxL + 11) + rm.locals ≤ R.locals) (hc : cells + rm.cells ≤ R.cells) (hs : slots + rm.slots ≤ R.slots)
    (k : ∀ (v : Option Value) (T' : State) (L : List Loc), Stand p l e R s m args below meth c T' (locs ++ L) (cells + rm.cells) (slots + rm.slots) → Qc v T'.heap L → Go p e below s C S Q T' (mkF m (pc + 3) Ls (v.toList ++ rest))) :
    Go p e below s C S Q T (mkF m pc Ls st) := by
  obtain ⟨v, _, ⟨T', L', k', n'⟩, -, X', ⟨Lc, hQ, l1, y1, z1⟩, stp⟩ := X.specialBack hx (y := y) hy1 hown (mvT hZ w1) (mvT hZ w2) (mvT hZ w4) hy (backOf (W := W) hM hZ w4 w3 hf hl) (g := mkF m pc Ls st) rfl hml (Steps.refl _) (a := a) (argsL := argsL) (rest := rest) hlen hst (by show 2 * 0 + _ ≤ _; omega) hd (fun _ _ => ⟨has, eT, hc, hs⟩)
  dsimp only [Pt.U, Pt.locs, Pt.cells, Pt.slots] at X' l1 y1 z1 stp hQ
  subst l1 y1 z1
  exact Go.step (fun _ q => stp.trans q) (k v T' Lc X' hQ)
theorem Go.callV (X : Stand p l e R s m args below meth c T locs cells slots) (hx : p.tables.exec = Jvm.exec) (hZ : Z.Warmed39 s.vm) {own K : String} {index : Nat} {y z : MethodName} {bytes : ByteArray} {maxL : Nat} {ret : Option FieldType} {rm : Room} {as' : Array Value} {Qc : Option Value → Heap → List Loc → Prop} {W pc : Nat} {Ls : Array Slot} {st : List Value} {a : Addr} {argsL rest : List Value} (hml : Ls.size = c.maxLocals)
    (hown : s.vm.findClass own = some m.cls) (w1 : (Jvm.Cond.methodLink own index y).before a0 Z = true) (w2 : (Jvm.Cond.declares y).before a0 Z = true) (hnf : NotFace s y) (w5 : (Jvm.Cond.selects K y z).before a0 Z = true) (w6 : (Jvm.Cond.instanceMethod z).before a0 Z = true) (w3 : (Jvm.Cond.initialized z.cls).before a0 Z = true) (w4 : (Jvm.Cond.code z bytes maxL ret).before a0 Z = true) (hy : y.cls ≠ "java/lang/invoke/MethodHandle" ∧ y.cls ≠ "java/lang/invoke/VarHandle")
    (hM : Con l Z z bytes maxL ret rm as' h Qc) (eT : T.heap = h) (E : Exa Z h a K) (hd : decode c.code pc = .ok (.invokevirtual index, 3)) (hlen : ∀ sig, parseMethodDescriptor y.desc = some sig → argsL.length = sig.parameters.length) (hst : st = argsL.reverse ++ .ref a :: rest) (has : (Value.ref a :: argsL).toArray = as')
    (hW : (rest.map fun v => v.category).sum ≤ W) (hf : rm.frames + 1 ≤ R.frames) (hl : W + (maxL + 11) + rm.locals ≤ R.locals) (hc : cells + rm.cells ≤ R.cells) (hs : slots + rm.slots ≤ R.slots)
    (k : ∀ (v : Option Value) (T' : State) (L : List Loc), Stand p l e R s m args below meth c T' (locs ++ L) (cells + rm.cells) (slots + rm.slots) → Qc v T'.heap L → Go p e below s C S Q T' (mkF m (pc + 3) Ls (v.toList ++ rest))) :
    Go p e below s C S Q T (mkF m pc Ls st) := by
  obtain ⟨cq, kq, qa, qb, qc⟩ := isOf hZ eT E
  obtain ⟨v, _, ⟨T', L', k', n'⟩, -, X', ⟨Lc, hQ, l1, y1, z1⟩, stp⟩ := X.virtualBack hx (y := y) (z := z) hown (mvT hZ w1) (mvT hZ w2) hnf (mvT hZ w5) (mvT hZ w6) hy (backOf (W := W) hM hZ w4 w3 hf hl) qa qc (g := mkF m pc Ls st) rfl hml (Steps.refl _) (argsL := argsL) (rest := rest) hlen hst (by show 2 * 0 + _ ≤ _; omega) hd (fun _ _ => ⟨has, eT, hc, hs⟩)
  dsimp only [Pt.U, Pt.locs, Pt.cells, Pt.slots] at X' l1 y1 z1 stp hQ
  subst l1 y1 z1
  exact Go.step (fun _ q => stp.trans q) (k v T' Lc X' hQ)
theorem Go.callP (X : Stand p l e R s m args below meth c T locs cells slots) (hx : p.tables.exec = Jvm.exec) (hZ : Z.Warmed39 s.vm) {own : String} {index : Nat} {y : MethodName} {bytes : ByteArray} {maxL : Nat} {ret : Option FieldType} {rm : Room} {as' : Array Value} {Qc : Option Value → Heap → List Loc → Prop} {W pc : Nat} {Ls : Array Slot} {st : List Value} {a : Addr} {argsL rest : List Value} (hml : Ls.size = c.maxLocals)
    (hown : s.vm.findClass own = some m.cls) (w1 : (Jvm.Cond.methodLink own index y).before a0 Z = true) (w6 : (Jvm.Cond.instanceMethod y).before a0 Z = true) {kk : Nat} (w5 : (Jvm.Cond.instantiable y.cls kk).before a0 Z = true) (w7 : (Jvm.Cond.privateMethod y).before a0 Z = true) (w3 : (Jvm.Cond.initialized y.cls).before a0 Z = true) (w4 : (Jvm.Cond.code y bytes maxL ret).before a0 Z = true) (hy : y.cls ≠ "java/lang/invoke/MethodHandle" ∧ y.cls ≠ "java/lang/invoke/VarHandle")
    (hM : Con l Z y bytes maxL ret rm as' h Qc) (eT : T.heap = h) {K : String} (E : Exa Z h a K) (hd : decode c.code pc = .ok (.invokevirtual index, 3)) (hlen : ∀ sig, parseMethodDescriptor y.desc = some sig → argsL.length = sig.parameters.length) (hst : st = argsL.reverse ++ .ref a :: rest) (has : (Value.ref a :: argsL).toArray = as')
    (hW : (rest.map fun v => v.category).sum ≤ W) (hf : rm.frames + 1 ≤ R.frames) (hl : W + (maxL + 11) + rm.locals ≤ R.locals) (hc : cells + rm.cells ≤ R.cells) (hs : slots + rm.slots ≤ R.slots)
    (k : ∀ (v : Option Value) (T' : State) (L : List Loc), Stand p l e R s m args below meth c T' (locs ++ L) (cells + rm.cells) (slots + rm.slots) → Qc v T'.heap L → Go p e below s C S Q T' (mkF m (pc + 3) Ls (v.toList ++ rest))) :
    Go p e below s C S Q T (mkF m pc Ls st) := by
  obtain ⟨cq, q1, q2⟩ := E.cell
  have hpriv : s.PrivateAt y := Cond.privateMethod_at (mvP hZ w7 (args := #[]))
  have w5' : (Jvm.Cond.instantiable y.cls kk).before args s = true := mvT hZ w5
  obtain ⟨c1, k1, i1, i2, -, i4, -⟩ := Cond.instantiable_spec w5'
  have hsel : (Jvm.Cond.selects y.cls y y).before args s = true := selects_self_of_private i1 i2 (by simp only [Bool.or_eq_false_iff] at i4; exact i4.1) hpriv (mvT hZ w6) hy
  obtain ⟨v, _, ⟨T', L', k', n'⟩, -, X', ⟨Lc, hQ, l1, y1, z1⟩, stp⟩ := X.privateBack hx (y := y) hown (mvT hZ w1) (mvT hZ w6) hsel hpriv (mvT hZ w4) hy (backOf (W := W) hM hZ w4 w3 hf hl) (g := mkF m pc Ls st) rfl hml (Steps.refl _) (a := a) (by rw [eT]; exact q1) q2 (argsL := argsL) (rest := rest) hlen hst (by show 2 * 0 + _ ≤ _; omega) hd (fun _ _ => ⟨has, eT, hc, hs⟩)
  dsimp only [Pt.U, Pt.locs, Pt.cells, Pt.slots] at X' l1 y1 z1 stp hQ
  subst l1 y1 z1
  exact Go.step (fun _ q => stp.trans q) (k v T' Lc X' hQ)
end OwnGo
/-! OWN: branches on a comparison of doubles, as javac writes them -/
section OwnCmp
variable {x y : UInt64}
theorem cv_none (o : CmpOp) (h : FP.dcmp x y = none) : cmpValue (FP.dcmp x y) o = (match o with | .l => -1 | .g => 1) := by rw [h]; cases o <;> rfl
theorem gt_y (h : FP.dcmp x y = some .gt) : ifCond.holds .le (cmpValue (FP.dcmp x y) .l) = false := by rw [h]; rfl
theorem gt_n (h : ¬ FP.dcmp x y = some .gt) : ifCond.holds .le (cmpValue (FP.dcmp x y) .l) = true := by
  rcases q : FP.dcmp x y with _ | (_ | _ | _) <;> first | rfl | exact absurd q h
theorem ge_y (h : FP.dcmp x y = some .gt ∨ FP.dcmp x y = some .eq) : ifCond.holds .lt (cmpValue (FP.dcmp x y) .l) = false := by rcases h with h | h <;> rw [h] <;> rfl
theorem ge_n (h : ¬ (FP.dcmp x y = some .gt ∨ FP.dcmp x y = some .eq)) : ifCond.holds .lt (cmpValue (FP.dcmp x y) .l) = true := by
  rcases q : FP.dcmp x y with _ | (_ | _ | _) <;> first | rfl | exact absurd (Or.inl q) h | exact absurd (Or.inr q) h
theorem lt_y (h : FP.dcmp x y = some .lt) : ifCond.holds .ge (cmpValue (FP.dcmp x y) .g) = false := by rw [h]; rfl
theorem lt_n (h : ¬ FP.dcmp x y = some .lt) : ifCond.holds .ge (cmpValue (FP.dcmp x y) .g) = true := by
  rcases q : FP.dcmp x y with _ | (_ | _ | _) <;> first | rfl | exact absurd q h
theorem le_y (h : FP.dcmp x y = some .lt ∨ FP.dcmp x y = some .eq) : ifCond.holds .gt (cmpValue (FP.dcmp x y) .g) = false := by rcases h with h | h <;> rw [h] <;> rfl
theorem le_n (h : ¬ (FP.dcmp x y = some .lt ∨ FP.dcmp x y = some .eq)) : ifCond.holds .gt (cmpValue (FP.dcmp x y) .g) = true := by
  rcases q : FP.dcmp x y with _ | (_ | _ | _) <;> first | rfl | exact absurd (Or.inl q) h | exact absurd (Or.inr q) h
theorem eq_y (o : CmpOp) (h : FP.dcmp x y = some .eq) : ifCond.holds .ne (cmpValue (FP.dcmp x y) o) = false ∧ ifCond.holds .eq (cmpValue (FP.dcmp x y) o) = true := by rw [h]; cases o <;> exact ⟨rfl, rfl⟩
theorem eq_n (o : CmpOp) (h : ¬ FP.dcmp x y = some .eq) : ifCond.holds .ne (cmpValue (FP.dcmp x y) o) = true ∧ ifCond.holds .eq (cmpValue (FP.dcmp x y) o) = false := by
  rcases q : FP.dcmp x y with _ | (_ | _ | _) <;> cases o <;> first | exact ⟨rfl, rfl⟩ | exact absurd q h
/-- x > y, by a taken 'ifgt' over dcmpl -/
theorem gtT_y (h : FP.dcmp x y = some .gt) : ifCond.holds .gt (cmpValue (FP.dcmp x y) .l) = true := by rw [h]; rfl
theorem gtT_n (h : ¬ FP.dcmp x y = some .gt) : ifCond.holds .gt (cmpValue (FP.dcmp x y) .l) = false := by
  rcases q : FP.dcmp x y with _ | (_ | _ | _) <;> first | rfl | exact absurd q h
theorem geT_y (h : FP.dcmp x y = some .gt ∨ FP.dcmp x y = some .eq) : ifCond.holds .ge (cmpValue (FP.dcmp x y) .l) = true := by rcases h with h | h <;> rw [h] <;> rfl
theorem geT_n (h : ¬ (FP.dcmp x y = some .gt ∨ FP.dcmp x y = some .eq)) : ifCond.holds .ge (cmpValue (FP.dcmp x y) .l) = false := by
  rcases q : FP.dcmp x y with _ | (_ | _ | _) <;> first | rfl | exact absurd (Or.inl q) h | exact absurd (Or.inr q) h
theorem ltT_y (h : FP.dcmp x y = some .lt) : ifCond.holds .lt (cmpValue (FP.dcmp x y) .g) = true := by rw [h]; rfl
theorem ltT_n (h : ¬ FP.dcmp x y = some .lt) : ifCond.holds .lt (cmpValue (FP.dcmp x y) .g) = false := by
  rcases q : FP.dcmp x y with _ | (_ | _ | _) <;> first | rfl | exact absurd q h
theorem leT_y (h : FP.dcmp x y = some .lt ∨ FP.dcmp x y = some .eq) : ifCond.holds .le (cmpValue (FP.dcmp x y) .g) = true := by rcases h with h | h <;> rw [h] <;> rfl
theorem leT_n (h : ¬ (FP.dcmp x y = some .lt ∨ FP.dcmp x y = some .eq)) : ifCond.holds .le (cmpValue (FP.dcmp x y) .g) = false := by
  rcases q : FP.dcmp x y with _ | (_ | _ | _) <;> first | rfl | exact absurd (Or.inl q) h | exact absurd (Or.inr q) h
end OwnCmp

/-! OWN: arrays by a function of the place -/
def updN {α : Type} (g : Nat → α) (j : Nat) (x : α) : Nat → α := fun i => if i = j then x else g i
theorem updN_same {α : Type} (g : Nat → α) (j : Nat) (x : α) : updN g j x j = x := by simp [updN]
theorem updN_ne {α : Type} {g : Nat → α} {i j : Nat} {x : α} (h : i ≠ j) : updN g j x i = g i := by simp [updN, h]
def Fv (Z : State) (h : Heap) (a : Addr) (ty : FieldType) (n : Int32) (f : Nat → Value) : Prop :=
  ∃ c : Cell, Arr Z h a c ty ∧ c.slots.size = n.toNatClampNeg ∧ ¬ n < 0 ∧ (∀ i, fits ty (f i) = true) ∧ ∀ i, i < c.slots.size → c.slots[i]? = some (f i)
abbrev Dv (Z : State) (h : Heap) (a : Addr) (n : Int32) (g : Nat → UInt64) : Prop := Fv Z h a .double n (fun i => .double (g i))
abbrev Iv (Z : State) (h : Heap) (a : Addr) (n : Int32) (g : Nat → Int32) : Prop := Fv Z h a .int n (fun i => .int (g i))
section OwnFv
variable {Z : State} {h h' : Heap} {a b : Addr} {ty : FieldType} {n j : Int32} {f : Nat → Value} {v : Value} {sl : Nat} {ws : List Addr}
theorem Fv.lt (F : Fv Z h a ty n f) : a < h.size := by obtain ⟨c, A, -⟩ := F; exact A.lt
theorem Fv.ext (F : Fv Z h a ty n f) (E : Ext h h') : Fv Z h' a ty n f := by obtain ⟨c, A, r⟩ := F; exact ⟨c, A.ext E, r⟩
theorem Fv.other (F : Fv Z h b ty n f) (W : Wr h h' a sl v) (q : b ≠ a) : Fv Z h' b ty n f := by obtain ⟨c, A, r⟩ := F; exact ⟨c, A.other W q, r⟩
theorem Fv.keep (F : Fv Z h a ty n f) (K : Keep h h' ws) (q : a ∉ ws) : Fv Z h' a ty n f := by obtain ⟨c, A, r⟩ := F; exact ⟨c, ⟨K.2.1 a c A.1 q, A.2⟩, r⟩
theorem Fv.new {k : ClassId} (A : Arr Z h a (newA k ty n) ty) (q : ¬ n < 0) : Fv Z h a ty n (fun _ => defaultValue ty) := ⟨_, A, sz_new _ _ _, q, fun i => by cases ty <;> rfl, fun i hi => by
  rw [sz_new] at hi; simp [newA, hi]⟩
theorem own_nat_of {j : Int32} (h : ¬ j < 0) : (j.toNatClampNeg : Int) = j.toInt := by
  rw [Int32.lt_iff_toInt_lt] at h; have e0 : (0 : Int32).toInt = 0 := rfl
  rw [Int32.toNatClampNeg]; omega
theorem Fv.set (F : Fv Z h a ty n f) (W : Wr h h' a j.toNatClampNeg v) (hv : fits ty v = true) : Fv Z h' a ty n (updN f j.toNatClampNeg v) := by
  obtain ⟨c, A, S, P, G, H⟩ := F
  refine ⟨_, A.same W, by rw [sz_set]; exact S, P, fun i => ?_, fun i hi => ?_⟩
  · unfold updN; split
    · exact hv
    · exact G i
  · rw [sz_set] at hi
    unfold updN
    by_cases u : i = j.toNatClampNeg
    · rw [if_pos u, u]; rw [u] at hi; simp [Cell.setSlot, hi]
    · rw [if_neg u]; simp only [Cell.setSlot]; rw [Array.getElem?_setIfInBounds_ne (Ne.symm u)]; exact H i hi
theorem Dv.set {g : Nat → UInt64} {x : UInt64} (F : Dv Z h a n g) (W : Wr h h' a j.toNatClampNeg (.double x)) : Dv Z h' a n (updN g j.toNatClampNeg x) := by
  have := Fv.set F W rfl
  have e : (updN (fun i => Value.double (g i)) j.toNatClampNeg (.double x)) = fun i => Value.double (updN g j.toNatClampNeg x i) := by
    funext i; unfold updN; split <;> rfl
  rw [e] at this; exact this
theorem Iv.set {g : Nat → Int32} {x : Int32} (F : Iv Z h a n g) (W : Wr h h' a j.toNatClampNeg (.int x)) : Iv Z h' a n (updN g j.toNatClampNeg x) := by
  have := Fv.set F W rfl
  have e : (updN (fun i => Value.int (g i)) j.toNatClampNeg (.int x)) = fun i => Value.int (updN g j.toNatClampNeg x i) := by
    funext i; unfold updN; split <;> rfl
  rw [e] at this; exact this
theorem Fv.congr {f' : Nat → Value} (F : Fv Z h a ty n f) (q : ∀ i, f i = f' i) : Fv Z h a ty n f' := by rw [← (funext q : f = f')]; exact F
theorem Fv.inb {c : Cell} (S : c.slots.size = n.toNatClampNeg) (q : ¬ j < 0 ∧ j < n) : ¬ (j < 0 ∨ c.slots.size ≤ j.toNatClampNeg) := inb_of S q
variable {p : Program} {l : Launch} {e : Env} {R : Room} {s : State} {m : MethodId} {args : Array Value} {below : List Frame} {meth : Method} {c : Code} {T : State} {locs : List Loc} {cells slots : Nat} {C S : Nat} {Q : Option Value → Heap → List Loc → Prop} {pc : Nat} {Ls : Array Slot} {rest : List Value}
theorem Go.alen (X : Stand p l e R s m args below meth c T locs cells slots) (hx : p.tables.exec = Jvm.exec) (hZ : Z.Warmed39 s.vm) (eT : T.heap = h) (F : Fv Z h a ty n f) (hd : decode c.code pc = .ok (.arraylength, 1))
    (k : Go p e below s C S Q T (mkF m (pc + 1) Ls (.int n :: rest))) : Go p e below s C S Q T (mkF m pc Ls (.ref a :: rest)) := by
  obtain ⟨cl, A, S', P, -, -⟩ := F
  refine Go.step (X.arraylength hx (cell := cl) (by rw [eT]; exact A.1) (State.isArrayOf_alike hZ.alike A.2.1) (g := mkF m pc Ls (.ref a :: rest)) rfl rfl hd) ?_
  rw [len_of S' P]; exact k
theorem Go.iaload {g : Nat → Int32} {v : Int32} (X : Stand p l e R s m args below meth c T locs cells slots) (hx : p.tables.exec = Jvm.exec) (hZ : Z.Warmed39 s.vm) (eT : T.heap = h) (F : Iv Z h a n g) (hj : ¬ j < 0 ∧ j < n) (hv : g j.toNatClampNeg = v) (hd : decode c.code pc = .ok (.iaload, 1))
    (k : Go p e below s C S Q T (mkF m (pc + 1) Ls (.int v :: rest))) : Go p e below s C S Q T (mkF m pc Ls (.int j :: .ref a :: rest)) := by
  obtain ⟨cl, A, S', P, G, H⟩ := F
  have q := inb_of S' hj
  exact Go.step (fun t r => X.iaload hx (j := j) (v := .int v) (by rw [eT]; exact A.1) (State.isArrayOf_alike hZ.alike A.2.1) A.2.2 q (by rw [← hv]; exact H _ (Nat.lt_of_not_le fun z => q (Or.inr z))) (g := mkF m pc Ls (.int j :: .ref a :: rest)) rfl rfl hd t r) k
theorem Go.daload {g : Nat → UInt64} {v : UInt64} (X : Stand p l e R s m args below meth c T locs cells slots) (hx : p.tables.exec = Jvm.exec) (hZ : Z.Warmed39 s.vm) (eT : T.heap = h) (F : Dv Z h a n g) (hj : ¬ j < 0 ∧ j < n) (hv : g j.toNatClampNeg = v) (hd : decode c.code pc = .ok (.daload, 1))
    (k : Go p e below s C S Q T (mkF m (pc + 1) Ls (.double v :: rest))) : Go p e below s C S Q T (mkF m pc Ls (.int j :: .ref a :: rest)) := by
  obtain ⟨cl, A, S', P, G, H⟩ := F
  have q := inb_of S' hj
  exact Go.step (fun t r => X.daload hx (j := j) (v := .double v) (by rw [eT]; exact A.1) (State.isArrayOf_alike hZ.alike A.2.1) A.2.2 q (by rw [← hv]; exact H _ (Nat.lt_of_not_le fun z => q (Or.inr z))) (g := mkF m pc Ls (.int j :: .ref a :: rest)) rfl rfl hd t r) k
theorem Go.iastore {g : Nat → Int32} {x : Int32} (X : Stand p l e R s m args below meth c T locs cells slots) (hx : p.tables.exec = Jvm.exec) (hZ : Z.Warmed39 s.vm) (eT : T.heap = h) (F : Iv Z h a n g) (hj : ¬ j < 0 ∧ j < n) (hd : decode c.code pc = .ok (.iastore, 1))
    (k : ∀ T' h', Stand p l e R s m args below meth c T' (locs ++ [⟨a, j.toNatClampNeg⟩]) cells slots → T'.heap = h' → Wr h h' a j.toNatClampNeg (.int x) → Iv Z h' a n (updN g j.toNatClampNeg x) → Go p e below s C S Q T' (mkF m (pc + 1) Ls rest)) : Go p e below s C S Q T (mkF m pc Ls (.int x :: .int j :: .ref a :: rest)) := by
  have F0 := F
  obtain ⟨cl, A, S', P, G, H⟩ := F
  obtain ⟨T', h', X', e', W, st⟩ := stI X hx hZ eT A (j := j) (x := x) (inb_of S' hj) (g := mkF m pc Ls (.int x :: .int j :: .ref a :: rest)) rfl rfl hd
  exact Go.step st (k T' h' X' e' W (Iv.set F0 W))
theorem Go.dastore {g : Nat → UInt64} {x : UInt64} (X : Stand p l e R s m args below meth c T locs cells slots) (hx : p.tables.exec = Jvm.exec) (hZ : Z.Warmed39 s.vm) (eT : T.heap = h) (F : Dv Z h a n g) (hj : ¬ j < 0 ∧ j < n) (hd : decode c.code pc = .ok (.dastore, 1))
    (k : ∀ T' h', Stand p l e R s m args below meth c T' (locs ++ [⟨a, j.toNatClampNeg⟩]) cells slots → T'.heap = h' → Wr h h' a j.toNatClampNeg (.double x) → Dv Z h' a n (updN g j.toNatClampNeg x) → Go p e below s C S Q T' (mkF m (pc + 1) Ls rest)) : Go p e below s C S Q T (mkF m pc Ls (.double x :: .int j :: .ref a :: rest)) := by
  have F0 := F
  obtain ⟨cl, A, S', P, G, H⟩ := F
  obtain ⟨T', h', X', e', W, st⟩ := stD X hx hZ eT A (j := j) (x := x) (inb_of S' hj) (g := mkF m pc Ls (.double x :: .int j :: .ref a :: rest)) rfl rfl hd
  exact Go.step st (k T' h' X' e' W (Dv.set F0 W))
abbrev Zv (Z : State) (h : Heap) (a : Addr) (n : Int32) (g : Nat → Int32) : Prop := Fv Z h a .boolean n (fun i => .int (g i))
theorem Zv.set {g : Nat → Int32} {x : Int32} (F : Zv Z h a n g) (W : Wr h h' a j.toNatClampNeg (.int x)) (hb : fits .boolean (.int x) = true) : Zv Z h' a n (updN g j.toNatClampNeg x) := by
  have := Fv.set F W hb
  have e : (updN (fun i => Value.int (g i)) j.toNatClampNeg (.int x)) = fun i => Value.int (updN g j.toNatClampNeg x i) := by
    funext i; unfold updN; split <;> rfl
  rw [e] at this; exact this
theorem Go.zaload {g : Nat → Int32} {v : Int32} (X : Stand p l e R s m args below meth c T locs cells slots) (hx : p.tables.exec = Jvm.exec) (hZ : Z.Warmed39 s.vm) (eT : T.heap = h) (F : Zv Z h a n g) (hj : ¬ j < 0 ∧ j < n) (hv : g j.toNatClampNeg = v) (hd : decode c.code pc = .ok (.baload, 1))
    (k : Go p e below s C S Q T (mkF m (pc + 1) Ls (.int v :: rest))) : Go p e below s C S Q T (mkF m pc Ls (.int j :: .ref a :: rest)) := by
  obtain ⟨cl, A, S', P, G, H⟩ := F
  have q := inb_of S' hj
  exact Go.step (fun t r => X.baloadBooleans hx (j := j) (v := .int v) (by rw [eT]; exact A.1) (State.isArrayOf_alike hZ.alike A.2.1) A.2.2 q (by rw [← hv]; exact H _ (Nat.lt_of_not_le fun z => q (Or.inr z))) (g := mkF m pc Ls (.int j :: .ref a :: rest)) rfl rfl hd t r) k
theorem Go.zastore {g : Nat → Int32} {x : Int32} (X : Stand p l e R s m args below meth c T locs cells slots) (hx : p.tables.exec = Jvm.exec) (hZ : Z.Warmed39 s.vm) (eT : T.heap = h) (F : Zv Z h a n g) (hj : ¬ j < 0 ∧ j < n) (hn : nar .boolean x = x) (hd : decode c.code pc = .ok (.bastore, 1))
    (k : ∀ T' h', Stand p l e R s m args below meth c T' (locs ++ [⟨a, j.toNatClampNeg⟩]) cells slots → T'.heap = h' → Wr h h' a j.toNatClampNeg (.int x) → Zv Z h' a n (updN g j.toNatClampNeg x) → Go p e below s C S Q T' (mkF m (pc + 1) Ls rest)) : Go p e below s C S Q T (mkF m pc Ls (.int x :: .int j :: .ref a :: rest)) := by
  have F0 := F
  obtain ⟨cl, A, S', P, G, H⟩ := F
  have hj' := inb_of S' hj
  obtain ⟨X', st⟩ := bastoreZ X hx (by rw [eT]; exact A.1) (State.isArrayOf_alike hZ.alike A.2.1) A.2.2 hj' (g := mkF m pc Ls (.int x :: .int j :: .ref a :: rest)) rfl rfl hd
  rw [hn] at X' st
  have W : Wr h (T.setCell a (cl.setSlot j.toNatClampNeg (.int x))).heap a j.toNatClampNeg (.int x) := ⟨cl, A.1, A.plain, Nat.lt_of_not_le fun q => hj' (Or.inr q), by rw [← eT]; rfl⟩
  exact Go.step st (k _ _ X' rfl W (Zv.set F0 W (by rw [← hn]; exact fits_nar_bool x)))
/-- clone() of an array -/
theorem Go.clone {a0 : Array Value} {own ad : String} {index W cap : Nat} (X : Stand p l e R s m args below meth c T locs cells slots) (hx : p.tables.exec = Jvm.exec) (hZ : Z.Warmed39 s.vm) (hml : Ls.size = c.maxLocals) (hown : s.vm.findClass own = some m.cls)
    (w1 : (Jvm.Cond.methodLink own index ⟨ad, "clone", "()Ljava/lang/Object;"⟩).before a0 Z = true) (w2 : (Jvm.Cond.sameMethod ad "java/lang/Object" "clone" "()Ljava/lang/Object;").before a0 Z = true) (w3 : (Jvm.Cond.native ⟨"java/lang/Object", "clone", "()Ljava/lang/Object;"⟩).before a0 Z = true)
    (w4 : (Jvm.Cond.instanceMethod ⟨"java/lang/Object", "clone", "()Ljava/lang/Object;"⟩).before a0 Z = true) (w5 : (Jvm.Cond.selects ad ⟨ad, "clone", "()Ljava/lang/Object;"⟩ ⟨"java/lang/Object", "clone", "()Ljava/lang/Object;"⟩).before a0 Z = true) (w6 : (Jvm.Cond.castable ad "java/lang/Cloneable").before a0 Z = true)
    (eT : T.heap = h) (F : Fv Z h a ty n f) (E : Exa Z h a ad) (hd : decode c.code pc = .ok (.invokevirtual index, 3)) (hf : 1 ≤ R.frames) (hW : (rest.map fun v => v.category).sum ≤ W) (hl : W + 14 ≤ R.locals) (hcap : n.toNatClampNeg ≤ cap) (hc : cells + 1 ≤ R.cells) (hsl : slots + cap ≤ R.slots)
    (k : ∀ T' h' b, b = h.size → Stand p l e R s m args below meth c T' locs (cells + 1) (slots + cap) → T'.heap = h' → Ext h h' → Fv Z h' b ty n f → Exa Z h' b ad → Go p e below s C S Q T' (mkF m (pc + 3) Ls (.ref b :: rest))) : Go p e below s C S Q T (mkF m pc Ls (.ref a :: rest)) := by
  obtain ⟨cl, A, S', P, G, H⟩ := F
  have FC : FitC Z cl := fitC_of A fun i hi v hv => by rw [H i hi] at hv; cases hv; exact G i
  obtain ⟨T', h', X', e', ex, A', E', st⟩ := cloneA X hx hZ hown w1 w2 w3 w4 w5 w6 eT A E FC (g := mkF m pc Ls (.ref a :: rest)) rfl hml rfl hd hf (by show 2 * 0 + _ ≤ _; omega) hl (by rw [S']; exact hcap) hc hsl
  exact Go.step st (k T' h' _ rfl X' e' ex ⟨cloneOf cl, A', S', P, G, H⟩ E')
end OwnFv

section OwnConv
open Jvm.FP.Core
theorem own_nnN {a : UInt64} (h : val64 a ≠ .nan) : Jvm.Free.Fl.NoNaN64 a := Jvm.Free.Fl.noNaN64_no.mpr ((notNaN_iff a).mpr h)
theorem own_Nnn {a : UInt64} (h : Jvm.Free.Fl.NoNaN64 a) : val64 a ≠ .nan := (notNaN_iff a).mp (Jvm.Free.Fl.noNaN64_no.mp h)
theorem own_finF {a : UInt64} (h : DFin a) : Jvm.Free.Fl.Fin64 a := Jvm.Free.Fl.fin64_core.mpr h
theorem own_Ffin {a : UInt64} (h : Jvm.Free.Fl.Fin64 a) : DFin a := Jvm.Free.Fl.fin64_core.mp h
theorem own_nnF {a : UInt64} (h : DFin a) : Jvm.Free.Fl.NoNaN64 a := own_nnN h.ne_nan
theorem own_nz {x : Int64} (h : x ≠ 0) : Jvm.Free.Fl.Nz64 (FP.l2d x) := Jvm.Free.Fl.nz64_core.mpr (fun z => l2d_ne_zero h ((zero_bits2 _).mp z))
theorem own_eqD {a b : UInt64} (h : a = b) (n : Jvm.Free.Fl.NoNaN64 a) : FP.dcmp a b = some .eq := by subst h; exact dcmp_self (own_Nnn n)
end OwnConv

section OwnDQ
open Jvm.FP.Core
/-- the heap's order among the first n labels -/
def HI (K : Nat → Int) (a : Nat → Nat) : Nat → Prop
  | 0 => True
  | 1 => True
  | 2 => K (a 0) ≤ K (a 1)
  | 3 => K (a 0) ≤ K (a 1) ∧ K (a 0) ≤ K (a 2)
  | 4 => K (a 0) ≤ K (a 1) ∧ K (a 0) ≤ K (a 2) ∧ K (a 1) ≤ K (a 3)
  | _ => K (a 0) ≤ K (a 1) ∧ K (a 0) ≤ K (a 2) ∧ K (a 1) ≤ K (a 3) ∧ K (a 1) ≤ K (a 4)
def sumA (w : Nat → Int) (a : Nat → Nat) : Nat → Int
  | 0 => 0
  | n + 1 => sumA w a n + w (a n)
theorem own_gtK {T : Nat → UInt64} {K : Nat → Int} (hT : ∀ x y, FP.dcmp (T x) (T y) = some (compare (K x) (K y))) {x y : Nat} (h : FP.dcmp (T x) (T y) = some .gt) : K y < K x := by
  rw [hT] at h; exact (compare_gt_iff _ _).mp (Option.some.inj h)
theorem own_ngtK {T : Nat → UInt64} {K : Nat → Int} (hT : ∀ x y, FP.dcmp (T x) (T y) = some (compare (K x) (K y))) {x y : Nat} (h : ¬ FP.dcmp (T x) (T y) = some .gt) : K x ≤ K y := by
  refine Int.not_lt.mp fun q => h ?_
  rw [hT, (compare_gt_iff _ _).mpr q]
theorem own_ltK {T : Nat → UInt64} {K : Nat → Int} (hT : ∀ x y, FP.dcmp (T x) (T y) = some (compare (K x) (K y))) {x y : Nat} (h : FP.dcmp (T x) (T y) = some .lt) : K x < K y := by
  rw [hT] at h; exact (compare_lt_iff _ _).mp (Option.some.inj h)
theorem own_nltK {T : Nat → UInt64} {K : Nat → Int} (hT : ∀ x y, FP.dcmp (T x) (T y) = some (compare (K x) (K y))) {x y : Nat} (h : ¬ FP.dcmp (T x) (T y) = some .lt) : K y ≤ K x := by
  refine Int.not_lt.mp fun q => h ?_
  rw [hT, (compare_lt_iff _ _).mpr q]
theorem own_geK {T : Nat → UInt64} {K : Nat → Int} (hT : ∀ x y, FP.dcmp (T x) (T y) = some (compare (K x) (K y))) {x y : Nat} (h : FP.dcmp (T x) (T y) = some .gt ∨ FP.dcmp (T x) (T y) = some .eq) : K y ≤ K x := by
  rcases h with h | h
  · exact Int.le_of_lt (own_gtK hT h)
  · rw [hT] at h; rw [(compare_eq_iff _ _).mp (Option.some.inj h)]; exact Int.le_refl _
theorem own_ngeK {T : Nat → UInt64} {K : Nat → Int} (hT : ∀ x y, FP.dcmp (T x) (T y) = some (compare (K x) (K y))) {x y : Nat} (h : ¬ (FP.dcmp (T x) (T y) = some .gt ∨ FP.dcmp (T x) (T y) = some .eq)) : K x < K y := by
  refine Int.not_le.mp fun q => h ?_
  rcases Int.lt_or_eq_of_le q with z | z
  · left; rw [hT, (compare_gt_iff _ _).mpr z]
  · right; rw [hT, (compare_eq_iff _ _).mpr z.symm]
end OwnDQ

section OwnL
def tV (a b c : Int32) : Nat → Int32
  | 0 => a % (16 : Int32)
  | 1 => b % (16 : Int32)
  | _ => c % (16 : Int32)
def tT (a b c : Int32) (x : Nat) : UInt64 := FP.i2d (tV a b c x)
def tK (a b c : Int32) (x : Nat) : Int := (tV a b c x).toInt
def tL (p : Int32) : Nat → Int32
  | 0 => p
  | 1 => p + (1 : Int32)
  | _ => p + (2 : Int32)
theorem tH (a b c : Int32) (x y : Nat) : FP.dcmp (tT a b c x) (tT a b c y) = some (compare (tK a b c x) (tK a b c y)) := Jvm.FP.Core.dcmp_int (Jvm.FP.Core.i2d_int _) (Jvm.FP.Core.i2d_int _)
theorem own_n (x : Int32) : (x &&& (3 : Int32)) = 0 ∨ (x &&& (3 : Int32)) = 1 ∨ (x &&& (3 : Int32)) = 2 ∨ (x &&& (3 : Int32)) = 3 := by
  have h := c_mask x 3 2 (by decide) (by decide)
  simp only [← Int32.toInt_inj, show (0 : Int32).toInt = 0 from rfl, show (1 : Int32).toInt = 1 from rfl, show (2 : Int32).toInt = 2 from rfl, show (3 : Int32).toInt = 3 from rfl]
  omega
theorem own_n1 (x : Int32) : ¬ ((x &&& (3 : Int32)) + (1 : Int32)) = (0 : Int32) := by rcases own_n x with h | h | h | h <;> rw [h] <;> decide
theorem own_nm (x y : Int32) {n m : Int32} (hn : n = (x &&& (3 : Int32))) (hm : m = ((y &&& (3 : Int32)) % (n + (1 : Int32)))) : (n = 0 ∧ m = 0) ∨ (n = 1 ∧ m = 0) ∨ (n = 1 ∧ m = 1) ∨ (n = 2 ∧ m = 0) ∨ (n = 2 ∧ m = 1) ∨ (n = 2 ∧ m = 2) ∨ (n = 3 ∧ m = 0) ∨ (n = 3 ∧ m = 1) ∨ (n = 3 ∧ m = 2) ∨ (n = 3 ∧ m = 3) := by
  rw [hm, hn]
  rcases own_n x with h | h | h | h <;> rcases own_n y with k | k | k | k <;> rw [h, k] <;> decide
end OwnL
theorem d1_0 : decode prog_1_method_1_code 0 = .ok (.aload_n 0, 1) := by decide +kernel
theorem d1_1 : decode prog_1_method_1_code 1 = .ok (.invokespecial 1, 3) := by decide +kernel
theorem d1_4 : decode prog_1_method_1_code 4 = .ok (.aload_n 0, 1) := by decide +kernel
theorem d1_5 : decode prog_1_method_1_code 5 = .ok (.bipush 64, 2) := by decide +kernel
theorem d1_7 : decode prog_1_method_1_code 7 = .ok (.newarray .double, 2) := by decide +kernel
theorem d1_9 : decode prog_1_method_1_code 9 = .ok (.putfield 7, 3) := by decide +kernel
theorem d1_12 : decode prog_1_method_1_code 12 = .ok (.aload_n 0, 1) := by decide +kernel
theorem d1_13 : decode prog_1_method_1_code 13 = .ok (.bipush 64, 2) := by decide +kernel
theorem d1_15 : decode prog_1_method_1_code 15 = .ok (.newarray .int, 2) := by decide +kernel
theorem d1_17 : decode prog_1_method_1_code 17 = .ok (.putfield 13, 3) := by decide +kernel
theorem d1_20 : decode prog_1_method_1_code 20 = .ok (.return_, 1) := by decide +kernel
set_option maxRecDepth 65536 in
set_option maxHeartbeats 40000000 in
theorem w1 {p : Program} {l : Launch} {e : Env} {s : State} {m : MethodId} {args : Array Value} {below : List Frame} {meth : Method} {c_ : Code} {T0 : State} {locs : List Loc} {Z : State} {a0 : Array Value} {h0 : Heap} {n0 : Nat} (q : Addr)
    (X0 : Stand p l e ({ frames := 1, cells := 2, slots := 128, locals := 12 } : Room) s m args below meth c_ T0 locs 0 0) (hx : p.tables.exec = Jvm.exec) (hZ : Z.Warmed39 s.vm) (hw : ∀ d ∈ tables_1, d.before a0 Z = true) (hby : c_.code = prog_1_method_1_code) (hml : c_.maxLocals = 1) (hown : s.vm.findClass "com/example/wavegrade/wavegrade/DepartureQueue" = some m.cls) (hnm : meth.name = "<init>") (hret : meth.sig.returnType = none) (hlk : meth.locks = false) (e0 : T0.heap = h0) (Z0 : n0 ≤ h0.size) (N0 : Fr n0 locs) (E_q : Exa Z h0 q "com/example/wavegrade/wavegrade/DepartureQueue") (F_size_q : Fld Z h0 q "com/example/wavegrade/wavegrade/DepartureQueue" "size" "I" (.int (0 : Int32))) (F_times_q : Fld Z h0 q "com/example/wavegrade/wavegrade/DepartureQueue" "times" "[D" .null) (F_lightpaths_q : Fld Z h0 q "com/example/wavegrade/wavegrade/DepartureQueue" "lightpaths" "[I" .null) (ge_q : n0 ≤ q) :
    Go p e below s ({ frames := 1, cells := 2, slots := 128, locals := 12 } : Room).cells ({ frames := 1, cells := 2, slots := 128, locals := 12 } : Room).slots (fun r h L => r = none ∧ Fr n0 L ∧ Keep h0 h [q] ∧ Exa Z h q "com/example/wavegrade/wavegrade/DepartureQueue" ∧ Fld Z h q "com/example/wavegrade/wavegrade/DepartureQueue" "size" "I" (.int (0 : Int32)) ∧ ∃ u v : Addr, Fld Z h q "com/example/wavegrade/wavegrade/DepartureQueue" "times" "[D" (.ref u) ∧ Fld Z h q "com/example/wavegrade/wavegrade/DepartureQueue" "lightpaths" "[I" (.ref v) ∧ Dv Z h u (64 : Int32) (fun _ => 0) ∧ Iv Z h v (64 : Int32) (fun _ => 0) ∧ q ≠ u ∧ q ≠ v ∧ u ≠ v ∧ h0.size ≤ u ∧ h0.size ≤ v) T0 (mkF m 0 #[.val (.ref q)] []) := by
  show Go _ _ _ _ _ _ _ T0 (mkF m 0 #[.val (.ref q)] [])
  refine Go.step (fun _ k => XS.aloadN X0.here hx rfl (hb hby d1_0) rfl rfl k) ?_
  show Go _ _ _ _ _ _ _ T0 (mkF m 1 #[.val (.ref q)] [(.ref q)])
  obtain ⟨T1, X1, e1, st1⟩ := initO X0 hx hZ hown (hw _ (List.mem_of_getElem? (i := 6) rfl)) (hw _ (List.mem_of_getElem? (i := 7) rfl)) (hw _ (List.mem_of_getElem? (i := 8) rfl)) e0 (g := (mkF m 1 #[.val (.ref q)] [(.ref q)])) rfl (by rw [hml]; rfl) rfl (hb hby d1_1) (by decide) (W := 0) (by show 2 * 0 + _ ≤ _; exact Nat.le_of_eq rfl) (by decide)
  refine Go.step st1 ?_
  show Go _ _ _ _ _ _ _ T1 (mkF m 4 #[.val (.ref q)] [])
  refine Go.step (fun _ k => XS.aloadN X1.here hx rfl (hb hby d1_4) rfl rfl k) ?_
  show Go _ _ _ _ _ _ _ T1 (mkF m 5 #[.val (.ref q)] [(.ref q)])
  refine Go.step (fun _ k => XS.bipush X1.here hx rfl (hb hby d1_5) k) ?_
  show Go _ _ _ _ _ _ _ T1 (mkF m 7 #[.val (.ref q)] [(.int (64 : Int32)), (.ref q)])
  obtain ⟨T2, h2, k2, X2, e2, E2, A2, st2⟩ := newP X1 hx hZ (hw _ (List.mem_of_getElem? (i := 9) rfl)) e1 (g := (mkF m 7 #[.val (.ref q)] [(.int (64 : Int32)), (.ref q)])) rfl (hb hby d1_7) rfl (by decide) (cap := 64) (by decide) (by decide) (by decide) (by decide)
  obtain ⟨b2, g2⟩ : ∃ z, z = h0.size := ⟨_, rfl⟩
  rw [← g2] at A2 st2
  refine Go.step st2 ?_
  have K2 : Keep h0 h2 [q] := (Keep.refl h0 [q]).ext E2
  have sz_b2 : h0.size ≤ b2 := Nat.le_trans ((Keep.refl h0 [q]) : Keep h0 h0 [q]).1 (Nat.le_of_eq g2.symm)
  have ge_b2 : n0 ≤ b2 := Nat.le_trans Z0 sz_b2
  have ne_q_b2 : q ≠ b2 := Nat.ne_of_lt (Nat.lt_of_lt_of_le E_q.lt (Nat.le_of_eq g2.symm))
  have E_q_2 := E_q.ext E2
  have F_size_q_2 := F_size_q.ext E2
  have F_times_q_2 := F_times_q.ext E2
  have F_lightpaths_q_2 := F_lightpaths_q.ext E2
  have V_b2 : Dv Z h2 b2 (64 : Int32) (fun _ => (0 : UInt64)) := Fv.new A2 (by decide)
  show Go _ _ _ _ _ _ _ T2 (mkF m 9 #[.val (.ref q)] [(.ref b2), (.ref q)])
  obtain ⟨T3, h3, X3, e3, W3, st3⟩ := putF X2 hx hZ hown (host := "") (Or.inl (hw _ (List.mem_of_getElem? (i := 10) rfl))) Via.refl e2 F_times_q_2 E_q_2 (Or.inl (hw _ (List.mem_of_getElem? (i := 11) rfl))) (hw _ (List.mem_of_getElem? (i := 1) rfl)) (ty := (.array .double)) (by decide) rfl rfl (g := (mkF m 9 #[.val (.ref q)] [(.ref b2), (.ref q)])) rfl rfl (hb hby d1_9)
  refine Go.step st3 ?_
  have N3 := Fr.snoc X3 N0 ge_q
  have F_times_q_3 := F_times_q_2.same W3
  have E_q_3 := E_q_2.wr W3
  have F_size_q_3 := F_size_q_2.other W3 (Or.inr (slot_ne (Or.inl (hw _ (List.mem_of_getElem? (i := 21) rfl))) (Or.inl (hw _ (List.mem_of_getElem? (i := 11) rfl))) (by decide) (t := .int) (t' := (.array .double)) (by decide) (by decide)))
  have F_lightpaths_q_3 := F_lightpaths_q_2.other W3 (Or.inr (slot_ne (Or.inl (hw _ (List.mem_of_getElem? (i := 14) rfl))) (Or.inl (hw _ (List.mem_of_getElem? (i := 11) rfl))) (by decide) (t := (.array .int)) (t' := (.array .double)) (by decide) (by decide)))
  have V_b2_3 := V_b2.other W3 (Ne.symm ne_q_b2)
  have K3 : Keep h0 h3 [q] := K2.wr W3 (Or.inl (List.mem_of_getElem? (i := 0) rfl))
  show Go _ _ _ _ _ _ _ T3 (mkF m 12 #[.val (.ref q)] [])
  refine Go.step (fun _ k => XS.aloadN X3.here hx rfl (hb hby d1_12) rfl rfl k) ?_
  show Go _ _ _ _ _ _ _ T3 (mkF m 13 #[.val (.ref q)] [(.ref q)])
  refine Go.step (fun _ k => XS.bipush X3.here hx rfl (hb hby d1_13) k) ?_
  show Go _ _ _ _ _ _ _ T3 (mkF m 15 #[.val (.ref q)] [(.int (64 : Int32)), (.ref q)])
  obtain ⟨T4, h4, k4, X4, e4, E4, A4, st4⟩ := newP X3 hx hZ (hw _ (List.mem_of_getElem? (i := 12) rfl)) e3 (g := (mkF m 15 #[.val (.ref q)] [(.int (64 : Int32)), (.ref q)])) rfl (hb hby d1_15) rfl (by decide) (cap := 64) (by decide) (by decide) (by decide) (by decide)
  obtain ⟨b4, g4⟩ : ∃ z, z = h3.size := ⟨_, rfl⟩
  rw [← g4] at A4 st4
  refine Go.step st4 ?_
  have K4 : Keep h0 h4 [q] := K3.ext E4
  have sz_b4 : h0.size ≤ b4 := Nat.le_trans (K3 : Keep h0 h3 [q]).1 (Nat.le_of_eq g4.symm)
  have ge_b4 : n0 ≤ b4 := Nat.le_trans Z0 sz_b4
  have ne_q_b4 : q ≠ b4 := Nat.ne_of_lt (Nat.lt_of_lt_of_le E_q_3.lt (Nat.le_of_eq g4.symm))
  have ne_b2_b4 : b2 ≠ b4 := Nat.ne_of_lt (Nat.lt_of_lt_of_le V_b2_3.lt (Nat.le_of_eq g4.symm))
  have E_q_4 := E_q_3.ext E4
  have F_size_q_4 := F_size_q_3.ext E4
  have F_times_q_4 := F_times_q_3.ext E4
  have F_lightpaths_q_4 := F_lightpaths_q_3.ext E4
  have V_b2_4 := V_b2_3.ext E4
  have V_b4 : Iv Z h4 b4 (64 : Int32) (fun _ => (0 : Int32)) := Fv.new A4 (by decide)
  show Go _ _ _ _ _ _ _ T4 (mkF m 17 #[.val (.ref q)] [(.ref b4), (.ref q)])
  obtain ⟨T5, h5, X5, e5, W5, st5⟩ := putF X4 hx hZ hown (host := "") (Or.inl (hw _ (List.mem_of_getElem? (i := 13) rfl))) Via.refl e4 F_lightpaths_q_4 E_q_4 (Or.inl (hw _ (List.mem_of_getElem? (i := 14) rfl))) (hw _ (List.mem_of_getElem? (i := 1) rfl)) (ty := (.array .int)) (by decide) rfl rfl (g := (mkF m 17 #[.val (.ref q)] [(.ref b4), (.ref q)])) rfl rfl (hb hby d1_17)
  refine Go.step st5 ?_
  have N5 := Fr.snoc X5 N3 ge_q
  have F_lightpaths_q_5 := F_lightpaths_q_4.same W5
  have E_q_5 := E_q_4.wr W5
  have F_size_q_5 := F_size_q_4.other W5 (Or.inr (slot_ne (Or.inl (hw _ (List.mem_of_getElem? (i := 21) rfl))) (Or.inl (hw _ (List.mem_of_getElem? (i := 14) rfl))) (by decide) (t := .int) (t' := (.array .int)) (by decide) (by decide)))
  have F_times_q_5 := F_times_q_4.other W5 (Or.inr (slot_ne (Or.inl (hw _ (List.mem_of_getElem? (i := 11) rfl))) (Or.inl (hw _ (List.mem_of_getElem? (i := 14) rfl))) (by decide) (t := (.array .double)) (t' := (.array .int)) (by decide) (by decide)))
  have V_b2_5 := V_b2_4.other W5 (Ne.symm ne_q_b2)
  have V_b4_5 := V_b4.other W5 (Ne.symm ne_q_b4)
  have K5 : Keep h0 h5 [q] := K4.wr W5 (Or.inl (List.mem_of_getElem? (i := 0) rfl))
  show Go _ _ _ _ _ _ _ T5 (mkF m 20 #[.val (.ref q)] [])
  refine Go.retV X5 hx hlk hret (hb hby d1_20) (by decide) (by decide) ?_
  try rw [e5]
  exact ⟨rfl, N5, K5, E_q_5, F_size_q_5, b2, b4, F_times_q_5, F_lightpaths_q_5, V_b2_5, V_b4_5, ne_q_b2, ne_q_b4, ne_b2_b4, sz_b2, sz_b4⟩
theorem pn_1 : plainName "com/example/wavegrade/wavegrade/DepartureQueue" = true := by first | (simp [plainName, overriddenIn]; done) | decide +kernel
theorem ef_rm1 (m : MethodId) (q : Addr) : entryFrame m #[(.ref q)] 1 = mkF m 0 #[.val (.ref q)] [] := by first | (simp [entryFrame, mkF, argsToLocals, Value.category]; done) | rfl
theorem rm1 (l : Launch) (Z : State) (a0 : Array Value) (hw : ∀ d ∈ tables_1, d.before a0 Z = true) (q : Addr) (h0 : Heap) (n0 : Nat) (Z0 : n0 ≤ h0.size) (E_q : Exa Z h0 q "com/example/wavegrade/wavegrade/DepartureQueue") (F_size_q : Fld Z h0 q "com/example/wavegrade/wavegrade/DepartureQueue" "size" "I" (.int (0 : Int32))) (F_times_q : Fld Z h0 q "com/example/wavegrade/wavegrade/DepartureQueue" "times" "[D" .null) (F_lightpaths_q : Fld Z h0 q "com/example/wavegrade/wavegrade/DepartureQueue" "lightpaths" "[I" .null) (ge_q : n0 ≤ q) :
    Con l Z (⟨"com/example/wavegrade/wavegrade/DepartureQueue", "<init>", "()V"⟩ : MethodName) prog_1_method_1_code 1 none ({ frames := 1, cells := 2, slots := 128, locals := 12 } : Room) #[(.ref q)] h0 (fun r h L => r = none ∧ Fr n0 L ∧ Keep h0 h [q] ∧ Exa Z h q "com/example/wavegrade/wavegrade/DepartureQueue" ∧ Fld Z h q "com/example/wavegrade/wavegrade/DepartureQueue" "size" "I" (.int (0 : Int32)) ∧ ∃ u v : Addr, Fld Z h q "com/example/wavegrade/wavegrade/DepartureQueue" "times" "[D" (.ref u) ∧ Fld Z h q "com/example/wavegrade/wavegrade/DepartureQueue" "lightpaths" "[I" (.ref v) ∧ Dv Z h u (64 : Int32) (fun _ => 0) ∧ Iv Z h v (64 : Int32) (fun _ => 0) ∧ q ≠ u ∧ q ≠ v ∧ u ≠ v ∧ h0.size ≤ u ∧ h0.size ≤ v) :=
  con_of (plainFor_of_name pn_1) (fun p_ e_ s_ m_ b_ meth_ c_ T_ X_ hx hZ hby hml hown hnm hret hlk e0 => Go.cast (ef_rm1 m_ q) (w1 q X_ hx hZ hw hby hml hown hnm hret hlk e0 Z0 (Fr.nil n0) E_q F_size_q F_times_q F_lightpaths_q ge_q))
theorem d4_0 : decode prog_1_method_4_code 0 = .ok (.aload_n 0, 1) := by decide +kernel
theorem d4_1 : decode prog_1_method_4_code 1 = .ok (.getfield 17, 3) := by decide +kernel
theorem d4_4 : decode prog_1_method_4_code 4 = .ok (.aload_n 0, 1) := by decide +kernel
theorem d4_5 : decode prog_1_method_4_code 5 = .ok (.getfield 7, 3) := by decide +kernel
theorem d4_8 : decode prog_1_method_4_code 8 = .ok (.arraylength, 1) := by decide +kernel
theorem d4_9 : decode prog_1_method_4_code 9 = .ok (.if_icmp .ne 37, 3) := by decide +kernel
theorem d4_46 : decode prog_1_method_4_code 46 = .ok (.aload_n 0, 1) := by decide +kernel
theorem d4_47 : decode prog_1_method_4_code 47 = .ok (.dup, 1) := by decide +kernel
theorem d4_48 : decode prog_1_method_4_code 48 = .ok (.getfield 17, 3) := by decide +kernel
theorem d4_51 : decode prog_1_method_4_code 51 = .ok (.dup_x1, 1) := by decide +kernel
theorem d4_52 : decode prog_1_method_4_code 52 = .ok (.iconst 1, 1) := by decide +kernel
theorem d4_53 : decode prog_1_method_4_code 53 = .ok (.iadd, 1) := by decide +kernel
theorem d4_54 : decode prog_1_method_4_code 54 = .ok (.putfield 17, 3) := by decide +kernel
theorem d4_57 : decode prog_1_method_4_code 57 = .ok (.istore 4, 2) := by decide +kernel
theorem d4_59 : decode prog_1_method_4_code 59 = .ok (.iload 4, 2) := by decide +kernel
theorem d4_61 : decode prog_1_method_4_code 61 = .ok (.ifCond .le 62, 3) := by decide +kernel
theorem d4_123 : decode prog_1_method_4_code 123 = .ok (.aload_n 0, 1) := by decide +kernel
theorem d4_124 : decode prog_1_method_4_code 124 = .ok (.getfield 7, 3) := by decide +kernel
theorem d4_127 : decode prog_1_method_4_code 127 = .ok (.iload 4, 2) := by decide +kernel
theorem d4_129 : decode prog_1_method_4_code 129 = .ok (.dload_n 1, 1) := by decide +kernel
theorem d4_130 : decode prog_1_method_4_code 130 = .ok (.dastore, 1) := by decide +kernel
theorem d4_131 : decode prog_1_method_4_code 131 = .ok (.aload_n 0, 1) := by decide +kernel
theorem d4_132 : decode prog_1_method_4_code 132 = .ok (.getfield 13, 3) := by decide +kernel
theorem d4_135 : decode prog_1_method_4_code 135 = .ok (.iload 4, 2) := by decide +kernel
theorem d4_137 : decode prog_1_method_4_code 137 = .ok (.iload_n 3, 1) := by decide +kernel
theorem d4_138 : decode prog_1_method_4_code 138 = .ok (.iastore, 1) := by decide +kernel
theorem d4_139 : decode prog_1_method_4_code 139 = .ok (.return_, 1) := by decide +kernel
set_option maxRecDepth 65536 in
set_option maxHeartbeats 40000000 in
theorem w_add0 {p : Program} {l : Launch} {e : Env} {s : State} {m : MethodId} {args : Array Value} {below : List Frame} {meth : Method} {c_ : Code} {T0 : State} {locs : List Loc} {Z : State} {a0 : Array Value} {h0 : Heap} {n0 : Nat} (q u v : Addr) (g : Nat → UInt64) (l' : Nat → Int32) (T : Nat → UInt64) (Lp : Nat → Int32) (K : Nat → Int) (a : Nat → Nat) (lam : Nat)
    (X0 : Stand p l e ({ frames := 0, cells := 0, slots := 0, locals := 0 } : Room) s m args below meth c_ T0 locs 0 0) (hx : p.tables.exec = Jvm.exec) (hZ : Z.Warmed39 s.vm) (hw : ∀ d ∈ tables_1, d.before a0 Z = true) (hby : c_.code = prog_1_method_4_code) (hml : c_.maxLocals = 6) (hown : s.vm.findClass "com/example/wavegrade/wavegrade/DepartureQueue" = some m.cls) (hnm : meth.name = "add") (hret : meth.sig.returnType = none) (hlk : meth.locks = false) (e0 : T0.heap = h0) (Z0 : n0 ≤ h0.size) (N0 : Fr n0 locs) (E_q : Exa Z h0 q "com/example/wavegrade/wavegrade/DepartureQueue") (F_size_q : Fld Z h0 q "com/example/wavegrade/wavegrade/DepartureQueue" "size" "I" (.int (0 : Int32))) (F_times_q : Fld Z h0 q "com/example/wavegrade/wavegrade/DepartureQueue" "times" "[D" (.ref u)) (F_lightpaths_q : Fld Z h0 q "com/example/wavegrade/wavegrade/DepartureQueue" "lightpaths" "[I" (.ref v)) (V_u : Dv Z h0 u (64 : Int32) g) (V_v : Iv Z h0 v (64 : Int32) l') (ne_q_u : q ≠ u) (ne_q_v : q ≠ v) (ne_u_v : u ≠ v) (ge_q : n0 ≤ q) (ge_u : n0 ≤ u) (ge_v : n0 ≤ v) (hT : ∀ x y, FP.dcmp (T x) (T y) = some (compare (K x) (K y))) (hg : ∀ i, i < 0 → g i = T (a i)) (hl : ∀ i, i < 0 → l' i = Lp (a i)) (hi : HI K a 0) :
    Go p e below s ({ frames := 0, cells := 0, slots := 0, locals := 0 } : Room).cells ({ frames := 0, cells := 0, slots := 0, locals := 0 } : Room).slots (fun r h L => r = none ∧ Fr n0 L ∧ Keep h0 h [q, u, v] ∧ Exa Z h q "com/example/wavegrade/wavegrade/DepartureQueue" ∧ Fld Z h q "com/example/wavegrade/wavegrade/DepartureQueue" "size" "I" (.int (1 : Int32)) ∧ Fld Z h q "com/example/wavegrade/wavegrade/DepartureQueue" "times" "[D" (.ref u) ∧ Fld Z h q "com/example/wavegrade/wavegrade/DepartureQueue" "lightpaths" "[I" (.ref v) ∧ ∃ (g2 : Nat → UInt64) (l2 : Nat → Int32) (a2 : Nat → Nat), Dv Z h u (64 : Int32) g2 ∧ Iv Z h v (64 : Int32) l2 ∧ (∀ i, i < 1 → g2 i = T (a2 i)) ∧ (∀ i, i < 1 → l2 i = Lp (a2 i)) ∧ HI K a2 1 ∧ (∀ w : Nat → Int, sumA w a2 1 = sumA w a 0 + w lam) ∧ ∀ P : Nat → Prop, (∀ i, i < 0 → P (a i)) → P lam → ∀ i, i < 1 → P (a2 i)) T0 (mkF m 0 #[.val (.ref q), .val (.double (T lam)), .second, .val (.int (Lp lam)), .unset, .unset] []) := by
  simp only [HI] at hi
  show Go _ _ _ _ _ _ _ T0 (mkF m 0 #[.val (.ref q), .val (.double (T lam)), .second, .val (.int (Lp lam)), .unset, .unset] [])
  refine Go.step (fun _ k => XS.aloadN X0.here hx rfl (hb hby d4_0) rfl rfl k) ?_
  show Go _ _ _ _ _ _ _ T0 (mkF m 1 #[.val (.ref q), .val (.double (T lam)), .second, .val (.int (Lp lam)), .unset, .unset] [(.ref q)])
  obtain ⟨T1, X1, e1, st1⟩ := getF X0 hx hZ hown (host := "") (Or.inl (hw _ (List.mem_of_getElem? (i := 20) rfl))) Via.refl e0 F_size_q (g := (mkF m 1 #[.val (.ref q), .val (.double (T lam)), .second, .val (.int (Lp lam)), .unset, .unset] [(.ref q)])) rfl rfl (hb hby d4_1)
  refine Go.step st1 ?_
  show Go _ _ _ _ _ _ _ T1 (mkF m 4 #[.val (.ref q), .val (.double (T lam)), .second, .val (.int (Lp lam)), .unset, .unset] [(.int (0 : Int32))])
  refine Go.step (fun _ k => XS.aloadN X1.here hx rfl (hb hby d4_4) rfl rfl k) ?_
  show Go _ _ _ _ _ _ _ T1 (mkF m 5 #[.val (.ref q), .val (.double (T lam)), .second, .val (.int (Lp lam)), .unset, .unset] [(.ref q), (.int (0 : Int32))])
  obtain ⟨T2, X2, e2, st2⟩ := getF X1 hx hZ hown (host := "") (Or.inl (hw _ (List.mem_of_getElem? (i := 10) rfl))) Via.refl e1 F_times_q (g := (mkF m 5 #[.val (.ref q), .val (.double (T lam)), .second, .val (.int (Lp lam)), .unset, .unset] [(.ref q), (.int (0 : Int32))])) rfl rfl (hb hby d4_5)
  refine Go.step st2 ?_
  show Go _ _ _ _ _ _ _ T2 (mkF m 8 #[.val (.ref q), .val (.double (T lam)), .second, .val (.int (Lp lam)), .unset, .unset] [(.ref u), (.int (0 : Int32))])
  refine Go.alen X2 hx hZ e2 V_u (hb hby d4_8) ?_
  show Go _ _ _ _ _ _ _ T2 (mkF m 9 #[.val (.ref q), .val (.double (T lam)), .second, .val (.int (Lp lam)), .unset, .unset] [(.int (64 : Int32)), (.int (0 : Int32))])
  refine Go.step (fun _ k => XS.icmpYes X2.here hx rfl (pc0 := 9) (pc' := 46) rfl (hb hby d4_9) rfl (feq (by decide : ¬ ((0 : Int32) = (64 : Int32)))).2 (by decide) (by decide) k) ?_
  show Go _ _ _ _ _ _ _ T2 (mkF m 46 #[.val (.ref q), .val (.double (T lam)), .second, .val (.int (Lp lam)), .unset, .unset] [])
  refine Go.step (fun _ k => XS.aloadN X2.here hx rfl (hb hby d4_46) rfl rfl k) ?_
  show Go _ _ _ _ _ _ _ T2 (mkF m 47 #[.val (.ref q), .val (.double (T lam)), .second, .val (.int (Lp lam)), .unset, .unset] [(.ref q)])
  refine Go.step (fun _ k => XS.dup X2.here hx rfl (hb hby d4_47) rfl rfl k) ?_
  show Go _ _ _ _ _ _ _ T2 (mkF m 48 #[.val (.ref q), .val (.double (T lam)), .second, .val (.int (Lp lam)), .unset, .unset] [(.ref q), (.ref q)])
  obtain ⟨T3, X3, e3, st3⟩ := getF X2 hx hZ hown (host := "") (Or.inl (hw _ (List.mem_of_getElem? (i := 20) rfl))) Via.refl e2 F_size_q (g := (mkF m 48 #[.val (.ref q), .val (.double (T lam)), .second, .val (.int (Lp lam)), .unset, .unset] [(.ref q), (.ref q)])) rfl rfl (hb hby d4_48)
  refine Go.step st3 ?_
  show Go _ _ _ _ _ _ _ T3 (mkF m 51 #[.val (.ref q), .val (.double (T lam)), .second, .val (.int (Lp lam)), .unset, .unset] [(.int (0 : Int32)), (.ref q)])
  refine Go.step (fun _ k => XS.dupX1 X3.here hx rfl (hb hby d4_51) rfl rfl rfl k) ?_
  show Go _ _ _ _ _ _ _ T3 (mkF m 52 #[.val (.ref q), .val (.double (T lam)), .second, .val (.int (Lp lam)), .unset, .unset] [(.int (0 : Int32)), (.ref q), (.int (0 : Int32))])
  refine Go.step (fun _ k => XS.iconst X3.here hx rfl (hb hby d4_52) k) ?_
  show Go _ _ _ _ _ _ _ T3 (mkF m 53 #[.val (.ref q), .val (.double (T lam)), .second, .val (.int (Lp lam)), .unset, .unset] [(.int (1 : Int32)), (.int (0 : Int32)), (.ref q), (.int (0 : Int32))])
  refine Go.step (fun _ k => XS.iadd X3.here hx rfl (hb hby d4_53) rfl k) ?_
  show Go _ _ _ _ _ _ _ T3 (mkF m 54 #[.val (.ref q), .val (.double (T lam)), .second, .val (.int (Lp lam)), .unset, .unset] [(.int (1 : Int32)), (.ref q), (.int (0 : Int32))])
  obtain ⟨T4, h4, X4, e4, W4, st4⟩ := putF X3 hx hZ hown (host := "") (Or.inl (hw _ (List.mem_of_getElem? (i := 20) rfl))) Via.refl e3 F_size_q E_q (Or.inl (hw _ (List.mem_of_getElem? (i := 21) rfl))) (hw _ (List.mem_of_getElem? (i := 1) rfl)) (ty := .int) (by decide) rfl rfl (g := (mkF m 54 #[.val (.ref q), .val (.double (T lam)), .second, .val (.int (Lp lam)), .unset, .unset] [(.int (1 : Int32)), (.ref q), (.int (0 : Int32))])) rfl rfl (hb hby d4_54)
  refine Go.step st4 ?_
  have N4 := Fr.snoc X4 N0 ge_q
  have F_size_q_4 := F_size_q.same W4
  have E_q_4 := E_q.wr W4
  have F_times_q_4 := F_times_q.other W4 (Or.inr (slot_ne (Or.inl (hw _ (List.mem_of_getElem? (i := 11) rfl))) (Or.inl (hw _ (List.mem_of_getElem? (i := 21) rfl))) (by decide) (t := (.array .double)) (t' := .int) (by decide) (by decide)))
  have F_lightpaths_q_4 := F_lightpaths_q.other W4 (Or.inr (slot_ne (Or.inl (hw _ (List.mem_of_getElem? (i := 14) rfl))) (Or.inl (hw _ (List.mem_of_getElem? (i := 21) rfl))) (by decide) (t := (.array .int)) (t' := .int) (by decide) (by decide)))
  have V_u_4 := V_u.other W4 (Ne.symm ne_q_u)
  have V_v_4 := V_v.other W4 (Ne.symm ne_q_v)
  have K4 : Keep h0 h4 [q, u, v] := (Keep.refl h0 [q, u, v]).wr W4 (Or.inl (List.mem_of_getElem? (i := 0) rfl))
  show Go _ _ _ _ _ _ _ T4 (mkF m 57 #[.val (.ref q), .val (.double (T lam)), .second, .val (.int (Lp lam)), .unset, .unset] [(.int (0 : Int32))])
  refine Go.step (fun _ k => XS.istore X4.here hx rfl (hb hby d4_57) rfl (l' := #[.val (.ref q), .val (.double (T lam)), .second, .val (.int (Lp lam)), .val (.int (0 : Int32)), .unset]) rfl k) ?_
  show Go _ _ _ _ _ _ _ T4 (mkF m 59 #[.val (.ref q), .val (.double (T lam)), .second, .val (.int (Lp lam)), .val (.int (0 : Int32)), .unset] [])
  refine Go.step (fun _ k => XS.iload X4.here hx rfl (hb hby d4_59) rfl k) ?_
  show Go _ _ _ _ _ _ _ T4 (mkF m 61 #[.val (.ref q), .val (.double (T lam)), .second, .val (.int (Lp lam)), .val (.int (0 : Int32)), .unset] [(.int (0 : Int32))])
  refine Go.step (fun _ k => XS.ifYes X4.here hx rfl (pc0 := 61) (pc' := 123) rfl (hb hby d4_61) rfl ((if0 _ _).trans (flt (by decide : ¬ ((0 : Int32) < (0 : Int32)))).2.2.2) (by decide) (by decide) k) ?_
  show Go _ _ _ _ _ _ _ T4 (mkF m 123 #[.val (.ref q), .val (.double (T lam)), .second, .val (.int (Lp lam)), .val (.int (0 : Int32)), .unset] [])
  refine Go.step (fun _ k => XS.aloadN X4.here hx rfl (hb hby d4_123) rfl rfl k) ?_
  show Go _ _ _ _ _ _ _ T4 (mkF m 124 #[.val (.ref q), .val (.double (T lam)), .second, .val (.int (Lp lam)), .val (.int (0 : Int32)), .unset] [(.ref q)])
  obtain ⟨T5, X5, e5, st5⟩ := getF X4 hx hZ hown (host := "") (Or.inl (hw _ (List.mem_of_getElem? (i := 10) rfl))) Via.refl e4 F_times_q_4 (g := (mkF m 124 #[.val (.ref q), .val (.double (T lam)), .second, .val (.int (Lp lam)), .val (.int (0 : Int32)), .unset] [(.ref q)])) rfl rfl (hb hby d4_124)
  refine Go.step st5 ?_
  show Go _ _ _ _ _ _ _ T5 (mkF m 127 #[.val (.ref q), .val (.double (T lam)), .second, .val (.int (Lp lam)), .val (.int (0 : Int32)), .unset] [(.ref u)])
  refine Go.step (fun _ k => XS.iload X5.here hx rfl (hb hby d4_127) rfl k) ?_
  show Go _ _ _ _ _ _ _ T5 (mkF m 129 #[.val (.ref q), .val (.double (T lam)), .second, .val (.int (Lp lam)), .val (.int (0 : Int32)), .unset] [(.int (0 : Int32)), (.ref u)])
  refine Go.step (fun _ k => XS.dloadN X5.here hx rfl (hb hby d4_129) rfl k) ?_
  show Go _ _ _ _ _ _ _ T5 (mkF m 130 #[.val (.ref q), .val (.double (T lam)), .second, .val (.int (Lp lam)), .val (.int (0 : Int32)), .unset] [(.double (T lam)), (.int (0 : Int32)), (.ref u)])
  refine Go.dastore X5 hx hZ e5 V_u_4 (j := (0 : Int32)) (x := (T lam)) (by decide) (hb hby d4_130) ?_
  intro T6 h6 X6 e6 W6 Vn6
  have V_u_6 : Dv Z h6 u (64 : Int32) (updN g 0 (T lam)) := Vn6
  have N6 := Fr.snoc X6 N4 ge_u
  have E_q_6 := E_q_4.wr W6
  have F_size_q_6 := F_size_q_4.other W6 (Or.inl ne_q_u)
  have F_times_q_6 := F_times_q_4.other W6 (Or.inl ne_q_u)
  have F_lightpaths_q_6 := F_lightpaths_q_4.other W6 (Or.inl ne_q_u)
  have V_v_6 := V_v_4.other W6 (Ne.symm ne_u_v)
  have K6 : Keep h0 h6 [q, u, v] := K4.wr W6 (Or.inl (List.mem_of_getElem? (i := 1) rfl))
  show Go _ _ _ _ _ _ _ T6 (mkF m 131 #[.val (.ref q), .val (.double (T lam)), .second, .val (.int (Lp lam)), .val (.int (0 : Int32)), .unset] [])
  refine Go.step (fun _ k => XS.aloadN X6.here hx rfl (hb hby d4_131) rfl rfl k) ?_
  show Go _ _ _ _ _ _ _ T6 (mkF m 132 #[.val (.ref q), .val (.double (T lam)), .second, .val (.int (Lp lam)), .val (.int (0 : Int32)), .unset] [(.ref q)])
  obtain ⟨T7, X7, e7, st7⟩ := getF X6 hx hZ hown (host := "") (Or.inl (hw _ (List.mem_of_getElem? (i := 13) rfl))) Via.refl e6 F_lightpaths_q_6 (g := (mkF m 132 #[.val (.ref q), .val (.double (T lam)), .second, .val (.int (Lp lam)), .val (.int (0 : Int32)), .unset] [(.ref q)])) rfl rfl (hb hby d4_132)
  refine Go.step st7 ?_
  show Go _ _ _ _ _ _ _ T7 (mkF m 135 #[.val (.ref q), .val (.double (T lam)), .second, .val (.int (Lp lam)), .val (.int (0 : Int32)), .unset] [(.ref v)])
  refine Go.step (fun _ k => XS.iload X7.here hx rfl (hb hby d4_135) rfl k) ?_
  show Go _ _ _ _ _ _ _ T7 (mkF m 137 #[.val (.ref q), .val (.double (T lam)), .second, .val (.int (Lp lam)), .val (.int (0 : Int32)), .unset] [(.int (0 : Int32)), (.ref v)])
  refine Go.step (fun _ k => XS.iloadN X7.here hx rfl (hb hby d4_137) rfl k) ?_
  show Go _ _ _ _ _ _ _ T7 (mkF m 138 #[.val (.ref q), .val (.double (T lam)), .second, .val (.int (Lp lam)), .val (.int (0 : Int32)), .unset] [(.int (Lp lam)), (.int (0 : Int32)), (.ref v)])
  refine Go.iastore X7 hx hZ e7 V_v_6 (j := (0 : Int32)) (x := (Lp lam)) (by decide) (hb hby d4_138) ?_
  intro T8 h8 X8 e8 W8 Vn8
  have V_v_8 : Iv Z h8 v (64 : Int32) (updN l' 0 (Lp lam)) := Vn8
  have N8 := Fr.snoc X8 N6 ge_v
  have E_q_8 := E_q_6.wr W8
  have F_size_q_8 := F_size_q_6.other W8 (Or.inl ne_q_v)
  have F_times_q_8 := F_times_q_6.other W8 (Or.inl ne_q_v)
  have F_lightpaths_q_8 := F_lightpaths_q_6.other W8 (Or.inl ne_q_v)
  have V_u_8 := V_u_6.other W8 ne_u_v
  have K8 : Keep h0 h8 [q, u, v] := K6.wr W8 (Or.inl (List.mem_of_getElem? (i := 2) rfl))
  show Go _ _ _ _ _ _ _ T8 (mkF m 139 #[.val (.ref q), .val (.double (T lam)), .second, .val (.int (Lp lam)), .val (.int (0 : Int32)), .unset] [])
  refine Go.retV X8 hx hlk hret (hb hby d4_139) (by decide) (by decide) ?_
  try rw [e8]
  refine ⟨rfl, N8, K8, E_q_8, F_size_q_8, F_times_q_8, F_lightpaths_q_8, _, _, (updN a 0 lam), V_u_8, V_v_8, fun i hi' => by rcases (by omega : i = 0) with rfl <;> first | rfl | simp [updN], fun i hi' => by rcases (by omega : i = 0) with rfl <;> first | rfl | simp [updN], ?_, ?_, fun P hP hP' => ?_⟩
  · simp only [HI, updN]; try simp; try omega
  · intro w; simp [sumA, updN]; try omega
  · intro i hi'; rcases (by omega : i = 0) with rfl <;> simp [updN] <;> first | exact hP' | exact hP _ (by decide)
theorem ef_rm_add0 (m : MethodId) (q : Addr) (T : Nat → UInt64) (Lp : Nat → Int32) (lam : Nat) : entryFrame m #[(.ref q), (.double (T lam)), (.int (Lp lam))] 6 = mkF m 0 #[.val (.ref q), .val (.double (T lam)), .second, .val (.int (Lp lam)), .unset, .unset] [] := by first | (simp [entryFrame, mkF, argsToLocals, Value.category]; done) | rfl
theorem rm_add0 (l : Launch) (Z : State) (a0 : Array Value) (hw : ∀ d ∈ tables_1, d.before a0 Z = true) (q u v : Addr) (g : Nat → UInt64) (l' : Nat → Int32) (T : Nat → UInt64) (Lp : Nat → Int32) (K : Nat → Int) (a : Nat → Nat) (lam : Nat) (h0 : Heap) (n0 : Nat) (Z0 : n0 ≤ h0.size) (E_q : Exa Z h0 q "com/example/wavegrade/wavegrade/DepartureQueue") (F_size_q : Fld Z h0 q "com/example/wavegrade/wavegrade/DepartureQueue" "size" "I" (.int (0 : Int32))) (F_times_q : Fld Z h0 q "com/example/wavegrade/wavegrade/DepartureQueue" "times" "[D" (.ref u)) (F_lightpaths_q : Fld Z h0 q "com/example/wavegrade/wavegrade/DepartureQueue" "lightpaths" "[I" (.ref v)) (V_u : Dv Z h0 u (64 : Int32) g) (V_v : Iv Z h0 v (64 : Int32) l') (ne_q_u : q ≠ u) (ne_q_v : q ≠ v) (ne_u_v : u ≠ v) (ge_q : n0 ≤ q) (ge_u : n0 ≤ u) (ge_v : n0 ≤ v) (hT : ∀ x y, FP.dcmp (T x) (T y) = some (compare (K x) (K y))) (hg : ∀ i, i < 0 → g i = T (a i)) (hl : ∀ i, i < 0 → l' i = Lp (a i)) (hi : HI K a 0) :
    Con l Z (⟨"com/example/wavegrade/wavegrade/DepartureQueue", "add", "(DI)V"⟩ : MethodName) prog_1_method_4_code 6 none ({ frames := 0, cells := 0, slots := 0, locals := 0 } : Room) #[(.ref q), (.double (T lam)), (.int (Lp lam))] h0 (fun r h L => r = none ∧ Fr n0 L ∧ Keep h0 h [q, u, v] ∧ Exa Z h q "com/example/wavegrade/wavegrade/DepartureQueue" ∧ Fld Z h q "com/example/wavegrade/wavegrade/DepartureQueue" "size" "I" (.int (1 : Int32)) ∧ Fld Z h q "com/example/wavegrade/wavegrade/DepartureQueue" "times" "[D" (.ref u) ∧ Fld Z h q "com/example/wavegrade/wavegrade/DepartureQueue" "lightpaths" "[I" (.ref v) ∧ ∃ (g2 : Nat → UInt64) (l2 : Nat → Int32) (a2 : Nat → Nat), Dv Z h u (64 : Int32) g2 ∧ Iv Z h v (64 : Int32) l2 ∧ (∀ i, i < 1 → g2 i = T (a2 i)) ∧ (∀ i, i < 1 → l2 i = Lp (a2 i)) ∧ HI K a2 1 ∧ (∀ w : Nat → Int, sumA w a2 1 = sumA w a 0 + w lam) ∧ ∀ P : Nat → Prop, (∀ i, i < 0 → P (a i)) → P lam → ∀ i, i < 1 → P (a2 i)) :=
  con_of (plainFor_of_name pn_1) (fun p_ e_ s_ m_ b_ meth_ c_ T_ X_ hx hZ hby hml hown hnm hret hlk e0 => Go.cast (ef_rm_add0 m_ q T Lp lam) (w_add0 q u v g l' T Lp K a lam X_ hx hZ hw hby hml hown hnm hret hlk e0 Z0 (Fr.nil n0) E_q F_size_q F_times_q F_lightpaths_q V_u V_v ne_q_u ne_q_v ne_u_v ge_q ge_u ge_v hT hg hl hi))
theorem d4_64 : decode prog_1_method_4_code 64 = .ok (.aload_n 0, 1) := by decide +kernel
theorem d4_65 : decode prog_1_method_4_code 65 = .ok (.getfield 7, 3) := by decide +kernel
theorem d4_68 : decode prog_1_method_4_code 68 = .ok (.iload 4, 2) := by decide +kernel
theorem d4_70 : decode prog_1_method_4_code 70 = .ok (.iconst 1, 1) := by decide +kernel
theorem d4_71 : decode prog_1_method_4_code 71 = .ok (.isub, 1) := by decide +kernel
theorem d4_72 : decode prog_1_method_4_code 72 = .ok (.iconst 2, 1) := by decide +kernel
theorem d4_73 : decode prog_1_method_4_code 73 = .ok (.idiv, 1) := by decide +kernel
theorem d4_74 : decode prog_1_method_4_code 74 = .ok (.daload, 1) := by decide +kernel
theorem d4_75 : decode prog_1_method_4_code 75 = .ok (.dload_n 1, 1) := by decide +kernel
theorem d4_76 : decode prog_1_method_4_code 76 = .ok (.dcmp .l, 1) := by decide +kernel
theorem d4_77 : decode prog_1_method_4_code 77 = .ok (.ifCond .le 46, 3) := by decide +kernel
theorem d4_80 : decode prog_1_method_4_code 80 = .ok (.iload 4, 2) := by decide +kernel
theorem d4_82 : decode prog_1_method_4_code 82 = .ok (.iconst 1, 1) := by decide +kernel
theorem d4_83 : decode prog_1_method_4_code 83 = .ok (.isub, 1) := by decide +kernel
theorem d4_84 : decode prog_1_method_4_code 84 = .ok (.iconst 2, 1) := by decide +kernel
theorem d4_85 : decode prog_1_method_4_code 85 = .ok (.idiv, 1) := by decide +kernel
theorem d4_86 : decode prog_1_method_4_code 86 = .ok (.istore 5, 2) := by decide +kernel
theorem d4_88 : decode prog_1_method_4_code 88 = .ok (.aload_n 0, 1) := by decide +kernel
theorem d4_89 : decode prog_1_method_4_code 89 = .ok (.getfield 7, 3) := by decide +kernel
theorem d4_92 : decode prog_1_method_4_code 92 = .ok (.iload 4, 2) := by decide +kernel
theorem d4_94 : decode prog_1_method_4_code 94 = .ok (.aload_n 0, 1) := by decide +kernel
theorem d4_95 : decode prog_1_method_4_code 95 = .ok (.getfield 7, 3) := by decide +kernel
theorem d4_98 : decode prog_1_method_4_code 98 = .ok (.iload 5, 2) := by decide +kernel
theorem d4_100 : decode prog_1_method_4_code 100 = .ok (.daload, 1) := by decide +kernel
theorem d4_101 : decode prog_1_method_4_code 101 = .ok (.dastore, 1) := by decide +kernel
theorem d4_102 : decode prog_1_method_4_code 102 = .ok (.aload_n 0, 1) := by decide +kernel
theorem d4_103 : decode prog_1_method_4_code 103 = .ok (.getfield 13, 3) := by decide +kernel
theorem d4_106 : decode prog_1_method_4_code 106 = .ok (.iload 4, 2) := by decide +kernel
theorem d4_108 : decode prog_1_method_4_code 108 = .ok (.aload_n 0, 1) := by decide +kernel
theorem d4_109 : decode prog_1_method_4_code 109 = .ok (.getfield 13, 3) := by decide +kernel
theorem d4_112 : decode prog_1_method_4_code 112 = .ok (.iload 5, 2) := by decide +kernel
theorem d4_114 : decode prog_1_method_4_code 114 = .ok (.iaload, 1) := by decide +kernel
theorem d4_115 : decode prog_1_method_4_code 115 = .ok (.iastore, 1) := by decide +kernel
theorem d4_116 : decode prog_1_method_4_code 116 = .ok (.iload 5, 2) := by decide +kernel
theorem d4_118 : decode prog_1_method_4_code 118 = .ok (.istore 4, 2) := by decide +kernel
theorem d4_120 : decode prog_1_method_4_code 120 = .ok (.goto (-61), 3) := by decide +kernel
set_option maxRecDepth 65536 in
set_option maxHeartbeats 40000000 in
theorem w_add1 {p : Program} {l : Launch} {e : Env} {s : State} {m : MethodId} {args : Array Value} {below : List Frame} {meth : Method} {c_ : Code} {T0 : State} {locs : List Loc} {Z : State} {a0 : Array Value} {h0 : Heap} {n0 : Nat} (q u v : Addr) (g : Nat → UInt64) (l' : Nat → Int32) (T : Nat → UInt64) (Lp : Nat → Int32) (K : Nat → Int) (a : Nat → Nat) (lam : Nat)
    (X0 : Stand p l e ({ frames := 0, cells := 0, slots := 0, locals := 0 } : Room) s m args below meth c_ T0 locs 0 0) (hx : p.tables.exec = Jvm.exec) (hZ : Z.Warmed39 s.vm) (hw : ∀ d ∈ tables_1, d.before a0 Z = true) (hby : c_.code = prog_1_method_4_code) (hml : c_.maxLocals = 6) (hown : s.vm.findClass "com/example/wavegrade/wavegrade/DepartureQueue" = some m.cls) (hnm : meth.name = "add") (hret : meth.sig.returnType = none) (hlk : meth.locks = false) (e0 : T0.heap = h0) (Z0 : n0 ≤ h0.size) (N0 : Fr n0 locs) (E_q : Exa Z h0 q "com/example/wavegrade/wavegrade/DepartureQueue") (F_size_q : Fld Z h0 q "com/example/wavegrade/wavegrade/DepartureQueue" "size" "I" (.int (1 : Int32))) (F_times_q : Fld Z h0 q "com/example/wavegrade/wavegrade/DepartureQueue" "times" "[D" (.ref u)) (F_lightpaths_q : Fld Z h0 q "com/example/wavegrade/wavegrade/DepartureQueue" "lightpaths" "[I" (.ref v)) (V_u : Dv Z h0 u (64 : Int32) g) (V_v : Iv Z h0 v (64 : Int32) l') (ne_q_u : q ≠ u) (ne_q_v : q ≠ v) (ne_u_v : u ≠ v) (ge_q : n0 ≤ q) (ge_u : n0 ≤ u) (ge_v : n0 ≤ v) (hT : ∀ x y, FP.dcmp (T x) (T y) = some (compare (K x) (K y))) (hg : ∀ i, i < 1 → g i = T (a i)) (hl : ∀ i, i < 1 → l' i = Lp (a i)) (hi : HI K a 1) :
    Go p e below s ({ frames := 0, cells := 0, slots := 0, locals := 0 } : Room).cells ({ frames := 0, cells := 0, slots := 0, locals := 0 } : Room).slots (fun r h L => r = none ∧ Fr n0 L ∧ Keep h0 h [q, u, v] ∧ Exa Z h q "com/example/wavegrade/wavegrade/DepartureQueue" ∧ Fld Z h q "com/example/wavegrade/wavegrade/DepartureQueue" "size" "I" (.int (2 : Int32)) ∧ Fld Z h q "com/example/wavegrade/wavegrade/DepartureQueue" "times" "[D" (.ref u) ∧ Fld Z h q "com/example/wavegrade/wavegrade/DepartureQueue" "lightpaths" "[I" (.ref v) ∧ ∃ (g2 : Nat → UInt64) (l2 : Nat → Int32) (a2 : Nat → Nat), Dv Z h u (64 : Int32) g2 ∧ Iv Z h v (64 : Int32) l2 ∧ (∀ i, i < 2 → g2 i = T (a2 i)) ∧ (∀ i, i < 2 → l2 i = Lp (a2 i)) ∧ HI K a2 2 ∧ (∀ w : Nat → Int, sumA w a2 2 = sumA w a 1 + w lam) ∧ ∀ P : Nat → Prop, (∀ i, i < 1 → P (a i)) → P lam → ∀ i, i < 2 → P (a2 i)) T0 (mkF m 0 #[.val (.ref q), .val (.double (T lam)), .second, .val (.int (Lp lam)), .unset, .unset] []) := by
  have hg0 := hg 0 (by decide)
  have hl0 := hl 0 (by decide)
  simp only [HI] at hi
  show Go _ _ _ _ _ _ _ T0 (mkF m 0 #[.val (.ref q), .val (.double (T lam)), .second, .val (.int (Lp lam)), .unset, .unset] [])
  refine Go.step (fun _ k => XS.aloadN X0.here hx rfl (hb hby d4_0) rfl rfl k) ?_
  show Go _ _ _ _ _ _ _ T0 (mkF m 1 #[.val (.ref q), .val (.double (T lam)), .second, .val (.int (Lp lam)), .unset, .unset] [(.ref q)])
  obtain ⟨T1, X1, e1, st1⟩ := getF X0 hx hZ hown (host := "") (Or.inl (hw _ (List.mem_of_getElem? (i := 20) rfl))) Via.refl e0 F_size_q (g := (mkF m 1 #[.val (.ref q), .val (.double (T lam)), .second, .val (.int (Lp lam)), .unset, .unset] [(.ref q)])) rfl rfl (hb hby d4_1)
  refine Go.step st1 ?_
  show Go _ _ _ _ _ _ _ T1 (mkF m 4 #[.val (.ref q), .val (.double (T lam)), .second, .val (.int (Lp lam)), .unset, .unset] [(.int (1 : Int32))])
  refine Go.step (fun _ k => XS.aloadN X1.here hx rfl (hb hby d4_4) rfl rfl k) ?_
  show Go _ _ _ _ _ _ _ T1 (mkF m 5 #[.val (.ref q), .val (.double (T lam)), .second, .val (.int (Lp lam)), .unset, .unset] [(.ref q), (.int (1 : Int32))])
  obtain ⟨T2, X2, e2, st2⟩ := getF X1 hx hZ hown (host := "") (Or.inl (hw _ (List.mem_of_getElem? (i := 10) rfl))) Via.refl e1 F_times_q (g := (mkF m 5 #[.val (.ref q), .val (.double (T lam)), .second, .val (.int (Lp lam)), .unset, .unset] [(.ref q), (.int (1 : Int32))])) rfl rfl (hb hby d4_5)
  refine Go.step st2 ?_
  show Go _ _ _ _ _ _ _ T2 (mkF m 8 #[.val (.ref q), .val (.double (T lam)), .second, .val (.int (Lp lam)), .unset, .unset] [(.ref u), (.int (1 : Int32))])
  refine Go.alen X2 hx hZ e2 V_u (hb hby d4_8) ?_
  show Go _ _ _ _ _ _ _ T2 (mkF m 9 #[.val (.ref q), .val (.double (T lam)), .second, .val (.int (Lp lam)), .unset, .unset] [(.int (64 : Int32)), (.int (1 : Int32))])
  refine Go.step (fun _ k => XS.icmpYes X2.here hx rfl (pc0 := 9) (pc' := 46) rfl (hb hby d4_9) rfl (feq (by decide : ¬ ((1 : Int32) = (64 : Int32)))).2 (by decide) (by decide) k) ?_
  show Go _ _ _ _ _ _ _ T2 (mkF m 46 #[.val (.ref q), .val (.double (T lam)), .second, .val (.int (Lp lam)), .unset, .unset] [])
  refine Go.step (fun _ k => XS.aloadN X2.here hx rfl (hb hby d4_46) rfl rfl k) ?_
  show Go _ _ _ _ _ _ _ T2 (mkF m 47 #[.val (.ref q), .val (.double (T lam)), .second, .val (.int (Lp lam)), .unset, .unset] [(.ref q)])
  refine Go.step (fun _ k => XS.dup X2.here hx rfl (hb hby d4_47) rfl rfl k) ?_
  show Go _ _ _ _ _ _ _ T2 (mkF m 48 #[.val (.ref q), .val (.double (T lam)), .second, .val (.int (Lp lam)), .unset, .unset] [(.ref q), (.ref q)])
  obtain ⟨T3, X3, e3, st3⟩ := getF X2 hx hZ hown (host := "") (Or.inl (hw _ (List.mem_of_getElem? (i := 20) rfl))) Via.refl e2 F_size_q (g := (mkF m 48 #[.val (.ref q), .val (.double (T lam)), .second, .val (.int (Lp lam)), .unset, .unset] [(.ref q), (.ref q)])) rfl rfl (hb hby d4_48)
  refine Go.step st3 ?_
  show Go _ _ _ _ _ _ _ T3 (mkF m 51 #[.val (.ref q), .val (.double (T lam)), .second, .val (.int (Lp lam)), .unset, .unset] [(.int (1 : Int32)), (.ref q)])
  refine Go.step (fun _ k => XS.dupX1 X3.here hx rfl (hb hby d4_51) rfl rfl rfl k) ?_
  show Go _ _ _ _ _ _ _ T3 (mkF m 52 #[.val (.ref q), .val (.double (T lam)), .second, .val (.int (Lp lam)), .unset, .unset] [(.int (1 : Int32)), (.ref q), (.int (1 : Int32))])
  refine Go.step (fun _ k => XS.iconst X3.here hx rfl (hb hby d4_52) k) ?_
  show Go _ _ _ _ _ _ _ T3 (mkF m 53 #[.val (.ref q), .val (.double (T lam)), .second, .val (.int (Lp lam)), .unset, .unset] [(.int (1 : Int32)), (.int (1 : Int32)), (.ref q), (.int (1 : Int32))])
  refine Go.step (fun _ k => XS.iadd X3.here hx rfl (hb hby d4_53) rfl k) ?_
  show Go _ _ _ _ _ _ _ T3 (mkF m 54 #[.val (.ref q), .val (.double (T lam)), .second, .val (.int (Lp lam)), .unset, .unset] [(.int (2 : Int32)), (.ref q), (.int (1 : Int32))])
  obtain ⟨T4, h4, X4, e4, W4, st4⟩ := putF X3 hx hZ hown (host := "") (Or.inl (hw _ (List.mem_of_getElem? (i := 20) rfl))) Via.refl e3 F_size_q E_q (Or.inl (hw _ (List.mem_of_getElem? (i := 21) rfl))) (hw _ (List.mem_of_getElem? (i := 1) rfl)) (ty := .int) (by decide) rfl rfl (g := (mkF m 54 #[.val (.ref q), .val (.double (T lam)), .second, .val (.int (Lp lam)), .unset, .unset] [(.int (2 : Int32)), (.ref q), (.int (1 : Int32))])) rfl rfl (hb hby d4_54)
  refine Go.step st4 ?_
  have N4 := Fr.snoc X4 N0 ge_q
  have F_size_q_4 := F_size_q.same W4
  have E_q_4 := E_q.wr W4
  have F_times_q_4 := F_times_q.other W4 (Or.inr (slot_ne (Or.inl (hw _ (List.mem_of_getElem? (i := 11) rfl))) (Or.inl (hw _ (List.mem_of_getElem? (i := 21) rfl))) (by decide) (t := (.array .double)) (t' := .int) (by decide) (by decide)))
  have F_lightpaths_q_4 := F_lightpaths_q.other W4 (Or.inr (slot_ne (Or.inl (hw _ (List.mem_of_getElem? (i := 14) rfl))) (Or.inl (hw _ (List.mem_of_getElem? (i := 21) rfl))) (by decide) (t := (.array .int)) (t' := .int) (by decide) (by decide)))
  have V_u_4 := V_u.other W4 (Ne.symm ne_q_u)
  have V_v_4 := V_v.other W4 (Ne.symm ne_q_v)
  have K4 : Keep h0 h4 [q, u, v] := (Keep.refl h0 [q, u, v]).wr W4 (Or.inl (List.mem_of_getElem? (i := 0) rfl))
  show Go _ _ _ _ _ _ _ T4 (mkF m 57 #[.val (.ref q), .val (.double (T lam)), .second, .val (.int (Lp lam)), .unset, .unset] [(.int (1 : Int32))])
  refine Go.step (fun _ k => XS.istore X4.here hx rfl (hb hby d4_57) rfl (l' := #[.val (.ref q), .val (.double (T lam)), .second, .val (.int (Lp lam)), .val (.int (1 : Int32)), .unset]) rfl k) ?_
  show Go _ _ _ _ _ _ _ T4 (mkF m 59 #[.val (.ref q), .val (.double (T lam)), .second, .val (.int (Lp lam)), .val (.int (1 : Int32)), .unset] [])
  refine Go.step (fun _ k => XS.iload X4.here hx rfl (hb hby d4_59) rfl k) ?_
  show Go _ _ _ _ _ _ _ T4 (mkF m 61 #[.val (.ref q), .val (.double (T lam)), .second, .val (.int (Lp lam)), .val (.int (1 : Int32)), .unset] [(.int (1 : Int32))])
  refine Go.step (fun _ k => XS.ifNo X4.here hx rfl (hb hby d4_61) rfl ((if0 _ _).trans (tlt (by decide : (0 : Int32) < (1 : Int32))).2.2.2) k) ?_
  show Go _ _ _ _ _ _ _ T4 (mkF m 64 #[.val (.ref q), .val (.double (T lam)), .second, .val (.int (Lp lam)), .val (.int (1 : Int32)), .unset] [])
  refine Go.step (fun _ k => XS.aloadN X4.here hx rfl (hb hby d4_64) rfl rfl k) ?_
  show Go _ _ _ _ _ _ _ T4 (mkF m 65 #[.val (.ref q), .val (.double (T lam)), .second, .val (.int (Lp lam)), .val (.int (1 : Int32)), .unset] [(.ref q)])
  obtain ⟨T5, X5, e5, st5⟩ := getF X4 hx hZ hown (host := "") (Or.inl (hw _ (List.mem_of_getElem? (i := 10) rfl))) Via.refl e4 F_times_q_4 (g := (mkF m 65 #[.val (.ref q), .val (.double (T lam)), .second, .val (.int (Lp lam)), .val (.int (1 : Int32)), .unset] [(.ref q)])) rfl rfl (hb hby d4_65)
  refine Go.step st5 ?_
  show Go _ _ _ _ _ _ _ T5 (mkF m 68 #[.val (.ref q), .val (.double (T lam)), .second, .val (.int (Lp lam)), .val (.int (1 : Int32)), .unset] [(.ref u)])
  refine Go.step (fun _ k => XS.iload X5.here hx rfl (hb hby d4_68) rfl k) ?_
  show Go _ _ _ _ _ _ _ T5 (mkF m 70 #[.val (.ref q), .val (.double (T lam)), .second, .val (.int (Lp lam)), .val (.int (1 : Int32)), .unset] [(.int (1 : Int32)), (.ref u)])
  refine Go.step (fun _ k => XS.iconst X5.here hx rfl (hb hby d4_70) k) ?_
  show Go _ _ _ _ _ _ _ T5 (mkF m 71 #[.val (.ref q), .val (.double (T lam)), .second, .val (.int (Lp lam)), .val (.int (1 : Int32)), .unset] [(.int (1 : Int32)), (.int (1 : Int32)), (.ref u)])
  refine Go.step (fun _ k => XS.isub X5.here hx rfl (hb hby d4_71) rfl k) ?_
  show Go _ _ _ _ _ _ _ T5 (mkF m 72 #[.val (.ref q), .val (.double (T lam)), .second, .val (.int (Lp lam)), .val (.int (1 : Int32)), .unset] [(.int (0 : Int32)), (.ref u)])
  refine Go.step (fun _ k => XS.iconst X5.here hx rfl (hb hby d4_72) k) ?_
  show Go _ _ _ _ _ _ _ T5 (mkF m 73 #[.val (.ref q), .val (.double (T lam)), .second, .val (.int (Lp lam)), .val (.int (1 : Int32)), .unset] [(.int (2 : Int32)), (.int (0 : Int32)), (.ref u)])
  refine Go.step (fun _ k => XS.idiv X5.here hx rfl (hb hby d4_73) rfl (by decide) k) ?_
  show Go _ _ _ _ _ _ _ T5 (mkF m 74 #[.val (.ref q), .val (.double (T lam)), .second, .val (.int (Lp lam)), .val (.int (1 : Int32)), .unset] [(.int (0 : Int32)), (.ref u)])
  refine Go.daload X5 hx hZ e5 V_u_4 (j := (0 : Int32)) (v := (T (a 0))) (by decide) (by first | rfl | simp [updN, hg0, hl0]) (hb hby d4_74) ?_
  show Go _ _ _ _ _ _ _ T5 (mkF m 75 #[.val (.ref q), .val (.double (T lam)), .second, .val (.int (Lp lam)), .val (.int (1 : Int32)), .unset] [(.double (T (a 0)))])
  refine Go.step (fun _ k => XS.dloadN X5.here hx rfl (hb hby d4_75) rfl k) ?_
  show Go _ _ _ _ _ _ _ T5 (mkF m 76 #[.val (.ref q), .val (.double (T lam)), .second, .val (.int (Lp lam)), .val (.int (1 : Int32)), .unset] [(.double (T lam)), (.double (T (a 0)))])
  refine Go.step (fun _ k => XS.dcmpS X5.here hx rfl (hb hby d4_76) rfl rfl k) ?_
  show Go _ _ _ _ _ _ _ T5 (mkF m 77 #[.val (.ref q), .val (.double (T lam)), .second, .val (.int (Lp lam)), .val (.int (1 : Int32)), .unset] [(.int (cmpValue (FP.dcmp (T (a 0)) (T lam)) .l))])
  by_cases hd77_6 : FP.dcmp (T (a 0)) (T lam) = some .gt
  · refine Go.step (fun _ k => XS.ifNo X5.here hx rfl (hb hby d4_77) rfl (gt_y hd77_6) k) ?_
    show Go _ _ _ _ _ _ _ T5 (mkF m 80 #[.val (.ref q), .val (.double (T lam)), .second, .val (.int (Lp lam)), .val (.int (1 : Int32)), .unset] [])
    refine Go.step (fun _ k => XS.iload X5.here hx rfl (hb hby d4_80) rfl k) ?_
    show Go _ _ _ _ _ _ _ T5 (mkF m 82 #[.val (.ref q), .val (.double (T lam)), .second, .val (.int (Lp lam)), .val (.int (1 : Int32)), .unset] [(.int (1 : Int32))])
    refine Go.step (fun _ k => XS.iconst X5.here hx rfl (hb hby d4_82) k) ?_
    show Go _ _ _ _ _ _ _ T5 (mkF m 83 #[.val (.ref q), .val (.double (T lam)), .second, .val (.int (Lp lam)), .val (.int (1 : Int32)), .unset] [(.int (1 : Int32)), (.int (1 : Int32))])
    refine Go.step (fun _ k => XS.isub X5.here hx rfl (hb hby d4_83) rfl k) ?_
    show Go _ _ _ _ _ _ _ T5 (mkF m 84 #[.val (.ref q), .val (.double (T lam)), .second, .val (.int (Lp lam)), .val (.int (1 : Int32)), .unset] [(.int (0 : Int32))])
    refine Go.step (fun _ k => XS.iconst X5.here hx rfl (hb hby d4_84) k) ?_
    show Go _ _ _ _ _ _ _ T5 (mkF m 85 #[.val (.ref q), .val (.double (T lam)), .second, .val (.int (Lp lam)), .val (.int (1 : Int32)), .unset] [(.int (2 : Int32)), (.int (0 : Int32))])
    refine Go.step (fun _ k => XS.idiv X5.here hx rfl (hb hby d4_85) rfl (by decide) k) ?_
    show Go _ _ _ _ _ _ _ T5 (mkF m 86 #[.val (.ref q), .val (.double (T lam)), .second, .val (.int (Lp lam)), .val (.int (1 : Int32)), .unset] [(.int (0 : Int32))])
    refine Go.step (fun _ k => XS.istore X5.here hx rfl (hb hby d4_86) rfl (l' := #[.val (.ref q), .val (.double (T lam)), .second, .val (.int (Lp lam)), .val (.int (1 : Int32)), .val (.int (0 : Int32))]) rfl k) ?_
    show Go _ _ _ _ _ _ _ T5 (mkF m 88 #[.val (.ref q), .val (.double (T lam)), .second, .val (.int (Lp lam)), .val (.int (1 : Int32)), .val (.int (0 : Int32))] [])
    refine Go.step (fun _ k => XS.aloadN X5.here hx rfl (hb hby d4_88) rfl rfl k) ?_
    show Go _ _ _ _ _ _ _ T5 (mkF m 89 #[.val (.ref q), .val (.double (T lam)), .second, .val (.int (Lp lam)), .val (.int (1 : Int32)), .val (.int (0 : Int32))] [(.ref q)])
    obtain ⟨T7, X7, e7, st7⟩ := getF X5 hx hZ hown (host := "") (Or.inl (hw _ (List.mem_of_getElem? (i := 10) rfl))) Via.refl e5 F_times_q_4 (g := (mkF m 89 #[.val (.ref q), .val (.double (T lam)), .second, .val (.int (Lp lam)), .val (.int (1 : Int32)), .val (.int (0 : Int32))] [(.ref q)])) rfl rfl (hb hby d4_89)
    refine Go.step st7 ?_
    show Go _ _ _ _ _ _ _ T7 (mkF m 92 #[.val (.ref q), .val (.double (T lam)), .second, .val (.int (Lp lam)), .val (.int (1 : Int32)), .val (.int (0 : Int32))] [(.ref u)])
    refine Go.step (fun _ k => XS.iload X7.here hx rfl (hb hby d4_92) rfl k) ?_
    show Go _ _ _ _ _ _ _ T7 (mkF m 94 #[.val (.ref q), .val (.double (T lam)), .second, .val (.int (Lp lam)), .val (.int (1 : Int32)), .val (.int (0 : Int32))] [(.int (1 : Int32)), (.ref u)])
    refine Go.step (fun _ k => XS.aloadN X7.here hx rfl (hb hby d4_94) rfl rfl k) ?_
    show Go _ _ _ _ _ _ _ T7 (mkF m 95 #[.val (.ref q), .val (.double (T lam)), .second, .val (.int (Lp lam)), .val (.int (1 : Int32)), .val (.int (0 : Int32))] [(.ref q), (.int (1 : Int32)), (.ref u)])
    obtain ⟨T8, X8, e8, st8⟩ := getF X7 hx hZ hown (host := "") (Or.inl (hw _ (List.mem_of_getElem? (i := 10) rfl))) Via.refl e7 F_times_q_4 (g := (mkF m 95 #[.val (.ref q), .val (.double (T lam)), .second, .val (.int (Lp lam)), .val (.int (1 : Int32)), .val (.int (0 : Int32))] [(.ref q), (.int (1 : Int32)), (.ref u)])) rfl rfl (hb hby d4_95)
    refine Go.step st8 ?_
    show Go _ _ _ _ _ _ _ T8 (mkF m 98 #[.val (.ref q), .val (.double (T lam)), .second, .val (.int (Lp lam)), .val (.int (1 : Int32)), .val (.int (0 : Int32))] [(.ref u), (.int (1 : Int32)), (.ref u)])
    refine Go.step (fun _ k => XS.iload X8.here hx rfl (hb hby d4_98) rfl k) ?_
    show Go _ _ _ _ _ _ _ T8 (mkF m 100 #[.val (.ref q), .val (.double (T lam)), .second, .val (.int (Lp lam)), .val (.int (1 : Int32)), .val (.int (0 : Int32))] [(.int (0 : Int32)), (.ref u), (.int (1 : Int32)), (.ref u)])
    refine Go.daload X8 hx hZ e8 V_u_4 (j := (0 : Int32)) (v := (T (a 0))) (by decide) (by first | rfl | simp [updN, hg0, hl0]) (hb hby d4_100) ?_
    show Go _ _ _ _ _ _ _ T8 (mkF m 101 #[.val (.ref q), .val (.double (T lam)), .second, .val (.int (Lp lam)), .val (.int (1 : Int32)), .val (.int (0 : Int32))] [(.double (T (a 0))), (.int (1 : Int32)), (.ref u)])
    refine Go.dastore X8 hx hZ e8 V_u_4 (j := (1 : Int32)) (x := (T (a 0))) (by decide) (hb hby d4_101) ?_
    intro T9 h9 X9 e9 W9 Vn9
    have V_u_9 : Dv Z h9 u (64 : Int32) (updN g 1 (T (a 0))) := Vn9
    have N9 := Fr.snoc X9 N4 ge_u
    have E_q_9 := E_q_4.wr W9
    have F_size_q_9 := F_size_q_4.other W9 (Or.inl ne_q_u)
    have F_times_q_9 := F_times_q_4.other W9 (Or.inl ne_q_u)
    have F_lightpaths_q_9 := F_lightpaths_q_4.other W9 (Or.inl ne_q_u)
    have V_v_9 := V_v_4.other W9 (Ne.symm ne_u_v)
    have K9 : Keep h0 h9 [q, u, v] := K4.wr W9 (Or.inl (List.mem_of_getElem? (i := 1) rfl))
    show Go _ _ _ _ _ _ _ T9 (mkF m 102 #[.val (.ref q), .val (.double (T lam)), .second, .val (.int (Lp lam)), .val (.int (1 : Int32)), .val (.int (0 : Int32))] [])
    refine Go.step (fun _ k => XS.aloadN X9.here hx rfl (hb hby d4_102) rfl rfl k) ?_
    show Go _ _ _ _ _ _ _ T9 (mkF m 103 #[.val (.ref q), .val (.double (T lam)), .second, .val (.int (Lp lam)), .val (.int (1 : Int32)), .val (.int (0 : Int32))] [(.ref q)])
    obtain ⟨T10, X10, e10, st10⟩ := getF X9 hx hZ hown (host := "") (Or.inl (hw _ (List.mem_of_getElem? (i := 13) rfl))) Via.refl e9 F_lightpaths_q_9 (g := (mkF m 103 #[.val (.ref q), .val (.double (T lam)), .second, .val (.int (Lp lam)), .val (.int (1 : Int32)), .val (.int (0 : Int32))] [(.ref q)])) rfl rfl (hb hby d4_103)
    refine Go.step st10 ?_
    show Go _ _ _ _ _ _ _ T10 (mkF m 106 #[.val (.ref q), .val (.double (T lam)), .second, .val (.int (Lp lam)), .val (.int (1 : Int32)), .val (.int (0 : Int32))] [(.ref v)])
    refine Go.step (fun _ k => XS.iload X10.here hx rfl (hb hby d4_106) rfl k) ?_
    show Go _ _ _ _ _ _ _ T10 (mkF m 108 #[.val (.ref q), .val (.double (T lam)), .second, .val (.int (Lp lam)), .val (.int (1 : Int32)), .val (.int (0 : Int32))] [(.int (1 : Int32)), (.ref v)])
    refine Go.step (fun _ k => XS.aloadN X10.here hx rfl (hb hby d4_108) rfl rfl k) ?_
    show Go _ _ _ _ _ _ _ T10 (mkF m 109 #[.val (.ref q), .val (.double (T lam)), .second, .val (.int (Lp lam)), .val (.int (1 : Int32)), .val (.int (0 : Int32))] [(.ref q), (.int (1 : Int32)), (.ref v)])
    obtain ⟨T11, X11, e11, st11⟩ := getF X10 hx hZ hown (host := "") (Or.inl (hw _ (List.mem_of_getElem? (i := 13) rfl))) Via.refl e10 F_lightpaths_q_9 (g := (mkF m 109 #[.val (.ref q), .val (.double (T lam)), .second, .val (.int (Lp lam)), .val (.int (1 : Int32)), .val (.int (0 : Int32))] [(.ref q), (.int (1 : Int32)), (.ref v)])) rfl rfl (hb hby d4_109)
    refine Go.step st11 ?_
    show Go _ _ _ _ _ _ _ T11 (mkF m 112 #[.val (.ref q), .val (.double (T lam)), .second, .val (.int (Lp lam)), .val (.int (1 : Int32)), .val (.int (0 : Int32))] [(.ref v), (.int (1 : Int32)), (.ref v)])
    refine Go.step (fun _ k => XS.iload X11.here hx rfl (hb hby d4_112) rfl k) ?_
    show Go _ _ _ _ _ _ _ T11 (mkF m 114 #[.val (.ref q), .val (.double (T lam)), .second, .val (.int (Lp lam)), .val (.int (1 : Int32)), .val (.int (0 : Int32))] [(.int (0 : Int32)), (.ref v), (.int (1 : Int32)), (.ref v)])
    refine Go.iaload X11 hx hZ e11 V_v_9 (j := (0 : Int32)) (v := (Lp (a 0))) (by decide) (by first | rfl | simp [updN, hg0, hl0]) (hb hby d4_114) ?_
    show Go _ _ _ _ _ _ _ T11 (mkF m 115 #[.val (.ref q), .val (.double (T lam)), .second, .val (.int (Lp lam)), .val (.int (1 : Int32)), .val (.int (0 : Int32))] [(.int (Lp (a 0))), (.int (1 : Int32)), (.ref v)])
    refine Go.iastore X11 hx hZ e11 V_v_9 (j := (1 : Int32)) (x := (Lp (a 0))) (by decide) (hb hby d4_115) ?_
    intro T12 h12 X12 e12 W12 Vn12
    have V_v_12 : Iv Z h12 v (64 : Int32) (updN l' 1 (Lp (a 0))) := Vn12
    have N12 := Fr.snoc X12 N9 ge_v
    have E_q_12 := E_q_9.wr W12
    have F_size_q_12 := F_size_q_9.other W12 (Or.inl ne_q_v)
    have F_times_q_12 := F_times_q_9.other W12 (Or.inl ne_q_v)
    have F_lightpaths_q_12 := F_lightpaths_q_9.other W12 (Or.inl ne_q_v)
    have V_u_12 := V_u_9.other W12 ne_u_v
    have K12 : Keep h0 h12 [q, u, v] := K9.wr W12 (Or.inl (List.mem_of_getElem? (i := 2) rfl))
    show Go _ _ _ _ _ _ _ T12 (mkF m 116 #[.val (.ref q), .val (.double (T lam)), .second, .val (.int (Lp lam)), .val (.int (1 : Int32)), .val (.int (0 : Int32))] [])
    refine Go.step (fun _ k => XS.iload X12.here hx rfl (hb hby d4_116) rfl k) ?_
    show Go _ _ _ _ _ _ _ T12 (mkF m 118 #[.val (.ref q), .val (.double (T lam)), .second, .val (.int (Lp lam)), .val (.int (1 : Int32)), .val (.int (0 : Int32))] [(.int (0 : Int32))])
    refine Go.step (fun _ k => XS.istore X12.here hx rfl (hb hby d4_118) rfl (l' := #[.val (.ref q), .val (.double (T lam)), .second, .val (.int (Lp lam)), .val (.int (0 : Int32)), .val (.int (0 : Int32))]) rfl k) ?_
    show Go _ _ _ _ _ _ _ T12 (mkF m 120 #[.val (.ref q), .val (.double (T lam)), .second, .val (.int (Lp lam)), .val (.int (0 : Int32)), .val (.int (0 : Int32))] [])
    refine Go.step (fun _ k => XS.goto X12.here hx rfl (pc0 := 120) (pc' := 59) rfl (hb hby d4_120) (by decide) (by decide) k) ?_
    show Go _ _ _ _ _ _ _ T12 (mkF m 59 #[.val (.ref q), .val (.double (T lam)), .second, .val (.int (Lp lam)), .val (.int (0 : Int32)), .val (.int (0 : Int32))] [])
    refine Go.step (fun _ k => XS.iload X12.here hx rfl (hb hby d4_59) rfl k) ?_
    show Go _ _ _ _ _ _ _ T12 (mkF m 61 #[.val (.ref q), .val (.double (T lam)), .second, .val (.int (Lp lam)), .val (.int (0 : Int32)), .val (.int (0 : Int32))] [(.int (0 : Int32))])
    refine Go.step (fun _ k => XS.ifYes X12.here hx rfl (pc0 := 61) (pc' := 123) rfl (hb hby d4_61) rfl ((if0 _ _).trans (flt (by decide : ¬ ((0 : Int32) < (0 : Int32)))).2.2.2) (by decide) (by decide) k) ?_
    show Go _ _ _ _ _ _ _ T12 (mkF m 123 #[.val (.ref q), .val (.double (T lam)), .second, .val (.int (Lp lam)), .val (.int (0 : Int32)), .val (.int (0 : Int32))] [])
    refine Go.step (fun _ k => XS.aloadN X12.here hx rfl (hb hby d4_123) rfl rfl k) ?_
    show Go _ _ _ _ _ _ _ T12 (mkF m 124 #[.val (.ref q), .val (.double (T lam)), .second, .val (.int (Lp lam)), .val (.int (0 : Int32)), .val (.int (0 : Int32))] [(.ref q)])
    obtain ⟨T13, X13, e13, st13⟩ := getF X12 hx hZ hown (host := "") (Or.inl (hw _ (List.mem_of_getElem? (i := 10) rfl))) Via.refl e12 F_times_q_12 (g := (mkF m 124 #[.val (.ref q), .val (.double (T lam)), .second, .val (.int (Lp lam)), .val (.int (0 : Int32)), .val (.int (0 : Int32))] [(.ref q)])) rfl rfl (hb hby d4_124)
    refine Go.step st13 ?_
    show Go _ _ _ _ _ _ _ T13 (mkF m 127 #[.val (.ref q), .val (.double (T lam)), .second, .val (.int (Lp lam)), .val (.int (0 : Int32)), .val (.int (0 : Int32))] [(.ref u)])
    refine Go.step (fun _ k => XS.iload X13.here hx rfl (hb hby d4_127) rfl k) ?_
    show Go _ _ _ _ _ _ _ T13 (mkF m 129 #[.val (.ref q), .val (.double (T lam)), .second, .val (.int (Lp lam)), .val (.int (0 : Int32)), .val (.int (0 : Int32))] [(.int (0 : Int32)), (.ref u)])
    refine Go.step (fun _ k => XS.dloadN X13.here hx rfl (hb hby d4_129) rfl k) ?_
    show Go _ _ _ _ _ _ _ T13 (mkF m 130 #[.val (.ref q), .val (.double (T lam)), .second, .val (.int (Lp lam)), .val (.int (0 : Int32)), .val (.int (0 : Int32))] [(.double (T lam)), (.int (0 : Int32)), (.ref u)])
    refine Go.dastore X13 hx hZ e13 V_u_12 (j := (0 : Int32)) (x := (T lam)) (by decide) (hb hby d4_130) ?_
    intro T14 h14 X14 e14 W14 Vn14
    have V_u_14 : Dv Z h14 u (64 : Int32) (updN (updN g 1 (T (a 0))) 0 (T lam)) := Vn14
    have N14 := Fr.snoc X14 N12 ge_u
    have E_q_14 := E_q_12.wr W14
    have F_size_q_14 := F_size_q_12.other W14 (Or.inl ne_q_u)
    have F_times_q_14 := F_times_q_12.other W14 (Or.inl ne_q_u)
    have F_lightpaths_q_14 := F_lightpaths_q_12.other W14 (Or.inl ne_q_u)
    have V_v_14 := V_v_12.other W14 (Ne.symm ne_u_v)
    have K14 : Keep h0 h14 [q, u, v] := K12.wr W14 (Or.inl (List.mem_of_getElem? (i := 1) rfl))
    show Go _ _ _ _ _ _ _ T14 (mkF m 131 #[.val (.ref q), .val (.double (T lam)), .second, .val (.int (Lp lam)), .val (.int (0 : Int32)), .val (.int (0 : Int32))] [])
    refine Go.step (fun _ k => XS.aloadN X14.here hx rfl (hb hby d4_131) rfl rfl k) ?_
    show Go _ _ _ _ _ _ _ T14 (mkF m 132 #[.val (.ref q), .val (.double (T lam)), .second, .val (.int (Lp lam)), .val (.int (0 : Int32)), .val (.int (0 : Int32))] [(.ref q)])
    obtain ⟨T15, X15, e15, st15⟩ := getF X14 hx hZ hown (host := "") (Or.inl (hw _ (List.mem_of_getElem? (i := 13) rfl))) Via.refl e14 F_lightpaths_q_14 (g := (mkF m 132 #[.val (.ref q), .val (.double (T lam)), .second, .val (.int (Lp lam)), .val (.int (0 : Int32)), .val (.int (0 : Int32))] [(.ref q)])) rfl rfl (hb hby d4_132)
    refine Go.step st15 ?_
    show Go _ _ _ _ _ _ _ T15 (mkF m 135 #[.val (.ref q), .val (.double (T lam)), .second, .val (.int (Lp lam)), .val (.int (0 : Int32)), .val (.int (0 : Int32))] [(.ref v)])
    refine Go.step (fun _ k => XS.iload X15.here hx rfl (hb hby d4_135) rfl k) ?_
    show Go _ _ _ _ _ _ _ T15 (mkF m 137 #[.val (.ref q), .val (.double (T lam)), .second, .val (.int (Lp lam)), .val (.int (0 : Int32)), .val (.int (0 : Int32))] [(.int (0 : Int32)), (.ref v)])
    refine Go.step (fun _ k => XS.iloadN X15.here hx rfl (hb hby d4_137) rfl k) ?_
    show Go _ _ _ _ _ _ _ T15 (mkF m 138 #[.val (.ref q), .val (.double (T lam)), .second, .val (.int (Lp lam)), .val (.int (0 : Int32)), .val (.int (0 : Int32))] [(.int (Lp lam)), (.int (0 : Int32)), (.ref v)])
    refine Go.iastore X15 hx hZ e15 V_v_14 (j := (0 : Int32)) (x := (Lp lam)) (by decide) (hb hby d4_138) ?_
    intro T16 h16 X16 e16 W16 Vn16
    have V_v_16 : Iv Z h16 v (64 : Int32) (updN (updN l' 1 (Lp (a 0))) 0 (Lp lam)) := Vn16
    have N16 := Fr.snoc X16 N14 ge_v
    have E_q_16 := E_q_14.wr W16
    have F_size_q_16 := F_size_q_14.other W16 (Or.inl ne_q_v)
    have F_times_q_16 := F_times_q_14.other W16 (Or.inl ne_q_v)
    have F_lightpaths_q_16 := F_lightpaths_q_14.other W16 (Or.inl ne_q_v)
    have V_u_16 := V_u_14.other W16 ne_u_v
    have K16 : Keep h0 h16 [q, u, v] := K14.wr W16 (Or.inl (List.mem_of_getElem? (i := 2) rfl))
    show Go _ _ _ _ _ _ _ T16 (mkF m 139 #[.val (.ref q), .val (.double (T lam)), .second, .val (.int (Lp lam)), .val (.int (0 : Int32)), .val (.int (0 : Int32))] [])
    refine Go.retV X16 hx hlk hret (hb hby d4_139) (by decide) (by decide) ?_
    try rw [e16]
    have := own_gtK hT hd77_6
    refine ⟨rfl, N16, K16, E_q_16, F_size_q_16, F_times_q_16, F_lightpaths_q_16, _, _, (updN (updN a 1 (a 0)) 0 lam), V_u_16, V_v_16, fun i hi' => by rcases (by omega : i = 0 ∨ i = 1) with rfl | rfl <;> first | rfl | simp [updN, hg0, hl0], fun i hi' => by rcases (by omega : i = 0 ∨ i = 1) with rfl | rfl <;> first | rfl | simp [updN, hg0, hl0], ?_, ?_, fun P hP hP' => ?_⟩
    · simp only [HI, updN]; try simp; try omega
    · intro w; simp [sumA, updN]; try omega
    · intro i hi'; rcases (by omega : i = 0 ∨ i = 1) with rfl | rfl <;> simp [updN] <;> first | exact hP' | exact hP _ (by decide)
  · refine Go.step (fun _ k => XS.ifYes X5.here hx rfl (pc0 := 77) (pc' := 123) rfl (hb hby d4_77) rfl (gt_n hd77_6) (by decide) (by decide) k) ?_
    show Go _ _ _ _ _ _ _ T5 (mkF m 123 #[.val (.ref q), .val (.double (T lam)), .second, .val (.int (Lp lam)), .val (.int (1 : Int32)), .unset] [])
    refine Go.step (fun _ k => XS.aloadN X5.here hx rfl (hb hby d4_123) rfl rfl k) ?_
    show Go _ _ _ _ _ _ _ T5 (mkF m 124 #[.val (.ref q), .val (.double (T lam)), .second, .val (.int (Lp lam)), .val (.int (1 : Int32)), .unset] [(.ref q)])
    obtain ⟨T17, X17, e17, st17⟩ := getF X5 hx hZ hown (host := "") (Or.inl (hw _ (List.mem_of_getElem? (i := 10) rfl))) Via.refl e5 F_times_q_4 (g := (mkF m 124 #[.val (.ref q), .val (.double (T lam)), .second, .val (.int (Lp lam)), .val (.int (1 : Int32)), .unset] [(.ref q)])) rfl rfl (hb hby d4_124)
    refine Go.step st17 ?_
    show Go _ _ _ _ _ _ _ T17 (mkF m 127 #[.val (.ref q), .val (.double (T lam)), .second, .val (.int (Lp lam)), .val (.int (1 : Int32)), .unset] [(.ref u)])
    refine Go.step (fun _ k => XS.iload X17.here hx rfl (hb hby d4_127) rfl k) ?_
    show Go _ _ _ _ _ _ _ T17 (mkF m 129 #[.val (.ref q), .val (.double (T lam)), .second, .val (.int (Lp lam)), .val (.int (1 : Int32)), .unset] [(.int (1 : Int32)), (.ref u)])
    refine Go.step (fun _ k => XS.dloadN X17.here hx rfl (hb hby d4_129) rfl k) ?_
    show Go _ _ _ _ _ _ _ T17 (mkF m 130 #[.val (.ref q), .val (.double (T lam)), .second, .val (.int (Lp lam)), .val (.int (1 : Int32)), .unset] [(.double (T lam)), (.int (1 : Int32)), (.ref u)])
    refine Go.dastore X17 hx hZ e17 V_u_4 (j := (1 : Int32)) (x := (T lam)) (by decide) (hb hby d4_130) ?_
    intro T18 h18 X18 e18 W18 Vn18
    have V_u_18 : Dv Z h18 u (64 : Int32) (updN g 1 (T lam)) := Vn18
    have N18 := Fr.snoc X18 N4 ge_u
    have E_q_18 := E_q_4.wr W18
    have F_size_q_18 := F_size_q_4.other W18 (Or.inl ne_q_u)
    have F_times_q_18 := F_times_q_4.other W18 (Or.inl ne_q_u)
    have F_lightpaths_q_18 := F_lightpaths_q_4.other W18 (Or.inl ne_q_u)
    have V_v_18 := V_v_4.other W18 (Ne.symm ne_u_v)
    have K18 : Keep h0 h18 [q, u, v] := K4.wr W18 (Or.inl (List.mem_of_getElem? (i := 1) rfl))
    show Go _ _ _ _ _ _ _ T18 (mkF m 131 #[.val (.ref q), .val (.double (T lam)), .second, .val (.int (Lp lam)), .val (.int (1 : Int32)), .unset] [])
    refine Go.step (fun _ k => XS.aloadN X18.here hx rfl (hb hby d4_131) rfl rfl k) ?_
    show Go _ _ _ _ _ _ _ T18 (mkF m 132 #[.val (.ref q), .val (.double (T lam)), .second, .val (.int (Lp lam)), .val (.int (1 : Int32)), .unset] [(.ref q)])
    obtain ⟨T19, X19, e19, st19⟩ := getF X18 hx hZ hown (host := "") (Or.inl (hw _ (List.mem_of_getElem? (i := 13) rfl))) Via.refl e18 F_lightpaths_q_18 (g := (mkF m 132 #[.val (.ref q), .val (.double (T lam)), .second, .val (.int (Lp lam)), .val (.int (1 : Int32)), .unset] [(.ref q)])) rfl rfl (hb hby d4_132)
    refine Go.step st19 ?_
    show Go _ _ _ _ _ _ _ T19 (mkF m 135 #[.val (.ref q), .val (.double (T lam)), .second, .val (.int (Lp lam)), .val (.int (1 : Int32)), .unset] [(.ref v)])
    refine Go.step (fun _ k => XS.iload X19.here hx rfl (hb hby d4_135) rfl k) ?_
    show Go _ _ _ _ _ _ _ T19 (mkF m 137 #[.val (.ref q), .val (.double (T lam)), .second, .val (.int (Lp lam)), .val (.int (1 : Int32)), .unset] [(.int (1 : Int32)), (.ref v)])
    refine Go.step (fun _ k => XS.iloadN X19.here hx rfl (hb hby d4_137) rfl k) ?_
    show Go _ _ _ _ _ _ _ T19 (mkF m 138 #[.val (.ref q), .val (.double (T lam)), .second, .val (.int (Lp lam)), .val (.int (1 : Int32)), .unset] [(.int (Lp lam)), (.int (1 : Int32)), (.ref v)])
    refine Go.iastore X19 hx hZ e19 V_v_18 (j := (1 : Int32)) (x := (Lp lam)) (by decide) (hb hby d4_138) ?_
    intro T20 h20 X20 e20 W20 Vn20
    have V_v_20 : Iv Z h20 v (64 : Int32) (updN l' 1 (Lp lam)) := Vn20
    have N20 := Fr.snoc X20 N18 ge_v
    have E_q_20 := E_q_18.wr W20
    have F_size_q_20 := F_size_q_18.other W20 (Or.inl ne_q_v)
    have F_times_q_20 := F_times_q_18.other W20 (Or.inl ne_q_v)
    have F_lightpaths_q_20 := F_lightpaths_q_18.other W20 (Or.inl ne_q_v)
    have V_u_20 := V_u_18.other W20 ne_u_v
    have K20 : Keep h0 h20 [q, u, v] := K18.wr W20 (Or.inl (List.mem_of_getElem? (i := 2) rfl))
    show Go _ _ _ _ _ _ _ T20 (mkF m 139 #[.val (.ref q), .val (.double (T lam)), .second, .val (.int (Lp lam)), .val (.int (1 : Int32)), .unset] [])
    refine Go.retV X20 hx hlk hret (hb hby d4_139) (by decide) (by decide) ?_
    try rw [e20]
    have := own_ngtK hT hd77_6
    refine ⟨rfl, N20, K20, E_q_20, F_size_q_20, F_times_q_20, F_lightpaths_q_20, _, _, (updN a 1 lam), V_u_20, V_v_20, fun i hi' => by rcases (by omega : i = 0 ∨ i = 1) with rfl | rfl <;> first | rfl | simp [updN, hg0, hl0], fun i hi' => by rcases (by omega : i = 0 ∨ i = 1) with rfl | rfl <;> first | rfl | simp [updN, hg0, hl0], ?_, ?_, fun P hP hP' => ?_⟩
    · simp only [HI, updN]; try simp; try omega
    · intro w; simp [sumA, updN]; try omega
    · intro i hi'; rcases (by omega : i = 0 ∨ i = 1) with rfl | rfl <;> simp [updN] <;> first | exact hP' | exact hP _ (by decide)
theorem ef_rm_add1 (m : MethodId) (q : Addr) (T : Nat → UInt64) (Lp : Nat → Int32) (lam : Nat) : entryFrame m #[(.ref q), (.double (T lam)), (.int (Lp lam))] 6 = mkF m 0 #[.val (.ref q), .val (.double (T lam)), .second, .val (.int (Lp lam)), .unset, .unset] [] := by first | (simp [entryFrame, mkF, argsToLocals, Value.category]; done) | rfl
theorem rm_add1 (l : Launch) (Z : State) (a0 : Array Value) (hw : ∀ d ∈ tables_1, d.before a0 Z = true) (q u v : Addr) (g : Nat → UInt64) (l' : Nat → Int32) (T : Nat → UInt64) (Lp : Nat → Int32) (K : Nat → Int) (a : Nat → Nat) (lam : Nat) (h0 : Heap) (n0 : Nat) (Z0 : n0 ≤ h0.size) (E_q : Exa Z h0 q "com/example/wavegrade/wavegrade/DepartureQueue") (F_size_q : Fld Z h0 q "com/example/wavegrade/wavegrade/DepartureQueue" "size" "I" (.int (1 : Int32))) (F_times_q : Fld Z h0 q "com/example/wavegrade/wavegrade/DepartureQueue" "times" "[D" (.ref u)) (F_lightpaths_q : Fld Z h0 q "com/example/wavegrade/wavegrade/DepartureQueue" "lightpaths" "[I" (.ref v)) (V_u : Dv Z h0 u (64 : Int32) g) (V_v : Iv Z h0 v (64 : Int32) l') (ne_q_u : q ≠ u) (ne_q_v : q ≠ v) (ne_u_v : u ≠ v) (ge_q : n0 ≤ q) (ge_u : n0 ≤ u) (ge_v : n0 ≤ v) (hT : ∀ x y, FP.dcmp (T x) (T y) = some (compare (K x) (K y))) (hg : ∀ i, i < 1 → g i = T (a i)) (hl : ∀ i, i < 1 → l' i = Lp (a i)) (hi : HI K a 1) :
    Con l Z (⟨"com/example/wavegrade/wavegrade/DepartureQueue", "add", "(DI)V"⟩ : MethodName) prog_1_method_4_code 6 none ({ frames := 0, cells := 0, slots := 0, locals := 0 } : Room) #[(.ref q), (.double (T lam)), (.int (Lp lam))] h0 (fun r h L => r = none ∧ Fr n0 L ∧ Keep h0 h [q, u, v] ∧ Exa Z h q "com/example/wavegrade/wavegrade/DepartureQueue" ∧ Fld Z h q "com/example/wavegrade/wavegrade/DepartureQueue" "size" "I" (.int (2 : Int32)) ∧ Fld Z h q "com/example/wavegrade/wavegrade/DepartureQueue" "times" "[D" (.ref u) ∧ Fld Z h q "com/example/wavegrade/wavegrade/DepartureQueue" "lightpaths" "[I" (.ref v) ∧ ∃ (g2 : Nat → UInt64) (l2 : Nat → Int32) (a2 : Nat → Nat), Dv Z h u (64 : Int32) g2 ∧ Iv Z h v (64 : Int32) l2 ∧ (∀ i, i < 2 → g2 i = T (a2 i)) ∧ (∀ i, i < 2 → l2 i = Lp (a2 i)) ∧ HI K a2 2 ∧ (∀ w : Nat → Int, sumA w a2 2 = sumA w a 1 + w lam) ∧ ∀ P : Nat → Prop, (∀ i, i < 1 → P (a i)) → P lam → ∀ i, i < 2 → P (a2 i)) :=
  con_of (plainFor_of_name pn_1) (fun p_ e_ s_ m_ b_ meth_ c_ T_ X_ hx hZ hby hml hown hnm hret hlk e0 => Go.cast (ef_rm_add1 m_ q T Lp lam) (w_add1 q u v g l' T Lp K a lam X_ hx hZ hw hby hml hown hnm hret hlk e0 Z0 (Fr.nil n0) E_q F_size_q F_times_q F_lightpaths_q V_u V_v ne_q_u ne_q_v ne_u_v ge_q ge_u ge_v hT hg hl hi))
set_option maxRecDepth 65536 in
set_option maxHeartbeats 40000000 in
theorem w_add2 {p : Program} {l : Launch} {e : Env} {s : State} {m : MethodId} {args : Array Value} {below : List Frame} {meth : Method} {c_ : Code} {T0 : State} {locs : List Loc} {Z : State} {a0 : Array Value} {h0 : Heap} {n0 : Nat} (q u v : Addr) (g : Nat → UInt64) (l' : Nat → Int32) (T : Nat → UInt64) (Lp : Nat → Int32) (K : Nat → Int) (a : Nat → Nat) (lam : Nat)
    (X0 : Stand p l e ({ frames := 0, cells := 0, slots := 0, locals := 0 } : Room) s m args below meth c_ T0 locs 0 0) (hx : p.tables.exec = Jvm.exec) (hZ : Z.Warmed39 s.vm) (hw : ∀ d ∈ tables_1, d.before a0 Z = true) (hby : c_.code = prog_1_method_4_code) (hml : c_.maxLocals = 6) (hown : s.vm.findClass "com/example/wavegrade/wavegrade/DepartureQueue" = some m.cls) (hnm : meth.name = "add") (hret : meth.sig.returnType = none) (hlk : meth.locks = false) (e0 : T0.heap = h0) (Z0 : n0 ≤ h0.size) (N0 : Fr n0 locs) (E_q : Exa Z h0 q "com/example/wavegrade/wavegrade/DepartureQueue") (F_size_q : Fld Z h0 q "com/example/wavegrade/wavegrade/DepartureQueue" "size" "I" (.int (2 : Int32))) (F_times_q : Fld Z h0 q "com/example/wavegrade/wavegrade/DepartureQueue" "times" "[D" (.ref u)) (F_lightpaths_q : Fld Z h0 q "com/example/wavegrade/wavegrade/DepartureQueue" "lightpaths" "[I" (.ref v)) (V_u : Dv Z h0 u (64 : Int32) g) (V_v : Iv Z h0 v (64 : Int32) l') (ne_q_u : q ≠ u) (ne_q_v : q ≠ v) (ne_u_v : u ≠ v) (ge_q : n0 ≤ q) (ge_u : n0 ≤ u) (ge_v : n0 ≤ v) (hT : ∀ x y, FP.dcmp (T x) (T y) = some (compare (K x) (K y))) (hg : ∀ i, i < 2 → g i = T (a i)) (hl : ∀ i, i < 2 → l' i = Lp (a i)) (hi : HI K a 2) :
    Go p e below s ({ frames := 0, cells := 0, slots := 0, locals := 0 } : Room).cells ({ frames := 0, cells := 0, slots := 0, locals := 0 } : Room).slots (fun r h L => r = none ∧ Fr n0 L ∧ Keep h0 h [q, u, v] ∧ Exa Z h q "com/example/wavegrade/wavegrade/DepartureQueue" ∧ Fld Z h q "com/example/wavegrade/wavegrade/DepartureQueue" "size" "I" (.int (3 : Int32)) ∧ Fld Z h q "com/example/wavegrade/wavegrade/DepartureQueue" "times" "[D" (.ref u) ∧ Fld Z h q "com/example/wavegrade/wavegrade/DepartureQueue" "lightpaths" "[I" (.ref v) ∧ ∃ (g2 : Nat → UInt64) (l2 : Nat → Int32) (a2 : Nat → Nat), Dv Z h u (64 : Int32) g2 ∧ Iv Z h v (64 : Int32) l2 ∧ (∀ i, i < 3 → g2 i = T (a2 i)) ∧ (∀ i, i < 3 → l2 i = Lp (a2 i)) ∧ HI K a2 3 ∧ (∀ w : Nat → Int, sumA w a2 3 = sumA w a 2 + w lam) ∧ ∀ P : Nat → Prop, (∀ i, i < 2 → P (a i)) → P lam → ∀ i, i < 3 → P (a2 i)) T0 (mkF m 0 #[.val (.ref q), .val (.double (T lam)), .second, .val (.int (Lp lam)), .unset, .unset] []) := by
  have hg0 := hg 0 (by decide)
  have hg1 := hg 1 (by decide)
  have hl0 := hl 0 (by decide)
  have hl1 := hl 1 (by decide)
  simp only [HI] at hi
  show Go _ _ _ _ _ _ _ T0 (mkF m 0 #[.val (.ref q), .val (.double (T lam)), .second, .val (.int (Lp lam)), .unset, .unset] [])
  refine Go.step (fun _ k => XS.aloadN X0.here hx rfl (hb hby d4_0) rfl rfl k) ?_
  show Go _ _ _ _ _ _ _ T0 (mkF m 1 #[.val (.ref q), .val (.double (T lam)), .second, .val (.int (Lp lam)), .unset, .unset] [(.ref q)])
  obtain ⟨T1, X1, e1, st1⟩ := getF X0 hx hZ hown (host := "") (Or.inl (hw _ (List.mem_of_getElem? (i := 20) rfl))) Via.refl e0 F_size_q (g := (mkF m 1 #[.val (.ref q), .val (.double (T lam)), .second, .val (.int (Lp lam)), .unset, .unset] [(.ref q)])) rfl rfl (hb hby d4_1)
  refine Go.step st1 ?_
  show Go _ _ _ _ _ _ _ T1 (mkF m 4 #[.val (.ref q), .val (.double (T lam)), .second, .val (.int (Lp lam)), .unset, .unset] [(.int (2 : Int32))])
  refine Go.step (fun _ k => XS.aloadN X1.here hx rfl (hb hby d4_4) rfl rfl k) ?_
  show Go _ _ _ _ _ _ _ T1 (mkF m 5 #[.val (.ref q), .val (.double (T lam)), .second, .val (.int (Lp lam)), .unset, .unset] [(.ref q), (.int (2 : Int32))])
  obtain ⟨T2, X2, e2, st2⟩ := getF X1 hx hZ hown (host := "") (Or.inl (hw _ (List.mem_of_getElem? (i := 10) rfl))) Via.refl e1 F_times_q (g := (mkF m 5 #[.val (.ref q), .val (.double (T lam)), .second, .val (.int (Lp lam)), .unset, .unset] [(.ref q), (.int (2 : Int32))])) rfl rfl (hb hby d4_5)
  refine Go.step st2 ?_
  show Go _ _ _ _ _ _ _ T2 (mkF m 8 #[.val (.ref q), .val (.double (T lam)), .second, .val (.int (Lp lam)), .unset, .unset] [(.ref u), (.int (2 : Int32))])
  refine Go.alen X2 hx hZ e2 V_u (hb hby d4_8) ?_
  show Go _ _ _ _ _ _ _ T2 (mkF m 9 #[.val (.ref q), .val (.double (T lam)), .second, .val (.int (Lp lam)), .unset, .unset] [(.int (64 : Int32)), (.int (2 : Int32))])
  refine Go.step (fun _ k => XS.icmpYes X2.here hx rfl (pc0 := 9) (pc' := 46) rfl (hb hby d4_9) rfl (feq (by decide : ¬ ((2 : Int32) = (64 : Int32)))).2 (by decide) (by decide) k) ?_
  show Go _ _ _ _ _ _ _ T2 (mkF m 46 #[.val (.ref q), .val (.double (T lam)), .second, .val (.int (Lp lam)), .unset, .unset] [])
  refine Go.step (fun _ k => XS.aloadN X2.here hx rfl (hb hby d4_46) rfl rfl k) ?_
  show Go _ _ _ _ _ _ _ T2 (mkF m 47 #[.val (.ref q), .val (.double (T lam)), .second, .val (.int (Lp lam)), .unset, .unset] [(.ref q)])
  refine Go.step (fun _ k => XS.dup X2.here hx rfl (hb hby d4_47) rfl rfl k) ?_
  show Go _ _ _ _ _ _ _ T2 (mkF m 48 #[.val (.ref q), .val (.double (T lam)), .second, .val (.int (Lp lam)), .unset, .unset] [(.ref q), (.ref q)])
  obtain ⟨T3, X3, e3, st3⟩ := getF X2 hx hZ hown (host := "") (Or.inl (hw _ (List.mem_of_getElem? (i := 20) rfl))) Via.refl e2 F_size_q (g := (mkF m 48 #[.val (.ref q), .val (.double (T lam)), .second, .val (.int (Lp lam)), .unset, .unset] [(.ref q), (.ref q)])) rfl rfl (hb hby d4_48)
  refine Go.step st3 ?_
  show Go _ _ _ _ _ _ _ T3 (mkF m 51 #[.val (.ref q), .val (.double (T lam)), .second, .val (.int (Lp lam)), .unset, .unset] [(.int (2 : Int32)), (.ref q)])
  refine Go.step (fun _ k => XS.dupX1 X3.here hx rfl (hb hby d4_51) rfl rfl rfl k) ?_
  show Go _ _ _ _ _ _ _ T3 (mkF m 52 #[.val (.ref q), .val (.double (T lam)), .second, .val (.int (Lp lam)), .unset, .unset] [(.int (2 : Int32)), (.ref q), (.int (2 : Int32))])
  refine Go.step (fun _ k => XS.iconst X3.here hx rfl (hb hby d4_52) k) ?_
  show Go _ _ _ _ _ _ _ T3 (mkF m 53 #[.val (.ref q), .val (.double (T lam)), .second, .val (.int (Lp lam)), .unset, .unset] [(.int (1 : Int32)), (.int (2 : Int32)), (.ref q), (.int (2 : Int32))])
  refine Go.step (fun _ k => XS.iadd X3.here hx rfl (hb hby d4_53) rfl k) ?_
  show Go _ _ _ _ _ _ _ T3 (mkF m 54 #[.val (.ref q), .val (.double (T lam)), .second, .val (.int (Lp lam)), .unset, .unset] [(.int (3 : Int32)), (.ref q), (.int (2 : Int32))])
  obtain ⟨T4, h4, X4, e4, W4, st4⟩ := putF X3 hx hZ hown (host := "") (Or.inl (hw _ (List.mem_of_getElem? (i := 20) rfl))) Via.refl e3 F_size_q E_q (Or.inl (hw _ (List.mem_of_getElem? (i := 21) rfl))) (hw _ (List.mem_of_getElem? (i := 1) rfl)) (ty := .int) (by decide) rfl rfl (g := (mkF m 54 #[.val (.ref q), .val (.double (T lam)), .second, .val (.int (Lp lam)), .unset, .unset] [(.int (3 : Int32)), (.ref q), (.int (2 : Int32))])) rfl rfl (hb hby d4_54)
  refine Go.step st4 ?_
  have N4 := Fr.snoc X4 N0 ge_q
  have F_size_q_4 := F_size_q.same W4
  have E_q_4 := E_q.wr W4
  have F_times_q_4 := F_times_q.other W4 (Or.inr (slot_ne (Or.inl (hw _ (List.mem_of_getElem? (i := 11) rfl))) (Or.inl (hw _ (List.mem_of_getElem? (i := 21) rfl))) (by decide) (t := (.array .double)) (t' := .int) (by decide) (by decide)))
  have F_lightpaths_q_4 := F_lightpaths_q.other W4 (Or.inr (slot_ne (Or.inl (hw _ (List.mem_of_getElem? (i := 14) rfl))) (Or.inl (hw _ (List.mem_of_getElem? (i := 21) rfl))) (by decide) (t := (.array .int)) (t' := .int) (by decide) (by decide)))
  have V_u_4 := V_u.other W4 (Ne.symm ne_q_u)
  have V_v_4 := V_v.other W4 (Ne.symm ne_q_v)
  have K4 : Keep h0 h4 [q, u, v] := (Keep.refl h0 [q, u, v]).wr W4 (Or.inl (List.mem_of_getElem? (i := 0) rfl))
  show Go _ _ _ _ _ _ _ T4 (mkF m 57 #[.val (.ref q), .val (.double (T lam)), .second, .val (.int (Lp lam)), .unset, .unset] [(.int (2 : Int32))])
  refine Go.step (fun _ k => XS.istore X4.here hx rfl (hb hby d4_57) rfl (l' := #[.val (.ref q), .val (.double (T lam)), .second, .val (.int (Lp lam)), .val (.int (2 : Int32)), .unset]) rfl k) ?_
  show Go _ _ _ _ _ _ _ T4 (mkF m 59 #[.val (.ref q), .val (.double (T lam)), .second, .val (.int (Lp lam)), .val (.int (2 : Int32)), .unset] [])
  refine Go.step (fun _ k => XS.iload X4.here hx rfl (hb hby d4_59) rfl k) ?_
  show Go _ _ _ _ _ _ _ T4 (mkF m 61 #[.val (.ref q), .val (.double (T lam)), .second, .val (.int (Lp lam)), .val (.int (2 : Int32)), .unset] [(.int (2 : Int32))])
  refine Go.step (fun _ k => XS.ifNo X4.here hx rfl (hb hby d4_61) rfl ((if0 _ _).trans (tlt (by decide : (0 : Int32) < (2 : Int32))).2.2.2) k) ?_
  show Go _ _ _ _ _ _ _ T4 (mkF m 64 #[.val (.ref q), .val (.double (T lam)), .second, .val (.int (Lp lam)), .val (.int (2 : Int32)), .unset] [])
  refine Go.step (fun _ k => XS.aloadN X4.here hx rfl (hb hby d4_64) rfl rfl k) ?_
  show Go _ _ _ _ _ _ _ T4 (mkF m 65 #[.val (.ref q), .val (.double (T lam)), .second, .val (.int (Lp lam)), .val (.int (2 : Int32)), .unset] [(.ref q)])
  obtain ⟨T5, X5, e5, st5⟩ := getF X4 hx hZ hown (host := "") (Or.inl (hw _ (List.mem_of_getElem? (i := 10) rfl))) Via.refl e4 F_times_q_4 (g := (mkF m 65 #[.val (.ref q), .val (.double (T lam)), .second, .val (.int (Lp lam)), .val (.int (2 : Int32)), .unset] [(.ref q)])) rfl rfl (hb hby d4_65)
  refine Go.step st5 ?_
  show Go _ _ _ _ _ _ _ T5 (mkF m 68 #[.val (.ref q), .val (.double (T lam)), .second, .val (.int (Lp lam)), .val (.int (2 : Int32)), .unset] [(.ref u)])
  refine Go.step (fun _ k => XS.iload X5.here hx rfl (hb hby d4_68) rfl k) ?_
  show Go _ _ _ _ _ _ _ T5 (mkF m 70 #[.val (.ref q), .val (.double (T lam)), .second, .val (.int (Lp lam)), .val (.int (2 : Int32)), .unset] [(.int (2 : Int32)), (.ref u)])
  refine Go.step (fun _ k => XS.iconst X5.here hx rfl (hb hby d4_70) k) ?_
  show Go _ _ _ _ _ _ _ T5 (mkF m 71 #[.val (.ref q), .val (.double (T lam)), .second, .val (.int (Lp lam)), .val (.int (2 : Int32)), .unset] [(.int (1 : Int32)), (.int (2 : Int32)), (.ref u)])
  refine Go.step (fun _ k => XS.isub X5.here hx rfl (hb hby d4_71) rfl k) ?_
  show Go _ _ _ _ _ _ _ T5 (mkF m 72 #[.val (.ref q), .val (.double (T lam)), .second, .val (.int (Lp lam)), .val (.int (2 : Int32)), .unset] [(.int (1 : Int32)), (.ref u)])
  refine Go.step (fun _ k => XS.iconst X5.here hx rfl (hb hby d4_72) k) ?_
  show Go _ _ _ _ _ _ _ T5 (mkF m 73 #[.val (.ref q), .val (.double (T lam)), .second, .val (.int (Lp lam)), .val (.int (2 : Int32)), .unset] [(.int (2 : Int32)), (.int (1 : Int32)), (.ref u)])
  refine Go.step (fun _ k => XS.idiv X5.here hx rfl (hb hby d4_73) rfl (by decide) k) ?_
  show Go _ _ _ _ _ _ _ T5 (mkF m 74 #[.val (.ref q), .val (.double (T lam)), .second, .val (.int (Lp lam)), .val (.int (2 : Int32)), .unset] [(.int (0 : Int32)), (.ref u)])
  refine Go.daload X5 hx hZ e5 V_u_4 (j := (0 : Int32)) (v := (T (a 0))) (by decide) (by first | rfl | simp [updN, hg0, hg1, hl0, hl1]) (hb hby d4_74) ?_
  show Go _ _ _ _ _ _ _ T5 (mkF m 75 #[.val (.ref q), .val (.double (T lam)), .second, .val (.int (Lp lam)), .val (.int (2 : Int32)), .unset] [(.double (T (a 0)))])
  refine Go.step (fun _ k => XS.dloadN X5.here hx rfl (hb hby d4_75) rfl k) ?_
  show Go _ _ _ _ _ _ _ T5 (mkF m 76 #[.val (.ref q), .val (.double (T lam)), .second, .val (.int (Lp lam)), .val (.int (2 : Int32)), .unset] [(.double (T lam)), (.double (T (a 0)))])
  refine Go.step (fun _ k => XS.dcmpS X5.here hx rfl (hb hby d4_76) rfl rfl k) ?_
  show Go _ _ _ _ _ _ _ T5 (mkF m 77 #[.val (.ref q), .val (.double (T lam)), .second, .val (.int (Lp lam)), .val (.int (2 : Int32)), .unset] [(.int (cmpValue (FP.dcmp (T (a 0)) (T lam)) .l))])
  by_cases hd77_6 : FP.dcmp (T (a 0)) (T lam) = some .gt
  · refine Go.step (fun _ k => XS.ifNo X5.here hx rfl (hb hby d4_77) rfl (gt_y hd77_6) k) ?_
    show Go _ _ _ _ _ _ _ T5 (mkF m 80 #[.val (.ref q), .val (.double (T lam)), .second, .val (.int (Lp lam)), .val (.int (2 : Int32)), .unset] [])
    refine Go.step (fun _ k => XS.iload X5.here hx rfl (hb hby d4_80) rfl k) ?_
    show Go _ _ _ _ _ _ _ T5 (mkF m 82 #[.val (.ref q), .val (.double (T lam)), .second, .val (.int (Lp lam)), .val (.int (2 : Int32)), .unset] [(.int (2 : Int32))])
    refine Go.step (fun _ k => XS.iconst X5.here hx rfl (hb hby d4_82) k) ?_
    show Go _ _ _ _ _ _ _ T5 (mkF m 83 #[.val (.ref q), .val (.double (T lam)), .second, .val (.int (Lp lam)), .val (.int (2 : Int32)), .unset] [(.int (1 : Int32)), (.int (2 : Int32))])
    refine Go.step (fun _ k => XS.isub X5.here hx rfl (hb hby d4_83) rfl k) ?_
    show Go _ _ _ _ _ _ _ T5 (mkF m 84 #[.val (.ref q), .val (.double (T lam)), .second, .val (.int (Lp lam)), .val (.int (2 : Int32)), .unset] [(.int (1 : Int32))])
    refine Go.step (fun _ k => XS.iconst X5.here hx rfl (hb hby d4_84) k) ?_
    show Go _ _ _ _ _ _ _ T5 (mkF m 85 #[.val (.ref q), .val (.double (T lam)), .second, .val (.int (Lp lam)), .val (.int (2 : Int32)), .unset] [(.int (2 : Int32)), (.int (1 : Int32))])
    refine Go.step (fun _ k => XS.idiv X5.here hx rfl (hb hby d4_85) rfl (by decide) k) ?_
    show Go _ _ _ _ _ _ _ T5 (mkF m 86 #[.val (.ref q), .val (.double (T lam)), .second, .val (.int (Lp lam)), .val (.int (2 : Int32)), .unset] [(.int (0 : Int32))])
    refine Go.step (fun _ k => XS.istore X5.here hx rfl (hb hby d4_86) rfl (l' := #[.val (.ref q), .val (.double (T lam)), .second, .val (.int (Lp lam)), .val (.int (2 : Int32)), .val (.int (0 : Int32))]) rfl k) ?_
    show Go _ _ _ _ _ _ _ T5 (mkF m 88 #[.val (.ref q), .val (.double (T lam)), .second, .val (.int (Lp lam)), .val (.int (2 : Int32)), .val (.int (0 : Int32))] [])
    refine Go.step (fun _ k => XS.aloadN X5.here hx rfl (hb hby d4_88) rfl rfl k) ?_
    show Go _ _ _ _ _ _ _ T5 (mkF m 89 #[.val (.ref q), .val (.double (T lam)), .second, .val (.int (Lp lam)), .val (.int (2 : Int32)), .val (.int (0 : Int32))] [(.ref q)])
    obtain ⟨T7, X7, e7, st7⟩ := getF X5 hx hZ hown (host := "") (Or.inl (hw _ (List.mem_of_getElem? (i := 10) rfl))) Via.refl e5 F_times_q_4 (g := (mkF m 89 #[.val (.ref q), .val (.double (T lam)), .second, .val (.int (Lp lam)), .val (.int (2 : Int32)), .val (.int (0 : Int32))] [(.ref q)])) rfl rfl (hb hby d4_89)
    refine Go.step st7 ?_
    show Go _ _ _ _ _ _ _ T7 (mkF m 92 #[.val (.ref q), .val (.double (T lam)), .second, .val (.int (Lp lam)), .val (.int (2 : Int32)), .val (.int (0 : Int32))] [(.ref u)])
    refine Go.step (fun _ k => XS.iload X7.here hx rfl (hb hby d4_92) rfl k) ?_
    show Go _ _ _ _ _ _ _ T7 (mkF m 94 #[.val (.ref q), .val (.double (T lam)), .second, .val (.int (Lp lam)), .val (.int (2 : Int32)), .val (.int (0 : Int32))] [(.int (2 : Int32)), (.ref u)])
    refine Go.step (fun _ k => XS.aloadN X7.here hx rfl (hb hby d4_94) rfl rfl k) ?_
    show Go _ _ _ _ _ _ _ T7 (mkF m 95 #[.val (.ref q), .val (.double (T lam)), .second, .val (.int (Lp lam)), .val (.int (2 : Int32)), .val (.int (0 : Int32))] [(.ref q), (.int (2 : Int32)), (.ref u)])
    obtain ⟨T8, X8, e8, st8⟩ := getF X7 hx hZ hown (host := "") (Or.inl (hw _ (List.mem_of_getElem? (i := 10) rfl))) Via.refl e7 F_times_q_4 (g := (mkF m 95 #[.val (.ref q), .val (.double (T lam)), .second, .val (.int (Lp lam)), .val (.int (2 : Int32)), .val (.int (0 : Int32))] [(.ref q), (.int (2 : Int32)), (.ref u)])) rfl rfl (hb hby d4_95)
    refine Go.step st8 ?_
    show Go _ _ _ _ _ _ _ T8 (mkF m 98 #[.val (.ref q), .val (.double (T lam)), .second, .val (.int (Lp lam)), .val (.int (2 : Int32)), .val (.int (0 : Int32))] [(.ref u), (.int (2 : Int32)), (.ref u)])
    refine Go.step (fun _ k => XS.iload X8.here hx rfl (hb hby d4_98) rfl k) ?_
    show Go _ _ _ _ _ _ _ T8 (mkF m 100 #[.val (.ref q), .val (.double (T lam)), .second, .val (.int (Lp lam)), .val (.int (2 : Int32)), .val (.int (0 : Int32))] [(.int (0 : Int32)), (.ref u), (.int (2 : Int32)), (.ref u)])
    refine Go.daload X8 hx hZ e8 V_u_4 (j := (0 : Int32)) (v := (T (a 0))) (by decide) (by first | rfl | simp [updN, hg0, hg1, hl0, hl1]) (hb hby d4_100) ?_
    show Go _ _ _ _ _ _ _ T8 (mkF m 101 #[.val (.ref q), .val (.double (T lam)), .second, .val (.int (Lp lam)), .val (.int (2 : Int32)), .val (.int (0 : Int32))] [(.double (T (a 0))), (.int (2 : Int32)), (.ref u)])
    refine Go.dastore X8 hx hZ e8 V_u_4 (j := (2 : Int32)) (x := (T (a 0))) (by decide) (hb hby d4_101) ?_
    intro T9 h9 X9 e9 W9 Vn9
    have V_u_9 : Dv Z h9 u (64 : Int32) (updN g 2 (T (a 0))) := Vn9
    have N9 := Fr.snoc X9 N4 ge_u
    have E_q_9 := E_q_4.wr W9
    have F_size_q_9 := F_size_q_4.other W9 (Or.inl ne_q_u)
    have F_times_q_9 := F_times_q_4.other W9 (Or.inl ne_q_u)
    have F_lightpaths_q_9 := F_lightpaths_q_4.other W9 (Or.inl ne_q_u)
    have V_v_9 := V_v_4.other W9 (Ne.symm ne_u_v)
    have K9 : Keep h0 h9 [q, u, v] := K4.wr W9 (Or.inl (List.mem_of_getElem? (i := 1) rfl))
    show Go _ _ _ _ _ _ _ T9 (mkF m 102 #[.val (.ref q), .val (.double (T lam)), .second, .val (.int (Lp lam)), .val (.int (2 : Int32)), .val (.int (0 : Int32))] [])
    refine Go.step (fun _ k => XS.aloadN X9.here hx rfl (hb hby d4_102) rfl rfl k) ?_
    show Go _ _ _ _ _ _ _ T9 (mkF m 103 #[.val (.ref q), .val (.double (T lam)), .second, .val (.int (Lp lam)), .val (.int (2 : Int32)), .val (.int (0 : Int32))] [(.ref q)])
    obtain ⟨T10, X10, e10, st10⟩ := getF X9 hx hZ hown (host := "") (Or.inl (hw _ (List.mem_of_getElem? (i := 13) rfl))) Via.refl e9 F_lightpaths_q_9 (g := (mkF m 103 #[.val (.ref q), .val (.double (T lam)), .second, .val (.int (Lp lam)), .val (.int (2 : Int32)), .val (.int (0 : Int32))] [(.ref q)])) rfl rfl (hb hby d4_103)
    refine Go.step st10 ?_
    show Go _ _ _ _ _ _ _ T10 (mkF m 106 #[.val (.ref q), .val (.double (T lam)), .second, .val (.int (Lp lam)), .val (.int (2 : Int32)), .val (.int (0 : Int32))] [(.ref v)])
    refine Go.step (fun _ k => XS.iload X10.here hx rfl (hb hby d4_106) rfl k) ?_
    show Go _ _ _ _ _ _ _ T10 (mkF m 108 #[.val (.ref q), .val (.double (T lam)), .second, .val (.int (Lp lam)), .val (.int (2 : Int32)), .val (.int (0 : Int32))] [(.int (2 : Int32)), (.ref v)])
    refine Go.step (fun _ k => XS.aloadN X10.here hx rfl (hb hby d4_108) rfl rfl k) ?_
    show Go _ _ _ _ _ _ _ T10 (mkF m 109 #[.val (.ref q), .val (.double (T lam)), .second, .val (.int (Lp lam)), .val (.int (2 : Int32)), .val (.int (0 : Int32))] [(.ref q), (.int (2 : Int32)), (.ref v)])
    obtain ⟨T11, X11, e11, st11⟩ := getF X10 hx hZ hown (host := "") (Or.inl (hw _ (List.mem_of_getElem? (i := 13) rfl))) Via.refl e10 F_lightpaths_q_9 (g := (mkF m 109 #[.val (.ref q), .val (.double (T lam)), .second, .val (.int (Lp lam)), .val (.int (2 : Int32)), .val (.int (0 : Int32))] [(.ref q), (.int (2 : Int32)), (.ref v)])) rfl rfl (hb hby d4_109)
    refine Go.step st11 ?_
    show Go _ _ _ _ _ _ _ T11 (mkF m 112 #[.val (.ref q), .val (.double (T lam)), .second, .val (.int (Lp lam)), .val (.int (2 : Int32)), .val (.int (0 : Int32))] [(.ref v), (.int (2 : Int32)), (.ref v)])
    refine Go.step (fun _ k => XS.iload X11.here hx rfl (hb hby d4_112) rfl k) ?_
    show Go _ _ _ _ _ _ _ T11 (mkF m 114 #[.val (.ref q), .val (.double (T lam)), .second, .val (.int (Lp lam)), .val (.int (2 : Int32)), .val (.int (0 : Int32))] [(.int (0 : Int32)), (.ref v), (.int (2 : Int32)), (.ref v)])
    refine Go.iaload X11 hx hZ e11 V_v_9 (j := (0 : Int32)) (v := (Lp (a 0))) (by decide) (by first | rfl | simp [updN, hg0, hg1, hl0, hl1]) (hb hby d4_114) ?_
    show Go _ _ _ _ _ _ _ T11 (mkF m 115 #[.val (.ref q), .val (.double (T lam)), .second, .val (.int (Lp lam)), .val (.int (2 : Int32)), .val (.int (0 : Int32))] [(.int (Lp (a 0))), (.int (2 : Int32)), (.ref v)])
    refine Go.iastore X11 hx hZ e11 V_v_9 (j := (2 : Int32)) (x := (Lp (a 0))) (by decide) (hb hby d4_115) ?_
    intro T12 h12 X12 e12 W12 Vn12
    have V_v_12 : Iv Z h12 v (64 : Int32) (updN l' 2 (Lp (a 0))) := Vn12
    have N12 := Fr.snoc X12 N9 ge_v
    have E_q_12 := E_q_9.wr W12
    have F_size_q_12 := F_size_q_9.other W12 (Or.inl ne_q_v)
    have F_times_q_12 := F_times_q_9.other W12 (Or.inl ne_q_v)
    have F_lightpaths_q_12 := F_lightpaths_q_9.other W12 (Or.inl ne_q_v)
    have V_u_12 := V_u_9.other W12 ne_u_v
    have K12 : Keep h0 h12 [q, u, v] := K9.wr W12 (Or.inl (List.mem_of_getElem? (i := 2) rfl))
    show Go _ _ _ _ _ _ _ T12 (mkF m 116 #[.val (.ref q), .val (.double (T lam)), .second, .val (.int (Lp lam)), .val (.int (2 : Int32)), .val (.int (0 : Int32))] [])
    refine Go.step (fun _ k => XS.iload X12.here hx rfl (hb hby d4_116) rfl k) ?_
    show Go _ _ _ _ _ _ _ T12 (mkF m 118 #[.val (.ref q), .val (.double (T lam)), .second, .val (.int (Lp lam)), .val (.int (2 : Int32)), .val (.int (0 : Int32))] [(.int (0 : Int32))])
    refine Go.step (fun _ k => XS.istore X12.here hx rfl (hb hby d4_118) rfl (l' := #[.val (.ref q), .val (.double (T lam)), .second, .val (.int (Lp lam)), .val (.int (0 : Int32)), .val (.int (0 : Int32))]) rfl k) ?_
    show Go _ _ _ _ _ _ _ T12 (mkF m 120 #[.val (.ref q), .val (.double (T lam)), .second, .val (.int (Lp lam)), .val (.int (0 : Int32)), .val (.int (0 : Int32))] [])
    refine Go.step (fun _ k => XS.goto X12.here hx rfl (pc0 := 120) (pc' := 59) rfl (hb hby d4_120) (by decide) (by decide) k) ?_
    show Go _ _ _ _ _ _ _ T12 (mkF m 59 #[.val (.ref q), .val (.double (T lam)), .second, .val (.int (Lp lam)), .val (.int (0 : Int32)), .val (.int (0 : Int32))] [])
    refine Go.step (fun _ k => XS.iload X12.here hx rfl (hb hby d4_59) rfl k) ?_
    show Go _ _ _ _ _ _ _ T12 (mkF m 61 #[.val (.ref q), .val (.double (T lam)), .second, .val (.int (Lp lam)), .val (.int (0 : Int32)), .val (.int (0 : Int32))] [(.int (0 : Int32))])
    refine Go.step (fun _ k => XS.ifYes X12.here hx rfl (pc0 := 61) (pc' := 123) rfl (hb hby d4_61) rfl ((if0 _ _).trans (flt (by decide : ¬ ((0 : Int32) < (0 : Int32)))).2.2.2) (by decide) (by decide) k) ?_
    show Go _ _ _ _ _ _ _ T12 (mkF m 123 #[.val (.ref q), .val (.double (T lam)), .second, .val (.int (Lp lam)), .val (.int (0 : Int32)), .val (.int (0 : Int32))] [])
    refine Go.step (fun _ k => XS.aloadN X12.here hx rfl (hb hby d4_123) rfl rfl k) ?_
    show Go _ _ _ _ _ _ _ T12 (mkF m 124 #[.val (.ref q), .val (.double (T lam)), .second, .val (.int (Lp lam)), .val (.int (0 : Int32)), .val (.int (0 : Int32))] [(.ref q)])
    obtain ⟨T13, X13, e13, st13⟩ := getF X12 hx hZ hown (host := "") (Or.inl (hw _ (List.mem_of_getElem? (i := 10) rfl))) Via.refl e12 F_times_q_12 (g := (mkF m 124 #[.val (.ref q), .val (.double (T lam)), .second, .val (.int (Lp lam)), .val (.int (0 : Int32)), .val (.int (0 : Int32))] [(.ref q)])) rfl rfl (hb hby d4_124)
    refine Go.step st13 ?_
    show Go _ _ _ _ _ _ _ T13 (mkF m 127 #[.val (.ref q), .val (.double (T lam)), .second, .val (.int (Lp lam)), .val (.int (0 : Int32)), .val (.int (0 : Int32))] [(.ref u)])
    refine Go.step (fun _ k => XS.iload X13.here hx rfl (hb hby d4_127) rfl k) ?_
    show Go _ _ _ _ _ _ _ T13 (mkF m 129 #[.val (.ref q), .val (.double (T lam)), .second, .val (.int (Lp lam)), .val (.int (0 : Int32)), .val (.int (0 : Int32))] [(.int (0 : Int32)), (.ref u)])
    refine Go.step (fun _ k => XS.dloadN X13.here hx rfl (hb hby d4_129) rfl k) ?_
    show Go _ _ _ _ _ _ _ T13 (mkF m 130 #[.val (.ref q), .val (.double (T lam)), .second, .val (.int (Lp lam)), .val (.int (0 : Int32)), .val (.int (0 : Int32))] [(.double (T lam)), (.int (0 : Int32)), (.ref u)])
    refine Go.dastore X13 hx hZ e13 V_u_12 (j := (0 : Int32)) (x := (T lam)) (by decide) (hb hby d4_130) ?_
    intro T14 h14 X14 e14 W14 Vn14
    have V_u_14 : Dv Z h14 u (64 : Int32) (updN (updN g 2 (T (a 0))) 0 (T lam)) := Vn14
    have N14 := Fr.snoc X14 N12 ge_u
    have E_q_14 := E_q_12.wr W14
    have F_size_q_14 := F_size_q_12.other W14 (Or.inl ne_q_u)
    have F_times_q_14 := F_times_q_12.other W14 (Or.inl ne_q_u)
    have F_lightpaths_q_14 := F_lightpaths_q_12.other W14 (Or.inl ne_q_u)
    have V_v_14 := V_v_12.other W14 (Ne.symm ne_u_v)
    have K14 : Keep h0 h14 [q, u, v] := K12.wr W14 (Or.inl (List.mem_of_getElem? (i := 1) rfl))
    show Go _ _ _ _ _ _ _ T14 (mkF m 131 #[.val (.ref q), .val (.double (T lam)), .second, .val (.int (Lp lam)), .val (.int (0 : Int32)), .val (.int (0 : Int32))] [])
    refine Go.step (fun _ k => XS.aloadN X14.here hx rfl (hb hby d4_131) rfl rfl k) ?_
    show Go _ _ _ _ _ _ _ T14 (mkF m 132 #[.val (.ref q), .val (.double (T lam)), .second, .val (.int (Lp lam)), .val (.int (0 : Int32)), .val (.int (0 : Int32))] [(.ref q)])
    obtain ⟨T15, X15, e15, st15⟩ := getF X14 hx hZ hown (host := "") (Or.inl (hw _ (List.mem_of_getElem? (i := 13) rfl))) Via.refl e14 F_lightpaths_q_14 (g := (mkF m 132 #[.val (.ref q), .val (.double (T lam)), .second, .val (.int (Lp lam)), .val (.int (0 : Int32)), .val (.int (0 : Int32))] [(.ref q)])) rfl rfl (hb hby d4_132)
    refine Go.step st15 ?_
    show Go _ _ _ _ _ _ _ T15 (mkF m 135 #[.val (.ref q), .val (.double (T lam)), .second, .val (.int (Lp lam)), .val (.int (0 : Int32)), .val (.int (0 : Int32))] [(.ref v)])
    refine Go.step (fun _ k => XS.iload X15.here hx rfl (hb hby d4_135) rfl k) ?_
    show Go _ _ _ _ _ _ _ T15 (mkF m 137 #[.val (.ref q), .val (.double (T lam)), .second, .val (.int (Lp lam)), .val (.int (0 : Int32)), .val (.int (0 : Int32))] [(.int (0 : Int32)), (.ref v)])
    refine Go.step (fun _ k => XS.iloadN X15.here hx rfl (hb hby d4_137) rfl k) ?_
    show Go _ _ _ _ _ _ _ T15 (mkF m 138 #[.val (.ref q), .val (.double (T lam)), .second, .val (.int (Lp lam)), .val (.int (0 : Int32)), .val (.int (0 : Int32))] [(.int (Lp lam)), (.int (0 : Int32)), (.ref v)])
    refine Go.iastore X15 hx hZ e15 V_v_14 (j := (0 : Int32)) (x := (Lp lam)) (by decide) (hb hby d4_138) ?_
    intro T16 h16 X16 e16 W16 Vn16
    have V_v_16 : Iv Z h16 v (64 : Int32) (updN (updN l' 2 (Lp (a 0))) 0 (Lp lam)) := Vn16
    have N16 := Fr.snoc X16 N14 ge_v
    have E_q_16 := E_q_14.wr W16
    have F_size_q_16 := F_size_q_14.other W16 (Or.inl ne_q_v)
    have F_times_q_16 := F_times_q_14.other W16 (Or.inl ne_q_v)
    have F_lightpaths_q_16 := F_lightpaths_q_14.other W16 (Or.inl ne_q_v)
    have V_u_16 := V_u_14.other W16 ne_u_v
    have K16 : Keep h0 h16 [q, u, v] := K14.wr W16 (Or.inl (List.mem_of_getElem? (i := 2) rfl))
    show Go _ _ _ _ _ _ _ T16 (mkF m 139 #[.val (.ref q), .val (.double (T lam)), .second, .val (.int (Lp lam)), .val (.int (0 : Int32)), .val (.int (0 : Int32))] [])
    refine Go.retV X16 hx hlk hret (hb hby d4_139) (by decide) (by decide) ?_
    try rw [e16]
    have := own_gtK hT hd77_6
    refine ⟨rfl, N16, K16, E_q_16, F_size_q_16, F_times_q_16, F_lightpaths_q_16, _, _, (updN (updN a 2 (a 0)) 0 lam), V_u_16, V_v_16, fun i hi' => by rcases (by omega : i = 0 ∨ i = 1 ∨ i = 2) with rfl | rfl | rfl <;> first | rfl | simp [updN, hg0, hg1, hl0, hl1], fun i hi' => by rcases (by omega : i = 0 ∨ i = 1 ∨ i = 2) with rfl | rfl | rfl <;> first | rfl | simp [updN, hg0, hg1, hl0, hl1], ?_, ?_, fun P hP hP' => ?_⟩
    · simp only [HI, updN]; try simp; try omega
    · intro w; simp [sumA, updN]; try omega
    · intro i hi'; rcases (by omega : i = 0 ∨ i = 1 ∨ i = 2) with rfl | rfl | rfl <;> simp [updN] <;> first | exact hP' | exact hP _ (by decide)
  · refine Go.step (fun _ k => XS.ifYes X5.here hx rfl (pc0 := 77) (pc' := 123) rfl (hb hby d4_77) rfl (gt_n hd77_6) (by decide) (by decide) k) ?_
    show Go _ _ _ _ _ _ _ T5 (mkF m 123 #[.val (.ref q), .val (.double (T lam)), .second, .val (.int (Lp lam)), .val (.int (2 : Int32)), .unset] [])
    refine Go.step (fun _ k => XS.aloadN X5.here hx rfl (hb hby d4_123) rfl rfl k) ?_
    show Go _ _ _ _ _ _ _ T5 (mkF m 124 #[.val (.ref q), .val (.double (T lam)), .second, .val (.int (Lp lam)), .val (.int (2 : Int32)), .unset] [(.ref q)])
    obtain ⟨T17, X17, e17, st17⟩ := getF X5 hx hZ hown (host := "") (Or.inl (hw _ (List.mem_of_getElem? (i := 10) rfl))) Via.refl e5 F_times_q_4 (g := (mkF m 124 #[.val (.ref q), .val (.double (T lam)), .second, .val (.int (Lp lam)), .val (.int (2 : Int32)), .unset] [(.ref q)])) rfl rfl (hb hby d4_124)
    refine Go.step st17 ?_
    show Go _ _ _ _ _ _ _ T17 (mkF m 127 #[.val (.ref q), .val (.double (T lam)), .second, .val (.int (Lp lam)), .val (.int (2 : Int32)), .unset] [(.ref u)])
    refine Go.step (fun _ k => XS.iload X17.here hx rfl (hb hby d4_127) rfl k) ?_
    show Go _ _ _ _ _ _ _ T17 (mkF m 129 #[.val (.ref q), .val (.double (T lam)), .second, .val (.int (Lp lam)), .val (.int (2 : Int32)), .unset] [(.int (2 : Int32)), (.ref u)])
    refine Go.step (fun _ k => XS.dloadN X17.here hx rfl (hb hby d4_129) rfl k) ?_
    show Go _ _ _ _ _ _ _ T17 (mkF m 130 #[.val (.ref q), .val (.double (T lam)), .second, .val (.int (Lp lam)), .val (.int (2 : Int32)), .unset] [(.double (T lam)), (.int (2 : Int32)), (.ref u)])
    refine Go.dastore X17 hx hZ e17 V_u_4 (j := (2 : Int32)) (x := (T lam)) (by decide) (hb hby d4_130) ?_
    intro T18 h18 X18 e18 W18 Vn18
    have V_u_18 : Dv Z h18 u (64 : Int32) (updN g 2 (T lam)) := Vn18
    have N18 := Fr.snoc X18 N4 ge_u
    have E_q_18 := E_q_4.wr W18
    have F_size_q_18 := F_size_q_4.other W18 (Or.inl ne_q_u)
    have F_times_q_18 := F_times_q_4.other W18 (Or.inl ne_q_u)
    have F_lightpaths_q_18 := F_lightpaths_q_4.other W18 (Or.inl ne_q_u)
    have V_v_18 := V_v_4.other W18 (Ne.symm ne_u_v)
    have K18 : Keep h0 h18 [q, u, v] := K4.wr W18 (Or.inl (List.mem_of_getElem? (i := 1) rfl))
    show Go _ _ _ _ _ _ _ T18 (mkF m 131 #[.val (.ref q), .val (.double (T lam)), .second, .val (.int (Lp lam)), .val (.int (2 : Int32)), .unset] [])
    refine Go.step (fun _ k => XS.aloadN X18.here hx rfl (hb hby d4_131) rfl rfl k) ?_
    show Go _ _ _ _ _ _ _ T18 (mkF m 132 #[.val (.ref q), .val (.double (T lam)), .second, .val (.int (Lp lam)), .val (.int (2 : Int32)), .unset] [(.ref q)])
    obtain ⟨T19, X19, e19, st19⟩ := getF X18 hx hZ hown (host := "") (Or.inl (hw _ (List.mem_of_getElem? (i := 13) rfl))) Via.refl e18 F_lightpaths_q_18 (g := (mkF m 132 #[.val (.ref q), .val (.double (T lam)), .second, .val (.int (Lp lam)), .val (.int (2 : Int32)), .unset] [(.ref q)])) rfl rfl (hb hby d4_132)
    refine Go.step st19 ?_
    show Go _ _ _ _ _ _ _ T19 (mkF m 135 #[.val (.ref q), .val (.double (T lam)), .second, .val (.int (Lp lam)), .val (.int (2 : Int32)), .unset] [(.ref v)])
    refine Go.step (fun _ k => XS.iload X19.here hx rfl (hb hby d4_135) rfl k) ?_
    show Go _ _ _ _ _ _ _ T19 (mkF m 137 #[.val (.ref q), .val (.double (T lam)), .second, .val (.int (Lp lam)), .val (.int (2 : Int32)), .unset] [(.int (2 : Int32)), (.ref v)])
    refine Go.step (fun _ k => XS.iloadN X19.here hx rfl (hb hby d4_137) rfl k) ?_
    show Go _ _ _ _ _ _ _ T19 (mkF m 138 #[.val (.ref q), .val (.double (T lam)), .second, .val (.int (Lp lam)), .val (.int (2 : Int32)), .unset] [(.int (Lp lam)), (.int (2 : Int32)), (.ref v)])
    refine Go.iastore X19 hx hZ e19 V_v_18 (j := (2 : Int32)) (x := (Lp lam)) (by decide) (hb hby d4_138) ?_
    intro T20 h20 X20 e20 W20 Vn20
    have V_v_20 : Iv Z h20 v (64 : Int32) (updN l' 2 (Lp lam)) := Vn20
    have N20 := Fr.snoc X20 N18 ge_v
    have E_q_20 := E_q_18.wr W20
    have F_size_q_20 := F_size_q_18.other W20 (Or.inl ne_q_v)
    have F_times_q_20 := F_times_q_18.other W20 (Or.inl ne_q_v)
    have F_lightpaths_q_20 := F_lightpaths_q_18.other W20 (Or.inl ne_q_v)
    have V_u_20 := V_u_18.other W20 ne_u_v
    have K20 : Keep h0 h20 [q, u, v] := K18.wr W20 (Or.inl (List.mem_of_getElem? (i := 2) rfl))
    show Go _ _ _ _ _ _ _ T20 (mkF m 139 #[.val (.ref q), .val (.double (T lam)), .second, .val (.int (Lp lam)), .val (.int (2 : Int32)), .unset] [])
    refine Go.retV X20 hx hlk hret (hb hby d4_139) (by decide) (by decide) ?_
    try rw [e20]
    have := own_ngtK hT hd77_6
    refine ⟨rfl, N20, K20, E_q_20, F_size_q_20, F_times_q_20, F_lightpaths_q_20, _, _, (updN a 2 lam), V_u_20, V_v_20, fun i hi' => by rcases (by omega : i = 0 ∨ i = 1 ∨ i = 2) with rfl | rfl | rfl <;> first | rfl | simp [updN, hg0, hg1, hl0, hl1], fun i hi' => by rcases (by omega : i = 0 ∨ i = 1 ∨ i = 2) with rfl | rfl | rfl <;> first | rfl | simp [updN, hg0, hg1, hl0, hl1], ?_, ?_, fun P hP hP' => ?_⟩
    · simp only [HI, updN]; try simp; try omega
    · intro w; simp [sumA, updN]; try omega
    · intro i hi'; rcases (by omega : i = 0 ∨ i = 1 ∨ i = 2) with rfl | rfl | rfl <;> simp [updN] <;> first | exact hP' | exact hP _ (by decide)
theorem ef_rm_add2 (m : MethodId) (q : Addr) (T : Nat → UInt64) (Lp : Nat → Int32) (lam : Nat) : entryFrame m #[(.ref q), (.double (T lam)), (.int (Lp lam))] 6 = mkF m 0 #[.val (.ref q), .val (.double (T lam)), .second, .val (.int (Lp lam)), .unset, .unset] [] := by first | (simp [entryFrame, mkF, argsToLocals, Value.category]; done) | rfl
theorem rm_add2 (l : Launch) (Z : State) (a0 : Array Value) (hw : ∀ d ∈ tables_1, d.before a0 Z = true) (q u v : Addr) (g : Nat → UInt64) (l' : Nat → Int32) (T : Nat → UInt64) (Lp : Nat → Int32) (K : Nat → Int) (a : Nat → Nat) (lam : Nat) (h0 : Heap) (n0 : Nat) (Z0 : n0 ≤ h0.size) (E_q : Exa Z h0 q "com/example/wavegrade/wavegrade/DepartureQueue") (F_size_q : Fld Z h0 q "com/example/wavegrade/wavegrade/DepartureQueue" "size" "I" (.int (2 : Int32))) (F_times_q : Fld Z h0 q "com/example/wavegrade/wavegrade/DepartureQueue" "times" "[D" (.ref u)) (F_lightpaths_q : Fld Z h0 q "com/example/wavegrade/wavegrade/DepartureQueue" "lightpaths" "[I" (.ref v)) (V_u : Dv Z h0 u (64 : Int32) g) (V_v : Iv Z h0 v (64 : Int32) l') (ne_q_u : q ≠ u) (ne_q_v : q ≠ v) (ne_u_v : u ≠ v) (ge_q : n0 ≤ q) (ge_u : n0 ≤ u) (ge_v : n0 ≤ v) (hT : ∀ x y, FP.dcmp (T x) (T y) = some (compare (K x) (K y))) (hg : ∀ i, i < 2 → g i = T (a i)) (hl : ∀ i, i < 2 → l' i = Lp (a i)) (hi : HI K a 2) :
    Con l Z (⟨"com/example/wavegrade/wavegrade/DepartureQueue", "add", "(DI)V"⟩ : MethodName) prog_1_method_4_code 6 none ({ frames := 0, cells := 0, slots := 0, locals := 0 } : Room) #[(.ref q), (.double (T lam)), (.int (Lp lam))] h0 (fun r h L => r = none ∧ Fr n0 L ∧ Keep h0 h [q, u, v] ∧ Exa Z h q "com/example/wavegrade/wavegrade/DepartureQueue" ∧ Fld Z h q "com/example/wavegrade/wavegrade/DepartureQueue" "size" "I" (.int (3 : Int32)) ∧ Fld Z h q "com/example/wavegrade/wavegrade/DepartureQueue" "times" "[D" (.ref u) ∧ Fld Z h q "com/example/wavegrade/wavegrade/DepartureQueue" "lightpaths" "[I" (.ref v) ∧ ∃ (g2 : Nat → UInt64) (l2 : Nat → Int32) (a2 : Nat → Nat), Dv Z h u (64 : Int32) g2 ∧ Iv Z h v (64 : Int32) l2 ∧ (∀ i, i < 3 → g2 i = T (a2 i)) ∧ (∀ i, i < 3 → l2 i = Lp (a2 i)) ∧ HI K a2 3 ∧ (∀ w : Nat → Int, sumA w a2 3 = sumA w a 2 + w lam) ∧ ∀ P : Nat → Prop, (∀ i, i < 2 → P (a i)) → P lam → ∀ i, i < 3 → P (a2 i)) :=
  con_of (plainFor_of_name pn_1) (fun p_ e_ s_ m_ b_ meth_ c_ T_ X_ hx hZ hby hml hown hnm hret hlk e0 => Go.cast (ef_rm_add2 m_ q T Lp lam) (w_add2 q u v g l' T Lp K a lam X_ hx hZ hw hby hml hown hnm hret hlk e0 Z0 (Fr.nil n0) E_q F_size_q F_times_q F_lightpaths_q V_u V_v ne_q_u ne_q_v ne_u_v ge_q ge_u ge_v hT hg hl hi))
theorem d5_0 : decode prog_1_method_5_code 0 = .ok (.aload_n 0, 1) := by decide +kernel
theorem d5_1 : decode prog_1_method_5_code 1 = .ok (.getfield 13, 3) := by decide +kernel
theorem d5_4 : decode prog_1_method_5_code 4 = .ok (.iconst 0, 1) := by decide +kernel
theorem d5_5 : decode prog_1_method_5_code 5 = .ok (.iaload, 1) := by decide +kernel
theorem d5_6 : decode prog_1_method_5_code 6 = .ok (.istore_n 1, 1) := by decide +kernel
theorem d5_7 : decode prog_1_method_5_code 7 = .ok (.aload_n 0, 1) := by decide +kernel
theorem d5_8 : decode prog_1_method_5_code 8 = .ok (.dup, 1) := by decide +kernel
theorem d5_9 : decode prog_1_method_5_code 9 = .ok (.getfield 17, 3) := by decide +kernel
theorem d5_12 : decode prog_1_method_5_code 12 = .ok (.iconst 1, 1) := by decide +kernel
theorem d5_13 : decode prog_1_method_5_code 13 = .ok (.isub, 1) := by decide +kernel
theorem d5_14 : decode prog_1_method_5_code 14 = .ok (.putfield 17, 3) := by decide +kernel
theorem d5_17 : decode prog_1_method_5_code 17 = .ok (.aload_n 0, 1) := by decide +kernel
theorem d5_18 : decode prog_1_method_5_code 18 = .ok (.getfield 7, 3) := by decide +kernel
theorem d5_21 : decode prog_1_method_5_code 21 = .ok (.aload_n 0, 1) := by decide +kernel
theorem d5_22 : decode prog_1_method_5_code 22 = .ok (.getfield 17, 3) := by decide +kernel
theorem d5_25 : decode prog_1_method_5_code 25 = .ok (.daload, 1) := by decide +kernel
theorem d5_26 : decode prog_1_method_5_code 26 = .ok (.dstore_n 2, 1) := by decide +kernel
theorem d5_27 : decode prog_1_method_5_code 27 = .ok (.aload_n 0, 1) := by decide +kernel
theorem d5_28 : decode prog_1_method_5_code 28 = .ok (.getfield 13, 3) := by decide +kernel
theorem d5_31 : decode prog_1_method_5_code 31 = .ok (.aload_n 0, 1) := by decide +kernel
theorem d5_32 : decode prog_1_method_5_code 32 = .ok (.getfield 17, 3) := by decide +kernel
theorem d5_35 : decode prog_1_method_5_code 35 = .ok (.iaload, 1) := by decide +kernel
theorem d5_36 : decode prog_1_method_5_code 36 = .ok (.istore 4, 2) := by decide +kernel
theorem d5_38 : decode prog_1_method_5_code 38 = .ok (.iconst 0, 1) := by decide +kernel
theorem d5_39 : decode prog_1_method_5_code 39 = .ok (.istore 5, 2) := by decide +kernel
theorem d5_41 : decode prog_1_method_5_code 41 = .ok (.iconst 2, 1) := by decide +kernel
theorem d5_42 : decode prog_1_method_5_code 42 = .ok (.iload 5, 2) := by decide +kernel
theorem d5_44 : decode prog_1_method_5_code 44 = .ok (.imul, 1) := by decide +kernel
theorem d5_45 : decode prog_1_method_5_code 45 = .ok (.iconst 1, 1) := by decide +kernel
theorem d5_46 : decode prog_1_method_5_code 46 = .ok (.iadd, 1) := by decide +kernel
theorem d5_47 : decode prog_1_method_5_code 47 = .ok (.istore 6, 2) := by decide +kernel
theorem d5_49 : decode prog_1_method_5_code 49 = .ok (.iload 6, 2) := by decide +kernel
theorem d5_51 : decode prog_1_method_5_code 51 = .ok (.aload_n 0, 1) := by decide +kernel
theorem d5_52 : decode prog_1_method_5_code 52 = .ok (.getfield 17, 3) := by decide +kernel
theorem d5_55 : decode prog_1_method_5_code 55 = .ok (.if_icmp .lt 6, 3) := by decide +kernel
theorem d5_58 : decode prog_1_method_5_code 58 = .ok (.goto 87, 3) := by decide +kernel
theorem d5_145 : decode prog_1_method_5_code 145 = .ok (.aload_n 0, 1) := by decide +kernel
theorem d5_146 : decode prog_1_method_5_code 146 = .ok (.getfield 7, 3) := by decide +kernel
theorem d5_149 : decode prog_1_method_5_code 149 = .ok (.iload 5, 2) := by decide +kernel
theorem d5_151 : decode prog_1_method_5_code 151 = .ok (.dload_n 2, 1) := by decide +kernel
theorem d5_152 : decode prog_1_method_5_code 152 = .ok (.dastore, 1) := by decide +kernel
theorem d5_153 : decode prog_1_method_5_code 153 = .ok (.aload_n 0, 1) := by decide +kernel
theorem d5_154 : decode prog_1_method_5_code 154 = .ok (.getfield 13, 3) := by decide +kernel
theorem d5_157 : decode prog_1_method_5_code 157 = .ok (.iload 5, 2) := by decide +kernel
theorem d5_159 : decode prog_1_method_5_code 159 = .ok (.iload 4, 2) := by decide +kernel
theorem d5_161 : decode prog_1_method_5_code 161 = .ok (.iastore, 1) := by decide +kernel
theorem d5_162 : decode prog_1_method_5_code 162 = .ok (.iload_n 1, 1) := by decide +kernel
theorem d5_163 : decode prog_1_method_5_code 163 = .ok (.ireturn, 1) := by decide +kernel
set_option maxRecDepth 65536 in
set_option maxHeartbeats 40000000 in
theorem w_rem1 {p : Program} {l : Launch} {e : Env} {s : State} {m : MethodId} {args : Array Value} {below : List Frame} {meth : Method} {c_ : Code} {T0 : State} {locs : List Loc} {Z : State} {a0 : Array Value} {h0 : Heap} {n0 : Nat} (q u v : Addr) (g : Nat → UInt64) (l' : Nat → Int32) (T : Nat → UInt64) (Lp : Nat → Int32) (K : Nat → Int) (a : Nat → Nat)
    (X0 : Stand p l e ({ frames := 0, cells := 0, slots := 0, locals := 0 } : Room) s m args below meth c_ T0 locs 0 0) (hx : p.tables.exec = Jvm.exec) (hZ : Z.Warmed39 s.vm) (hw : ∀ d ∈ tables_1, d.before a0 Z = true) (hby : c_.code = prog_1_method_5_code) (hml : c_.maxLocals = 7) (hown : s.vm.findClass "com/example/wavegrade/wavegrade/DepartureQueue" = some m.cls) (hnm : meth.name = "removeFirst") (hret : meth.sig.returnType = some .int) (hlk : meth.locks = false) (e0 : T0.heap = h0) (Z0 : n0 ≤ h0.size) (N0 : Fr n0 locs) (E_q : Exa Z h0 q "com/example/wavegrade/wavegrade/DepartureQueue") (F_size_q : Fld Z h0 q "com/example/wavegrade/wavegrade/DepartureQueue" "size" "I" (.int (1 : Int32))) (F_times_q : Fld Z h0 q "com/example/wavegrade/wavegrade/DepartureQueue" "times" "[D" (.ref u)) (F_lightpaths_q : Fld Z h0 q "com/example/wavegrade/wavegrade/DepartureQueue" "lightpaths" "[I" (.ref v)) (V_u : Dv Z h0 u (64 : Int32) g) (V_v : Iv Z h0 v (64 : Int32) l') (ne_q_u : q ≠ u) (ne_q_v : q ≠ v) (ne_u_v : u ≠ v) (ge_q : n0 ≤ q) (ge_u : n0 ≤ u) (ge_v : n0 ≤ v) (hT : ∀ x y, FP.dcmp (T x) (T y) = some (compare (K x) (K y))) (hg : ∀ i, i < 1 → g i = T (a i)) (hl : ∀ i, i < 1 → l' i = Lp (a i)) (hi : HI K a 1) :
    Go p e below s ({ frames := 0, cells := 0, slots := 0, locals := 0 } : Room).cells ({ frames := 0, cells := 0, slots := 0, locals := 0 } : Room).slots (fun r h L => r = some (.int (Lp (a 0))) ∧ Fr n0 L ∧ Keep h0 h [q, u, v] ∧ Exa Z h q "com/example/wavegrade/wavegrade/DepartureQueue" ∧ Fld Z h q "com/example/wavegrade/wavegrade/DepartureQueue" "size" "I" (.int (0 : Int32)) ∧ Fld Z h q "com/example/wavegrade/wavegrade/DepartureQueue" "times" "[D" (.ref u) ∧ Fld Z h q "com/example/wavegrade/wavegrade/DepartureQueue" "lightpaths" "[I" (.ref v) ∧ ∃ (g2 : Nat → UInt64) (l2 : Nat → Int32) (a2 : Nat → Nat), Dv Z h u (64 : Int32) g2 ∧ Iv Z h v (64 : Int32) l2 ∧ (∀ i, i < 0 → g2 i = T (a2 i)) ∧ (∀ i, i < 0 → l2 i = Lp (a2 i)) ∧ HI K a2 0 ∧ ((∀ i, i < 0 → K (a 0) ≤ K (a2 i)) ∧ ∀ w : Nat → Int, sumA w a2 0 + w (a 0) = sumA w a 1) ∧ ∀ P : Nat → Prop, (∀ i, i < 1 → P (a i)) → ∀ i, i < 0 → P (a2 i)) T0 (mkF m 0 #[.val (.ref q), .unset, .unset, .unset, .unset, .unset, .unset] []) := by
  have hg0 := hg 0 (by decide)
  have hl0 := hl 0 (by decide)
  simp only [HI] at hi
  show Go _ _ _ _ _ _ _ T0 (mkF m 0 #[.val (.ref q), .unset, .unset, .unset, .unset, .unset, .unset] [])
  refine Go.step (fun _ k => XS.aloadN X0.here hx rfl (hb hby d5_0) rfl rfl k) ?_
  show Go _ _ _ _ _ _ _ T0 (mkF m 1 #[.val (.ref q), .unset, .unset, .unset, .unset, .unset, .unset] [(.ref q)])
  obtain ⟨T1, X1, e1, st1⟩ := getF X0 hx hZ hown (host := "") (Or.inl (hw _ (List.mem_of_getElem? (i := 13) rfl))) Via.refl e0 F_lightpaths_q (g := (mkF m 1 #[.val (.ref q), .unset, .unset, .unset, .unset, .unset, .unset] [(.ref q)])) rfl rfl (hb hby d5_1)
  refine Go.step st1 ?_
  show Go _ _ _ _ _ _ _ T1 (mkF m 4 #[.val (.ref q), .unset, .unset, .unset, .unset, .unset, .unset] [(.ref v)])
  refine Go.step (fun _ k => XS.iconst X1.here hx rfl (hb hby d5_4) k) ?_
  show Go _ _ _ _ _ _ _ T1 (mkF m 5 #[.val (.ref q), .unset, .unset, .unset, .unset, .unset, .unset] [(.int (0 : Int32)), (.ref v)])
  refine Go.iaload X1 hx hZ e1 V_v (j := (0 : Int32)) (v := (Lp (a 0))) (by decide) (by first | rfl | simp [updN, hg0, hl0]) (hb hby d5_5) ?_
  show Go _ _ _ _ _ _ _ T1 (mkF m 6 #[.val (.ref q), .unset, .unset, .unset, .unset, .unset, .unset] [(.int (Lp (a 0)))])
  refine Go.step (fun _ k => XS.istoreN X1.here hx rfl (hb hby d5_6) rfl (l' := #[.val (.ref q), .val (.int (Lp (a 0))), .unset, .unset, .unset, .unset, .unset]) rfl k) ?_
  show Go _ _ _ _ _ _ _ T1 (mkF m 7 #[.val (.ref q), .val (.int (Lp (a 0))), .unset, .unset, .unset, .unset, .unset] [])
  refine Go.step (fun _ k => XS.aloadN X1.here hx rfl (hb hby d5_7) rfl rfl k) ?_
  show Go _ _ _ _ _ _ _ T1 (mkF m 8 #[.val (.ref q), .val (.int (Lp (a 0))), .unset, .unset, .unset, .unset, .unset] [(.ref q)])
  refine Go.step (fun _ k => XS.dup X1.here hx rfl (hb hby d5_8) rfl rfl k) ?_
  show Go _ _ _ _ _ _ _ T1 (mkF m 9 #[.val (.ref q), .val (.int (Lp (a 0))), .unset, .unset, .unset, .unset, .unset] [(.ref q), (.ref q)])
  obtain ⟨T2, X2, e2, st2⟩ := getF X1 hx hZ hown (host := "") (Or.inl (hw _ (List.mem_of_getElem? (i := 20) rfl))) Via.refl e1 F_size_q (g := (mkF m 9 #[.val (.ref q), .val (.int (Lp (a 0))), .unset, .unset, .unset, .unset, .unset] [(.ref q), (.ref q)])) rfl rfl (hb hby d5_9)
  refine Go.step st2 ?_
  show Go _ _ _ _ _ _ _ T2 (mkF m 12 #[.val (.ref q), .val (.int (Lp (a 0))), .unset, .unset, .unset, .unset, .unset] [(.int (1 : Int32)), (.ref q)])
  refine Go.step (fun _ k => XS.iconst X2.here hx rfl (hb hby d5_12) k) ?_
  show Go _ _ _ _ _ _ _ T2 (mkF m 13 #[.val (.ref q), .val (.int (Lp (a 0))), .unset, .unset, .unset, .unset, .unset] [(.int (1 : Int32)), (.int (1 : Int32)), (.ref q)])
  refine Go.step (fun _ k => XS.isub X2.here hx rfl (hb hby d5_13) rfl k) ?_
  show Go _ _ _ _ _ _ _ T2 (mkF m 14 #[.val (.ref q), .val (.int (Lp (a 0))), .unset, .unset, .unset, .unset, .unset] [(.int (0 : Int32)), (.ref q)])
  obtain ⟨T3, h3, X3, e3, W3, st3⟩ := putF X2 hx hZ hown (host := "") (Or.inl (hw _ (List.mem_of_getElem? (i := 20) rfl))) Via.refl e2 F_size_q E_q (Or.inl (hw _ (List.mem_of_getElem? (i := 21) rfl))) (hw _ (List.mem_of_getElem? (i := 1) rfl)) (ty := .int) (by decide) rfl rfl (g := (mkF m 14 #[.val (.ref q), .val (.int (Lp (a 0))), .unset, .unset, .unset, .unset, .unset] [(.int (0 : Int32)), (.ref q)])) rfl rfl (hb hby d5_14)
  refine Go.step st3 ?_
  have N3 := Fr.snoc X3 N0 ge_q
  have F_size_q_3 := F_size_q.same W3
  have E_q_3 := E_q.wr W3
  have F_times_q_3 := F_times_q.other W3 (Or.inr (slot_ne (Or.inl (hw _ (List.mem_of_getElem? (i := 11) rfl))) (Or.inl (hw _ (List.mem_of_getElem? (i := 21) rfl))) (by decide) (t := (.array .double)) (t' := .int) (by decide) (by decide)))
  have F_lightpaths_q_3 := F_lightpaths_q.other W3 (Or.inr (slot_ne (Or.inl (hw _ (List.mem_of_getElem? (i := 14) rfl))) (Or.inl (hw _ (List.mem_of_getElem? (i := 21) rfl))) (by decide) (t := (.array .int)) (t' := .int) (by decide) (by decide)))
  have V_u_3 := V_u.other W3 (Ne.symm ne_q_u)
  have V_v_3 := V_v.other W3 (Ne.symm ne_q_v)
  have K3 : Keep h0 h3 [q, u, v] := (Keep.refl h0 [q, u, v]).wr W3 (Or.inl (List.mem_of_getElem? (i := 0) rfl))
  show Go _ _ _ _ _ _ _ T3 (mkF m 17 #[.val (.ref q), .val (.int (Lp (a 0))), .unset, .unset, .unset, .unset, .unset] [])
  refine Go.step (fun _ k => XS.aloadN X3.here hx rfl (hb hby d5_17) rfl rfl k) ?_
  show Go _ _ _ _ _ _ _ T3 (mkF m 18 #[.val (.ref q), .val (.int (Lp (a 0))), .unset, .unset, .unset, .unset, .unset] [(.ref q)])
  obtain ⟨T4, X4, e4, st4⟩ := getF X3 hx hZ hown (host := "") (Or.inl (hw _ (List.mem_of_getElem? (i := 10) rfl))) Via.refl e3 F_times_q_3 (g := (mkF m 18 #[.val (.ref q), .val (.int (Lp (a 0))), .unset, .unset, .unset, .unset, .unset] [(.ref q)])) rfl rfl (hb hby d5_18)
  refine Go.step st4 ?_
  show Go _ _ _ _ _ _ _ T4 (mkF m 21 #[.val (.ref q), .val (.int (Lp (a 0))), .unset, .unset, .unset, .unset, .unset] [(.ref u)])
  refine Go.step (fun _ k => XS.aloadN X4.here hx rfl (hb hby d5_21) rfl rfl k) ?_
  show Go _ _ _ _ _ _ _ T4 (mkF m 22 #[.val (.ref q), .val (.int (Lp (a 0))), .unset, .unset, .unset, .unset, .unset] [(.ref q), (.ref u)])
  obtain ⟨T5, X5, e5, st5⟩ := getF X4 hx hZ hown (host := "") (Or.inl (hw _ (List.mem_of_getElem? (i := 20) rfl))) Via.refl e4 F_size_q_3 (g := (mkF m 22 #[.val (.ref q), .val (.int (Lp (a 0))), .unset, .unset, .unset, .unset, .unset] [(.ref q), (.ref u)])) rfl rfl (hb hby d5_22)
  refine Go.step st5 ?_
  show Go _ _ _ _ _ _ _ T5 (mkF m 25 #[.val (.ref q), .val (.int (Lp (a 0))), .unset, .unset, .unset, .unset, .unset] [(.int (0 : Int32)), (.ref u)])
  refine Go.daload X5 hx hZ e5 V_u_3 (j := (0 : Int32)) (v := (T (a 0))) (by decide) (by first | rfl | simp [updN, hg0, hl0]) (hb hby d5_25) ?_
  show Go _ _ _ _ _ _ _ T5 (mkF m 26 #[.val (.ref q), .val (.int (Lp (a 0))), .unset, .unset, .unset, .unset, .unset] [(.double (T (a 0)))])
  refine Go.step (fun _ k => XS.dstoreN X5.here hx rfl (hb hby d5_26) rfl (l' := #[.val (.ref q), .val (.int (Lp (a 0))), .val (.double (T (a 0))), .second, .unset, .unset, .unset]) rfl k) ?_
  show Go _ _ _ _ _ _ _ T5 (mkF m 27 #[.val (.ref q), .val (.int (Lp (a 0))), .val (.double (T (a 0))), .second, .unset, .unset, .unset] [])
  refine Go.step (fun _ k => XS.aloadN X5.here hx rfl (hb hby d5_27) rfl rfl k) ?_
  show Go _ _ _ _ _ _ _ T5 (mkF m 28 #[.val (.ref q), .val (.int (Lp (a 0))), .val (.double (T (a 0))), .second, .unset, .unset, .unset] [(.ref q)])
  obtain ⟨T6, X6, e6, st6⟩ := getF X5 hx hZ hown (host := "") (Or.inl (hw _ (List.mem_of_getElem? (i := 13) rfl))) Via.refl e5 F_lightpaths_q_3 (g := (mkF m 28 #[.val (.ref q), .val (.int (Lp (a 0))), .val (.double (T (a 0))), .second, .unset, .unset, .unset] [(.ref q)])) rfl rfl (hb hby d5_28)
  refine Go.step st6 ?_
  show Go _ _ _ _ _ _ _ T6 (mkF m 31 #[.val (.ref q), .val (.int (Lp (a 0))), .val (.double (T (a 0))), .second, .unset, .unset, .unset] [(.ref v)])
  refine Go.step (fun _ k => XS.aloadN X6.here hx rfl (hb hby d5_31) rfl rfl k) ?_
  show Go _ _ _ _ _ _ _ T6 (mkF m 32 #[.val (.ref q), .val (.int (Lp (a 0))), .val (.double (T (a 0))), .second, .unset, .unset, .unset] [(.ref q), (.ref v)])
  obtain ⟨T7, X7, e7, st7⟩ := getF X6 hx hZ hown (host := "") (Or.inl (hw _ (List.mem_of_getElem? (i := 20) rfl))) Via.refl e6 F_size_q_3 (g := (mkF m 32 #[.val (.ref q), .val (.int (Lp (a 0))), .val (.double (T (a 0))), .second, .unset, .unset, .unset] [(.ref q), (.ref v)])) rfl rfl (hb hby d5_32)
  refine Go.step st7 ?_
  show Go _ _ _ _ _ _ _ T7 (mkF m 35 #[.val (.ref q), .val (.int (Lp (a 0))), .val (.double (T (a 0))), .second, .unset, .unset, .unset] [(.int (0 : Int32)), (.ref v)])
  refine Go.iaload X7 hx hZ e7 V_v_3 (j := (0 : Int32)) (v := (Lp (a 0))) (by decide) (by first | rfl | simp [updN, hg0, hl0]) (hb hby d5_35) ?_
  show Go _ _ _ _ _ _ _ T7 (mkF m 36 #[.val (.ref q), .val (.int (Lp (a 0))), .val (.double (T (a 0))), .second, .unset, .unset, .unset] [(.int (Lp (a 0)))])
  refine Go.step (fun _ k => XS.istore X7.here hx rfl (hb hby d5_36) rfl (l' := #[.val (.ref q), .val (.int (Lp (a 0))), .val (.double (T (a 0))), .second, .val (.int (Lp (a 0))), .unset, .unset]) rfl k) ?_
  show Go _ _ _ _ _ _ _ T7 (mkF m 38 #[.val (.ref q), .val (.int (Lp (a 0))), .val (.double (T (a 0))), .second, .val (.int (Lp (a 0))), .unset, .unset] [])
  refine Go.step (fun _ k => XS.iconst X7.here hx rfl (hb hby d5_38) k) ?_
  show Go _ _ _ _ _ _ _ T7 (mkF m 39 #[.val (.ref q), .val (.int (Lp (a 0))), .val (.double (T (a 0))), .second, .val (.int (Lp (a 0))), .unset, .unset] [(.int (0 : Int32))])
  refine Go.step (fun _ k => XS.istore X7.here hx rfl (hb hby d5_39) rfl (l' := #[.val (.ref q), .val (.int (Lp (a 0))), .val (.double (T (a 0))), .second, .val (.int (Lp (a 0))), .val (.int (0 : Int32)), .unset]) rfl k) ?_
  show Go _ _ _ _ _ _ _ T7 (mkF m 41 #[.val (.ref q), .val (.int (Lp (a 0))), .val (.double (T (a 0))), .second, .val (.int (Lp (a 0))), .val (.int (0 : Int32)), .unset] [])
  refine Go.step (fun _ k => XS.iconst X7.here hx rfl (hb hby d5_41) k) ?_
  show Go _ _ _ _ _ _ _ T7 (mkF m 42 #[.val (.ref q), .val (.int (Lp (a 0))), .val (.double (T (a 0))), .second, .val (.int (Lp (a 0))), .val (.int (0 : Int32)), .unset] [(.int (2 : Int32))])
  refine Go.step (fun _ k => XS.iload X7.here hx rfl (hb hby d5_42) rfl k) ?_
  show Go _ _ _ _ _ _ _ T7 (mkF m 44 #[.val (.ref q), .val (.int (Lp (a 0))), .val (.double (T (a 0))), .second, .val (.int (Lp (a 0))), .val (.int (0 : Int32)), .unset] [(.int (0 : Int32)), (.int (2 : Int32))])
  refine Go.step (fun _ k => XS.imul X7.here hx rfl (hb hby d5_44) rfl k) ?_
  show Go _ _ _ _ _ _ _ T7 (mkF m 45 #[.val (.ref q), .val (.int (Lp (a 0))), .val (.double (T (a 0))), .second, .val (.int (Lp (a 0))), .val (.int (0 : Int32)), .unset] [(.int (0 : Int32))])
  refine Go.step (fun _ k => XS.iconst X7.here hx rfl (hb hby d5_45) k) ?_
  show Go _ _ _ _ _ _ _ T7 (mkF m 46 #[.val (.ref q), .val (.int (Lp (a 0))), .val (.double (T (a 0))), .second, .val (.int (Lp (a 0))), .val (.int (0 : Int32)), .unset] [(.int (1 : Int32)), (.int (0 : Int32))])
  refine Go.step (fun _ k => XS.iadd X7.here hx rfl (hb hby d5_46) rfl k) ?_
  show Go _ _ _ _ _ _ _ T7 (mkF m 47 #[.val (.ref q), .val (.int (Lp (a 0))), .val (.double (T (a 0))), .second, .val (.int (Lp (a 0))), .val (.int (0 : Int32)), .unset] [(.int (1 : Int32))])
  refine Go.step (fun _ k => XS.istore X7.here hx rfl (hb hby d5_47) rfl (l' := #[.val (.ref q), .val (.int (Lp (a 0))), .val (.double (T (a 0))), .second, .val (.int (Lp (a 0))), .val (.int (0 : Int32)), .val (.int (1 : Int32))]) rfl k) ?_
  show Go _ _ _ _ _ _ _ T7 (mkF m 49 #[.val (.ref q), .val (.int (Lp (a 0))), .val (.double (T (a 0))), .second, .val (.int (Lp (a 0))), .val (.int (0 : Int32)), .val (.int (1 : Int32))] [])
  refine Go.step (fun _ k => XS.iload X7.here hx rfl (hb hby d5_49) rfl k) ?_
  show Go _ _ _ _ _ _ _ T7 (mkF m 51 #[.val (.ref q), .val (.int (Lp (a 0))), .val (.double (T (a 0))), .second, .val (.int (Lp (a 0))), .val (.int (0 : Int32)), .val (.int (1 : Int32))] [(.int (1 : Int32))])
  refine Go.step (fun _ k => XS.aloadN X7.here hx rfl (hb hby d5_51) rfl rfl k) ?_
  show Go _ _ _ _ _ _ _ T7 (mkF m 52 #[.val (.ref q), .val (.int (Lp (a 0))), .val (.double (T (a 0))), .second, .val (.int (Lp (a 0))), .val (.int (0 : Int32)), .val (.int (1 : Int32))] [(.ref q), (.int (1 : Int32))])
  obtain ⟨T8, X8, e8, st8⟩ := getF X7 hx hZ hown (host := "") (Or.inl (hw _ (List.mem_of_getElem? (i := 20) rfl))) Via.refl e7 F_size_q_3 (g := (mkF m 52 #[.val (.ref q), .val (.int (Lp (a 0))), .val (.double (T (a 0))), .second, .val (.int (Lp (a 0))), .val (.int (0 : Int32)), .val (.int (1 : Int32))] [(.ref q), (.int (1 : Int32))])) rfl rfl (hb hby d5_52)
  refine Go.step st8 ?_
  show Go _ _ _ _ _ _ _ T8 (mkF m 55 #[.val (.ref q), .val (.int (Lp (a 0))), .val (.double (T (a 0))), .second, .val (.int (Lp (a 0))), .val (.int (0 : Int32)), .val (.int (1 : Int32))] [(.int (0 : Int32)), (.int (1 : Int32))])
  refine Go.step (fun _ k => XS.icmpNo X8.here hx rfl (hb hby d5_55) rfl (flt (by decide : ¬ ((1 : Int32) < (0 : Int32)))).1 k) ?_
  show Go _ _ _ _ _ _ _ T8 (mkF m 58 #[.val (.ref q), .val (.int (Lp (a 0))), .val (.double (T (a 0))), .second, .val (.int (Lp (a 0))), .val (.int (0 : Int32)), .val (.int (1 : Int32))] [])
  refine Go.step (fun _ k => XS.goto X8.here hx rfl (pc0 := 58) (pc' := 145) rfl (hb hby d5_58) (by decide) (by decide) k) ?_
  show Go _ _ _ _ _ _ _ T8 (mkF m 145 #[.val (.ref q), .val (.int (Lp (a 0))), .val (.double (T (a 0))), .second, .val (.int (Lp (a 0))), .val (.int (0 : Int32)), .val (.int (1 : Int32))] [])
  refine Go.step (fun _ k => XS.aloadN X8.here hx rfl (hb hby d5_145) rfl rfl k) ?_
  show Go _ _ _ _ _ _ _ T8 (mkF m 146 #[.val (.ref q), .val (.int (Lp (a 0))), .val (.double (T (a 0))), .second, .val (.int (Lp (a 0))), .val (.int (0 : Int32)), .val (.int (1 : Int32))] [(.ref q)])
  obtain ⟨T9, X9, e9, st9⟩ := getF X8 hx hZ hown (host := "") (Or.inl (hw _ (List.mem_of_getElem? (i := 10) rfl))) Via.refl e8 F_times_q_3 (g := (mkF m 146 #[.val (.ref q), .val (.int (Lp (a 0))), .val (.double (T (a 0))), .second, .val (.int (Lp (a 0))), .val (.int (0 : Int32)), .val (.int (1 : Int32))] [(.ref q)])) rfl rfl (hb hby d5_146)
  refine Go.step st9 ?_
  show Go _ _ _ _ _ _ _ T9 (mkF m 149 #[.val (.ref q), .val (.int (Lp (a 0))), .val (.double (T (a 0))), .second, .val (.int (Lp (a 0))), .val (.int (0 : Int32)), .val (.int (1 : Int32))] [(.ref u)])
  refine Go.step (fun _ k => XS.iload X9.here hx rfl (hb hby d5_149) rfl k) ?_
  show Go _ _ _ _ _ _ _ T9 (mkF m 151 #[.val (.ref q), .val (.int (Lp (a 0))), .val (.double (T (a 0))), .second, .val (.int (Lp (a 0))), .val (.int (0 : Int32)), .val (.int (1 : Int32))] [(.int (0 : Int32)), (.ref u)])
  refine Go.step (fun _ k => XS.dloadN X9.here hx rfl (hb hby d5_151) rfl k) ?_
  show Go _ _ _ _ _ _ _ T9 (mkF m 152 #[.val (.ref q), .val (.int (Lp (a 0))), .val (.double (T (a 0))), .second, .val (.int (Lp (a 0))), .val (.int (0 : Int32)), .val (.int (1 : Int32))] [(.double (T (a 0))), (.int (0 : Int32)), (.ref u)])
  refine Go.dastore X9 hx hZ e9 V_u_3 (j := (0 : Int32)) (x := (T (a 0))) (by decide) (hb hby d5_152) ?_
  intro T10 h10 X10 e10 W10 Vn10
  have V_u_10 : Dv Z h10 u (64 : Int32) (updN g 0 (T (a 0))) := Vn10
  have N10 := Fr.snoc X10 N3 ge_u
  have E_q_10 := E_q_3.wr W10
  have F_size_q_10 := F_size_q_3.other W10 (Or.inl ne_q_u)
  have F_times_q_10 := F_times_q_3.other W10 (Or.inl ne_q_u)
  have F_lightpaths_q_10 := F_lightpaths_q_3.other W10 (Or.inl ne_q_u)
  have V_v_10 := V_v_3.other W10 (Ne.symm ne_u_v)
  have K10 : Keep h0 h10 [q, u, v] := K3.wr W10 (Or.inl (List.mem_of_getElem? (i := 1) rfl))
  show Go _ _ _ _ _ _ _ T10 (mkF m 153 #[.val (.ref q), .val (.int (Lp (a 0))), .val (.double (T (a 0))), .second, .val (.int (Lp (a 0))), .val (.int (0 : Int32)), .val (.int (1 : Int32))] [])
  refine Go.step (fun _ k => XS.aloadN X10.here hx rfl (hb hby d5_153) rfl rfl k) ?_
  show Go _ _ _ _ _ _ _ T10 (mkF m 154 #[.val (.ref q), .val (.int (Lp (a 0))), .val (.double (T (a 0))), .second, .val (.int (Lp (a 0))), .val (.int (0 : Int32)), .val (.int (1 : Int32))] [(.ref q)])
  obtain ⟨T11, X11, e11, st11⟩ := getF X10 hx hZ hown (host := "") (Or.inl (hw _ (List.mem_of_getElem? (i := 13) rfl))) Via.refl e10 F_lightpaths_q_10 (g := (mkF m 154 #[.val (.ref q), .val (.int (Lp (a 0))), .val (.double (T (a 0))), .second, .val (.int (Lp (a 0))), .val (.int (0 : Int32)), .val (.int (1 : Int32))] [(.ref q)])) rfl rfl (hb hby d5_154)
  refine Go.step st11 ?_
  show Go _ _ _ _ _ _ _ T11 (mkF m 157 #[.val (.ref q), .val (.int (Lp (a 0))), .val (.double (T (a 0))), .second, .val (.int (Lp (a 0))), .val (.int (0 : Int32)), .val (.int (1 : Int32))] [(.ref v)])
  refine Go.step (fun _ k => XS.iload X11.here hx rfl (hb hby d5_157) rfl k) ?_
  show Go _ _ _ _ _ _ _ T11 (mkF m 159 #[.val (.ref q), .val (.int (Lp (a 0))), .val (.double (T (a 0))), .second, .val (.int (Lp (a 0))), .val (.int (0 : Int32)), .val (.int (1 : Int32))] [(.int (0 : Int32)), (.ref v)])
  refine Go.step (fun _ k => XS.iload X11.here hx rfl (hb hby d5_159) rfl k) ?_
  show Go _ _ _ _ _ _ _ T11 (mkF m 161 #[.val (.ref q), .val (.int (Lp (a 0))), .val (.double (T (a 0))), .second, .val (.int (Lp (a 0))), .val (.int (0 : Int32)), .val (.int (1 : Int32))] [(.int (Lp (a 0))), (.int (0 : Int32)), (.ref v)])
  refine Go.iastore X11 hx hZ e11 V_v_10 (j := (0 : Int32)) (x := (Lp (a 0))) (by decide) (hb hby d5_161) ?_
  intro T12 h12 X12 e12 W12 Vn12
  have V_v_12 : Iv Z h12 v (64 : Int32) (updN l' 0 (Lp (a 0))) := Vn12
  have N12 := Fr.snoc X12 N10 ge_v
  have E_q_12 := E_q_10.wr W12
  have F_size_q_12 := F_size_q_10.other W12 (Or.inl ne_q_v)
  have F_times_q_12 := F_times_q_10.other W12 (Or.inl ne_q_v)
  have F_lightpaths_q_12 := F_lightpaths_q_10.other W12 (Or.inl ne_q_v)
  have V_u_12 := V_u_10.other W12 ne_u_v
  have K12 : Keep h0 h12 [q, u, v] := K10.wr W12 (Or.inl (List.mem_of_getElem? (i := 2) rfl))
  show Go _ _ _ _ _ _ _ T12 (mkF m 162 #[.val (.ref q), .val (.int (Lp (a 0))), .val (.double (T (a 0))), .second, .val (.int (Lp (a 0))), .val (.int (0 : Int32)), .val (.int (1 : Int32))] [])
  refine Go.step (fun _ k => XS.iloadN X12.here hx rfl (hb hby d5_162) rfl k) ?_
  show Go _ _ _ _ _ _ _ T12 (mkF m 163 #[.val (.ref q), .val (.int (Lp (a 0))), .val (.double (T (a 0))), .second, .val (.int (Lp (a 0))), .val (.int (0 : Int32)), .val (.int (1 : Int32))] [(.int (Lp (a 0)))])
  refine Go.retI X12 hx hlk hret (hb hby d5_163) (by decide) (by decide) ?_
  try rw [e12]
  refine ⟨rfl, N12, K12, E_q_12, F_size_q_12, F_times_q_12, F_lightpaths_q_12, _, _, (updN a 0 (a 0)), V_u_12, V_v_12, fun i hi' => absurd hi' (by omega), fun i hi' => absurd hi' (by omega), ?_, ?_, fun P hP => ?_⟩
  · simp only [HI, updN]; try simp; try omega
  · exact ⟨fun i hi' => by omega, fun w => by simp [sumA, updN]; try omega⟩
  · intro i hi'; omega
theorem ef_rm_rem1 (m : MethodId) (q : Addr) : entryFrame m #[(.ref q)] 7 = mkF m 0 #[.val (.ref q), .unset, .unset, .unset, .unset, .unset, .unset] [] := by first | (simp [entryFrame, mkF, argsToLocals, Value.category]; done) | rfl
theorem rm_rem1 (l : Launch) (Z : State) (a0 : Array Value) (hw : ∀ d ∈ tables_1, d.before a0 Z = true) (q u v : Addr) (g : Nat → UInt64) (l' : Nat → Int32) (T : Nat → UInt64) (Lp : Nat → Int32) (K : Nat → Int) (a : Nat → Nat) (h0 : Heap) (n0 : Nat) (Z0 : n0 ≤ h0.size) (E_q : Exa Z h0 q "com/example/wavegrade/wavegrade/DepartureQueue") (F_size_q : Fld Z h0 q "com/example/wavegrade/wavegrade/DepartureQueue" "size" "I" (.int (1 : Int32))) (F_times_q : Fld Z h0 q "com/example/wavegrade/wavegrade/DepartureQueue" "times" "[D" (.ref u)) (F_lightpaths_q : Fld Z h0 q "com/example/wavegrade/wavegrade/DepartureQueue" "lightpaths" "[I" (.ref v)) (V_u : Dv Z h0 u (64 : Int32) g) (V_v : Iv Z h0 v (64 : Int32) l') (ne_q_u : q ≠ u) (ne_q_v : q ≠ v) (ne_u_v : u ≠ v) (ge_q : n0 ≤ q) (ge_u : n0 ≤ u) (ge_v : n0 ≤ v) (hT : ∀ x y, FP.dcmp (T x) (T y) = some (compare (K x) (K y))) (hg : ∀ i, i < 1 → g i = T (a i)) (hl : ∀ i, i < 1 → l' i = Lp (a i)) (hi : HI K a 1) :
    Con l Z (⟨"com/example/wavegrade/wavegrade/DepartureQueue", "removeFirst", "()I"⟩ : MethodName) prog_1_method_5_code 7 (some .int) ({ frames := 0, cells := 0, slots := 0, locals := 0 } : Room) #[(.ref q)] h0 (fun r h L => r = some (.int (Lp (a 0))) ∧ Fr n0 L ∧ Keep h0 h [q, u, v] ∧ Exa Z h q "com/example/wavegrade/wavegrade/DepartureQueue" ∧ Fld Z h q "com/example/wavegrade/wavegrade/DepartureQueue" "size" "I" (.int (0 : Int32)) ∧ Fld Z h q "com/example/wavegrade/wavegrade/DepartureQueue" "times" "[D" (.ref u) ∧ Fld Z h q "com/example/wavegrade/wavegrade/DepartureQueue" "lightpaths" "[I" (.ref v) ∧ ∃ (g2 : Nat → UInt64) (l2 : Nat → Int32) (a2 : Nat → Nat), Dv Z h u (64 : Int32) g2 ∧ Iv Z h v (64 : Int32) l2 ∧ (∀ i, i < 0 → g2 i = T (a2 i)) ∧ (∀ i, i < 0 → l2 i = Lp (a2 i)) ∧ HI K a2 0 ∧ ((∀ i, i < 0 → K (a 0) ≤ K (a2 i)) ∧ ∀ w : Nat → Int, sumA w a2 0 + w (a 0) = sumA w a 1) ∧ ∀ P : Nat → Prop, (∀ i, i < 1 → P (a i)) → ∀ i, i < 0 → P (a2 i)) :=
  con_of (plainFor_of_name pn_1) (fun p_ e_ s_ m_ b_ meth_ c_ T_ X_ hx hZ hby hml hown hnm hret hlk e0 => Go.cast (ef_rm_rem1 m_ q) (w_rem1 q u v g l' T Lp K a X_ hx hZ hw hby hml hown hnm hret hlk e0 Z0 (Fr.nil n0) E_q F_size_q F_times_q F_lightpaths_q V_u V_v ne_q_u ne_q_v ne_u_v ge_q ge_u ge_v hT hg hl hi))
set_option maxRecDepth 65536 in
set_option maxHeartbeats 40000000 in
theorem w_rem2 {p : Program} {l : Launch} {e : Env} {s : State} {m : MethodId} {args : Array Value} {below : List Frame} {meth : Method} {c_ : Code} {T0 : State} {locs : List Loc} {Z : State} {a0 : Array Value} {h0 : Heap} {n0 : Nat} (q u v : Addr) (g : Nat → UInt64) (l' : Nat → Int32) (T : Nat → UInt64) (Lp : Nat → Int32) (K : Nat → Int) (a : Nat → Nat)
    (X0 : Stand p l e ({ frames := 0, cells := 0, slots := 0, locals := 0 } : Room) s m args below meth c_ T0 locs 0 0) (hx : p.tables.exec = Jvm.exec) (hZ : Z.Warmed39 s.vm) (hw : ∀ d ∈ tables_1, d.before a0 Z = true) (hby : c_.code = prog_1_method_5_code) (hml : c_.maxLocals = 7) (hown : s.vm.findClass "com/example/wavegrade/wavegrade/DepartureQueue" = some m.cls) (hnm : meth.name = "removeFirst") (hret : meth.sig.returnType = some .int) (hlk : meth.locks = false) (e0 : T0.heap = h0) (Z0 : n0 ≤ h0.size) (N0 : Fr n0 locs) (E_q : Exa Z h0 q "com/example/wavegrade/wavegrade/DepartureQueue") (F_size_q : Fld Z h0 q "com/example/wavegrade/wavegrade/DepartureQueue" "size" "I" (.int (2 : Int32))) (F_times_q : Fld Z h0 q "com/example/wavegrade/wavegrade/DepartureQueue" "times" "[D" (.ref u)) (F_lightpaths_q : Fld Z h0 q "com/example/wavegrade/wavegrade/DepartureQueue" "lightpaths" "[I" (.ref v)) (V_u : Dv Z h0 u (64 : Int32) g) (V_v : Iv Z h0 v (64 : Int32) l') (ne_q_u : q ≠ u) (ne_q_v : q ≠ v) (ne_u_v : u ≠ v) (ge_q : n0 ≤ q) (ge_u : n0 ≤ u) (ge_v : n0 ≤ v) (hT : ∀ x y, FP.dcmp (T x) (T y) = some (compare (K x) (K y))) (hg : ∀ i, i < 2 → g i = T (a i)) (hl : ∀ i, i < 2 → l' i = Lp (a i)) (hi : HI K a 2) :
    Go p e below s ({ frames := 0, cells := 0, slots := 0, locals := 0 } : Room).cells ({ frames := 0, cells := 0, slots := 0, locals := 0 } : Room).slots (fun r h L => r = some (.int (Lp (a 0))) ∧ Fr n0 L ∧ Keep h0 h [q, u, v] ∧ Exa Z h q "com/example/wavegrade/wavegrade/DepartureQueue" ∧ Fld Z h q "com/example/wavegrade/wavegrade/DepartureQueue" "size" "I" (.int (1 : Int32)) ∧ Fld Z h q "com/example/wavegrade/wavegrade/DepartureQueue" "times" "[D" (.ref u) ∧ Fld Z h q "com/example/wavegrade/wavegrade/DepartureQueue" "lightpaths" "[I" (.ref v) ∧ ∃ (g2 : Nat → UInt64) (l2 : Nat → Int32) (a2 : Nat → Nat), Dv Z h u (64 : Int32) g2 ∧ Iv Z h v (64 : Int32) l2 ∧ (∀ i, i < 1 → g2 i = T (a2 i)) ∧ (∀ i, i < 1 → l2 i = Lp (a2 i)) ∧ HI K a2 1 ∧ ((∀ i, i < 1 → K (a 0) ≤ K (a2 i)) ∧ ∀ w : Nat → Int, sumA w a2 1 + w (a 0) = sumA w a 2) ∧ ∀ P : Nat → Prop, (∀ i, i < 2 → P (a i)) → ∀ i, i < 1 → P (a2 i)) T0 (mkF m 0 #[.val (.ref q), .unset, .unset, .unset, .unset, .unset, .unset] []) := by
  have hg0 := hg 0 (by decide)
  have hg1 := hg 1 (by decide)
  have hl0 := hl 0 (by decide)
  have hl1 := hl 1 (by decide)
  simp only [HI] at hi
  show Go _ _ _ _ _ _ _ T0 (mkF m 0 #[.val (.ref q), .unset, .unset, .unset, .unset, .unset, .unset] [])
  refine Go.step (fun _ k => XS.aloadN X0.here hx rfl (hb hby d5_0) rfl rfl k) ?_
  show Go _ _ _ _ _ _ _ T0 (mkF m 1 #[.val (.ref q), .unset, .unset, .unset, .unset, .unset, .unset] [(.ref q)])
  obtain ⟨T1, X1, e1, st1⟩ := getF X0 hx hZ hown (host := "") (Or.inl (hw _ (List.mem_of_getElem? (i := 13) rfl))) Via.refl e0 F_lightpaths_q (g := (mkF m 1 #[.val (.ref q), .unset, .unset, .unset, .unset, .unset, .unset] [(.ref q)])) rfl rfl (hb hby d5_1)
  refine Go.step st1 ?_
  show Go _ _ _ _ _ _ _ T1 (mkF m 4 #[.val (.ref q), .unset, .unset, .unset, .unset, .unset, .unset] [(.ref v)])
  refine Go.step (fun _ k => XS.iconst X1.here hx rfl (hb hby d5_4) k) ?_
  show Go _ _ _ _ _ _ _ T1 (mkF m 5 #[.val (.ref q), .unset, .unset, .unset, .unset, .unset, .unset] [(.int (0 : Int32)), (.ref v)])
  refine Go.iaload X1 hx hZ e1 V_v (j := (0 : Int32)) (v := (Lp (a 0))) (by decide) (by first | rfl | simp [updN, hg0, hg1, hl0, hl1]) (hb hby d5_5) ?_
  show Go _ _ _ _ _ _ _ T1 (mkF m 6 #[.val (.ref q), .unset, .unset, .unset, .unset, .unset, .unset] [(.int (Lp (a 0)))])
  refine Go.step (fun _ k => XS.istoreN X1.here hx rfl (hb hby d5_6) rfl (l' := #[.val (.ref q), .val (.int (Lp (a 0))), .unset, .unset, .unset, .unset, .unset]) rfl k) ?_
  show Go _ _ _ _ _ _ _ T1 (mkF m 7 #[.val (.ref q), .val (.int (Lp (a 0))), .unset, .unset, .unset, .unset, .unset] [])
  refine Go.step (fun _ k => XS.aloadN X1.here hx rfl (hb hby d5_7) rfl rfl k) ?_
  show Go _ _ _ _ _ _ _ T1 (mkF m 8 #[.val (.ref q), .val (.int (Lp (a 0))), .unset, .unset, .unset, .unset, .unset] [(.ref q)])
  refine Go.step (fun _ k => XS.dup X1.here hx rfl (hb hby d5_8) rfl rfl k) ?_
  show Go _ _ _ _ _ _ _ T1 (mkF m 9 #[.val (.ref q), .val (.int (Lp (a 0))), .unset, .unset, .unset, .unset, .unset] [(.ref q), (.ref q)])
  obtain ⟨T2, X2, e2, st2⟩ := getF X1 hx hZ hown (host := "") (Or.inl (hw _ (List.mem_of_getElem? (i := 20) rfl))) Via.refl e1 F_size_q (g := (mkF m 9 #[.val (.ref q), .val (.int (Lp (a 0))), .unset, .unset, .unset, .unset, .unset] [(.ref q), (.ref q)])) rfl rfl (hb hby d5_9)
  refine Go.step st2 ?_
  show Go _ _ _ _ _ _ _ T2 (mkF m 12 #[.val (.ref q), .val (.int (Lp (a 0))), .unset, .unset, .unset, .unset, .unset] [(.int (2 : Int32)), (.ref q)])
  refine Go.step (fun _ k => XS.iconst X2.here hx rfl (hb hby d5_12) k) ?_
  show Go _ _ _ _ _ _ _ T2 (mkF m 13 #[.val (.ref q), .val (.int (Lp (a 0))), .unset, .unset, .unset, .unset, .unset] [(.int (1 : Int32)), (.int (2 : Int32)), (.ref q)])
  refine Go.step (fun _ k => XS.isub X2.here hx rfl (hb hby d5_13) rfl k) ?_
  show Go _ _ _ _ _ _ _ T2 (mkF m 14 #[.val (.ref q), .val (.int (Lp (a 0))), .unset, .unset, .unset, .unset, .unset] [(.int (1 : Int32)), (.ref q)])
  obtain ⟨T3, h3, X3, e3, W3, st3⟩ := putF X2 hx hZ hown (host := "") (Or.inl (hw _ (List.mem_of_getElem? (i := 20) rfl))) Via.refl e2 F_size_q E_q (Or.inl (hw _ (List.mem_of_getElem? (i := 21) rfl))) (hw _ (List.mem_of_getElem? (i := 1) rfl)) (ty := .int) (by decide) rfl rfl (g := (mkF m 14 #[.val (.ref q), .val (.int (Lp (a 0))), .unset, .unset, .unset, .unset, .unset] [(.int (1 : Int32)), (.ref q)])) rfl rfl (hb hby d5_14)
  refine Go.step st3 ?_
  have N3 := Fr.snoc X3 N0 ge_q
  have F_size_q_3 := F_size_q.same W3
  have E_q_3 := E_q.wr W3
  have F_times_q_3 := F_times_q.other W3 (Or.inr (slot_ne (Or.inl (hw _ (List.mem_of_getElem? (i := 11) rfl))) (Or.inl (hw _ (List.mem_of_getElem? (i := 21) rfl))) (by decide) (t := (.array .double)) (t' := .int) (by decide) (by decide)))
  have F_lightpaths_q_3 := F_lightpaths_q.other W3 (Or.inr (slot_ne (Or.inl (hw _ (List.mem_of_getElem? (i := 14) rfl))) (Or.inl (hw _ (List.mem_of_getElem? (i := 21) rfl))) (by decide) (t := (.array .int)) (t' := .int) (by decide) (by decide)))
  have V_u_3 := V_u.other W3 (Ne.symm ne_q_u)
  have V_v_3 := V_v.other W3 (Ne.symm ne_q_v)
  have K3 : Keep h0 h3 [q, u, v] := (Keep.refl h0 [q, u, v]).wr W3 (Or.inl (List.mem_of_getElem? (i := 0) rfl))
  show Go _ _ _ _ _ _ _ T3 (mkF m 17 #[.val (.ref q), .val (.int (Lp (a 0))), .unset, .unset, .unset, .unset, .unset] [])
  refine Go.step (fun _ k => XS.aloadN X3.here hx rfl (hb hby d5_17) rfl rfl k) ?_
  show Go _ _ _ _ _ _ _ T3 (mkF m 18 #[.val (.ref q), .val (.int (Lp (a 0))), .unset, .unset, .unset, .unset, .unset] [(.ref q)])
  obtain ⟨T4, X4, e4, st4⟩ := getF X3 hx hZ hown (host := "") (Or.inl (hw _ (List.mem_of_getElem? (i := 10) rfl))) Via.refl e3 F_times_q_3 (g := (mkF m 18 #[.val (.ref q), .val (.int (Lp (a 0))), .unset, .unset, .unset, .unset, .unset] [(.ref q)])) rfl rfl (hb hby d5_18)
  refine Go.step st4 ?_
  show Go _ _ _ _ _ _ _ T4 (mkF m 21 #[.val (.ref q), .val (.int (Lp (a 0))), .unset, .unset, .unset, .unset, .unset] [(.ref u)])
  refine Go.step (fun _ k => XS.aloadN X4.here hx rfl (hb hby d5_21) rfl rfl k) ?_
  show Go _ _ _ _ _ _ _ T4 (mkF m 22 #[.val (.ref q), .val (.int (Lp (a 0))), .unset, .unset, .unset, .unset, .unset] [(.ref q), (.ref u)])
  obtain ⟨T5, X5, e5, st5⟩ := getF X4 hx hZ hown (host := "") (Or.inl (hw _ (List.mem_of_getElem? (i := 20) rfl))) Via.refl e4 F_size_q_3 (g := (mkF m 22 #[.val (.ref q), .val (.int (Lp (a 0))), .unset, .unset, .unset, .unset, .unset] [(.ref q), (.ref u)])) rfl rfl (hb hby d5_22)
  refine Go.step st5 ?_
  show Go _ _ _ _ _ _ _ T5 (mkF m 25 #[.val (.ref q), .val (.int (Lp (a 0))), .unset, .unset, .unset, .unset, .unset] [(.int (1 : Int32)), (.ref u)])
  refine Go.daload X5 hx hZ e5 V_u_3 (j := (1 : Int32)) (v := (T (a 1))) (by decide) (by first | rfl | simp [updN, hg0, hg1, hl0, hl1]) (hb hby d5_25) ?_
  show Go _ _ _ _ _ _ _ T5 (mkF m 26 #[.val (.ref q), .val (.int (Lp (a 0))), .unset, .unset, .unset, .unset, .unset] [(.double (T (a 1)))])
  refine Go.step (fun _ k => XS.dstoreN X5.here hx rfl (hb hby d5_26) rfl (l' := #[.val (.ref q), .val (.int (Lp (a 0))), .val (.double (T (a 1))), .second, .unset, .unset, .unset]) rfl k) ?_
  show Go _ _ _ _ _ _ _ T5 (mkF m 27 #[.val (.ref q), .val (.int (Lp (a 0))), .val (.double (T (a 1))), .second, .unset, .unset, .unset] [])
  refine Go.step (fun _ k => XS.aloadN X5.here hx rfl (hb hby d5_27) rfl rfl k) ?_
  show Go _ _ _ _ _ _ _ T5 (mkF m 28 #[.val (.ref q), .val (.int (Lp (a 0))), .val (.double (T (a 1))), .second, .unset, .unset, .unset] [(.ref q)])
  obtain ⟨T6, X6, e6, st6⟩ := getF X5 hx hZ hown (host := "") (Or.inl (hw _ (List.mem_of_getElem? (i := 13) rfl))) Via.refl e5 F_lightpaths_q_3 (g := (mkF m 28 #[.val (.ref q), .val (.int (Lp (a 0))), .val (.double (T (a 1))), .second, .unset, .unset, .unset] [(.ref q)])) rfl rfl (hb hby d5_28)
  refine Go.step st6 ?_
  show Go _ _ _ _ _ _ _ T6 (mkF m 31 #[.val (.ref q), .val (.int (Lp (a 0))), .val (.double (T (a 1))), .second, .unset, .unset, .unset] [(.ref v)])
  refine Go.step (fun _ k => XS.aloadN X6.here hx rfl (hb hby d5_31) rfl rfl k) ?_
  show Go _ _ _ _ _ _ _ T6 (mkF m 32 #[.val (.ref q), .val (.int (Lp (a 0))), .val (.double (T (a 1))), .second, .unset, .unset, .unset] [(.ref q), (.ref v)])
  obtain ⟨T7, X7, e7, st7⟩ := getF X6 hx hZ hown (host := "") (Or.inl (hw _ (List.mem_of_getElem? (i := 20) rfl))) Via.refl e6 F_size_q_3 (g := (mkF m 32 #[.val (.ref q), .val (.int (Lp (a 0))), .val (.double (T (a 1))), .second, .unset, .unset, .unset] [(.ref q), (.ref v)])) rfl rfl (hb hby d5_32)
  refine Go.step st7 ?_
  show Go _ _ _ _ _ _ _ T7 (mkF m 35 #[.val (.ref q), .val (.int (Lp (a 0))), .val (.double (T (a 1))), .second, .unset, .unset, .unset] [(.int (1 : Int32)), (.ref v)])
  refine Go.iaload X7 hx hZ e7 V_v_3 (j := (1 : Int32)) (v := (Lp (a 1))) (by decide) (by first | rfl | simp [updN, hg0, hg1, hl0, hl1]) (hb hby d5_35) ?_
  show Go _ _ _ _ _ _ _ T7 (mkF m 36 #[.val (.ref q), .val (.int (Lp (a 0))), .val (.double (T (a 1))), .second, .unset, .unset, .unset] [(.int (Lp (a 1)))])
  refine Go.step (fun _ k => XS.istore X7.here hx rfl (hb hby d5_36) rfl (l' := #[.val (.ref q), .val (.int (Lp (a 0))), .val (.double (T (a 1))), .second, .val (.int (Lp (a 1))), .unset, .unset]) rfl k) ?_
  show Go _ _ _ _ _ _ _ T7 (mkF m 38 #[.val (.ref q), .val (.int (Lp (a 0))), .val (.double (T (a 1))), .second, .val (.int (Lp (a 1))), .unset, .unset] [])
  refine Go.step (fun _ k => XS.iconst X7.here hx rfl (hb hby d5_38) k) ?_
  show Go _ _ _ _ _ _ _ T7 (mkF m 39 #[.val (.ref q), .val (.int (Lp (a 0))), .val (.double (T (a 1))), .second, .val (.int (Lp (a 1))), .unset, .unset] [(.int (0 : Int32))])
  refine Go.step (fun _ k => XS.istore X7.here hx rfl (hb hby d5_39) rfl (l' := #[.val (.ref q), .val (.int (Lp (a 0))), .val (.double (T (a 1))), .second, .val (.int (Lp (a 1))), .val (.int (0 : Int32)), .unset]) rfl k) ?_
  show Go _ _ _ _ _ _ _ T7 (mkF m 41 #[.val (.ref q), .val (.int (Lp (a 0))), .val (.double (T (a 1))), .second, .val (.int (Lp (a 1))), .val (.int (0 : Int32)), .unset] [])
  refine Go.step (fun _ k => XS.iconst X7.here hx rfl (hb hby d5_41) k) ?_
  show Go _ _ _ _ _ _ _ T7 (mkF m 42 #[.val (.ref q), .val (.int (Lp (a 0))), .val (.double (T (a 1))), .second, .val (.int (Lp (a 1))), .val (.int (0 : Int32)), .unset] [(.int (2 : Int32))])
  refine Go.step (fun _ k => XS.iload X7.here hx rfl (hb hby d5_42) rfl k) ?_
  show Go _ _ _ _ _ _ _ T7 (mkF m 44 #[.val (.ref q), .val (.int (Lp (a 0))), .val (.double (T (a 1))), .second, .val (.int (Lp (a 1))), .val (.int (0 : Int32)), .unset] [(.int (0 : Int32)), (.int (2 : Int32))])
  refine Go.step (fun _ k => XS.imul X7.here hx rfl (hb hby d5_44) rfl k) ?_
  show Go _ _ _ _ _ _ _ T7 (mkF m 45 #[.val (.ref q), .val (.int (Lp (a 0))), .val (.double (T (a 1))), .second, .val (.int (Lp (a 1))), .val (.int (0 : Int32)), .unset] [(.int (0 : Int32))])
  refine Go.step (fun _ k => XS.iconst X7.here hx rfl (hb hby d5_45) k) ?_
  show Go _ _ _ _ _ _ _ T7 (mkF m 46 #[.val (.ref q), .val (.int (Lp (a 0))), .val (.double (T (a 1))), .second, .val (.int (Lp (a 1))), .val (.int (0 : Int32)), .unset] [(.int (1 : Int32)), (.int (0 : Int32))])
  refine Go.step (fun _ k => XS.iadd X7.here hx rfl (hb hby d5_46) rfl k) ?_
  show Go _ _ _ _ _ _ _ T7 (mkF m 47 #[.val (.ref q), .val (.int (Lp (a 0))), .val (.double (T (a 1))), .second, .val (.int (Lp (a 1))), .val (.int (0 : Int32)), .unset] [(.int (1 : Int32))])
  refine Go.step (fun _ k => XS.istore X7.here hx rfl (hb hby d5_47) rfl (l' := #[.val (.ref q), .val (.int (Lp (a 0))), .val (.double (T (a 1))), .second, .val (.int (Lp (a 1))), .val (.int (0 : Int32)), .val (.int (1 : Int32))]) rfl k) ?_
  show Go _ _ _ _ _ _ _ T7 (mkF m 49 #[.val (.ref q), .val (.int (Lp (a 0))), .val (.double (T (a 1))), .second, .val (.int (Lp (a 1))), .val (.int (0 : Int32)), .val (.int (1 : Int32))] [])
  refine Go.step (fun _ k => XS.iload X7.here hx rfl (hb hby d5_49) rfl k) ?_
  show Go _ _ _ _ _ _ _ T7 (mkF m 51 #[.val (.ref q), .val (.int (Lp (a 0))), .val (.double (T (a 1))), .second, .val (.int (Lp (a 1))), .val (.int (0 : Int32)), .val (.int (1 : Int32))] [(.int (1 : Int32))])
  refine Go.step (fun _ k => XS.aloadN X7.here hx rfl (hb hby d5_51) rfl rfl k) ?_
  show Go _ _ _ _ _ _ _ T7 (mkF m 52 #[.val (.ref q), .val (.int (Lp (a 0))), .val (.double (T (a 1))), .second, .val (.int (Lp (a 1))), .val (.int (0 : Int32)), .val (.int (1 : Int32))] [(.ref q), (.int (1 : Int32))])
  obtain ⟨T8, X8, e8, st8⟩ := getF X7 hx hZ hown (host := "") (Or.inl (hw _ (List.mem_of_getElem? (i := 20) rfl))) Via.refl e7 F_size_q_3 (g := (mkF m 52 #[.val (.ref q), .val (.int (Lp (a 0))), .val (.double (T (a 1))), .second, .val (.int (Lp (a 1))), .val (.int (0 : Int32)), .val (.int (1 : Int32))] [(.ref q), (.int (1 : Int32))])) rfl rfl (hb hby d5_52)
  refine Go.step st8 ?_
  show Go _ _ _ _ _ _ _ T8 (mkF m 55 #[.val (.ref q), .val (.int (Lp (a 0))), .val (.double (T (a 1))), .second, .val (.int (Lp (a 1))), .val (.int (0 : Int32)), .val (.int (1 : Int32))] [(.int (1 : Int32)), (.int (1 : Int32))])
  refine Go.step (fun _ k => XS.icmpNo X8.here hx rfl (hb hby d5_55) rfl (flt (by decide : ¬ ((1 : Int32) < (1 : Int32)))).1 k) ?_
  show Go _ _ _ _ _ _ _ T8 (mkF m 58 #[.val (.ref q), .val (.int (Lp (a 0))), .val (.double (T (a 1))), .second, .val (.int (Lp (a 1))), .val (.int (0 : Int32)), .val (.int (1 : Int32))] [])
  refine Go.step (fun _ k => XS.goto X8.here hx rfl (pc0 := 58) (pc' := 145) rfl (hb hby d5_58) (by decide) (by decide) k) ?_
  show Go _ _ _ _ _ _ _ T8 (mkF m 145 #[.val (.ref q), .val (.int (Lp (a 0))), .val (.double (T (a 1))), .second, .val (.int (Lp (a 1))), .val (.int (0 : Int32)), .val (.int (1 : Int32))] [])
  refine Go.step (fun _ k => XS.aloadN X8.here hx rfl (hb hby d5_145) rfl rfl k) ?_
  show Go _ _ _ _ _ _ _ T8 (mkF m 146 #[.val (.ref q), .val (.int (Lp (a 0))), .val (.double (T (a 1))), .second, .val (.int (Lp (a 1))), .val (.int (0 : Int32)), .val (.int (1 : Int32))] [(.ref q)])
  obtain ⟨T9, X9, e9, st9⟩ := getF X8 hx hZ hown (host := "") (Or.inl (hw _ (List.mem_of_getElem? (i := 10) rfl))) Via.refl e8 F_times_q_3 (g := (mkF m 146 #[.val (.ref q), .val (.int (Lp (a 0))), .val (.double (T (a 1))), .second, .val (.int (Lp (a 1))), .val (.int (0 : Int32)), .val (.int (1 : Int32))] [(.ref q)])) rfl rfl (hb hby d5_146)
  refine Go.step st9 ?_
  show Go _ _ _ _ _ _ _ T9 (mkF m 149 #[.val (.ref q), .val (.int (Lp (a 0))), .val (.double (T (a 1))), .second, .val (.int (Lp (a 1))), .val (.int (0 : Int32)), .val (.int (1 : Int32))] [(.ref u)])
  refine Go.step (fun _ k => XS.iload X9.here hx rfl (hb hby d5_149) rfl k) ?_
  show Go _ _ _ _ _ _ _ T9 (mkF m 151 #[.val (.ref q), .val (.int (Lp (a 0))), .val (.double (T (a 1))), .second, .val (.int (Lp (a 1))), .val (.int (0 : Int32)), .val (.int (1 : Int32))] [(.int (0 : Int32)), (.ref u)])
  refine Go.step (fun _ k => XS.dloadN X9.here hx rfl (hb hby d5_151) rfl k) ?_
  show Go _ _ _ _ _ _ _ T9 (mkF m 152 #[.val (.ref q), .val (.int (Lp (a 0))), .val (.double (T (a 1))), .second, .val (.int (Lp (a 1))), .val (.int (0 : Int32)), .val (.int (1 : Int32))] [(.double (T (a 1))), (.int (0 : Int32)), (.ref u)])
  refine Go.dastore X9 hx hZ e9 V_u_3 (j := (0 : Int32)) (x := (T (a 1))) (by decide) (hb hby d5_152) ?_
  intro T10 h10 X10 e10 W10 Vn10
  have V_u_10 : Dv Z h10 u (64 : Int32) (updN g 0 (T (a 1))) := Vn10
  have N10 := Fr.snoc X10 N3 ge_u
  have E_q_10 := E_q_3.wr W10
  have F_size_q_10 := F_size_q_3.other W10 (Or.inl ne_q_u)
  have F_times_q_10 := F_times_q_3.other W10 (Or.inl ne_q_u)
  have F_lightpaths_q_10 := F_lightpaths_q_3.other W10 (Or.inl ne_q_u)
  have V_v_10 := V_v_3.other W10 (Ne.symm ne_u_v)
  have K10 : Keep h0 h10 [q, u, v] := K3.wr W10 (Or.inl (List.mem_of_getElem? (i := 1) rfl))
  show Go _ _ _ _ _ _ _ T10 (mkF m 153 #[.val (.ref q), .val (.int (Lp (a 0))), .val (.double (T (a 1))), .second, .val (.int (Lp (a 1))), .val (.int (0 : Int32)), .val (.int (1 : Int32))] [])
  refine Go.step (fun _ k => XS.aloadN X10.here hx rfl (hb hby d5_153) rfl rfl k) ?_
  show Go _ _ _ _ _ _ _ T10 (mkF m 154 #[.val (.ref q), .val (.int (Lp (a 0))), .val (.double (T (a 1))), .second, .val (.int (Lp (a 1))), .val (.int (0 : Int32)), .val (.int (1 : Int32))] [(.ref q)])
  obtain ⟨T11, X11, e11, st11⟩ := getF X10 hx hZ hown (host := "") (Or.inl (hw _ (List.mem_of_getElem? (i := 13) rfl))) Via.refl e10 F_lightpaths_q_10 (g := (mkF m 154 #[.val (.ref q), .val (.int (Lp (a 0))), .val (.double (T (a 1))), .second, .val (.int (Lp (a 1))), .val (.int (0 : Int32)), .val (.int (1 : Int32))] [(.ref q)])) rfl rfl (hb hby d5_154)
  refine Go.step st11 ?_
  show Go _ _ _ _ _ _ _ T11 (mkF m 157 #[.val (.ref q), .val (.int (Lp (a 0))), .val (.double (T (a 1))), .second, .val (.int (Lp (a 1))), .val (.int (0 : Int32)), .val (.int (1 : Int32))] [(.ref v)])
  refine Go.step (fun _ k => XS.iload X11.here hx rfl (hb hby d5_157) rfl k) ?_
  show Go _ _ _ _ _ _ _ T11 (mkF m 159 #[.val (.ref q), .val (.int (Lp (a 0))), .val (.double (T (a 1))), .second, .val (.int (Lp (a 1))), .val (.int (0 : Int32)), .val (.int (1 : Int32))] [(.int (0 : Int32)), (.ref v)])
  refine Go.step (fun _ k => XS.iload X11.here hx rfl (hb hby d5_159) rfl k) ?_
  show Go _ _ _ _ _ _ _ T11 (mkF m 161 #[.val (.ref q), .val (.int (Lp (a 0))), .val (.double (T (a 1))), .second, .val (.int (Lp (a 1))), .val (.int (0 : Int32)), .val (.int (1 : Int32))] [(.int (Lp (a 1))), (.int (0 : Int32)), (.ref v)])
  refine Go.iastore X11 hx hZ e11 V_v_10 (j := (0 : Int32)) (x := (Lp (a 1))) (by decide) (hb hby d5_161) ?_
  intro T12 h12 X12 e12 W12 Vn12
  have V_v_12 : Iv Z h12 v (64 : Int32) (updN l' 0 (Lp (a 1))) := Vn12
  have N12 := Fr.snoc X12 N10 ge_v
  have E_q_12 := E_q_10.wr W12
  have F_size_q_12 := F_size_q_10.other W12 (Or.inl ne_q_v)
  have F_times_q_12 := F_times_q_10.other W12 (Or.inl ne_q_v)
  have F_lightpaths_q_12 := F_lightpaths_q_10.other W12 (Or.inl ne_q_v)
  have V_u_12 := V_u_10.other W12 ne_u_v
  have K12 : Keep h0 h12 [q, u, v] := K10.wr W12 (Or.inl (List.mem_of_getElem? (i := 2) rfl))
  show Go _ _ _ _ _ _ _ T12 (mkF m 162 #[.val (.ref q), .val (.int (Lp (a 0))), .val (.double (T (a 1))), .second, .val (.int (Lp (a 1))), .val (.int (0 : Int32)), .val (.int (1 : Int32))] [])
  refine Go.step (fun _ k => XS.iloadN X12.here hx rfl (hb hby d5_162) rfl k) ?_
  show Go _ _ _ _ _ _ _ T12 (mkF m 163 #[.val (.ref q), .val (.int (Lp (a 0))), .val (.double (T (a 1))), .second, .val (.int (Lp (a 1))), .val (.int (0 : Int32)), .val (.int (1 : Int32))] [(.int (Lp (a 0)))])
  refine Go.retI X12 hx hlk hret (hb hby d5_163) (by decide) (by decide) ?_
  try rw [e12]
  refine ⟨rfl, N12, K12, E_q_12, F_size_q_12, F_times_q_12, F_lightpaths_q_12, _, _, (updN a 0 (a 1)), V_u_12, V_v_12, fun i hi' => by rcases (by omega : i = 0) with rfl <;> first | rfl | simp [updN, hg0, hg1, hl0, hl1], fun i hi' => by rcases (by omega : i = 0) with rfl <;> first | rfl | simp [updN, hg0, hg1, hl0, hl1], ?_, ?_, fun P hP => ?_⟩
  · simp only [HI, updN]; try simp; try omega
  · exact ⟨fun i hi' => by rcases (by omega : i = 0) with rfl <;> simp [updN] <;> omega, fun w => by simp [sumA, updN]; try omega⟩
  · intro i hi'; rcases (by omega : i = 0) with rfl <;> simp [updN] <;> exact hP _ (by decide)
theorem ef_rm_rem2 (m : MethodId) (q : Addr) : entryFrame m #[(.ref q)] 7 = mkF m 0 #[.val (.ref q), .unset, .unset, .unset, .unset, .unset, .unset] [] := by first | (simp [entryFrame, mkF, argsToLocals, Value.category]; done) | rfl
theorem rm_rem2 (l : Launch) (Z : State) (a0 : Array Value) (hw : ∀ d ∈ tables_1, d.before a0 Z = true) (q u v : Addr) (g : Nat → UInt64) (l' : Nat → Int32) (T : Nat → UInt64) (Lp : Nat → Int32) (K : Nat → Int) (a : Nat → Nat) (h0 : Heap) (n0 : Nat) (Z0 : n0 ≤ h0.size) (E_q : Exa Z h0 q "com/example/wavegrade/wavegrade/DepartureQueue") (F_size_q : Fld Z h0 q "com/example/wavegrade/wavegrade/DepartureQueue" "size" "I" (.int (2 : Int32))) (F_times_q : Fld Z h0 q "com/example/wavegrade/wavegrade/DepartureQueue" "times" "[D" (.ref u)) (F_lightpaths_q : Fld Z h0 q "com/example/wavegrade/wavegrade/DepartureQueue" "lightpaths" "[I" (.ref v)) (V_u : Dv Z h0 u (64 : Int32) g) (V_v : Iv Z h0 v (64 : Int32) l') (ne_q_u : q ≠ u) (ne_q_v : q ≠ v) (ne_u_v : u ≠ v) (ge_q : n0 ≤ q) (ge_u : n0 ≤ u) (ge_v : n0 ≤ v) (hT : ∀ x y, FP.dcmp (T x) (T y) = some (compare (K x) (K y))) (hg : ∀ i, i < 2 → g i = T (a i)) (hl : ∀ i, i < 2 → l' i = Lp (a i)) (hi : HI K a 2) :
    Con l Z (⟨"com/example/wavegrade/wavegrade/DepartureQueue", "removeFirst", "()I"⟩ : MethodName) prog_1_method_5_code 7 (some .int) ({ frames := 0, cells := 0, slots := 0, locals := 0 } : Room) #[(.ref q)] h0 (fun r h L => r = some (.int (Lp (a 0))) ∧ Fr n0 L ∧ Keep h0 h [q, u, v] ∧ Exa Z h q "com/example/wavegrade/wavegrade/DepartureQueue" ∧ Fld Z h q "com/example/wavegrade/wavegrade/DepartureQueue" "size" "I" (.int (1 : Int32)) ∧ Fld Z h q "com/example/wavegrade/wavegrade/DepartureQueue" "times" "[D" (.ref u) ∧ Fld Z h q "com/example/wavegrade/wavegrade/DepartureQueue" "lightpaths" "[I" (.ref v) ∧ ∃ (g2 : Nat → UInt64) (l2 : Nat → Int32) (a2 : Nat → Nat), Dv Z h u (64 : Int32) g2 ∧ Iv Z h v (64 : Int32) l2 ∧ (∀ i, i < 1 → g2 i = T (a2 i)) ∧ (∀ i, i < 1 → l2 i = Lp (a2 i)) ∧ HI K a2 1 ∧ ((∀ i, i < 1 → K (a 0) ≤ K (a2 i)) ∧ ∀ w : Nat → Int, sumA w a2 1 + w (a 0) = sumA w a 2) ∧ ∀ P : Nat → Prop, (∀ i, i < 2 → P (a i)) → ∀ i, i < 1 → P (a2 i)) :=
  con_of (plainFor_of_name pn_1) (fun p_ e_ s_ m_ b_ meth_ c_ T_ X_ hx hZ hby hml hown hnm hret hlk e0 => Go.cast (ef_rm_rem2 m_ q) (w_rem2 q u v g l' T Lp K a X_ hx hZ hw hby hml hown hnm hret hlk e0 Z0 (Fr.nil n0) E_q F_size_q F_times_q F_lightpaths_q V_u V_v ne_q_u ne_q_v ne_u_v ge_q ge_u ge_v hT hg hl hi))
theorem d5_61 : decode prog_1_method_5_code 61 = .ok (.iload 6, 2) := by decide +kernel
theorem d5_63 : decode prog_1_method_5_code 63 = .ok (.iconst 1, 1) := by decide +kernel
theorem d5_64 : decode prog_1_method_5_code 64 = .ok (.iadd, 1) := by decide +kernel
theorem d5_65 : decode prog_1_method_5_code 65 = .ok (.aload_n 0, 1) := by decide +kernel
theorem d5_66 : decode prog_1_method_5_code 66 = .ok (.getfield 17, 3) := by decide +kernel
theorem d5_69 : decode prog_1_method_5_code 69 = .ok (.if_icmp .ge 26, 3) := by decide +kernel
theorem d5_95 : decode prog_1_method_5_code 95 = .ok (.aload_n 0, 1) := by decide +kernel
theorem d5_96 : decode prog_1_method_5_code 96 = .ok (.getfield 7, 3) := by decide +kernel
theorem d5_99 : decode prog_1_method_5_code 99 = .ok (.iload 6, 2) := by decide +kernel
theorem d5_101 : decode prog_1_method_5_code 101 = .ok (.daload, 1) := by decide +kernel
theorem d5_102 : decode prog_1_method_5_code 102 = .ok (.dload_n 2, 1) := by decide +kernel
theorem d5_103 : decode prog_1_method_5_code 103 = .ok (.dcmp .l, 1) := by decide +kernel
theorem d5_104 : decode prog_1_method_5_code 104 = .ok (.ifCond .lt 6, 3) := by decide +kernel
theorem d5_107 : decode prog_1_method_5_code 107 = .ok (.goto 38, 3) := by decide +kernel
theorem d5_110 : decode prog_1_method_5_code 110 = .ok (.aload_n 0, 1) := by decide +kernel
theorem d5_111 : decode prog_1_method_5_code 111 = .ok (.getfield 7, 3) := by decide +kernel
theorem d5_114 : decode prog_1_method_5_code 114 = .ok (.iload 5, 2) := by decide +kernel
theorem d5_116 : decode prog_1_method_5_code 116 = .ok (.aload_n 0, 1) := by decide +kernel
theorem d5_117 : decode prog_1_method_5_code 117 = .ok (.getfield 7, 3) := by decide +kernel
theorem d5_120 : decode prog_1_method_5_code 120 = .ok (.iload 6, 2) := by decide +kernel
theorem d5_122 : decode prog_1_method_5_code 122 = .ok (.daload, 1) := by decide +kernel
theorem d5_123 : decode prog_1_method_5_code 123 = .ok (.dastore, 1) := by decide +kernel
theorem d5_124 : decode prog_1_method_5_code 124 = .ok (.aload_n 0, 1) := by decide +kernel
theorem d5_125 : decode prog_1_method_5_code 125 = .ok (.getfield 13, 3) := by decide +kernel
theorem d5_128 : decode prog_1_method_5_code 128 = .ok (.iload 5, 2) := by decide +kernel
theorem d5_130 : decode prog_1_method_5_code 130 = .ok (.aload_n 0, 1) := by decide +kernel
theorem d5_131 : decode prog_1_method_5_code 131 = .ok (.getfield 13, 3) := by decide +kernel
theorem d5_134 : decode prog_1_method_5_code 134 = .ok (.iload 6, 2) := by decide +kernel
theorem d5_136 : decode prog_1_method_5_code 136 = .ok (.iaload, 1) := by decide +kernel
theorem d5_137 : decode prog_1_method_5_code 137 = .ok (.iastore, 1) := by decide +kernel
theorem d5_138 : decode prog_1_method_5_code 138 = .ok (.iload 6, 2) := by decide +kernel
theorem d5_140 : decode prog_1_method_5_code 140 = .ok (.istore 5, 2) := by decide +kernel
theorem d5_142 : decode prog_1_method_5_code 142 = .ok (.goto (-101), 3) := by decide +kernel
set_option maxRecDepth 65536 in
set_option maxHeartbeats 40000000 in
theorem w_rem3 {p : Program} {l : Launch} {e : Env} {s : State} {m : MethodId} {args : Array Value} {below : List Frame} {meth : Method} {c_ : Code} {T0 : State} {locs : List Loc} {Z : State} {a0 : Array Value} {h0 : Heap} {n0 : Nat} (q u v : Addr) (g : Nat → UInt64) (l' : Nat → Int32) (T : Nat → UInt64) (Lp : Nat → Int32) (K : Nat → Int) (a : Nat → Nat)
    (X0 : Stand p l e ({ frames := 0, cells := 0, slots := 0, locals := 0 } : Room) s m args below meth c_ T0 locs 0 0) (hx : p.tables.exec = Jvm.exec) (hZ : Z.Warmed39 s.vm) (hw : ∀ d ∈ tables_1, d.before a0 Z = true) (hby : c_.code = prog_1_method_5_code) (hml : c_.maxLocals = 7) (hown : s.vm.findClass "com/example/wavegrade/wavegrade/DepartureQueue" = some m.cls) (hnm : meth.name = "removeFirst") (hret : meth.sig.returnType = some .int) (hlk : meth.locks = false) (e0 : T0.heap = h0) (Z0 : n0 ≤ h0.size) (N0 : Fr n0 locs) (E_q : Exa Z h0 q "com/example/wavegrade/wavegrade/DepartureQueue") (F_size_q : Fld Z h0 q "com/example/wavegrade/wavegrade/DepartureQueue" "size" "I" (.int (3 : Int32))) (F_times_q : Fld Z h0 q "com/example/wavegrade/wavegrade/DepartureQueue" "times" "[D" (.ref u)) (F_lightpaths_q : Fld Z h0 q "com/example/wavegrade/wavegrade/DepartureQueue" "lightpaths" "[I" (.ref v)) (V_u : Dv Z h0 u (64 : Int32) g) (V_v : Iv Z h0 v (64 : Int32) l') (ne_q_u : q ≠ u) (ne_q_v : q ≠ v) (ne_u_v : u ≠ v) (ge_q : n0 ≤ q) (ge_u : n0 ≤ u) (ge_v : n0 ≤ v) (hT : ∀ x y, FP.dcmp (T x) (T y) = some (compare (K x) (K y))) (hg : ∀ i, i < 3 → g i = T (a i)) (hl : ∀ i, i < 3 → l' i = Lp (a i)) (hi : HI K a 3) :
    Go p e below s ({ frames := 0, cells := 0, slots := 0, locals := 0 } : Room).cells ({ frames := 0, cells := 0, slots := 0, locals := 0 } : Room).slots (fun r h L => r = some (.int (Lp (a 0))) ∧ Fr n0 L ∧ Keep h0 h [q, u, v] ∧ Exa Z h q "com/example/wavegrade/wavegrade/DepartureQueue" ∧ Fld Z h q "com/example/wavegrade/wavegrade/DepartureQueue" "size" "I" (.int (2 : Int32)) ∧ Fld Z h q "com/example/wavegrade/wavegrade/DepartureQueue" "times" "[D" (.ref u) ∧ Fld Z h q "com/example/wavegrade/wavegrade/DepartureQueue" "lightpaths" "[I" (.ref v) ∧ ∃ (g2 : Nat → UInt64) (l2 : Nat → Int32) (a2 : Nat → Nat), Dv Z h u (64 : Int32) g2 ∧ Iv Z h v (64 : Int32) l2 ∧ (∀ i, i < 2 → g2 i = T (a2 i)) ∧ (∀ i, i < 2 → l2 i = Lp (a2 i)) ∧ HI K a2 2 ∧ ((∀ i, i < 2 → K (a 0) ≤ K (a2 i)) ∧ ∀ w : Nat → Int, sumA w a2 2 + w (a 0) = sumA w a 3) ∧ ∀ P : Nat → Prop, (∀ i, i < 3 → P (a i)) → ∀ i, i < 2 → P (a2 i)) T0 (mkF m 0 #[.val (.ref q), .unset, .unset, .unset, .unset, .unset, .unset] []) := by
  have hg0 := hg 0 (by decide)
  have hg1 := hg 1 (by decide)
  have hg2 := hg 2 (by decide)
  have hl0 := hl 0 (by decide)
  have hl1 := hl 1 (by decide)
  have hl2 := hl 2 (by decide)
  simp only [HI] at hi
  show Go _ _ _ _ _ _ _ T0 (mkF m 0 #[.val (.ref q), .unset, .unset, .unset, .unset, .unset, .unset] [])
  refine Go.step (fun _ k => XS.aloadN X0.here hx rfl (hb hby d5_0) rfl rfl k) ?_
  show Go _ _ _ _ _ _ _ T0 (mkF m 1 #[.val (.ref q), .unset, .unset, .unset, .unset, .unset, .unset] [(.ref q)])
  obtain ⟨T1, X1, e1, st1⟩ := getF X0 hx hZ hown (host := "") (Or.inl (hw _ (List.mem_of_getElem? (i := 13) rfl))) Via.refl e0 F_lightpaths_q (g := (mkF m 1 #[.val (.ref q), .unset, .unset, .unset, .unset, .unset, .unset] [(.ref q)])) rfl rfl (hb hby d5_1)
  refine Go.step st1 ?_
  show Go _ _ _ _ _ _ _ T1 (mkF m 4 #[.val (.ref q), .unset, .unset, .unset, .unset, .unset, .unset] [(.ref v)])
  refine Go.step (fun _ k => XS.iconst X1.here hx rfl (hb hby d5_4) k) ?_
  show Go _ _ _ _ _ _ _ T1 (mkF m 5 #[.val (.ref q), .unset, .unset, .unset, .unset, .unset, .unset] [(.int (0 : Int32)), (.ref v)])
  refine Go.iaload X1 hx hZ e1 V_v (j := (0 : Int32)) (v := (Lp (a 0))) (by decide) (by first | rfl | simp [updN, hg0, hg1, hg2, hl0, hl1, hl2]) (hb hby d5_5) ?_
  show Go _ _ _ _ _ _ _ T1 (mkF m 6 #[.val (.ref q), .unset, .unset, .unset, .unset, .unset, .unset] [(.int (Lp (a 0)))])
  refine Go.step (fun _ k => XS.istoreN X1.here hx rfl (hb hby d5_6) rfl (l' := #[.val (.ref q), .val (.int (Lp (a 0))), .unset, .unset, .unset, .unset, .unset]) rfl k) ?_
  show Go _ _ _ _ _ _ _ T1 (mkF m 7 #[.val (.ref q), .val (.int (Lp (a 0))), .unset, .unset, .unset, .unset, .unset] [])
  refine Go.step (fun _ k => XS.aloadN X1.here hx rfl (hb hby d5_7) rfl rfl k) ?_
  show Go _ _ _ _ _ _ _ T1 (mkF m 8 #[.val (.ref q), .val (.int (Lp (a 0))), .unset, .unset, .unset, .unset, .unset] [(.ref q)])
  refine Go.step (fun _ k => XS.dup X1.here hx rfl (hb hby d5_8) rfl rfl k) ?_
  show Go _ _ _ _ _ _ _ T1 (mkF m 9 #[.val (.ref q), .val (.int (Lp (a 0))), .unset, .unset, .unset, .unset, .unset] [(.ref q), (.ref q)])
  obtain ⟨T2, X2, e2, st2⟩ := getF X1 hx hZ hown (host := "") (Or.inl (hw _ (List.mem_of_getElem? (i := 20) rfl))) Via.refl e1 F_size_q (g := (mkF m 9 #[.val (.ref q), .val (.int (Lp (a 0))), .unset, .unset, .unset, .unset, .unset] [(.ref q), (.ref q)])) rfl rfl (hb hby d5_9)
  refine Go.step st2 ?_
  show Go _ _ _ _ _ _ _ T2 (mkF m 12 #[.val (.ref q), .val (.int (Lp (a 0))), .unset, .unset, .unset, .unset, .unset] [(.int (3 : Int32)), (.ref q)])
  refine Go.step (fun _ k => XS.iconst X2.here hx rfl (hb hby d5_12) k) ?_
  show Go _ _ _ _ _ _ _ T2 (mkF m 13 #[.val (.ref q), .val (.int (Lp (a 0))), .unset, .unset, .unset, .unset, .unset] [(.int (1 : Int32)), (.int (3 : Int32)), (.ref q)])
  refine Go.step (fun _ k => XS.isub X2.here hx rfl (hb hby d5_13) rfl k) ?_
  show Go _ _ _ _ _ _ _ T2 (mkF m 14 #[.val (.ref q), .val (.int (Lp (a 0))), .unset, .unset, .unset, .unset, .unset] [(.int (2 : Int32)), (.ref q)])
  obtain ⟨T3, h3, X3, e3, W3, st3⟩ := putF X2 hx hZ hown (host := "") (Or.inl (hw _ (List.mem_of_getElem? (i := 20) rfl))) Via.refl e2 F_size_q E_q (Or.inl (hw _ (List.mem_of_getElem? (i := 21) rfl))) (hw _ (List.mem_of_getElem? (i := 1) rfl)) (ty := .int) (by decide) rfl rfl (g := (mkF m 14 #[.val (.ref q), .val (.int (Lp (a 0))), .unset, .unset, .unset, .unset, .unset] [(.int (2 : Int32)), (.ref q)])) rfl rfl (hb hby d5_14)
  refine Go.step st3 ?_
  have N3 := Fr.snoc X3 N0 ge_q
  have F_size_q_3 := F_size_q.same W3
  have E_q_3 := E_q.wr W3
  have F_times_q_3 := F_times_q.other W3 (Or.inr (slot_ne (Or.inl (hw _ (List.mem_of_getElem? (i := 11) rfl))) (Or.inl (hw _ (List.mem_of_getElem? (i := 21) rfl))) (by decide) (t := (.array .double)) (t' := .int) (by decide) (by decide)))
  have F_lightpaths_q_3 := F_lightpaths_q.other W3 (Or.inr (slot_ne (Or.inl (hw _ (List.mem_of_getElem? (i := 14) rfl))) (Or.inl (hw _ (List.mem_of_getElem? (i := 21) rfl))) (by decide) (t := (.array .int)) (t' := .int) (by decide) (by decide)))
  have V_u_3 := V_u.other W3 (Ne.symm ne_q_u)
  have V_v_3 := V_v.other W3 (Ne.symm ne_q_v)
  have K3 : Keep h0 h3 [q, u, v] := (Keep.refl h0 [q, u, v]).wr W3 (Or.inl (List.mem_of_getElem? (i := 0) rfl))
  show Go _ _ _ _ _ _ _ T3 (mkF m 17 #[.val (.ref q), .val (.int (Lp (a 0))), .unset, .unset, .unset, .unset, .unset] [])
  refine Go.step (fun _ k => XS.aloadN X3.here hx rfl (hb hby d5_17) rfl rfl k) ?_
  show Go _ _ _ _ _ _ _ T3 (mkF m 18 #[.val (.ref q), .val (.int (Lp (a 0))), .unset, .unset, .unset, .unset, .unset] [(.ref q)])
  obtain ⟨T4, X4, e4, st4⟩ := getF X3 hx hZ hown (host := "") (Or.inl (hw _ (List.mem_of_getElem? (i := 10) rfl))) Via.refl e3 F_times_q_3 (g := (mkF m 18 #[.val (.ref q), .val (.int (Lp (a 0))), .unset, .unset, .unset, .unset, .unset] [(.ref q)])) rfl rfl (hb hby d5_18)
  refine Go.step st4 ?_
  show Go _ _ _ _ _ _ _ T4 (mkF m 21 #[.val (.ref q), .val (.int (Lp (a 0))), .unset, .unset, .unset, .unset, .unset] [(.ref u)])
  refine Go.step (fun _ k => XS.aloadN X4.here hx rfl (hb hby d5_21) rfl rfl k) ?_
  show Go _ _ _ _ _ _ _ T4 (mkF m 22 #[.val (.ref q), .val (.int (Lp (a 0))), .unset, .unset, .unset, .unset, .unset] [(.ref q), (.ref u)])
  obtain ⟨T5, X5, e5, st5⟩ := getF X4 hx hZ hown (host := "") (Or.inl (hw _ (List.mem_of_getElem? (i := 20) rfl))) Via.refl e4 F_size_q_3 (g := (mkF m 22 #[.val (.ref q), .val (.int (Lp (a 0))), .unset, .unset, .unset, .unset, .unset] [(.ref q), (.ref u)])) rfl rfl (hb hby d5_22)
  refine Go.step st5 ?_
  show Go _ _ _ _ _ _ _ T5 (mkF m 25 #[.val (.ref q), .val (.int (Lp (a 0))), .unset, .unset, .unset, .unset, .unset] [(.int (2 : Int32)), (.ref u)])
  refine Go.daload X5 hx hZ e5 V_u_3 (j := (2 : Int32)) (v := (T (a 2))) (by decide) (by first | rfl | simp [updN, hg0, hg1, hg2, hl0, hl1, hl2]) (hb hby d5_25) ?_
  show Go _ _ _ _ _ _ _ T5 (mkF m 26 #[.val (.ref q), .val (.int (Lp (a 0))), .unset, .unset, .unset, .unset, .unset] [(.double (T (a 2)))])
  refine Go.step (fun _ k => XS.dstoreN X5.here hx rfl (hb hby d5_26) rfl (l' := #[.val (.ref q), .val (.int (Lp (a 0))), .val (.double (T (a 2))), .second, .unset, .unset, .unset]) rfl k) ?_
  show Go _ _ _ _ _ _ _ T5 (mkF m 27 #[.val (.ref q), .val (.int (Lp (a 0))), .val (.double (T (a 2))), .second, .unset, .unset, .unset] [])
  refine Go.step (fun _ k => XS.aloadN X5.here hx rfl (hb hby d5_27) rfl rfl k) ?_
  show Go _ _ _ _ _ _ _ T5 (mkF m 28 #[.val (.ref q), .val (.int (Lp (a 0))), .val (.double (T (a 2))), .second, .unset, .unset, .unset] [(.ref q)])
  obtain ⟨T6, X6, e6, st6⟩ := getF X5 hx hZ hown (host := "") (Or.inl (hw _ (List.mem_of_getElem? (i := 13) rfl))) Via.refl e5 F_lightpaths_q_3 (g := (mkF m 28 #[.val (.ref q), .val (.int (Lp (a 0))), .val (.double (T (a 2))), .second, .unset, .unset, .unset] [(.ref q)])) rfl rfl (hb hby d5_28)
  refine Go.step st6 ?_
  show Go _ _ _ _ _ _ _ T6 (mkF m 31 #[.val (.ref q), .val (.int (Lp (a 0))), .val (.double (T (a 2))), .second, .unset, .unset, .unset] [(.ref v)])
  refine Go.step (fun _ k => XS.aloadN X6.here hx rfl (hb hby d5_31) rfl rfl k) ?_
  show Go _ _ _ _ _ _ _ T6 (mkF m 32 #[.val (.ref q), .val (.int (Lp (a 0))), .val (.double (T (a 2))), .second, .unset, .unset, .unset] [(.ref q), (.ref v)])
  obtain ⟨T7, X7, e7, st7⟩ := getF X6 hx hZ hown (host := "") (Or.inl (hw _ (List.mem_of_getElem? (i := 20) rfl))) Via.refl e6 F_size_q_3 (g := (mkF m 32 #[.val (.ref q), .val (.int (Lp (a 0))), .val (.double (T (a 2))), .second, .unset, .unset, .unset] [(.ref q), (.ref v)])) rfl rfl (hb hby d5_32)
  refine Go.step st7 ?_
  show Go _ _ _ _ _ _ _ T7 (mkF m 35 #[.val (.ref q), .val (.int (Lp (a 0))), .val (.double (T (a 2))), .second, .unset, .unset, .unset] [(.int (2 : Int32)), (.ref v)])
  refine Go.iaload X7 hx hZ e7 V_v_3 (j := (2 : Int32)) (v := (Lp (a 2))) (by decide) (by first | rfl | simp [updN, hg0, hg1, hg2, hl0, hl1, hl2]) (hb hby d5_35) ?_
  show Go _ _ _ _ _ _ _ T7 (mkF m 36 #[.val (.ref q), .val (.int (Lp (a 0))), .val (.double (T (a 2))), .second, .unset, .unset, .unset] [(.int (Lp (a 2)))])
  refine Go.step (fun _ k => XS.istore X7.here hx rfl (hb hby d5_36) rfl (l' := #[.val (.ref q), .val (.int (Lp (a 0))), .val (.double (T (a 2))), .second, .val (.int (Lp (a 2))), .unset, .unset]) rfl k) ?_
  show Go _ _ _ _ _ _ _ T7 (mkF m 38 #[.val (.ref q), .val (.int (Lp (a 0))), .val (.double (T (a 2))), .second, .val (.int (Lp (a 2))), .unset, .unset] [])
  refine Go.step (fun _ k => XS.iconst X7.here hx rfl (hb hby d5_38) k) ?_
  show Go _ _ _ _ _ _ _ T7 (mkF m 39 #[.val (.ref q), .val (.int (Lp (a 0))), .val (.double (T (a 2))), .second, .val (.int (Lp (a 2))), .unset, .unset] [(.int (0 : Int32))])
  refine Go.step (fun _ k => XS.istore X7.here hx rfl (hb hby d5_39) rfl (l' := #[.val (.ref q), .val (.int (Lp (a 0))), .val (.double (T (a 2))), .second, .val (.int (Lp (a 2))), .val (.int (0 : Int32)), .unset]) rfl k) ?_
  show Go _ _ _ _ _ _ _ T7 (mkF m 41 #[.val (.ref q), .val (.int (Lp (a 0))), .val (.double (T (a 2))), .second, .val (.int (Lp (a 2))), .val (.int (0 : Int32)), .unset] [])
  refine Go.step (fun _ k => XS.iconst X7.here hx rfl (hb hby d5_41) k) ?_
  show Go _ _ _ _ _ _ _ T7 (mkF m 42 #[.val (.ref q), .val (.int (Lp (a 0))), .val (.double (T (a 2))), .second, .val (.int (Lp (a 2))), .val (.int (0 : Int32)), .unset] [(.int (2 : Int32))])
  refine Go.step (fun _ k => XS.iload X7.here hx rfl (hb hby d5_42) rfl k) ?_
  show Go _ _ _ _ _ _ _ T7 (mkF m 44 #[.val (.ref q), .val (.int (Lp (a 0))), .val (.double (T (a 2))), .second, .val (.int (Lp (a 2))), .val (.int (0 : Int32)), .unset] [(.int (0 : Int32)), (.int (2 : Int32))])
  refine Go.step (fun _ k => XS.imul X7.here hx rfl (hb hby d5_44) rfl k) ?_
  show Go _ _ _ _ _ _ _ T7 (mkF m 45 #[.val (.ref q), .val (.int (Lp (a 0))), .val (.double (T (a 2))), .second, .val (.int (Lp (a 2))), .val (.int (0 : Int32)), .unset] [(.int (0 : Int32))])
  refine Go.step (fun _ k => XS.iconst X7.here hx rfl (hb hby d5_45) k) ?_
  show Go _ _ _ _ _ _ _ T7 (mkF m 46 #[.val (.ref q), .val (.int (Lp (a 0))), .val (.double (T (a 2))), .second, .val (.int (Lp (a 2))), .val (.int (0 : Int32)), .unset] [(.int (1 : Int32)), (.int (0 : Int32))])
  refine Go.step (fun _ k => XS.iadd X7.here hx rfl (hb hby d5_46) rfl k) ?_
  show Go _ _ _ _ _ _ _ T7 (mkF m 47 #[.val (.ref q), .val (.int (Lp (a 0))), .val (.double (T (a 2))), .second, .val (.int (Lp (a 2))), .val (.int (0 : Int32)), .unset] [(.int (1 : Int32))])
  refine Go.step (fun _ k => XS.istore X7.here hx rfl (hb hby d5_47) rfl (l' := #[.val (.ref q), .val (.int (Lp (a 0))), .val (.double (T (a 2))), .second, .val (.int (Lp (a 2))), .val (.int (0 : Int32)), .val (.int (1 : Int32))]) rfl k) ?_
  show Go _ _ _ _ _ _ _ T7 (mkF m 49 #[.val (.ref q), .val (.int (Lp (a 0))), .val (.double (T (a 2))), .second, .val (.int (Lp (a 2))), .val (.int (0 : Int32)), .val (.int (1 : Int32))] [])
  refine Go.step (fun _ k => XS.iload X7.here hx rfl (hb hby d5_49) rfl k) ?_
  show Go _ _ _ _ _ _ _ T7 (mkF m 51 #[.val (.ref q), .val (.int (Lp (a 0))), .val (.double (T (a 2))), .second, .val (.int (Lp (a 2))), .val (.int (0 : Int32)), .val (.int (1 : Int32))] [(.int (1 : Int32))])
  refine Go.step (fun _ k => XS.aloadN X7.here hx rfl (hb hby d5_51) rfl rfl k) ?_
  show Go _ _ _ _ _ _ _ T7 (mkF m 52 #[.val (.ref q), .val (.int (Lp (a 0))), .val (.double (T (a 2))), .second, .val (.int (Lp (a 2))), .val (.int (0 : Int32)), .val (.int (1 : Int32))] [(.ref q), (.int (1 : Int32))])
  obtain ⟨T8, X8, e8, st8⟩ := getF X7 hx hZ hown (host := "") (Or.inl (hw _ (List.mem_of_getElem? (i := 20) rfl))) Via.refl e7 F_size_q_3 (g := (mkF m 52 #[.val (.ref q), .val (.int (Lp (a 0))), .val (.double (T (a 2))), .second, .val (.int (Lp (a 2))), .val (.int (0 : Int32)), .val (.int (1 : Int32))] [(.ref q), (.int (1 : Int32))])) rfl rfl (hb hby d5_52)
  refine Go.step st8 ?_
  show Go _ _ _ _ _ _ _ T8 (mkF m 55 #[.val (.ref q), .val (.int (Lp (a 0))), .val (.double (T (a 2))), .second, .val (.int (Lp (a 2))), .val (.int (0 : Int32)), .val (.int (1 : Int32))] [(.int (2 : Int32)), (.int (1 : Int32))])
  refine Go.step (fun _ k => XS.icmpYes X8.here hx rfl (pc0 := 55) (pc' := 61) rfl (hb hby d5_55) rfl (tlt (by decide : (1 : Int32) < (2 : Int32))).1 (by decide) (by decide) k) ?_
  show Go _ _ _ _ _ _ _ T8 (mkF m 61 #[.val (.ref q), .val (.int (Lp (a 0))), .val (.double (T (a 2))), .second, .val (.int (Lp (a 2))), .val (.int (0 : Int32)), .val (.int (1 : Int32))] [])
  refine Go.step (fun _ k => XS.iload X8.here hx rfl (hb hby d5_61) rfl k) ?_
  show Go _ _ _ _ _ _ _ T8 (mkF m 63 #[.val (.ref q), .val (.int (Lp (a 0))), .val (.double (T (a 2))), .second, .val (.int (Lp (a 2))), .val (.int (0 : Int32)), .val (.int (1 : Int32))] [(.int (1 : Int32))])
  refine Go.step (fun _ k => XS.iconst X8.here hx rfl (hb hby d5_63) k) ?_
  show Go _ _ _ _ _ _ _ T8 (mkF m 64 #[.val (.ref q), .val (.int (Lp (a 0))), .val (.double (T (a 2))), .second, .val (.int (Lp (a 2))), .val (.int (0 : Int32)), .val (.int (1 : Int32))] [(.int (1 : Int32)), (.int (1 : Int32))])
  refine Go.step (fun _ k => XS.iadd X8.here hx rfl (hb hby d5_64) rfl k) ?_
  show Go _ _ _ _ _ _ _ T8 (mkF m 65 #[.val (.ref q), .val (.int (Lp (a 0))), .val (.double (T (a 2))), .second, .val (.int (Lp (a 2))), .val (.int (0 : Int32)), .val (.int (1 : Int32))] [(.int (2 : Int32))])
  refine Go.step (fun _ k => XS.aloadN X8.here hx rfl (hb hby d5_65) rfl rfl k) ?_
  show Go _ _ _ _ _ _ _ T8 (mkF m 66 #[.val (.ref q), .val (.int (Lp (a 0))), .val (.double (T (a 2))), .second, .val (.int (Lp (a 2))), .val (.int (0 : Int32)), .val (.int (1 : Int32))] [(.ref q), (.int (2 : Int32))])
  obtain ⟨T9, X9, e9, st9⟩ := getF X8 hx hZ hown (host := "") (Or.inl (hw _ (List.mem_of_getElem? (i := 20) rfl))) Via.refl e8 F_size_q_3 (g := (mkF m 66 #[.val (.ref q), .val (.int (Lp (a 0))), .val (.double (T (a 2))), .second, .val (.int (Lp (a 2))), .val (.int (0 : Int32)), .val (.int (1 : Int32))] [(.ref q), (.int (2 : Int32))])) rfl rfl (hb hby d5_66)
  refine Go.step st9 ?_
  show Go _ _ _ _ _ _ _ T9 (mkF m 69 #[.val (.ref q), .val (.int (Lp (a 0))), .val (.double (T (a 2))), .second, .val (.int (Lp (a 2))), .val (.int (0 : Int32)), .val (.int (1 : Int32))] [(.int (2 : Int32)), (.int (2 : Int32))])
  refine Go.step (fun _ k => XS.icmpYes X9.here hx rfl (pc0 := 69) (pc' := 95) rfl (hb hby d5_69) rfl (flt (by decide : ¬ ((2 : Int32) < (2 : Int32)))).2.1 (by decide) (by decide) k) ?_
  show Go _ _ _ _ _ _ _ T9 (mkF m 95 #[.val (.ref q), .val (.int (Lp (a 0))), .val (.double (T (a 2))), .second, .val (.int (Lp (a 2))), .val (.int (0 : Int32)), .val (.int (1 : Int32))] [])
  refine Go.step (fun _ k => XS.aloadN X9.here hx rfl (hb hby d5_95) rfl rfl k) ?_
  show Go _ _ _ _ _ _ _ T9 (mkF m 96 #[.val (.ref q), .val (.int (Lp (a 0))), .val (.double (T (a 2))), .second, .val (.int (Lp (a 2))), .val (.int (0 : Int32)), .val (.int (1 : Int32))] [(.ref q)])
  obtain ⟨T10, X10, e10, st10⟩ := getF X9 hx hZ hown (host := "") (Or.inl (hw _ (List.mem_of_getElem? (i := 10) rfl))) Via.refl e9 F_times_q_3 (g := (mkF m 96 #[.val (.ref q), .val (.int (Lp (a 0))), .val (.double (T (a 2))), .second, .val (.int (Lp (a 2))), .val (.int (0 : Int32)), .val (.int (1 : Int32))] [(.ref q)])) rfl rfl (hb hby d5_96)
  refine Go.step st10 ?_
  show Go _ _ _ _ _ _ _ T10 (mkF m 99 #[.val (.ref q), .val (.int (Lp (a 0))), .val (.double (T (a 2))), .second, .val (.int (Lp (a 2))), .val (.int (0 : Int32)), .val (.int (1 : Int32))] [(.ref u)])
  refine Go.step (fun _ k => XS.iload X10.here hx rfl (hb hby d5_99) rfl k) ?_
  show Go _ _ _ _ _ _ _ T10 (mkF m 101 #[.val (.ref q), .val (.int (Lp (a 0))), .val (.double (T (a 2))), .second, .val (.int (Lp (a 2))), .val (.int (0 : Int32)), .val (.int (1 : Int32))] [(.int (1 : Int32)), (.ref u)])
  refine Go.daload X10 hx hZ e10 V_u_3 (j := (1 : Int32)) (v := (T (a 1))) (by decide) (by first | rfl | simp [updN, hg0, hg1, hg2, hl0, hl1, hl2]) (hb hby d5_101) ?_
  show Go _ _ _ _ _ _ _ T10 (mkF m 102 #[.val (.ref q), .val (.int (Lp (a 0))), .val (.double (T (a 2))), .second, .val (.int (Lp (a 2))), .val (.int (0 : Int32)), .val (.int (1 : Int32))] [(.double (T (a 1)))])
  refine Go.step (fun _ k => XS.dloadN X10.here hx rfl (hb hby d5_102) rfl k) ?_
  show Go _ _ _ _ _ _ _ T10 (mkF m 103 #[.val (.ref q), .val (.int (Lp (a 0))), .val (.double (T (a 2))), .second, .val (.int (Lp (a 2))), .val (.int (0 : Int32)), .val (.int (1 : Int32))] [(.double (T (a 2))), (.double (T (a 1)))])
  refine Go.step (fun _ k => XS.dcmpS X10.here hx rfl (hb hby d5_103) rfl rfl k) ?_
  show Go _ _ _ _ _ _ _ T10 (mkF m 104 #[.val (.ref q), .val (.int (Lp (a 0))), .val (.double (T (a 2))), .second, .val (.int (Lp (a 2))), .val (.int (0 : Int32)), .val (.int (1 : Int32))] [(.int (cmpValue (FP.dcmp (T (a 1)) (T (a 2))) .l))])
  by_cases hd104_11 : (FP.dcmp (T (a 1)) (T (a 2)) = some .gt ∨ FP.dcmp (T (a 1)) (T (a 2)) = some .eq)
  · refine Go.step (fun _ k => XS.ifNo X10.here hx rfl (hb hby d5_104) rfl (ge_y hd104_11) k) ?_
    show Go _ _ _ _ _ _ _ T10 (mkF m 107 #[.val (.ref q), .val (.int (Lp (a 0))), .val (.double (T (a 2))), .second, .val (.int (Lp (a 2))), .val (.int (0 : Int32)), .val (.int (1 : Int32))] [])
    refine Go.step (fun _ k => XS.goto X10.here hx rfl (pc0 := 107) (pc' := 145) rfl (hb hby d5_107) (by decide) (by decide) k) ?_
    show Go _ _ _ _ _ _ _ T10 (mkF m 145 #[.val (.ref q), .val (.int (Lp (a 0))), .val (.double (T (a 2))), .second, .val (.int (Lp (a 2))), .val (.int (0 : Int32)), .val (.int (1 : Int32))] [])
    refine Go.step (fun _ k => XS.aloadN X10.here hx rfl (hb hby d5_145) rfl rfl k) ?_
    show Go _ _ _ _ _ _ _ T10 (mkF m 146 #[.val (.ref q), .val (.int (Lp (a 0))), .val (.double (T (a 2))), .second, .val (.int (Lp (a 2))), .val (.int (0 : Int32)), .val (.int (1 : Int32))] [(.ref q)])
    obtain ⟨T12, X12, e12, st12⟩ := getF X10 hx hZ hown (host := "") (Or.inl (hw _ (List.mem_of_getElem? (i := 10) rfl))) Via.refl e10 F_times_q_3 (g := (mkF m 146 #[.val (.ref q), .val (.int (Lp (a 0))), .val (.double (T (a 2))), .second, .val (.int (Lp (a 2))), .val (.int (0 : Int32)), .val (.int (1 : Int32))] [(.ref q)])) rfl rfl (hb hby d5_146)
    refine Go.step st12 ?_
    show Go _ _ _ _ _ _ _ T12 (mkF m 149 #[.val (.ref q), .val (.int (Lp (a 0))), .val (.double (T (a 2))), .second, .val (.int (Lp (a 2))), .val (.int (0 : Int32)), .val (.int (1 : Int32))] [(.ref u)])
    refine Go.step (fun _ k => XS.iload X12.here hx rfl (hb hby d5_149) rfl k) ?_
    show Go _ _ _ _ _ _ _ T12 (mkF m 151 #[.val (.ref q), .val (.int (Lp (a 0))), .val (.double (T (a 2))), .second, .val (.int (Lp (a 2))), .val (.int (0 : Int32)), .val (.int (1 : Int32))] [(.int (0 : Int32)), (.ref u)])
    refine Go.step (fun _ k => XS.dloadN X12.here hx rfl (hb hby d5_151) rfl k) ?_
    show Go _ _ _ _ _ _ _ T12 (mkF m 152 #[.val (.ref q), .val (.int (Lp (a 0))), .val (.double (T (a 2))), .second, .val (.int (Lp (a 2))), .val (.int (0 : Int32)), .val (.int (1 : Int32))] [(.double (T (a 2))), (.int (0 : Int32)), (.ref u)])
    refine Go.dastore X12 hx hZ e12 V_u_3 (j := (0 : Int32)) (x := (T (a 2))) (by decide) (hb hby d5_152) ?_
    intro T13 h13 X13 e13 W13 Vn13
    have V_u_13 : Dv Z h13 u (64 : Int32) (updN g 0 (T (a 2))) := Vn13
    have N13 := Fr.snoc X13 N3 ge_u
    have E_q_13 := E_q_3.wr W13
    have F_size_q_13 := F_size_q_3.other W13 (Or.inl ne_q_u)
    have F_times_q_13 := F_times_q_3.other W13 (Or.inl ne_q_u)
    have F_lightpaths_q_13 := F_lightpaths_q_3.other W13 (Or.inl ne_q_u)
    have V_v_13 := V_v_3.other W13 (Ne.symm ne_u_v)
    have K13 : Keep h0 h13 [q, u, v] := K3.wr W13 (Or.inl (List.mem_of_getElem? (i := 1) rfl))
    show Go _ _ _ _ _ _ _ T13 (mkF m 153 #[.val (.ref q), .val (.int (Lp (a 0))), .val (.double (T (a 2))), .second, .val (.int (Lp (a 2))), .val (.int (0 : Int32)), .val (.int (1 : Int32))] [])
    refine Go.step (fun _ k => XS.aloadN X13.here hx rfl (hb hby d5_153) rfl rfl k) ?_
    show Go _ _ _ _ _ _ _ T13 (mkF m 154 #[.val (.ref q), .val (.int (Lp (a 0))), .val (.double (T (a 2))), .second, .val (.int (Lp (a 2))), .val (.int (0 : Int32)), .val (.int (1 : Int32))] [(.ref q)])
    obtain ⟨T14, X14, e14, st14⟩ := getF X13 hx hZ hown (host := "") (Or.inl (hw _ (List.mem_of_getElem? (i := 13) rfl))) Via.refl e13 F_lightpaths_q_13 (g := (mkF m 154 #[.val (.ref q), .val (.int (Lp (a 0))), .val (.double (T (a 2))), .second, .val (.int (Lp (a 2))), .val (.int (0 : Int32)), .val (.int (1 : Int32))] [(.ref q)])) rfl rfl (hb hby d5_154)
    refine Go.step st14 ?_
    show Go _ _ _ _ _ _ _ T14 (mkF m 157 #[.val (.ref q), .val (.int (Lp (a 0))), .val (.double (T (a 2))), .second, .val (.int (Lp (a 2))), .val (.int (0 : Int32)), .val (.int (1 : Int32))] [(.ref v)])
    refine Go.step (fun _ k => XS.iload X14.here hx rfl (hb hby d5_157) rfl k) ?_
    show Go _ _ _ _ _ _ _ T14 (mkF m 159 #[.val (.ref q), .val (.int (Lp (a 0))), .val (.double (T (a 2))), .second, .val (.int (Lp (a 2))), .val (.int (0 : Int32)), .val (.int (1 : Int32))] [(.int (0 : Int32)), (.ref v)])
    refine Go.step (fun _ k => XS.iload X14.here hx rfl (hb hby d5_159) rfl k) ?_
    show Go _ _ _ _ _ _ _ T14 (mkF m 161 #[.val (.ref q), .val (.int (Lp (a 0))), .val (.double (T (a 2))), .second, .val (.int (Lp (a 2))), .val (.int (0 : Int32)), .val (.int (1 : Int32))] [(.int (Lp (a 2))), (.int (0 : Int32)), (.ref v)])
    refine Go.iastore X14 hx hZ e14 V_v_13 (j := (0 : Int32)) (x := (Lp (a 2))) (by decide) (hb hby d5_161) ?_
    intro T15 h15 X15 e15 W15 Vn15
    have V_v_15 : Iv Z h15 v (64 : Int32) (updN l' 0 (Lp (a 2))) := Vn15
    have N15 := Fr.snoc X15 N13 ge_v
    have E_q_15 := E_q_13.wr W15
    have F_size_q_15 := F_size_q_13.other W15 (Or.inl ne_q_v)
    have F_times_q_15 := F_times_q_13.other W15 (Or.inl ne_q_v)
    have F_lightpaths_q_15 := F_lightpaths_q_13.other W15 (Or.inl ne_q_v)
    have V_u_15 := V_u_13.other W15 ne_u_v
    have K15 : Keep h0 h15 [q, u, v] := K13.wr W15 (Or.inl (List.mem_of_getElem? (i := 2) rfl))
    show Go _ _ _ _ _ _ _ T15 (mkF m 162 #[.val (.ref q), .val (.int (Lp (a 0))), .val (.double (T (a 2))), .second, .val (.int (Lp (a 2))), .val (.int (0 : Int32)), .val (.int (1 : Int32))] [])
    refine Go.step (fun _ k => XS.iloadN X15.here hx rfl (hb hby d5_162) rfl k) ?_
    show Go _ _ _ _ _ _ _ T15 (mkF m 163 #[.val (.ref q), .val (.int (Lp (a 0))), .val (.double (T (a 2))), .second, .val (.int (Lp (a 2))), .val (.int (0 : Int32)), .val (.int (1 : Int32))] [(.int (Lp (a 0)))])
    refine Go.retI X15 hx hlk hret (hb hby d5_163) (by decide) (by decide) ?_
    try rw [e15]
    have := own_geK hT hd104_11
    refine ⟨rfl, N15, K15, E_q_15, F_size_q_15, F_times_q_15, F_lightpaths_q_15, _, _, (updN a 0 (a 2)), V_u_15, V_v_15, fun i hi' => by rcases (by omega : i = 0 ∨ i = 1) with rfl | rfl <;> first | rfl | simp [updN, hg0, hg1, hg2, hl0, hl1, hl2], fun i hi' => by rcases (by omega : i = 0 ∨ i = 1) with rfl | rfl <;> first | rfl | simp [updN, hg0, hg1, hg2, hl0, hl1, hl2], ?_, ?_, fun P hP => ?_⟩
    · simp only [HI, updN]; try simp; try omega
    · exact ⟨fun i hi' => by rcases (by omega : i = 0 ∨ i = 1) with rfl | rfl <;> simp [updN] <;> omega, fun w => by simp [sumA, updN]; try omega⟩
    · intro i hi'; rcases (by omega : i = 0 ∨ i = 1) with rfl | rfl <;> simp [updN] <;> exact hP _ (by decide)
  · refine Go.step (fun _ k => XS.ifYes X10.here hx rfl (pc0 := 104) (pc' := 110) rfl (hb hby d5_104) rfl (ge_n hd104_11) (by decide) (by decide) k) ?_
    show Go _ _ _ _ _ _ _ T10 (mkF m 110 #[.val (.ref q), .val (.int (Lp (a 0))), .val (.double (T (a 2))), .second, .val (.int (Lp (a 2))), .val (.int (0 : Int32)), .val (.int (1 : Int32))] [])
    refine Go.step (fun _ k => XS.aloadN X10.here hx rfl (hb hby d5_110) rfl rfl k) ?_
    show Go _ _ _ _ _ _ _ T10 (mkF m 111 #[.val (.ref q), .val (.int (Lp (a 0))), .val (.double (T (a 2))), .second, .val (.int (Lp (a 2))), .val (.int (0 : Int32)), .val (.int (1 : Int32))] [(.ref q)])
    obtain ⟨T16, X16, e16, st16⟩ := getF X10 hx hZ hown (host := "") (Or.inl (hw _ (List.mem_of_getElem? (i := 10) rfl))) Via.refl e10 F_times_q_3 (g := (mkF m 111 #[.val (.ref q), .val (.int (Lp (a 0))), .val (.double (T (a 2))), .second, .val (.int (Lp (a 2))), .val (.int (0 : Int32)), .val (.int (1 : Int32))] [(.ref q)])) rfl rfl (hb hby d5_111)
    refine Go.step st16 ?_
    show Go _ _ _ _ _ _ _ T16 (mkF m 114 #[.val (.ref q), .val (.int (Lp (a 0))), .val (.double (T (a 2))), .second, .val (.int (Lp (a 2))), .val (.int (0 : Int32)), .val (.int (1 : Int32))] [(.ref u)])
    refine Go.step (fun _ k => XS.iload X16.here hx rfl (hb hby d5_114) rfl k) ?_
    show Go _ _ _ _ _ _ _ T16 (mkF m 116 #[.val (.ref q), .val (.int (Lp (a 0))), .val (.double (T (a 2))), .second, .val (.int (Lp (a 2))), .val (.int (0 : Int32)), .val (.int (1 : Int32))] [(.int (0 : Int32)), (.ref u)])
    refine Go.step (fun _ k => XS.aloadN X16.here hx rfl (hb hby d5_116) rfl rfl k) ?_
    show Go _ _ _ _ _ _ _ T16 (mkF m 117 #[.val (.ref q), .val (.int (Lp (a 0))), .val (.double (T (a 2))), .second, .val (.int (Lp (a 2))), .val (.int (0 : Int32)), .val (.int (1 : Int32))] [(.ref q), (.int (0 : Int32)), (.ref u)])
    obtain ⟨T17, X17, e17, st17⟩ := getF X16 hx hZ hown (host := "") (Or.inl (hw _ (List.mem_of_getElem? (i := 10) rfl))) Via.refl e16 F_times_q_3 (g := (mkF m 117 #[.val (.ref q), .val (.int (Lp (a 0))), .val (.double (T (a 2))), .second, .val (.int (Lp (a 2))), .val (.int (0 : Int32)), .val (.int (1 : Int32))] [(.ref q), (.int (0 : Int32)), (.ref u)])) rfl rfl (hb hby d5_117)
    refine Go.step st17 ?_
    show Go _ _ _ _ _ _ _ T17 (mkF m 120 #[.val (.ref q), .val (.int (Lp (a 0))), .val (.double (T (a 2))), .second, .val (.int (Lp (a 2))), .val (.int (0 : Int32)), .val (.int (1 : Int32))] [(.ref u), (.int (0 : Int32)), (.ref u)])
    refine Go.step (fun _ k => XS.iload X17.here hx rfl (hb hby d5_120) rfl k) ?_
    show Go _ _ _ _ _ _ _ T17 (mkF m 122 #[.val (.ref q), .val (.int (Lp (a 0))), .val (.double (T (a 2))), .second, .val (.int (Lp (a 2))), .val (.int (0 : Int32)), .val (.int (1 : Int32))] [(.int (1 : Int32)), (.ref u), (.int (0 : Int32)), (.ref u)])
    refine Go.daload X17 hx hZ e17 V_u_3 (j := (1 : Int32)) (v := (T (a 1))) (by decide) (by first | rfl | simp [updN, hg0, hg1, hg2, hl0, hl1, hl2]) (hb hby d5_122) ?_
    show Go _ _ _ _ _ _ _ T17 (mkF m 123 #[.val (.ref q), .val (.int (Lp (a 0))), .val (.double (T (a 2))), .second, .val (.int (Lp (a 2))), .val (.int (0 : Int32)), .val (.int (1 : Int32))] [(.double (T (a 1))), (.int (0 : Int32)), (.ref u)])
    refine Go.dastore X17 hx hZ e17 V_u_3 (j := (0 : Int32)) (x := (T (a 1))) (by decide) (hb hby d5_123) ?_
    intro T18 h18 X18 e18 W18 Vn18
    have V_u_18 : Dv Z h18 u (64 : Int32) (updN g 0 (T (a 1))) := Vn18
    have N18 := Fr.snoc X18 N3 ge_u
    have E_q_18 := E_q_3.wr W18
    have F_size_q_18 := F_size_q_3.other W18 (Or.inl ne_q_u)
    have F_times_q_18 := F_times_q_3.other W18 (Or.inl ne_q_u)
    have F_lightpaths_q_18 := F_lightpaths_q_3.other W18 (Or.inl ne_q_u)
    have V_v_18 := V_v_3.other W18 (Ne.symm ne_u_v)
    have K18 : Keep h0 h18 [q, u, v] := K3.wr W18 (Or.inl (List.mem_of_getElem? (i := 1) rfl))
    show Go _ _ _ _ _ _ _ T18 (mkF m 124 #[.val (.ref q), .val (.int (Lp (a 0))), .val (.double (T (a 2))), .second, .val (.int (Lp (a 2))), .val (.int (0 : Int32)), .val (.int (1 : Int32))] [])
    refine Go.step (fun _ k => XS.aloadN X18.here hx rfl (hb hby d5_124) rfl rfl k) ?_
    show Go _ _ _ _ _ _ _ T18 (mkF m 125 #[.val (.ref q), .val (.int (Lp (a 0))), .val (.double (T (a 2))), .second, .val (.int (Lp (a 2))), .val (.int (0 : Int32)), .val (.int (1 : Int32))] [(.ref q)])
    obtain ⟨T19, X19, e19, st19⟩ := getF X18 hx hZ hown (host := "") (Or.inl (hw _ (List.mem_of_getElem? (i := 13) rfl))) Via.refl e18 F_lightpaths_q_18 (g := (mkF m 125 #[.val (.ref q), .val (.int (Lp (a 0))), .val (.double (T (a 2))), .second, .val (.int (Lp (a 2))), .val (.int (0 : Int32)), .val (.int (1 : Int32))] [(.ref q)])) rfl rfl (hb hby d5_125)
    refine Go.step st19 ?_
    show Go _ _ _ _ _ _ _ T19 (mkF m 128 #[.val (.ref q), .val (.int (Lp (a 0))), .val (.double (T (a 2))), .second, .val (.int (Lp (a 2))), .val (.int (0 : Int32)), .val (.int (1 : Int32))] [(.ref v)])
    refine Go.step (fun _ k => XS.iload X19.here hx rfl (hb hby d5_128) rfl k) ?_
    show Go _ _ _ _ _ _ _ T19 (mkF m 130 #[.val (.ref q), .val (.int (Lp (a 0))), .val (.double (T (a 2))), .second, .val (.int (Lp (a 2))), .val (.int (0 : Int32)), .val (.int (1 : Int32))] [(.int (0 : Int32)), (.ref v)])
    refine Go.step (fun _ k => XS.aloadN X19.here hx rfl (hb hby d5_130) rfl rfl k) ?_
    show Go _ _ _ _ _ _ _ T19 (mkF m 131 #[.val (.ref q), .val (.int (Lp (a 0))), .val (.double (T (a 2))), .second, .val (.int (Lp (a 2))), .val (.int (0 : Int32)), .val (.int (1 : Int32))] [(.ref q), (.int (0 : Int32)), (.ref v)])
    obtain ⟨T20, X20, e20, st20⟩ := getF X19 hx hZ hown (host := "") (Or.inl (hw _ (List.mem_of_getElem? (i := 13) rfl))) Via.refl e19 F_lightpaths_q_18 (g := (mkF m 131 #[.val (.ref q), .val (.int (Lp (a 0))), .val (.double (T (a 2))), .second, .val (.int (Lp (a 2))), .val (.int (0 : Int32)), .val (.int (1 : Int32))] [(.ref q), (.int (0 : Int32)), (.ref v)])) rfl rfl (hb hby d5_131)
    refine Go.step st20 ?_
    show Go _ _ _ _ _ _ _ T20 (mkF m 134 #[.val (.ref q), .val (.int (Lp (a 0))), .val (.double (T (a 2))), .second, .val (.int (Lp (a 2))), .val (.int (0 : Int32)), .val (.int (1 : Int32))] [(.ref v), (.int (0 : Int32)), (.ref v)])
    refine Go.step (fun _ k => XS.iload X20.here hx rfl (hb hby d5_134) rfl k) ?_
    show Go _ _ _ _ _ _ _ T20 (mkF m 136 #[.val (.ref q), .val (.int (Lp (a 0))), .val (.double (T (a 2))), .second, .val (.int (Lp (a 2))), .val (.int (0 : Int32)), .val (.int (1 : Int32))] [(.int (1 : Int32)), (.ref v), (.int (0 : Int32)), (.ref v)])
    refine Go.iaload X20 hx hZ e20 V_v_18 (j := (1 : Int32)) (v := (Lp (a 1))) (by decide) (by first | rfl | simp [updN, hg0, hg1, hg2, hl0, hl1, hl2]) (hb hby d5_136) ?_
    show Go _ _ _ _ _ _ _ T20 (mkF m 137 #[.val (.ref q), .val (.int (Lp (a 0))), .val (.double (T (a 2))), .second, .val (.int (Lp (a 2))), .val (.int (0 : Int32)), .val (.int (1 : Int32))] [(.int (Lp (a 1))), (.int (0 : Int32)), (.ref v)])
    refine Go.iastore X20 hx hZ e20 V_v_18 (j := (0 : Int32)) (x := (Lp (a 1))) (by decide) (hb hby d5_137) ?_
    intro T21 h21 X21 e21 W21 Vn21
    have V_v_21 : Iv Z h21 v (64 : Int32) (updN l' 0 (Lp (a 1))) := Vn21
    have N21 := Fr.snoc X21 N18 ge_v
    have E_q_21 := E_q_18.wr W21
    have F_size_q_21 := F_size_q_18.other W21 (Or.inl ne_q_v)
    have F_times_q_21 := F_times_q_18.other W21 (Or.inl ne_q_v)
    have F_lightpaths_q_21 := F_lightpaths_q_18.other W21 (Or.inl ne_q_v)
    have V_u_21 := V_u_18.other W21 ne_u_v
    have K21 : Keep h0 h21 [q, u, v] := K18.wr W21 (Or.inl (List.mem_of_getElem? (i := 2) rfl))
    show Go _ _ _ _ _ _ _ T21 (mkF m 138 #[.val (.ref q), .val (.int (Lp (a 0))), .val (.double (T (a 2))), .second, .val (.int (Lp (a 2))), .val (.int (0 : Int32)), .val (.int (1 : Int32))] [])
    refine Go.step (fun _ k => XS.iload X21.here hx rfl (hb hby d5_138) rfl k) ?_
    show Go _ _ _ _ _ _ _ T21 (mkF m 140 #[.val (.ref q), .val (.int (Lp (a 0))), .val (.double (T (a 2))), .second, .val (.int (Lp (a 2))), .val (.int (0 : Int32)), .val (.int (1 : Int32))] [(.int (1 : Int32))])
    refine Go.step (fun _ k => XS.istore X21.here hx rfl (hb hby d5_140) rfl (l' := #[.val (.ref q), .val (.int (Lp (a 0))), .val (.double (T (a 2))), .second, .val (.int (Lp (a 2))), .val (.int (1 : Int32)), .val (.int (1 : Int32))]) rfl k) ?_
    show Go _ _ _ _ _ _ _ T21 (mkF m 142 #[.val (.ref q), .val (.int (Lp (a 0))), .val (.double (T (a 2))), .second, .val (.int (Lp (a 2))), .val (.int (1 : Int32)), .val (.int (1 : Int32))] [])
    refine Go.step (fun _ k => XS.goto X21.here hx rfl (pc0 := 142) (pc' := 41) rfl (hb hby d5_142) (by decide) (by decide) k) ?_
    show Go _ _ _ _ _ _ _ T21 (mkF m 41 #[.val (.ref q), .val (.int (Lp (a 0))), .val (.double (T (a 2))), .second, .val (.int (Lp (a 2))), .val (.int (1 : Int32)), .val (.int (1 : Int32))] [])
    refine Go.step (fun _ k => XS.iconst X21.here hx rfl (hb hby d5_41) k) ?_
    show Go _ _ _ _ _ _ _ T21 (mkF m 42 #[.val (.ref q), .val (.int (Lp (a 0))), .val (.double (T (a 2))), .second, .val (.int (Lp (a 2))), .val (.int (1 : Int32)), .val (.int (1 : Int32))] [(.int (2 : Int32))])
    refine Go.step (fun _ k => XS.iload X21.here hx rfl (hb hby d5_42) rfl k) ?_
    show Go _ _ _ _ _ _ _ T21 (mkF m 44 #[.val (.ref q), .val (.int (Lp (a 0))), .val (.double (T (a 2))), .second, .val (.int (Lp (a 2))), .val (.int (1 : Int32)), .val (.int (1 : Int32))] [(.int (1 : Int32)), (.int (2 : Int32))])
    refine Go.step (fun _ k => XS.imul X21.here hx rfl (hb hby d5_44) rfl k) ?_
    show Go _ _ _ _ _ _ _ T21 (mkF m 45 #[.val (.ref q), .val (.int (Lp (a 0))), .val (.double (T (a 2))), .second, .val (.int (Lp (a 2))), .val (.int (1 : Int32)), .val (.int (1 : Int32))] [(.int (2 : Int32))])
    refine Go.step (fun _ k => XS.iconst X21.here hx rfl (hb hby d5_45) k) ?_
    show Go _ _ _ _ _ _ _ T21 (mkF m 46 #[.val (.ref q), .val (.int (Lp (a 0))), .val (.double (T (a 2))), .second, .val (.int (Lp (a 2))), .val (.int (1 : Int32)), .val (.int (1 : Int32))] [(.int (1 : Int32)), (.int (2 : Int32))])
    refine Go.step (fun _ k => XS.iadd X21.here hx rfl (hb hby d5_46) rfl k) ?_
    show Go _ _ _ _ _ _ _ T21 (mkF m 47 #[.val (.ref q), .val (.int (Lp (a 0))), .val (.double (T (a 2))), .second, .val (.int (Lp (a 2))), .val (.int (1 : Int32)), .val (.int (1 : Int32))] [(.int (3 : Int32))])
    refine Go.step (fun _ k => XS.istore X21.here hx rfl (hb hby d5_47) rfl (l' := #[.val (.ref q), .val (.int (Lp (a 0))), .val (.double (T (a 2))), .second, .val (.int (Lp (a 2))), .val (.int (1 : Int32)), .val (.int (3 : Int32))]) rfl k) ?_
    show Go _ _ _ _ _ _ _ T21 (mkF m 49 #[.val (.ref q), .val (.int (Lp (a 0))), .val (.double (T (a 2))), .second, .val (.int (Lp (a 2))), .val (.int (1 : Int32)), .val (.int (3 : Int32))] [])
    refine Go.step (fun _ k => XS.iload X21.here hx rfl (hb hby d5_49) rfl k) ?_
    show Go _ _ _ _ _ _ _ T21 (mkF m 51 #[.val (.ref q), .val (.int (Lp (a 0))), .val (.double (T (a 2))), .second, .val (.int (Lp (a 2))), .val (.int (1 : Int32)), .val (.int (3 : Int32))] [(.int (3 : Int32))])
    refine Go.step (fun _ k => XS.aloadN X21.here hx rfl (hb hby d5_51) rfl rfl k) ?_
    show Go _ _ _ _ _ _ _ T21 (mkF m 52 #[.val (.ref q), .val (.int (Lp (a 0))), .val (.double (T (a 2))), .second, .val (.int (Lp (a 2))), .val (.int (1 : Int32)), .val (.int (3 : Int32))] [(.ref q), (.int (3 : Int32))])
    obtain ⟨T22, X22, e22, st22⟩ := getF X21 hx hZ hown (host := "") (Or.inl (hw _ (List.mem_of_getElem? (i := 20) rfl))) Via.refl e21 F_size_q_21 (g := (mkF m 52 #[.val (.ref q), .val (.int (Lp (a 0))), .val (.double (T (a 2))), .second, .val (.int (Lp (a 2))), .val (.int (1 : Int32)), .val (.int (3 : Int32))] [(.ref q), (.int (3 : Int32))])) rfl rfl (hb hby d5_52)
    refine Go.step st22 ?_
    show Go _ _ _ _ _ _ _ T22 (mkF m 55 #[.val (.ref q), .val (.int (Lp (a 0))), .val (.double (T (a 2))), .second, .val (.int (Lp (a 2))), .val (.int (1 : Int32)), .val (.int (3 : Int32))] [(.int (2 : Int32)), (.int (3 : Int32))])
    refine Go.step (fun _ k => XS.icmpNo X22.here hx rfl (hb hby d5_55) rfl (flt (by decide : ¬ ((3 : Int32) < (2 : Int32)))).1 k) ?_
    show Go _ _ _ _ _ _ _ T22 (mkF m 58 #[.val (.ref q), .val (.int (Lp (a 0))), .val (.double (T (a 2))), .second, .val (.int (Lp (a 2))), .val (.int (1 : Int32)), .val (.int (3 : Int32))] [])
    refine Go.step (fun _ k => XS.goto X22.here hx rfl (pc0 := 58) (pc' := 145) rfl (hb hby d5_58) (by decide) (by decide) k) ?_
    show Go _ _ _ _ _ _ _ T22 (mkF m 145 #[.val (.ref q), .val (.int (Lp (a 0))), .val (.double (T (a 2))), .second, .val (.int (Lp (a 2))), .val (.int (1 : Int32)), .val (.int (3 : Int32))] [])
    refine Go.step (fun _ k => XS.aloadN X22.here hx rfl (hb hby d5_145) rfl rfl k) ?_
    show Go _ _ _ _ _ _ _ T22 (mkF m 146 #[.val (.ref q), .val (.int (Lp (a 0))), .val (.double (T (a 2))), .second, .val (.int (Lp (a 2))), .val (.int (1 : Int32)), .val (.int (3 : Int32))] [(.ref q)])
    obtain ⟨T23, X23, e23, st23⟩ := getF X22 hx hZ hown (host := "") (Or.inl (hw _ (List.mem_of_getElem? (i := 10) rfl))) Via.refl e22 F_times_q_21 (g := (mkF m 146 #[.val (.ref q), .val (.int (Lp (a 0))), .val (.double (T (a 2))), .second, .val (.int (Lp (a 2))), .val (.int (1 : Int32)), .val (.int (3 : Int32))] [(.ref q)])) rfl rfl (hb hby d5_146)
    refine Go.step st23 ?_
    show Go _ _ _ _ _ _ _ T23 (mkF m 149 #[.val (.ref q), .val (.int (Lp (a 0))), .val (.double (T (a 2))), .second, .val (.int (Lp (a 2))), .val (.int (1 : Int32)), .val (.int (3 : Int32))] [(.ref u)])
    refine Go.step (fun _ k => XS.iload X23.here hx rfl (hb hby d5_149) rfl k) ?_
    show Go _ _ _ _ _ _ _ T23 (mkF m 151 #[.val (.ref q), .val (.int (Lp (a 0))), .val (.double (T (a 2))), .second, .val (.int (Lp (a 2))), .val (.int (1 : Int32)), .val (.int (3 : Int32))] [(.int (1 : Int32)), (.ref u)])
    refine Go.step (fun _ k => XS.dloadN X23.here hx rfl (hb hby d5_151) rfl k) ?_
    show Go _ _ _ _ _ _ _ T23 (mkF m 152 #[.val (.ref q), .val (.int (Lp (a 0))), .val (.double (T (a 2))), .second, .val (.int (Lp (a 2))), .val (.int (1 : Int32)), .val (.int (3 : Int32))] [(.double (T (a 2))), (.int (1 : Int32)), (.ref u)])
    refine Go.dastore X23 hx hZ e23 V_u_21 (j := (1 : Int32)) (x := (T (a 2))) (by decide) (hb hby d5_152) ?_
    intro T24 h24 X24 e24 W24 Vn24
    have V_u_24 : Dv Z h24 u (64 : Int32) (updN (updN g 0 (T (a 1))) 1 (T (a 2))) := Vn24
    have N24 := Fr.snoc X24 N21 ge_u
    have E_q_24 := E_q_21.wr W24
    have F_size_q_24 := F_size_q_21.other W24 (Or.inl ne_q_u)
    have F_times_q_24 := F_times_q_21.other W24 (Or.inl ne_q_u)
    have F_lightpaths_q_24 := F_lightpaths_q_21.other W24 (Or.inl ne_q_u)
    have V_v_24 := V_v_21.other W24 (Ne.symm ne_u_v)
    have K24 : Keep h0 h24 [q, u, v] := K21.wr W24 (Or.inl (List.mem_of_getElem? (i := 1) rfl))
    show Go _ _ _ _ _ _ _ T24 (mkF m 153 #[.val (.ref q), .val (.int (Lp (a 0))), .val (.double (T (a 2))), .second, .val (.int (Lp (a 2))), .val (.int (1 : Int32)), .val (.int (3 : Int32))] [])
    refine Go.step (fun _ k => XS.aloadN X24.here hx rfl (hb hby d5_153) rfl rfl k) ?_
    show Go _ _ _ _ _ _ _ T24 (mkF m 154 #[.val (.ref q), .val (.int (Lp (a 0))), .val (.double (T (a 2))), .second, .val (.int (Lp (a 2))), .val (.int (1 : Int32)), .val (.int (3 : Int32))] [(.ref q)])
    obtain ⟨T25, X25, e25, st25⟩ := getF X24 hx hZ hown (host := "") (Or.inl (hw _ (List.mem_of_getElem? (i := 13) rfl))) Via.refl e24 F_lightpaths_q_24 (g := (mkF m 154 #[.val (.ref q), .val (.int (Lp (a 0))), .val (.double (T (a 2))), .second, .val (.int (Lp (a 2))), .val (.int (1 : Int32)), .val (.int (3 : Int32))] [(.ref q)])) rfl rfl (hb hby d5_154)
    refine Go.step st25 ?_
    show Go _ _ _ _ _ _ _ T25 (mkF m 157 #[.val (.ref q), .val (.int (Lp (a 0))), .val (.double (T (a 2))), .second, .val (.int (Lp (a 2))), .val (.int (1 : Int32)), .val (.int (3 : Int32))] [(.ref v)])
    refine Go.step (fun _ k => XS.iload X25.here hx rfl (hb hby d5_157) rfl k) ?_
    show Go _ _ _ _ _ _ _ T25 (mkF m 159 #[.val (.ref q), .val (.int (Lp (a 0))), .val (.double (T (a 2))), .second, .val (.int (Lp (a 2))), .val (.int (1 : Int32)), .val (.int (3 : Int32))] [(.int (1 : Int32)), (.ref v)])
    refine Go.step (fun _ k => XS.iload X25.here hx rfl (hb hby d5_159) rfl k) ?_
    show Go _ _ _ _ _ _ _ T25 (mkF m 161 #[.val (.ref q), .val (.int (Lp (a 0))), .val (.double (T (a 2))), .second, .val (.int (Lp (a 2))), .val (.int (1 : Int32)), .val (.int (3 : Int32))] [(.int (Lp (a 2))), (.int (1 : Int32)), (.ref v)])
    refine Go.iastore X25 hx hZ e25 V_v_24 (j := (1 : Int32)) (x := (Lp (a 2))) (by decide) (hb hby d5_161) ?_
    intro T26 h26 X26 e26 W26 Vn26
    have V_v_26 : Iv Z h26 v (64 : Int32) (updN (updN l' 0 (Lp (a 1))) 1 (Lp (a 2))) := Vn26
    have N26 := Fr.snoc X26 N24 ge_v
    have E_q_26 := E_q_24.wr W26
    have F_size_q_26 := F_size_q_24.other W26 (Or.inl ne_q_v)
    have F_times_q_26 := F_times_q_24.other W26 (Or.inl ne_q_v)
    have F_lightpaths_q_26 := F_lightpaths_q_24.other W26 (Or.inl ne_q_v)
    have V_u_26 := V_u_24.other W26 ne_u_v
    have K26 : Keep h0 h26 [q, u, v] := K24.wr W26 (Or.inl (List.mem_of_getElem? (i := 2) rfl))
    show Go _ _ _ _ _ _ _ T26 (mkF m 162 #[.val (.ref q), .val (.int (Lp (a 0))), .val (.double (T (a 2))), .second, .val (.int (Lp (a 2))), .val (.int (1 : Int32)), .val (.int (3 : Int32))] [])
    refine Go.step (fun _ k => XS.iloadN X26.here hx rfl (hb hby d5_162) rfl k) ?_
    show Go _ _ _ _ _ _ _ T26 (mkF m 163 #[.val (.ref q), .val (.int (Lp (a 0))), .val (.double (T (a 2))), .second, .val (.int (Lp (a 2))), .val (.int (1 : Int32)), .val (.int (3 : Int32))] [(.int (Lp (a 0)))])
    refine Go.retI X26 hx hlk hret (hb hby d5_163) (by decide) (by decide) ?_
    try rw [e26]
    have := own_ngeK hT hd104_11
    refine ⟨rfl, N26, K26, E_q_26, F_size_q_26, F_times_q_26, F_lightpaths_q_26, _, _, (updN (updN a 0 (a 1)) 1 (a 2)), V_u_26, V_v_26, fun i hi' => by rcases (by omega : i = 0 ∨ i = 1) with rfl | rfl <;> first | rfl | simp [updN, hg0, hg1, hg2, hl0, hl1, hl2], fun i hi' => by rcases (by omega : i = 0 ∨ i = 1) with rfl | rfl <;> first | rfl | simp [updN, hg0, hg1, hg2, hl0, hl1, hl2], ?_, ?_, fun P hP => ?_⟩
    · simp only [HI, updN]; try simp; try omega
    · exact ⟨fun i hi' => by rcases (by omega : i = 0 ∨ i = 1) with rfl | rfl <;> simp [updN] <;> omega, fun w => by simp [sumA, updN]; try omega⟩
    · intro i hi'; rcases (by omega : i = 0 ∨ i = 1) with rfl | rfl <;> simp [updN] <;> exact hP _ (by decide)
theorem ef_rm_rem3 (m : MethodId) (q : Addr) : entryFrame m #[(.ref q)] 7 = mkF m 0 #[.val (.ref q), .unset, .unset, .unset, .unset, .unset, .unset] [] := by first | (simp [entryFrame, mkF, argsToLocals, Value.category]; done) | rfl
theorem rm_rem3 (l : Launch) (Z : State) (a0 : Array Value) (hw : ∀ d ∈ tables_1, d.before a0 Z = true) (q u v : Addr) (g : Nat → UInt64) (l' : Nat → Int32) (T : Nat → UInt64) (Lp : Nat → Int32) (K : Nat → Int) (a : Nat → Nat) (h0 : Heap) (n0 : Nat) (Z0 : n0 ≤ h0.size) (E_q : Exa Z h0 q "com/example/wavegrade/wavegrade/DepartureQueue") (F_size_q : Fld Z h0 q "com/example/wavegrade/wavegrade/DepartureQueue" "size" "I" (.int (3 : Int32))) (F_times_q : Fld Z h0 q "com/example/wavegrade/wavegrade/DepartureQueue" "times" "[D" (.ref u)) (F_lightpaths_q : Fld Z h0 q "com/example/wavegrade/wavegrade/DepartureQueue" "lightpaths" "[I" (.ref v)) (V_u : Dv Z h0 u (64 : Int32) g) (V_v : Iv Z h0 v (64 : Int32) l') (ne_q_u : q ≠ u) (ne_q_v : q ≠ v) (ne_u_v : u ≠ v) (ge_q : n0 ≤ q) (ge_u : n0 ≤ u) (ge_v : n0 ≤ v) (hT : ∀ x y, FP.dcmp (T x) (T y) = some (compare (K x) (K y))) (hg : ∀ i, i < 3 → g i = T (a i)) (hl : ∀ i, i < 3 → l' i = Lp (a i)) (hi : HI K a 3) :
    Con l Z (⟨"com/example/wavegrade/wavegrade/DepartureQueue", "removeFirst", "()I"⟩ : MethodName) prog_1_method_5_code 7 (some .int) ({ frames := 0, cells := 0, slots := 0, locals := 0 } : Room) #[(.ref q)] h0 (fun r h L => r = some (.int (Lp (a 0))) ∧ Fr n0 L ∧ Keep h0 h [q, u, v] ∧ Exa Z h q "com/example/wavegrade/wavegrade/DepartureQueue" ∧ Fld Z h q "com/example/wavegrade/wavegrade/DepartureQueue" "size" "I" (.int (2 : Int32)) ∧ Fld Z h q "com/example/wavegrade/wavegrade/DepartureQueue" "times" "[D" (.ref u) ∧ Fld Z h q "com/example/wavegrade/wavegrade/DepartureQueue" "lightpaths" "[I" (.ref v) ∧ ∃ (g2 : Nat → UInt64) (l2 : Nat → Int32) (a2 : Nat → Nat), Dv Z h u (64 : Int32) g2 ∧ Iv Z h v (64 : Int32) l2 ∧ (∀ i, i < 2 → g2 i = T (a2 i)) ∧ (∀ i, i < 2 → l2 i = Lp (a2 i)) ∧ HI K a2 2 ∧ ((∀ i, i < 2 → K (a 0) ≤ K (a2 i)) ∧ ∀ w : Nat → Int, sumA w a2 2 + w (a 0) = sumA w a 3) ∧ ∀ P : Nat → Prop, (∀ i, i < 3 → P (a i)) → ∀ i, i < 2 → P (a2 i)) :=
  con_of (plainFor_of_name pn_1) (fun p_ e_ s_ m_ b_ meth_ c_ T_ X_ hx hZ hby hml hown hnm hret hlk e0 => Go.cast (ef_rm_rem3 m_ q) (w_rem3 q u v g l' T Lp K a X_ hx hZ hw hby hml hown hnm hret hlk e0 Z0 (Fr.nil n0) E_q F_size_q F_times_q F_lightpaths_q V_u V_v ne_q_u ne_q_v ne_u_v ge_q ge_u ge_v hT hg hl hi))
theorem d3_0 : decode prog_1_method_2_code 0 = .ok (.aload_n 0, 1) := by decide +kernel
theorem d3_1 : decode prog_1_method_2_code 1 = .ok (.getfield 17, 3) := by decide +kernel
theorem d3_4 : decode prog_1_method_2_code 4 = .ok (.ifCond .ne 7, 3) := by decide +kernel
theorem d3_7 : decode prog_1_method_2_code 7 = .ok (.iconst 1, 1) := by decide +kernel
theorem d3_8 : decode prog_1_method_2_code 8 = .ok (.goto 4, 3) := by decide +kernel
theorem d3_12 : decode prog_1_method_2_code 12 = .ok (.ireturn, 1) := by decide +kernel
set_option maxRecDepth 65536 in
set_option maxHeartbeats 40000000 in
theorem w_empty0 {p : Program} {l : Launch} {e : Env} {s : State} {m : MethodId} {args : Array Value} {below : List Frame} {meth : Method} {c_ : Code} {T0 : State} {locs : List Loc} {Z : State} {a0 : Array Value} {h0 : Heap} {n0 : Nat} (q : Addr)
    (X0 : Stand p l e ({ frames := 0, cells := 0, slots := 0, locals := 0 } : Room) s m args below meth c_ T0 locs 0 0) (hx : p.tables.exec = Jvm.exec) (hZ : Z.Warmed39 s.vm) (hw : ∀ d ∈ tables_1, d.before a0 Z = true) (hby : c_.code = prog_1_method_2_code) (hml : c_.maxLocals = 1) (hown : s.vm.findClass "com/example/wavegrade/wavegrade/DepartureQueue" = some m.cls) (hnm : meth.name = "isEmpty") (hret : meth.sig.returnType = some .boolean) (hlk : meth.locks = false) (e0 : T0.heap = h0) (Z0 : n0 ≤ h0.size) (N0 : Fr n0 locs) (F_size_q : Fld Z h0 q "com/example/wavegrade/wavegrade/DepartureQueue" "size" "I" (.int (0 : Int32))) :
    Go p e below s ({ frames := 0, cells := 0, slots := 0, locals := 0 } : Room).cells ({ frames := 0, cells := 0, slots := 0, locals := 0 } : Room).slots (fun r h L => r = some (.int (1 : Int32)) ∧ Fr n0 L ∧ h = h0) T0 (mkF m 0 #[.val (.ref q)] []) := by
  show Go _ _ _ _ _ _ _ T0 (mkF m 0 #[.val (.ref q)] [])
  refine Go.step (fun _ k => XS.aloadN X0.here hx rfl (hb hby d3_0) rfl rfl k) ?_
  show Go _ _ _ _ _ _ _ T0 (mkF m 1 #[.val (.ref q)] [(.ref q)])
  obtain ⟨T1, X1, e1, st1⟩ := getF X0 hx hZ hown (host := "") (Or.inl (hw _ (List.mem_of_getElem? (i := 20) rfl))) Via.refl e0 F_size_q (g := (mkF m 1 #[.val (.ref q)] [(.ref q)])) rfl rfl (hb hby d3_1)
  refine Go.step st1 ?_
  show Go _ _ _ _ _ _ _ T1 (mkF m 4 #[.val (.ref q)] [(.int (0 : Int32))])
  refine Go.step (fun _ k => XS.ifNo X1.here hx rfl (hb hby d3_4) rfl ((if0 _ _).trans (teq (by decide : (0 : Int32) = (0 : Int32))).2) k) ?_
  show Go _ _ _ _ _ _ _ T1 (mkF m 7 #[.val (.ref q)] [])
  refine Go.step (fun _ k => XS.iconst X1.here hx rfl (hb hby d3_7) k) ?_
  show Go _ _ _ _ _ _ _ T1 (mkF m 8 #[.val (.ref q)] [(.int (1 : Int32))])
  refine Go.step (fun _ k => XS.goto X1.here hx rfl (pc0 := 8) (pc' := 12) rfl (hb hby d3_8) (by decide) (by decide) k) ?_
  show Go _ _ _ _ _ _ _ T1 (mkF m 12 #[.val (.ref q)] [(.int (1 : Int32))])
  refine Go.retZ X1 hx hlk hret (by decide) (hb hby d3_12) (by decide) (by decide) ?_
  try rw [e1]
  exact ⟨rfl, N0, rfl⟩
theorem ef_rm_empty0 (m : MethodId) (q : Addr) : entryFrame m #[(.ref q)] 1 = mkF m 0 #[.val (.ref q)] [] := by first | (simp [entryFrame, mkF, argsToLocals, Value.category]; done) | rfl
theorem rm_empty0 (l : Launch) (Z : State) (a0 : Array Value) (hw : ∀ d ∈ tables_1, d.before a0 Z = true) (q : Addr) (h0 : Heap) (n0 : Nat) (Z0 : n0 ≤ h0.size) (F_size_q : Fld Z h0 q "com/example/wavegrade/wavegrade/DepartureQueue" "size" "I" (.int (0 : Int32))) :
    Con l Z (⟨"com/example/wavegrade/wavegrade/DepartureQueue", "isEmpty", "()Z"⟩ : MethodName) prog_1_method_2_code 1 (some .boolean) ({ frames := 0, cells := 0, slots := 0, locals := 0 } : Room) #[(.ref q)] h0 (fun r h L => r = some (.int (1 : Int32)) ∧ Fr n0 L ∧ h = h0) :=
  con_of (plainFor_of_name pn_1) (fun p_ e_ s_ m_ b_ meth_ c_ T_ X_ hx hZ hby hml hown hnm hret hlk e0 => Go.cast (ef_rm_empty0 m_ q) (w_empty0 q X_ hx hZ hw hby hml hown hnm hret hlk e0 Z0 (Fr.nil n0) F_size_q))
theorem d3_11 : decode prog_1_method_2_code 11 = .ok (.iconst 0, 1) := by decide +kernel
set_option maxRecDepth 65536 in
set_option maxHeartbeats 40000000 in
theorem w_empty1 {p : Program} {l : Launch} {e : Env} {s : State} {m : MethodId} {args : Array Value} {below : List Frame} {meth : Method} {c_ : Code} {T0 : State} {locs : List Loc} {Z : State} {a0 : Array Value} {h0 : Heap} {n0 : Nat} (q : Addr)
    (X0 : Stand p l e ({ frames := 0, cells := 0, slots := 0, locals := 0 } : Room) s m args below meth c_ T0 locs 0 0) (hx : p.tables.exec = Jvm.exec) (hZ : Z.Warmed39 s.vm) (hw : ∀ d ∈ tables_1, d.before a0 Z = true) (hby : c_.code = prog_1_method_2_code) (hml : c_.maxLocals = 1) (hown : s.vm.findClass "com/example/wavegrade/wavegrade/DepartureQueue" = some m.cls) (hnm : meth.name = "isEmpty") (hret : meth.sig.returnType = some .boolean) (hlk : meth.locks = false) (e0 : T0.heap = h0) (Z0 : n0 ≤ h0.size) (N0 : Fr n0 locs) (F_size_q : Fld Z h0 q "com/example/wavegrade/wavegrade/DepartureQueue" "size" "I" (.int (1 : Int32))) :
    Go p e below s ({ frames := 0, cells := 0, slots := 0, locals := 0 } : Room).cells ({ frames := 0, cells := 0, slots := 0, locals := 0 } : Room).slots (fun r h L => r = some (.int (0 : Int32)) ∧ Fr n0 L ∧ h = h0) T0 (mkF m 0 #[.val (.ref q)] []) := by
  show Go _ _ _ _ _ _ _ T0 (mkF m 0 #[.val (.ref q)] [])
  refine Go.step (fun _ k => XS.aloadN X0.here hx rfl (hb hby d3_0) rfl rfl k) ?_
  show Go _ _ _ _ _ _ _ T0 (mkF m 1 #[.val (.ref q)] [(.ref q)])
  obtain ⟨T1, X1, e1, st1⟩ := getF X0 hx hZ hown (host := "") (Or.inl (hw _ (List.mem_of_getElem? (i := 20) rfl))) Via.refl e0 F_size_q (g := (mkF m 1 #[.val (.ref q)] [(.ref q)])) rfl rfl (hb hby d3_1)
  refine Go.step st1 ?_
  show Go _ _ _ _ _ _ _ T1 (mkF m 4 #[.val (.ref q)] [(.int (1 : Int32))])
  refine Go.step (fun _ k => XS.ifYes X1.here hx rfl (pc0 := 4) (pc' := 11) rfl (hb hby d3_4) rfl ((if0 _ _).trans (feq (by decide : ¬ ((1 : Int32) = (0 : Int32)))).2) (by decide) (by decide) k) ?_
  show Go _ _ _ _ _ _ _ T1 (mkF m 11 #[.val (.ref q)] [])
  refine Go.step (fun _ k => XS.iconst X1.here hx rfl (hb hby d3_11) k) ?_
  show Go _ _ _ _ _ _ _ T1 (mkF m 12 #[.val (.ref q)] [(.int (0 : Int32))])
  refine Go.retZ X1 hx hlk hret (by decide) (hb hby d3_12) (by decide) (by decide) ?_
  try rw [e1]
  exact ⟨rfl, N0, rfl⟩
theorem ef_rm_empty1 (m : MethodId) (q : Addr) : entryFrame m #[(.ref q)] 1 = mkF m 0 #[.val (.ref q)] [] := by first | (simp [entryFrame, mkF, argsToLocals, Value.category]; done) | rfl
theorem rm_empty1 (l : Launch) (Z : State) (a0 : Array Value) (hw : ∀ d ∈ tables_1, d.before a0 Z = true) (q : Addr) (h0 : Heap) (n0 : Nat) (Z0 : n0 ≤ h0.size) (F_size_q : Fld Z h0 q "com/example/wavegrade/wavegrade/DepartureQueue" "size" "I" (.int (1 : Int32))) :
    Con l Z (⟨"com/example/wavegrade/wavegrade/DepartureQueue", "isEmpty", "()Z"⟩ : MethodName) prog_1_method_2_code 1 (some .boolean) ({ frames := 0, cells := 0, slots := 0, locals := 0 } : Room) #[(.ref q)] h0 (fun r h L => r = some (.int (0 : Int32)) ∧ Fr n0 L ∧ h = h0) :=
  con_of (plainFor_of_name pn_1) (fun p_ e_ s_ m_ b_ meth_ c_ T_ X_ hx hZ hby hml hown hnm hret hlk e0 => Go.cast (ef_rm_empty1 m_ q) (w_empty1 q X_ hx hZ hw hby hml hown hnm hret hlk e0 Z0 (Fr.nil n0) F_size_q))
set_option maxRecDepth 65536 in
set_option maxHeartbeats 40000000 in
theorem w_empty2 {p : Program} {l : Launch} {e : Env} {s : State} {m : MethodId} {args : Array Value} {below : List Frame} {meth : Method} {c_ : Code} {T0 : State} {locs : List Loc} {Z : State} {a0 : Array Value} {h0 : Heap} {n0 : Nat} (q : Addr)
    (X0 : Stand p l e ({ frames := 0, cells := 0, slots := 0, locals := 0 } : Room) s m args below meth c_ T0 locs 0 0) (hx : p.tables.exec = Jvm.exec) (hZ : Z.Warmed39 s.vm) (hw : ∀ d ∈ tables_1, d.before a0 Z = true) (hby : c_.code = prog_1_method_2_code) (hml : c_.maxLocals = 1) (hown : s.vm.findClass "com/example/wavegrade/wavegrade/DepartureQueue" = some m.cls) (hnm : meth.name = "isEmpty") (hret : meth.sig.returnType = some .boolean) (hlk : meth.locks = false) (e0 : T0.heap = h0) (Z0 : n0 ≤ h0.size) (N0 : Fr n0 locs) (F_size_q : Fld Z h0 q "com/example/wavegrade/wavegrade/DepartureQueue" "size" "I" (.int (2 : Int32))) :
    Go p e below s ({ frames := 0, cells := 0, slots := 0, locals := 0 } : Room).cells ({ frames := 0, cells := 0, slots := 0, locals := 0 } : Room).slots (fun r h L => r = some (.int (0 : Int32)) ∧ Fr n0 L ∧ h = h0) T0 (mkF m 0 #[.val (.ref q)] []) := by
  show Go _ _ _ _ _ _ _ T0 (mkF m 0 #[.val (.ref q)] [])
  refine Go.step (fun _ k => XS.aloadN X0.here hx rfl (hb hby d3_0) rfl rfl k) ?_
  show Go _ _ _ _ _ _ _ T0 (mkF m 1 #[.val (.ref q)] [(.ref q)])
  obtain ⟨T1, X1, e1, st1⟩ := getF X0 hx hZ hown (host := "") (Or.inl (hw _ (List.mem_of_getElem? (i := 20) rfl))) Via.refl e0 F_size_q (g := (mkF m 1 #[.val (.ref q)] [(.ref q)])) rfl rfl (hb hby d3_1)
  refine Go.step st1 ?_
  show Go _ _ _ _ _ _ _ T1 (mkF m 4 #[.val (.ref q)] [(.int (2 : Int32))])
  refine Go.step (fun _ k => XS.ifYes X1.here hx rfl (pc0 := 4) (pc' := 11) rfl (hb hby d3_4) rfl ((if0 _ _).trans (feq (by decide : ¬ ((2 : Int32) = (0 : Int32)))).2) (by decide) (by decide) k) ?_
  show Go _ _ _ _ _ _ _ T1 (mkF m 11 #[.val (.ref q)] [])
  refine Go.step (fun _ k => XS.iconst X1.here hx rfl (hb hby d3_11) k) ?_
  show Go _ _ _ _ _ _ _ T1 (mkF m 12 #[.val (.ref q)] [(.int (0 : Int32))])
  refine Go.retZ X1 hx hlk hret (by decide) (hb hby d3_12) (by decide) (by decide) ?_
  try rw [e1]
  exact ⟨rfl, N0, rfl⟩
theorem ef_rm_empty2 (m : MethodId) (q : Addr) : entryFrame m #[(.ref q)] 1 = mkF m 0 #[.val (.ref q)] [] := by first | (simp [entryFrame, mkF, argsToLocals, Value.category]; done) | rfl
theorem rm_empty2 (l : Launch) (Z : State) (a0 : Array Value) (hw : ∀ d ∈ tables_1, d.before a0 Z = true) (q : Addr) (h0 : Heap) (n0 : Nat) (Z0 : n0 ≤ h0.size) (F_size_q : Fld Z h0 q "com/example/wavegrade/wavegrade/DepartureQueue" "size" "I" (.int (2 : Int32))) :
    Con l Z (⟨"com/example/wavegrade/wavegrade/DepartureQueue", "isEmpty", "()Z"⟩ : MethodName) prog_1_method_2_code 1 (some .boolean) ({ frames := 0, cells := 0, slots := 0, locals := 0 } : Room) #[(.ref q)] h0 (fun r h L => r = some (.int (0 : Int32)) ∧ Fr n0 L ∧ h = h0) :=
  con_of (plainFor_of_name pn_1) (fun p_ e_ s_ m_ b_ meth_ c_ T_ X_ hx hZ hby hml hown hnm hret hlk e0 => Go.cast (ef_rm_empty2 m_ q) (w_empty2 q X_ hx hZ hw hby hml hown hnm hret hlk e0 Z0 (Fr.nil n0) F_size_q))
set_option maxRecDepth 65536 in
set_option maxHeartbeats 40000000 in
theorem w_empty3 {p : Program} {l : Launch} {e : Env} {s : State} {m : MethodId} {args : Array Value} {below : List Frame} {meth : Method} {c_ : Code} {T0 : State} {locs : List Loc} {Z : State} {a0 : Array Value} {h0 : Heap} {n0 : Nat} (q : Addr)
    (X0 : Stand p l e ({ frames := 0, cells := 0, slots := 0, locals := 0 } : Room) s m args below meth c_ T0 locs 0 0) (hx : p.tables.exec = Jvm.exec) (hZ : Z.Warmed39 s.vm) (hw : ∀ d ∈ tables_1, d.before a0 Z = true) (hby : c_.code = prog_1_method_2_code) (hml : c_.maxLocals = 1) (hown : s.vm.findClass "com/example/wavegrade/wavegrade/DepartureQueue" = some m.cls) (hnm : meth.name = "isEmpty") (hret : meth.sig.returnType = some .boolean) (hlk : meth.locks = false) (e0 : T0.heap = h0) (Z0 : n0 ≤ h0.size) (N0 : Fr n0 locs) (F_size_q : Fld Z h0 q "com/example/wavegrade/wavegrade/DepartureQueue" "size" "I" (.int (3 : Int32))) :
    Go p e below s ({ frames := 0, cells := 0, slots := 0, locals := 0 } : Room).cells ({ frames := 0, cells := 0, slots := 0, locals := 0 } : Room).slots (fun r h L => r = some (.int (0 : Int32)) ∧ Fr n0 L ∧ h = h0) T0 (mkF m 0 #[.val (.ref q)] []) := by
  show Go _ _ _ _ _ _ _ T0 (mkF m 0 #[.val (.ref q)] [])
  refine Go.step (fun _ k => XS.aloadN X0.here hx rfl (hb hby d3_0) rfl rfl k) ?_
  show Go _ _ _ _ _ _ _ T0 (mkF m 1 #[.val (.ref q)] [(.ref q)])
  obtain ⟨T1, X1, e1, st1⟩ := getF X0 hx hZ hown (host := "") (Or.inl (hw _ (List.mem_of_getElem? (i := 20) rfl))) Via.refl e0 F_size_q (g := (mkF m 1 #[.val (.ref q)] [(.ref q)])) rfl rfl (hb hby d3_1)
  refine Go.step st1 ?_
  show Go _ _ _ _ _ _ _ T1 (mkF m 4 #[.val (.ref q)] [(.int (3 : Int32))])
  refine Go.step (fun _ k => XS.ifYes X1.here hx rfl (pc0 := 4) (pc' := 11) rfl (hb hby d3_4) rfl ((if0 _ _).trans (feq (by decide : ¬ ((3 : Int32) = (0 : Int32)))).2) (by decide) (by decide) k) ?_
  show Go _ _ _ _ _ _ _ T1 (mkF m 11 #[.val (.ref q)] [])
  refine Go.step (fun _ k => XS.iconst X1.here hx rfl (hb hby d3_11) k) ?_
  show Go _ _ _ _ _ _ _ T1 (mkF m 12 #[.val (.ref q)] [(.int (0 : Int32))])
  refine Go.retZ X1 hx hlk hret (by decide) (hb hby d3_12) (by decide) (by decide) ?_
  try rw [e1]
  exact ⟨rfl, N0, rfl⟩
theorem ef_rm_empty3 (m : MethodId) (q : Addr) : entryFrame m #[(.ref q)] 1 = mkF m 0 #[.val (.ref q)] [] := by first | (simp [entryFrame, mkF, argsToLocals, Value.category]; done) | rfl
theorem rm_empty3 (l : Launch) (Z : State) (a0 : Array Value) (hw : ∀ d ∈ tables_1, d.before a0 Z = true) (q : Addr) (h0 : Heap) (n0 : Nat) (Z0 : n0 ≤ h0.size) (F_size_q : Fld Z h0 q "com/example/wavegrade/wavegrade/DepartureQueue" "size" "I" (.int (3 : Int32))) :
    Con l Z (⟨"com/example/wavegrade/wavegrade/DepartureQueue", "isEmpty", "()Z"⟩ : MethodName) prog_1_method_2_code 1 (some .boolean) ({ frames := 0, cells := 0, slots := 0, locals := 0 } : Room) #[(.ref q)] h0 (fun r h L => r = some (.int (0 : Int32)) ∧ Fr n0 L ∧ h = h0) :=
  con_of (plainFor_of_name pn_1) (fun p_ e_ s_ m_ b_ meth_ c_ T_ X_ hx hZ hby hml hown hnm hret hlk e0 => Go.cast (ef_rm_empty3 m_ q) (w_empty3 q X_ hx hZ hw hby hml hown hnm hret hlk e0 Z0 (Fr.nil n0) F_size_q))
theorem pd_0 : parseMethodDescriptor "()V" = some ⟨[], none⟩ := by decide +kernel
theorem pd_1 : parseMethodDescriptor "()Z" = some ⟨[], some .boolean⟩ := by decide +kernel
theorem pd_2 : parseMethodDescriptor "(DI)V" = some ⟨[.double, .int], none⟩ := by decide +kernel
theorem pd_3 : parseMethodDescriptor "()I" = some ⟨[], some .int⟩ := by decide +kernel
set_option maxRecDepth 65536 in
set_option maxHeartbeats 40000000 in
theorem w0 {p : Program} {l : Launch} {e : Env} {s : State} {m : MethodId} {args : Array Value} {below : List Frame} {meth : Method} {c_ : Code} {T0 : State} {locs : List Loc} {Z : State} {a0 : Array Value} {h0 : Heap} {n0 : Nat} (p0 p1 p2 p3 p4 p5 : Int32)
    (X0 : Stand p l e room_1 s m args below meth c_ T0 locs 0 0) (hx : p.tables.exec = Jvm.exec) (hZ : Z.Warmed39 s.vm) (hw : ∀ d ∈ tables_1, d.before a0 Z = true) (hby : c_.code = code) (hml : c_.maxLocals = maxLocals) (hown : s.vm.findClass "com/example/wavegrade/wavegrade/DepartureQueueIsEmptyPinLaw" = some m.cls) (hnm : meth.name = "law") (hret : meth.sig.returnType = ret) (hlk : meth.locks = false) (e0 : T0.heap = h0) (Z0 : n0 ≤ h0.size) (N0 : Fr n0 locs)  :
    Go p e below s room_1.cells room_1.slots (fun r h L => r = some (.int 1) ∧ Fr n0 L) T0 (mkF m 0 #[.val (.int p0), .val (.int p1), .val (.int p2), .val (.int p3), .val (.int p4), .val (.int p5), .unset, .unset, .unset, .unset] []) := by
  have hret : meth.sig.returnType = some .boolean := hret
  show Go _ _ _ _ _ _ _ T0 (mkF m 0 #[.val (.int p0), .val (.int p1), .val (.int p2), .val (.int p3), .val (.int p4), .val (.int p5), .unset, .unset, .unset, .unset] [])
  refine Go.step (fun _ k => XS.iloadN X0.here hx rfl (hb hby at_0) rfl k) ?_
  show Go _ _ _ _ _ _ _ T0 (mkF m 1 #[.val (.int p0), .val (.int p1), .val (.int p2), .val (.int p3), .val (.int p4), .val (.int p5), .unset, .unset, .unset, .unset] [(.int p0)])
  refine Go.step (fun _ k => XS.iconst X0.here hx rfl (hb hby at_1) k) ?_
  show Go _ _ _ _ _ _ _ T0 (mkF m 2 #[.val (.int p0), .val (.int p1), .val (.int p2), .val (.int p3), .val (.int p4), .val (.int p5), .unset, .unset, .unset, .unset] [(.int (3 : Int32)), (.int p0)])
  refine Go.step (fun _ k => XS.iand X0.here hx rfl (hb hby at_2) rfl k) ?_
  show Go _ _ _ _ _ _ _ T0 (mkF m 3 #[.val (.int p0), .val (.int p1), .val (.int p2), .val (.int p3), .val (.int p4), .val (.int p5), .unset, .unset, .unset, .unset] [(.int (p0 &&& (3 : Int32)))])
  refine Go.step (fun _ k => XS.istore X0.here hx rfl (hb hby at_3) rfl (l' := #[.val (.int p0), .val (.int p1), .val (.int p2), .val (.int p3), .val (.int p4), .val (.int p5), .val (.int (p0 &&& (3 : Int32))), .unset, .unset, .unset]) rfl k) ?_
  show Go _ _ _ _ _ _ _ T0 (mkF m 5 #[.val (.int p0), .val (.int p1), .val (.int p2), .val (.int p3), .val (.int p4), .val (.int p5), .val (.int (p0 &&& (3 : Int32))), .unset, .unset, .unset] [])
  refine Go.step (fun _ k => XS.iloadN X0.here hx rfl (hb hby at_5) rfl k) ?_
  show Go _ _ _ _ _ _ _ T0 (mkF m 6 #[.val (.int p0), .val (.int p1), .val (.int p2), .val (.int p3), .val (.int p4), .val (.int p5), .val (.int (p0 &&& (3 : Int32))), .unset, .unset, .unset] [(.int p1)])
  refine Go.step (fun _ k => XS.iconst X0.here hx rfl (hb hby at_6) k) ?_
  show Go _ _ _ _ _ _ _ T0 (mkF m 7 #[.val (.int p0), .val (.int p1), .val (.int p2), .val (.int p3), .val (.int p4), .val (.int p5), .val (.int (p0 &&& (3 : Int32))), .unset, .unset, .unset] [(.int (3 : Int32)), (.int p1)])
  refine Go.step (fun _ k => XS.iand X0.here hx rfl (hb hby at_7) rfl k) ?_
  show Go _ _ _ _ _ _ _ T0 (mkF m 8 #[.val (.int p0), .val (.int p1), .val (.int p2), .val (.int p3), .val (.int p4), .val (.int p5), .val (.int (p0 &&& (3 : Int32))), .unset, .unset, .unset] [(.int (p1 &&& (3 : Int32)))])
  refine Go.step (fun _ k => XS.iload X0.here hx rfl (hb hby at_8) rfl k) ?_
  show Go _ _ _ _ _ _ _ T0 (mkF m 10 #[.val (.int p0), .val (.int p1), .val (.int p2), .val (.int p3), .val (.int p4), .val (.int p5), .val (.int (p0 &&& (3 : Int32))), .unset, .unset, .unset] [(.int (p0 &&& (3 : Int32))), (.int (p1 &&& (3 : Int32)))])
  refine Go.step (fun _ k => XS.iconst X0.here hx rfl (hb hby at_10) k) ?_
  show Go _ _ _ _ _ _ _ T0 (mkF m 11 #[.val (.int p0), .val (.int p1), .val (.int p2), .val (.int p3), .val (.int p4), .val (.int p5), .val (.int (p0 &&& (3 : Int32))), .unset, .unset, .unset] [(.int (1 : Int32)), (.int (p0 &&& (3 : Int32))), (.int (p1 &&& (3 : Int32)))])
  refine Go.step (fun _ k => XS.iadd X0.here hx rfl (hb hby at_11) rfl k) ?_
  show Go _ _ _ _ _ _ _ T0 (mkF m 12 #[.val (.int p0), .val (.int p1), .val (.int p2), .val (.int p3), .val (.int p4), .val (.int p5), .val (.int (p0 &&& (3 : Int32))), .unset, .unset, .unset] [(.int ((p0 &&& (3 : Int32)) + (1 : Int32))), (.int (p1 &&& (3 : Int32)))])
  refine Go.step (fun _ k => iremM X0 hx rfl (hb hby at_12) rfl (own_n1 p0) k) ?_
  show Go _ _ _ _ _ _ _ T0 (mkF m 13 #[.val (.int p0), .val (.int p1), .val (.int p2), .val (.int p3), .val (.int p4), .val (.int p5), .val (.int (p0 &&& (3 : Int32))), .unset, .unset, .unset] [(.int ((p1 &&& (3 : Int32)) % ((p0 &&& (3 : Int32)) + (1 : Int32))))])
  refine Go.step (fun _ k => XS.istore X0.here hx rfl (hb hby at_13) rfl (l' := #[.val (.int p0), .val (.int p1), .val (.int p2), .val (.int p3), .val (.int p4), .val (.int p5), .val (.int (p0 &&& (3 : Int32))), .val (.int ((p1 &&& (3 : Int32)) % ((p0 &&& (3 : Int32)) + (1 : Int32)))), .unset, .unset]) rfl k) ?_
  show Go _ _ _ _ _ _ _ T0 (mkF m 15 #[.val (.int p0), .val (.int p1), .val (.int p2), .val (.int p3), .val (.int p4), .val (.int p5), .val (.int (p0 &&& (3 : Int32))), .val (.int ((p1 &&& (3 : Int32)) % ((p0 &&& (3 : Int32)) + (1 : Int32)))), .unset, .unset] [])
  obtain ⟨n, h_n⟩ : ∃ z, z = (p0 &&& (3 : Int32)) := ⟨_, rfl⟩
  rw [← h_n]
  obtain ⟨m, h_m⟩ : ∃ z, z = ((p1 &&& (3 : Int32)) % (n + (1 : Int32))) := ⟨_, rfl⟩
  rw [← h_m]
  rcases own_nm p0 p1 h_n h_m with ⟨rfl, rfl⟩ | ⟨rfl, rfl⟩ | ⟨rfl, rfl⟩ | ⟨rfl, rfl⟩ | ⟨rfl, rfl⟩ | ⟨rfl, rfl⟩ | ⟨rfl, rfl⟩ | ⟨rfl, rfl⟩ | ⟨rfl, rfl⟩ | ⟨rfl, rfl⟩
  · show Go _ _ _ _ _ _ _ T0 (mkF m 15 #[.val (.int p0), .val (.int p1), .val (.int p2), .val (.int p3), .val (.int p4), .val (.int p5), .val (.int (0 : Int32)), .val (.int (0 : Int32)), .unset, .unset] [])
    obtain ⟨T1, h1, X1, e1, E1, A1, D1, -, st1⟩ := newO X0 hx hZ hown (hw _ (List.mem_of_getElem? (i := 0) rfl)) (hw _ (List.mem_of_getElem? (i := 1) rfl)) (hw _ (List.mem_of_getElem? (i := 2) rfl)) e0 (g := (mkF m 15 #[.val (.int p0), .val (.int p1), .val (.int p2), .val (.int p3), .val (.int p4), .val (.int p5), .val (.int (0 : Int32)), .val (.int (0 : Int32)), .unset, .unset] [])) rfl (hb hby at_15) (by decide) (by decide)
    obtain ⟨b1, g1⟩ : ∃ z, z = h0.size := ⟨_, rfl⟩
    rw [← g1] at A1 D1 st1
    refine Go.step st1 ?_
    have K1 : Keep h0 h1 [] := (Keep.refl h0 []).ext E1
    have sz_b1 : h0.size ≤ b1 := Nat.le_trans ((Keep.refl h0 []) : Keep h0 h0 []).1 (Nat.le_of_eq g1.symm)
    have ge_b1 : n0 ≤ b1 := Nat.le_trans Z0 sz_b1
    have E_b1 := A1
    have F_times_b1 : Fld Z h1 b1 "com/example/wavegrade/wavegrade/DepartureQueue" "times" "[D" .null := D1 (Or.inl (hw _ (List.mem_of_getElem? (i := 11) rfl))) (ty := (.array .double)) (by decide)
    have F_lightpaths_b1 : Fld Z h1 b1 "com/example/wavegrade/wavegrade/DepartureQueue" "lightpaths" "[I" .null := D1 (Or.inl (hw _ (List.mem_of_getElem? (i := 14) rfl))) (ty := (.array .int)) (by decide)
    have F_size_b1 : Fld Z h1 b1 "com/example/wavegrade/wavegrade/DepartureQueue" "size" "I" (.int (0 : Int32)) := D1 (Or.inl (hw _ (List.mem_of_getElem? (i := 21) rfl))) (ty := .int) (by decide)
    show Go _ _ _ _ _ _ _ T1 (mkF m 18 #[.val (.int p0), .val (.int p1), .val (.int p2), .val (.int p3), .val (.int p4), .val (.int p5), .val (.int (0 : Int32)), .val (.int (0 : Int32)), .unset, .unset] [(.ref b1)])
    refine Go.step (fun _ k => XS.dup X1.here hx rfl (hb hby at_18) rfl rfl k) ?_
    show Go _ _ _ _ _ _ _ T1 (mkF m 19 #[.val (.int p0), .val (.int p1), .val (.int p2), .val (.int p3), .val (.int p4), .val (.int p5), .val (.int (0 : Int32)), .val (.int (0 : Int32)), .unset, .unset] [(.ref b1), (.ref b1)])
    refine Go.callI X1 hx hZ (by rw [hml]; rfl) (y := (⟨"com/example/wavegrade/wavegrade/DepartureQueue", "<init>", "()V"⟩ : MethodName)) (a := b1) (argsL := []) (rest := [(.ref b1)]) rfl hown (hw _ (List.mem_of_getElem? (i := 3) rfl)) (hw _ (List.mem_of_getElem? (i := 4) rfl)) (hw _ (List.mem_of_getElem? (i := 2) rfl)) (hw _ (List.mem_of_getElem? (i := 5) rfl)) (by decide) (rm1 l Z a0 hw b1 h1 n0 (Nat.le_trans Z0 (K1 : Keep h0 h1 []).1) E_b1 F_size_b1 F_times_b1 F_lightpaths_b1 ge_b1) e1 (hb hby at_19) (lenOf pd_0 rfl) rfl rfl (W := 1) (Nat.le_of_eq rfl) (by decide) (by decide) (by decide) (by decide) ?_
    intro v2 T2 L2 X2 Q2
    obtain ⟨rfl, N2q, Kc2, Ec2, Fs2, u2, v2, Ft2, Fl2, Vu2, Vv2, nqu2, nqv2, nuv2, su2, sv2⟩ := Q2
    have N2 := Fr.app N0 N2q
    have E_b1_2 := E_b1.keep Kc2
    have KK2 : Keep h0 T2.heap [] := (K1 : Keep h0 h1 []).trans Kc2 (allS (Or.inr sz_b1) all0)
    have sz_u2 : h0.size ≤ u2 := Nat.le_trans (K1 : Keep h0 h1 []).1 su2
    have ge_u2 : n0 ≤ u2 := Nat.le_trans Z0 sz_u2
    have sz_v2 : h0.size ≤ v2 := Nat.le_trans (K1 : Keep h0 h1 []).1 sv2
    have ge_v2 : n0 ≤ v2 := Nat.le_trans Z0 sz_v2
    have hg2 : ∀ i, i < 0 → (fun _ => (0 : UInt64)) i = (tT p2 p3 p4) ((fun x => x) i) := fun i hi' => absurd hi' (by omega)
    have hl2 : ∀ i, i < 0 → (fun _ => (0 : Int32)) i = (tL p5) ((fun x => x) i) := fun i hi' => absurd hi' (by omega)
    have hi2 : HI (tK p2 p3 p4) (fun x => x) 0 := trivial
    show Go _ _ _ _ _ _ _ T2 (mkF m 22 #[.val (.int p0), .val (.int p1), .val (.int p2), .val (.int p3), .val (.int p4), .val (.int p5), .val (.int (0 : Int32)), .val (.int (0 : Int32)), .unset, .unset] [(.ref b1)])
    refine Go.step (fun _ k => XS.astore X2.here hx rfl (hb hby at_22) rfl rfl (l' := #[.val (.int p0), .val (.int p1), .val (.int p2), .val (.int p3), .val (.int p4), .val (.int p5), .val (.int (0 : Int32)), .val (.int (0 : Int32)), .val (.ref b1), .unset]) rfl k) ?_
    show Go _ _ _ _ _ _ _ T2 (mkF m 24 #[.val (.int p0), .val (.int p1), .val (.int p2), .val (.int p3), .val (.int p4), .val (.int p5), .val (.int (0 : Int32)), .val (.int (0 : Int32)), .val (.ref b1), .unset] [])
    refine Go.step (fun _ k => XS.aload X2.here hx rfl (hb hby at_24) rfl rfl k) ?_
    show Go _ _ _ _ _ _ _ T2 (mkF m 26 #[.val (.int p0), .val (.int p1), .val (.int p2), .val (.int p3), .val (.int p4), .val (.int p5), .val (.int (0 : Int32)), .val (.int (0 : Int32)), .val (.ref b1), .unset] [(.ref b1)])
    refine Go.callV X2 hx hZ (by rw [hml]; rfl) (y := (⟨"com/example/wavegrade/wavegrade/DepartureQueue", "isEmpty", "()Z"⟩ : MethodName)) (z := (⟨"com/example/wavegrade/wavegrade/DepartureQueue", "isEmpty", "()Z"⟩ : MethodName)) (a := b1) (argsL := []) (rest := []) hown (hw _ (List.mem_of_getElem? (i := 15) rfl)) (hw _ (List.mem_of_getElem? (i := 16) rfl)) (notFace_of_selects (args := #[]) (mvT hZ (hw _ (List.mem_of_getElem? (i := 18) rfl)))) (hw _ (List.mem_of_getElem? (i := 18) rfl)) (hw _ (List.mem_of_getElem? (i := 17) rfl)) (hw _ (List.mem_of_getElem? (i := 2) rfl)) (hw _ (List.mem_of_getElem? (i := 19) rfl)) (by decide) (rm_empty0 l Z a0 hw b1 T2.heap n0 (Nat.le_trans Z0 (KK2 : Keep h0 T2.heap []).1) Fs2) rfl Ec2 (hb hby at_26) (lenOf pd_1 rfl) rfl rfl (W := 0) (Nat.le_of_eq rfl) (by decide) (by decide) (by decide) (by decide) ?_
    intro v3 T3 L3 X3 Q3
    obtain ⟨rfl, N3q, hh3⟩ := Q3
    have N3 := Fr.app N2 N3q
    show Go _ _ _ _ _ _ _ T3 (mkF m 29 #[.val (.int p0), .val (.int p1), .val (.int p2), .val (.int p3), .val (.int p4), .val (.int p5), .val (.int (0 : Int32)), .val (.int (0 : Int32)), .val (.ref b1), .unset] [(.int (1 : Int32))])
    refine Go.step (fun _ k => XS.istore X3.here hx rfl (hb hby at_29) rfl (l' := #[.val (.int p0), .val (.int p1), .val (.int p2), .val (.int p3), .val (.int p4), .val (.int p5), .val (.int (0 : Int32)), .val (.int (0 : Int32)), .val (.ref b1), .val (.int (1 : Int32))]) rfl k) ?_
    show Go _ _ _ _ _ _ _ T3 (mkF m 31 #[.val (.int p0), .val (.int p1), .val (.int p2), .val (.int p3), .val (.int p4), .val (.int p5), .val (.int (0 : Int32)), .val (.int (0 : Int32)), .val (.ref b1), .val (.int (1 : Int32))] [])
    refine Go.step (fun _ k => XS.iload X3.here hx rfl (hb hby at_31) rfl k) ?_
    show Go _ _ _ _ _ _ _ T3 (mkF m 33 #[.val (.int p0), .val (.int p1), .val (.int p2), .val (.int p3), .val (.int p4), .val (.int p5), .val (.int (0 : Int32)), .val (.int (0 : Int32)), .val (.ref b1), .val (.int (1 : Int32))] [(.int (0 : Int32))])
    refine Go.step (fun _ k => XS.ifYes X3.here hx rfl (pc0 := 33) (pc' := 48) rfl (hb hby at_33) rfl ((if0 _ _).trans (flt (by decide : ¬ ((0 : Int32) < (0 : Int32)))).2.2.2) (by decide) (by decide) k) ?_
    show Go _ _ _ _ _ _ _ T3 (mkF m 48 #[.val (.int p0), .val (.int p1), .val (.int p2), .val (.int p3), .val (.int p4), .val (.int p5), .val (.int (0 : Int32)), .val (.int (0 : Int32)), .val (.ref b1), .val (.int (1 : Int32))] [])
    refine Go.step (fun _ k => XS.iload X3.here hx rfl (hb hby at_48) rfl k) ?_
    show Go _ _ _ _ _ _ _ T3 (mkF m 50 #[.val (.int p0), .val (.int p1), .val (.int p2), .val (.int p3), .val (.int p4), .val (.int p5), .val (.int (0 : Int32)), .val (.int (0 : Int32)), .val (.ref b1), .val (.int (1 : Int32))] [(.int (0 : Int32))])
    refine Go.step (fun _ k => XS.iconst X3.here hx rfl (hb hby at_50) k) ?_
    show Go _ _ _ _ _ _ _ T3 (mkF m 51 #[.val (.int p0), .val (.int p1), .val (.int p2), .val (.int p3), .val (.int p4), .val (.int p5), .val (.int (0 : Int32)), .val (.int (0 : Int32)), .val (.ref b1), .val (.int (1 : Int32))] [(.int (1 : Int32)), (.int (0 : Int32))])
    refine Go.step (fun _ k => XS.icmpYes X3.here hx rfl (pc0 := 51) (pc' := 68) rfl (hb hby at_51) rfl (flt (by decide : ¬ ((1 : Int32) < (0 : Int32)))).2.2.2 (by decide) (by decide) k) ?_
    show Go _ _ _ _ _ _ _ T3 (mkF m 68 #[.val (.int p0), .val (.int p1), .val (.int p2), .val (.int p3), .val (.int p4), .val (.int p5), .val (.int (0 : Int32)), .val (.int (0 : Int32)), .val (.ref b1), .val (.int (1 : Int32))] [])
    refine Go.step (fun _ k => XS.iload X3.here hx rfl (hb hby at_68) rfl k) ?_
    show Go _ _ _ _ _ _ _ T3 (mkF m 70 #[.val (.int p0), .val (.int p1), .val (.int p2), .val (.int p3), .val (.int p4), .val (.int p5), .val (.int (0 : Int32)), .val (.int (0 : Int32)), .val (.ref b1), .val (.int (1 : Int32))] [(.int (0 : Int32))])
    refine Go.step (fun _ k => XS.iconst X3.here hx rfl (hb hby at_70) k) ?_
    show Go _ _ _ _ _ _ _ T3 (mkF m 71 #[.val (.int p0), .val (.int p1), .val (.int p2), .val (.int p3), .val (.int p4), .val (.int p5), .val (.int (0 : Int32)), .val (.int (0 : Int32)), .val (.ref b1), .val (.int (1 : Int32))] [(.int (2 : Int32)), (.int (0 : Int32))])
    refine Go.step (fun _ k => XS.icmpYes X3.here hx rfl (pc0 := 71) (pc' := 89) rfl (hb hby at_71) rfl (flt (by decide : ¬ ((2 : Int32) < (0 : Int32)))).2.2.2 (by decide) (by decide) k) ?_
    show Go _ _ _ _ _ _ _ T3 (mkF m 89 #[.val (.int p0), .val (.int p1), .val (.int p2), .val (.int p3), .val (.int p4), .val (.int p5), .val (.int (0 : Int32)), .val (.int (0 : Int32)), .val (.ref b1), .val (.int (1 : Int32))] [])
    refine Go.step (fun _ k => XS.iload X3.here hx rfl (hb hby at_89) rfl k) ?_
    show Go _ _ _ _ _ _ _ T3 (mkF m 91 #[.val (.int p0), .val (.int p1), .val (.int p2), .val (.int p3), .val (.int p4), .val (.int p5), .val (.int (0 : Int32)), .val (.int (0 : Int32)), .val (.ref b1), .val (.int (1 : Int32))] [(.int (1 : Int32))])
    refine Go.step (fun _ k => XS.ifNo X3.here hx rfl (hb hby at_91) rfl ((if0 _ _).trans (feq (by decide : ¬ ((1 : Int32) = (0 : Int32)))).1) k) ?_
    show Go _ _ _ _ _ _ _ T3 (mkF m 94 #[.val (.int p0), .val (.int p1), .val (.int p2), .val (.int p3), .val (.int p4), .val (.int p5), .val (.int (0 : Int32)), .val (.int (0 : Int32)), .val (.ref b1), .val (.int (1 : Int32))] [])
    refine Go.step (fun _ k => XS.aload X3.here hx rfl (hb hby at_94) rfl rfl k) ?_
    show Go _ _ _ _ _ _ _ T3 (mkF m 96 #[.val (.int p0), .val (.int p1), .val (.int p2), .val (.int p3), .val (.int p4), .val (.int p5), .val (.int (0 : Int32)), .val (.int (0 : Int32)), .val (.ref b1), .val (.int (1 : Int32))] [(.ref b1)])
    refine Go.callV X3 hx hZ (by rw [hml]; rfl) (y := (⟨"com/example/wavegrade/wavegrade/DepartureQueue", "isEmpty", "()Z"⟩ : MethodName)) (z := (⟨"com/example/wavegrade/wavegrade/DepartureQueue", "isEmpty", "()Z"⟩ : MethodName)) (a := b1) (argsL := []) (rest := []) hown (hw _ (List.mem_of_getElem? (i := 15) rfl)) (hw _ (List.mem_of_getElem? (i := 16) rfl)) (notFace_of_selects (args := #[]) (mvT hZ (hw _ (List.mem_of_getElem? (i := 18) rfl)))) (hw _ (List.mem_of_getElem? (i := 18) rfl)) (hw _ (List.mem_of_getElem? (i := 17) rfl)) (hw _ (List.mem_of_getElem? (i := 2) rfl)) (hw _ (List.mem_of_getElem? (i := 19) rfl)) (by decide) (rm_empty0 l Z a0 hw b1 T2.heap n0 (Nat.le_trans Z0 (KK2 : Keep h0 T2.heap []).1) Fs2) hh3 Ec2 (hb hby at_96) (lenOf pd_1 rfl) rfl rfl (W := 0) (Nat.le_of_eq rfl) (by decide) (by decide) (by decide) (by decide) ?_
    intro v4 T4 L4 X4 Q4
    obtain ⟨rfl, N4q, hh4⟩ := Q4
    have N4 := Fr.app N3 N4q
    show Go _ _ _ _ _ _ _ T4 (mkF m 99 #[.val (.int p0), .val (.int p1), .val (.int p2), .val (.int p3), .val (.int p4), .val (.int p5), .val (.int (0 : Int32)), .val (.int (0 : Int32)), .val (.ref b1), .val (.int (1 : Int32))] [(.int (1 : Int32))])
    refine Go.step (fun _ k => XS.iload X4.here hx rfl (hb hby at_99) rfl k) ?_
    show Go _ _ _ _ _ _ _ T4 (mkF m 101 #[.val (.int p0), .val (.int p1), .val (.int p2), .val (.int p3), .val (.int p4), .val (.int p5), .val (.int (0 : Int32)), .val (.int (0 : Int32)), .val (.ref b1), .val (.int (1 : Int32))] [(.int (0 : Int32)), (.int (1 : Int32))])
    refine Go.step (fun _ k => XS.ifNo X4.here hx rfl (hb hby at_101) rfl ((if0 _ _).trans (teq (by decide : (0 : Int32) = (0 : Int32))).2) k) ?_
    show Go _ _ _ _ _ _ _ T4 (mkF m 104 #[.val (.int p0), .val (.int p1), .val (.int p2), .val (.int p3), .val (.int p4), .val (.int p5), .val (.int (0 : Int32)), .val (.int (0 : Int32)), .val (.ref b1), .val (.int (1 : Int32))] [(.int (1 : Int32))])
    refine Go.step (fun _ k => XS.iconst X4.here hx rfl (hb hby at_104) k) ?_
    show Go _ _ _ _ _ _ _ T4 (mkF m 105 #[.val (.int p0), .val (.int p1), .val (.int p2), .val (.int p3), .val (.int p4), .val (.int p5), .val (.int (0 : Int32)), .val (.int (0 : Int32)), .val (.ref b1), .val (.int (1 : Int32))] [(.int (1 : Int32)), (.int (1 : Int32))])
    refine Go.step (fun _ k => XS.goto X4.here hx rfl (pc0 := 105) (pc' := 109) rfl (hb hby at_105) (by decide) (by decide) k) ?_
    show Go _ _ _ _ _ _ _ T4 (mkF m 109 #[.val (.int p0), .val (.int p1), .val (.int p2), .val (.int p3), .val (.int p4), .val (.int p5), .val (.int (0 : Int32)), .val (.int (0 : Int32)), .val (.ref b1), .val (.int (1 : Int32))] [(.int (1 : Int32)), (.int (1 : Int32))])
    refine Go.step (fun _ k => XS.icmpNo X4.here hx rfl (hb hby at_109) rfl (teq (by decide : (1 : Int32) = (1 : Int32))).2 k) ?_
    show Go _ _ _ _ _ _ _ T4 (mkF m 112 #[.val (.int p0), .val (.int p1), .val (.int p2), .val (.int p3), .val (.int p4), .val (.int p5), .val (.int (0 : Int32)), .val (.int (0 : Int32)), .val (.ref b1), .val (.int (1 : Int32))] [])
    refine Go.step (fun _ k => XS.iconst X4.here hx rfl (hb hby at_112) k) ?_
    show Go _ _ _ _ _ _ _ T4 (mkF m 113 #[.val (.int p0), .val (.int p1), .val (.int p2), .val (.int p3), .val (.int p4), .val (.int p5), .val (.int (0 : Int32)), .val (.int (0 : Int32)), .val (.ref b1), .val (.int (1 : Int32))] [(.int (1 : Int32))])
    refine Go.step (fun _ k => XS.goto X4.here hx rfl (pc0 := 113) (pc' := 117) rfl (hb hby at_113) (by decide) (by decide) k) ?_
    show Go _ _ _ _ _ _ _ T4 (mkF m 117 #[.val (.int p0), .val (.int p1), .val (.int p2), .val (.int p3), .val (.int p4), .val (.int p5), .val (.int (0 : Int32)), .val (.int (0 : Int32)), .val (.ref b1), .val (.int (1 : Int32))] [(.int (1 : Int32))])
    refine Go.step (fun _ k => XS.istore X4.here hx rfl (hb hby at_117) rfl (l' := #[.val (.int p0), .val (.int p1), .val (.int p2), .val (.int p3), .val (.int p4), .val (.int p5), .val (.int (0 : Int32)), .val (.int (0 : Int32)), .val (.ref b1), .val (.int (1 : Int32))]) rfl k) ?_
    show Go _ _ _ _ _ _ _ T4 (mkF m 119 #[.val (.int p0), .val (.int p1), .val (.int p2), .val (.int p3), .val (.int p4), .val (.int p5), .val (.int (0 : Int32)), .val (.int (0 : Int32)), .val (.ref b1), .val (.int (1 : Int32))] [])
    refine Go.step (fun _ k => XS.iload X4.here hx rfl (hb hby at_119) rfl k) ?_
    show Go _ _ _ _ _ _ _ T4 (mkF m 121 #[.val (.int p0), .val (.int p1), .val (.int p2), .val (.int p3), .val (.int p4), .val (.int p5), .val (.int (0 : Int32)), .val (.int (0 : Int32)), .val (.ref b1), .val (.int (1 : Int32))] [(.int (0 : Int32))])
    refine Go.step (fun _ k => XS.ifYes X4.here hx rfl (pc0 := 121) (pc' := 130) rfl (hb hby at_121) rfl ((if0 _ _).trans (flt (by decide : ¬ ((0 : Int32) < (0 : Int32)))).2.2.2) (by decide) (by decide) k) ?_
    show Go _ _ _ _ _ _ _ T4 (mkF m 130 #[.val (.int p0), .val (.int p1), .val (.int p2), .val (.int p3), .val (.int p4), .val (.int p5), .val (.int (0 : Int32)), .val (.int (0 : Int32)), .val (.ref b1), .val (.int (1 : Int32))] [])
    refine Go.step (fun _ k => XS.iload X4.here hx rfl (hb hby at_130) rfl k) ?_
    show Go _ _ _ _ _ _ _ T4 (mkF m 132 #[.val (.int p0), .val (.int p1), .val (.int p2), .val (.int p3), .val (.int p4), .val (.int p5), .val (.int (0 : Int32)), .val (.int (0 : Int32)), .val (.ref b1), .val (.int (1 : Int32))] [(.int (0 : Int32))])
    refine Go.step (fun _ k => XS.iconst X4.here hx rfl (hb hby at_132) k) ?_
    show Go _ _ _ _ _ _ _ T4 (mkF m 133 #[.val (.int p0), .val (.int p1), .val (.int p2), .val (.int p3), .val (.int p4), .val (.int p5), .val (.int (0 : Int32)), .val (.int (0 : Int32)), .val (.ref b1), .val (.int (1 : Int32))] [(.int (1 : Int32)), (.int (0 : Int32))])
    refine Go.step (fun _ k => XS.icmpYes X4.here hx rfl (pc0 := 133) (pc' := 142) rfl (hb hby at_133) rfl (flt (by decide : ¬ ((1 : Int32) < (0 : Int32)))).2.2.2 (by decide) (by decide) k) ?_
    show Go _ _ _ _ _ _ _ T4 (mkF m 142 #[.val (.int p0), .val (.int p1), .val (.int p2), .val (.int p3), .val (.int p4), .val (.int p5), .val (.int (0 : Int32)), .val (.int (0 : Int32)), .val (.ref b1), .val (.int (1 : Int32))] [])
    refine Go.step (fun _ k => XS.iload X4.here hx rfl (hb hby at_142) rfl k) ?_
    show Go _ _ _ _ _ _ _ T4 (mkF m 144 #[.val (.int p0), .val (.int p1), .val (.int p2), .val (.int p3), .val (.int p4), .val (.int p5), .val (.int (0 : Int32)), .val (.int (0 : Int32)), .val (.ref b1), .val (.int (1 : Int32))] [(.int (0 : Int32))])
    refine Go.step (fun _ k => XS.iconst X4.here hx rfl (hb hby at_144) k) ?_
    show Go _ _ _ _ _ _ _ T4 (mkF m 145 #[.val (.int p0), .val (.int p1), .val (.int p2), .val (.int p3), .val (.int p4), .val (.int p5), .val (.int (0 : Int32)), .val (.int (0 : Int32)), .val (.ref b1), .val (.int (1 : Int32))] [(.int (2 : Int32)), (.int (0 : Int32))])
    refine Go.step (fun _ k => XS.icmpYes X4.here hx rfl (pc0 := 145) (pc' := 154) rfl (hb hby at_145) rfl (flt (by decide : ¬ ((2 : Int32) < (0 : Int32)))).2.2.2 (by decide) (by decide) k) ?_
    show Go _ _ _ _ _ _ _ T4 (mkF m 154 #[.val (.int p0), .val (.int p1), .val (.int p2), .val (.int p3), .val (.int p4), .val (.int p5), .val (.int (0 : Int32)), .val (.int (0 : Int32)), .val (.ref b1), .val (.int (1 : Int32))] [])
    refine Go.step (fun _ k => XS.iload X4.here hx rfl (hb hby at_154) rfl k) ?_
    show Go _ _ _ _ _ _ _ T4 (mkF m 156 #[.val (.int p0), .val (.int p1), .val (.int p2), .val (.int p3), .val (.int p4), .val (.int p5), .val (.int (0 : Int32)), .val (.int (0 : Int32)), .val (.ref b1), .val (.int (1 : Int32))] [(.int (1 : Int32))])
    refine Go.step (fun _ k => XS.ifNo X4.here hx rfl (hb hby at_156) rfl ((if0 _ _).trans (feq (by decide : ¬ ((1 : Int32) = (0 : Int32)))).1) k) ?_
    show Go _ _ _ _ _ _ _ T4 (mkF m 159 #[.val (.int p0), .val (.int p1), .val (.int p2), .val (.int p3), .val (.int p4), .val (.int p5), .val (.int (0 : Int32)), .val (.int (0 : Int32)), .val (.ref b1), .val (.int (1 : Int32))] [])
    refine Go.step (fun _ k => XS.aload X4.here hx rfl (hb hby at_159) rfl rfl k) ?_
    show Go _ _ _ _ _ _ _ T4 (mkF m 161 #[.val (.int p0), .val (.int p1), .val (.int p2), .val (.int p3), .val (.int p4), .val (.int p5), .val (.int (0 : Int32)), .val (.int (0 : Int32)), .val (.ref b1), .val (.int (1 : Int32))] [(.ref b1)])
    refine Go.callV X4 hx hZ (by rw [hml]; rfl) (y := (⟨"com/example/wavegrade/wavegrade/DepartureQueue", "isEmpty", "()Z"⟩ : MethodName)) (z := (⟨"com/example/wavegrade/wavegrade/DepartureQueue", "isEmpty", "()Z"⟩ : MethodName)) (a := b1) (argsL := []) (rest := []) hown (hw _ (List.mem_of_getElem? (i := 15) rfl)) (hw _ (List.mem_of_getElem? (i := 16) rfl)) (notFace_of_selects (args := #[]) (mvT hZ (hw _ (List.mem_of_getElem? (i := 18) rfl)))) (hw _ (List.mem_of_getElem? (i := 18) rfl)) (hw _ (List.mem_of_getElem? (i := 17) rfl)) (hw _ (List.mem_of_getElem? (i := 2) rfl)) (hw _ (List.mem_of_getElem? (i := 19) rfl)) (by decide) (rm_empty0 l Z a0 hw b1 T2.heap n0 (Nat.le_trans Z0 (KK2 : Keep h0 T2.heap []).1) Fs2) hh4 Ec2 (hb hby at_161) (lenOf pd_1 rfl) rfl rfl (W := 0) (Nat.le_of_eq rfl) (by decide) (by decide) (by decide) (by decide) ?_
    intro v5 T5 L5 X5 Q5
    obtain ⟨rfl, N5q, hh5⟩ := Q5
    have N5 := Fr.app N4 N5q
    show Go _ _ _ _ _ _ _ T5 (mkF m 164 #[.val (.int p0), .val (.int p1), .val (.int p2), .val (.int p3), .val (.int p4), .val (.int p5), .val (.int (0 : Int32)), .val (.int (0 : Int32)), .val (.ref b1), .val (.int (1 : Int32))] [(.int (1 : Int32))])
    refine Go.step (fun _ k => XS.iload X5.here hx rfl (hb hby at_164) rfl k) ?_
    show Go _ _ _ _ _ _ _ T5 (mkF m 166 #[.val (.int p0), .val (.int p1), .val (.int p2), .val (.int p3), .val (.int p4), .val (.int p5), .val (.int (0 : Int32)), .val (.int (0 : Int32)), .val (.ref b1), .val (.int (1 : Int32))] [(.int (0 : Int32)), (.int (1 : Int32))])
    refine Go.step (fun _ k => XS.iload X5.here hx rfl (hb hby at_166) rfl k) ?_
    show Go _ _ _ _ _ _ _ T5 (mkF m 168 #[.val (.int p0), .val (.int p1), .val (.int p2), .val (.int p3), .val (.int p4), .val (.int p5), .val (.int (0 : Int32)), .val (.int (0 : Int32)), .val (.ref b1), .val (.int (1 : Int32))] [(.int (0 : Int32)), (.int (0 : Int32)), (.int (1 : Int32))])
    refine Go.step (fun _ k => XS.isub X5.here hx rfl (hb hby at_168) rfl k) ?_
    show Go _ _ _ _ _ _ _ T5 (mkF m 169 #[.val (.int p0), .val (.int p1), .val (.int p2), .val (.int p3), .val (.int p4), .val (.int p5), .val (.int (0 : Int32)), .val (.int (0 : Int32)), .val (.ref b1), .val (.int (1 : Int32))] [(.int (0 : Int32)), (.int (1 : Int32))])
    refine Go.step (fun _ k => XS.ifNo X5.here hx rfl (hb hby at_169) rfl ((if0 _ _).trans (teq (by decide : (0 : Int32) = (0 : Int32))).2) k) ?_
    show Go _ _ _ _ _ _ _ T5 (mkF m 172 #[.val (.int p0), .val (.int p1), .val (.int p2), .val (.int p3), .val (.int p4), .val (.int p5), .val (.int (0 : Int32)), .val (.int (0 : Int32)), .val (.ref b1), .val (.int (1 : Int32))] [(.int (1 : Int32))])
    refine Go.step (fun _ k => XS.iconst X5.here hx rfl (hb hby at_172) k) ?_
    show Go _ _ _ _ _ _ _ T5 (mkF m 173 #[.val (.int p0), .val (.int p1), .val (.int p2), .val (.int p3), .val (.int p4), .val (.int p5), .val (.int (0 : Int32)), .val (.int (0 : Int32)), .val (.ref b1), .val (.int (1 : Int32))] [(.int (1 : Int32)), (.int (1 : Int32))])
    refine Go.step (fun _ k => XS.goto X5.here hx rfl (pc0 := 173) (pc' := 177) rfl (hb hby at_173) (by decide) (by decide) k) ?_
    show Go _ _ _ _ _ _ _ T5 (mkF m 177 #[.val (.int p0), .val (.int p1), .val (.int p2), .val (.int p3), .val (.int p4), .val (.int p5), .val (.int (0 : Int32)), .val (.int (0 : Int32)), .val (.ref b1), .val (.int (1 : Int32))] [(.int (1 : Int32)), (.int (1 : Int32))])
    refine Go.step (fun _ k => XS.icmpNo X5.here hx rfl (hb hby at_177) rfl (teq (by decide : (1 : Int32) = (1 : Int32))).2 k) ?_
    show Go _ _ _ _ _ _ _ T5 (mkF m 180 #[.val (.int p0), .val (.int p1), .val (.int p2), .val (.int p3), .val (.int p4), .val (.int p5), .val (.int (0 : Int32)), .val (.int (0 : Int32)), .val (.ref b1), .val (.int (1 : Int32))] [])
    refine Go.step (fun _ k => XS.iconst X5.here hx rfl (hb hby at_180) k) ?_
    show Go _ _ _ _ _ _ _ T5 (mkF m 181 #[.val (.int p0), .val (.int p1), .val (.int p2), .val (.int p3), .val (.int p4), .val (.int p5), .val (.int (0 : Int32)), .val (.int (0 : Int32)), .val (.ref b1), .val (.int (1 : Int32))] [(.int (1 : Int32))])
    refine Go.step (fun _ k => XS.goto X5.here hx rfl (pc0 := 181) (pc' := 185) rfl (hb hby at_181) (by decide) (by decide) k) ?_
    show Go _ _ _ _ _ _ _ T5 (mkF m 185 #[.val (.int p0), .val (.int p1), .val (.int p2), .val (.int p3), .val (.int p4), .val (.int p5), .val (.int (0 : Int32)), .val (.int (0 : Int32)), .val (.ref b1), .val (.int (1 : Int32))] [(.int (1 : Int32))])
    refine Go.step (fun _ k => XS.istore X5.here hx rfl (hb hby at_185) rfl (l' := #[.val (.int p0), .val (.int p1), .val (.int p2), .val (.int p3), .val (.int p4), .val (.int p5), .val (.int (0 : Int32)), .val (.int (0 : Int32)), .val (.ref b1), .val (.int (1 : Int32))]) rfl k) ?_
    show Go _ _ _ _ _ _ _ T5 (mkF m 187 #[.val (.int p0), .val (.int p1), .val (.int p2), .val (.int p3), .val (.int p4), .val (.int p5), .val (.int (0 : Int32)), .val (.int (0 : Int32)), .val (.ref b1), .val (.int (1 : Int32))] [])
    refine Go.step (fun _ k => XS.iload X5.here hx rfl (hb hby at_187) rfl k) ?_
    show Go _ _ _ _ _ _ _ T5 (mkF m 189 #[.val (.int p0), .val (.int p1), .val (.int p2), .val (.int p3), .val (.int p4), .val (.int p5), .val (.int (0 : Int32)), .val (.int (0 : Int32)), .val (.ref b1), .val (.int (1 : Int32))] [(.int (1 : Int32))])
    refine Go.retZ X5 hx hlk hret (by decide) (hb hby at_189) (by decide) (by decide) ?_
    try rw [hh5]
    exact ⟨rfl, N5⟩
  · show Go _ _ _ _ _ _ _ T0 (mkF m 15 #[.val (.int p0), .val (.int p1), .val (.int p2), .val (.int p3), .val (.int p4), .val (.int p5), .val (.int (1 : Int32)), .val (.int (0 : Int32)), .unset, .unset] [])
    obtain ⟨T6, h6, X6, e6, E6, A6, D6, -, st6⟩ := newO X0 hx hZ hown (hw _ (List.mem_of_getElem? (i := 0) rfl)) (hw _ (List.mem_of_getElem? (i := 1) rfl)) (hw _ (List.mem_of_getElem? (i := 2) rfl)) e0 (g := (mkF m 15 #[.val (.int p0), .val (.int p1), .val (.int p2), .val (.int p3), .val (.int p4), .val (.int p5), .val (.int (1 : Int32)), .val (.int (0 : Int32)), .unset, .unset] [])) rfl (hb hby at_15) (by decide) (by decide)
    obtain ⟨b6, g6⟩ : ∃ z, z = h0.size := ⟨_, rfl⟩
    rw [← g6] at A6 D6 st6
    refine Go.step st6 ?_
    have K6 : Keep h0 h6 [] := (Keep.refl h0 []).ext E6
    have sz_b6 : h0.size ≤ b6 := Nat.le_trans ((Keep.refl h0 []) : Keep h0 h0 []).1 (Nat.le_of_eq g6.symm)
    have ge_b6 : n0 ≤ b6 := Nat.le_trans Z0 sz_b6
    have E_b6 := A6
    have F_times_b6 : Fld Z h6 b6 "com/example/wavegrade/wavegrade/DepartureQueue" "times" "[D" .null := D6 (Or.inl (hw _ (List.mem_of_getElem? (i := 11) rfl))) (ty := (.array .double)) (by decide)
    have F_lightpaths_b6 : Fld Z h6 b6 "com/example/wavegrade/wavegrade/DepartureQueue" "lightpaths" "[I" .null := D6 (Or.inl (hw _ (List.mem_of_getElem? (i := 14) rfl))) (ty := (.array .int)) (by decide)
    have F_size_b6 : Fld Z h6 b6 "com/example/wavegrade/wavegrade/DepartureQueue" "size" "I" (.int (0 : Int32)) := D6 (Or.inl (hw _ (List.mem_of_getElem? (i := 21) rfl))) (ty := .int) (by decide)
    show Go _ _ _ _ _ _ _ T6 (mkF m 18 #[.val (.int p0), .val (.int p1), .val (.int p2), .val (.int p3), .val (.int p4), .val (.int p5), .val (.int (1 : Int32)), .val (.int (0 : Int32)), .unset, .unset] [(.ref b6)])
    refine Go.step (fun _ k => XS.dup X6.here hx rfl (hb hby at_18) rfl rfl k) ?_
    show Go _ _ _ _ _ _ _ T6 (mkF m 19 #[.val (.int p0), .val (.int p1), .val (.int p2), .val (.int p3), .val (.int p4), .val (.int p5), .val (.int (1 : Int32)), .val (.int (0 : Int32)), .unset, .unset] [(.ref b6), (.ref b6)])
    refine Go.callI X6 hx hZ (by rw [hml]; rfl) (y := (⟨"com/example/wavegrade/wavegrade/DepartureQueue", "<init>", "()V"⟩ : MethodName)) (a := b6) (argsL := []) (rest := [(.ref b6)]) rfl hown (hw _ (List.mem_of_getElem? (i := 3) rfl)) (hw _ (List.mem_of_getElem? (i := 4) rfl)) (hw _ (List.mem_of_getElem? (i := 2) rfl)) (hw _ (List.mem_of_getElem? (i := 5) rfl)) (by decide) (rm1 l Z a0 hw b6 h6 n0 (Nat.le_trans Z0 (K6 : Keep h0 h6 []).1) E_b6 F_size_b6 F_times_b6 F_lightpaths_b6 ge_b6) e6 (hb hby at_19) (lenOf pd_0 rfl) rfl rfl (W := 1) (Nat.le_of_eq rfl) (by decide) (by decide) (by decide) (by decide) ?_
    intro v7 T7 L7 X7 Q7
    obtain ⟨rfl, N7q, Kc7, Ec7, Fs7, u7, v7, Ft7, Fl7, Vu7, Vv7, nqu7, nqv7, nuv7, su7, sv7⟩ := Q7
    have N7 := Fr.app N0 N7q
    have E_b6_7 := E_b6.keep Kc7
    have KK7 : Keep h0 T7.heap [] := (K6 : Keep h0 h6 []).trans Kc7 (allS (Or.inr sz_b6) all0)
    have sz_u7 : h0.size ≤ u7 := Nat.le_trans (K6 : Keep h0 h6 []).1 su7
    have ge_u7 : n0 ≤ u7 := Nat.le_trans Z0 sz_u7
    have sz_v7 : h0.size ≤ v7 := Nat.le_trans (K6 : Keep h0 h6 []).1 sv7
    have ge_v7 : n0 ≤ v7 := Nat.le_trans Z0 sz_v7
    have hg7 : ∀ i, i < 0 → (fun _ => (0 : UInt64)) i = (tT p2 p3 p4) ((fun x => x) i) := fun i hi' => absurd hi' (by omega)
    have hl7 : ∀ i, i < 0 → (fun _ => (0 : Int32)) i = (tL p5) ((fun x => x) i) := fun i hi' => absurd hi' (by omega)
    have hi7 : HI (tK p2 p3 p4) (fun x => x) 0 := trivial
    show Go _ _ _ _ _ _ _ T7 (mkF m 22 #[.val (.int p0), .val (.int p1), .val (.int p2), .val (.int p3), .val (.int p4), .val (.int p5), .val (.int (1 : Int32)), .val (.int (0 : Int32)), .unset, .unset] [(.ref b6)])
    refine Go.step (fun _ k => XS.astore X7.here hx rfl (hb hby at_22) rfl rfl (l' := #[.val (.int p0), .val (.int p1), .val (.int p2), .val (.int p3), .val (.int p4), .val (.int p5), .val (.int (1 : Int32)), .val (.int (0 : Int32)), .val (.ref b6), .unset]) rfl k) ?_
    show Go _ _ _ _ _ _ _ T7 (mkF m 24 #[.val (.int p0), .val (.int p1), .val (.int p2), .val (.int p3), .val (.int p4), .val (.int p5), .val (.int (1 : Int32)), .val (.int (0 : Int32)), .val (.ref b6), .unset] [])
    refine Go.step (fun _ k => XS.aload X7.here hx rfl (hb hby at_24) rfl rfl k) ?_
    show Go _ _ _ _ _ _ _ T7 (mkF m 26 #[.val (.int p0), .val (.int p1), .val (.int p2), .val (.int p3), .val (.int p4), .val (.int p5), .val (.int (1 : Int32)), .val (.int (0 : Int32)), .val (.ref b6), .unset] [(.ref b6)])
    refine Go.callV X7 hx hZ (by rw [hml]; rfl) (y := (⟨"com/example/wavegrade/wavegrade/DepartureQueue", "isEmpty", "()Z"⟩ : MethodName)) (z := (⟨"com/example/wavegrade/wavegrade/DepartureQueue", "isEmpty", "()Z"⟩ : MethodName)) (a := b6) (argsL := []) (rest := []) hown (hw _ (List.mem_of_getElem? (i := 15) rfl)) (hw _ (List.mem_of_getElem? (i := 16) rfl)) (notFace_of_selects (args := #[]) (mvT hZ (hw _ (List.mem_of_getElem? (i := 18) rfl)))) (hw _ (List.mem_of_getElem? (i := 18) rfl)) (hw _ (List.mem_of_getElem? (i := 17) rfl)) (hw _ (List.mem_of_getElem? (i := 2) rfl)) (hw _ (List.mem_of_getElem? (i := 19) rfl)) (by decide) (rm_empty0 l Z a0 hw b6 T7.heap n0 (Nat.le_trans Z0 (KK7 : Keep h0 T7.heap []).1) Fs7) rfl Ec7 (hb hby at_26) (lenOf pd_1 rfl) rfl rfl (W := 0) (Nat.le_of_eq rfl) (by decide) (by decide) (by decide) (by decide) ?_
    intro v8 T8 L8 X8 Q8
    obtain ⟨rfl, N8q, hh8⟩ := Q8
    have N8 := Fr.app N7 N8q
    show Go _ _ _ _ _ _ _ T8 (mkF m 29 #[.val (.int p0), .val (.int p1), .val (.int p2), .val (.int p3), .val (.int p4), .val (.int p5), .val (.int (1 : Int32)), .val (.int (0 : Int32)), .val (.ref b6), .unset] [(.int (1 : Int32))])
    refine Go.step (fun _ k => XS.istore X8.here hx rfl (hb hby at_29) rfl (l' := #[.val (.int p0), .val (.int p1), .val (.int p2), .val (.int p3), .val (.int p4), .val (.int p5), .val (.int (1 : Int32)), .val (.int (0 : Int32)), .val (.ref b6), .val (.int (1 : Int32))]) rfl k) ?_
    show Go _ _ _ _ _ _ _ T8 (mkF m 31 #[.val (.int p0), .val (.int p1), .val (.int p2), .val (.int p3), .val (.int p4), .val (.int p5), .val (.int (1 : Int32)), .val (.int (0 : Int32)), .val (.ref b6), .val (.int (1 : Int32))] [])
    refine Go.step (fun _ k => XS.iload X8.here hx rfl (hb hby at_31) rfl k) ?_
    show Go _ _ _ _ _ _ _ T8 (mkF m 33 #[.val (.int p0), .val (.int p1), .val (.int p2), .val (.int p3), .val (.int p4), .val (.int p5), .val (.int (1 : Int32)), .val (.int (0 : Int32)), .val (.ref b6), .val (.int (1 : Int32))] [(.int (1 : Int32))])
    refine Go.step (fun _ k => XS.ifNo X8.here hx rfl (hb hby at_33) rfl ((if0 _ _).trans (tlt (by decide : (0 : Int32) < (1 : Int32))).2.2.2) k) ?_
    show Go _ _ _ _ _ _ _ T8 (mkF m 36 #[.val (.int p0), .val (.int p1), .val (.int p2), .val (.int p3), .val (.int p4), .val (.int p5), .val (.int (1 : Int32)), .val (.int (0 : Int32)), .val (.ref b6), .val (.int (1 : Int32))] [])
    refine Go.step (fun _ k => XS.aload X8.here hx rfl (hb hby at_36) rfl rfl k) ?_
    show Go _ _ _ _ _ _ _ T8 (mkF m 38 #[.val (.int p0), .val (.int p1), .val (.int p2), .val (.int p3), .val (.int p4), .val (.int p5), .val (.int (1 : Int32)), .val (.int (0 : Int32)), .val (.ref b6), .val (.int (1 : Int32))] [(.ref b6)])
    refine Go.step (fun _ k => XS.iloadN X8.here hx rfl (hb hby at_38) rfl k) ?_
    show Go _ _ _ _ _ _ _ T8 (mkF m 39 #[.val (.int p0), .val (.int p1), .val (.int p2), .val (.int p3), .val (.int p4), .val (.int p5), .val (.int (1 : Int32)), .val (.int (0 : Int32)), .val (.ref b6), .val (.int (1 : Int32))] [(.int p2), (.ref b6)])
    refine Go.step (fun _ k => XS.bipush X8.here hx rfl (hb hby at_39) k) ?_
    show Go _ _ _ _ _ _ _ T8 (mkF m 41 #[.val (.int p0), .val (.int p1), .val (.int p2), .val (.int p3), .val (.int p4), .val (.int p5), .val (.int (1 : Int32)), .val (.int (0 : Int32)), .val (.ref b6), .val (.int (1 : Int32))] [(.int (16 : Int32)), (.int p2), (.ref b6)])
    refine Go.step (fun _ k => iremM X8 hx rfl (hb hby at_41) rfl (by decide) k) ?_
    show Go _ _ _ _ _ _ _ T8 (mkF m 42 #[.val (.int p0), .val (.int p1), .val (.int p2), .val (.int p3), .val (.int p4), .val (.int p5), .val (.int (1 : Int32)), .val (.int (0 : Int32)), .val (.ref b6), .val (.int (1 : Int32))] [(.int (p2 % (16 : Int32))), (.ref b6)])
    refine Go.step (fun _ k => XS.i2dS X8.here hx rfl (hb hby at_42) rfl rfl k) ?_
    show Go _ _ _ _ _ _ _ T8 (mkF m 43 #[.val (.int p0), .val (.int p1), .val (.int p2), .val (.int p3), .val (.int p4), .val (.int p5), .val (.int (1 : Int32)), .val (.int (0 : Int32)), .val (.ref b6), .val (.int (1 : Int32))] [(.double (FP.i2d (p2 % (16 : Int32)))), (.ref b6)])
    refine Go.step (fun _ k => XS.iload X8.here hx rfl (hb hby at_43) rfl k) ?_
    show Go _ _ _ _ _ _ _ T8 (mkF m 45 #[.val (.int p0), .val (.int p1), .val (.int p2), .val (.int p3), .val (.int p4), .val (.int p5), .val (.int (1 : Int32)), .val (.int (0 : Int32)), .val (.ref b6), .val (.int (1 : Int32))] [(.int p5), (.double (FP.i2d (p2 % (16 : Int32)))), (.ref b6)])
    refine Go.callV X8 hx hZ (by rw [hml]; rfl) (y := (⟨"com/example/wavegrade/wavegrade/DepartureQueue", "add", "(DI)V"⟩ : MethodName)) (z := (⟨"com/example/wavegrade/wavegrade/DepartureQueue", "add", "(DI)V"⟩ : MethodName)) (a := b6) (argsL := [(.double (FP.i2d (p2 % (16 : Int32)))), (.int p5)]) (rest := []) hown (hw _ (List.mem_of_getElem? (i := 22) rfl)) (hw _ (List.mem_of_getElem? (i := 23) rfl)) (notFace_of_selects (args := #[]) (mvT hZ (hw _ (List.mem_of_getElem? (i := 25) rfl)))) (hw _ (List.mem_of_getElem? (i := 25) rfl)) (hw _ (List.mem_of_getElem? (i := 24) rfl)) (hw _ (List.mem_of_getElem? (i := 2) rfl)) (hw _ (List.mem_of_getElem? (i := 26) rfl)) (by decide) (rm_add0 l Z a0 hw b6 u7 v7 (fun _ => (0 : UInt64)) (fun _ => (0 : Int32)) (tT p2 p3 p4) (tL p5) (tK p2 p3 p4) (fun x => x) 0 T7.heap n0 (Nat.le_trans Z0 (KK7 : Keep h0 T7.heap []).1) Ec7 Fs7 Ft7 Fl7 Vu7 Vv7 nqu7 nqv7 nuv7 ge_b6 ge_u7 ge_v7 (tH p2 p3 p4) hg7 hl7 hi7) hh8 Ec7 (hb hby at_45) (lenOf pd_2 rfl) rfl rfl (W := 0) (Nat.le_of_eq rfl) (by decide) (by decide) (by decide) (by decide) ?_
    intro v9 T9 L9 X9 Q9
    obtain ⟨rfl, N9q, Kc9, Ec9, Fs9, Ft9, Fl9, g9x, l9x, a9x, Vu9, Vv9, hg9, hl9, hi9, hs9, hP9⟩ := Q9
    have N9 := Fr.app N8 N9q
    have Ec7_9 := Ec7.keep Kc9
    have KK9 : Keep h0 T9.heap [] := (KK7 : Keep h0 T7.heap []).trans Kc9 (allS (Or.inr sz_b6) (allS (Or.inr sz_u7) (allS (Or.inr sz_v7) all0)))
    show Go _ _ _ _ _ _ _ T9 (mkF m 48 #[.val (.int p0), .val (.int p1), .val (.int p2), .val (.int p3), .val (.int p4), .val (.int p5), .val (.int (1 : Int32)), .val (.int (0 : Int32)), .val (.ref b6), .val (.int (1 : Int32))] [])
    refine Go.step (fun _ k => XS.iload X9.here hx rfl (hb hby at_48) rfl k) ?_
    show Go _ _ _ _ _ _ _ T9 (mkF m 50 #[.val (.int p0), .val (.int p1), .val (.int p2), .val (.int p3), .val (.int p4), .val (.int p5), .val (.int (1 : Int32)), .val (.int (0 : Int32)), .val (.ref b6), .val (.int (1 : Int32))] [(.int (1 : Int32))])
    refine Go.step (fun _ k => XS.iconst X9.here hx rfl (hb hby at_50) k) ?_
    show Go _ _ _ _ _ _ _ T9 (mkF m 51 #[.val (.int p0), .val (.int p1), .val (.int p2), .val (.int p3), .val (.int p4), .val (.int p5), .val (.int (1 : Int32)), .val (.int (0 : Int32)), .val (.ref b6), .val (.int (1 : Int32))] [(.int (1 : Int32)), (.int (1 : Int32))])
    refine Go.step (fun _ k => XS.icmpYes X9.here hx rfl (pc0 := 51) (pc' := 68) rfl (hb hby at_51) rfl (flt (by decide : ¬ ((1 : Int32) < (1 : Int32)))).2.2.2 (by decide) (by decide) k) ?_
    show Go _ _ _ _ _ _ _ T9 (mkF m 68 #[.val (.int p0), .val (.int p1), .val (.int p2), .val (.int p3), .val (.int p4), .val (.int p5), .val (.int (1 : Int32)), .val (.int (0 : Int32)), .val (.ref b6), .val (.int (1 : Int32))] [])
    refine Go.step (fun _ k => XS.iload X9.here hx rfl (hb hby at_68) rfl k) ?_
    show Go _ _ _ _ _ _ _ T9 (mkF m 70 #[.val (.int p0), .val (.int p1), .val (.int p2), .val (.int p3), .val (.int p4), .val (.int p5), .val (.int (1 : Int32)), .val (.int (0 : Int32)), .val (.ref b6), .val (.int (1 : Int32))] [(.int (1 : Int32))])
    refine Go.step (fun _ k => XS.iconst X9.here hx rfl (hb hby at_70) k) ?_
    show Go _ _ _ _ _ _ _ T9 (mkF m 71 #[.val (.int p0), .val (.int p1), .val (.int p2), .val (.int p3), .val (.int p4), .val (.int p5), .val (.int (1 : Int32)), .val (.int (0 : Int32)), .val (.ref b6), .val (.int (1 : Int32))] [(.int (2 : Int32)), (.int (1 : Int32))])
    refine Go.step (fun _ k => XS.icmpYes X9.here hx rfl (pc0 := 71) (pc' := 89) rfl (hb hby at_71) rfl (flt (by decide : ¬ ((2 : Int32) < (1 : Int32)))).2.2.2 (by decide) (by decide) k) ?_
    show Go _ _ _ _ _ _ _ T9 (mkF m 89 #[.val (.int p0), .val (.int p1), .val (.int p2), .val (.int p3), .val (.int p4), .val (.int p5), .val (.int (1 : Int32)), .val (.int (0 : Int32)), .val (.ref b6), .val (.int (1 : Int32))] [])
    refine Go.step (fun _ k => XS.iload X9.here hx rfl (hb hby at_89) rfl k) ?_
    show Go _ _ _ _ _ _ _ T9 (mkF m 91 #[.val (.int p0), .val (.int p1), .val (.int p2), .val (.int p3), .val (.int p4), .val (.int p5), .val (.int (1 : Int32)), .val (.int (0 : Int32)), .val (.ref b6), .val (.int (1 : Int32))] [(.int (1 : Int32))])
    refine Go.step (fun _ k => XS.ifNo X9.here hx rfl (hb hby at_91) rfl ((if0 _ _).trans (feq (by decide : ¬ ((1 : Int32) = (0 : Int32)))).1) k) ?_
    show Go _ _ _ _ _ _ _ T9 (mkF m 94 #[.val (.int p0), .val (.int p1), .val (.int p2), .val (.int p3), .val (.int p4), .val (.int p5), .val (.int (1 : Int32)), .val (.int (0 : Int32)), .val (.ref b6), .val (.int (1 : Int32))] [])
    refine Go.step (fun _ k => XS.aload X9.here hx rfl (hb hby at_94) rfl rfl k) ?_
    show Go _ _ _ _ _ _ _ T9 (mkF m 96 #[.val (.int p0), .val (.int p1), .val (.int p2), .val (.int p3), .val (.int p4), .val (.int p5), .val (.int (1 : Int32)), .val (.int (0 : Int32)), .val (.ref b6), .val (.int (1 : Int32))] [(.ref b6)])
    refine Go.callV X9 hx hZ (by rw [hml]; rfl) (y := (⟨"com/example/wavegrade/wavegrade/DepartureQueue", "isEmpty", "()Z"⟩ : MethodName)) (z := (⟨"com/example/wavegrade/wavegrade/DepartureQueue", "isEmpty", "()Z"⟩ : MethodName)) (a := b6) (argsL := []) (rest := []) hown (hw _ (List.mem_of_getElem? (i := 15) rfl)) (hw _ (List.mem_of_getElem? (i := 16) rfl)) (notFace_of_selects (args := #[]) (mvT hZ (hw _ (List.mem_of_getElem? (i := 18) rfl)))) (hw _ (List.mem_of_getElem? (i := 18) rfl)) (hw _ (List.mem_of_getElem? (i := 17) rfl)) (hw _ (List.mem_of_getElem? (i := 2) rfl)) (hw _ (List.mem_of_getElem? (i := 19) rfl)) (by decide) (rm_empty1 l Z a0 hw b6 T9.heap n0 (Nat.le_trans Z0 (KK9 : Keep h0 T9.heap []).1) Fs9) rfl Ec9 (hb hby at_96) (lenOf pd_1 rfl) rfl rfl (W := 0) (Nat.le_of_eq rfl) (by decide) (by decide) (by decide) (by decide) ?_
    intro v10 T10 L10 X10 Q10
    obtain ⟨rfl, N10q, hh10⟩ := Q10
    have N10 := Fr.app N9 N10q
    show Go _ _ _ _ _ _ _ T10 (mkF m 99 #[.val (.int p0), .val (.int p1), .val (.int p2), .val (.int p3), .val (.int p4), .val (.int p5), .val (.int (1 : Int32)), .val (.int (0 : Int32)), .val (.ref b6), .val (.int (1 : Int32))] [(.int (0 : Int32))])
    refine Go.step (fun _ k => XS.iload X10.here hx rfl (hb hby at_99) rfl k) ?_
    show Go _ _ _ _ _ _ _ T10 (mkF m 101 #[.val (.int p0), .val (.int p1), .val (.int p2), .val (.int p3), .val (.int p4), .val (.int p5), .val (.int (1 : Int32)), .val (.int (0 : Int32)), .val (.ref b6), .val (.int (1 : Int32))] [(.int (1 : Int32)), (.int (0 : Int32))])
    refine Go.step (fun _ k => XS.ifYes X10.here hx rfl (pc0 := 101) (pc' := 108) rfl (hb hby at_101) rfl ((if0 _ _).trans (feq (by decide : ¬ ((1 : Int32) = (0 : Int32)))).2) (by decide) (by decide) k) ?_
    show Go _ _ _ _ _ _ _ T10 (mkF m 108 #[.val (.int p0), .val (.int p1), .val (.int p2), .val (.int p3), .val (.int p4), .val (.int p5), .val (.int (1 : Int32)), .val (.int (0 : Int32)), .val (.ref b6), .val (.int (1 : Int32))] [(.int (0 : Int32))])
    refine Go.step (fun _ k => XS.iconst X10.here hx rfl (hb hby at_108) k) ?_
    show Go _ _ _ _ _ _ _ T10 (mkF m 109 #[.val (.int p0), .val (.int p1), .val (.int p2), .val (.int p3), .val (.int p4), .val (.int p5), .val (.int (1 : Int32)), .val (.int (0 : Int32)), .val (.ref b6), .val (.int (1 : Int32))] [(.int (0 : Int32)), (.int (0 : Int32))])
    refine Go.step (fun _ k => XS.icmpNo X10.here hx rfl (hb hby at_109) rfl (teq (by decide : (0 : Int32) = (0 : Int32))).2 k) ?_
    show Go _ _ _ _ _ _ _ T10 (mkF m 112 #[.val (.int p0), .val (.int p1), .val (.int p2), .val (.int p3), .val (.int p4), .val (.int p5), .val (.int (1 : Int32)), .val (.int (0 : Int32)), .val (.ref b6), .val (.int (1 : Int32))] [])
    refine Go.step (fun _ k => XS.iconst X10.here hx rfl (hb hby at_112) k) ?_
    show Go _ _ _ _ _ _ _ T10 (mkF m 113 #[.val (.int p0), .val (.int p1), .val (.int p2), .val (.int p3), .val (.int p4), .val (.int p5), .val (.int (1 : Int32)), .val (.int (0 : Int32)), .val (.ref b6), .val (.int (1 : Int32))] [(.int (1 : Int32))])
    refine Go.step (fun _ k => XS.goto X10.here hx rfl (pc0 := 113) (pc' := 117) rfl (hb hby at_113) (by decide) (by decide) k) ?_
    show Go _ _ _ _ _ _ _ T10 (mkF m 117 #[.val (.int p0), .val (.int p1), .val (.int p2), .val (.int p3), .val (.int p4), .val (.int p5), .val (.int (1 : Int32)), .val (.int (0 : Int32)), .val (.ref b6), .val (.int (1 : Int32))] [(.int (1 : Int32))])
    refine Go.step (fun _ k => XS.istore X10.here hx rfl (hb hby at_117) rfl (l' := #[.val (.int p0), .val (.int p1), .val (.int p2), .val (.int p3), .val (.int p4), .val (.int p5), .val (.int (1 : Int32)), .val (.int (0 : Int32)), .val (.ref b6), .val (.int (1 : Int32))]) rfl k) ?_
    show Go _ _ _ _ _ _ _ T10 (mkF m 119 #[.val (.int p0), .val (.int p1), .val (.int p2), .val (.int p3), .val (.int p4), .val (.int p5), .val (.int (1 : Int32)), .val (.int (0 : Int32)), .val (.ref b6), .val (.int (1 : Int32))] [])
    refine Go.step (fun _ k => XS.iload X10.here hx rfl (hb hby at_119) rfl k) ?_
    show Go _ _ _ _ _ _ _ T10 (mkF m 121 #[.val (.int p0), .val (.int p1), .val (.int p2), .val (.int p3), .val (.int p4), .val (.int p5), .val (.int (1 : Int32)), .val (.int (0 : Int32)), .val (.ref b6), .val (.int (1 : Int32))] [(.int (0 : Int32))])
    refine Go.step (fun _ k => XS.ifYes X10.here hx rfl (pc0 := 121) (pc' := 130) rfl (hb hby at_121) rfl ((if0 _ _).trans (flt (by decide : ¬ ((0 : Int32) < (0 : Int32)))).2.2.2) (by decide) (by decide) k) ?_
    show Go _ _ _ _ _ _ _ T10 (mkF m 130 #[.val (.int p0), .val (.int p1), .val (.int p2), .val (.int p3), .val (.int p4), .val (.int p5), .val (.int (1 : Int32)), .val (.int (0 : Int32)), .val (.ref b6), .val (.int (1 : Int32))] [])
    refine Go.step (fun _ k => XS.iload X10.here hx rfl (hb hby at_130) rfl k) ?_
    show Go _ _ _ _ _ _ _ T10 (mkF m 132 #[.val (.int p0), .val (.int p1), .val (.int p2), .val (.int p3), .val (.int p4), .val (.int p5), .val (.int (1 : Int32)), .val (.int (0 : Int32)), .val (.ref b6), .val (.int (1 : Int32))] [(.int (0 : Int32))])
    refine Go.step (fun _ k => XS.iconst X10.here hx rfl (hb hby at_132) k) ?_
    show Go _ _ _ _ _ _ _ T10 (mkF m 133 #[.val (.int p0), .val (.int p1), .val (.int p2), .val (.int p3), .val (.int p4), .val (.int p5), .val (.int (1 : Int32)), .val (.int (0 : Int32)), .val (.ref b6), .val (.int (1 : Int32))] [(.int (1 : Int32)), (.int (0 : Int32))])
    refine Go.step (fun _ k => XS.icmpYes X10.here hx rfl (pc0 := 133) (pc' := 142) rfl (hb hby at_133) rfl (flt (by decide : ¬ ((1 : Int32) < (0 : Int32)))).2.2.2 (by decide) (by decide) k) ?_
    show Go _ _ _ _ _ _ _ T10 (mkF m 142 #[.val (.int p0), .val (.int p1), .val (.int p2), .val (.int p3), .val (.int p4), .val (.int p5), .val (.int (1 : Int32)), .val (.int (0 : Int32)), .val (.ref b6), .val (.int (1 : Int32))] [])
    refine Go.step (fun _ k => XS.iload X10.here hx rfl (hb hby at_142) rfl k) ?_
    show Go _ _ _ _ _ _ _ T10 (mkF m 144 #[.val (.int p0), .val (.int p1), .val (.int p2), .val (.int p3), .val (.int p4), .val (.int p5), .val (.int (1 : Int32)), .val (.int (0 : Int32)), .val (.ref b6), .val (.int (1 : Int32))] [(.int (0 : Int32))])
    refine Go.step (fun _ k => XS.iconst X10.here hx rfl (hb hby at_144) k) ?_
    show Go _ _ _ _ _ _ _ T10 (mkF m 145 #[.val (.int p0), .val (.int p1), .val (.int p2), .val (.int p3), .val (.int p4), .val (.int p5), .val (.int (1 : Int32)), .val (.int (0 : Int32)), .val (.ref b6), .val (.int (1 : Int32))] [(.int (2 : Int32)), (.int (0 : Int32))])
    refine Go.step (fun _ k => XS.icmpYes X10.here hx rfl (pc0 := 145) (pc' := 154) rfl (hb hby at_145) rfl (flt (by decide : ¬ ((2 : Int32) < (0 : Int32)))).2.2.2 (by decide) (by decide) k) ?_
    show Go _ _ _ _ _ _ _ T10 (mkF m 154 #[.val (.int p0), .val (.int p1), .val (.int p2), .val (.int p3), .val (.int p4), .val (.int p5), .val (.int (1 : Int32)), .val (.int (0 : Int32)), .val (.ref b6), .val (.int (1 : Int32))] [])
    refine Go.step (fun _ k => XS.iload X10.here hx rfl (hb hby at_154) rfl k) ?_
    show Go _ _ _ _ _ _ _ T10 (mkF m 156 #[.val (.int p0), .val (.int p1), .val (.int p2), .val (.int p3), .val (.int p4), .val (.int p5), .val (.int (1 : Int32)), .val (.int (0 : Int32)), .val (.ref b6), .val (.int (1 : Int32))] [(.int (1 : Int32))])
    refine Go.step (fun _ k => XS.ifNo X10.here hx rfl (hb hby at_156) rfl ((if0 _ _).trans (feq (by decide : ¬ ((1 : Int32) = (0 : Int32)))).1) k) ?_
    show Go _ _ _ _ _ _ _ T10 (mkF m 159 #[.val (.int p0), .val (.int p1), .val (.int p2), .val (.int p3), .val (.int p4), .val (.int p5), .val (.int (1 : Int32)), .val (.int (0 : Int32)), .val (.ref b6), .val (.int (1 : Int32))] [])
    refine Go.step (fun _ k => XS.aload X10.here hx rfl (hb hby at_159) rfl rfl k) ?_
    show Go _ _ _ _ _ _ _ T10 (mkF m 161 #[.val (.int p0), .val (.int p1), .val (.int p2), .val (.int p3), .val (.int p4), .val (.int p5), .val (.int (1 : Int32)), .val (.int (0 : Int32)), .val (.ref b6), .val (.int (1 : Int32))] [(.ref b6)])
    refine Go.callV X10 hx hZ (by rw [hml]; rfl) (y := (⟨"com/example/wavegrade/wavegrade/DepartureQueue", "isEmpty", "()Z"⟩ : MethodName)) (z := (⟨"com/example/wavegrade/wavegrade/DepartureQueue", "isEmpty", "()Z"⟩ : MethodName)) (a := b6) (argsL := []) (rest := []) hown (hw _ (List.mem_of_getElem? (i := 15) rfl)) (hw _ (List.mem_of_getElem? (i := 16) rfl)) (notFace_of_selects (args := #[]) (mvT hZ (hw _ (List.mem_of_getElem? (i := 18) rfl)))) (hw _ (List.mem_of_getElem? (i := 18) rfl)) (hw _ (List.mem_of_getElem? (i := 17) rfl)) (hw _ (List.mem_of_getElem? (i := 2) rfl)) (hw _ (List.mem_of_getElem? (i := 19) rfl)) (by decide) (rm_empty1 l Z a0 hw b6 T9.heap n0 (Nat.le_trans Z0 (KK9 : Keep h0 T9.heap []).1) Fs9) hh10 Ec9 (hb hby at_161) (lenOf pd_1 rfl) rfl rfl (W := 0) (Nat.le_of_eq rfl) (by decide) (by decide) (by decide) (by decide) ?_
    intro v11 T11 L11 X11 Q11
    obtain ⟨rfl, N11q, hh11⟩ := Q11
    have N11 := Fr.app N10 N11q
    show Go _ _ _ _ _ _ _ T11 (mkF m 164 #[.val (.int p0), .val (.int p1), .val (.int p2), .val (.int p3), .val (.int p4), .val (.int p5), .val (.int (1 : Int32)), .val (.int (0 : Int32)), .val (.ref b6), .val (.int (1 : Int32))] [(.int (0 : Int32))])
    refine Go.step (fun _ k => XS.iload X11.here hx rfl (hb hby at_164) rfl k) ?_
    show Go _ _ _ _ _ _ _ T11 (mkF m 166 #[.val (.int p0), .val (.int p1), .val (.int p2), .val (.int p3), .val (.int p4), .val (.int p5), .val (.int (1 : Int32)), .val (.int (0 : Int32)), .val (.ref b6), .val (.int (1 : Int32))] [(.int (1 : Int32)), (.int (0 : Int32))])
    refine Go.step (fun _ k => XS.iload X11.here hx rfl (hb hby at_166) rfl k) ?_
    show Go _ _ _ _ _ _ _ T11 (mkF m 168 #[.val (.int p0), .val (.int p1), .val (.int p2), .val (.int p3), .val (.int p4), .val (.int p5), .val (.int (1 : Int32)), .val (.int (0 : Int32)), .val (.ref b6), .val (.int (1 : Int32))] [(.int (0 : Int32)), (.int (1 : Int32)), (.int (0 : Int32))])
    refine Go.step (fun _ k => XS.isub X11.here hx rfl (hb hby at_168) rfl k) ?_
    show Go _ _ _ _ _ _ _ T11 (mkF m 169 #[.val (.int p0), .val (.int p1), .val (.int p2), .val (.int p3), .val (.int p4), .val (.int p5), .val (.int (1 : Int32)), .val (.int (0 : Int32)), .val (.ref b6), .val (.int (1 : Int32))] [(.int (1 : Int32)), (.int (0 : Int32))])
    refine Go.step (fun _ k => XS.ifYes X11.here hx rfl (pc0 := 169) (pc' := 176) rfl (hb hby at_169) rfl ((if0 _ _).trans (feq (by decide : ¬ ((1 : Int32) = (0 : Int32)))).2) (by decide) (by decide) k) ?_
    show Go _ _ _ _ _ _ _ T11 (mkF m 176 #[.val (.int p0), .val (.int p1), .val (.int p2), .val (.int p3), .val (.int p4), .val (.int p5), .val (.int (1 : Int32)), .val (.int (0 : Int32)), .val (.ref b6), .val (.int (1 : Int32))] [(.int (0 : Int32))])
    refine Go.step (fun _ k => XS.iconst X11.here hx rfl (hb hby at_176) k) ?_
    show Go _ _ _ _ _ _ _ T11 (mkF m 177 #[.val (.int p0), .val (.int p1), .val (.int p2), .val (.int p3), .val (.int p4), .val (.int p5), .val (.int (1 : Int32)), .val (.int (0 : Int32)), .val (.ref b6), .val (.int (1 : Int32))] [(.int (0 : Int32)), (.int (0 : Int32))])
    refine Go.step (fun _ k => XS.icmpNo X11.here hx rfl (hb hby at_177) rfl (teq (by decide : (0 : Int32) = (0 : Int32))).2 k) ?_
    show Go _ _ _ _ _ _ _ T11 (mkF m 180 #[.val (.int p0), .val (.int p1), .val (.int p2), .val (.int p3), .val (.int p4), .val (.int p5), .val (.int (1 : Int32)), .val (.int (0 : Int32)), .val (.ref b6), .val (.int (1 : Int32))] [])
    refine Go.step (fun _ k => XS.iconst X11.here hx rfl (hb hby at_180) k) ?_
    show Go _ _ _ _ _ _ _ T11 (mkF m 181 #[.val (.int p0), .val (.int p1), .val (.int p2), .val (.int p3), .val (.int p4), .val (.int p5), .val (.int (1 : Int32)), .val (.int (0 : Int32)), .val (.ref b6), .val (.int (1 : Int32))] [(.int (1 : Int32))])
    refine Go.step (fun _ k => XS.goto X11.here hx rfl (pc0 := 181) (pc' := 185) rfl (hb hby at_181) (by decide) (by decide) k) ?_
    show Go _ _ _ _ _ _ _ T11 (mkF m 185 #[.val (.int p0), .val (.int p1), .val (.int p2), .val (.int p3), .val (.int p4), .val (.int p5), .val (.int (1 : Int32)), .val (.int (0 : Int32)), .val (.ref b6), .val (.int (1 : Int32))] [(.int (1 : Int32))])
    refine Go.step (fun _ k => XS.istore X11.here hx rfl (hb hby at_185) rfl (l' := #[.val (.int p0), .val (.int p1), .val (.int p2), .val (.int p3), .val (.int p4), .val (.int p5), .val (.int (1 : Int32)), .val (.int (0 : Int32)), .val (.ref b6), .val (.int (1 : Int32))]) rfl k) ?_
    show Go _ _ _ _ _ _ _ T11 (mkF m 187 #[.val (.int p0), .val (.int p1), .val (.int p2), .val (.int p3), .val (.int p4), .val (.int p5), .val (.int (1 : Int32)), .val (.int (0 : Int32)), .val (.ref b6), .val (.int (1 : Int32))] [])
    refine Go.step (fun _ k => XS.iload X11.here hx rfl (hb hby at_187) rfl k) ?_
    show Go _ _ _ _ _ _ _ T11 (mkF m 189 #[.val (.int p0), .val (.int p1), .val (.int p2), .val (.int p3), .val (.int p4), .val (.int p5), .val (.int (1 : Int32)), .val (.int (0 : Int32)), .val (.ref b6), .val (.int (1 : Int32))] [(.int (1 : Int32))])
    refine Go.retZ X11 hx hlk hret (by decide) (hb hby at_189) (by decide) (by decide) ?_
    try rw [hh11]
    exact ⟨rfl, N11⟩
  · show Go _ _ _ _ _ _ _ T0 (mkF m 15 #[.val (.int p0), .val (.int p1), .val (.int p2), .val (.int p3), .val (.int p4), .val (.int p5), .val (.int (1 : Int32)), .val (.int (1 : Int32)), .unset, .unset] [])
    obtain ⟨T12, h12, X12, e12, E12, A12, D12, -, st12⟩ := newO X0 hx hZ hown (hw _ (List.mem_of_getElem? (i := 0) rfl)) (hw _ (List.mem_of_getElem? (i := 1) rfl)) (hw _ (List.mem_of_getElem? (i := 2) rfl)) e0 (g := (mkF m 15 #[.val (.int p0), .val (.int p1), .val (.int p2), .val (.int p3), .val (.int p4), .val (.int p5), .val (.int (1 : Int32)), .val (.int (1 : Int32)), .unset, .unset] [])) rfl (hb hby at_15) (by decide) (by decide)
    obtain ⟨b12, g12⟩ : ∃ z, z = h0.size := ⟨_, rfl⟩
    rw [← g12] at A12 D12 st12
    refine Go.step st12 ?_
    have K12 : Keep h0 h12 [] := (Keep.refl h0 []).ext E12
    have sz_b12 : h0.size ≤ b12 := Nat.le_trans ((Keep.refl h0 []) : Keep h0 h0 []).1 (Nat.le_of_eq g12.symm)
    have ge_b12 : n0 ≤ b12 := Nat.le_trans Z0 sz_b12
    have E_b12 := A12
    have F_times_b12 : Fld Z h12 b12 "com/example/wavegrade/wavegrade/DepartureQueue" "times" "[D" .null := D12 (Or.inl (hw _ (List.mem_of_getElem? (i := 11) rfl))) (ty := (.array .double)) (by decide)
    have F_lightpaths_b12 : Fld Z h12 b12 "com/example/wavegrade/wavegrade/DepartureQueue" "lightpaths" "[I" .null := D12 (Or.inl (hw _ (List.mem_of_getElem? (i := 14) rfl))) (ty := (.array .int)) (by decide)
    have F_size_b12 : Fld Z h12 b12 "com/example/wavegrade/wavegrade/DepartureQueue" "size" "I" (.int (0 : Int32)) := D12 (Or.inl (hw _ (List.mem_of_getElem? (i := 21) rfl))) (ty := .int) (by decide)
    show Go _ _ _ _ _ _ _ T12 (mkF m 18 #[.val (.int p0), .val (.int p1), .val (.int p2), .val (.int p3), .val (.int p4), .val (.int p5), .val (.int (1 : Int32)), .val (.int (1 : Int32)), .unset, .unset] [(.ref b12)])
    refine Go.step (fun _ k => XS.dup X12.here hx rfl (hb hby at_18) rfl rfl k) ?_
    show Go _ _ _ _ _ _ _ T12 (mkF m 19 #[.val (.int p0), .val (.int p1), .val (.int p2), .val (.int p3), .val (.int p4), .val (.int p5), .val (.int (1 : Int32)), .val (.int (1 : Int32)), .unset, .unset] [(.ref b12), (.ref b12)])
    refine Go.callI X12 hx hZ (by rw [hml]; rfl) (y := (⟨"com/example/wavegrade/wavegrade/DepartureQueue", "<init>", "()V"⟩ : MethodName)) (a := b12) (argsL := []) (rest := [(.ref b12)]) rfl hown (hw _ (List.mem_of_getElem? (i := 3) rfl)) (hw _ (List.mem_of_getElem? (i := 4) rfl)) (hw _ (List.mem_of_getElem? (i := 2) rfl)) (hw _ (List.mem_of_getElem? (i := 5) rfl)) (by decide) (rm1 l Z a0 hw b12 h12 n0 (Nat.le_trans Z0 (K12 : Keep h0 h12 []).1) E_b12 F_size_b12 F_times_b12 F_lightpaths_b12 ge_b12) e12 (hb hby at_19) (lenOf pd_0 rfl) rfl rfl (W := 1) (Nat.le_of_eq rfl) (by decide) (by decide) (by decide) (by decide) ?_
    intro v13 T13 L13 X13 Q13
    obtain ⟨rfl, N13q, Kc13, Ec13, Fs13, u13, v13, Ft13, Fl13, Vu13, Vv13, nqu13, nqv13, nuv13, su13, sv13⟩ := Q13
    have N13 := Fr.app N0 N13q
    have E_b12_13 := E_b12.keep Kc13
    have KK13 : Keep h0 T13.heap [] := (K12 : Keep h0 h12 []).trans Kc13 (allS (Or.inr sz_b12) all0)
    have sz_u13 : h0.size ≤ u13 := Nat.le_trans (K12 : Keep h0 h12 []).1 su13
    have ge_u13 : n0 ≤ u13 := Nat.le_trans Z0 sz_u13
    have sz_v13 : h0.size ≤ v13 := Nat.le_trans (K12 : Keep h0 h12 []).1 sv13
    have ge_v13 : n0 ≤ v13 := Nat.le_trans Z0 sz_v13
    have hg13 : ∀ i, i < 0 → (fun _ => (0 : UInt64)) i = (tT p2 p3 p4) ((fun x => x) i) := fun i hi' => absurd hi' (by omega)
    have hl13 : ∀ i, i < 0 → (fun _ => (0 : Int32)) i = (tL p5) ((fun x => x) i) := fun i hi' => absurd hi' (by omega)
    have hi13 : HI (tK p2 p3 p4) (fun x => x) 0 := trivial
    show Go _ _ _ _ _ _ _ T13 (mkF m 22 #[.val (.int p0), .val (.int p1), .val (.int p2), .val (.int p3), .val (.int p4), .val (.int p5), .val (.int (1 : Int32)), .val (.int (1 : Int32)), .unset, .unset] [(.ref b12)])
    refine Go.step (fun _ k => XS.astore X13.here hx rfl (hb hby at_22) rfl rfl (l' := #[.val (.int p0), .val (.int p1), .val (.int p2), .val (.int p3), .val (.int p4), .val (.int p5), .val (.int (1 : Int32)), .val (.int (1 : Int32)), .val (.ref b12), .unset]) rfl k) ?_
    show Go _ _ _ _ _ _ _ T13 (mkF m 24 #[.val (.int p0), .val (.int p1), .val (.int p2), .val (.int p3), .val (.int p4), .val (.int p5), .val (.int (1 : Int32)), .val (.int (1 : Int32)), .val (.ref b12), .unset] [])
    refine Go.step (fun _ k => XS.aload X13.here hx rfl (hb hby at_24) rfl rfl k) ?_
    show Go _ _ _ _ _ _ _ T13 (mkF m 26 #[.val (.int p0), .val (.int p1), .val (.int p2), .val (.int p3), .val (.int p4), .val (.int p5), .val (.int (1 : Int32)), .val (.int (1 : Int32)), .val (.ref b12), .unset] [(.ref b12)])
    refine Go.callV X13 hx hZ (by rw [hml]; rfl) (y := (⟨"com/example/wavegrade/wavegrade/DepartureQueue", "isEmpty", "()Z"⟩ : MethodName)) (z := (⟨"com/example/wavegrade/wavegrade/DepartureQueue", "isEmpty", "()Z"⟩ : MethodName)) (a := b12) (argsL := []) (rest := []) hown (hw _ (List.mem_of_getElem? (i := 15) rfl)) (hw _ (List.mem_of_getElem? (i := 16) rfl)) (notFace_of_selects (args := #[]) (mvT hZ (hw _ (List.mem_of_getElem? (i := 18) rfl)))) (hw _ (List.mem_of_getElem? (i := 18) rfl)) (hw _ (List.mem_of_getElem? (i := 17) rfl)) (hw _ (List.mem_of_getElem? (i := 2) rfl)) (hw _ (List.mem_of_getElem? (i := 19) rfl)) (by decide) (rm_empty0 l Z a0 hw b12 T13.heap n0 (Nat.le_trans Z0 (KK13 : Keep h0 T13.heap []).1) Fs13) rfl Ec13 (hb hby at_26) (lenOf pd_1 rfl) rfl rfl (W := 0) (Nat.le_of_eq rfl) (by decide) (by decide) (by decide) (by decide) ?_
    intro v14 T14 L14 X14 Q14
    obtain ⟨rfl, N14q, hh14⟩ := Q14
    have N14 := Fr.app N13 N14q
    show Go _ _ _ _ _ _ _ T14 (mkF m 29 #[.val (.int p0), .val (.int p1), .val (.int p2), .val (.int p3), .val (.int p4), .val (.int p5), .val (.int (1 : Int32)), .val (.int (1 : Int32)), .val (.ref b12), .unset] [(.int (1 : Int32))])
    refine Go.step (fun _ k => XS.istore X14.here hx rfl (hb hby at_29) rfl (l' := #[.val (.int p0), .val (.int p1), .val (.int p2), .val (.int p3), .val (.int p4), .val (.int p5), .val (.int (1 : Int32)), .val (.int (1 : Int32)), .val (.ref b12), .val (.int (1 : Int32))]) rfl k) ?_
    show Go _ _ _ _ _ _ _ T14 (mkF m 31 #[.val (.int p0), .val (.int p1), .val (.int p2), .val (.int p3), .val (.int p4), .val (.int p5), .val (.int (1 : Int32)), .val (.int (1 : Int32)), .val (.ref b12), .val (.int (1 : Int32))] [])
    refine Go.step (fun _ k => XS.iload X14.here hx rfl (hb hby at_31) rfl k) ?_
    show Go _ _ _ _ _ _ _ T14 (mkF m 33 #[.val (.int p0), .val (.int p1), .val (.int p2), .val (.int p3), .val (.int p4), .val (.int p5), .val (.int (1 : Int32)), .val (.int (1 : Int32)), .val (.ref b12), .val (.int (1 : Int32))] [(.int (1 : Int32))])
    refine Go.step (fun _ k => XS.ifNo X14.here hx rfl (hb hby at_33) rfl ((if0 _ _).trans (tlt (by decide : (0 : Int32) < (1 : Int32))).2.2.2) k) ?_
    show Go _ _ _ _ _ _ _ T14 (mkF m 36 #[.val (.int p0), .val (.int p1), .val (.int p2), .val (.int p3), .val (.int p4), .val (.int p5), .val (.int (1 : Int32)), .val (.int (1 : Int32)), .val (.ref b12), .val (.int (1 : Int32))] [])
    refine Go.step (fun _ k => XS.aload X14.here hx rfl (hb hby at_36) rfl rfl k) ?_
    show Go _ _ _ _ _ _ _ T14 (mkF m 38 #[.val (.int p0), .val (.int p1), .val (.int p2), .val (.int p3), .val (.int p4), .val (.int p5), .val (.int (1 : Int32)), .val (.int (1 : Int32)), .val (.ref b12), .val (.int (1 : Int32))] [(.ref b12)])
    refine Go.step (fun _ k => XS.iloadN X14.here hx rfl (hb hby at_38) rfl k) ?_
    show Go _ _ _ _ _ _ _ T14 (mkF m 39 #[.val (.int p0), .val (.int p1), .val (.int p2), .val (.int p3), .val (.int p4), .val (.int p5), .val (.int (1 : Int32)), .val (.int (1 : Int32)), .val (.ref b12), .val (.int (1 : Int32))] [(.int p2), (.ref b12)])
    refine Go.step (fun _ k => XS.bipush X14.here hx rfl (hb hby at_39) k) ?_
    show Go _ _ _ _ _ _ _ T14 (mkF m 41 #[.val (.int p0), .val (.int p1), .val (.int p2), .val (.int p3), .val (.int p4), .val (.int p5), .val (.int (1 : Int32)), .val (.int (1 : Int32)), .val (.ref b12), .val (.int (1 : Int32))] [(.int (16 : Int32)), (.int p2), (.ref b12)])
    refine Go.step (fun _ k => iremM X14 hx rfl (hb hby at_41) rfl (by decide) k) ?_
    show Go _ _ _ _ _ _ _ T14 (mkF m 42 #[.val (.int p0), .val (.int p1), .val (.int p2), .val (.int p3), .val (.int p4), .val (.int p5), .val (.int (1 : Int32)), .val (.int (1 : Int32)), .val (.ref b12), .val (.int (1 : Int32))] [(.int (p2 % (16 : Int32))), (.ref b12)])
    refine Go.step (fun _ k => XS.i2dS X14.here hx rfl (hb hby at_42) rfl rfl k) ?_
    show Go _ _ _ _ _ _ _ T14 (mkF m 43 #[.val (.int p0), .val (.int p1), .val (.int p2), .val (.int p3), .val (.int p4), .val (.int p5), .val (.int (1 : Int32)), .val (.int (1 : Int32)), .val (.ref b12), .val (.int (1 : Int32))] [(.double (FP.i2d (p2 % (16 : Int32)))), (.ref b12)])
    refine Go.step (fun _ k => XS.iload X14.here hx rfl (hb hby at_43) rfl k) ?_
    show Go _ _ _ _ _ _ _ T14 (mkF m 45 #[.val (.int p0), .val (.int p1), .val (.int p2), .val (.int p3), .val (.int p4), .val (.int p5), .val (.int (1 : Int32)), .val (.int (1 : Int32)), .val (.ref b12), .val (.int (1 : Int32))] [(.int p5), (.double (FP.i2d (p2 % (16 : Int32)))), (.ref b12)])
    refine Go.callV X14 hx hZ (by rw [hml]; rfl) (y := (⟨"com/example/wavegrade/wavegrade/DepartureQueue", "add", "(DI)V"⟩ : MethodName)) (z := (⟨"com/example/wavegrade/wavegrade/DepartureQueue", "add", "(DI)V"⟩ : MethodName)) (a := b12) (argsL := [(.double (FP.i2d (p2 % (16 : Int32)))), (.int p5)]) (rest := []) hown (hw _ (List.mem_of_getElem? (i := 22) rfl)) (hw _ (List.mem_of_getElem? (i := 23) rfl)) (notFace_of_selects (args := #[]) (mvT hZ (hw _ (List.mem_of_getElem? (i := 25) rfl)))) (hw _ (List.mem_of_getElem? (i := 25) rfl)) (hw _ (List.mem_of_getElem? (i := 24) rfl)) (hw _ (List.mem_of_getElem? (i := 2) rfl)) (hw _ (List.mem_of_getElem? (i := 26) rfl)) (by decide) (rm_add0 l Z a0 hw b12 u13 v13 (fun _ => (0 : UInt64)) (fun _ => (0 : Int32)) (tT p2 p3 p4) (tL p5) (tK p2 p3 p4) (fun x => x) 0 T13.heap n0 (Nat.le_trans Z0 (KK13 : Keep h0 T13.heap []).1) Ec13 Fs13 Ft13 Fl13 Vu13 Vv13 nqu13 nqv13 nuv13 ge_b12 ge_u13 ge_v13 (tH p2 p3 p4) hg13 hl13 hi13) hh14 Ec13 (hb hby at_45) (lenOf pd_2 rfl) rfl rfl (W := 0) (Nat.le_of_eq rfl) (by decide) (by decide) (by decide) (by decide) ?_
    intro v15 T15 L15 X15 Q15
    obtain ⟨rfl, N15q, Kc15, Ec15, Fs15, Ft15, Fl15, g15x, l15x, a15x, Vu15, Vv15, hg15, hl15, hi15, hs15, hP15⟩ := Q15
    have N15 := Fr.app N14 N15q
    have Ec13_15 := Ec13.keep Kc15
    have KK15 : Keep h0 T15.heap [] := (KK13 : Keep h0 T13.heap []).trans Kc15 (allS (Or.inr sz_b12) (allS (Or.inr sz_u13) (allS (Or.inr sz_v13) all0)))
    show Go _ _ _ _ _ _ _ T15 (mkF m 48 #[.val (.int p0), .val (.int p1), .val (.int p2), .val (.int p3), .val (.int p4), .val (.int p5), .val (.int (1 : Int32)), .val (.int (1 : Int32)), .val (.ref b12), .val (.int (1 : Int32))] [])
    refine Go.step (fun _ k => XS.iload X15.here hx rfl (hb hby at_48) rfl k) ?_
    show Go _ _ _ _ _ _ _ T15 (mkF m 50 #[.val (.int p0), .val (.int p1), .val (.int p2), .val (.int p3), .val (.int p4), .val (.int p5), .val (.int (1 : Int32)), .val (.int (1 : Int32)), .val (.ref b12), .val (.int (1 : Int32))] [(.int (1 : Int32))])
    refine Go.step (fun _ k => XS.iconst X15.here hx rfl (hb hby at_50) k) ?_
    show Go _ _ _ _ _ _ _ T15 (mkF m 51 #[.val (.int p0), .val (.int p1), .val (.int p2), .val (.int p3), .val (.int p4), .val (.int p5), .val (.int (1 : Int32)), .val (.int (1 : Int32)), .val (.ref b12), .val (.int (1 : Int32))] [(.int (1 : Int32)), (.int (1 : Int32))])
    refine Go.step (fun _ k => XS.icmpYes X15.here hx rfl (pc0 := 51) (pc' := 68) rfl (hb hby at_51) rfl (flt (by decide : ¬ ((1 : Int32) < (1 : Int32)))).2.2.2 (by decide) (by decide) k) ?_
    show Go _ _ _ _ _ _ _ T15 (mkF m 68 #[.val (.int p0), .val (.int p1), .val (.int p2), .val (.int p3), .val (.int p4), .val (.int p5), .val (.int (1 : Int32)), .val (.int (1 : Int32)), .val (.ref b12), .val (.int (1 : Int32))] [])
    refine Go.step (fun _ k => XS.iload X15.here hx rfl (hb hby at_68) rfl k) ?_
    show Go _ _ _ _ _ _ _ T15 (mkF m 70 #[.val (.int p0), .val (.int p1), .val (.int p2), .val (.int p3), .val (.int p4), .val (.int p5), .val (.int (1 : Int32)), .val (.int (1 : Int32)), .val (.ref b12), .val (.int (1 : Int32))] [(.int (1 : Int32))])
    refine Go.step (fun _ k => XS.iconst X15.here hx rfl (hb hby at_70) k) ?_
    show Go _ _ _ _ _ _ _ T15 (mkF m 71 #[.val (.int p0), .val (.int p1), .val (.int p2), .val (.int p3), .val (.int p4), .val (.int p5), .val (.int (1 : Int32)), .val (.int (1 : Int32)), .val (.ref b12), .val (.int (1 : Int32))] [(.int (2 : Int32)), (.int (1 : Int32))])
    refine Go.step (fun _ k => XS.icmpYes X15.here hx rfl (pc0 := 71) (pc' := 89) rfl (hb hby at_71) rfl (flt (by decide : ¬ ((2 : Int32) < (1 : Int32)))).2.2.2 (by decide) (by decide) k) ?_
    show Go _ _ _ _ _ _ _ T15 (mkF m 89 #[.val (.int p0), .val (.int p1), .val (.int p2), .val (.int p3), .val (.int p4), .val (.int p5), .val (.int (1 : Int32)), .val (.int (1 : Int32)), .val (.ref b12), .val (.int (1 : Int32))] [])
    refine Go.step (fun _ k => XS.iload X15.here hx rfl (hb hby at_89) rfl k) ?_
    show Go _ _ _ _ _ _ _ T15 (mkF m 91 #[.val (.int p0), .val (.int p1), .val (.int p2), .val (.int p3), .val (.int p4), .val (.int p5), .val (.int (1 : Int32)), .val (.int (1 : Int32)), .val (.ref b12), .val (.int (1 : Int32))] [(.int (1 : Int32))])
    refine Go.step (fun _ k => XS.ifNo X15.here hx rfl (hb hby at_91) rfl ((if0 _ _).trans (feq (by decide : ¬ ((1 : Int32) = (0 : Int32)))).1) k) ?_
    show Go _ _ _ _ _ _ _ T15 (mkF m 94 #[.val (.int p0), .val (.int p1), .val (.int p2), .val (.int p3), .val (.int p4), .val (.int p5), .val (.int (1 : Int32)), .val (.int (1 : Int32)), .val (.ref b12), .val (.int (1 : Int32))] [])
    refine Go.step (fun _ k => XS.aload X15.here hx rfl (hb hby at_94) rfl rfl k) ?_
    show Go _ _ _ _ _ _ _ T15 (mkF m 96 #[.val (.int p0), .val (.int p1), .val (.int p2), .val (.int p3), .val (.int p4), .val (.int p5), .val (.int (1 : Int32)), .val (.int (1 : Int32)), .val (.ref b12), .val (.int (1 : Int32))] [(.ref b12)])
    refine Go.callV X15 hx hZ (by rw [hml]; rfl) (y := (⟨"com/example/wavegrade/wavegrade/DepartureQueue", "isEmpty", "()Z"⟩ : MethodName)) (z := (⟨"com/example/wavegrade/wavegrade/DepartureQueue", "isEmpty", "()Z"⟩ : MethodName)) (a := b12) (argsL := []) (rest := []) hown (hw _ (List.mem_of_getElem? (i := 15) rfl)) (hw _ (List.mem_of_getElem? (i := 16) rfl)) (notFace_of_selects (args := #[]) (mvT hZ (hw _ (List.mem_of_getElem? (i := 18) rfl)))) (hw _ (List.mem_of_getElem? (i := 18) rfl)) (hw _ (List.mem_of_getElem? (i := 17) rfl)) (hw _ (List.mem_of_getElem? (i := 2) rfl)) (hw _ (List.mem_of_getElem? (i := 19) rfl)) (by decide) (rm_empty1 l Z a0 hw b12 T15.heap n0 (Nat.le_trans Z0 (KK15 : Keep h0 T15.heap []).1) Fs15) rfl Ec15 (hb hby at_96) (lenOf pd_1 rfl) rfl rfl (W := 0) (Nat.le_of_eq rfl) (by decide) (by decide) (by decide) (by decide) ?_
    intro v16 T16 L16 X16 Q16
    obtain ⟨rfl, N16q, hh16⟩ := Q16
    have N16 := Fr.app N15 N16q
    show Go _ _ _ _ _ _ _ T16 (mkF m 99 #[.val (.int p0), .val (.int p1), .val (.int p2), .val (.int p3), .val (.int p4), .val (.int p5), .val (.int (1 : Int32)), .val (.int (1 : Int32)), .val (.ref b12), .val (.int (1 : Int32))] [(.int (0 : Int32))])
    refine Go.step (fun _ k => XS.iload X16.here hx rfl (hb hby at_99) rfl k) ?_
    show Go _ _ _ _ _ _ _ T16 (mkF m 101 #[.val (.int p0), .val (.int p1), .val (.int p2), .val (.int p3), .val (.int p4), .val (.int p5), .val (.int (1 : Int32)), .val (.int (1 : Int32)), .val (.ref b12), .val (.int (1 : Int32))] [(.int (1 : Int32)), (.int (0 : Int32))])
    refine Go.step (fun _ k => XS.ifYes X16.here hx rfl (pc0 := 101) (pc' := 108) rfl (hb hby at_101) rfl ((if0 _ _).trans (feq (by decide : ¬ ((1 : Int32) = (0 : Int32)))).2) (by decide) (by decide) k) ?_
    show Go _ _ _ _ _ _ _ T16 (mkF m 108 #[.val (.int p0), .val (.int p1), .val (.int p2), .val (.int p3), .val (.int p4), .val (.int p5), .val (.int (1 : Int32)), .val (.int (1 : Int32)), .val (.ref b12), .val (.int (1 : Int32))] [(.int (0 : Int32))])
    refine Go.step (fun _ k => XS.iconst X16.here hx rfl (hb hby at_108) k) ?_
    show Go _ _ _ _ _ _ _ T16 (mkF m 109 #[.val (.int p0), .val (.int p1), .val (.int p2), .val (.int p3), .val (.int p4), .val (.int p5), .val (.int (1 : Int32)), .val (.int (1 : Int32)), .val (.ref b12), .val (.int (1 : Int32))] [(.int (0 : Int32)), (.int (0 : Int32))])
    refine Go.step (fun _ k => XS.icmpNo X16.here hx rfl (hb hby at_109) rfl (teq (by decide : (0 : Int32) = (0 : Int32))).2 k) ?_
    show Go _ _ _ _ _ _ _ T16 (mkF m 112 #[.val (.int p0), .val (.int p1), .val (.int p2), .val (.int p3), .val (.int p4), .val (.int p5), .val (.int (1 : Int32)), .val (.int (1 : Int32)), .val (.ref b12), .val (.int (1 : Int32))] [])
    refine Go.step (fun _ k => XS.iconst X16.here hx rfl (hb hby at_112) k) ?_
    show Go _ _ _ _ _ _ _ T16 (mkF m 113 #[.val (.int p0), .val (.int p1), .val (.int p2), .val (.int p3), .val (.int p4), .val (.int p5), .val (.int (1 : Int32)), .val (.int (1 : Int32)), .val (.ref b12), .val (.int (1 : Int32))] [(.int (1 : Int32))])
    refine Go.step (fun _ k => XS.goto X16.here hx rfl (pc0 := 113) (pc' := 117) rfl (hb hby at_113) (by decide) (by decide) k) ?_
    show Go _ _ _ _ _ _ _ T16 (mkF m 117 #[.val (.int p0), .val (.int p1), .val (.int p2), .val (.int p3), .val (.int p4), .val (.int p5), .val (.int (1 : Int32)), .val (.int (1 : Int32)), .val (.ref b12), .val (.int (1 : Int32))] [(.int (1 : Int32))])
    refine Go.step (fun _ k => XS.istore X16.here hx rfl (hb hby at_117) rfl (l' := #[.val (.int p0), .val (.int p1), .val (.int p2), .val (.int p3), .val (.int p4), .val (.int p5), .val (.int (1 : Int32)), .val (.int (1 : Int32)), .val (.ref b12), .val (.int (1 : Int32))]) rfl k) ?_
    show Go _ _ _ _ _ _ _ T16 (mkF m 119 #[.val (.int p0), .val (.int p1), .val (.int p2), .val (.int p3), .val (.int p4), .val (.int p5), .val (.int (1 : Int32)), .val (.int (1 : Int32)), .val (.ref b12), .val (.int (1 : Int32))] [])
    refine Go.step (fun _ k => XS.iload X16.here hx rfl (hb hby at_119) rfl k) ?_
    show Go _ _ _ _ _ _ _ T16 (mkF m 121 #[.val (.int p0), .val (.int p1), .val (.int p2), .val (.int p3), .val (.int p4), .val (.int p5), .val (.int (1 : Int32)), .val (.int (1 : Int32)), .val (.ref b12), .val (.int (1 : Int32))] [(.int (1 : Int32))])
    refine Go.step (fun _ k => XS.ifNo X16.here hx rfl (hb hby at_121) rfl ((if0 _ _).trans (tlt (by decide : (0 : Int32) < (1 : Int32))).2.2.2) k) ?_
    show Go _ _ _ _ _ _ _ T16 (mkF m 124 #[.val (.int p0), .val (.int p1), .val (.int p2), .val (.int p3), .val (.int p4), .val (.int p5), .val (.int (1 : Int32)), .val (.int (1 : Int32)), .val (.ref b12), .val (.int (1 : Int32))] [])
    refine Go.step (fun _ k => XS.aload X16.here hx rfl (hb hby at_124) rfl rfl k) ?_
    show Go _ _ _ _ _ _ _ T16 (mkF m 126 #[.val (.int p0), .val (.int p1), .val (.int p2), .val (.int p3), .val (.int p4), .val (.int p5), .val (.int (1 : Int32)), .val (.int (1 : Int32)), .val (.ref b12), .val (.int (1 : Int32))] [(.ref b12)])
    refine Go.callV X16 hx hZ (by rw [hml]; rfl) (y := (⟨"com/example/wavegrade/wavegrade/DepartureQueue", "removeFirst", "()I"⟩ : MethodName)) (z := (⟨"com/example/wavegrade/wavegrade/DepartureQueue", "removeFirst", "()I"⟩ : MethodName)) (a := b12) (argsL := []) (rest := []) hown (hw _ (List.mem_of_getElem? (i := 27) rfl)) (hw _ (List.mem_of_getElem? (i := 28) rfl)) (notFace_of_selects (args := #[]) (mvT hZ (hw _ (List.mem_of_getElem? (i := 30) rfl)))) (hw _ (List.mem_of_getElem? (i := 30) rfl)) (hw _ (List.mem_of_getElem? (i := 29) rfl)) (hw _ (List.mem_of_getElem? (i := 2) rfl)) (hw _ (List.mem_of_getElem? (i := 31) rfl)) (by decide) (rm_rem1 l Z a0 hw b12 u13 v13 g15x l15x (tT p2 p3 p4) (tL p5) (tK p2 p3 p4) a15x T15.heap n0 (Nat.le_trans Z0 (KK15 : Keep h0 T15.heap []).1) Ec15 Fs15 Ft15 Fl15 Vu15 Vv15 nqu13 nqv13 nuv13 ge_b12 ge_u13 ge_v13 (tH p2 p3 p4) hg15 hl15 hi15) hh16 Ec15 (hb hby at_126) (lenOf pd_3 rfl) rfl rfl (W := 0) (Nat.le_of_eq rfl) (by decide) (by decide) (by decide) (by decide) ?_
    intro v17 T17 L17 X17 Q17
    obtain ⟨rfl, N17q, Kc17, Ec17, Fs17, Ft17, Fl17, g17x, l17x, a17x, Vu17, Vv17, hg17, hl17, hi17, ⟨hm17, hs17⟩, hP17⟩ := Q17
    have N17 := Fr.app N16 N17q
    have Ec15_17 := Ec15.keep Kc17
    have KK17 : Keep h0 T17.heap [] := (KK15 : Keep h0 T15.heap []).trans Kc17 (allS (Or.inr sz_b12) (allS (Or.inr sz_u13) (allS (Or.inr sz_v13) all0)))
    show Go _ _ _ _ _ _ _ T17 (mkF m 129 #[.val (.int p0), .val (.int p1), .val (.int p2), .val (.int p3), .val (.int p4), .val (.int p5), .val (.int (1 : Int32)), .val (.int (1 : Int32)), .val (.ref b12), .val (.int (1 : Int32))] [(.int ((tL p5) (a15x 0)))])
    refine Go.step (fun _ k => XS.pop X17.here hx rfl (hb hby at_129) rfl rfl k) ?_
    show Go _ _ _ _ _ _ _ T17 (mkF m 130 #[.val (.int p0), .val (.int p1), .val (.int p2), .val (.int p3), .val (.int p4), .val (.int p5), .val (.int (1 : Int32)), .val (.int (1 : Int32)), .val (.ref b12), .val (.int (1 : Int32))] [])
    refine Go.step (fun _ k => XS.iload X17.here hx rfl (hb hby at_130) rfl k) ?_
    show Go _ _ _ _ _ _ _ T17 (mkF m 132 #[.val (.int p0), .val (.int p1), .val (.int p2), .val (.int p3), .val (.int p4), .val (.int p5), .val (.int (1 : Int32)), .val (.int (1 : Int32)), .val (.ref b12), .val (.int (1 : Int32))] [(.int (1 : Int32))])
    refine Go.step (fun _ k => XS.iconst X17.here hx rfl (hb hby at_132) k) ?_
    show Go _ _ _ _ _ _ _ T17 (mkF m 133 #[.val (.int p0), .val (.int p1), .val (.int p2), .val (.int p3), .val (.int p4), .val (.int p5), .val (.int (1 : Int32)), .val (.int (1 : Int32)), .val (.ref b12), .val (.int (1 : Int32))] [(.int (1 : Int32)), (.int (1 : Int32))])
    refine Go.step (fun _ k => XS.icmpYes X17.here hx rfl (pc0 := 133) (pc' := 142) rfl (hb hby at_133) rfl (flt (by decide : ¬ ((1 : Int32) < (1 : Int32)))).2.2.2 (by decide) (by decide) k) ?_
    show Go _ _ _ _ _ _ _ T17 (mkF m 142 #[.val (.int p0), .val (.int p1), .val (.int p2), .val (.int p3), .val (.int p4), .val (.int p5), .val (.int (1 : Int32)), .val (.int (1 : Int32)), .val (.ref b12), .val (.int (1 : Int32))] [])
    refine Go.step (fun _ k => XS.iload X17.here hx rfl (hb hby at_142) rfl k) ?_
    show Go _ _ _ _ _ _ _ T17 (mkF m 144 #[.val (.int p0), .val (.int p1), .val (.int p2), .val (.int p3), .val (.int p4), .val (.int p5), .val (.int (1 : Int32)), .val (.int (1 : Int32)), .val (.ref b12), .val (.int (1 : Int32))] [(.int (1 : Int32))])
    refine Go.step (fun _ k => XS.iconst X17.here hx rfl (hb hby at_144) k) ?_
    show Go _ _ _ _ _ _ _ T17 (mkF m 145 #[.val (.int p0), .val (.int p1), .val (.int p2), .val (.int p3), .val (.int p4), .val (.int p5), .val (.int (1 : Int32)), .val (.int (1 : Int32)), .val (.ref b12), .val (.int (1 : Int32))] [(.int (2 : Int32)), (.int (1 : Int32))])
    refine Go.step (fun _ k => XS.icmpYes X17.here hx rfl (pc0 := 145) (pc' := 154) rfl (hb hby at_145) rfl (flt (by decide : ¬ ((2 : Int32) < (1 : Int32)))).2.2.2 (by decide) (by decide) k) ?_
    show Go _ _ _ _ _ _ _ T17 (mkF m 154 #[.val (.int p0), .val (.int p1), .val (.int p2), .val (.int p3), .val (.int p4), .val (.int p5), .val (.int (1 : Int32)), .val (.int (1 : Int32)), .val (.ref b12), .val (.int (1 : Int32))] [])
    refine Go.step (fun _ k => XS.iload X17.here hx rfl (hb hby at_154) rfl k) ?_
    show Go _ _ _ _ _ _ _ T17 (mkF m 156 #[.val (.int p0), .val (.int p1), .val (.int p2), .val (.int p3), .val (.int p4), .val (.int p5), .val (.int (1 : Int32)), .val (.int (1 : Int32)), .val (.ref b12), .val (.int (1 : Int32))] [(.int (1 : Int32))])
    refine Go.step (fun _ k => XS.ifNo X17.here hx rfl (hb hby at_156) rfl ((if0 _ _).trans (feq (by decide : ¬ ((1 : Int32) = (0 : Int32)))).1) k) ?_
    show Go _ _ _ _ _ _ _ T17 (mkF m 159 #[.val (.int p0), .val (.int p1), .val (.int p2), .val (.int p3), .val (.int p4), .val (.int p5), .val (.int (1 : Int32)), .val (.int (1 : Int32)), .val (.ref b12), .val (.int (1 : Int32))] [])
    refine Go.step (fun _ k => XS.aload X17.here hx rfl (hb hby at_159) rfl rfl k) ?_
    show Go _ _ _ _ _ _ _ T17 (mkF m 161 #[.val (.int p0), .val (.int p1), .val (.int p2), .val (.int p3), .val (.int p4), .val (.int p5), .val (.int (1 : Int32)), .val (.int (1 : Int32)), .val (.ref b12), .val (.int (1 : Int32))] [(.ref b12)])
    refine Go.callV X17 hx hZ (by rw [hml]; rfl) (y := (⟨"com/example/wavegrade/wavegrade/DepartureQueue", "isEmpty", "()Z"⟩ : MethodName)) (z := (⟨"com/example/wavegrade/wavegrade/DepartureQueue", "isEmpty", "()Z"⟩ : MethodName)) (a := b12) (argsL := []) (rest := []) hown (hw _ (List.mem_of_getElem? (i := 15) rfl)) (hw _ (List.mem_of_getElem? (i := 16) rfl)) (notFace_of_selects (args := #[]) (mvT hZ (hw _ (List.mem_of_getElem? (i := 18) rfl)))) (hw _ (List.mem_of_getElem? (i := 18) rfl)) (hw _ (List.mem_of_getElem? (i := 17) rfl)) (hw _ (List.mem_of_getElem? (i := 2) rfl)) (hw _ (List.mem_of_getElem? (i := 19) rfl)) (by decide) (rm_empty0 l Z a0 hw b12 T17.heap n0 (Nat.le_trans Z0 (KK17 : Keep h0 T17.heap []).1) Fs17) rfl Ec17 (hb hby at_161) (lenOf pd_1 rfl) rfl rfl (W := 0) (Nat.le_of_eq rfl) (by decide) (by decide) (by decide) (by decide) ?_
    intro v18 T18 L18 X18 Q18
    obtain ⟨rfl, N18q, hh18⟩ := Q18
    have N18 := Fr.app N17 N18q
    show Go _ _ _ _ _ _ _ T18 (mkF m 164 #[.val (.int p0), .val (.int p1), .val (.int p2), .val (.int p3), .val (.int p4), .val (.int p5), .val (.int (1 : Int32)), .val (.int (1 : Int32)), .val (.ref b12), .val (.int (1 : Int32))] [(.int (1 : Int32))])
    refine Go.step (fun _ k => XS.iload X18.here hx rfl (hb hby at_164) rfl k) ?_
    show Go _ _ _ _ _ _ _ T18 (mkF m 166 #[.val (.int p0), .val (.int p1), .val (.int p2), .val (.int p3), .val (.int p4), .val (.int p5), .val (.int (1 : Int32)), .val (.int (1 : Int32)), .val (.ref b12), .val (.int (1 : Int32))] [(.int (1 : Int32)), (.int (1 : Int32))])
    refine Go.step (fun _ k => XS.iload X18.here hx rfl (hb hby at_166) rfl k) ?_
    show Go _ _ _ _ _ _ _ T18 (mkF m 168 #[.val (.int p0), .val (.int p1), .val (.int p2), .val (.int p3), .val (.int p4), .val (.int p5), .val (.int (1 : Int32)), .val (.int (1 : Int32)), .val (.ref b12), .val (.int (1 : Int32))] [(.int (1 : Int32)), (.int (1 : Int32)), (.int (1 : Int32))])
    refine Go.step (fun _ k => XS.isub X18.here hx rfl (hb hby at_168) rfl k) ?_
    show Go _ _ _ _ _ _ _ T18 (mkF m 169 #[.val (.int p0), .val (.int p1), .val (.int p2), .val (.int p3), .val (.int p4), .val (.int p5), .val (.int (1 : Int32)), .val (.int (1 : Int32)), .val (.ref b12), .val (.int (1 : Int32))] [(.int (0 : Int32)), (.int (1 : Int32))])
    refine Go.step (fun _ k => XS.ifNo X18.here hx rfl (hb hby at_169) rfl ((if0 _ _).trans (teq (by decide : (0 : Int32) = (0 : Int32))).2) k) ?_
    show Go _ _ _ _ _ _ _ T18 (mkF m 172 #[.val (.int p0), .val (.int p1), .val (.int p2), .val (.int p3), .val (.int p4), .val (.int p5), .val (.int (1 : Int32)), .val (.int (1 : Int32)), .val (.ref b12), .val (.int (1 : Int32))] [(.int (1 : Int32))])
    refine Go.step (fun _ k => XS.iconst X18.here hx rfl (hb hby at_172) k) ?_
    show Go _ _ _ _ _ _ _ T18 (mkF m 173 #[.val (.int p0), .val (.int p1), .val (.int p2), .val (.int p3), .val (.int p4), .val (.int p5), .val (.int (1 : Int32)), .val (.int (1 : Int32)), .val (.ref b12), .val (.int (1 : Int32))] [(.int (1 : Int32)), (.int (1 : Int32))])
    refine Go.step (fun _ k => XS.goto X18.here hx rfl (pc0 := 173) (pc' := 177) rfl (hb hby at_173) (by decide) (by decide) k) ?_
    show Go _ _ _ _ _ _ _ T18 (mkF m 177 #[.val (.int p0), .val (.int p1), .val (.int p2), .val (.int p3), .val (.int p4), .val (.int p5), .val (.int (1 : Int32)), .val (.int (1 : Int32)), .val (.ref b12), .val (.int (1 : Int32))] [(.int (1 : Int32)), (.int (1 : Int32))])
    refine Go.step (fun _ k => XS.icmpNo X18.here hx rfl (hb hby at_177) rfl (teq (by decide : (1 : Int32) = (1 : Int32))).2 k) ?_
    show Go _ _ _ _ _ _ _ T18 (mkF m 180 #[.val (.int p0), .val (.int p1), .val (.int p2), .val (.int p3), .val (.int p4), .val (.int p5), .val (.int (1 : Int32)), .val (.int (1 : Int32)), .val (.ref b12), .val (.int (1 : Int32))] [])
    refine Go.step (fun _ k => XS.iconst X18.here hx rfl (hb hby at_180) k) ?_
    show Go _ _ _ _ _ _ _ T18 (mkF m 181 #[.val (.int p0), .val (.int p1), .val (.int p2), .val (.int p3), .val (.int p4), .val (.int p5), .val (.int (1 : Int32)), .val (.int (1 : Int32)), .val (.ref b12), .val (.int (1 : Int32))] [(.int (1 : Int32))])
    refine Go.step (fun _ k => XS.goto X18.here hx rfl (pc0 := 181) (pc' := 185) rfl (hb hby at_181) (by decide) (by decide) k) ?_
    show Go _ _ _ _ _ _ _ T18 (mkF m 185 #[.val (.int p0), .val (.int p1), .val (.int p2), .val (.int p3), .val (.int p4), .val (.int p5), .val (.int (1 : Int32)), .val (.int (1 : Int32)), .val (.ref b12), .val (.int (1 : Int32))] [(.int (1 : Int32))])
    refine Go.step (fun _ k => XS.istore X18.here hx rfl (hb hby at_185) rfl (l' := #[.val (.int p0), .val (.int p1), .val (.int p2), .val (.int p3), .val (.int p4), .val (.int p5), .val (.int (1 : Int32)), .val (.int (1 : Int32)), .val (.ref b12), .val (.int (1 : Int32))]) rfl k) ?_
    show Go _ _ _ _ _ _ _ T18 (mkF m 187 #[.val (.int p0), .val (.int p1), .val (.int p2), .val (.int p3), .val (.int p4), .val (.int p5), .val (.int (1 : Int32)), .val (.int (1 : Int32)), .val (.ref b12), .val (.int (1 : Int32))] [])
    refine Go.step (fun _ k => XS.iload X18.here hx rfl (hb hby at_187) rfl k) ?_
    show Go _ _ _ _ _ _ _ T18 (mkF m 189 #[.val (.int p0), .val (.int p1), .val (.int p2), .val (.int p3), .val (.int p4), .val (.int p5), .val (.int (1 : Int32)), .val (.int (1 : Int32)), .val (.ref b12), .val (.int (1 : Int32))] [(.int (1 : Int32))])
    refine Go.retZ X18 hx hlk hret (by decide) (hb hby at_189) (by decide) (by decide) ?_
    try rw [hh18]
    exact ⟨rfl, N18⟩
  · show Go _ _ _ _ _ _ _ T0 (mkF m 15 #[.val (.int p0), .val (.int p1), .val (.int p2), .val (.int p3), .val (.int p4), .val (.int p5), .val (.int (2 : Int32)), .val (.int (0 : Int32)), .unset, .unset] [])
    obtain ⟨T19, h19, X19, e19, E19, A19, D19, -, st19⟩ := newO X0 hx hZ hown (hw _ (List.mem_of_getElem? (i := 0) rfl)) (hw _ (List.mem_of_getElem? (i := 1) rfl)) (hw _ (List.mem_of_getElem? (i := 2) rfl)) e0 (g := (mkF m 15 #[.val (.int p0), .val (.int p1), .val (.int p2), .val (.int p3), .val (.int p4), .val (.int p5), .val (.int (2 : Int32)), .val (.int (0 : Int32)), .unset, .unset] [])) rfl (hb hby at_15) (by decide) (by decide)
    obtain ⟨b19, g19⟩ : ∃ z, z = h0.size := ⟨_, rfl⟩
    rw [← g19] at A19 D19 st19
    refine Go.step st19 ?_
    have K19 : Keep h0 h19 [] := (Keep.refl h0 []).ext E19
    have sz_b19 : h0.size ≤ b19 := Nat.le_trans ((Keep.refl h0 []) : Keep h0 h0 []).1 (Nat.le_of_eq g19.symm)
    have ge_b19 : n0 ≤ b19 := Nat.le_trans Z0 sz_b19
    have E_b19 := A19
    have F_times_b19 : Fld Z h19 b19 "com/example/wavegrade/wavegrade/DepartureQueue" "times" "[D" .null := D19 (Or.inl (hw _ (List.mem_of_getElem? (i := 11) rfl))) (ty := (.array .double)) (by decide)
    have F_lightpaths_b19 : Fld Z h19 b19 "com/example/wavegrade/wavegrade/DepartureQueue" "lightpaths" "[I" .null := D19 (Or.inl (hw _ (List.mem_of_getElem? (i := 14) rfl))) (ty := (.array .int)) (by decide)
    have F_size_b19 : Fld Z h19 b19 "com/example/wavegrade/wavegrade/DepartureQueue" "size" "I" (.int (0 : Int32)) := D19 (Or.inl (hw _ (List.mem_of_getElem? (i := 21) rfl))) (ty := .int) (by decide)
    show Go _ _ _ _ _ _ _ T19 (mkF m 18 #[.val (.int p0), .val (.int p1), .val (.int p2), .val (.int p3), .val (.int p4), .val (.int p5), .val (.int (2 : Int32)), .val (.int (0 : Int32)), .unset, .unset] [(.ref b19)])
    refine Go.step (fun _ k => XS.dup X19.here hx rfl (hb hby at_18) rfl rfl k) ?_
    show Go _ _ _ _ _ _ _ T19 (mkF m 19 #[.val (.int p0), .val (.int p1), .val (.int p2), .val (.int p3), .val (.int p4), .val (.int p5), .val (.int (2 : Int32)), .val (.int (0 : Int32)), .unset, .unset] [(.ref b19), (.ref b19)])
    refine Go.callI X19 hx hZ (by rw [hml]; rfl) (y := (⟨"com/example/wavegrade/wavegrade/DepartureQueue", "<init>", "()V"⟩ : MethodName)) (a := b19) (argsL := []) (rest := [(.ref b19)]) rfl hown (hw _ (List.mem_of_getElem? (i := 3) rfl)) (hw _ (List.mem_of_getElem? (i := 4) rfl)) (hw _ (List.mem_of_getElem? (i := 2) rfl)) (hw _ (List.mem_of_getElem? (i := 5) rfl)) (by decide) (rm1 l Z a0 hw b19 h19 n0 (Nat.le_trans Z0 (K19 : Keep h0 h19 []).1) E_b19 F_size_b19 F_times_b19 F_lightpaths_b19 ge_b19) e19 (hb hby at_19) (lenOf pd_0 rfl) rfl rfl (W := 1) (Nat.le_of_eq rfl) (by decide) (by decide) (by decide) (by decide) ?_
    intro v20 T20 L20 X20 Q20
    obtain ⟨rfl, N20q, Kc20, Ec20, Fs20, u20, v20, Ft20, Fl20, Vu20, Vv20, nqu20, nqv20, nuv20, su20, sv20⟩ := Q20
    have N20 := Fr.app N0 N20q
    have E_b19_20 := E_b19.keep Kc20
    have KK20 : Keep h0 T20.heap [] := (K19 : Keep h0 h19 []).trans Kc20 (allS (Or.inr sz_b19) all0)
    have sz_u20 : h0.size ≤ u20 := Nat.le_trans (K19 : Keep h0 h19 []).1 su20
    have ge_u20 : n0 ≤ u20 := Nat.le_trans Z0 sz_u20
    have sz_v20 : h0.size ≤ v20 := Nat.le_trans (K19 : Keep h0 h19 []).1 sv20
    have ge_v20 : n0 ≤ v20 := Nat.le_trans Z0 sz_v20
    have hg20 : ∀ i, i < 0 → (fun _ => (0 : UInt64)) i = (tT p2 p3 p4) ((fun x => x) i) := fun i hi' => absurd hi' (by omega)
    have hl20 : ∀ i, i < 0 → (fun _ => (0 : Int32)) i = (tL p5) ((fun x => x) i) := fun i hi' => absurd hi' (by omega)
    have hi20 : HI (tK p2 p3 p4) (fun x => x) 0 := trivial
    show Go _ _ _ _ _ _ _ T20 (mkF m 22 #[.val (.int p0), .val (.int p1), .val (.int p2), .val (.int p3), .val (.int p4), .val (.int p5), .val (.int (2 : Int32)), .val (.int (0 : Int32)), .unset, .unset] [(.ref b19)])
    refine Go.step (fun _ k => XS.astore X20.here hx rfl (hb hby at_22) rfl rfl (l' := #[.val (.int p0), .val (.int p1), .val (.int p2), .val (.int p3), .val (.int p4), .val (.int p5), .val (.int (2 : Int32)), .val (.int (0 : Int32)), .val (.ref b19), .unset]) rfl k) ?_
    show Go _ _ _ _ _ _ _ T20 (mkF m 24 #[.val (.int p0), .val (.int p1), .val (.int p2), .val (.int p3), .val (.int p4), .val (.int p5), .val (.int (2 : Int32)), .val (.int (0 : Int32)), .val (.ref b19), .unset] [])
    refine Go.step (fun _ k => XS.aload X20.here hx rfl (hb hby at_24) rfl rfl k) ?_
    show Go _ _ _ _ _ _ _ T20 (mkF m 26 #[.val (.int p0), .val (.int p1), .val (.int p2), .val (.int p3), .val (.int p4), .val (.int p5), .val (.int (2 : Int32)), .val (.int (0 : Int32)), .val (.ref b19), .unset] [(.ref b19)])
    refine Go.callV X20 hx hZ (by rw [hml]; rfl) (y := (⟨"com/example/wavegrade/wavegrade/DepartureQueue", "isEmpty", "()Z"⟩ : MethodName)) (z := (⟨"com/example/wavegrade/wavegrade/DepartureQueue", "isEmpty", "()Z"⟩ : MethodName)) (a := b19) (argsL := []) (rest := []) hown (hw _ (List.mem_of_getElem? (i := 15) rfl)) (hw _ (List.mem_of_getElem? (i := 16) rfl)) (notFace_of_selects (args := #[]) (mvT hZ (hw _ (List.mem_of_getElem? (i := 18) rfl)))) (hw _ (List.mem_of_getElem? (i := 18) rfl)) (hw _ (List.mem_of_getElem? (i := 17) rfl)) (hw _ (List.mem_of_getElem? (i := 2) rfl)) (hw _ (List.mem_of_getElem? (i := 19) rfl)) (by decide) (rm_empty0 l Z a0 hw b19 T20.heap n0 (Nat.le_trans Z0 (KK20 : Keep h0 T20.heap []).1) Fs20) rfl Ec20 (hb hby at_26) (lenOf pd_1 rfl) rfl rfl (W := 0) (Nat.le_of_eq rfl) (by decide) (by decide) (by decide) (by decide) ?_
    intro v21 T21 L21 X21 Q21
    obtain ⟨rfl, N21q, hh21⟩ := Q21
    have N21 := Fr.app N20 N21q
    show Go _ _ _ _ _ _ _ T21 (mkF m 29 #[.val (.int p0), .val (.int p1), .val (.int p2), .val (.int p3), .val (.int p4), .val (.int p5), .val (.int (2 : Int32)), .val (.int (0 : Int32)), .val (.ref b19), .unset] [(.int (1 : Int32))])
    refine Go.step (fun _ k => XS.istore X21.here hx rfl (hb hby at_29) rfl (l' := #[.val (.int p0), .val (.int p1), .val (.int p2), .val (.int p3), .val (.int p4), .val (.int p5), .val (.int (2 : Int32)), .val (.int (0 : Int32)), .val (.ref b19), .val (.int (1 : Int32))]) rfl k) ?_
    show Go _ _ _ _ _ _ _ T21 (mkF m 31 #[.val (.int p0), .val (.int p1), .val (.int p2), .val (.int p3), .val (.int p4), .val (.int p5), .val (.int (2 : Int32)), .val (.int (0 : Int32)), .val (.ref b19), .val (.int (1 : Int32))] [])
    refine Go.step (fun _ k => XS.iload X21.here hx rfl (hb hby at_31) rfl k) ?_
    show Go _ _ _ _ _ _ _ T21 (mkF m 33 #[.val (.int p0), .val (.int p1), .val (.int p2), .val (.int p3), .val (.int p4), .val (.int p5), .val (.int (2 : Int32)), .val (.int (0 : Int32)), .val (.ref b19), .val (.int (1 : Int32))] [(.int (2 : Int32))])
    refine Go.step (fun _ k => XS.ifNo X21.here hx rfl (hb hby at_33) rfl ((if0 _ _).trans (tlt (by decide : (0 : Int32) < (2 : Int32))).2.2.2) k) ?_
    show Go _ _ _ _ _ _ _ T21 (mkF m 36 #[.val (.int p0), .val (.int p1), .val (.int p2), .val (.int p3), .val (.int p4), .val (.int p5), .val (.int (2 : Int32)), .val (.int (0 : Int32)), .val (.ref b19), .val (.int (1 : Int32))] [])
    refine Go.step (fun _ k => XS.aload X21.here hx rfl (hb hby at_36) rfl rfl k) ?_
    show Go _ _ _ _ _ _ _ T21 (mkF m 38 #[.val (.int p0), .val (.int p1), .val (.int p2), .val (.int p3), .val (.int p4), .val (.int p5), .val (.int (2 : Int32)), .val (.int (0 : Int32)), .val (.ref b19), .val (.int (1 : Int32))] [(.ref b19)])
    refine Go.step (fun _ k => XS.iloadN X21.here hx rfl (hb hby at_38) rfl k) ?_
    show Go _ _ _ _ _ _ _ T21 (mkF m 39 #[.val (.int p0), .val (.int p1), .val (.int p2), .val (.int p3), .val (.int p4), .val (.int p5), .val (.int (2 : Int32)), .val (.int (0 : Int32)), .val (.ref b19), .val (.int (1 : Int32))] [(.int p2), (.ref b19)])
    refine Go.step (fun _ k => XS.bipush X21.here hx rfl (hb hby at_39) k) ?_
    show Go _ _ _ _ _ _ _ T21 (mkF m 41 #[.val (.int p0), .val (.int p1), .val (.int p2), .val (.int p3), .val (.int p4), .val (.int p5), .val (.int (2 : Int32)), .val (.int (0 : Int32)), .val (.ref b19), .val (.int (1 : Int32))] [(.int (16 : Int32)), (.int p2), (.ref b19)])
    refine Go.step (fun _ k => iremM X21 hx rfl (hb hby at_41) rfl (by decide) k) ?_
    show Go _ _ _ _ _ _ _ T21 (mkF m 42 #[.val (.int p0), .val (.int p1), .val (.int p2), .val (.int p3), .val (.int p4), .val (.int p5), .val (.int (2 : Int32)), .val (.int (0 : Int32)), .val (.ref b19), .val (.int (1 : Int32))] [(.int (p2 % (16 : Int32))), (.ref b19)])
    refine Go.step (fun _ k => XS.i2dS X21.here hx rfl (hb hby at_42) rfl rfl k) ?_
    show Go _ _ _ _ _ _ _ T21 (mkF m 43 #[.val (.int p0), .val (.int p1), .val (.int p2), .val (.int p3), .val (.int p4), .val (.int p5), .val (.int (2 : Int32)), .val (.int (0 : Int32)), .val (.ref b19), .val (.int (1 : Int32))] [(.double (FP.i2d (p2 % (16 : Int32)))), (.ref b19)])
    refine Go.step (fun _ k => XS.iload X21.here hx rfl (hb hby at_43) rfl k) ?_
    show Go _ _ _ _ _ _ _ T21 (mkF m 45 #[.val (.int p0), .val (.int p1), .val (.int p2), .val (.int p3), .val (.int p4), .val (.int p5), .val (.int (2 : Int32)), .val (.int (0 : Int32)), .val (.ref b19), .val (.int (1 : Int32))] [(.int p5), (.double (FP.i2d (p2 % (16 : Int32)))), (.ref b19)])
    refine Go.callV X21 hx hZ (by rw [hml]; rfl) (y := (⟨"com/example/wavegrade/wavegrade/DepartureQueue", "add", "(DI)V"⟩ : MethodName)) (z := (⟨"com/example/wavegrade/wavegrade/DepartureQueue", "add", "(DI)V"⟩ : MethodName)) (a := b19) (argsL := [(.double (FP.i2d (p2 % (16 : Int32)))), (.int p5)]) (rest := []) hown (hw _ (List.mem_of_getElem? (i := 22) rfl)) (hw _ (List.mem_of_getElem? (i := 23) rfl)) (notFace_of_selects (args := #[]) (mvT hZ (hw _ (List.mem_of_getElem? (i := 25) rfl)))) (hw _ (List.mem_of_getElem? (i := 25) rfl)) (hw _ (List.mem_of_getElem? (i := 24) rfl)) (hw _ (List.mem_of_getElem? (i := 2) rfl)) (hw _ (List.mem_of_getElem? (i := 26) rfl)) (by decide) (rm_add0 l Z a0 hw b19 u20 v20 (fun _ => (0 : UInt64)) (fun _ => (0 : Int32)) (tT p2 p3 p4) (tL p5) (tK p2 p3 p4) (fun x => x) 0 T20.heap n0 (Nat.le_trans Z0 (KK20 : Keep h0 T20.heap []).1) Ec20 Fs20 Ft20 Fl20 Vu20 Vv20 nqu20 nqv20 nuv20 ge_b19 ge_u20 ge_v20 (tH p2 p3 p4) hg20 hl20 hi20) hh21 Ec20 (hb hby at_45) (lenOf pd_2 rfl) rfl rfl (W := 0) (Nat.le_of_eq rfl) (by decide) (by decide) (by decide) (by decide) ?_
    intro v22 T22 L22 X22 Q22
    obtain ⟨rfl, N22q, Kc22, Ec22, Fs22, Ft22, Fl22, g22x, l22x, a22x, Vu22, Vv22, hg22, hl22, hi22, hs22, hP22⟩ := Q22
    have N22 := Fr.app N21 N22q
    have Ec20_22 := Ec20.keep Kc22
    have KK22 : Keep h0 T22.heap [] := (KK20 : Keep h0 T20.heap []).trans Kc22 (allS (Or.inr sz_b19) (allS (Or.inr sz_u20) (allS (Or.inr sz_v20) all0)))
    show Go _ _ _ _ _ _ _ T22 (mkF m 48 #[.val (.int p0), .val (.int p1), .val (.int p2), .val (.int p3), .val (.int p4), .val (.int p5), .val (.int (2 : Int32)), .val (.int (0 : Int32)), .val (.ref b19), .val (.int (1 : Int32))] [])
    refine Go.step (fun _ k => XS.iload X22.here hx rfl (hb hby at_48) rfl k) ?_
    show Go _ _ _ _ _ _ _ T22 (mkF m 50 #[.val (.int p0), .val (.int p1), .val (.int p2), .val (.int p3), .val (.int p4), .val (.int p5), .val (.int (2 : Int32)), .val (.int (0 : Int32)), .val (.ref b19), .val (.int (1 : Int32))] [(.int (2 : Int32))])
    refine Go.step (fun _ k => XS.iconst X22.here hx rfl (hb hby at_50) k) ?_
    show Go _ _ _ _ _ _ _ T22 (mkF m 51 #[.val (.int p0), .val (.int p1), .val (.int p2), .val (.int p3), .val (.int p4), .val (.int p5), .val (.int (2 : Int32)), .val (.int (0 : Int32)), .val (.ref b19), .val (.int (1 : Int32))] [(.int (1 : Int32)), (.int (2 : Int32))])
    refine Go.step (fun _ k => XS.icmpNo X22.here hx rfl (hb hby at_51) rfl (tlt (by decide : (1 : Int32) < (2 : Int32))).2.2.2 k) ?_
    show Go _ _ _ _ _ _ _ T22 (mkF m 54 #[.val (.int p0), .val (.int p1), .val (.int p2), .val (.int p3), .val (.int p4), .val (.int p5), .val (.int (2 : Int32)), .val (.int (0 : Int32)), .val (.ref b19), .val (.int (1 : Int32))] [])
    refine Go.step (fun _ k => XS.aload X22.here hx rfl (hb hby at_54) rfl rfl k) ?_
    show Go _ _ _ _ _ _ _ T22 (mkF m 56 #[.val (.int p0), .val (.int p1), .val (.int p2), .val (.int p3), .val (.int p4), .val (.int p5), .val (.int (2 : Int32)), .val (.int (0 : Int32)), .val (.ref b19), .val (.int (1 : Int32))] [(.ref b19)])
    refine Go.step (fun _ k => XS.iloadN X22.here hx rfl (hb hby at_56) rfl k) ?_
    show Go _ _ _ _ _ _ _ T22 (mkF m 57 #[.val (.int p0), .val (.int p1), .val (.int p2), .val (.int p3), .val (.int p4), .val (.int p5), .val (.int (2 : Int32)), .val (.int (0 : Int32)), .val (.ref b19), .val (.int (1 : Int32))] [(.int p3), (.ref b19)])
    refine Go.step (fun _ k => XS.bipush X22.here hx rfl (hb hby at_57) k) ?_
    show Go _ _ _ _ _ _ _ T22 (mkF m 59 #[.val (.int p0), .val (.int p1), .val (.int p2), .val (.int p3), .val (.int p4), .val (.int p5), .val (.int (2 : Int32)), .val (.int (0 : Int32)), .val (.ref b19), .val (.int (1 : Int32))] [(.int (16 : Int32)), (.int p3), (.ref b19)])
    refine Go.step (fun _ k => iremM X22 hx rfl (hb hby at_59) rfl (by decide) k) ?_
    show Go _ _ _ _ _ _ _ T22 (mkF m 60 #[.val (.int p0), .val (.int p1), .val (.int p2), .val (.int p3), .val (.int p4), .val (.int p5), .val (.int (2 : Int32)), .val (.int (0 : Int32)), .val (.ref b19), .val (.int (1 : Int32))] [(.int (p3 % (16 : Int32))), (.ref b19)])
    refine Go.step (fun _ k => XS.i2dS X22.here hx rfl (hb hby at_60) rfl rfl k) ?_
    show Go _ _ _ _ _ _ _ T22 (mkF m 61 #[.val (.int p0), .val (.int p1), .val (.int p2), .val (.int p3), .val (.int p4), .val (.int p5), .val (.int (2 : Int32)), .val (.int (0 : Int32)), .val (.ref b19), .val (.int (1 : Int32))] [(.double (FP.i2d (p3 % (16 : Int32)))), (.ref b19)])
    refine Go.step (fun _ k => XS.iload X22.here hx rfl (hb hby at_61) rfl k) ?_
    show Go _ _ _ _ _ _ _ T22 (mkF m 63 #[.val (.int p0), .val (.int p1), .val (.int p2), .val (.int p3), .val (.int p4), .val (.int p5), .val (.int (2 : Int32)), .val (.int (0 : Int32)), .val (.ref b19), .val (.int (1 : Int32))] [(.int p5), (.double (FP.i2d (p3 % (16 : Int32)))), (.ref b19)])
    refine Go.step (fun _ k => XS.iconst X22.here hx rfl (hb hby at_63) k) ?_
    show Go _ _ _ _ _ _ _ T22 (mkF m 64 #[.val (.int p0), .val (.int p1), .val (.int p2), .val (.int p3), .val (.int p4), .val (.int p5), .val (.int (2 : Int32)), .val (.int (0 : Int32)), .val (.ref b19), .val (.int (1 : Int32))] [(.int (1 : Int32)), (.int p5), (.double (FP.i2d (p3 % (16 : Int32)))), (.ref b19)])
    refine Go.step (fun _ k => XS.iadd X22.here hx rfl (hb hby at_64) rfl k) ?_
    show Go _ _ _ _ _ _ _ T22 (mkF m 65 #[.val (.int p0), .val (.int p1), .val (.int p2), .val (.int p3), .val (.int p4), .val (.int p5), .val (.int (2 : Int32)), .val (.int (0 : Int32)), .val (.ref b19), .val (.int (1 : Int32))] [(.int (p5 + (1 : Int32))), (.double (FP.i2d (p3 % (16 : Int32)))), (.ref b19)])
    refine Go.callV X22 hx hZ (by rw [hml]; rfl) (y := (⟨"com/example/wavegrade/wavegrade/DepartureQueue", "add", "(DI)V"⟩ : MethodName)) (z := (⟨"com/example/wavegrade/wavegrade/DepartureQueue", "add", "(DI)V"⟩ : MethodName)) (a := b19) (argsL := [(.double (FP.i2d (p3 % (16 : Int32)))), (.int (p5 + (1 : Int32)))]) (rest := []) hown (hw _ (List.mem_of_getElem? (i := 22) rfl)) (hw _ (List.mem_of_getElem? (i := 23) rfl)) (notFace_of_selects (args := #[]) (mvT hZ (hw _ (List.mem_of_getElem? (i := 25) rfl)))) (hw _ (List.mem_of_getElem? (i := 25) rfl)) (hw _ (List.mem_of_getElem? (i := 24) rfl)) (hw _ (List.mem_of_getElem? (i := 2) rfl)) (hw _ (List.mem_of_getElem? (i := 26) rfl)) (by decide) (rm_add1 l Z a0 hw b19 u20 v20 g22x l22x (tT p2 p3 p4) (tL p5) (tK p2 p3 p4) a22x 1 T22.heap n0 (Nat.le_trans Z0 (KK22 : Keep h0 T22.heap []).1) Ec22 Fs22 Ft22 Fl22 Vu22 Vv22 nqu20 nqv20 nuv20 ge_b19 ge_u20 ge_v20 (tH p2 p3 p4) hg22 hl22 hi22) rfl Ec22 (hb hby at_65) (lenOf pd_2 rfl) rfl rfl (W := 0) (Nat.le_of_eq rfl) (by decide) (by decide) (by decide) (by decide) ?_
    intro v23 T23 L23 X23 Q23
    obtain ⟨rfl, N23q, Kc23, Ec23, Fs23, Ft23, Fl23, g23x, l23x, a23x, Vu23, Vv23, hg23, hl23, hi23, hs23, hP23⟩ := Q23
    have N23 := Fr.app N22 N23q
    have Ec22_23 := Ec22.keep Kc23
    have KK23 : Keep h0 T23.heap [] := (KK22 : Keep h0 T22.heap []).trans Kc23 (allS (Or.inr sz_b19) (allS (Or.inr sz_u20) (allS (Or.inr sz_v20) all0)))
    show Go _ _ _ _ _ _ _ T23 (mkF m 68 #[.val (.int p0), .val (.int p1), .val (.int p2), .val (.int p3), .val (.int p4), .val (.int p5), .val (.int (2 : Int32)), .val (.int (0 : Int32)), .val (.ref b19), .val (.int (1 : Int32))] [])
    refine Go.step (fun _ k => XS.iload X23.here hx rfl (hb hby at_68) rfl k) ?_
    show Go _ _ _ _ _ _ _ T23 (mkF m 70 #[.val (.int p0), .val (.int p1), .val (.int p2), .val (.int p3), .val (.int p4), .val (.int p5), .val (.int (2 : Int32)), .val (.int (0 : Int32)), .val (.ref b19), .val (.int (1 : Int32))] [(.int (2 : Int32))])
    refine Go.step (fun _ k => XS.iconst X23.here hx rfl (hb hby at_70) k) ?_
    show Go _ _ _ _ _ _ _ T23 (mkF m 71 #[.val (.int p0), .val (.int p1), .val (.int p2), .val (.int p3), .val (.int p4), .val (.int p5), .val (.int (2 : Int32)), .val (.int (0 : Int32)), .val (.ref b19), .val (.int (1 : Int32))] [(.int (2 : Int32)), (.int (2 : Int32))])
    refine Go.step (fun _ k => XS.icmpYes X23.here hx rfl (pc0 := 71) (pc' := 89) rfl (hb hby at_71) rfl (flt (by decide : ¬ ((2 : Int32) < (2 : Int32)))).2.2.2 (by decide) (by decide) k) ?_
    show Go _ _ _ _ _ _ _ T23 (mkF m 89 #[.val (.int p0), .val (.int p1), .val (.int p2), .val (.int p3), .val (.int p4), .val (.int p5), .val (.int (2 : Int32)), .val (.int (0 : Int32)), .val (.ref b19), .val (.int (1 : Int32))] [])
    refine Go.step (fun _ k => XS.iload X23.here hx rfl (hb hby at_89) rfl k) ?_
    show Go _ _ _ _ _ _ _ T23 (mkF m 91 #[.val (.int p0), .val (.int p1), .val (.int p2), .val (.int p3), .val (.int p4), .val (.int p5), .val (.int (2 : Int32)), .val (.int (0 : Int32)), .val (.ref b19), .val (.int (1 : Int32))] [(.int (1 : Int32))])
    refine Go.step (fun _ k => XS.ifNo X23.here hx rfl (hb hby at_91) rfl ((if0 _ _).trans (feq (by decide : ¬ ((1 : Int32) = (0 : Int32)))).1) k) ?_
    show Go _ _ _ _ _ _ _ T23 (mkF m 94 #[.val (.int p0), .val (.int p1), .val (.int p2), .val (.int p3), .val (.int p4), .val (.int p5), .val (.int (2 : Int32)), .val (.int (0 : Int32)), .val (.ref b19), .val (.int (1 : Int32))] [])
    refine Go.step (fun _ k => XS.aload X23.here hx rfl (hb hby at_94) rfl rfl k) ?_
    show Go _ _ _ _ _ _ _ T23 (mkF m 96 #[.val (.int p0), .val (.int p1), .val (.int p2), .val (.int p3), .val (.int p4), .val (.int p5), .val (.int (2 : Int32)), .val (.int (0 : Int32)), .val (.ref b19), .val (.int (1 : Int32))] [(.ref b19)])
    refine Go.callV X23 hx hZ (by rw [hml]; rfl) (y := (⟨"com/example/wavegrade/wavegrade/DepartureQueue", "isEmpty", "()Z"⟩ : MethodName)) (z := (⟨"com/example/wavegrade/wavegrade/DepartureQueue", "isEmpty", "()Z"⟩ : MethodName)) (a := b19) (argsL := []) (rest := []) hown (hw _ (List.mem_of_getElem? (i := 15) rfl)) (hw _ (List.mem_of_getElem? (i := 16) rfl)) (notFace_of_selects (args := #[]) (mvT hZ (hw _ (List.mem_of_getElem? (i := 18) rfl)))) (hw _ (List.mem_of_getElem? (i := 18) rfl)) (hw _ (List.mem_of_getElem? (i := 17) rfl)) (hw _ (List.mem_of_getElem? (i := 2) rfl)) (hw _ (List.mem_of_getElem? (i := 19) rfl)) (by decide) (rm_empty2 l Z a0 hw b19 T23.heap n0 (Nat.le_trans Z0 (KK23 : Keep h0 T23.heap []).1) Fs23) rfl Ec23 (hb hby at_96) (lenOf pd_1 rfl) rfl rfl (W := 0) (Nat.le_of_eq rfl) (by decide) (by decide) (by decide) (by decide) ?_
    intro v24 T24 L24 X24 Q24
    obtain ⟨rfl, N24q, hh24⟩ := Q24
    have N24 := Fr.app N23 N24q
    show Go _ _ _ _ _ _ _ T24 (mkF m 99 #[.val (.int p0), .val (.int p1), .val (.int p2), .val (.int p3), .val (.int p4), .val (.int p5), .val (.int (2 : Int32)), .val (.int (0 : Int32)), .val (.ref b19), .val (.int (1 : Int32))] [(.int (0 : Int32))])
    refine Go.step (fun _ k => XS.iload X24.here hx rfl (hb hby at_99) rfl k) ?_
    show Go _ _ _ _ _ _ _ T24 (mkF m 101 #[.val (.int p0), .val (.int p1), .val (.int p2), .val (.int p3), .val (.int p4), .val (.int p5), .val (.int (2 : Int32)), .val (.int (0 : Int32)), .val (.ref b19), .val (.int (1 : Int32))] [(.int (2 : Int32)), (.int (0 : Int32))])
    refine Go.step (fun _ k => XS.ifYes X24.here hx rfl (pc0 := 101) (pc' := 108) rfl (hb hby at_101) rfl ((if0 _ _).trans (feq (by decide : ¬ ((2 : Int32) = (0 : Int32)))).2) (by decide) (by decide) k) ?_
    show Go _ _ _ _ _ _ _ T24 (mkF m 108 #[.val (.int p0), .val (.int p1), .val (.int p2), .val (.int p3), .val (.int p4), .val (.int p5), .val (.int (2 : Int32)), .val (.int (0 : Int32)), .val (.ref b19), .val (.int (1 : Int32))] [(.int (0 : Int32))])
    refine Go.step (fun _ k => XS.iconst X24.here hx rfl (hb hby at_108) k) ?_
    show Go _ _ _ _ _ _ _ T24 (mkF m 109 #[.val (.int p0), .val (.int p1), .val (.int p2), .val (.int p3), .val (.int p4), .val (.int p5), .val (.int (2 : Int32)), .val (.int (0 : Int32)), .val (.ref b19), .val (.int (1 : Int32))] [(.int (0 : Int32)), (.int (0 : Int32))])
    refine Go.step (fun _ k => XS.icmpNo X24.here hx rfl (hb hby at_109) rfl (teq (by decide : (0 : Int32) = (0 : Int32))).2 k) ?_
    show Go _ _ _ _ _ _ _ T24 (mkF m 112 #[.val (.int p0), .val (.int p1), .val (.int p2), .val (.int p3), .val (.int p4), .val (.int p5), .val (.int (2 : Int32)), .val (.int (0 : Int32)), .val (.ref b19), .val (.int (1 : Int32))] [])
    refine Go.step (fun _ k => XS.iconst X24.here hx rfl (hb hby at_112) k) ?_
    show Go _ _ _ _ _ _ _ T24 (mkF m 113 #[.val (.int p0), .val (.int p1), .val (.int p2), .val (.int p3), .val (.int p4), .val (.int p5), .val (.int (2 : Int32)), .val (.int (0 : Int32)), .val (.ref b19), .val (.int (1 : Int32))] [(.int (1 : Int32))])
    refine Go.step (fun _ k => XS.goto X24.here hx rfl (pc0 := 113) (pc' := 117) rfl (hb hby at_113) (by decide) (by decide) k) ?_
    show Go _ _ _ _ _ _ _ T24 (mkF m 117 #[.val (.int p0), .val (.int p1), .val (.int p2), .val (.int p3), .val (.int p4), .val (.int p5), .val (.int (2 : Int32)), .val (.int (0 : Int32)), .val (.ref b19), .val (.int (1 : Int32))] [(.int (1 : Int32))])
    refine Go.step (fun _ k => XS.istore X24.here hx rfl (hb hby at_117) rfl (l' := #[.val (.int p0), .val (.int p1), .val (.int p2), .val (.int p3), .val (.int p4), .val (.int p5), .val (.int (2 : Int32)), .val (.int (0 : Int32)), .val (.ref b19), .val (.int (1 : Int32))]) rfl k) ?_
    show Go _ _ _ _ _ _ _ T24 (mkF m 119 #[.val (.int p0), .val (.int p1), .val (.int p2), .val (.int p3), .val (.int p4), .val (.int p5), .val (.int (2 : Int32)), .val (.int (0 : Int32)), .val (.ref b19), .val (.int (1 : Int32))] [])
    refine Go.step (fun _ k => XS.iload X24.here hx rfl (hb hby at_119) rfl k) ?_
    show Go _ _ _ _ _ _ _ T24 (mkF m 121 #[.val (.int p0), .val (.int p1), .val (.int p2), .val (.int p3), .val (.int p4), .val (.int p5), .val (.int (2 : Int32)), .val (.int (0 : Int32)), .val (.ref b19), .val (.int (1 : Int32))] [(.int (0 : Int32))])
    refine Go.step (fun _ k => XS.ifYes X24.here hx rfl (pc0 := 121) (pc' := 130) rfl (hb hby at_121) rfl ((if0 _ _).trans (flt (by decide : ¬ ((0 : Int32) < (0 : Int32)))).2.2.2) (by decide) (by decide) k) ?_
    show Go _ _ _ _ _ _ _ T24 (mkF m 130 #[.val (.int p0), .val (.int p1), .val (.int p2), .val (.int p3), .val (.int p4), .val (.int p5), .val (.int (2 : Int32)), .val (.int (0 : Int32)), .val (.ref b19), .val (.int (1 : Int32))] [])
    refine Go.step (fun _ k => XS.iload X24.here hx rfl (hb hby at_130) rfl k) ?_
    show Go _ _ _ _ _ _ _ T24 (mkF m 132 #[.val (.int p0), .val (.int p1), .val (.int p2), .val (.int p3), .val (.int p4), .val (.int p5), .val (.int (2 : Int32)), .val (.int (0 : Int32)), .val (.ref b19), .val (.int (1 : Int32))] [(.int (0 : Int32))])
    refine Go.step (fun _ k => XS.iconst X24.here hx rfl (hb hby at_132) k) ?_
    show Go _ _ _ _ _ _ _ T24 (mkF m 133 #[.val (.int p0), .val (.int p1), .val (.int p2), .val (.int p3), .val (.int p4), .val (.int p5), .val (.int (2 : Int32)), .val (.int (0 : Int32)), .val (.ref b19), .val (.int (1 : Int32))] [(.int (1 : Int32)), (.int (0 : Int32))])
    refine Go.step (fun _ k => XS.icmpYes X24.here hx rfl (pc0 := 133) (pc' := 142) rfl (hb hby at_133) rfl (flt (by decide : ¬ ((1 : Int32) < (0 : Int32)))).2.2.2 (by decide) (by decide) k) ?_
    show Go _ _ _ _ _ _ _ T24 (mkF m 142 #[.val (.int p0), .val (.int p1), .val (.int p2), .val (.int p3), .val (.int p4), .val (.int p5), .val (.int (2 : Int32)), .val (.int (0 : Int32)), .val (.ref b19), .val (.int (1 : Int32))] [])
    refine Go.step (fun _ k => XS.iload X24.here hx rfl (hb hby at_142) rfl k) ?_
    show Go _ _ _ _ _ _ _ T24 (mkF m 144 #[.val (.int p0), .val (.int p1), .val (.int p2), .val (.int p3), .val (.int p4), .val (.int p5), .val (.int (2 : Int32)), .val (.int (0 : Int32)), .val (.ref b19), .val (.int (1 : Int32))] [(.int (0 : Int32))])
    refine Go.step (fun _ k => XS.iconst X24.here hx rfl (hb hby at_144) k) ?_
    show Go _ _ _ _ _ _ _ T24 (mkF m 145 #[.val (.int p0), .val (.int p1), .val (.int p2), .val (.int p3), .val (.int p4), .val (.int p5), .val (.int (2 : Int32)), .val (.int (0 : Int32)), .val (.ref b19), .val (.int (1 : Int32))] [(.int (2 : Int32)), (.int (0 : Int32))])
    refine Go.step (fun _ k => XS.icmpYes X24.here hx rfl (pc0 := 145) (pc' := 154) rfl (hb hby at_145) rfl (flt (by decide : ¬ ((2 : Int32) < (0 : Int32)))).2.2.2 (by decide) (by decide) k) ?_
    show Go _ _ _ _ _ _ _ T24 (mkF m 154 #[.val (.int p0), .val (.int p1), .val (.int p2), .val (.int p3), .val (.int p4), .val (.int p5), .val (.int (2 : Int32)), .val (.int (0 : Int32)), .val (.ref b19), .val (.int (1 : Int32))] [])
    refine Go.step (fun _ k => XS.iload X24.here hx rfl (hb hby at_154) rfl k) ?_
    show Go _ _ _ _ _ _ _ T24 (mkF m 156 #[.val (.int p0), .val (.int p1), .val (.int p2), .val (.int p3), .val (.int p4), .val (.int p5), .val (.int (2 : Int32)), .val (.int (0 : Int32)), .val (.ref b19), .val (.int (1 : Int32))] [(.int (1 : Int32))])
    refine Go.step (fun _ k => XS.ifNo X24.here hx rfl (hb hby at_156) rfl ((if0 _ _).trans (feq (by decide : ¬ ((1 : Int32) = (0 : Int32)))).1) k) ?_
    show Go _ _ _ _ _ _ _ T24 (mkF m 159 #[.val (.int p0), .val (.int p1), .val (.int p2), .val (.int p3), .val (.int p4), .val (.int p5), .val (.int (2 : Int32)), .val (.int (0 : Int32)), .val (.ref b19), .val (.int (1 : Int32))] [])
    refine Go.step (fun _ k => XS.aload X24.here hx rfl (hb hby at_159) rfl rfl k) ?_
    show Go _ _ _ _ _ _ _ T24 (mkF m 161 #[.val (.int p0), .val (.int p1), .val (.int p2), .val (.int p3), .val (.int p4), .val (.int p5), .val (.int (2 : Int32)), .val (.int (0 : Int32)), .val (.ref b19), .val (.int (1 : Int32))] [(.ref b19)])
    refine Go.callV X24 hx hZ (by rw [hml]; rfl) (y := (⟨"com/example/wavegrade/wavegrade/DepartureQueue", "isEmpty", "()Z"⟩ : MethodName)) (z := (⟨"com/example/wavegrade/wavegrade/DepartureQueue", "isEmpty", "()Z"⟩ : MethodName)) (a := b19) (argsL := []) (rest := []) hown (hw _ (List.mem_of_getElem? (i := 15) rfl)) (hw _ (List.mem_of_getElem? (i := 16) rfl)) (notFace_of_selects (args := #[]) (mvT hZ (hw _ (List.mem_of_getElem? (i := 18) rfl)))) (hw _ (List.mem_of_getElem? (i := 18) rfl)) (hw _ (List.mem_of_getElem? (i := 17) rfl)) (hw _ (List.mem_of_getElem? (i := 2) rfl)) (hw _ (List.mem_of_getElem? (i := 19) rfl)) (by decide) (rm_empty2 l Z a0 hw b19 T23.heap n0 (Nat.le_trans Z0 (KK23 : Keep h0 T23.heap []).1) Fs23) hh24 Ec23 (hb hby at_161) (lenOf pd_1 rfl) rfl rfl (W := 0) (Nat.le_of_eq rfl) (by decide) (by decide) (by decide) (by decide) ?_
    intro v25 T25 L25 X25 Q25
    obtain ⟨rfl, N25q, hh25⟩ := Q25
    have N25 := Fr.app N24 N25q
    show Go _ _ _ _ _ _ _ T25 (mkF m 164 #[.val (.int p0), .val (.int p1), .val (.int p2), .val (.int p3), .val (.int p4), .val (.int p5), .val (.int (2 : Int32)), .val (.int (0 : Int32)), .val (.ref b19), .val (.int (1 : Int32))] [(.int (0 : Int32))])
    refine Go.step (fun _ k => XS.iload X25.here hx rfl (hb hby at_164) rfl k) ?_
    show Go _ _ _ _ _ _ _ T25 (mkF m 166 #[.val (.int p0), .val (.int p1), .val (.int p2), .val (.int p3), .val (.int p4), .val (.int p5), .val (.int (2 : Int32)), .val (.int (0 : Int32)), .val (.ref b19), .val (.int (1 : Int32))] [(.int (2 : Int32)), (.int (0 : Int32))])
    refine Go.step (fun _ k => XS.iload X25.here hx rfl (hb hby at_166) rfl k) ?_
    show Go _ _ _ _ _ _ _ T25 (mkF m 168 #[.val (.int p0), .val (.int p1), .val (.int p2), .val (.int p3), .val (.int p4), .val (.int p5), .val (.int (2 : Int32)), .val (.int (0 : Int32)), .val (.ref b19), .val (.int (1 : Int32))] [(.int (0 : Int32)), (.int (2 : Int32)), (.int (0 : Int32))])
    refine Go.step (fun _ k => XS.isub X25.here hx rfl (hb hby at_168) rfl k) ?_
    show Go _ _ _ _ _ _ _ T25 (mkF m 169 #[.val (.int p0), .val (.int p1), .val (.int p2), .val (.int p3), .val (.int p4), .val (.int p5), .val (.int (2 : Int32)), .val (.int (0 : Int32)), .val (.ref b19), .val (.int (1 : Int32))] [(.int (2 : Int32)), (.int (0 : Int32))])
    refine Go.step (fun _ k => XS.ifYes X25.here hx rfl (pc0 := 169) (pc' := 176) rfl (hb hby at_169) rfl ((if0 _ _).trans (feq (by decide : ¬ ((2 : Int32) = (0 : Int32)))).2) (by decide) (by decide) k) ?_
    show Go _ _ _ _ _ _ _ T25 (mkF m 176 #[.val (.int p0), .val (.int p1), .val (.int p2), .val (.int p3), .val (.int p4), .val (.int p5), .val (.int (2 : Int32)), .val (.int (0 : Int32)), .val (.ref b19), .val (.int (1 : Int32))] [(.int (0 : Int32))])
    refine Go.step (fun _ k => XS.iconst X25.here hx rfl (hb hby at_176) k) ?_
    show Go _ _ _ _ _ _ _ T25 (mkF m 177 #[.val (.int p0), .val (.int p1), .val (.int p2), .val (.int p3), .val (.int p4), .val (.int p5), .val (.int (2 : Int32)), .val (.int (0 : Int32)), .val (.ref b19), .val (.int (1 : Int32))] [(.int (0 : Int32)), (.int (0 : Int32))])
    refine Go.step (fun _ k => XS.icmpNo X25.here hx rfl (hb hby at_177) rfl (teq (by decide : (0 : Int32) = (0 : Int32))).2 k) ?_
    show Go _ _ _ _ _ _ _ T25 (mkF m 180 #[.val (.int p0), .val (.int p1), .val (.int p2), .val (.int p3), .val (.int p4), .val (.int p5), .val (.int (2 : Int32)), .val (.int (0 : Int32)), .val (.ref b19), .val (.int (1 : Int32))] [])
    refine Go.step (fun _ k => XS.iconst X25.here hx rfl (hb hby at_180) k) ?_
    show Go _ _ _ _ _ _ _ T25 (mkF m 181 #[.val (.int p0), .val (.int p1), .val (.int p2), .val (.int p3), .val (.int p4), .val (.int p5), .val (.int (2 : Int32)), .val (.int (0 : Int32)), .val (.ref b19), .val (.int (1 : Int32))] [(.int (1 : Int32))])
    refine Go.step (fun _ k => XS.goto X25.here hx rfl (pc0 := 181) (pc' := 185) rfl (hb hby at_181) (by decide) (by decide) k) ?_
    show Go _ _ _ _ _ _ _ T25 (mkF m 185 #[.val (.int p0), .val (.int p1), .val (.int p2), .val (.int p3), .val (.int p4), .val (.int p5), .val (.int (2 : Int32)), .val (.int (0 : Int32)), .val (.ref b19), .val (.int (1 : Int32))] [(.int (1 : Int32))])
    refine Go.step (fun _ k => XS.istore X25.here hx rfl (hb hby at_185) rfl (l' := #[.val (.int p0), .val (.int p1), .val (.int p2), .val (.int p3), .val (.int p4), .val (.int p5), .val (.int (2 : Int32)), .val (.int (0 : Int32)), .val (.ref b19), .val (.int (1 : Int32))]) rfl k) ?_
    show Go _ _ _ _ _ _ _ T25 (mkF m 187 #[.val (.int p0), .val (.int p1), .val (.int p2), .val (.int p3), .val (.int p4), .val (.int p5), .val (.int (2 : Int32)), .val (.int (0 : Int32)), .val (.ref b19), .val (.int (1 : Int32))] [])
    refine Go.step (fun _ k => XS.iload X25.here hx rfl (hb hby at_187) rfl k) ?_
    show Go _ _ _ _ _ _ _ T25 (mkF m 189 #[.val (.int p0), .val (.int p1), .val (.int p2), .val (.int p3), .val (.int p4), .val (.int p5), .val (.int (2 : Int32)), .val (.int (0 : Int32)), .val (.ref b19), .val (.int (1 : Int32))] [(.int (1 : Int32))])
    refine Go.retZ X25 hx hlk hret (by decide) (hb hby at_189) (by decide) (by decide) ?_
    try rw [hh25]
    exact ⟨rfl, N25⟩
  · show Go _ _ _ _ _ _ _ T0 (mkF m 15 #[.val (.int p0), .val (.int p1), .val (.int p2), .val (.int p3), .val (.int p4), .val (.int p5), .val (.int (2 : Int32)), .val (.int (1 : Int32)), .unset, .unset] [])
    obtain ⟨T26, h26, X26, e26, E26, A26, D26, -, st26⟩ := newO X0 hx hZ hown (hw _ (List.mem_of_getElem? (i := 0) rfl)) (hw _ (List.mem_of_getElem? (i := 1) rfl)) (hw _ (List.mem_of_getElem? (i := 2) rfl)) e0 (g := (mkF m 15 #[.val (.int p0), .val (.int p1), .val (.int p2), .val (.int p3), .val (.int p4), .val (.int p5), .val (.int (2 : Int32)), .val (.int (1 : Int32)), .unset, .unset] [])) rfl (hb hby at_15) (by decide) (by decide)
    obtain ⟨b26, g26⟩ : ∃ z, z = h0.size := ⟨_, rfl⟩
    rw [← g26] at A26 D26 st26
    refine Go.step st26 ?_
    have K26 : Keep h0 h26 [] := (Keep.refl h0 []).ext E26
    have sz_b26 : h0.size ≤ b26 := Nat.le_trans ((Keep.refl h0 []) : Keep h0 h0 []).1 (Nat.le_of_eq g26.symm)
    have ge_b26 : n0 ≤ b26 := Nat.le_trans Z0 sz_b26
    have E_b26 := A26
    have F_times_b26 : Fld Z h26 b26 "com/example/wavegrade/wavegrade/DepartureQueue" "times" "[D" .null := D26 (Or.inl (hw _ (List.mem_of_getElem? (i := 11) rfl))) (ty := (.array .double)) (by decide)
    have F_lightpaths_b26 : Fld Z h26 b26 "com/example/wavegrade/wavegrade/DepartureQueue" "lightpaths" "[I" .null := D26 (Or.inl (hw _ (List.mem_of_getElem? (i := 14) rfl))) (ty := (.array .int)) (by decide)
    have F_size_b26 : Fld Z h26 b26 "com/example/wavegrade/wavegrade/DepartureQueue" "size" "I" (.int (0 : Int32)) := D26 (Or.inl (hw _ (List.mem_of_getElem? (i := 21) rfl))) (ty := .int) (by decide)
    show Go _ _ _ _ _ _ _ T26 (mkF m 18 #[.val (.int p0), .val (.int p1), .val (.int p2), .val (.int p3), .val (.int p4), .val (.int p5), .val (.int (2 : Int32)), .val (.int (1 : Int32)), .unset, .unset] [(.ref b26)])
    refine Go.step (fun _ k => XS.dup X26.here hx rfl (hb hby at_18) rfl rfl k) ?_
    show Go _ _ _ _ _ _ _ T26 (mkF m 19 #[.val (.int p0), .val (.int p1), .val (.int p2), .val (.int p3), .val (.int p4), .val (.int p5), .val (.int (2 : Int32)), .val (.int (1 : Int32)), .unset, .unset] [(.ref b26), (.ref b26)])
    refine Go.callI X26 hx hZ (by rw [hml]; rfl) (y := (⟨"com/example/wavegrade/wavegrade/DepartureQueue", "<init>", "()V"⟩ : MethodName)) (a := b26) (argsL := []) (rest := [(.ref b26)]) rfl hown (hw _ (List.mem_of_getElem? (i := 3) rfl)) (hw _ (List.mem_of_getElem? (i := 4) rfl)) (hw _ (List.mem_of_getElem? (i := 2) rfl)) (hw _ (List.mem_of_getElem? (i := 5) rfl)) (by decide) (rm1 l Z a0 hw b26 h26 n0 (Nat.le_trans Z0 (K26 : Keep h0 h26 []).1) E_b26 F_size_b26 F_times_b26 F_lightpaths_b26 ge_b26) e26 (hb hby at_19) (lenOf pd_0 rfl) rfl rfl (W := 1) (Nat.le_of_eq rfl) (by decide) (by decide) (by decide) (by decide) ?_
    intro v27 T27 L27 X27 Q27
    obtain ⟨rfl, N27q, Kc27, Ec27, Fs27, u27, v27, Ft27, Fl27, Vu27, Vv27, nqu27, nqv27, nuv27, su27, sv27⟩ := Q27
    have N27 := Fr.app N0 N27q
    have E_b26_27 := E_b26.keep Kc27
    have KK27 : Keep h0 T27.heap [] := (K26 : Keep h0 h26 []).trans Kc27 (allS (Or.inr sz_b26) all0)
    have sz_u27 : h0.size ≤ u27 := Nat.le_trans (K26 : Keep h0 h26 []).1 su27
    have ge_u27 : n0 ≤ u27 := Nat.le_trans Z0 sz_u27
    have sz_v27 : h0.size ≤ v27 := Nat.le_trans (K26 : Keep h0 h26 []).1 sv27
    have ge_v27 : n0 ≤ v27 := Nat.le_trans Z0 sz_v27
    have hg27 : ∀ i, i < 0 → (fun _ => (0 : UInt64)) i = (tT p2 p3 p4) ((fun x => x) i) := fun i hi' => absurd hi' (by omega)
    have hl27 : ∀ i, i < 0 → (fun _ => (0 : Int32)) i = (tL p5) ((fun x => x) i) := fun i hi' => absurd hi' (by omega)
    have hi27 : HI (tK p2 p3 p4) (fun x => x) 0 := trivial
    show Go _ _ _ _ _ _ _ T27 (mkF m 22 #[.val (.int p0), .val (.int p1), .val (.int p2), .val (.int p3), .val (.int p4), .val (.int p5), .val (.int (2 : Int32)), .val (.int (1 : Int32)), .unset, .unset] [(.ref b26)])
    refine Go.step (fun _ k => XS.astore X27.here hx rfl (hb hby at_22) rfl rfl (l' := #[.val (.int p0), .val (.int p1), .val (.int p2), .val (.int p3), .val (.int p4), .val (.int p5), .val (.int (2 : Int32)), .val (.int (1 : Int32)), .val (.ref b26), .unset]) rfl k) ?_
    show Go _ _ _ _ _ _ _ T27 (mkF m 24 #[.val (.int p0), .val (.int p1), .val (.int p2), .val (.int p3), .val (.int p4), .val (.int p5), .val (.int (2 : Int32)), .val (.int (1 : Int32)), .val (.ref b26), .unset] [])
    refine Go.step (fun _ k => XS.aload X27.here hx rfl (hb hby at_24) rfl rfl k) ?_
    show Go _ _ _ _ _ _ _ T27 (mkF m 26 #[.val (.int p0), .val (.int p1), .val (.int p2), .val (.int p3), .val (.int p4), .val (.int p5), .val (.int (2 : Int32)), .val (.int (1 : Int32)), .val (.ref b26), .unset] [(.ref b26)])
    refine Go.callV X27 hx hZ (by rw [hml]; rfl) (y := (⟨"com/example/wavegrade/wavegrade/DepartureQueue", "isEmpty", "()Z"⟩ : MethodName)) (z := (⟨"com/example/wavegrade/wavegrade/DepartureQueue", "isEmpty", "()Z"⟩ : MethodName)) (a := b26) (argsL := []) (rest := []) hown (hw _ (List.mem_of_getElem? (i := 15) rfl)) (hw _ (List.mem_of_getElem? (i := 16) rfl)) (notFace_of_selects (args := #[]) (mvT hZ (hw _ (List.mem_of_getElem? (i := 18) rfl)))) (hw _ (List.mem_of_getElem? (i := 18) rfl)) (hw _ (List.mem_of_getElem? (i := 17) rfl)) (hw _ (List.mem_of_getElem? (i := 2) rfl)) (hw _ (List.mem_of_getElem? (i := 19) rfl)) (by decide) (rm_empty0 l Z a0 hw b26 T27.heap n0 (Nat.le_trans Z0 (KK27 : Keep h0 T27.heap []).1) Fs27) rfl Ec27 (hb hby at_26) (lenOf pd_1 rfl) rfl rfl (W := 0) (Nat.le_of_eq rfl) (by decide) (by decide) (by decide) (by decide) ?_
    intro v28 T28 L28 X28 Q28
    obtain ⟨rfl, N28q, hh28⟩ := Q28
    have N28 := Fr.app N27 N28q
    show Go _ _ _ _ _ _ _ T28 (mkF m 29 #[.val (.int p0), .val (.int p1), .val (.int p2), .val (.int p3), .val (.int p4), .val (.int p5), .val (.int (2 : Int32)), .val (.int (1 : Int32)), .val (.ref b26), .unset] [(.int (1 : Int32))])
    refine Go.step (fun _ k => XS.istore X28.here hx rfl (hb hby at_29) rfl (l' := #[.val (.int p0), .val (.int p1), .val (.int p2), .val (.int p3), .val (.int p4), .val (.int p5), .val (.int (2 : Int32)), .val (.int (1 : Int32)), .val (.ref b26), .val (.int (1 : Int32))]) rfl k) ?_
    show Go _ _ _ _ _ _ _ T28 (mkF m 31 #[.val (.int p0), .val (.int p1), .val (.int p2), .val (.int p3), .val (.int p4), .val (.int p5), .val (.int (2 : Int32)), .val (.int (1 : Int32)), .val (.ref b26), .val (.int (1 : Int32))] [])
    refine Go.step (fun _ k => XS.iload X28.here hx rfl (hb hby at_31) rfl k) ?_
    show Go _ _ _ _ _ _ _ T28 (mkF m 33 #[.val (.int p0), .val (.int p1), .val (.int p2), .val (.int p3), .val (.int p4), .val (.int p5), .val (.int (2 : Int32)), .val (.int (1 : Int32)), .val (.ref b26), .val (.int (1 : Int32))] [(.int (2 : Int32))])
    refine Go.step (fun _ k => XS.ifNo X28.here hx rfl (hb hby at_33) rfl ((if0 _ _).trans (tlt (by decide : (0 : Int32) < (2 : Int32))).2.2.2) k) ?_
    show Go _ _ _ _ _ _ _ T28 (mkF m 36 #[.val (.int p0), .val (.int p1), .val (.int p2), .val (.int p3), .val (.int p4), .val (.int p5), .val (.int (2 : Int32)), .val (.int (1 : Int32)), .val (.ref b26), .val (.int (1 : Int32))] [])
    refine Go.step (fun _ k => XS.aload X28.here hx rfl (hb hby at_36) rfl rfl k) ?_
    show Go _ _ _ _ _ _ _ T28 (mkF m 38 #[.val (.int p0), .val (.int p1), .val (.int p2), .val (.int p3), .val (.int p4), .val (.int p5), .val (.int (2 : Int32)), .val (.int (1 : Int32)), .val (.ref b26), .val (.int (1 : Int32))] [(.ref b26)])
    refine Go.step (fun _ k => XS.iloadN X28.here hx rfl (hb hby at_38) rfl k) ?_
    show Go _ _ _ _ _ _ _ T28 (mkF m 39 #[.val (.int p0), .val (.int p1), .val (.int p2), .val (.int p3), .val (.int p4), .val (.int p5), .val (.int (2 : Int32)), .val (.int (1 : Int32)), .val (.ref b26), .val (.int (1 : Int32))] [(.int p2), (.ref b26)])
    refine Go.step (fun _ k => XS.bipush X28.here hx rfl (hb hby at_39) k) ?_
    show Go _ _ _ _ _ _ _ T28 (mkF m 41 #[.val (.int p0), .val (.int p1), .val (.int p2), .val (.int p3), .val (.int p4), .val (.int p5), .val (.int (2 : Int32)), .val (.int (1 : Int32)), .val (.ref b26), .val (.int (1 : Int32))] [(.int (16 : Int32)), (.int p2), (.ref b26)])
    refine Go.step (fun _ k => iremM X28 hx rfl (hb hby at_41) rfl (by decide) k) ?_
    show Go _ _ _ _ _ _ _ T28 (mkF m 42 #[.val (.int p0), .val (.int p1), .val (.int p2), .val (.int p3), .val (.int p4), .val (.int p5), .val (.int (2 : Int32)), .val (.int (1 : Int32)), .val (.ref b26), .val (.int (1 : Int32))] [(.int (p2 % (16 : Int32))), (.ref b26)])
    refine Go.step (fun _ k => XS.i2dS X28.here hx rfl (hb hby at_42) rfl rfl k) ?_
    show Go _ _ _ _ _ _ _ T28 (mkF m 43 #[.val (.int p0), .val (.int p1), .val (.int p2), .val (.int p3), .val (.int p4), .val (.int p5), .val (.int (2 : Int32)), .val (.int (1 : Int32)), .val (.ref b26), .val (.int (1 : Int32))] [(.double (FP.i2d (p2 % (16 : Int32)))), (.ref b26)])
    refine Go.step (fun _ k => XS.iload X28.here hx rfl (hb hby at_43) rfl k) ?_
    show Go _ _ _ _ _ _ _ T28 (mkF m 45 #[.val (.int p0), .val (.int p1), .val (.int p2), .val (.int p3), .val (.int p4), .val (.int p5), .val (.int (2 : Int32)), .val (.int (1 : Int32)), .val (.ref b26), .val (.int (1 : Int32))] [(.int p5), (.double (FP.i2d (p2 % (16 : Int32)))), (.ref b26)])
    refine Go.callV X28 hx hZ (by rw [hml]; rfl) (y := (⟨"com/example/wavegrade/wavegrade/DepartureQueue", "add", "(DI)V"⟩ : MethodName)) (z := (⟨"com/example/wavegrade/wavegrade/DepartureQueue", "add", "(DI)V"⟩ : MethodName)) (a := b26) (argsL := [(.double (FP.i2d (p2 % (16 : Int32)))), (.int p5)]) (rest := []) hown (hw _ (List.mem_of_getElem? (i := 22) rfl)) (hw _ (List.mem_of_getElem? (i := 23) rfl)) (notFace_of_selects (args := #[]) (mvT hZ (hw _ (List.mem_of_getElem? (i := 25) rfl)))) (hw _ (List.mem_of_getElem? (i := 25) rfl)) (hw _ (List.mem_of_getElem? (i := 24) rfl)) (hw _ (List.mem_of_getElem? (i := 2) rfl)) (hw _ (List.mem_of_getElem? (i := 26) rfl)) (by decide) (rm_add0 l Z a0 hw b26 u27 v27 (fun _ => (0 : UInt64)) (fun _ => (0 : Int32)) (tT p2 p3 p4) (tL p5) (tK p2 p3 p4) (fun x => x) 0 T27.heap n0 (Nat.le_trans Z0 (KK27 : Keep h0 T27.heap []).1) Ec27 Fs27 Ft27 Fl27 Vu27 Vv27 nqu27 nqv27 nuv27 ge_b26 ge_u27 ge_v27 (tH p2 p3 p4) hg27 hl27 hi27) hh28 Ec27 (hb hby at_45) (lenOf pd_2 rfl) rfl rfl (W := 0) (Nat.le_of_eq rfl) (by decide) (by decide) (by decide) (by decide) ?_
    intro v29 T29 L29 X29 Q29
    obtain ⟨rfl, N29q, Kc29, Ec29, Fs29, Ft29, Fl29, g29x, l29x, a29x, Vu29, Vv29, hg29, hl29, hi29, hs29, hP29⟩ := Q29
    have N29 := Fr.app N28 N29q
    have Ec27_29 := Ec27.keep Kc29
    have KK29 : Keep h0 T29.heap [] := (KK27 : Keep h0 T27.heap []).trans Kc29 (allS (Or.inr sz_b26) (allS (Or.inr sz_u27) (allS (Or.inr sz_v27) all0)))
    show Go _ _ _ _ _ _ _ T29 (mkF m 48 #[.val (.int p0), .val (.int p1), .val (.int p2), .val (.int p3), .val (.int p4), .val (.int p5), .val (.int (2 : Int32)), .val (.int (1 : Int32)), .val (.ref b26), .val (.int (1 : Int32))] [])
    refine Go.step (fun _ k => XS.iload X29.here hx rfl (hb hby at_48) rfl k) ?_
    show Go _ _ _ _ _ _ _ T29 (mkF m 50 #[.val (.int p0), .val (.int p1), .val (.int p2), .val (.int p3), .val (.int p4), .val (.int p5), .val (.int (2 : Int32)), .val (.int (1 : Int32)), .val (.ref b26), .val (.int (1 : Int32))] [(.int (2 : Int32))])
    refine Go.step (fun _ k => XS.iconst X29.here hx rfl (hb hby at_50) k) ?_
    show Go _ _ _ _ _ _ _ T29 (mkF m 51 #[.val (.int p0), .val (.int p1), .val (.int p2), .val (.int p3), .val (.int p4), .val (.int p5), .val (.int (2 : Int32)), .val (.int (1 : Int32)), .val (.ref b26), .val (.int (1 : Int32))] [(.int (1 : Int32)), (.int (2 : Int32))])
    refine Go.step (fun _ k => XS.icmpNo X29.here hx rfl (hb hby at_51) rfl (tlt (by decide : (1 : Int32) < (2 : Int32))).2.2.2 k) ?_
    show Go _ _ _ _ _ _ _ T29 (mkF m 54 #[.val (.int p0), .val (.int p1), .val (.int p2), .val (.int p3), .val (.int p4), .val (.int p5), .val (.int (2 : Int32)), .val (.int (1 : Int32)), .val (.ref b26), .val (.int (1 : Int32))] [])
    refine Go.step (fun _ k => XS.aload X29.here hx rfl (hb hby at_54) rfl rfl k) ?_
    show Go _ _ _ _ _ _ _ T29 (mkF m 56 #[.val (.int p0), .val (.int p1), .val (.int p2), .val (.int p3), .val (.int p4), .val (.int p5), .val (.int (2 : Int32)), .val (.int (1 : Int32)), .val (.ref b26), .val (.int (1 : Int32))] [(.ref b26)])
    refine Go.step (fun _ k => XS.iloadN X29.here hx rfl (hb hby at_56) rfl k) ?_
    show Go _ _ _ _ _ _ _ T29 (mkF m 57 #[.val (.int p0), .val (.int p1), .val (.int p2), .val (.int p3), .val (.int p4), .val (.int p5), .val (.int (2 : Int32)), .val (.int (1 : Int32)), .val (.ref b26), .val (.int (1 : Int32))] [(.int p3), (.ref b26)])
    refine Go.step (fun _ k => XS.bipush X29.here hx rfl (hb hby at_57) k) ?_
    show Go _ _ _ _ _ _ _ T29 (mkF m 59 #[.val (.int p0), .val (.int p1), .val (.int p2), .val (.int p3), .val (.int p4), .val (.int p5), .val (.int (2 : Int32)), .val (.int (1 : Int32)), .val (.ref b26), .val (.int (1 : Int32))] [(.int (16 : Int32)), (.int p3), (.ref b26)])
    refine Go.step (fun _ k => iremM X29 hx rfl (hb hby at_59) rfl (by decide) k) ?_
    show Go _ _ _ _ _ _ _ T29 (mkF m 60 #[.val (.int p0), .val (.int p1), .val (.int p2), .val (.int p3), .val (.int p4), .val (.int p5), .val (.int (2 : Int32)), .val (.int (1 : Int32)), .val (.ref b26), .val (.int (1 : Int32))] [(.int (p3 % (16 : Int32))), (.ref b26)])
    refine Go.step (fun _ k => XS.i2dS X29.here hx rfl (hb hby at_60) rfl rfl k) ?_
    show Go _ _ _ _ _ _ _ T29 (mkF m 61 #[.val (.int p0), .val (.int p1), .val (.int p2), .val (.int p3), .val (.int p4), .val (.int p5), .val (.int (2 : Int32)), .val (.int (1 : Int32)), .val (.ref b26), .val (.int (1 : Int32))] [(.double (FP.i2d (p3 % (16 : Int32)))), (.ref b26)])
    refine Go.step (fun _ k => XS.iload X29.here hx rfl (hb hby at_61) rfl k) ?_
    show Go _ _ _ _ _ _ _ T29 (mkF m 63 #[.val (.int p0), .val (.int p1), .val (.int p2), .val (.int p3), .val (.int p4), .val (.int p5), .val (.int (2 : Int32)), .val (.int (1 : Int32)), .val (.ref b26), .val (.int (1 : Int32))] [(.int p5), (.double (FP.i2d (p3 % (16 : Int32)))), (.ref b26)])
    refine Go.step (fun _ k => XS.iconst X29.here hx rfl (hb hby at_63) k) ?_
    show Go _ _ _ _ _ _ _ T29 (mkF m 64 #[.val (.int p0), .val (.int p1), .val (.int p2), .val (.int p3), .val (.int p4), .val (.int p5), .val (.int (2 : Int32)), .val (.int (1 : Int32)), .val (.ref b26), .val (.int (1 : Int32))] [(.int (1 : Int32)), (.int p5), (.double (FP.i2d (p3 % (16 : Int32)))), (.ref b26)])
    refine Go.step (fun _ k => XS.iadd X29.here hx rfl (hb hby at_64) rfl k) ?_
    show Go _ _ _ _ _ _ _ T29 (mkF m 65 #[.val (.int p0), .val (.int p1), .val (.int p2), .val (.int p3), .val (.int p4), .val (.int p5), .val (.int (2 : Int32)), .val (.int (1 : Int32)), .val (.ref b26), .val (.int (1 : Int32))] [(.int (p5 + (1 : Int32))), (.double (FP.i2d (p3 % (16 : Int32)))), (.ref b26)])
    refine Go.callV X29 hx hZ (by rw [hml]; rfl) (y := (⟨"com/example/wavegrade/wavegrade/DepartureQueue", "add", "(DI)V"⟩ : MethodName)) (z := (⟨"com/example/wavegrade/wavegrade/DepartureQueue", "add", "(DI)V"⟩ : MethodName)) (a := b26) (argsL := [(.double (FP.i2d (p3 % (16 : Int32)))), (.int (p5 + (1 : Int32)))]) (rest := []) hown (hw _ (List.mem_of_getElem? (i := 22) rfl)) (hw _ (List.mem_of_getElem? (i := 23) rfl)) (notFace_of_selects (args := #[]) (mvT hZ (hw _ (List.mem_of_getElem? (i := 25) rfl)))) (hw _ (List.mem_of_getElem? (i := 25) rfl)) (hw _ (List.mem_of_getElem? (i := 24) rfl)) (hw _ (List.mem_of_getElem? (i := 2) rfl)) (hw _ (List.mem_of_getElem? (i := 26) rfl)) (by decide) (rm_add1 l Z a0 hw b26 u27 v27 g29x l29x (tT p2 p3 p4) (tL p5) (tK p2 p3 p4) a29x 1 T29.heap n0 (Nat.le_trans Z0 (KK29 : Keep h0 T29.heap []).1) Ec29 Fs29 Ft29 Fl29 Vu29 Vv29 nqu27 nqv27 nuv27 ge_b26 ge_u27 ge_v27 (tH p2 p3 p4) hg29 hl29 hi29) rfl Ec29 (hb hby at_65) (lenOf pd_2 rfl) rfl rfl (W := 0) (Nat.le_of_eq rfl) (by decide) (by decide) (by decide) (by decide) ?_
    intro v30 T30 L30 X30 Q30
    obtain ⟨rfl, N30q, Kc30, Ec30, Fs30, Ft30, Fl30, g30x, l30x, a30x, Vu30, Vv30, hg30, hl30, hi30, hs30, hP30⟩ := Q30
    have N30 := Fr.app N29 N30q
    have Ec29_30 := Ec29.keep Kc30
    have KK30 : Keep h0 T30.heap [] := (KK29 : Keep h0 T29.heap []).trans Kc30 (allS (Or.inr sz_b26) (allS (Or.inr sz_u27) (allS (Or.inr sz_v27) all0)))
    show Go _ _ _ _ _ _ _ T30 (mkF m 68 #[.val (.int p0), .val (.int p1), .val (.int p2), .val (.int p3), .val (.int p4), .val (.int p5), .val (.int (2 : Int32)), .val (.int (1 : Int32)), .val (.ref b26), .val (.int (1 : Int32))] [])
    refine Go.step (fun _ k => XS.iload X30.here hx rfl (hb hby at_68) rfl k) ?_
    show Go _ _ _ _ _ _ _ T30 (mkF m 70 #[.val (.int p0), .val (.int p1), .val (.int p2), .val (.int p3), .val (.int p4), .val (.int p5), .val (.int (2 : Int32)), .val (.int (1 : Int32)), .val (.ref b26), .val (.int (1 : Int32))] [(.int (2 : Int32))])
    refine Go.step (fun _ k => XS.iconst X30.here hx rfl (hb hby at_70) k) ?_
    show Go _ _ _ _ _ _ _ T30 (mkF m 71 #[.val (.int p0), .val (.int p1), .val (.int p2), .val (.int p3), .val (.int p4), .val (.int p5), .val (.int (2 : Int32)), .val (.int (1 : Int32)), .val (.ref b26), .val (.int (1 : Int32))] [(.int (2 : Int32)), (.int (2 : Int32))])
    refine Go.step (fun _ k => XS.icmpYes X30.here hx rfl (pc0 := 71) (pc' := 89) rfl (hb hby at_71) rfl (flt (by decide : ¬ ((2 : Int32) < (2 : Int32)))).2.2.2 (by decide) (by decide) k) ?_
    show Go _ _ _ _ _ _ _ T30 (mkF m 89 #[.val (.int p0), .val (.int p1), .val (.int p2), .val (.int p3), .val (.int p4), .val (.int p5), .val (.int (2 : Int32)), .val (.int (1 : Int32)), .val (.ref b26), .val (.int (1 : Int32))] [])
    refine Go.step (fun _ k => XS.iload X30.here hx rfl (hb hby at_89) rfl k) ?_
    show Go _ _ _ _ _ _ _ T30 (mkF m 91 #[.val (.int p0), .val (.int p1), .val (.int p2), .val (.int p3), .val (.int p4), .val (.int p5), .val (.int (2 : Int32)), .val (.int (1 : Int32)), .val (.ref b26), .val (.int (1 : Int32))] [(.int (1 : Int32))])
    refine Go.step (fun _ k => XS.ifNo X30.here hx rfl (hb hby at_91) rfl ((if0 _ _).trans (feq (by decide : ¬ ((1 : Int32) = (0 : Int32)))).1) k) ?_
    show Go _ _ _ _ _ _ _ T30 (mkF m 94 #[.val (.int p0), .val (.int p1), .val (.int p2), .val (.int p3), .val (.int p4), .val (.int p5), .val (.int (2 : Int32)), .val (.int (1 : Int32)), .val (.ref b26), .val (.int (1 : Int32))] [])
    refine Go.step (fun _ k => XS.aload X30.here hx rfl (hb hby at_94) rfl rfl k) ?_
    show Go _ _ _ _ _ _ _ T30 (mkF m 96 #[.val (.int p0), .val (.int p1), .val (.int p2), .val (.int p3), .val (.int p4), .val (.int p5), .val (.int (2 : Int32)), .val (.int (1 : Int32)), .val (.ref b26), .val (.int (1 : Int32))] [(.ref b26)])
    refine Go.callV X30 hx hZ (by rw [hml]; rfl) (y := (⟨"com/example/wavegrade/wavegrade/DepartureQueue", "isEmpty", "()Z"⟩ : MethodName)) (z := (⟨"com/example/wavegrade/wavegrade/DepartureQueue", "isEmpty", "()Z"⟩ : MethodName)) (a := b26) (argsL := []) (rest := []) hown (hw _ (List.mem_of_getElem? (i := 15) rfl)) (hw _ (List.mem_of_getElem? (i := 16) rfl)) (notFace_of_selects (args := #[]) (mvT hZ (hw _ (List.mem_of_getElem? (i := 18) rfl)))) (hw _ (List.mem_of_getElem? (i := 18) rfl)) (hw _ (List.mem_of_getElem? (i := 17) rfl)) (hw _ (List.mem_of_getElem? (i := 2) rfl)) (hw _ (List.mem_of_getElem? (i := 19) rfl)) (by decide) (rm_empty2 l Z a0 hw b26 T30.heap n0 (Nat.le_trans Z0 (KK30 : Keep h0 T30.heap []).1) Fs30) rfl Ec30 (hb hby at_96) (lenOf pd_1 rfl) rfl rfl (W := 0) (Nat.le_of_eq rfl) (by decide) (by decide) (by decide) (by decide) ?_
    intro v31 T31 L31 X31 Q31
    obtain ⟨rfl, N31q, hh31⟩ := Q31
    have N31 := Fr.app N30 N31q
    show Go _ _ _ _ _ _ _ T31 (mkF m 99 #[.val (.int p0), .val (.int p1), .val (.int p2), .val (.int p3), .val (.int p4), .val (.int p5), .val (.int (2 : Int32)), .val (.int (1 : Int32)), .val (.ref b26), .val (.int (1 : Int32))] [(.int (0 : Int32))])
    refine Go.step (fun _ k => XS.iload X31.here hx rfl (hb hby at_99) rfl k) ?_
    show Go _ _ _ _ _ _ _ T31 (mkF m 101 #[.val (.int p0), .val (.int p1), .val (.int p2), .val (.int p3), .val (.int p4), .val (.int p5), .val (.int (2 : Int32)), .val (.int (1 : Int32)), .val (.ref b26), .val (.int (1 : Int32))] [(.int (2 : Int32)), (.int (0 : Int32))])
    refine Go.step (fun _ k => XS.ifYes X31.here hx rfl (pc0 := 101) (pc' := 108) rfl (hb hby at_101) rfl ((if0 _ _).trans (feq (by decide : ¬ ((2 : Int32) = (0 : Int32)))).2) (by decide) (by decide) k) ?_
    show Go _ _ _ _ _ _ _ T31 (mkF m 108 #[.val (.int p0), .val (.int p1), .val (.int p2), .val (.int p3), .val (.int p4), .val (.int p5), .val (.int (2 : Int32)), .val (.int (1 : Int32)), .val (.ref b26), .val (.int (1 : Int32))] [(.int (0 : Int32))])
    refine Go.step (fun _ k => XS.iconst X31.here hx rfl (hb hby at_108) k) ?_
    show Go _ _ _ _ _ _ _ T31 (mkF m 109 #[.val (.int p0), .val (.int p1), .val (.int p2), .val (.int p3), .val (.int p4), .val (.int p5), .val (.int (2 : Int32)), .val (.int (1 : Int32)), .val (.ref b26), .val (.int (1 : Int32))] [(.int (0 : Int32)), (.int (0 : Int32))])
    refine Go.step (fun _ k => XS.icmpNo X31.here hx rfl (hb hby at_109) rfl (teq (by decide : (0 : Int32) = (0 : Int32))).2 k) ?_
    show Go _ _ _ _ _ _ _ T31 (mkF m 112 #[.val (.int p0), .val (.int p1), .val (.int p2), .val (.int p3), .val (.int p4), .val (.int p5), .val (.int (2 : Int32)), .val (.int (1 : Int32)), .val (.ref b26), .val (.int (1 : Int32))] [])
    refine Go.step (fun _ k => XS.iconst X31.here hx rfl (hb hby at_112) k) ?_
    show Go _ _ _ _ _ _ _ T31 (mkF m 113 #[.val (.int p0), .val (.int p1), .val (.int p2), .val (.int p3), .val (.int p4), .val (.int p5), .val (.int (2 : Int32)), .val (.int (1 : Int32)), .val (.ref b26), .val (.int (1 : Int32))] [(.int (1 : Int32))])
    refine Go.step (fun _ k => XS.goto X31.here hx rfl (pc0 := 113) (pc' := 117) rfl (hb hby at_113) (by decide) (by decide) k) ?_
    show Go _ _ _ _ _ _ _ T31 (mkF m 117 #[.val (.int p0), .val (.int p1), .val (.int p2), .val (.int p3), .val (.int p4), .val (.int p5), .val (.int (2 : Int32)), .val (.int (1 : Int32)), .val (.ref b26), .val (.int (1 : Int32))] [(.int (1 : Int32))])
    refine Go.step (fun _ k => XS.istore X31.here hx rfl (hb hby at_117) rfl (l' := #[.val (.int p0), .val (.int p1), .val (.int p2), .val (.int p3), .val (.int p4), .val (.int p5), .val (.int (2 : Int32)), .val (.int (1 : Int32)), .val (.ref b26), .val (.int (1 : Int32))]) rfl k) ?_
    show Go _ _ _ _ _ _ _ T31 (mkF m 119 #[.val (.int p0), .val (.int p1), .val (.int p2), .val (.int p3), .val (.int p4), .val (.int p5), .val (.int (2 : Int32)), .val (.int (1 : Int32)), .val (.ref b26), .val (.int (1 : Int32))] [])
    refine Go.step (fun _ k => XS.iload X31.here hx rfl (hb hby at_119) rfl k) ?_
    show Go _ _ _ _ _ _ _ T31 (mkF m 121 #[.val (.int p0), .val (.int p1), .val (.int p2), .val (.int p3), .val (.int p4), .val (.int p5), .val (.int (2 : Int32)), .val (.int (1 : Int32)), .val (.ref b26), .val (.int (1 : Int32))] [(.int (1 : Int32))])
    refine Go.step (fun _ k => XS.ifNo X31.here hx rfl (hb hby at_121) rfl ((if0 _ _).trans (tlt (by decide : (0 : Int32) < (1 : Int32))).2.2.2) k) ?_
    show Go _ _ _ _ _ _ _ T31 (mkF m 124 #[.val (.int p0), .val (.int p1), .val (.int p2), .val (.int p3), .val (.int p4), .val (.int p5), .val (.int (2 : Int32)), .val (.int (1 : Int32)), .val (.ref b26), .val (.int (1 : Int32))] [])
    refine Go.step (fun _ k => XS.aload X31.here hx rfl (hb hby at_124) rfl rfl k) ?_
    show Go _ _ _ _ _ _ _ T31 (mkF m 126 #[.val (.int p0), .val (.int p1), .val (.int p2), .val (.int p3), .val (.int p4), .val (.int p5), .val (.int (2 : Int32)), .val (.int (1 : Int32)), .val (.ref b26), .val (.int (1 : Int32))] [(.ref b26)])
    refine Go.callV X31 hx hZ (by rw [hml]; rfl) (y := (⟨"com/example/wavegrade/wavegrade/DepartureQueue", "removeFirst", "()I"⟩ : MethodName)) (z := (⟨"com/example/wavegrade/wavegrade/DepartureQueue", "removeFirst", "()I"⟩ : MethodName)) (a := b26) (argsL := []) (rest := []) hown (hw _ (List.mem_of_getElem? (i := 27) rfl)) (hw _ (List.mem_of_getElem? (i := 28) rfl)) (notFace_of_selects (args := #[]) (mvT hZ (hw _ (List.mem_of_getElem? (i := 30) rfl)))) (hw _ (List.mem_of_getElem? (i := 30) rfl)) (hw _ (List.mem_of_getElem? (i := 29) rfl)) (hw _ (List.mem_of_getElem? (i := 2) rfl)) (hw _ (List.mem_of_getElem? (i := 31) rfl)) (by decide) (rm_rem2 l Z a0 hw b26 u27 v27 g30x l30x (tT p2 p3 p4) (tL p5) (tK p2 p3 p4) a30x T30.heap n0 (Nat.le_trans Z0 (KK30 : Keep h0 T30.heap []).1) Ec30 Fs30 Ft30 Fl30 Vu30 Vv30 nqu27 nqv27 nuv27 ge_b26 ge_u27 ge_v27 (tH p2 p3 p4) hg30 hl30 hi30) hh31 Ec30 (hb hby at_126) (lenOf pd_3 rfl) rfl rfl (W := 0) (Nat.le_of_eq rfl) (by decide) (by decide) (by decide) (by decide) ?_
    intro v32 T32 L32 X32 Q32
    obtain ⟨rfl, N32q, Kc32, Ec32, Fs32, Ft32, Fl32, g32x, l32x, a32x, Vu32, Vv32, hg32, hl32, hi32, ⟨hm32, hs32⟩, hP32⟩ := Q32
    have N32 := Fr.app N31 N32q
    have Ec30_32 := Ec30.keep Kc32
    have KK32 : Keep h0 T32.heap [] := (KK30 : Keep h0 T30.heap []).trans Kc32 (allS (Or.inr sz_b26) (allS (Or.inr sz_u27) (allS (Or.inr sz_v27) all0)))
    show Go _ _ _ _ _ _ _ T32 (mkF m 129 #[.val (.int p0), .val (.int p1), .val (.int p2), .val (.int p3), .val (.int p4), .val (.int p5), .val (.int (2 : Int32)), .val (.int (1 : Int32)), .val (.ref b26), .val (.int (1 : Int32))] [(.int ((tL p5) (a30x 0)))])
    refine Go.step (fun _ k => XS.pop X32.here hx rfl (hb hby at_129) rfl rfl k) ?_
    show Go _ _ _ _ _ _ _ T32 (mkF m 130 #[.val (.int p0), .val (.int p1), .val (.int p2), .val (.int p3), .val (.int p4), .val (.int p5), .val (.int (2 : Int32)), .val (.int (1 : Int32)), .val (.ref b26), .val (.int (1 : Int32))] [])
    refine Go.step (fun _ k => XS.iload X32.here hx rfl (hb hby at_130) rfl k) ?_
    show Go _ _ _ _ _ _ _ T32 (mkF m 132 #[.val (.int p0), .val (.int p1), .val (.int p2), .val (.int p3), .val (.int p4), .val (.int p5), .val (.int (2 : Int32)), .val (.int (1 : Int32)), .val (.ref b26), .val (.int (1 : Int32))] [(.int (1 : Int32))])
    refine Go.step (fun _ k => XS.iconst X32.here hx rfl (hb hby at_132) k) ?_
    show Go _ _ _ _ _ _ _ T32 (mkF m 133 #[.val (.int p0), .val (.int p1), .val (.int p2), .val (.int p3), .val (.int p4), .val (.int p5), .val (.int (2 : Int32)), .val (.int (1 : Int32)), .val (.ref b26), .val (.int (1 : Int32))] [(.int (1 : Int32)), (.int (1 : Int32))])
    refine Go.step (fun _ k => XS.icmpYes X32.here hx rfl (pc0 := 133) (pc' := 142) rfl (hb hby at_133) rfl (flt (by decide : ¬ ((1 : Int32) < (1 : Int32)))).2.2.2 (by decide) (by decide) k) ?_
    show Go _ _ _ _ _ _ _ T32 (mkF m 142 #[.val (.int p0), .val (.int p1), .val (.int p2), .val (.int p3), .val (.int p4), .val (.int p5), .val (.int (2 : Int32)), .val (.int (1 : Int32)), .val (.ref b26), .val (.int (1 : Int32))] [])
    refine Go.step (fun _ k => XS.iload X32.here hx rfl (hb hby at_142) rfl k) ?_
    show Go _ _ _ _ _ _ _ T32 (mkF m 144 #[.val (.int p0), .val (.int p1), .val (.int p2), .val (.int p3), .val (.int p4), .val (.int p5), .val (.int (2 : Int32)), .val (.int (1 : Int32)), .val (.ref b26), .val (.int (1 : Int32))] [(.int (1 : Int32))])
    refine Go.step (fun _ k => XS.iconst X32.here hx rfl (hb hby at_144) k) ?_
    show Go _ _ _ _ _ _ _ T32 (mkF m 145 #[.val (.int p0), .val (.int p1), .val (.int p2), .val (.int p3), .val (.int p4), .val (.int p5), .val (.int (2 : Int32)), .val (.int (1 : Int32)), .val (.ref b26), .val (.int (1 : Int32))] [(.int (2 : Int32)), (.int (1 : Int32))])
    refine Go.step (fun _ k => XS.icmpYes X32.here hx rfl (pc0 := 145) (pc' := 154) rfl (hb hby at_145) rfl (flt (by decide : ¬ ((2 : Int32) < (1 : Int32)))).2.2.2 (by decide) (by decide) k) ?_
    show Go _ _ _ _ _ _ _ T32 (mkF m 154 #[.val (.int p0), .val (.int p1), .val (.int p2), .val (.int p3), .val (.int p4), .val (.int p5), .val (.int (2 : Int32)), .val (.int (1 : Int32)), .val (.ref b26), .val (.int (1 : Int32))] [])
    refine Go.step (fun _ k => XS.iload X32.here hx rfl (hb hby at_154) rfl k) ?_
    show Go _ _ _ _ _ _ _ T32 (mkF m 156 #[.val (.int p0), .val (.int p1), .val (.int p2), .val (.int p3), .val (.int p4), .val (.int p5), .val (.int (2 : Int32)), .val (.int (1 : Int32)), .val (.ref b26), .val (.int (1 : Int32))] [(.int (1 : Int32))])
    refine Go.step (fun _ k => XS.ifNo X32.here hx rfl (hb hby at_156) rfl ((if0 _ _).trans (feq (by decide : ¬ ((1 : Int32) = (0 : Int32)))).1) k) ?_
    show Go _ _ _ _ _ _ _ T32 (mkF m 159 #[.val (.int p0), .val (.int p1), .val (.int p2), .val (.int p3), .val (.int p4), .val (.int p5), .val (.int (2 : Int32)), .val (.int (1 : Int32)), .val (.ref b26), .val (.int (1 : Int32))] [])
    refine Go.step (fun _ k => XS.aload X32.here hx rfl (hb hby at_159) rfl rfl k) ?_
    show Go _ _ _ _ _ _ _ T32 (mkF m 161 #[.val (.int p0), .val (.int p1), .val (.int p2), .val (.int p3), .val (.int p4), .val (.int p5), .val (.int (2 : Int32)), .val (.int (1 : Int32)), .val (.ref b26), .val (.int (1 : Int32))] [(.ref b26)])
    refine Go.callV X32 hx hZ (by rw [hml]; rfl) (y := (⟨"com/example/wavegrade/wavegrade/DepartureQueue", "isEmpty", "()Z"⟩ : MethodName)) (z := (⟨"com/example/wavegrade/wavegrade/DepartureQueue", "isEmpty", "()Z"⟩ : MethodName)) (a := b26) (argsL := []) (rest := []) hown (hw _ (List.mem_of_getElem? (i := 15) rfl)) (hw _ (List.mem_of_getElem? (i := 16) rfl)) (notFace_of_selects (args := #[]) (mvT hZ (hw _ (List.mem_of_getElem? (i := 18) rfl)))) (hw _ (List.mem_of_getElem? (i := 18) rfl)) (hw _ (List.mem_of_getElem? (i := 17) rfl)) (hw _ (List.mem_of_getElem? (i := 2) rfl)) (hw _ (List.mem_of_getElem? (i := 19) rfl)) (by decide) (rm_empty1 l Z a0 hw b26 T32.heap n0 (Nat.le_trans Z0 (KK32 : Keep h0 T32.heap []).1) Fs32) rfl Ec32 (hb hby at_161) (lenOf pd_1 rfl) rfl rfl (W := 0) (Nat.le_of_eq rfl) (by decide) (by decide) (by decide) (by decide) ?_
    intro v33 T33 L33 X33 Q33
    obtain ⟨rfl, N33q, hh33⟩ := Q33
    have N33 := Fr.app N32 N33q
    show Go _ _ _ _ _ _ _ T33 (mkF m 164 #[.val (.int p0), .val (.int p1), .val (.int p2), .val (.int p3), .val (.int p4), .val (.int p5), .val (.int (2 : Int32)), .val (.int (1 : Int32)), .val (.ref b26), .val (.int (1 : Int32))] [(.int (0 : Int32))])
    refine Go.step (fun _ k => XS.iload X33.here hx rfl (hb hby at_164) rfl k) ?_
    show Go _ _ _ _ _ _ _ T33 (mkF m 166 #[.val (.int p0), .val (.int p1), .val (.int p2), .val (.int p3), .val (.int p4), .val (.int p5), .val (.int (2 : Int32)), .val (.int (1 : Int32)), .val (.ref b26), .val (.int (1 : Int32))] [(.int (2 : Int32)), (.int (0 : Int32))])
    refine Go.step (fun _ k => XS.iload X33.here hx rfl (hb hby at_166) rfl k) ?_
    show Go _ _ _ _ _ _ _ T33 (mkF m 168 #[.val (.int p0), .val (.int p1), .val (.int p2), .val (.int p3), .val (.int p4), .val (.int p5), .val (.int (2 : Int32)), .val (.int (1 : Int32)), .val (.ref b26), .val (.int (1 : Int32))] [(.int (1 : Int32)), (.int (2 : Int32)), (.int (0 : Int32))])
    refine Go.step (fun _ k => XS.isub X33.here hx rfl (hb hby at_168) rfl k) ?_
    show Go _ _ _ _ _ _ _ T33 (mkF m 169 #[.val (.int p0), .val (.int p1), .val (.int p2), .val (.int p3), .val (.int p4), .val (.int p5), .val (.int (2 : Int32)), .val (.int (1 : Int32)), .val (.ref b26), .val (.int (1 : Int32))] [(.int (1 : Int32)), (.int (0 : Int32))])
    refine Go.step (fun _ k => XS.ifYes X33.here hx rfl (pc0 := 169) (pc' := 176) rfl (hb hby at_169) rfl ((if0 _ _).trans (feq (by decide : ¬ ((1 : Int32) = (0 : Int32)))).2) (by decide) (by decide) k) ?_
    show Go _ _ _ _ _ _ _ T33 (mkF m 176 #[.val (.int p0), .val (.int p1), .val (.int p2), .val (.int p3), .val (.int p4), .val (.int p5), .val (.int (2 : Int32)), .val (.int (1 : Int32)), .val (.ref b26), .val (.int (1 : Int32))] [(.int (0 : Int32))])
    refine Go.step (fun _ k => XS.iconst X33.here hx rfl (hb hby at_176) k) ?_
    show Go _ _ _ _ _ _ _ T33 (mkF m 177 #[.val (.int p0), .val (.int p1), .val (.int p2), .val (.int p3), .val (.int p4), .val (.int p5), .val (.int (2 : Int32)), .val (.int (1 : Int32)), .val (.ref b26), .val (.int (1 : Int32))] [(.int (0 : Int32)), (.int (0 : Int32))])
    refine Go.step (fun _ k => XS.icmpNo X33.here hx rfl (hb hby at_177) rfl (teq (by decide : (0 : Int32) = (0 : Int32))).2 k) ?_
    show Go _ _ _ _ _ _ _ T33 (mkF m 180 #[.val (.int p0), .val (.int p1), .val (.int p2), .val (.int p3), .val (.int p4), .val (.int p5), .val (.int (2 : Int32)), .val (.int (1 : Int32)), .val (.ref b26), .val (.int (1 : Int32))] [])
    refine Go.step (fun _ k => XS.iconst X33.here hx rfl (hb hby at_180) k) ?_
    show Go _ _ _ _ _ _ _ T33 (mkF m 181 #[.val (.int p0), .val (.int p1), .val (.int p2), .val (.int p3), .val (.int p4), .val (.int p5), .val (.int (2 : Int32)), .val (.int (1 : Int32)), .val (.ref b26), .val (.int (1 : Int32))] [(.int (1 : Int32))])
    refine Go.step (fun _ k => XS.goto X33.here hx rfl (pc0 := 181) (pc' := 185) rfl (hb hby at_181) (by decide) (by decide) k) ?_
    show Go _ _ _ _ _ _ _ T33 (mkF m 185 #[.val (.int p0), .val (.int p1), .val (.int p2), .val (.int p3), .val (.int p4), .val (.int p5), .val (.int (2 : Int32)), .val (.int (1 : Int32)), .val (.ref b26), .val (.int (1 : Int32))] [(.int (1 : Int32))])
    refine Go.step (fun _ k => XS.istore X33.here hx rfl (hb hby at_185) rfl (l' := #[.val (.int p0), .val (.int p1), .val (.int p2), .val (.int p3), .val (.int p4), .val (.int p5), .val (.int (2 : Int32)), .val (.int (1 : Int32)), .val (.ref b26), .val (.int (1 : Int32))]) rfl k) ?_
    show Go _ _ _ _ _ _ _ T33 (mkF m 187 #[.val (.int p0), .val (.int p1), .val (.int p2), .val (.int p3), .val (.int p4), .val (.int p5), .val (.int (2 : Int32)), .val (.int (1 : Int32)), .val (.ref b26), .val (.int (1 : Int32))] [])
    refine Go.step (fun _ k => XS.iload X33.here hx rfl (hb hby at_187) rfl k) ?_
    show Go _ _ _ _ _ _ _ T33 (mkF m 189 #[.val (.int p0), .val (.int p1), .val (.int p2), .val (.int p3), .val (.int p4), .val (.int p5), .val (.int (2 : Int32)), .val (.int (1 : Int32)), .val (.ref b26), .val (.int (1 : Int32))] [(.int (1 : Int32))])
    refine Go.retZ X33 hx hlk hret (by decide) (hb hby at_189) (by decide) (by decide) ?_
    try rw [hh33]
    exact ⟨rfl, N33⟩
  · show Go _ _ _ _ _ _ _ T0 (mkF m 15 #[.val (.int p0), .val (.int p1), .val (.int p2), .val (.int p3), .val (.int p4), .val (.int p5), .val (.int (2 : Int32)), .val (.int (2 : Int32)), .unset, .unset] [])
    obtain ⟨T34, h34, X34, e34, E34, A34, D34, -, st34⟩ := newO X0 hx hZ hown (hw _ (List.mem_of_getElem? (i := 0) rfl)) (hw _ (List.mem_of_getElem? (i := 1) rfl)) (hw _ (List.mem_of_getElem? (i := 2) rfl)) e0 (g := (mkF m 15 #[.val (.int p0), .val (.int p1), .val (.int p2), .val (.int p3), .val (.int p4), .val (.int p5), .val (.int (2 : Int32)), .val (.int (2 : Int32)), .unset, .unset] [])) rfl (hb hby at_15) (by decide) (by decide)
    obtain ⟨b34, g34⟩ : ∃ z, z = h0.size := ⟨_, rfl⟩
    rw [← g34] at A34 D34 st34
    refine Go.step st34 ?_
    have K34 : Keep h0 h34 [] := (Keep.refl h0 []).ext E34
    have sz_b34 : h0.size ≤ b34 := Nat.le_trans ((Keep.refl h0 []) : Keep h0 h0 []).1 (Nat.le_of_eq g34.symm)
    have ge_b34 : n0 ≤ b34 := Nat.le_trans Z0 sz_b34
    have E_b34 := A34
    have F_times_b34 : Fld Z h34 b34 "com/example/wavegrade/wavegrade/DepartureQueue" "times" "[D" .null := D34 (Or.inl (hw _ (List.mem_of_getElem? (i := 11) rfl))) (ty := (.array .double)) (by decide)
    have F_lightpaths_b34 : Fld Z h34 b34 "com/example/wavegrade/wavegrade/DepartureQueue" "lightpaths" "[I" .null := D34 (Or.inl (hw _ (List.mem_of_getElem? (i := 14) rfl))) (ty := (.array .int)) (by decide)
    have F_size_b34 : Fld Z h34 b34 "com/example/wavegrade/wavegrade/DepartureQueue" "size" "I" (.int (0 : Int32)) := D34 (Or.inl (hw _ (List.mem_of_getElem? (i := 21) rfl))) (ty := .int) (by decide)
    show Go _ _ _ _ _ _ _ T34 (mkF m 18 #[.val (.int p0), .val (.int p1), .val (.int p2), .val (.int p3), .val (.int p4), .val (.int p5), .val (.int (2 : Int32)), .val (.int (2 : Int32)), .unset, .unset] [(.ref b34)])
    refine Go.step (fun _ k => XS.dup X34.here hx rfl (hb hby at_18) rfl rfl k) ?_
    show Go _ _ _ _ _ _ _ T34 (mkF m 19 #[.val (.int p0), .val (.int p1), .val (.int p2), .val (.int p3), .val (.int p4), .val (.int p5), .val (.int (2 : Int32)), .val (.int (2 : Int32)), .unset, .unset] [(.ref b34), (.ref b34)])
    refine Go.callI X34 hx hZ (by rw [hml]; rfl) (y := (⟨"com/example/wavegrade/wavegrade/DepartureQueue", "<init>", "()V"⟩ : MethodName)) (a := b34) (argsL := []) (rest := [(.ref b34)]) rfl hown (hw _ (List.mem_of_getElem? (i := 3) rfl)) (hw _ (List.mem_of_getElem? (i := 4) rfl)) (hw _ (List.mem_of_getElem? (i := 2) rfl)) (hw _ (List.mem_of_getElem? (i := 5) rfl)) (by decide) (rm1 l Z a0 hw b34 h34 n0 (Nat.le_trans Z0 (K34 : Keep h0 h34 []).1) E_b34 F_size_b34 F_times_b34 F_lightpaths_b34 ge_b34) e34 (hb hby at_19) (lenOf pd_0 rfl) rfl rfl (W := 1) (Nat.le_of_eq rfl) (by decide) (by decide) (by decide) (by decide) ?_
    intro v35 T35 L35 X35 Q35
    obtain ⟨rfl, N35q, Kc35, Ec35, Fs35, u35, v35, Ft35, Fl35, Vu35, Vv35, nqu35, nqv35, nuv35, su35, sv35⟩ := Q35
    have N35 := Fr.app N0 N35q
    have E_b34_35 := E_b34.keep Kc35
    have KK35 : Keep h0 T35.heap [] := (K34 : Keep h0 h34 []).trans Kc35 (allS (Or.inr sz_b34) all0)
    have sz_u35 : h0.size ≤ u35 := Nat.le_trans (K34 : Keep h0 h34 []).1 su35
    have ge_u35 : n0 ≤ u35 := Nat.le_trans Z0 sz_u35
    have sz_v35 : h0.size ≤ v35 := Nat.le_trans (K34 : Keep h0 h34 []).1 sv35
    have ge_v35 : n0 ≤ v35 := Nat.le_trans Z0 sz_v35
    have hg35 : ∀ i, i < 0 → (fun _ => (0 : UInt64)) i = (tT p2 p3 p4) ((fun x => x) i) := fun i hi' => absurd hi' (by omega)
    have hl35 : ∀ i, i < 0 → (fun _ => (0 : Int32)) i = (tL p5) ((fun x => x) i) := fun i hi' => absurd hi' (by omega)
    have hi35 : HI (tK p2 p3 p4) (fun x => x) 0 := trivial
    show Go _ _ _ _ _ _ _ T35 (mkF m 22 #[.val (.int p0), .val (.int p1), .val (.int p2), .val (.int p3), .val (.int p4), .val (.int p5), .val (.int (2 : Int32)), .val (.int (2 : Int32)), .unset, .unset] [(.ref b34)])
    refine Go.step (fun _ k => XS.astore X35.here hx rfl (hb hby at_22) rfl rfl (l' := #[.val (.int p0), .val (.int p1), .val (.int p2), .val (.int p3), .val (.int p4), .val (.int p5), .val (.int (2 : Int32)), .val (.int (2 : Int32)), .val (.ref b34), .unset]) rfl k) ?_
    show Go _ _ _ _ _ _ _ T35 (mkF m 24 #[.val (.int p0), .val (.int p1), .val (.int p2), .val (.int p3), .val (.int p4), .val (.int p5), .val (.int (2 : Int32)), .val (.int (2 : Int32)), .val (.ref b34), .unset] [])
    refine Go.step (fun _ k => XS.aload X35.here hx rfl (hb hby at_24) rfl rfl k) ?_
    show Go _ _ _ _ _ _ _ T35 (mkF m 26 #[.val (.int p0), .val (.int p1), .val (.int p2), .val (.int p3), .val (.int p4), .val (.int p5), .val (.int (2 : Int32)), .val (.int (2 : Int32)), .val (.ref b34), .unset] [(.ref b34)])
    refine Go.callV X35 hx hZ (by rw [hml]; rfl) (y := (⟨"com/example/wavegrade/wavegrade/DepartureQueue", "isEmpty", "()Z"⟩ : MethodName)) (z := (⟨"com/example/wavegrade/wavegrade/DepartureQueue", "isEmpty", "()Z"⟩ : MethodName)) (a := b34) (argsL := []) (rest := []) hown (hw _ (List.mem_of_getElem? (i := 15) rfl)) (hw _ (List.mem_of_getElem? (i := 16) rfl)) (notFace_of_selects (args := #[]) (mvT hZ (hw _ (List.mem_of_getElem? (i := 18) rfl)))) (hw _ (List.mem_of_getElem? (i := 18) rfl)) (hw _ (List.mem_of_getElem? (i := 17) rfl)) (hw _ (List.mem_of_getElem? (i := 2) rfl)) (hw _ (List.mem_of_getElem? (i := 19) rfl)) (by decide) (rm_empty0 l Z a0 hw b34 T35.heap n0 (Nat.le_trans Z0 (KK35 : Keep h0 T35.heap []).1) Fs35) rfl Ec35 (hb hby at_26) (lenOf pd_1 rfl) rfl rfl (W := 0) (Nat.le_of_eq rfl) (by decide) (by decide) (by decide) (by decide) ?_
    intro v36 T36 L36 X36 Q36
    obtain ⟨rfl, N36q, hh36⟩ := Q36
    have N36 := Fr.app N35 N36q
    show Go _ _ _ _ _ _ _ T36 (mkF m 29 #[.val (.int p0), .val (.int p1), .val (.int p2), .val (.int p3), .val (.int p4), .val (.int p5), .val (.int (2 : Int32)), .val (.int (2 : Int32)), .val (.ref b34), .unset] [(.int (1 : Int32))])
    refine Go.step (fun _ k => XS.istore X36.here hx rfl (hb hby at_29) rfl (l' := #[.val (.int p0), .val (.int p1), .val (.int p2), .val (.int p3), .val (.int p4), .val (.int p5), .val (.int (2 : Int32)), .val (.int (2 : Int32)), .val (.ref b34), .val (.int (1 : Int32))]) rfl k) ?_
    show Go _ _ _ _ _ _ _ T36 (mkF m 31 #[.val (.int p0), .val (.int p1), .val (.int p2), .val (.int p3), .val (.int p4), .val (.int p5), .val (.int (2 : Int32)), .val (.int (2 : Int32)), .val (.ref b34), .val (.int (1 : Int32))] [])
    refine Go.step (fun _ k => XS.iload X36.here hx rfl (hb hby at_31) rfl k) ?_
    show Go _ _ _ _ _ _ _ T36 (mkF m 33 #[.val (.int p0), .val (.int p1), .val (.int p2), .val (.int p3), .val (.int p4), .val (.int p5), .val (.int (2 : Int32)), .val (.int (2 : Int32)), .val (.ref b34), .val (.int (1 : Int32))] [(.int (2 : Int32))])
    refine Go.step (fun _ k => XS.ifNo X36.here hx rfl (hb hby at_33) rfl ((if0 _ _).trans (tlt (by decide : (0 : Int32) < (2 : Int32))).2.2.2) k) ?_
    show Go _ _ _ _ _ _ _ T36 (mkF m 36 #[.val (.int p0), .val (.int p1), .val (.int p2), .val (.int p3), .val (.int p4), .val (.int p5), .val (.int (2 : Int32)), .val (.int (2 : Int32)), .val (.ref b34), .val (.int (1 : Int32))] [])
    refine Go.step (fun _ k => XS.aload X36.here hx rfl (hb hby at_36) rfl rfl k) ?_
    show Go _ _ _ _ _ _ _ T36 (mkF m 38 #[.val (.int p0), .val (.int p1), .val (.int p2), .val (.int p3), .val (.int p4), .val (.int p5), .val (.int (2 : Int32)), .val (.int (2 : Int32)), .val (.ref b34), .val (.int (1 : Int32))] [(.ref b34)])
    refine Go.step (fun _ k => XS.iloadN X36.here hx rfl (hb hby at_38) rfl k) ?_
    show Go _ _ _ _ _ _ _ T36 (mkF m 39 #[.val (.int p0), .val (.int p1), .val (.int p2), .val (.int p3), .val (.int p4), .val (.int p5), .val (.int (2 : Int32)), .val (.int (2 : Int32)), .val (.ref b34), .val (.int (1 : Int32))] [(.int p2), (.ref b34)])
    refine Go.step (fun _ k => XS.bipush X36.here hx rfl (hb hby at_39) k) ?_
    show Go _ _ _ _ _ _ _ T36 (mkF m 41 #[.val (.int p0), .val (.int p1), .val (.int p2), .val (.int p3), .val (.int p4), .val (.int p5), .val (.int (2 : Int32)), .val (.int (2 : Int32)), .val (.ref b34), .val (.int (1 : Int32))] [(.int (16 : Int32)), (.int p2), (.ref b34)])
    refine Go.step (fun _ k => iremM X36 hx rfl (hb hby at_41) rfl (by decide) k) ?_
    show Go _ _ _ _ _ _ _ T36 (mkF m 42 #[.val (.int p0), .val (.int p1), .val (.int p2), .val (.int p3), .val (.int p4), .val (.int p5), .val (.int (2 : Int32)), .val (.int (2 : Int32)), .val (.ref b34), .val (.int (1 : Int32))] [(.int (p2 % (16 : Int32))), (.ref b34)])
    refine Go.step (fun _ k => XS.i2dS X36.here hx rfl (hb hby at_42) rfl rfl k) ?_
    show Go _ _ _ _ _ _ _ T36 (mkF m 43 #[.val (.int p0), .val (.int p1), .val (.int p2), .val (.int p3), .val (.int p4), .val (.int p5), .val (.int (2 : Int32)), .val (.int (2 : Int32)), .val (.ref b34), .val (.int (1 : Int32))] [(.double (FP.i2d (p2 % (16 : Int32)))), (.ref b34)])
    refine Go.step (fun _ k => XS.iload X36.here hx rfl (hb hby at_43) rfl k) ?_
    show Go _ _ _ _ _ _ _ T36 (mkF m 45 #[.val (.int p0), .val (.int p1), .val (.int p2), .val (.int p3), .val (.int p4), .val (.int p5), .val (.int (2 : Int32)), .val (.int (2 : Int32)), .val (.ref b34), .val (.int (1 : Int32))] [(.int p5), (.double (FP.i2d (p2 % (16 : Int32)))), (.ref b34)])
    refine Go.callV X36 hx hZ (by rw [hml]; rfl) (y := (⟨"com/example/wavegrade/wavegrade/DepartureQueue", "add", "(DI)V"⟩ : MethodName)) (z := (⟨"com/example/wavegrade/wavegrade/DepartureQueue", "add", "(DI)V"⟩ : MethodName)) (a := b34) (argsL := [(.double (FP.i2d (p2 % (16 : Int32)))), (.int p5)]) (rest := []) hown (hw _ (List.mem_of_getElem? (i := 22) rfl)) (hw _ (List.mem_of_getElem? (i := 23) rfl)) (notFace_of_selects (args := #[]) (mvT hZ (hw _ (List.mem_of_getElem? (i := 25) rfl)))) (hw _ (List.mem_of_getElem? (i := 25) rfl)) (hw _ (List.mem_of_getElem? (i := 24) rfl)) (hw _ (List.mem_of_getElem? (i := 2) rfl)) (hw _ (List.mem_of_getElem? (i := 26) rfl)) (by decide) (rm_add0 l Z a0 hw b34 u35 v35 (fun _ => (0 : UInt64)) (fun _ => (0 : Int32)) (tT p2 p3 p4) (tL p5) (tK p2 p3 p4) (fun x => x) 0 T35.heap n0 (Nat.le_trans Z0 (KK35 : Keep h0 T35.heap []).1) Ec35 Fs35 Ft35 Fl35 Vu35 Vv35 nqu35 nqv35 nuv35 ge_b34 ge_u35 ge_v35 (tH p2 p3 p4) hg35 hl35 hi35) hh36 Ec35 (hb hby at_45) (lenOf pd_2 rfl) rfl rfl (W := 0) (Nat.le_of_eq rfl) (by decide) (by decide) (by decide) (by decide) ?_
    intro v37 T37 L37 X37 Q37
    obtain ⟨rfl, N37q, Kc37, Ec37, Fs37, Ft37, Fl37, g37x, l37x, a37x, Vu37, Vv37, hg37, hl37, hi37, hs37, hP37⟩ := Q37
    have N37 := Fr.app N36 N37q
    have Ec35_37 := Ec35.keep Kc37
    have KK37 : Keep h0 T37.heap [] := (KK35 : Keep h0 T35.heap []).trans Kc37 (allS (Or.inr sz_b34) (allS (Or.inr sz_u35) (allS (Or.inr sz_v35) all0)))
    show Go _ _ _ _ _ _ _ T37 (mkF m 48 #[.val (.int p0), .val (.int p1), .val (.int p2), .val (.int p3), .val (.int p4), .val (.int p5), .val (.int (2 : Int32)), .val (.int (2 : Int32)), .val (.ref b34), .val (.int (1 : Int32))] [])
    refine Go.step (fun _ k => XS.iload X37.here hx rfl (hb hby at_48) rfl k) ?_
    show Go _ _ _ _ _ _ _ T37 (mkF m 50 #[.val (.int p0), .val (.int p1), .val (.int p2), .val (.int p3), .val (.int p4), .val (.int p5), .val (.int (2 : Int32)), .val (.int (2 : Int32)), .val (.ref b34), .val (.int (1 : Int32))] [(.int (2 : Int32))])
    refine Go.step (fun _ k => XS.iconst X37.here hx rfl (hb hby at_50) k) ?_
    show Go _ _ _ _ _ _ _ T37 (mkF m 51 #[.val (.int p0), .val (.int p1), .val (.int p2), .val (.int p3), .val (.int p4), .val (.int p5), .val (.int (2 : Int32)), .val (.int (2 : Int32)), .val (.ref b34), .val (.int (1 : Int32))] [(.int (1 : Int32)), (.int (2 : Int32))])
    refine Go.step (fun _ k => XS.icmpNo X37.here hx rfl (hb hby at_51) rfl (tlt (by decide : (1 : Int32) < (2 : Int32))).2.2.2 k) ?_
    show Go _ _ _ _ _ _ _ T37 (mkF m 54 #[.val (.int p0), .val (.int p1), .val (.int p2), .val (.int p3), .val (.int p4), .val (.int p5), .val (.int (2 : Int32)), .val (.int (2 : Int32)), .val (.ref b34), .val (.int (1 : Int32))] [])
    refine Go.step (fun _ k => XS.aload X37.here hx rfl (hb hby at_54) rfl rfl k) ?_
    show Go _ _ _ _ _ _ _ T37 (mkF m 56 #[.val (.int p0), .val (.int p1), .val (.int p2), .val (.int p3), .val (.int p4), .val (.int p5), .val (.int (2 : Int32)), .val (.int (2 : Int32)), .val (.ref b34), .val (.int (1 : Int32))] [(.ref b34)])
    refine Go.step (fun _ k => XS.iloadN X37.here hx rfl (hb hby at_56) rfl k) ?_
    show Go _ _ _ _ _ _ _ T37 (mkF m 57 #[.val (.int p0), .val (.int p1), .val (.int p2), .val (.int p3), .val (.int p4), .val (.int p5), .val (.int (2 : Int32)), .val (.int (2 : Int32)), .val (.ref b34), .val (.int (1 : Int32))] [(.int p3), (.ref b34)])
    refine Go.step (fun _ k => XS.bipush X37.here hx rfl (hb hby at_57) k) ?_
    show Go _ _ _ _ _ _ _ T37 (mkF m 59 #[.val (.int p0), .val (.int p1), .val (.int p2), .val (.int p3), .val (.int p4), .val (.int p5), .val (.int (2 : Int32)), .val (.int (2 : Int32)), .val (.ref b34), .val (.int (1 : Int32))] [(.int (16 : Int32)), (.int p3), (.ref b34)])
    refine Go.step (fun _ k => iremM X37 hx rfl (hb hby at_59) rfl (by decide) k) ?_
    show Go _ _ _ _ _ _ _ T37 (mkF m 60 #[.val (.int p0), .val (.int p1), .val (.int p2), .val (.int p3), .val (.int p4), .val (.int p5), .val (.int (2 : Int32)), .val (.int (2 : Int32)), .val (.ref b34), .val (.int (1 : Int32))] [(.int (p3 % (16 : Int32))), (.ref b34)])
    refine Go.step (fun _ k => XS.i2dS X37.here hx rfl (hb hby at_60) rfl rfl k) ?_
    show Go _ _ _ _ _ _ _ T37 (mkF m 61 #[.val (.int p0), .val (.int p1), .val (.int p2), .val (.int p3), .val (.int p4), .val (.int p5), .val (.int (2 : Int32)), .val (.int (2 : Int32)), .val (.ref b34), .val (.int (1 : Int32))] [(.double (FP.i2d (p3 % (16 : Int32)))), (.ref b34)])
    refine Go.step (fun _ k => XS.iload X37.here hx rfl (hb hby at_61) rfl k) ?_
    show Go _ _ _ _ _ _ _ T37 (mkF m 63 #[.val (.int p0), .val (.int p1), .val (.int p2), .val (.int p3), .val (.int p4), .val (.int p5), .val (.int (2 : Int32)), .val (.int (2 : Int32)), .val (.ref b34), .val (.int (1 : Int32))] [(.int p5), (.double (FP.i2d (p3 % (16 : Int32)))), (.ref b34)])
    refine Go.step (fun _ k => XS.iconst X37.here hx rfl (hb hby at_63) k) ?_
    show Go _ _ _ _ _ _ _ T37 (mkF m 64 #[.val (.int p0), .val (.int p1), .val (.int p2), .val (.int p3), .val (.int p4), .val (.int p5), .val (.int (2 : Int32)), .val (.int (2 : Int32)), .val (.ref b34), .val (.int (1 : Int32))] [(.int (1 : Int32)), (.int p5), (.double (FP.i2d (p3 % (16 : Int32)))), (.ref b34)])
    refine Go.step (fun _ k => XS.iadd X37.here hx rfl (hb hby at_64) rfl k) ?_
    show Go _ _ _ _ _ _ _ T37 (mkF m 65 #[.val (.int p0), .val (.int p1), .val (.int p2), .val (.int p3), .val (.int p4), .val (.int p5), .val (.int (2 : Int32)), .val (.int (2 : Int32)), .val (.ref b34), .val (.int (1 : Int32))] [(.int (p5 + (1 : Int32))), (.double (FP.i2d (p3 % (16 : Int32)))), (.ref b34)])
    refine Go.callV X37 hx hZ (by rw [hml]; rfl) (y := (⟨"com/example/wavegrade/wavegrade/DepartureQueue", "add", "(DI)V"⟩ : MethodName)) (z := (⟨"com/example/wavegrade/wavegrade/DepartureQueue", "add", "(DI)V"⟩ : MethodName)) (a := b34) (argsL := [(.double (FP.i2d (p3 % (16 : Int32)))), (.int (p5 + (1 : Int32)))]) (rest := []) hown (hw _ (List.mem_of_getElem? (i := 22) rfl)) (hw _ (List.mem_of_getElem? (i := 23) rfl)) (notFace_of_selects (args := #[]) (mvT hZ (hw _ (List.mem_of_getElem? (i := 25) rfl)))) (hw _ (List.mem_of_getElem? (i := 25) rfl)) (hw _ (List.mem_of_getElem? (i := 24) rfl)) (hw _ (List.mem_of_getElem? (i := 2) rfl)) (hw _ (List.mem_of_getElem? (i := 26) rfl)) (by decide) (rm_add1 l Z a0 hw b34 u35 v35 g37x l37x (tT p2 p3 p4) (tL p5) (tK p2 p3 p4) a37x 1 T37.heap n0 (Nat.le_trans Z0 (KK37 : Keep h0 T37.heap []).1) Ec37 Fs37 Ft37 Fl37 Vu37 Vv37 nqu35 nqv35 nuv35 ge_b34 ge_u35 ge_v35 (tH p2 p3 p4) hg37 hl37 hi37) rfl Ec37 (hb hby at_65) (lenOf pd_2 rfl) rfl rfl (W := 0) (Nat.le_of_eq rfl) (by decide) (by decide) (by decide) (by decide) ?_
    intro v38 T38 L38 X38 Q38
    obtain ⟨rfl, N38q, Kc38, Ec38, Fs38, Ft38, Fl38, g38x, l38x, a38x, Vu38, Vv38, hg38, hl38, hi38, hs38, hP38⟩ := Q38
    have N38 := Fr.app N37 N38q
    have Ec37_38 := Ec37.keep Kc38
    have KK38 : Keep h0 T38.heap [] := (KK37 : Keep h0 T37.heap []).trans Kc38 (allS (Or.inr sz_b34) (allS (Or.inr sz_u35) (allS (Or.inr sz_v35) all0)))
    show Go _ _ _ _ _ _ _ T38 (mkF m 68 #[.val (.int p0), .val (.int p1), .val (.int p2), .val (.int p3), .val (.int p4), .val (.int p5), .val (.int (2 : Int32)), .val (.int (2 : Int32)), .val (.ref b34), .val (.int (1 : Int32))] [])
    refine Go.step (fun _ k => XS.iload X38.here hx rfl (hb hby at_68) rfl k) ?_
    show Go _ _ _ _ _ _ _ T38 (mkF m 70 #[.val (.int p0), .val (.int p1), .val (.int p2), .val (.int p3), .val (.int p4), .val (.int p5), .val (.int (2 : Int32)), .val (.int (2 : Int32)), .val (.ref b34), .val (.int (1 : Int32))] [(.int (2 : Int32))])
    refine Go.step (fun _ k => XS.iconst X38.here hx rfl (hb hby at_70) k) ?_
    show Go _ _ _ _ _ _ _ T38 (mkF m 71 #[.val (.int p0), .val (.int p1), .val (.int p2), .val (.int p3), .val (.int p4), .val (.int p5), .val (.int (2 : Int32)), .val (.int (2 : Int32)), .val (.ref b34), .val (.int (1 : Int32))] [(.int (2 : Int32)), (.int (2 : Int32))])
    refine Go.step (fun _ k => XS.icmpYes X38.here hx rfl (pc0 := 71) (pc' := 89) rfl (hb hby at_71) rfl (flt (by decide : ¬ ((2 : Int32) < (2 : Int32)))).2.2.2 (by decide) (by decide) k) ?_
    show Go _ _ _ _ _ _ _ T38 (mkF m 89 #[.val (.int p0), .val (.int p1), .val (.int p2), .val (.int p3), .val (.int p4), .val (.int p5), .val (.int (2 : Int32)), .val (.int (2 : Int32)), .val (.ref b34), .val (.int (1 : Int32))] [])
    refine Go.step (fun _ k => XS.iload X38.here hx rfl (hb hby at_89) rfl k) ?_
    show Go _ _ _ _ _ _ _ T38 (mkF m 91 #[.val (.int p0), .val (.int p1), .val (.int p2), .val (.int p3), .val (.int p4), .val (.int p5), .val (.int (2 : Int32)), .val (.int (2 : Int32)), .val (.ref b34), .val (.int (1 : Int32))] [(.int (1 : Int32))])
    refine Go.step (fun _ k => XS.ifNo X38.here hx rfl (hb hby at_91) rfl ((if0 _ _).trans (feq (by decide : ¬ ((1 : Int32) = (0 : Int32)))).1) k) ?_
    show Go _ _ _ _ _ _ _ T38 (mkF m 94 #[.val (.int p0), .val (.int p1), .val (.int p2), .val (.int p3), .val (.int p4), .val (.int p5), .val (.int (2 : Int32)), .val (.int (2 : Int32)), .val (.ref b34), .val (.int (1 : Int32))] [])
    refine Go.step (fun _ k => XS.aload X38.here hx rfl (hb hby at_94) rfl rfl k) ?_
    show Go _ _ _ _ _ _ _ T38 (mkF m 96 #[.val (.int p0), .val (.int p1), .val (.int p2), .val (.int p3), .val (.int p4), .val (.int p5), .val (.int (2 : Int32)), .val (.int (2 : Int32)), .val (.ref b34), .val (.int (1 : Int32))] [(.ref b34)])
    refine Go.callV X38 hx hZ (by rw [hml]; rfl) (y := (⟨"com/example/wavegrade/wavegrade/DepartureQueue", "isEmpty", "()Z"⟩ : MethodName)) (z := (⟨"com/example/wavegrade/wavegrade/DepartureQueue", "isEmpty", "()Z"⟩ : MethodName)) (a := b34) (argsL := []) (rest := []) hown (hw _ (List.mem_of_getElem? (i := 15) rfl)) (hw _ (List.mem_of_getElem? (i := 16) rfl)) (notFace_of_selects (args := #[]) (mvT hZ (hw _ (List.mem_of_getElem? (i := 18) rfl)))) (hw _ (List.mem_of_getElem? (i := 18) rfl)) (hw _ (List.mem_of_getElem? (i := 17) rfl)) (hw _ (List.mem_of_getElem? (i := 2) rfl)) (hw _ (List.mem_of_getElem? (i := 19) rfl)) (by decide) (rm_empty2 l Z a0 hw b34 T38.heap n0 (Nat.le_trans Z0 (KK38 : Keep h0 T38.heap []).1) Fs38) rfl Ec38 (hb hby at_96) (lenOf pd_1 rfl) rfl rfl (W := 0) (Nat.le_of_eq rfl) (by decide) (by decide) (by decide) (by decide) ?_
    intro v39 T39 L39 X39 Q39
    obtain ⟨rfl, N39q, hh39⟩ := Q39
    have N39 := Fr.app N38 N39q
    show Go _ _ _ _ _ _ _ T39 (mkF m 99 #[.val (.int p0), .val (.int p1), .val (.int p2), .val (.int p3), .val (.int p4), .val (.int p5), .val (.int (2 : Int32)), .val (.int (2 : Int32)), .val (.ref b34), .val (.int (1 : Int32))] [(.int (0 : Int32))])
    refine Go.step (fun _ k => XS.iload X39.here hx rfl (hb hby at_99) rfl k) ?_
    show Go _ _ _ _ _ _ _ T39 (mkF m 101 #[.val (.int p0), .val (.int p1), .val (.int p2), .val (.int p3), .val (.int p4), .val (.int p5), .val (.int (2 : Int32)), .val (.int (2 : Int32)), .val (.ref b34), .val (.int (1 : Int32))] [(.int (2 : Int32)), (.int (0 : Int32))])
    refine Go.step (fun _ k => XS.ifYes X39.here hx rfl (pc0 := 101) (pc' := 108) rfl (hb hby at_101) rfl ((if0 _ _).trans (feq (by decide : ¬ ((2 : Int32) = (0 : Int32)))).2) (by decide) (by decide) k) ?_
    show Go _ _ _ _ _ _ _ T39 (mkF m 108 #[.val (.int p0), .val (.int p1), .val (.int p2), .val (.int p3), .val (.int p4), .val (.int p5), .val (.int (2 : Int32)), .val (.int (2 : Int32)), .val (.ref b34), .val (.int (1 : Int32))] [(.int (0 : Int32))])
    refine Go.step (fun _ k => XS.iconst X39.here hx rfl (hb hby at_108) k) ?_
    show Go _ _ _ _ _ _ _ T39 (mkF m 109 #[.val (.int p0), .val (.int p1), .val (.int p2), .val (.int p3), .val (.int p4), .val (.int p5), .val (.int (2 : Int32)), .val (.int (2 : Int32)), .val (.ref b34), .val (.int (1 : Int32))] [(.int (0 : Int32)), (.int (0 : Int32))])
    refine Go.step (fun _ k => XS.icmpNo X39.here hx rfl (hb hby at_109) rfl (teq (by decide : (0 : Int32) = (0 : Int32))).2 k) ?_
    show Go _ _ _ _ _ _ _ T39 (mkF m 112 #[.val (.int p0), .val (.int p1), .val (.int p2), .val (.int p3), .val (.int p4), .val (.int p5), .val (.int (2 : Int32)), .val (.int (2 : Int32)), .val (.ref b34), .val (.int (1 : Int32))] [])
    refine Go.step (fun _ k => XS.iconst X39.here hx rfl (hb hby at_112) k) ?_
    show Go _ _ _ _ _ _ _ T39 (mkF m 113 #[.val (.int p0), .val (.int p1), .val (.int p2), .val (.int p3), .val (.int p4), .val (.int p5), .val (.int (2 : Int32)), .val (.int (2 : Int32)), .val (.ref b34), .val (.int (1 : Int32))] [(.int (1 : Int32))])
    refine Go.step (fun _ k => XS.goto X39.here hx rfl (pc0 := 113) (pc' := 117) rfl (hb hby at_113) (by decide) (by decide) k) ?_
    show Go _ _ _ _ _ _ _ T39 (mkF m 117 #[.val (.int p0), .val (.int p1), .val (.int p2), .val (.int p3), .val (.int p4), .val (.int p5), .val (.int (2 : Int32)), .val (.int (2 : Int32)), .val (.ref b34), .val (.int (1 : Int32))] [(.int (1 : Int32))])
    refine Go.step (fun _ k => XS.istore X39.here hx rfl (hb hby at_117) rfl (l' := #[.val (.int p0), .val (.int p1), .val (.int p2), .val (.int p3), .val (.int p4), .val (.int p5), .val (.int (2 : Int32)), .val (.int (2 : Int32)), .val (.ref b34), .val (.int (1 : Int32))]) rfl k) ?_
    show Go _ _ _ _ _ _ _ T39 (mkF m 119 #[.val (.int p0), .val (.int p1), .val (.int p2), .val (.int p3), .val (.int p4), .val (.int p5), .val (.int (2 : Int32)), .val (.int (2 : Int32)), .val (.ref b34), .val (.int (1 : Int32))] [])
    refine Go.step (fun _ k => XS.iload X39.here hx rfl (hb hby at_119) rfl k) ?_
    show Go _ _ _ _ _ _ _ T39 (mkF m 121 #[.val (.int p0), .val (.int p1), .val (.int p2), .val (.int p3), .val (.int p4), .val (.int p5), .val (.int (2 : Int32)), .val (.int (2 : Int32)), .val (.ref b34), .val (.int (1 : Int32))] [(.int (2 : Int32))])
    refine Go.step (fun _ k => XS.ifNo X39.here hx rfl (hb hby at_121) rfl ((if0 _ _).trans (tlt (by decide : (0 : Int32) < (2 : Int32))).2.2.2) k) ?_
    show Go _ _ _ _ _ _ _ T39 (mkF m 124 #[.val (.int p0), .val (.int p1), .val (.int p2), .val (.int p3), .val (.int p4), .val (.int p5), .val (.int (2 : Int32)), .val (.int (2 : Int32)), .val (.ref b34), .val (.int (1 : Int32))] [])
    refine Go.step (fun _ k => XS.aload X39.here hx rfl (hb hby at_124) rfl rfl k) ?_
    show Go _ _ _ _ _ _ _ T39 (mkF m 126 #[.val (.int p0), .val (.int p1), .val (.int p2), .val (.int p3), .val (.int p4), .val (.int p5), .val (.int (2 : Int32)), .val (.int (2 : Int32)), .val (.ref b34), .val (.int (1 : Int32))] [(.ref b34)])
    refine Go.callV X39 hx hZ (by rw [hml]; rfl) (y := (⟨"com/example/wavegrade/wavegrade/DepartureQueue", "removeFirst", "()I"⟩ : MethodName)) (z := (⟨"com/example/wavegrade/wavegrade/DepartureQueue", "removeFirst", "()I"⟩ : MethodName)) (a := b34) (argsL := []) (rest := []) hown (hw _ (List.mem_of_getElem? (i := 27) rfl)) (hw _ (List.mem_of_getElem? (i := 28) rfl)) (notFace_of_selects (args := #[]) (mvT hZ (hw _ (List.mem_of_getElem? (i := 30) rfl)))) (hw _ (List.mem_of_getElem? (i := 30) rfl)) (hw _ (List.mem_of_getElem? (i := 29) rfl)) (hw _ (List.mem_of_getElem? (i := 2) rfl)) (hw _ (List.mem_of_getElem? (i := 31) rfl)) (by decide) (rm_rem2 l Z a0 hw b34 u35 v35 g38x l38x (tT p2 p3 p4) (tL p5) (tK p2 p3 p4) a38x T38.heap n0 (Nat.le_trans Z0 (KK38 : Keep h0 T38.heap []).1) Ec38 Fs38 Ft38 Fl38 Vu38 Vv38 nqu35 nqv35 nuv35 ge_b34 ge_u35 ge_v35 (tH p2 p3 p4) hg38 hl38 hi38) hh39 Ec38 (hb hby at_126) (lenOf pd_3 rfl) rfl rfl (W := 0) (Nat.le_of_eq rfl) (by decide) (by decide) (by decide) (by decide) ?_
    intro v40 T40 L40 X40 Q40
    obtain ⟨rfl, N40q, Kc40, Ec40, Fs40, Ft40, Fl40, g40x, l40x, a40x, Vu40, Vv40, hg40, hl40, hi40, ⟨hm40, hs40⟩, hP40⟩ := Q40
    have N40 := Fr.app N39 N40q
    have Ec38_40 := Ec38.keep Kc40
    have KK40 : Keep h0 T40.heap [] := (KK38 : Keep h0 T38.heap []).trans Kc40 (allS (Or.inr sz_b34) (allS (Or.inr sz_u35) (allS (Or.inr sz_v35) all0)))
    show Go _ _ _ _ _ _ _ T40 (mkF m 129 #[.val (.int p0), .val (.int p1), .val (.int p2), .val (.int p3), .val (.int p4), .val (.int p5), .val (.int (2 : Int32)), .val (.int (2 : Int32)), .val (.ref b34), .val (.int (1 : Int32))] [(.int ((tL p5) (a38x 0)))])
    refine Go.step (fun _ k => XS.pop X40.here hx rfl (hb hby at_129) rfl rfl k) ?_
    show Go _ _ _ _ _ _ _ T40 (mkF m 130 #[.val (.int p0), .val (.int p1), .val (.int p2), .val (.int p3), .val (.int p4), .val (.int p5), .val (.int (2 : Int32)), .val (.int (2 : Int32)), .val (.ref b34), .val (.int (1 : Int32))] [])
    refine Go.step (fun _ k => XS.iload X40.here hx rfl (hb hby at_130) rfl k) ?_
    show Go _ _ _ _ _ _ _ T40 (mkF m 132 #[.val (.int p0), .val (.int p1), .val (.int p2), .val (.int p3), .val (.int p4), .val (.int p5), .val (.int (2 : Int32)), .val (.int (2 : Int32)), .val (.ref b34), .val (.int (1 : Int32))] [(.int (2 : Int32))])
    refine Go.step (fun _ k => XS.iconst X40.here hx rfl (hb hby at_132) k) ?_
    show Go _ _ _ _ _ _ _ T40 (mkF m 133 #[.val (.int p0), .val (.int p1), .val (.int p2), .val (.int p3), .val (.int p4), .val (.int p5), .val (.int (2 : Int32)), .val (.int (2 : Int32)), .val (.ref b34), .val (.int (1 : Int32))] [(.int (1 : Int32)), (.int (2 : Int32))])
    refine Go.step (fun _ k => XS.icmpNo X40.here hx rfl (hb hby at_133) rfl (tlt (by decide : (1 : Int32) < (2 : Int32))).2.2.2 k) ?_
    show Go _ _ _ _ _ _ _ T40 (mkF m 136 #[.val (.int p0), .val (.int p1), .val (.int p2), .val (.int p3), .val (.int p4), .val (.int p5), .val (.int (2 : Int32)), .val (.int (2 : Int32)), .val (.ref b34), .val (.int (1 : Int32))] [])
    refine Go.step (fun _ k => XS.aload X40.here hx rfl (hb hby at_136) rfl rfl k) ?_
    show Go _ _ _ _ _ _ _ T40 (mkF m 138 #[.val (.int p0), .val (.int p1), .val (.int p2), .val (.int p3), .val (.int p4), .val (.int p5), .val (.int (2 : Int32)), .val (.int (2 : Int32)), .val (.ref b34), .val (.int (1 : Int32))] [(.ref b34)])
    refine Go.callV X40 hx hZ (by rw [hml]; rfl) (y := (⟨"com/example/wavegrade/wavegrade/DepartureQueue", "removeFirst", "()I"⟩ : MethodName)) (z := (⟨"com/example/wavegrade/wavegrade/DepartureQueue", "removeFirst", "()I"⟩ : MethodName)) (a := b34) (argsL := []) (rest := []) hown (hw _ (List.mem_of_getElem? (i := 27) rfl)) (hw _ (List.mem_of_getElem? (i := 28) rfl)) (notFace_of_selects (args := #[]) (mvT hZ (hw _ (List.mem_of_getElem? (i := 30) rfl)))) (hw _ (List.mem_of_getElem? (i := 30) rfl)) (hw _ (List.mem_of_getElem? (i := 29) rfl)) (hw _ (List.mem_of_getElem? (i := 2) rfl)) (hw _ (List.mem_of_getElem? (i := 31) rfl)) (by decide) (rm_rem1 l Z a0 hw b34 u35 v35 g40x l40x (tT p2 p3 p4) (tL p5) (tK p2 p3 p4) a40x T40.heap n0 (Nat.le_trans Z0 (KK40 : Keep h0 T40.heap []).1) Ec40 Fs40 Ft40 Fl40 Vu40 Vv40 nqu35 nqv35 nuv35 ge_b34 ge_u35 ge_v35 (tH p2 p3 p4) hg40 hl40 hi40) rfl Ec40 (hb hby at_138) (lenOf pd_3 rfl) rfl rfl (W := 0) (Nat.le_of_eq rfl) (by decide) (by decide) (by decide) (by decide) ?_
    intro v41 T41 L41 X41 Q41
    obtain ⟨rfl, N41q, Kc41, Ec41, Fs41, Ft41, Fl41, g41x, l41x, a41x, Vu41, Vv41, hg41, hl41, hi41, ⟨hm41, hs41⟩, hP41⟩ := Q41
    have N41 := Fr.app N40 N41q
    have Ec40_41 := Ec40.keep Kc41
    have KK41 : Keep h0 T41.heap [] := (KK40 : Keep h0 T40.heap []).trans Kc41 (allS (Or.inr sz_b34) (allS (Or.inr sz_u35) (allS (Or.inr sz_v35) all0)))
    show Go _ _ _ _ _ _ _ T41 (mkF m 141 #[.val (.int p0), .val (.int p1), .val (.int p2), .val (.int p3), .val (.int p4), .val (.int p5), .val (.int (2 : Int32)), .val (.int (2 : Int32)), .val (.ref b34), .val (.int (1 : Int32))] [(.int ((tL p5) (a40x 0)))])
    refine Go.step (fun _ k => XS.pop X41.here hx rfl (hb hby at_141) rfl rfl k) ?_
    show Go _ _ _ _ _ _ _ T41 (mkF m 142 #[.val (.int p0), .val (.int p1), .val (.int p2), .val (.int p3), .val (.int p4), .val (.int p5), .val (.int (2 : Int32)), .val (.int (2 : Int32)), .val (.ref b34), .val (.int (1 : Int32))] [])
    refine Go.step (fun _ k => XS.iload X41.here hx rfl (hb hby at_142) rfl k) ?_
    show Go _ _ _ _ _ _ _ T41 (mkF m 144 #[.val (.int p0), .val (.int p1), .val (.int p2), .val (.int p3), .val (.int p4), .val (.int p5), .val (.int (2 : Int32)), .val (.int (2 : Int32)), .val (.ref b34), .val (.int (1 : Int32))] [(.int (2 : Int32))])
    refine Go.step (fun _ k => XS.iconst X41.here hx rfl (hb hby at_144) k) ?_
    show Go _ _ _ _ _ _ _ T41 (mkF m 145 #[.val (.int p0), .val (.int p1), .val (.int p2), .val (.int p3), .val (.int p4), .val (.int p5), .val (.int (2 : Int32)), .val (.int (2 : Int32)), .val (.ref b34), .val (.int (1 : Int32))] [(.int (2 : Int32)), (.int (2 : Int32))])
    refine Go.step (fun _ k => XS.icmpYes X41.here hx rfl (pc0 := 145) (pc' := 154) rfl (hb hby at_145) rfl (flt (by decide : ¬ ((2 : Int32) < (2 : Int32)))).2.2.2 (by decide) (by decide) k) ?_
    show Go _ _ _ _ _ _ _ T41 (mkF m 154 #[.val (.int p0), .val (.int p1), .val (.int p2), .val (.int p3), .val (.int p4), .val (.int p5), .val (.int (2 : Int32)), .val (.int (2 : Int32)), .val (.ref b34), .val (.int (1 : Int32))] [])
    refine Go.step (fun _ k => XS.iload X41.here hx rfl (hb hby at_154) rfl k) ?_
    show Go _ _ _ _ _ _ _ T41 (mkF m 156 #[.val (.int p0), .val (.int p1), .val (.int p2), .val (.int p3), .val (.int p4), .val (.int p5), .val (.int (2 : Int32)), .val (.int (2 : Int32)), .val (.ref b34), .val (.int (1 : Int32))] [(.int (1 : Int32))])
    refine Go.step (fun _ k => XS.ifNo X41.here hx rfl (hb hby at_156) rfl ((if0 _ _).trans (feq (by decide : ¬ ((1 : Int32) = (0 : Int32)))).1) k) ?_
    show Go _ _ _ _ _ _ _ T41 (mkF m 159 #[.val (.int p0), .val (.int p1), .val (.int p2), .val (.int p3), .val (.int p4), .val (.int p5), .val (.int (2 : Int32)), .val (.int (2 : Int32)), .val (.ref b34), .val (.int (1 : Int32))] [])
    refine Go.step (fun _ k => XS.aload X41.here hx rfl (hb hby at_159) rfl rfl k) ?_
    show Go _ _ _ _ _ _ _ T41 (mkF m 161 #[.val (.int p0), .val (.int p1), .val (.int p2), .val (.int p3), .val (.int p4), .val (.int p5), .val (.int (2 : Int32)), .val (.int (2 : Int32)), .val (.ref b34), .val (.int (1 : Int32))] [(.ref b34)])
    refine Go.callV X41 hx hZ (by rw [hml]; rfl) (y := (⟨"com/example/wavegrade/wavegrade/DepartureQueue", "isEmpty", "()Z"⟩ : MethodName)) (z := (⟨"com/example/wavegrade/wavegrade/DepartureQueue", "isEmpty", "()Z"⟩ : MethodName)) (a := b34) (argsL := []) (rest := []) hown (hw _ (List.mem_of_getElem? (i := 15) rfl)) (hw _ (List.mem_of_getElem? (i := 16) rfl)) (notFace_of_selects (args := #[]) (mvT hZ (hw _ (List.mem_of_getElem? (i := 18) rfl)))) (hw _ (List.mem_of_getElem? (i := 18) rfl)) (hw _ (List.mem_of_getElem? (i := 17) rfl)) (hw _ (List.mem_of_getElem? (i := 2) rfl)) (hw _ (List.mem_of_getElem? (i := 19) rfl)) (by decide) (rm_empty0 l Z a0 hw b34 T41.heap n0 (Nat.le_trans Z0 (KK41 : Keep h0 T41.heap []).1) Fs41) rfl Ec41 (hb hby at_161) (lenOf pd_1 rfl) rfl rfl (W := 0) (Nat.le_of_eq rfl) (by decide) (by decide) (by decide) (by decide) ?_
    intro v42 T42 L42 X42 Q42
    obtain ⟨rfl, N42q, hh42⟩ := Q42
    have N42 := Fr.app N41 N42q
    show Go _ _ _ _ _ _ _ T42 (mkF m 164 #[.val (.int p0), .val (.int p1), .val (.int p2), .val (.int p3), .val (.int p4), .val (.int p5), .val (.int (2 : Int32)), .val (.int (2 : Int32)), .val (.ref b34), .val (.int (1 : Int32))] [(.int (1 : Int32))])
    refine Go.step (fun _ k => XS.iload X42.here hx rfl (hb hby at_164) rfl k) ?_
    show Go _ _ _ _ _ _ _ T42 (mkF m 166 #[.val (.int p0), .val (.int p1), .val (.int p2), .val (.int p3), .val (.int p4), .val (.int p5), .val (.int (2 : Int32)), .val (.int (2 : Int32)), .val (.ref b34), .val (.int (1 : Int32))] [(.int (2 : Int32)), (.int (1 : Int32))])
    refine Go.step (fun _ k => XS.iload X42.here hx rfl (hb hby at_166) rfl k) ?_
    show Go _ _ _ _ _ _ _ T42 (mkF m 168 #[.val (.int p0), .val (.int p1), .val (.int p2), .val (.int p3), .val (.int p4), .val (.int p5), .val (.int (2 : Int32)), .val (.int (2 : Int32)), .val (.ref b34), .val (.int (1 : Int32))] [(.int (2 : Int32)), (.int (2 : Int32)), (.int (1 : Int32))])
    refine Go.step (fun _ k => XS.isub X42.here hx rfl (hb hby at_168) rfl k) ?_
    show Go _ _ _ _ _ _ _ T42 (mkF m 169 #[.val (.int p0), .val (.int p1), .val (.int p2), .val (.int p3), .val (.int p4), .val (.int p5), .val (.int (2 : Int32)), .val (.int (2 : Int32)), .val (.ref b34), .val (.int (1 : Int32))] [(.int (0 : Int32)), (.int (1 : Int32))])
    refine Go.step (fun _ k => XS.ifNo X42.here hx rfl (hb hby at_169) rfl ((if0 _ _).trans (teq (by decide : (0 : Int32) = (0 : Int32))).2) k) ?_
    show Go _ _ _ _ _ _ _ T42 (mkF m 172 #[.val (.int p0), .val (.int p1), .val (.int p2), .val (.int p3), .val (.int p4), .val (.int p5), .val (.int (2 : Int32)), .val (.int (2 : Int32)), .val (.ref b34), .val (.int (1 : Int32))] [(.int (1 : Int32))])
    refine Go.step (fun _ k => XS.iconst X42.here hx rfl (hb hby at_172) k) ?_
    show Go _ _ _ _ _ _ _ T42 (mkF m 173 #[.val (.int p0), .val (.int p1), .val (.int p2), .val (.int p3), .val (.int p4), .val (.int p5), .val (.int (2 : Int32)), .val (.int (2 : Int32)), .val (.ref b34), .val (.int (1 : Int32))] [(.int (1 : Int32)), (.int (1 : Int32))])
    refine Go.step (fun _ k => XS.goto X42.here hx rfl (pc0 := 173) (pc' := 177) rfl (hb hby at_173) (by decide) (by decide) k) ?_
    show Go _ _ _ _ _ _ _ T42 (mkF m 177 #[.val (.int p0), .val (.int p1), .val (.int p2), .val (.int p3), .val (.int p4), .val (.int p5), .val (.int (2 : Int32)), .val (.int (2 : Int32)), .val (.ref b34), .val (.int (1 : Int32))] [(.int (1 : Int32)), (.int (1 : Int32))])
    refine Go.step (fun _ k => XS.icmpNo X42.here hx rfl (hb hby at_177) rfl (teq (by decide : (1 : Int32) = (1 : Int32))).2 k) ?_
    show Go _ _ _ _ _ _ _ T42 (mkF m 180 #[.val (.int p0), .val (.int p1), .val (.int p2), .val (.int p3), .val (.int p4), .val (.int p5), .val (.int (2 : Int32)), .val (.int (2 : Int32)), .val (.ref b34), .val (.int (1 : Int32))] [])
    refine Go.step (fun _ k => XS.iconst X42.here hx rfl (hb hby at_180) k) ?_
    show Go _ _ _ _ _ _ _ T42 (mkF m 181 #[.val (.int p0), .val (.int p1), .val (.int p2), .val (.int p3), .val (.int p4), .val (.int p5), .val (.int (2 : Int32)), .val (.int (2 : Int32)), .val (.ref b34), .val (.int (1 : Int32))] [(.int (1 : Int32))])
    refine Go.step (fun _ k => XS.goto X42.here hx rfl (pc0 := 181) (pc' := 185) rfl (hb hby at_181) (by decide) (by decide) k) ?_
    show Go _ _ _ _ _ _ _ T42 (mkF m 185 #[.val (.int p0), .val (.int p1), .val (.int p2), .val (.int p3), .val (.int p4), .val (.int p5), .val (.int (2 : Int32)), .val (.int (2 : Int32)), .val (.ref b34), .val (.int (1 : Int32))] [(.int (1 : Int32))])
    refine Go.step (fun _ k => XS.istore X42.here hx rfl (hb hby at_185) rfl (l' := #[.val (.int p0), .val (.int p1), .val (.int p2), .val (.int p3), .val (.int p4), .val (.int p5), .val (.int (2 : Int32)), .val (.int (2 : Int32)), .val (.ref b34), .val (.int (1 : Int32))]) rfl k) ?_
    show Go _ _ _ _ _ _ _ T42 (mkF m 187 #[.val (.int p0), .val (.int p1), .val (.int p2), .val (.int p3), .val (.int p4), .val (.int p5), .val (.int (2 : Int32)), .val (.int (2 : Int32)), .val (.ref b34), .val (.int (1 : Int32))] [])
    refine Go.step (fun _ k => XS.iload X42.here hx rfl (hb hby at_187) rfl k) ?_
    show Go _ _ _ _ _ _ _ T42 (mkF m 189 #[.val (.int p0), .val (.int p1), .val (.int p2), .val (.int p3), .val (.int p4), .val (.int p5), .val (.int (2 : Int32)), .val (.int (2 : Int32)), .val (.ref b34), .val (.int (1 : Int32))] [(.int (1 : Int32))])
    refine Go.retZ X42 hx hlk hret (by decide) (hb hby at_189) (by decide) (by decide) ?_
    try rw [hh42]
    exact ⟨rfl, N42⟩
  · show Go _ _ _ _ _ _ _ T0 (mkF m 15 #[.val (.int p0), .val (.int p1), .val (.int p2), .val (.int p3), .val (.int p4), .val (.int p5), .val (.int (3 : Int32)), .val (.int (0 : Int32)), .unset, .unset] [])
    obtain ⟨T43, h43, X43, e43, E43, A43, D43, -, st43⟩ := newO X0 hx hZ hown (hw _ (List.mem_of_getElem? (i := 0) rfl)) (hw _ (List.mem_of_getElem? (i := 1) rfl)) (hw _ (List.mem_of_getElem? (i := 2) rfl)) e0 (g := (mkF m 15 #[.val (.int p0), .val (.int p1), .val (.int p2), .val (.int p3), .val (.int p4), .val (.int p5), .val (.int (3 : Int32)), .val (.int (0 : Int32)), .unset, .unset] [])) rfl (hb hby at_15) (by decide) (by decide)
    obtain ⟨b43, g43⟩ : ∃ z, z = h0.size := ⟨_, rfl⟩
    rw [← g43] at A43 D43 st43
    refine Go.step st43 ?_
    have K43 : Keep h0 h43 [] := (Keep.refl h0 []).ext E43
    have sz_b43 : h0.size ≤ b43 := Nat.le_trans ((Keep.refl h0 []) : Keep h0 h0 []).1 (Nat.le_of_eq g43.symm)
    have ge_b43 : n0 ≤ b43 := Nat.le_trans Z0 sz_b43
    have E_b43 := A43
    have F_times_b43 : Fld Z h43 b43 "com/example/wavegrade/wavegrade/DepartureQueue" "times" "[D" .null := D43 (Or.inl (hw _ (List.mem_of_getElem? (i := 11) rfl))) (ty := (.array .double)) (by decide)
    have F_lightpaths_b43 : Fld Z h43 b43 "com/example/wavegrade/wavegrade/DepartureQueue" "lightpaths" "[I" .null := D43 (Or.inl (hw _ (List.mem_of_getElem? (i := 14) rfl))) (ty := (.array .int)) (by decide)
    have F_size_b43 : Fld Z h43 b43 "com/example/wavegrade/wavegrade/DepartureQueue" "size" "I" (.int (0 : Int32)) := D43 (Or.inl (hw _ (List.mem_of_getElem? (i := 21) rfl))) (ty := .int) (by decide)
    show Go _ _ _ _ _ _ _ T43 (mkF m 18 #[.val (.int p0), .val (.int p1), .val (.int p2), .val (.int p3), .val (.int p4), .val (.int p5), .val (.int (3 : Int32)), .val (.int (0 : Int32)), .unset, .unset] [(.ref b43)])
    refine Go.step (fun _ k => XS.dup X43.here hx rfl (hb hby at_18) rfl rfl k) ?_
    show Go _ _ _ _ _ _ _ T43 (mkF m 19 #[.val (.int p0), .val (.int p1), .val (.int p2), .val (.int p3), .val (.int p4), .val (.int p5), .val (.int (3 : Int32)), .val (.int (0 : Int32)), .unset, .unset] [(.ref b43), (.ref b43)])
    refine Go.callI X43 hx hZ (by rw [hml]; rfl) (y := (⟨"com/example/wavegrade/wavegrade/DepartureQueue", "<init>", "()V"⟩ : MethodName)) (a := b43) (argsL := []) (rest := [(.ref b43)]) rfl hown (hw _ (List.mem_of_getElem? (i := 3) rfl)) (hw _ (List.mem_of_getElem? (i := 4) rfl)) (hw _ (List.mem_of_getElem? (i := 2) rfl)) (hw _ (List.mem_of_getElem? (i := 5) rfl)) (by decide) (rm1 l Z a0 hw b43 h43 n0 (Nat.le_trans Z0 (K43 : Keep h0 h43 []).1) E_b43 F_size_b43 F_times_b43 F_lightpaths_b43 ge_b43) e43 (hb hby at_19) (lenOf pd_0 rfl) rfl rfl (W := 1) (Nat.le_of_eq rfl) (by decide) (by decide) (by decide) (by decide) ?_
    intro v44 T44 L44 X44 Q44
    obtain ⟨rfl, N44q, Kc44, Ec44, Fs44, u44, v44, Ft44, Fl44, Vu44, Vv44, nqu44, nqv44, nuv44, su44, sv44⟩ := Q44
    have N44 := Fr.app N0 N44q
    have E_b43_44 := E_b43.keep Kc44
    have KK44 : Keep h0 T44.heap [] := (K43 : Keep h0 h43 []).trans Kc44 (allS (Or.inr sz_b43) all0)
    have sz_u44 : h0.size ≤ u44 := Nat.le_trans (K43 : Keep h0 h43 []).1 su44
    have ge_u44 : n0 ≤ u44 := Nat.le_trans Z0 sz_u44
    have sz_v44 : h0.size ≤ v44 := Nat.le_trans (K43 : Keep h0 h43 []).1 sv44
    have ge_v44 : n0 ≤ v44 := Nat.le_trans Z0 sz_v44
    have hg44 : ∀ i, i < 0 → (fun _ => (0 : UInt64)) i = (tT p2 p3 p4) ((fun x => x) i) := fun i hi' => absurd hi' (by omega)
    have hl44 : ∀ i, i < 0 → (fun _ => (0 : Int32)) i = (tL p5) ((fun x => x) i) := fun i hi' => absurd hi' (by omega)
    have hi44 : HI (tK p2 p3 p4) (fun x => x) 0 := trivial
    show Go _ _ _ _ _ _ _ T44 (mkF m 22 #[.val (.int p0), .val (.int p1), .val (.int p2), .val (.int p3), .val (.int p4), .val (.int p5), .val (.int (3 : Int32)), .val (.int (0 : Int32)), .unset, .unset] [(.ref b43)])
    refine Go.step (fun _ k => XS.astore X44.here hx rfl (hb hby at_22) rfl rfl (l' := #[.val (.int p0), .val (.int p1), .val (.int p2), .val (.int p3), .val (.int p4), .val (.int p5), .val (.int (3 : Int32)), .val (.int (0 : Int32)), .val (.ref b43), .unset]) rfl k) ?_
    show Go _ _ _ _ _ _ _ T44 (mkF m 24 #[.val (.int p0), .val (.int p1), .val (.int p2), .val (.int p3), .val (.int p4), .val (.int p5), .val (.int (3 : Int32)), .val (.int (0 : Int32)), .val (.ref b43), .unset] [])
    refine Go.step (fun _ k => XS.aload X44.here hx rfl (hb hby at_24) rfl rfl k) ?_
    show Go _ _ _ _ _ _ _ T44 (mkF m 26 #[.val (.int p0), .val (.int p1), .val (.int p2), .val (.int p3), .val (.int p4), .val (.int p5), .val (.int (3 : Int32)), .val (.int (0 : Int32)), .val (.ref b43), .unset] [(.ref b43)])
    refine Go.callV X44 hx hZ (by rw [hml]; rfl) (y := (⟨"com/example/wavegrade/wavegrade/DepartureQueue", "isEmpty", "()Z"⟩ : MethodName)) (z := (⟨"com/example/wavegrade/wavegrade/DepartureQueue", "isEmpty", "()Z"⟩ : MethodName)) (a := b43) (argsL := []) (rest := []) hown (hw _ (List.mem_of_getElem? (i := 15) rfl)) (hw _ (List.mem_of_getElem? (i := 16) rfl)) (notFace_of_selects (args := #[]) (mvT hZ (hw _ (List.mem_of_getElem? (i := 18) rfl)))) (hw _ (List.mem_of_getElem? (i := 18) rfl)) (hw _ (List.mem_of_getElem? (i := 17) rfl)) (hw _ (List.mem_of_getElem? (i := 2) rfl)) (hw _ (List.mem_of_getElem? (i := 19) rfl)) (by decide) (rm_empty0 l Z a0 hw b43 T44.heap n0 (Nat.le_trans Z0 (KK44 : Keep h0 T44.heap []).1) Fs44) rfl Ec44 (hb hby at_26) (lenOf pd_1 rfl) rfl rfl (W := 0) (Nat.le_of_eq rfl) (by decide) (by decide) (by decide) (by decide) ?_
    intro v45 T45 L45 X45 Q45
    obtain ⟨rfl, N45q, hh45⟩ := Q45
    have N45 := Fr.app N44 N45q
    show Go _ _ _ _ _ _ _ T45 (mkF m 29 #[.val (.int p0), .val (.int p1), .val (.int p2), .val (.int p3), .val (.int p4), .val (.int p5), .val (.int (3 : Int32)), .val (.int (0 : Int32)), .val (.ref b43), .unset] [(.int (1 : Int32))])
    refine Go.step (fun _ k => XS.istore X45.here hx rfl (hb hby at_29) rfl (l' := #[.val (.int p0), .val (.int p1), .val (.int p2), .val (.int p3), .val (.int p4), .val (.int p5), .val (.int (3 : Int32)), .val (.int (0 : Int32)), .val (.ref b43), .val (.int (1 : Int32))]) rfl k) ?_
    show Go _ _ _ _ _ _ _ T45 (mkF m 31 #[.val (.int p0), .val (.int p1), .val (.int p2), .val (.int p3), .val (.int p4), .val (.int p5), .val (.int (3 : Int32)), .val (.int (0 : Int32)), .val (.ref b43), .val (.int (1 : Int32))] [])
    refine Go.step (fun _ k => XS.iload X45.here hx rfl (hb hby at_31) rfl k) ?_
    show Go _ _ _ _ _ _ _ T45 (mkF m 33 #[.val (.int p0), .val (.int p1), .val (.int p2), .val (.int p3), .val (.int p4), .val (.int p5), .val (.int (3 : Int32)), .val (.int (0 : Int32)), .val (.ref b43), .val (.int (1 : Int32))] [(.int (3 : Int32))])
    refine Go.step (fun _ k => XS.ifNo X45.here hx rfl (hb hby at_33) rfl ((if0 _ _).trans (tlt (by decide : (0 : Int32) < (3 : Int32))).2.2.2) k) ?_
    show Go _ _ _ _ _ _ _ T45 (mkF m 36 #[.val (.int p0), .val (.int p1), .val (.int p2), .val (.int p3), .val (.int p4), .val (.int p5), .val (.int (3 : Int32)), .val (.int (0 : Int32)), .val (.ref b43), .val (.int (1 : Int32))] [])
    refine Go.step (fun _ k => XS.aload X45.here hx rfl (hb hby at_36) rfl rfl k) ?_
    show Go _ _ _ _ _ _ _ T45 (mkF m 38 #[.val (.int p0), .val (.int p1), .val (.int p2), .val (.int p3), .val (.int p4), .val (.int p5), .val (.int (3 : Int32)), .val (.int (0 : Int32)), .val (.ref b43), .val (.int (1 : Int32))] [(.ref b43)])
    refine Go.step (fun _ k => XS.iloadN X45.here hx rfl (hb hby at_38) rfl k) ?_
    show Go _ _ _ _ _ _ _ T45 (mkF m 39 #[.val (.int p0), .val (.int p1), .val (.int p2), .val (.int p3), .val (.int p4), .val (.int p5), .val (.int (3 : Int32)), .val (.int (0 : Int32)), .val (.ref b43), .val (.int (1 : Int32))] [(.int p2), (.ref b43)])
    refine Go.step (fun _ k => XS.bipush X45.here hx rfl (hb hby at_39) k) ?_
    show Go _ _ _ _ _ _ _ T45 (mkF m 41 #[.val (.int p0), .val (.int p1), .val (.int p2), .val (.int p3), .val (.int p4), .val (.int p5), .val (.int (3 : Int32)), .val (.int (0 : Int32)), .val (.ref b43), .val (.int (1 : Int32))] [(.int (16 : Int32)), (.int p2), (.ref b43)])
    refine Go.step (fun _ k => iremM X45 hx rfl (hb hby at_41) rfl (by decide) k) ?_
    show Go _ _ _ _ _ _ _ T45 (mkF m 42 #[.val (.int p0), .val (.int p1), .val (.int p2), .val (.int p3), .val (.int p4), .val (.int p5), .val (.int (3 : Int32)), .val (.int (0 : Int32)), .val (.ref b43), .val (.int (1 : Int32))] [(.int (p2 % (16 : Int32))), (.ref b43)])
    refine Go.step (fun _ k => XS.i2dS X45.here hx rfl (hb hby at_42) rfl rfl k) ?_
    show Go _ _ _ _ _ _ _ T45 (mkF m 43 #[.val (.int p0), .val (.int p1), .val (.int p2), .val (.int p3), .val (.int p4), .val (.int p5), .val (.int (3 : Int32)), .val (.int (0 : Int32)), .val (.ref b43), .val (.int (1 : Int32))] [(.double (FP.i2d (p2 % (16 : Int32)))), (.ref b43)])
    refine Go.step (fun _ k => XS.iload X45.here hx rfl (hb hby at_43) rfl k) ?_
    show Go _ _ _ _ _ _ _ T45 (mkF m 45 #[.val (.int p0), .val (.int p1), .val (.int p2), .val (.int p3), .val (.int p4), .val (.int p5), .val (.int (3 : Int32)), .val (.int (0 : Int32)), .val (.ref b43), .val (.int (1 : Int32))] [(.int p5), (.double (FP.i2d (p2 % (16 : Int32)))), (.ref b43)])
    refine Go.callV X45 hx hZ (by rw [hml]; rfl) (y := (⟨"com/example/wavegrade/wavegrade/DepartureQueue", "add", "(DI)V"⟩ : MethodName)) (z := (⟨"com/example/wavegrade/wavegrade/DepartureQueue", "add", "(DI)V"⟩ : MethodName)) (a := b43) (argsL := [(.double (FP.i2d (p2 % (16 : Int32)))), (.int p5)]) (rest := []) hown (hw _ (List.mem_of_getElem? (i := 22) rfl)) (hw _ (List.mem_of_getElem? (i := 23) rfl)) (notFace_of_selects (args := #[]) (mvT hZ (hw _ (List.mem_of_getElem? (i := 25) rfl)))) (hw _ (List.mem_of_getElem? (i := 25) rfl)) (hw _ (List.mem_of_getElem? (i := 24) rfl)) (hw _ (List.mem_of_getElem? (i := 2) rfl)) (hw _ (List.mem_of_getElem? (i := 26) rfl)) (by decide) (rm_add0 l Z a0 hw b43 u44 v44 (fun _ => (0 : UInt64)) (fun _ => (0 : Int32)) (tT p2 p3 p4) (tL p5) (tK p2 p3 p4) (fun x => x) 0 T44.heap n0 (Nat.le_trans Z0 (KK44 : Keep h0 T44.heap []).1) Ec44 Fs44 Ft44 Fl44 Vu44 Vv44 nqu44 nqv44 nuv44 ge_b43 ge_u44 ge_v44 (tH p2 p3 p4) hg44 hl44 hi44) hh45 Ec44 (hb hby at_45) (lenOf pd_2 rfl) rfl rfl (W := 0) (Nat.le_of_eq rfl) (by decide) (by decide) (by decide) (by decide) ?_
    intro v46 T46 L46 X46 Q46
    obtain ⟨rfl, N46q, Kc46, Ec46, Fs46, Ft46, Fl46, g46x, l46x, a46x, Vu46, Vv46, hg46, hl46, hi46, hs46, hP46⟩ := Q46
    have N46 := Fr.app N45 N46q
    have Ec44_46 := Ec44.keep Kc46
    have KK46 : Keep h0 T46.heap [] := (KK44 : Keep h0 T44.heap []).trans Kc46 (allS (Or.inr sz_b43) (allS (Or.inr sz_u44) (allS (Or.inr sz_v44) all0)))
    show Go _ _ _ _ _ _ _ T46 (mkF m 48 #[.val (.int p0), .val (.int p1), .val (.int p2), .val (.int p3), .val (.int p4), .val (.int p5), .val (.int (3 : Int32)), .val (.int (0 : Int32)), .val (.ref b43), .val (.int (1 : Int32))] [])
    refine Go.step (fun _ k => XS.iload X46.here hx rfl (hb hby at_48) rfl k) ?_
    show Go _ _ _ _ _ _ _ T46 (mkF m 50 #[.val (.int p0), .val (.int p1), .val (.int p2), .val (.int p3), .val (.int p4), .val (.int p5), .val (.int (3 : Int32)), .val (.int (0 : Int32)), .val (.ref b43), .val (.int (1 : Int32))] [(.int (3 : Int32))])
    refine Go.step (fun _ k => XS.iconst X46.here hx rfl (hb hby at_50) k) ?_
    show Go _ _ _ _ _ _ _ T46 (mkF m 51 #[.val (.int p0), .val (.int p1), .val (.int p2), .val (.int p3), .val (.int p4), .val (.int p5), .val (.int (3 : Int32)), .val (.int (0 : Int32)), .val (.ref b43), .val (.int (1 : Int32))] [(.int (1 : Int32)), (.int (3 : Int32))])
    refine Go.step (fun _ k => XS.icmpNo X46.here hx rfl (hb hby at_51) rfl (tlt (by decide : (1 : Int32) < (3 : Int32))).2.2.2 k) ?_
    show Go _ _ _ _ _ _ _ T46 (mkF m 54 #[.val (.int p0), .val (.int p1), .val (.int p2), .val (.int p3), .val (.int p4), .val (.int p5), .val (.int (3 : Int32)), .val (.int (0 : Int32)), .val (.ref b43), .val (.int (1 : Int32))] [])
    refine Go.step (fun _ k => XS.aload X46.here hx rfl (hb hby at_54) rfl rfl k) ?_
    show Go _ _ _ _ _ _ _ T46 (mkF m 56 #[.val (.int p0), .val (.int p1), .val (.int p2), .val (.int p3), .val (.int p4), .val (.int p5), .val (.int (3 : Int32)), .val (.int (0 : Int32)), .val (.ref b43), .val (.int (1 : Int32))] [(.ref b43)])
    refine Go.step (fun _ k => XS.iloadN X46.here hx rfl (hb hby at_56) rfl k) ?_
    show Go _ _ _ _ _ _ _ T46 (mkF m 57 #[.val (.int p0), .val (.int p1), .val (.int p2), .val (.int p3), .val (.int p4), .val (.int p5), .val (.int (3 : Int32)), .val (.int (0 : Int32)), .val (.ref b43), .val (.int (1 : Int32))] [(.int p3), (.ref b43)])
    refine Go.step (fun _ k => XS.bipush X46.here hx rfl (hb hby at_57) k) ?_
    show Go _ _ _ _ _ _ _ T46 (mkF m 59 #[.val (.int p0), .val (.int p1), .val (.int p2), .val (.int p3), .val (.int p4), .val (.int p5), .val (.int (3 : Int32)), .val (.int (0 : Int32)), .val (.ref b43), .val (.int (1 : Int32))] [(.int (16 : Int32)), (.int p3), (.ref b43)])
    refine Go.step (fun _ k => iremM X46 hx rfl (hb hby at_59) rfl (by decide) k) ?_
    show Go _ _ _ _ _ _ _ T46 (mkF m 60 #[.val (.int p0), .val (.int p1), .val (.int p2), .val (.int p3), .val (.int p4), .val (.int p5), .val (.int (3 : Int32)), .val (.int (0 : Int32)), .val (.ref b43), .val (.int (1 : Int32))] [(.int (p3 % (16 : Int32))), (.ref b43)])
    refine Go.step (fun _ k => XS.i2dS X46.here hx rfl (hb hby at_60) rfl rfl k) ?_
    show Go _ _ _ _ _ _ _ T46 (mkF m 61 #[.val (.int p0), .val (.int p1), .val (.int p2), .val (.int p3), .val (.int p4), .val (.int p5), .val (.int (3 : Int32)), .val (.int (0 : Int32)), .val (.ref b43), .val (.int (1 : Int32))] [(.double (FP.i2d (p3 % (16 : Int32)))), (.ref b43)])
    refine Go.step (fun _ k => XS.iload X46.here hx rfl (hb hby at_61) rfl k) ?_
    show Go _ _ _ _ _ _ _ T46 (mkF m 63 #[.val (.int p0), .val (.int p1), .val (.int p2), .val (.int p3), .val (.int p4), .val (.int p5), .val (.int (3 : Int32)), .val (.int (0 : Int32)), .val (.ref b43), .val (.int (1 : Int32))] [(.int p5), (.double (FP.i2d (p3 % (16 : Int32)))), (.ref b43)])
    refine Go.step (fun _ k => XS.iconst X46.here hx rfl (hb hby at_63) k) ?_
    show Go _ _ _ _ _ _ _ T46 (mkF m 64 #[.val (.int p0), .val (.int p1), .val (.int p2), .val (.int p3), .val (.int p4), .val (.int p5), .val (.int (3 : Int32)), .val (.int (0 : Int32)), .val (.ref b43), .val (.int (1 : Int32))] [(.int (1 : Int32)), (.int p5), (.double (FP.i2d (p3 % (16 : Int32)))), (.ref b43)])
    refine Go.step (fun _ k => XS.iadd X46.here hx rfl (hb hby at_64) rfl k) ?_
    show Go _ _ _ _ _ _ _ T46 (mkF m 65 #[.val (.int p0), .val (.int p1), .val (.int p2), .val (.int p3), .val (.int p4), .val (.int p5), .val (.int (3 : Int32)), .val (.int (0 : Int32)), .val (.ref b43), .val (.int (1 : Int32))] [(.int (p5 + (1 : Int32))), (.double (FP.i2d (p3 % (16 : Int32)))), (.ref b43)])
    refine Go.callV X46 hx hZ (by rw [hml]; rfl) (y := (⟨"com/example/wavegrade/wavegrade/DepartureQueue", "add", "(DI)V"⟩ : MethodName)) (z := (⟨"com/example/wavegrade/wavegrade/DepartureQueue", "add", "(DI)V"⟩ : MethodName)) (a := b43) (argsL := [(.double (FP.i2d (p3 % (16 : Int32)))), (.int (p5 + (1 : Int32)))]) (rest := []) hown (hw _ (List.mem_of_getElem? (i := 22) rfl)) (hw _ (List.mem_of_getElem? (i := 23) rfl)) (notFace_of_selects (args := #[]) (mvT hZ (hw _ (List.mem_of_getElem? (i := 25) rfl)))) (hw _ (List.mem_of_getElem? (i := 25) rfl)) (hw _ (List.mem_of_getElem? (i := 24) rfl)) (hw _ (List.mem_of_getElem? (i := 2) rfl)) (hw _ (List.mem_of_getElem? (i := 26) rfl)) (by decide) (rm_add1 l Z a0 hw b43 u44 v44 g46x l46x (tT p2 p3 p4) (tL p5) (tK p2 p3 p4) a46x 1 T46.heap n0 (Nat.le_trans Z0 (KK46 : Keep h0 T46.heap []).1) Ec46 Fs46 Ft46 Fl46 Vu46 Vv46 nqu44 nqv44 nuv44 ge_b43 ge_u44 ge_v44 (tH p2 p3 p4) hg46 hl46 hi46) rfl Ec46 (hb hby at_65) (lenOf pd_2 rfl) rfl rfl (W := 0) (Nat.le_of_eq rfl) (by decide) (by decide) (by decide) (by decide) ?_
    intro v47 T47 L47 X47 Q47
    obtain ⟨rfl, N47q, Kc47, Ec47, Fs47, Ft47, Fl47, g47x, l47x, a47x, Vu47, Vv47, hg47, hl47, hi47, hs47, hP47⟩ := Q47
    have N47 := Fr.app N46 N47q
    have Ec46_47 := Ec46.keep Kc47
    have KK47 : Keep h0 T47.heap [] := (KK46 : Keep h0 T46.heap []).trans Kc47 (allS (Or.inr sz_b43) (allS (Or.inr sz_u44) (allS (Or.inr sz_v44) all0)))
    show Go _ _ _ _ _ _ _ T47 (mkF m 68 #[.val (.int p0), .val (.int p1), .val (.int p2), .val (.int p3), .val (.int p4), .val (.int p5), .val (.int (3 : Int32)), .val (.int (0 : Int32)), .val (.ref b43), .val (.int (1 : Int32))] [])
    refine Go.step (fun _ k => XS.iload X47.here hx rfl (hb hby at_68) rfl k) ?_
    show Go _ _ _ _ _ _ _ T47 (mkF m 70 #[.val (.int p0), .val (.int p1), .val (.int p2), .val (.int p3), .val (.int p4), .val (.int p5), .val (.int (3 : Int32)), .val (.int (0 : Int32)), .val (.ref b43), .val (.int (1 : Int32))] [(.int (3 : Int32))])
    refine Go.step (fun _ k => XS.iconst X47.here hx rfl (hb hby at_70) k) ?_
    show Go _ _ _ _ _ _ _ T47 (mkF m 71 #[.val (.int p0), .val (.int p1), .val (.int p2), .val (.int p3), .val (.int p4), .val (.int p5), .val (.int (3 : Int32)), .val (.int (0 : Int32)), .val (.ref b43), .val (.int (1 : Int32))] [(.int (2 : Int32)), (.int (3 : Int32))])
    refine Go.step (fun _ k => XS.icmpNo X47.here hx rfl (hb hby at_71) rfl (tlt (by decide : (2 : Int32) < (3 : Int32))).2.2.2 k) ?_
    show Go _ _ _ _ _ _ _ T47 (mkF m 74 #[.val (.int p0), .val (.int p1), .val (.int p2), .val (.int p3), .val (.int p4), .val (.int p5), .val (.int (3 : Int32)), .val (.int (0 : Int32)), .val (.ref b43), .val (.int (1 : Int32))] [])
    refine Go.step (fun _ k => XS.aload X47.here hx rfl (hb hby at_74) rfl rfl k) ?_
    show Go _ _ _ _ _ _ _ T47 (mkF m 76 #[.val (.int p0), .val (.int p1), .val (.int p2), .val (.int p3), .val (.int p4), .val (.int p5), .val (.int (3 : Int32)), .val (.int (0 : Int32)), .val (.ref b43), .val (.int (1 : Int32))] [(.ref b43)])
    refine Go.step (fun _ k => XS.iload X47.here hx rfl (hb hby at_76) rfl k) ?_
    show Go _ _ _ _ _ _ _ T47 (mkF m 78 #[.val (.int p0), .val (.int p1), .val (.int p2), .val (.int p3), .val (.int p4), .val (.int p5), .val (.int (3 : Int32)), .val (.int (0 : Int32)), .val (.ref b43), .val (.int (1 : Int32))] [(.int p4), (.ref b43)])
    refine Go.step (fun _ k => XS.bipush X47.here hx rfl (hb hby at_78) k) ?_
    show Go _ _ _ _ _ _ _ T47 (mkF m 80 #[.val (.int p0), .val (.int p1), .val (.int p2), .val (.int p3), .val (.int p4), .val (.int p5), .val (.int (3 : Int32)), .val (.int (0 : Int32)), .val (.ref b43), .val (.int (1 : Int32))] [(.int (16 : Int32)), (.int p4), (.ref b43)])
    refine Go.step (fun _ k => iremM X47 hx rfl (hb hby at_80) rfl (by decide) k) ?_
    show Go _ _ _ _ _ _ _ T47 (mkF m 81 #[.val (.int p0), .val (.int p1), .val (.int p2), .val (.int p3), .val (.int p4), .val (.int p5), .val (.int (3 : Int32)), .val (.int (0 : Int32)), .val (.ref b43), .val (.int (1 : Int32))] [(.int (p4 % (16 : Int32))), (.ref b43)])
    refine Go.step (fun _ k => XS.i2dS X47.here hx rfl (hb hby at_81) rfl rfl k) ?_
    show Go _ _ _ _ _ _ _ T47 (mkF m 82 #[.val (.int p0), .val (.int p1), .val (.int p2), .val (.int p3), .val (.int p4), .val (.int p5), .val (.int (3 : Int32)), .val (.int (0 : Int32)), .val (.ref b43), .val (.int (1 : Int32))] [(.double (FP.i2d (p4 % (16 : Int32)))), (.ref b43)])
    refine Go.step (fun _ k => XS.iload X47.here hx rfl (hb hby at_82) rfl k) ?_
    show Go _ _ _ _ _ _ _ T47 (mkF m 84 #[.val (.int p0), .val (.int p1), .val (.int p2), .val (.int p3), .val (.int p4), .val (.int p5), .val (.int (3 : Int32)), .val (.int (0 : Int32)), .val (.ref b43), .val (.int (1 : Int32))] [(.int p5), (.double (FP.i2d (p4 % (16 : Int32)))), (.ref b43)])
    refine Go.step (fun _ k => XS.iconst X47.here hx rfl (hb hby at_84) k) ?_
    show Go _ _ _ _ _ _ _ T47 (mkF m 85 #[.val (.int p0), .val (.int p1), .val (.int p2), .val (.int p3), .val (.int p4), .val (.int p5), .val (.int (3 : Int32)), .val (.int (0 : Int32)), .val (.ref b43), .val (.int (1 : Int32))] [(.int (2 : Int32)), (.int p5), (.double (FP.i2d (p4 % (16 : Int32)))), (.ref b43)])
    refine Go.step (fun _ k => XS.iadd X47.here hx rfl (hb hby at_85) rfl k) ?_
    show Go _ _ _ _ _ _ _ T47 (mkF m 86 #[.val (.int p0), .val (.int p1), .val (.int p2), .val (.int p3), .val (.int p4), .val (.int p5), .val (.int (3 : Int32)), .val (.int (0 : Int32)), .val (.ref b43), .val (.int (1 : Int32))] [(.int (p5 + (2 : Int32))), (.double (FP.i2d (p4 % (16 : Int32)))), (.ref b43)])
    refine Go.callV X47 hx hZ (by rw [hml]; rfl) (y := (⟨"com/example/wavegrade/wavegrade/DepartureQueue", "add", "(DI)V"⟩ : MethodName)) (z := (⟨"com/example/wavegrade/wavegrade/DepartureQueue", "add", "(DI)V"⟩ : MethodName)) (a := b43) (argsL := [(.double (FP.i2d (p4 % (16 : Int32)))), (.int (p5 + (2 : Int32)))]) (rest := []) hown (hw _ (List.mem_of_getElem? (i := 22) rfl)) (hw _ (List.mem_of_getElem? (i := 23) rfl)) (notFace_of_selects (args := #[]) (mvT hZ (hw _ (List.mem_of_getElem? (i := 25) rfl)))) (hw _ (List.mem_of_getElem? (i := 25) rfl)) (hw _ (List.mem_of_getElem? (i := 24) rfl)) (hw _ (List.mem_of_getElem? (i := 2) rfl)) (hw _ (List.mem_of_getElem? (i := 26) rfl)) (by decide) (rm_add2 l Z a0 hw b43 u44 v44 g47x l47x (tT p2 p3 p4) (tL p5) (tK p2 p3 p4) a47x 2 T47.heap n0 (Nat.le_trans Z0 (KK47 : Keep h0 T47.heap []).1) Ec47 Fs47 Ft47 Fl47 Vu47 Vv47 nqu44 nqv44 nuv44 ge_b43 ge_u44 ge_v44 (tH p2 p3 p4) hg47 hl47 hi47) rfl Ec47 (hb hby at_86) (lenOf pd_2 rfl) rfl rfl (W := 0) (Nat.le_of_eq rfl) (by decide) (by decide) (by decide) (by decide) ?_
    intro v48 T48 L48 X48 Q48
    obtain ⟨rfl, N48q, Kc48, Ec48, Fs48, Ft48, Fl48, g48x, l48x, a48x, Vu48, Vv48, hg48, hl48, hi48, hs48, hP48⟩ := Q48
    have N48 := Fr.app N47 N48q
    have Ec47_48 := Ec47.keep Kc48
    have KK48 : Keep h0 T48.heap [] := (KK47 : Keep h0 T47.heap []).trans Kc48 (allS (Or.inr sz_b43) (allS (Or.inr sz_u44) (allS (Or.inr sz_v44) all0)))
    show Go _ _ _ _ _ _ _ T48 (mkF m 89 #[.val (.int p0), .val (.int p1), .val (.int p2), .val (.int p3), .val (.int p4), .val (.int p5), .val (.int (3 : Int32)), .val (.int (0 : Int32)), .val (.ref b43), .val (.int (1 : Int32))] [])
    refine Go.step (fun _ k => XS.iload X48.here hx rfl (hb hby at_89) rfl k) ?_
    show Go _ _ _ _ _ _ _ T48 (mkF m 91 #[.val (.int p0), .val (.int p1), .val (.int p2), .val (.int p3), .val (.int p4), .val (.int p5), .val (.int (3 : Int32)), .val (.int (0 : Int32)), .val (.ref b43), .val (.int (1 : Int32))] [(.int (1 : Int32))])
    refine Go.step (fun _ k => XS.ifNo X48.here hx rfl (hb hby at_91) rfl ((if0 _ _).trans (feq (by decide : ¬ ((1 : Int32) = (0 : Int32)))).1) k) ?_
    show Go _ _ _ _ _ _ _ T48 (mkF m 94 #[.val (.int p0), .val (.int p1), .val (.int p2), .val (.int p3), .val (.int p4), .val (.int p5), .val (.int (3 : Int32)), .val (.int (0 : Int32)), .val (.ref b43), .val (.int (1 : Int32))] [])
    refine Go.step (fun _ k => XS.aload X48.here hx rfl (hb hby at_94) rfl rfl k) ?_
    show Go _ _ _ _ _ _ _ T48 (mkF m 96 #[.val (.int p0), .val (.int p1), .val (.int p2), .val (.int p3), .val (.int p4), .val (.int p5), .val (.int (3 : Int32)), .val (.int (0 : Int32)), .val (.ref b43), .val (.int (1 : Int32))] [(.ref b43)])
    refine Go.callV X48 hx hZ (by rw [hml]; rfl) (y := (⟨"com/example/wavegrade/wavegrade/DepartureQueue", "isEmpty", "()Z"⟩ : MethodName)) (z := (⟨"com/example/wavegrade/wavegrade/DepartureQueue", "isEmpty", "()Z"⟩ : MethodName)) (a := b43) (argsL := []) (rest := []) hown (hw _ (List.mem_of_getElem? (i := 15) rfl)) (hw _ (List.mem_of_getElem? (i := 16) rfl)) (notFace_of_selects (args := #[]) (mvT hZ (hw _ (List.mem_of_getElem? (i := 18) rfl)))) (hw _ (List.mem_of_getElem? (i := 18) rfl)) (hw _ (List.mem_of_getElem? (i := 17) rfl)) (hw _ (List.mem_of_getElem? (i := 2) rfl)) (hw _ (List.mem_of_getElem? (i := 19) rfl)) (by decide) (rm_empty3 l Z a0 hw b43 T48.heap n0 (Nat.le_trans Z0 (KK48 : Keep h0 T48.heap []).1) Fs48) rfl Ec48 (hb hby at_96) (lenOf pd_1 rfl) rfl rfl (W := 0) (Nat.le_of_eq rfl) (by decide) (by decide) (by decide) (by decide) ?_
    intro v49 T49 L49 X49 Q49
    obtain ⟨rfl, N49q, hh49⟩ := Q49
    have N49 := Fr.app N48 N49q
    show Go _ _ _ _ _ _ _ T49 (mkF m 99 #[.val (.int p0), .val (.int p1), .val (.int p2), .val (.int p3), .val (.int p4), .val (.int p5), .val (.int (3 : Int32)), .val (.int (0 : Int32)), .val (.ref b43), .val (.int (1 : Int32))] [(.int (0 : Int32))])
    refine Go.step (fun _ k => XS.iload X49.here hx rfl (hb hby at_99) rfl k) ?_
    show Go _ _ _ _ _ _ _ T49 (mkF m 101 #[.val (.int p0), .val (.int p1), .val (.int p2), .val (.int p3), .val (.int p4), .val (.int p5), .val (.int (3 : Int32)), .val (.int (0 : Int32)), .val (.ref b43), .val (.int (1 : Int32))] [(.int (3 : Int32)), (.int (0 : Int32))])
    refine Go.step (fun _ k => XS.ifYes X49.here hx rfl (pc0 := 101) (pc' := 108) rfl (hb hby at_101) rfl ((if0 _ _).trans (feq (by decide : ¬ ((3 : Int32) = (0 : Int32)))).2) (by decide) (by decide) k) ?_
    show Go _ _ _ _ _ _ _ T49 (mkF m 108 #[.val (.int p0), .val (.int p1), .val (.int p2), .val (.int p3), .val (.int p4), .val (.int p5), .val (.int (3 : Int32)), .val (.int (0 : Int32)), .val (.ref b43), .val (.int (1 : Int32))] [(.int (0 : Int32))])
    refine Go.step (fun _ k => XS.iconst X49.here hx rfl (hb hby at_108) k) ?_
    show Go _ _ _ _ _ _ _ T49 (mkF m 109 #[.val (.int p0), .val (.int p1), .val (.int p2), .val (.int p3), .val (.int p4), .val (.int p5), .val (.int (3 : Int32)), .val (.int (0 : Int32)), .val (.ref b43), .val (.int (1 : Int32))] [(.int (0 : Int32)), (.int (0 : Int32))])
    refine Go.step (fun _ k => XS.icmpNo X49.here hx rfl (hb hby at_109) rfl (teq (by decide : (0 : Int32) = (0 : Int32))).2 k) ?_
    show Go _ _ _ _ _ _ _ T49 (mkF m 112 #[.val (.int p0), .val (.int p1), .val (.int p2), .val (.int p3), .val (.int p4), .val (.int p5), .val (.int (3 : Int32)), .val (.int (0 : Int32)), .val (.ref b43), .val (.int (1 : Int32))] [])
    refine Go.step (fun _ k => XS.iconst X49.here hx rfl (hb hby at_112) k) ?_
    show Go _ _ _ _ _ _ _ T49 (mkF m 113 #[.val (.int p0), .val (.int p1), .val (.int p2), .val (.int p3), .val (.int p4), .val (.int p5), .val (.int (3 : Int32)), .val (.int (0 : Int32)), .val (.ref b43), .val (.int (1 : Int32))] [(.int (1 : Int32))])
    refine Go.step (fun _ k => XS.goto X49.here hx rfl (pc0 := 113) (pc' := 117) rfl (hb hby at_113) (by decide) (by decide) k) ?_
    show Go _ _ _ _ _ _ _ T49 (mkF m 117 #[.val (.int p0), .val (.int p1), .val (.int p2), .val (.int p3), .val (.int p4), .val (.int p5), .val (.int (3 : Int32)), .val (.int (0 : Int32)), .val (.ref b43), .val (.int (1 : Int32))] [(.int (1 : Int32))])
    refine Go.step (fun _ k => XS.istore X49.here hx rfl (hb hby at_117) rfl (l' := #[.val (.int p0), .val (.int p1), .val (.int p2), .val (.int p3), .val (.int p4), .val (.int p5), .val (.int (3 : Int32)), .val (.int (0 : Int32)), .val (.ref b43), .val (.int (1 : Int32))]) rfl k) ?_
    show Go _ _ _ _ _ _ _ T49 (mkF m 119 #[.val (.int p0), .val (.int p1), .val (.int p2), .val (.int p3), .val (.int p4), .val (.int p5), .val (.int (3 : Int32)), .val (.int (0 : Int32)), .val (.ref b43), .val (.int (1 : Int32))] [])
    refine Go.step (fun _ k => XS.iload X49.here hx rfl (hb hby at_119) rfl k) ?_
    show Go _ _ _ _ _ _ _ T49 (mkF m 121 #[.val (.int p0), .val (.int p1), .val (.int p2), .val (.int p3), .val (.int p4), .val (.int p5), .val (.int (3 : Int32)), .val (.int (0 : Int32)), .val (.ref b43), .val (.int (1 : Int32))] [(.int (0 : Int32))])
    refine Go.step (fun _ k => XS.ifYes X49.here hx rfl (pc0 := 121) (pc' := 130) rfl (hb hby at_121) rfl ((if0 _ _).trans (flt (by decide : ¬ ((0 : Int32) < (0 : Int32)))).2.2.2) (by decide) (by decide) k) ?_
    show Go _ _ _ _ _ _ _ T49 (mkF m 130 #[.val (.int p0), .val (.int p1), .val (.int p2), .val (.int p3), .val (.int p4), .val (.int p5), .val (.int (3 : Int32)), .val (.int (0 : Int32)), .val (.ref b43), .val (.int (1 : Int32))] [])
    refine Go.step (fun _ k => XS.iload X49.here hx rfl (hb hby at_130) rfl k) ?_
    show Go _ _ _ _ _ _ _ T49 (mkF m 132 #[.val (.int p0), .val (.int p1), .val (.int p2), .val (.int p3), .val (.int p4), .val (.int p5), .val (.int (3 : Int32)), .val (.int (0 : Int32)), .val (.ref b43), .val (.int (1 : Int32))] [(.int (0 : Int32))])
    refine Go.step (fun _ k => XS.iconst X49.here hx rfl (hb hby at_132) k) ?_
    show Go _ _ _ _ _ _ _ T49 (mkF m 133 #[.val (.int p0), .val (.int p1), .val (.int p2), .val (.int p3), .val (.int p4), .val (.int p5), .val (.int (3 : Int32)), .val (.int (0 : Int32)), .val (.ref b43), .val (.int (1 : Int32))] [(.int (1 : Int32)), (.int (0 : Int32))])
    refine Go.step (fun _ k => XS.icmpYes X49.here hx rfl (pc0 := 133) (pc' := 142) rfl (hb hby at_133) rfl (flt (by decide : ¬ ((1 : Int32) < (0 : Int32)))).2.2.2 (by decide) (by decide) k) ?_
    show Go _ _ _ _ _ _ _ T49 (mkF m 142 #[.val (.int p0), .val (.int p1), .val (.int p2), .val (.int p3), .val (.int p4), .val (.int p5), .val (.int (3 : Int32)), .val (.int (0 : Int32)), .val (.ref b43), .val (.int (1 : Int32))] [])
    refine Go.step (fun _ k => XS.iload X49.here hx rfl (hb hby at_142) rfl k) ?_
    show Go _ _ _ _ _ _ _ T49 (mkF m 144 #[.val (.int p0), .val (.int p1), .val (.int p2), .val (.int p3), .val (.int p4), .val (.int p5), .val (.int (3 : Int32)), .val (.int (0 : Int32)), .val (.ref b43), .val (.int (1 : Int32))] [(.int (0 : Int32))])
    refine Go.step (fun _ k => XS.iconst X49.here hx rfl (hb hby at_144) k) ?_
    show Go _ _ _ _ _ _ _ T49 (mkF m 145 #[.val (.int p0), .val (.int p1), .val (.int p2), .val (.int p3), .val (.int p4), .val (.int p5), .val (.int (3 : Int32)), .val (.int (0 : Int32)), .val (.ref b43), .val (.int (1 : Int32))] [(.int (2 : Int32)), (.int (0 : Int32))])
    refine Go.step (fun _ k => XS.icmpYes X49.here hx rfl (pc0 := 145) (pc' := 154) rfl (hb hby at_145) rfl (flt (by decide : ¬ ((2 : Int32) < (0 : Int32)))).2.2.2 (by decide) (by decide) k) ?_
    show Go _ _ _ _ _ _ _ T49 (mkF m 154 #[.val (.int p0), .val (.int p1), .val (.int p2), .val (.int p3), .val (.int p4), .val (.int p5), .val (.int (3 : Int32)), .val (.int (0 : Int32)), .val (.ref b43), .val (.int (1 : Int32))] [])
    refine Go.step (fun _ k => XS.iload X49.here hx rfl (hb hby at_154) rfl k) ?_
    show Go _ _ _ _ _ _ _ T49 (mkF m 156 #[.val (.int p0), .val (.int p1), .val (.int p2), .val (.int p3), .val (.int p4), .val (.int p5), .val (.int (3 : Int32)), .val (.int (0 : Int32)), .val (.ref b43), .val (.int (1 : Int32))] [(.int (1 : Int32))])
    refine Go.step (fun _ k => XS.ifNo X49.here hx rfl (hb hby at_156) rfl ((if0 _ _).trans (feq (by decide : ¬ ((1 : Int32) = (0 : Int32)))).1) k) ?_
    show Go _ _ _ _ _ _ _ T49 (mkF m 159 #[.val (.int p0), .val (.int p1), .val (.int p2), .val (.int p3), .val (.int p4), .val (.int p5), .val (.int (3 : Int32)), .val (.int (0 : Int32)), .val (.ref b43), .val (.int (1 : Int32))] [])
    refine Go.step (fun _ k => XS.aload X49.here hx rfl (hb hby at_159) rfl rfl k) ?_
    show Go _ _ _ _ _ _ _ T49 (mkF m 161 #[.val (.int p0), .val (.int p1), .val (.int p2), .val (.int p3), .val (.int p4), .val (.int p5), .val (.int (3 : Int32)), .val (.int (0 : Int32)), .val (.ref b43), .val (.int (1 : Int32))] [(.ref b43)])
    refine Go.callV X49 hx hZ (by rw [hml]; rfl) (y := (⟨"com/example/wavegrade/wavegrade/DepartureQueue", "isEmpty", "()Z"⟩ : MethodName)) (z := (⟨"com/example/wavegrade/wavegrade/DepartureQueue", "isEmpty", "()Z"⟩ : MethodName)) (a := b43) (argsL := []) (rest := []) hown (hw _ (List.mem_of_getElem? (i := 15) rfl)) (hw _ (List.mem_of_getElem? (i := 16) rfl)) (notFace_of_selects (args := #[]) (mvT hZ (hw _ (List.mem_of_getElem? (i := 18) rfl)))) (hw _ (List.mem_of_getElem? (i := 18) rfl)) (hw _ (List.mem_of_getElem? (i := 17) rfl)) (hw _ (List.mem_of_getElem? (i := 2) rfl)) (hw _ (List.mem_of_getElem? (i := 19) rfl)) (by decide) (rm_empty3 l Z a0 hw b43 T48.heap n0 (Nat.le_trans Z0 (KK48 : Keep h0 T48.heap []).1) Fs48) hh49 Ec48 (hb hby at_161) (lenOf pd_1 rfl) rfl rfl (W := 0) (Nat.le_of_eq rfl) (by decide) (by decide) (by decide) (by decide) ?_
    intro v50 T50 L50 X50 Q50
    obtain ⟨rfl, N50q, hh50⟩ := Q50
    have N50 := Fr.app N49 N50q
    show Go _ _ _ _ _ _ _ T50 (mkF m 164 #[.val (.int p0), .val (.int p1), .val (.int p2), .val (.int p3), .val (.int p4), .val (.int p5), .val (.int (3 : Int32)), .val (.int (0 : Int32)), .val (.ref b43), .val (.int (1 : Int32))] [(.int (0 : Int32))])
    refine Go.step (fun _ k => XS.iload X50.here hx rfl (hb hby at_164) rfl k) ?_
    show Go _ _ _ _ _ _ _ T50 (mkF m 166 #[.val (.int p0), .val (.int p1), .val (.int p2), .val (.int p3), .val (.int p4), .val (.int p5), .val (.int (3 : Int32)), .val (.int (0 : Int32)), .val (.ref b43), .val (.int (1 : Int32))] [(.int (3 : Int32)), (.int (0 : Int32))])
    refine Go.step (fun _ k => XS.iload X50.here hx rfl (hb hby at_166) rfl k) ?_
    show Go _ _ _ _ _ _ _ T50 (mkF m 168 #[.val (.int p0), .val (.int p1), .val (.int p2), .val (.int p3), .val (.int p4), .val (.int p5), .val (.int (3 : Int32)), .val (.int (0 : Int32)), .val (.ref b43), .val (.int (1 : Int32))] [(.int (0 : Int32)), (.int (3 : Int32)), (.int (0 : Int32))])
    refine Go.step (fun _ k => XS.isub X50.here hx rfl (hb hby at_168) rfl k) ?_
    show Go _ _ _ _ _ _ _ T50 (mkF m 169 #[.val (.int p0), .val (.int p1), .val (.int p2), .val (.int p3), .val (.int p4), .val (.int p5), .val (.int (3 : Int32)), .val (.int (0 : Int32)), .val (.ref b43), .val (.int (1 : Int32))] [(.int (3 : Int32)), (.int (0 : Int32))])
    refine Go.step (fun _ k => XS.ifYes X50.here hx rfl (pc0 := 169) (pc' := 176) rfl (hb hby at_169) rfl ((if0 _ _).trans (feq (by decide : ¬ ((3 : Int32) = (0 : Int32)))).2) (by decide) (by decide) k) ?_
    show Go _ _ _ _ _ _ _ T50 (mkF m 176 #[.val (.int p0), .val (.int p1), .val (.int p2), .val (.int p3), .val (.int p4), .val (.int p5), .val (.int (3 : Int32)), .val (.int (0 : Int32)), .val (.ref b43), .val (.int (1 : Int32))] [(.int (0 : Int32))])
    refine Go.step (fun _ k => XS.iconst X50.here hx rfl (hb hby at_176) k) ?_
    show Go _ _ _ _ _ _ _ T50 (mkF m 177 #[.val (.int p0), .val (.int p1), .val (.int p2), .val (.int p3), .val (.int p4), .val (.int p5), .val (.int (3 : Int32)), .val (.int (0 : Int32)), .val (.ref b43), .val (.int (1 : Int32))] [(.int (0 : Int32)), (.int (0 : Int32))])
    refine Go.step (fun _ k => XS.icmpNo X50.here hx rfl (hb hby at_177) rfl (teq (by decide : (0 : Int32) = (0 : Int32))).2 k) ?_
    show Go _ _ _ _ _ _ _ T50 (mkF m 180 #[.val (.int p0), .val (.int p1), .val (.int p2), .val (.int p3), .val (.int p4), .val (.int p5), .val (.int (3 : Int32)), .val (.int (0 : Int32)), .val (.ref b43), .val (.int (1 : Int32))] [])
    refine Go.step (fun _ k => XS.iconst X50.here hx rfl (hb hby at_180) k) ?_
    show Go _ _ _ _ _ _ _ T50 (mkF m 181 #[.val (.int p0), .val (.int p1), .val (.int p2), .val (.int p3), .val (.int p4), .val (.int p5), .val (.int (3 : Int32)), .val (.int (0 : Int32)), .val (.ref b43), .val (.int (1 : Int32))] [(.int (1 : Int32))])
    refine Go.step (fun _ k => XS.goto X50.here hx rfl (pc0 := 181) (pc' := 185) rfl (hb hby at_181) (by decide) (by decide) k) ?_
    show Go _ _ _ _ _ _ _ T50 (mkF m 185 #[.val (.int p0), .val (.int p1), .val (.int p2), .val (.int p3), .val (.int p4), .val (.int p5), .val (.int (3 : Int32)), .val (.int (0 : Int32)), .val (.ref b43), .val (.int (1 : Int32))] [(.int (1 : Int32))])
    refine Go.step (fun _ k => XS.istore X50.here hx rfl (hb hby at_185) rfl (l' := #[.val (.int p0), .val (.int p1), .val (.int p2), .val (.int p3), .val (.int p4), .val (.int p5), .val (.int (3 : Int32)), .val (.int (0 : Int32)), .val (.ref b43), .val (.int (1 : Int32))]) rfl k) ?_
    show Go _ _ _ _ _ _ _ T50 (mkF m 187 #[.val (.int p0), .val (.int p1), .val (.int p2), .val (.int p3), .val (.int p4), .val (.int p5), .val (.int (3 : Int32)), .val (.int (0 : Int32)), .val (.ref b43), .val (.int (1 : Int32))] [])
    refine Go.step (fun _ k => XS.iload X50.here hx rfl (hb hby at_187) rfl k) ?_
    show Go _ _ _ _ _ _ _ T50 (mkF m 189 #[.val (.int p0), .val (.int p1), .val (.int p2), .val (.int p3), .val (.int p4), .val (.int p5), .val (.int (3 : Int32)), .val (.int (0 : Int32)), .val (.ref b43), .val (.int (1 : Int32))] [(.int (1 : Int32))])
    refine Go.retZ X50 hx hlk hret (by decide) (hb hby at_189) (by decide) (by decide) ?_
    try rw [hh50]
    exact ⟨rfl, N50⟩
  · show Go _ _ _ _ _ _ _ T0 (mkF m 15 #[.val (.int p0), .val (.int p1), .val (.int p2), .val (.int p3), .val (.int p4), .val (.int p5), .val (.int (3 : Int32)), .val (.int (1 : Int32)), .unset, .unset] [])
    obtain ⟨T51, h51, X51, e51, E51, A51, D51, -, st51⟩ := newO X0 hx hZ hown (hw _ (List.mem_of_getElem? (i := 0) rfl)) (hw _ (List.mem_of_getElem? (i := 1) rfl)) (hw _ (List.mem_of_getElem? (i := 2) rfl)) e0 (g := (mkF m 15 #[.val (.int p0), .val (.int p1), .val (.int p2), .val (.int p3), .val (.int p4), .val (.int p5), .val (.int (3 : Int32)), .val (.int (1 : Int32)), .unset, .unset] [])) rfl (hb hby at_15) (by decide) (by decide)
    obtain ⟨b51, g51⟩ : ∃ z, z = h0.size := ⟨_, rfl⟩
    rw [← g51] at A51 D51 st51
    refine Go.step st51 ?_
    have K51 : Keep h0 h51 [] := (Keep.refl h0 []).ext E51
    have sz_b51 : h0.size ≤ b51 := Nat.le_trans ((Keep.refl h0 []) : Keep h0 h0 []).1 (Nat.le_of_eq g51.symm)
    have ge_b51 : n0 ≤ b51 := Nat.le_trans Z0 sz_b51
    have E_b51 := A51
    have F_times_b51 : Fld Z h51 b51 "com/example/wavegrade/wavegrade/DepartureQueue" "times" "[D" .null := D51 (Or.inl (hw _ (List.mem_of_getElem? (i := 11) rfl))) (ty := (.array .double)) (by decide)
    have F_lightpaths_b51 : Fld Z h51 b51 "com/example/wavegrade/wavegrade/DepartureQueue" "lightpaths" "[I" .null := D51 (Or.inl (hw _ (List.mem_of_getElem? (i := 14) rfl))) (ty := (.array .int)) (by decide)
    have F_size_b51 : Fld Z h51 b51 "com/example/wavegrade/wavegrade/DepartureQueue" "size" "I" (.int (0 : Int32)) := D51 (Or.inl (hw _ (List.mem_of_getElem? (i := 21) rfl))) (ty := .int) (by decide)
    show Go _ _ _ _ _ _ _ T51 (mkF m 18 #[.val (.int p0), .val (.int p1), .val (.int p2), .val (.int p3), .val (.int p4), .val (.int p5), .val (.int (3 : Int32)), .val (.int (1 : Int32)), .unset, .unset] [(.ref b51)])
    refine Go.step (fun _ k => XS.dup X51.here hx rfl (hb hby at_18) rfl rfl k) ?_
    show Go _ _ _ _ _ _ _ T51 (mkF m 19 #[.val (.int p0), .val (.int p1), .val (.int p2), .val (.int p3), .val (.int p4), .val (.int p5), .val (.int (3 : Int32)), .val (.int (1 : Int32)), .unset, .unset] [(.ref b51), (.ref b51)])
    refine Go.callI X51 hx hZ (by rw [hml]; rfl) (y := (⟨"com/example/wavegrade/wavegrade/DepartureQueue", "<init>", "()V"⟩ : MethodName)) (a := b51) (argsL := []) (rest := [(.ref b51)]) rfl hown (hw _ (List.mem_of_getElem? (i := 3) rfl)) (hw _ (List.mem_of_getElem? (i := 4) rfl)) (hw _ (List.mem_of_getElem? (i := 2) rfl)) (hw _ (List.mem_of_getElem? (i := 5) rfl)) (by decide) (rm1 l Z a0 hw b51 h51 n0 (Nat.le_trans Z0 (K51 : Keep h0 h51 []).1) E_b51 F_size_b51 F_times_b51 F_lightpaths_b51 ge_b51) e51 (hb hby at_19) (lenOf pd_0 rfl) rfl rfl (W := 1) (Nat.le_of_eq rfl) (by decide) (by decide) (by decide) (by decide) ?_
    intro v52 T52 L52 X52 Q52
    obtain ⟨rfl, N52q, Kc52, Ec52, Fs52, u52, v52, Ft52, Fl52, Vu52, Vv52, nqu52, nqv52, nuv52, su52, sv52⟩ := Q52
    have N52 := Fr.app N0 N52q
    have E_b51_52 := E_b51.keep Kc52
    have KK52 : Keep h0 T52.heap [] := (K51 : Keep h0 h51 []).trans Kc52 (allS (Or.inr sz_b51) all0)
    have sz_u52 : h0.size ≤ u52 := Nat.le_trans (K51 : Keep h0 h51 []).1 su52
    have ge_u52 : n0 ≤ u52 := Nat.le_trans Z0 sz_u52
    have sz_v52 : h0.size ≤ v52 := Nat.le_trans (K51 : Keep h0 h51 []).1 sv52
    have ge_v52 : n0 ≤ v52 := Nat.le_trans Z0 sz_v52
    have hg52 : ∀ i, i < 0 → (fun _ => (0 : UInt64)) i = (tT p2 p3 p4) ((fun x => x) i) := fun i hi' => absurd hi' (by omega)
    have hl52 : ∀ i, i < 0 → (fun _ => (0 : Int32)) i = (tL p5) ((fun x => x) i) := fun i hi' => absurd hi' (by omega)
    have hi52 : HI (tK p2 p3 p4) (fun x => x) 0 := trivial
    show Go _ _ _ _ _ _ _ T52 (mkF m 22 #[.val (.int p0), .val (.int p1), .val (.int p2), .val (.int p3), .val (.int p4), .val (.int p5), .val (.int (3 : Int32)), .val (.int (1 : Int32)), .unset, .unset] [(.ref b51)])
    refine Go.step (fun _ k => XS.astore X52.here hx rfl (hb hby at_22) rfl rfl (l' := #[.val (.int p0), .val (.int p1), .val (.int p2), .val (.int p3), .val (.int p4), .val (.int p5), .val (.int (3 : Int32)), .val (.int (1 : Int32)), .val (.ref b51), .unset]) rfl k) ?_
    show Go _ _ _ _ _ _ _ T52 (mkF m 24 #[.val (.int p0), .val (.int p1), .val (.int p2), .val (.int p3), .val (.int p4), .val (.int p5), .val (.int (3 : Int32)), .val (.int (1 : Int32)), .val (.ref b51), .unset] [])
    refine Go.step (fun _ k => XS.aload X52.here hx rfl (hb hby at_24) rfl rfl k) ?_
    show Go _ _ _ _ _ _ _ T52 (mkF m 26 #[.val (.int p0), .val (.int p1), .val (.int p2), .val (.int p3), .val (.int p4), .val (.int p5), .val (.int (3 : Int32)), .val (.int (1 : Int32)), .val (.ref b51), .unset] [(.ref b51)])
    refine Go.callV X52 hx hZ (by rw [hml]; rfl) (y := (⟨"com/example/wavegrade/wavegrade/DepartureQueue", "isEmpty", "()Z"⟩ : MethodName)) (z := (⟨"com/example/wavegrade/wavegrade/DepartureQueue", "isEmpty", "()Z"⟩ : MethodName)) (a := b51) (argsL := []) (rest := []) hown (hw _ (List.mem_of_getElem? (i := 15) rfl)) (hw _ (List.mem_of_getElem? (i := 16) rfl)) (notFace_of_selects (args := #[]) (mvT hZ (hw _ (List.mem_of_getElem? (i := 18) rfl)))) (hw _ (List.mem_of_getElem? (i := 18) rfl)) (hw _ (List.mem_of_getElem? (i := 17) rfl)) (hw _ (List.mem_of_getElem? (i := 2) rfl)) (hw _ (List.mem_of_getElem? (i := 19) rfl)) (by decide) (rm_empty0 l Z a0 hw b51 T52.heap n0 (Nat.le_trans Z0 (KK52 : Keep h0 T52.heap []).1) Fs52) rfl Ec52 (hb hby at_26) (lenOf pd_1 rfl) rfl rfl (W := 0) (Nat.le_of_eq rfl) (by decide) (by decide) (by decide) (by decide) ?_
    intro v53 T53 L53 X53 Q53
    obtain ⟨rfl, N53q, hh53⟩ := Q53
    have N53 := Fr.app N52 N53q
    show Go _ _ _ _ _ _ _ T53 (mkF m 29 #[.val (.int p0), .val (.int p1), .val (.int p2), .val (.int p3), .val (.int p4), .val (.int p5), .val (.int (3 : Int32)), .val (.int (1 : Int32)), .val (.ref b51), .unset] [(.int (1 : Int32))])
    refine Go.step (fun _ k => XS.istore X53.here hx rfl (hb hby at_29) rfl (l' := #[.val (.int p0), .val (.int p1), .val (.int p2), .val (.int p3), .val (.int p4), .val (.int p5), .val (.int (3 : Int32)), .val (.int (1 : Int32)), .val (.ref b51), .val (.int (1 : Int32))]) rfl k) ?_
    show Go _ _ _ _ _ _ _ T53 (mkF m 31 #[.val (.int p0), .val (.int p1), .val (.int p2), .val (.int p3), .val (.int p4), .val (.int p5), .val (.int (3 : Int32)), .val (.int (1 : Int32)), .val (.ref b51), .val (.int (1 : Int32))] [])
    refine Go.step (fun _ k => XS.iload X53.here hx rfl (hb hby at_31) rfl k) ?_
    show Go _ _ _ _ _ _ _ T53 (mkF m 33 #[.val (.int p0), .val (.int p1), .val (.int p2), .val (.int p3), .val (.int p4), .val (.int p5), .val (.int (3 : Int32)), .val (.int (1 : Int32)), .val (.ref b51), .val (.int (1 : Int32))] [(.int (3 : Int32))])
    refine Go.step (fun _ k => XS.ifNo X53.here hx rfl (hb hby at_33) rfl ((if0 _ _).trans (tlt (by decide : (0 : Int32) < (3 : Int32))).2.2.2) k) ?_
    show Go _ _ _ _ _ _ _ T53 (mkF m 36 #[.val (.int p0), .val (.int p1), .val (.int p2), .val (.int p3), .val (.int p4), .val (.int p5), .val (.int (3 : Int32)), .val (.int (1 : Int32)), .val (.ref b51), .val (.int (1 : Int32))] [])
    refine Go.step (fun _ k => XS.aload X53.here hx rfl (hb hby at_36) rfl rfl k) ?_
    show Go _ _ _ _ _ _ _ T53 (mkF m 38 #[.val (.int p0), .val (.int p1), .val (.int p2), .val (.int p3), .val (.int p4), .val (.int p5), .val (.int (3 : Int32)), .val (.int (1 : Int32)), .val (.ref b51), .val (.int (1 : Int32))] [(.ref b51)])
    refine Go.step (fun _ k => XS.iloadN X53.here hx rfl (hb hby at_38) rfl k) ?_
    show Go _ _ _ _ _ _ _ T53 (mkF m 39 #[.val (.int p0), .val (.int p1), .val (.int p2), .val (.int p3), .val (.int p4), .val (.int p5), .val (.int (3 : Int32)), .val (.int (1 : Int32)), .val (.ref b51), .val (.int (1 : Int32))] [(.int p2), (.ref b51)])
    refine Go.step (fun _ k => XS.bipush X53.here hx rfl (hb hby at_39) k) ?_
    show Go _ _ _ _ _ _ _ T53 (mkF m 41 #[.val (.int p0), .val (.int p1), .val (.int p2), .val (.int p3), .val (.int p4), .val (.int p5), .val (.int (3 : Int32)), .val (.int (1 : Int32)), .val (.ref b51), .val (.int (1 : Int32))] [(.int (16 : Int32)), (.int p2), (.ref b51)])
    refine Go.step (fun _ k => iremM X53 hx rfl (hb hby at_41) rfl (by decide) k) ?_
    show Go _ _ _ _ _ _ _ T53 (mkF m 42 #[.val (.int p0), .val (.int p1), .val (.int p2), .val (.int p3), .val (.int p4), .val (.int p5), .val (.int (3 : Int32)), .val (.int (1 : Int32)), .val (.ref b51), .val (.int (1 : Int32))] [(.int (p2 % (16 : Int32))), (.ref b51)])
    refine Go.step (fun _ k => XS.i2dS X53.here hx rfl (hb hby at_42) rfl rfl k) ?_
    show Go _ _ _ _ _ _ _ T53 (mkF m 43 #[.val (.int p0), .val (.int p1), .val (.int p2), .val (.int p3), .val (.int p4), .val (.int p5), .val (.int (3 : Int32)), .val (.int (1 : Int32)), .val (.ref b51), .val (.int (1 : Int32))] [(.double (FP.i2d (p2 % (16 : Int32)))), (.ref b51)])
    refine Go.step (fun _ k => XS.iload X53.here hx rfl (hb hby at_43) rfl k) ?_
    show Go _ _ _ _ _ _ _ T53 (mkF m 45 #[.val (.int p0), .val (.int p1), .val (.int p2), .val (.int p3), .val (.int p4), .val (.int p5), .val (.int (3 : Int32)), .val (.int (1 : Int32)), .val (.ref b51), .val (.int (1 : Int32))] [(.int p5), (.double (FP.i2d (p2 % (16 : Int32)))), (.ref b51)])
    refine Go.callV X53 hx hZ (by rw [hml]; rfl) (y := (⟨"com/example/wavegrade/wavegrade/DepartureQueue", "add", "(DI)V"⟩ : MethodName)) (z := (⟨"com/example/wavegrade/wavegrade/DepartureQueue", "add", "(DI)V"⟩ : MethodName)) (a := b51) (argsL := [(.double (FP.i2d (p2 % (16 : Int32)))), (.int p5)]) (rest := []) hown (hw _ (List.mem_of_getElem? (i := 22) rfl)) (hw _ (List.mem_of_getElem? (i := 23) rfl)) (notFace_of_selects (args := #[]) (mvT hZ (hw _ (List.mem_of_getElem? (i := 25) rfl)))) (hw _ (List.mem_of_getElem? (i := 25) rfl)) (hw _ (List.mem_of_getElem? (i := 24) rfl)) (hw _ (List.mem_of_getElem? (i := 2) rfl)) (hw _ (List.mem_of_getElem? (i := 26) rfl)) (by decide) (rm_add0 l Z a0 hw b51 u52 v52 (fun _ => (0 : UInt64)) (fun _ => (0 : Int32)) (tT p2 p3 p4) (tL p5) (tK p2 p3 p4) (fun x => x) 0 T52.heap n0 (Nat.le_trans Z0 (KK52 : Keep h0 T52.heap []).1) Ec52 Fs52 Ft52 Fl52 Vu52 Vv52 nqu52 nqv52 nuv52 ge_b51 ge_u52 ge_v52 (tH p2 p3 p4) hg52 hl52 hi52) hh53 Ec52 (hb hby at_45) (lenOf pd_2 rfl) rfl rfl (W := 0) (Nat.le_of_eq rfl) (by decide) (by decide) (by decide) (by decide) ?_
    intro v54 T54 L54 X54 Q54
    obtain ⟨rfl, N54q, Kc54, Ec54, Fs54, Ft54, Fl54, g54x, l54x, a54x, Vu54, Vv54, hg54, hl54, hi54, hs54, hP54⟩ := Q54
    have N54 := Fr.app N53 N54q
    have Ec52_54 := Ec52.keep Kc54
    have KK54 : Keep h0 T54.heap [] := (KK52 : Keep h0 T52.heap []).trans Kc54 (allS (Or.inr sz_b51) (allS (Or.inr sz_u52) (allS (Or.inr sz_v52) all0)))
    show Go _ _ _ _ _ _ _ T54 (mkF m 48 #[.val (.int p0), .val (.int p1), .val (.int p2), .val (.int p3), .val (.int p4), .val (.int p5), .val (.int (3 : Int32)), .val (.int (1 : Int32)), .val (.ref b51), .val (.int (1 : Int32))] [])
    refine Go.step (fun _ k => XS.iload X54.here hx rfl (hb hby at_48) rfl k) ?_
    show Go _ _ _ _ _ _ _ T54 (mkF m 50 #[.val (.int p0), .val (.int p1), .val (.int p2), .val (.int p3), .val (.int p4), .val (.int p5), .val (.int (3 : Int32)), .val (.int (1 : Int32)), .val (.ref b51), .val (.int (1 : Int32))] [(.int (3 : Int32))])
    refine Go.step (fun _ k => XS.iconst X54.here hx rfl (hb hby at_50) k) ?_
    show Go _ _ _ _ _ _ _ T54 (mkF m 51 #[.val (.int p0), .val (.int p1), .val (.int p2), .val (.int p3), .val (.int p4), .val (.int p5), .val (.int (3 : Int32)), .val (.int (1 : Int32)), .val (.ref b51), .val (.int (1 : Int32))] [(.int (1 : Int32)), (.int (3 : Int32))])
    refine Go.step (fun _ k => XS.icmpNo X54.here hx rfl (hb hby at_51) rfl (tlt (by decide : (1 : Int32) < (3 : Int32))).2.2.2 k) ?_
    show Go _ _ _ _ _ _ _ T54 (mkF m 54 #[.val (.int p0), .val (.int p1), .val (.int p2), .val (.int p3), .val (.int p4), .val (.int p5), .val (.int (3 : Int32)), .val (.int (1 : Int32)), .val (.ref b51), .val (.int (1 : Int32))] [])
    refine Go.step (fun _ k => XS.aload X54.here hx rfl (hb hby at_54) rfl rfl k) ?_
    show Go _ _ _ _ _ _ _ T54 (mkF m 56 #[.val (.int p0), .val (.int p1), .val (.int p2), .val (.int p3), .val (.int p4), .val (.int p5), .val (.int (3 : Int32)), .val (.int (1 : Int32)), .val (.ref b51), .val (.int (1 : Int32))] [(.ref b51)])
    refine Go.step (fun _ k => XS.iloadN X54.here hx rfl (hb hby at_56) rfl k) ?_
    show Go _ _ _ _ _ _ _ T54 (mkF m 57 #[.val (.int p0), .val (.int p1), .val (.int p2), .val (.int p3), .val (.int p4), .val (.int p5), .val (.int (3 : Int32)), .val (.int (1 : Int32)), .val (.ref b51), .val (.int (1 : Int32))] [(.int p3), (.ref b51)])
    refine Go.step (fun _ k => XS.bipush X54.here hx rfl (hb hby at_57) k) ?_
    show Go _ _ _ _ _ _ _ T54 (mkF m 59 #[.val (.int p0), .val (.int p1), .val (.int p2), .val (.int p3), .val (.int p4), .val (.int p5), .val (.int (3 : Int32)), .val (.int (1 : Int32)), .val (.ref b51), .val (.int (1 : Int32))] [(.int (16 : Int32)), (.int p3), (.ref b51)])
    refine Go.step (fun _ k => iremM X54 hx rfl (hb hby at_59) rfl (by decide) k) ?_
    show Go _ _ _ _ _ _ _ T54 (mkF m 60 #[.val (.int p0), .val (.int p1), .val (.int p2), .val (.int p3), .val (.int p4), .val (.int p5), .val (.int (3 : Int32)), .val (.int (1 : Int32)), .val (.ref b51), .val (.int (1 : Int32))] [(.int (p3 % (16 : Int32))), (.ref b51)])
    refine Go.step (fun _ k => XS.i2dS X54.here hx rfl (hb hby at_60) rfl rfl k) ?_
    show Go _ _ _ _ _ _ _ T54 (mkF m 61 #[.val (.int p0), .val (.int p1), .val (.int p2), .val (.int p3), .val (.int p4), .val (.int p5), .val (.int (3 : Int32)), .val (.int (1 : Int32)), .val (.ref b51), .val (.int (1 : Int32))] [(.double (FP.i2d (p3 % (16 : Int32)))), (.ref b51)])
    refine Go.step (fun _ k => XS.iload X54.here hx rfl (hb hby at_61) rfl k) ?_
    show Go _ _ _ _ _ _ _ T54 (mkF m 63 #[.val (.int p0), .val (.int p1), .val (.int p2), .val (.int p3), .val (.int p4), .val (.int p5), .val (.int (3 : Int32)), .val (.int (1 : Int32)), .val (.ref b51), .val (.int (1 : Int32))] [(.int p5), (.double (FP.i2d (p3 % (16 : Int32)))), (.ref b51)])
    refine Go.step (fun _ k => XS.iconst X54.here hx rfl (hb hby at_63) k) ?_
    show Go _ _ _ _ _ _ _ T54 (mkF m 64 #[.val (.int p0), .val (.int p1), .val (.int p2), .val (.int p3), .val (.int p4), .val (.int p5), .val (.int (3 : Int32)), .val (.int (1 : Int32)), .val (.ref b51), .val (.int (1 : Int32))] [(.int (1 : Int32)), (.int p5), (.double (FP.i2d (p3 % (16 : Int32)))), (.ref b51)])
    refine Go.step (fun _ k => XS.iadd X54.here hx rfl (hb hby at_64) rfl k) ?_
    show Go _ _ _ _ _ _ _ T54 (mkF m 65 #[.val (.int p0), .val (.int p1), .val (.int p2), .val (.int p3), .val (.int p4), .val (.int p5), .val (.int (3 : Int32)), .val (.int (1 : Int32)), .val (.ref b51), .val (.int (1 : Int32))] [(.int (p5 + (1 : Int32))), (.double (FP.i2d (p3 % (16 : Int32)))), (.ref b51)])
    refine Go.callV X54 hx hZ (by rw [hml]; rfl) (y := (⟨"com/example/wavegrade/wavegrade/DepartureQueue", "add", "(DI)V"⟩ : MethodName)) (z := (⟨"com/example/wavegrade/wavegrade/DepartureQueue", "add", "(DI)V"⟩ : MethodName)) (a := b51) (argsL := [(.double (FP.i2d (p3 % (16 : Int32)))), (.int (p5 + (1 : Int32)))]) (rest := []) hown (hw _ (List.mem_of_getElem? (i := 22) rfl)) (hw _ (List.mem_of_getElem? (i := 23) rfl)) (notFace_of_selects (args := #[]) (mvT hZ (hw _ (List.mem_of_getElem? (i := 25) rfl)))) (hw _ (List.mem_of_getElem? (i := 25) rfl)) (hw _ (List.mem_of_getElem? (i := 24) rfl)) (hw _ (List.mem_of_getElem? (i := 2) rfl)) (hw _ (List.mem_of_getElem? (i := 26) rfl)) (by decide) (rm_add1 l Z a0 hw b51 u52 v52 g54x l54x (tT p2 p3 p4) (tL p5) (tK p2 p3 p4) a54x 1 T54.heap n0 (Nat.le_trans Z0 (KK54 : Keep h0 T54.heap []).1) Ec54 Fs54 Ft54 Fl54 Vu54 Vv54 nqu52 nqv52 nuv52 ge_b51 ge_u52 ge_v52 (tH p2 p3 p4) hg54 hl54 hi54) rfl Ec54 (hb hby at_65) (lenOf pd_2 rfl) rfl rfl (W := 0) (Nat.le_of_eq rfl) (by decide) (by decide) (by decide) (by decide) ?_
    intro v55 T55 L55 X55 Q55
    obtain ⟨rfl, N55q, Kc55, Ec55, Fs55, Ft55, Fl55, g55x, l55x, a55x, Vu55, Vv55, hg55, hl55, hi55, hs55, hP55⟩ := Q55
    have N55 := Fr.app N54 N55q
    have Ec54_55 := Ec54.keep Kc55
    have KK55 : Keep h0 T55.heap [] := (KK54 : Keep h0 T54.heap []).trans Kc55 (allS (Or.inr sz_b51) (allS (Or.inr sz_u52) (allS (Or.inr sz_v52) all0)))
    show Go _ _ _ _ _ _ _ T55 (mkF m 68 #[.val (.int p0), .val (.int p1), .val (.int p2), .val (.int p3), .val (.int p4), .val (.int p5), .val (.int (3 : Int32)), .val (.int (1 : Int32)), .val (.ref b51), .val (.int (1 : Int32))] [])
    refine Go.step (fun _ k => XS.iload X55.here hx rfl (hb hby at_68) rfl k) ?_
    show Go _ _ _ _ _ _ _ T55 (mkF m 70 #[.val (.int p0), .val (.int p1), .val (.int p2), .val (.int p3), .val (.int p4), .val (.int p5), .val (.int (3 : Int32)), .val (.int (1 : Int32)), .val (.ref b51), .val (.int (1 : Int32))] [(.int (3 : Int32))])
    refine Go.step (fun _ k => XS.iconst X55.here hx rfl (hb hby at_70) k) ?_
    show Go _ _ _ _ _ _ _ T55 (mkF m 71 #[.val (.int p0), .val (.int p1), .val (.int p2), .val (.int p3), .val (.int p4), .val (.int p5), .val (.int (3 : Int32)), .val (.int (1 : Int32)), .val (.ref b51), .val (.int (1 : Int32))] [(.int (2 : Int32)), (.int (3 : Int32))])
    refine Go.step (fun _ k => XS.icmpNo X55.here hx rfl (hb hby at_71) rfl (tlt (by decide : (2 : Int32) < (3 : Int32))).2.2.2 k) ?_
    show Go _ _ _ _ _ _ _ T55 (mkF m 74 #[.val (.int p0), .val (.int p1), .val (.int p2), .val (.int p3), .val (.int p4), .val (.int p5), .val (.int (3 : Int32)), .val (.int (1 : Int32)), .val (.ref b51), .val (.int (1 : Int32))] [])
    refine Go.step (fun _ k => XS.aload X55.here hx rfl (hb hby at_74) rfl rfl k) ?_
    show Go _ _ _ _ _ _ _ T55 (mkF m 76 #[.val (.int p0), .val (.int p1), .val (.int p2), .val (.int p3), .val (.int p4), .val (.int p5), .val (.int (3 : Int32)), .val (.int (1 : Int32)), .val (.ref b51), .val (.int (1 : Int32))] [(.ref b51)])
    refine Go.step (fun _ k => XS.iload X55.here hx rfl (hb hby at_76) rfl k) ?_
    show Go _ _ _ _ _ _ _ T55 (mkF m 78 #[.val (.int p0), .val (.int p1), .val (.int p2), .val (.int p3), .val (.int p4), .val (.int p5), .val (.int (3 : Int32)), .val (.int (1 : Int32)), .val (.ref b51), .val (.int (1 : Int32))] [(.int p4), (.ref b51)])
    refine Go.step (fun _ k => XS.bipush X55.here hx rfl (hb hby at_78) k) ?_
    show Go _ _ _ _ _ _ _ T55 (mkF m 80 #[.val (.int p0), .val (.int p1), .val (.int p2), .val (.int p3), .val (.int p4), .val (.int p5), .val (.int (3 : Int32)), .val (.int (1 : Int32)), .val (.ref b51), .val (.int (1 : Int32))] [(.int (16 : Int32)), (.int p4), (.ref b51)])
    refine Go.step (fun _ k => iremM X55 hx rfl (hb hby at_80) rfl (by decide) k) ?_
    show Go _ _ _ _ _ _ _ T55 (mkF m 81 #[.val (.int p0), .val (.int p1), .val (.int p2), .val (.int p3), .val (.int p4), .val (.int p5), .val (.int (3 : Int32)), .val (.int (1 : Int32)), .val (.ref b51), .val (.int (1 : Int32))] [(.int (p4 % (16 : Int32))), (.ref b51)])
    refine Go.step (fun _ k => XS.i2dS X55.here hx rfl (hb hby at_81) rfl rfl k) ?_
    show Go _ _ _ _ _ _ _ T55 (mkF m 82 #[.val (.int p0), .val (.int p1), .val (.int p2), .val (.int p3), .val (.int p4), .val (.int p5), .val (.int (3 : Int32)), .val (.int (1 : Int32)), .val (.ref b51), .val (.int (1 : Int32))] [(.double (FP.i2d (p4 % (16 : Int32)))), (.ref b51)])
    refine Go.step (fun _ k => XS.iload X55.here hx rfl (hb hby at_82) rfl k) ?_
    show Go _ _ _ _ _ _ _ T55 (mkF m 84 #[.val (.int p0), .val (.int p1), .val (.int p2), .val (.int p3), .val (.int p4), .val (.int p5), .val (.int (3 : Int32)), .val (.int (1 : Int32)), .val (.ref b51), .val (.int (1 : Int32))] [(.int p5), (.double (FP.i2d (p4 % (16 : Int32)))), (.ref b51)])
    refine Go.step (fun _ k => XS.iconst X55.here hx rfl (hb hby at_84) k) ?_
    show Go _ _ _ _ _ _ _ T55 (mkF m 85 #[.val (.int p0), .val (.int p1), .val (.int p2), .val (.int p3), .val (.int p4), .val (.int p5), .val (.int (3 : Int32)), .val (.int (1 : Int32)), .val (.ref b51), .val (.int (1 : Int32))] [(.int (2 : Int32)), (.int p5), (.double (FP.i2d (p4 % (16 : Int32)))), (.ref b51)])
    refine Go.step (fun _ k => XS.iadd X55.here hx rfl (hb hby at_85) rfl k) ?_
    show Go _ _ _ _ _ _ _ T55 (mkF m 86 #[.val (.int p0), .val (.int p1), .val (.int p2), .val (.int p3), .val (.int p4), .val (.int p5), .val (.int (3 : Int32)), .val (.int (1 : Int32)), .val (.ref b51), .val (.int (1 : Int32))] [(.int (p5 + (2 : Int32))), (.double (FP.i2d (p4 % (16 : Int32)))), (.ref b51)])
    refine Go.callV X55 hx hZ (by rw [hml]; rfl) (y := (⟨"com/example/wavegrade/wavegrade/DepartureQueue", "add", "(DI)V"⟩ : MethodName)) (z := (⟨"com/example/wavegrade/wavegrade/DepartureQueue", "add", "(DI)V"⟩ : MethodName)) (a := b51) (argsL := [(.double (FP.i2d (p4 % (16 : Int32)))), (.int (p5 + (2 : Int32)))]) (rest := []) hown (hw _ (List.mem_of_getElem? (i := 22) rfl)) (hw _ (List.mem_of_getElem? (i := 23) rfl)) (notFace_of_selects (args := #[]) (mvT hZ (hw _ (List.mem_of_getElem? (i := 25) rfl)))) (hw _ (List.mem_of_getElem? (i := 25) rfl)) (hw _ (List.mem_of_getElem? (i := 24) rfl)) (hw _ (List.mem_of_getElem? (i := 2) rfl)) (hw _ (List.mem_of_getElem? (i := 26) rfl)) (by decide) (rm_add2 l Z a0 hw b51 u52 v52 g55x l55x (tT p2 p3 p4) (tL p5) (tK p2 p3 p4) a55x 2 T55.heap n0 (Nat.le_trans Z0 (KK55 : Keep h0 T55.heap []).1) Ec55 Fs55 Ft55 Fl55 Vu55 Vv55 nqu52 nqv52 nuv52 ge_b51 ge_u52 ge_v52 (tH p2 p3 p4) hg55 hl55 hi55) rfl Ec55 (hb hby at_86) (lenOf pd_2 rfl) rfl rfl (W := 0) (Nat.le_of_eq rfl) (by decide) (by decide) (by decide) (by decide) ?_
    intro v56 T56 L56 X56 Q56
    obtain ⟨rfl, N56q, Kc56, Ec56, Fs56, Ft56, Fl56, g56x, l56x, a56x, Vu56, Vv56, hg56, hl56, hi56, hs56, hP56⟩ := Q56
    have N56 := Fr.app N55 N56q
    have Ec55_56 := Ec55.keep Kc56
    have KK56 : Keep h0 T56.heap [] := (KK55 : Keep h0 T55.heap []).trans Kc56 (allS (Or.inr sz_b51) (allS (Or.inr sz_u52) (allS (Or.inr sz_v52) all0)))
    show Go _ _ _ _ _ _ _ T56 (mkF m 89 #[.val (.int p0), .val (.int p1), .val (.int p2), .val (.int p3), .val (.int p4), .val (.int p5), .val (.int (3 : Int32)), .val (.int (1 : Int32)), .val (.ref b51), .val (.int (1 : Int32))] [])
    refine Go.step (fun _ k => XS.iload X56.here hx rfl (hb hby at_89) rfl k) ?_
    show Go _ _ _ _ _ _ _ T56 (mkF m 91 #[.val (.int p0), .val (.int p1), .val (.int p2), .val (.int p3), .val (.int p4), .val (.int p5), .val (.int (3 : Int32)), .val (.int (1 : Int32)), .val (.ref b51), .val (.int (1 : Int32))] [(.int (1 : Int32))])
    refine Go.step (fun _ k => XS.ifNo X56.here hx rfl (hb hby at_91) rfl ((if0 _ _).trans (feq (by decide : ¬ ((1 : Int32) = (0 : Int32)))).1) k) ?_
    show Go _ _ _ _ _ _ _ T56 (mkF m 94 #[.val (.int p0), .val (.int p1), .val (.int p2), .val (.int p3), .val (.int p4), .val (.int p5), .val (.int (3 : Int32)), .val (.int (1 : Int32)), .val (.ref b51), .val (.int (1 : Int32))] [])
    refine Go.step (fun _ k => XS.aload X56.here hx rfl (hb hby at_94) rfl rfl k) ?_
    show Go _ _ _ _ _ _ _ T56 (mkF m 96 #[.val (.int p0), .val (.int p1), .val (.int p2), .val (.int p3), .val (.int p4), .val (.int p5), .val (.int (3 : Int32)), .val (.int (1 : Int32)), .val (.ref b51), .val (.int (1 : Int32))] [(.ref b51)])
    refine Go.callV X56 hx hZ (by rw [hml]; rfl) (y := (⟨"com/example/wavegrade/wavegrade/DepartureQueue", "isEmpty", "()Z"⟩ : MethodName)) (z := (⟨"com/example/wavegrade/wavegrade/DepartureQueue", "isEmpty", "()Z"⟩ : MethodName)) (a := b51) (argsL := []) (rest := []) hown (hw _ (List.mem_of_getElem? (i := 15) rfl)) (hw _ (List.mem_of_getElem? (i := 16) rfl)) (notFace_of_selects (args := #[]) (mvT hZ (hw _ (List.mem_of_getElem? (i := 18) rfl)))) (hw _ (List.mem_of_getElem? (i := 18) rfl)) (hw _ (List.mem_of_getElem? (i := 17) rfl)) (hw _ (List.mem_of_getElem? (i := 2) rfl)) (hw _ (List.mem_of_getElem? (i := 19) rfl)) (by decide) (rm_empty3 l Z a0 hw b51 T56.heap n0 (Nat.le_trans Z0 (KK56 : Keep h0 T56.heap []).1) Fs56) rfl Ec56 (hb hby at_96) (lenOf pd_1 rfl) rfl rfl (W := 0) (Nat.le_of_eq rfl) (by decide) (by decide) (by decide) (by decide) ?_
    intro v57 T57 L57 X57 Q57
    obtain ⟨rfl, N57q, hh57⟩ := Q57
    have N57 := Fr.app N56 N57q
    show Go _ _ _ _ _ _ _ T57 (mkF m 99 #[.val (.int p0), .val (.int p1), .val (.int p2), .val (.int p3), .val (.int p4), .val (.int p5), .val (.int (3 : Int32)), .val (.int (1 : Int32)), .val (.ref b51), .val (.int (1 : Int32))] [(.int (0 : Int32))])
    refine Go.step (fun _ k => XS.iload X57.here hx rfl (hb hby at_99) rfl k) ?_
    show Go _ _ _ _ _ _ _ T57 (mkF m 101 #[.val (.int p0), .val (.int p1), .val (.int p2), .val (.int p3), .val (.int p4), .val (.int p5), .val (.int (3 : Int32)), .val (.int (1 : Int32)), .val (.ref b51), .val (.int (1 : Int32))] [(.int (3 : Int32)), (.int (0 : Int32))])
    refine Go.step (fun _ k => XS.ifYes X57.here hx rfl (pc0 := 101) (pc' := 108) rfl (hb hby at_101) rfl ((if0 _ _).trans (feq (by decide : ¬ ((3 : Int32) = (0 : Int32)))).2) (by decide) (by decide) k) ?_
    show Go _ _ _ _ _ _ _ T57 (mkF m 108 #[.val (.int p0), .val (.int p1), .val (.int p2), .val (.int p3), .val (.int p4), .val (.int p5), .val (.int (3 : Int32)), .val (.int (1 : Int32)), .val (.ref b51), .val (.int (1 : Int32))] [(.int (0 : Int32))])
    refine Go.step (fun _ k => XS.iconst X57.here hx rfl (hb hby at_108) k) ?_
    show Go _ _ _ _ _ _ _ T57 (mkF m 109 #[.val (.int p0), .val (.int p1), .val (.int p2), .val (.int p3), .val (.int p4), .val (.int p5), .val (.int (3 : Int32)), .val (.int (1 : Int32)), .val (.ref b51), .val (.int (1 : Int32))] [(.int (0 : Int32)), (.int (0 : Int32))])
    refine Go.step (fun _ k => XS.icmpNo X57.here hx rfl (hb hby at_109) rfl (teq (by decide : (0 : Int32) = (0 : Int32))).2 k) ?_
    show Go _ _ _ _ _ _ _ T57 (mkF m 112 #[.val (.int p0), .val (.int p1), .val (.int p2), .val (.int p3), .val (.int p4), .val (.int p5), .val (.int (3 : Int32)), .val (.int (1 : Int32)), .val (.ref b51), .val (.int (1 : Int32))] [])
    refine Go.step (fun _ k => XS.iconst X57.here hx rfl (hb hby at_112) k) ?_
    show Go _ _ _ _ _ _ _ T57 (mkF m 113 #[.val (.int p0), .val (.int p1), .val (.int p2), .val (.int p3), .val (.int p4), .val (.int p5), .val (.int (3 : Int32)), .val (.int (1 : Int32)), .val (.ref b51), .val (.int (1 : Int32))] [(.int (1 : Int32))])
    refine Go.step (fun _ k => XS.goto X57.here hx rfl (pc0 := 113) (pc' := 117) rfl (hb hby at_113) (by decide) (by decide) k) ?_
    show Go _ _ _ _ _ _ _ T57 (mkF m 117 #[.val (.int p0), .val (.int p1), .val (.int p2), .val (.int p3), .val (.int p4), .val (.int p5), .val (.int (3 : Int32)), .val (.int (1 : Int32)), .val (.ref b51), .val (.int (1 : Int32))] [(.int (1 : Int32))])
    refine Go.step (fun _ k => XS.istore X57.here hx rfl (hb hby at_117) rfl (l' := #[.val (.int p0), .val (.int p1), .val (.int p2), .val (.int p3), .val (.int p4), .val (.int p5), .val (.int (3 : Int32)), .val (.int (1 : Int32)), .val (.ref b51), .val (.int (1 : Int32))]) rfl k) ?_
    show Go _ _ _ _ _ _ _ T57 (mkF m 119 #[.val (.int p0), .val (.int p1), .val (.int p2), .val (.int p3), .val (.int p4), .val (.int p5), .val (.int (3 : Int32)), .val (.int (1 : Int32)), .val (.ref b51), .val (.int (1 : Int32))] [])
    refine Go.step (fun _ k => XS.iload X57.here hx rfl (hb hby at_119) rfl k) ?_
    show Go _ _ _ _ _ _ _ T57 (mkF m 121 #[.val (.int p0), .val (.int p1), .val (.int p2), .val (.int p3), .val (.int p4), .val (.int p5), .val (.int (3 : Int32)), .val (.int (1 : Int32)), .val (.ref b51), .val (.int (1 : Int32))] [(.int (1 : Int32))])
    refine Go.step (fun _ k => XS.ifNo X57.here hx rfl (hb hby at_121) rfl ((if0 _ _).trans (tlt (by decide : (0 : Int32) < (1 : Int32))).2.2.2) k) ?_
    show Go _ _ _ _ _ _ _ T57 (mkF m 124 #[.val (.int p0), .val (.int p1), .val (.int p2), .val (.int p3), .val (.int p4), .val (.int p5), .val (.int (3 : Int32)), .val (.int (1 : Int32)), .val (.ref b51), .val (.int (1 : Int32))] [])
    refine Go.step (fun _ k => XS.aload X57.here hx rfl (hb hby at_124) rfl rfl k) ?_
    show Go _ _ _ _ _ _ _ T57 (mkF m 126 #[.val (.int p0), .val (.int p1), .val (.int p2), .val (.int p3), .val (.int p4), .val (.int p5), .val (.int (3 : Int32)), .val (.int (1 : Int32)), .val (.ref b51), .val (.int (1 : Int32))] [(.ref b51)])
    refine Go.callV X57 hx hZ (by rw [hml]; rfl) (y := (⟨"com/example/wavegrade/wavegrade/DepartureQueue", "removeFirst", "()I"⟩ : MethodName)) (z := (⟨"com/example/wavegrade/wavegrade/DepartureQueue", "removeFirst", "()I"⟩ : MethodName)) (a := b51) (argsL := []) (rest := []) hown (hw _ (List.mem_of_getElem? (i := 27) rfl)) (hw _ (List.mem_of_getElem? (i := 28) rfl)) (notFace_of_selects (args := #[]) (mvT hZ (hw _ (List.mem_of_getElem? (i := 30) rfl)))) (hw _ (List.mem_of_getElem? (i := 30) rfl)) (hw _ (List.mem_of_getElem? (i := 29) rfl)) (hw _ (List.mem_of_getElem? (i := 2) rfl)) (hw _ (List.mem_of_getElem? (i := 31) rfl)) (by decide) (rm_rem3 l Z a0 hw b51 u52 v52 g56x l56x (tT p2 p3 p4) (tL p5) (tK p2 p3 p4) a56x T56.heap n0 (Nat.le_trans Z0 (KK56 : Keep h0 T56.heap []).1) Ec56 Fs56 Ft56 Fl56 Vu56 Vv56 nqu52 nqv52 nuv52 ge_b51 ge_u52 ge_v52 (tH p2 p3 p4) hg56 hl56 hi56) hh57 Ec56 (hb hby at_126) (lenOf pd_3 rfl) rfl rfl (W := 0) (Nat.le_of_eq rfl) (by decide) (by decide) (by decide) (by decide) ?_
    intro v58 T58 L58 X58 Q58
    obtain ⟨rfl, N58q, Kc58, Ec58, Fs58, Ft58, Fl58, g58x, l58x, a58x, Vu58, Vv58, hg58, hl58, hi58, ⟨hm58, hs58⟩, hP58⟩ := Q58
    have N58 := Fr.app N57 N58q
    have Ec56_58 := Ec56.keep Kc58
    have KK58 : Keep h0 T58.heap [] := (KK56 : Keep h0 T56.heap []).trans Kc58 (allS (Or.inr sz_b51) (allS (Or.inr sz_u52) (allS (Or.inr sz_v52) all0)))
    show Go _ _ _ _ _ _ _ T58 (mkF m 129 #[.val (.int p0), .val (.int p1), .val (.int p2), .val (.int p3), .val (.int p4), .val (.int p5), .val (.int (3 : Int32)), .val (.int (1 : Int32)), .val (.ref b51), .val (.int (1 : Int32))] [(.int ((tL p5) (a56x 0)))])
    refine Go.step (fun _ k => XS.pop X58.here hx rfl (hb hby at_129) rfl rfl k) ?_
    show Go _ _ _ _ _ _ _ T58 (mkF m 130 #[.val (.int p0), .val (.int p1), .val (.int p2), .val (.int p3), .val (.int p4), .val (.int p5), .val (.int (3 : Int32)), .val (.int (1 : Int32)), .val (.ref b51), .val (.int (1 : Int32))] [])
    refine Go.step (fun _ k => XS.iload X58.here hx rfl (hb hby at_130) rfl k) ?_
    show Go _ _ _ _ _ _ _ T58 (mkF m 132 #[.val (.int p0), .val (.int p1), .val (.int p2), .val (.int p3), .val (.int p4), .val (.int p5), .val (.int (3 : Int32)), .val (.int (1 : Int32)), .val (.ref b51), .val (.int (1 : Int32))] [(.int (1 : Int32))])
    refine Go.step (fun _ k => XS.iconst X58.here hx rfl (hb hby at_132) k) ?_
    show Go _ _ _ _ _ _ _ T58 (mkF m 133 #[.val (.int p0), .val (.int p1), .val (.int p2), .val (.int p3), .val (.int p4), .val (.int p5), .val (.int (3 : Int32)), .val (.int (1 : Int32)), .val (.ref b51), .val (.int (1 : Int32))] [(.int (1 : Int32)), (.int (1 : Int32))])
    refine Go.step (fun _ k => XS.icmpYes X58.here hx rfl (pc0 := 133) (pc' := 142) rfl (hb hby at_133) rfl (flt (by decide : ¬ ((1 : Int32) < (1 : Int32)))).2.2.2 (by decide) (by decide) k) ?_
    show Go _ _ _ _ _ _ _ T58 (mkF m 142 #[.val (.int p0), .val (.int p1), .val (.int p2), .val (.int p3), .val (.int p4), .val (.int p5), .val (.int (3 : Int32)), .val (.int (1 : Int32)), .val (.ref b51), .val (.int (1 : Int32))] [])
    refine Go.step (fun _ k => XS.iload X58.here hx rfl (hb hby at_142) rfl k) ?_
    show Go _ _ _ _ _ _ _ T58 (mkF m 144 #[.val (.int p0), .val (.int p1), .val (.int p2), .val (.int p3), .val (.int p4), .val (.int p5), .val (.int (3 : Int32)), .val (.int (1 : Int32)), .val (.ref b51), .val (.int (1 : Int32))] [(.int (1 : Int32))])
    refine Go.step (fun _ k => XS.iconst X58.here hx rfl (hb hby at_144) k) ?_
    show Go _ _ _ _ _ _ _ T58 (mkF m 145 #[.val (.int p0), .val (.int p1), .val (.int p2), .val (.int p3), .val (.int p4), .val (.int p5), .val (.int (3 : Int32)), .val (.int (1 : Int32)), .val (.ref b51), .val (.int (1 : Int32))] [(.int (2 : Int32)), (.int (1 : Int32))])
    refine Go.step (fun _ k => XS.icmpYes X58.here hx rfl (pc0 := 145) (pc' := 154) rfl (hb hby at_145) rfl (flt (by decide : ¬ ((2 : Int32) < (1 : Int32)))).2.2.2 (by decide) (by decide) k) ?_
    show Go _ _ _ _ _ _ _ T58 (mkF m 154 #[.val (.int p0), .val (.int p1), .val (.int p2), .val (.int p3), .val (.int p4), .val (.int p5), .val (.int (3 : Int32)), .val (.int (1 : Int32)), .val (.ref b51), .val (.int (1 : Int32))] [])
    refine Go.step (fun _ k => XS.iload X58.here hx rfl (hb hby at_154) rfl k) ?_
    show Go _ _ _ _ _ _ _ T58 (mkF m 156 #[.val (.int p0), .val (.int p1), .val (.int p2), .val (.int p3), .val (.int p4), .val (.int p5), .val (.int (3 : Int32)), .val (.int (1 : Int32)), .val (.ref b51), .val (.int (1 : Int32))] [(.int (1 : Int32))])
    refine Go.step (fun _ k => XS.ifNo X58.here hx rfl (hb hby at_156) rfl ((if0 _ _).trans (feq (by decide : ¬ ((1 : Int32) = (0 : Int32)))).1) k) ?_
    show Go _ _ _ _ _ _ _ T58 (mkF m 159 #[.val (.int p0), .val (.int p1), .val (.int p2), .val (.int p3), .val (.int p4), .val (.int p5), .val (.int (3 : Int32)), .val (.int (1 : Int32)), .val (.ref b51), .val (.int (1 : Int32))] [])
    refine Go.step (fun _ k => XS.aload X58.here hx rfl (hb hby at_159) rfl rfl k) ?_
    show Go _ _ _ _ _ _ _ T58 (mkF m 161 #[.val (.int p0), .val (.int p1), .val (.int p2), .val (.int p3), .val (.int p4), .val (.int p5), .val (.int (3 : Int32)), .val (.int (1 : Int32)), .val (.ref b51), .val (.int (1 : Int32))] [(.ref b51)])
    refine Go.callV X58 hx hZ (by rw [hml]; rfl) (y := (⟨"com/example/wavegrade/wavegrade/DepartureQueue", "isEmpty", "()Z"⟩ : MethodName)) (z := (⟨"com/example/wavegrade/wavegrade/DepartureQueue", "isEmpty", "()Z"⟩ : MethodName)) (a := b51) (argsL := []) (rest := []) hown (hw _ (List.mem_of_getElem? (i := 15) rfl)) (hw _ (List.mem_of_getElem? (i := 16) rfl)) (notFace_of_selects (args := #[]) (mvT hZ (hw _ (List.mem_of_getElem? (i := 18) rfl)))) (hw _ (List.mem_of_getElem? (i := 18) rfl)) (hw _ (List.mem_of_getElem? (i := 17) rfl)) (hw _ (List.mem_of_getElem? (i := 2) rfl)) (hw _ (List.mem_of_getElem? (i := 19) rfl)) (by decide) (rm_empty2 l Z a0 hw b51 T58.heap n0 (Nat.le_trans Z0 (KK58 : Keep h0 T58.heap []).1) Fs58) rfl Ec58 (hb hby at_161) (lenOf pd_1 rfl) rfl rfl (W := 0) (Nat.le_of_eq rfl) (by decide) (by decide) (by decide) (by decide) ?_
    intro v59 T59 L59 X59 Q59
    obtain ⟨rfl, N59q, hh59⟩ := Q59
    have N59 := Fr.app N58 N59q
    show Go _ _ _ _ _ _ _ T59 (mkF m 164 #[.val (.int p0), .val (.int p1), .val (.int p2), .val (.int p3), .val (.int p4), .val (.int p5), .val (.int (3 : Int32)), .val (.int (1 : Int32)), .val (.ref b51), .val (.int (1 : Int32))] [(.int (0 : Int32))])
    refine Go.step (fun _ k => XS.iload X59.here hx rfl (hb hby at_164) rfl k) ?_
    show Go _ _ _ _ _ _ _ T59 (mkF m 166 #[.val (.int p0), .val (.int p1), .val (.int p2), .val (.int p3), .val (.int p4), .val (.int p5), .val (.int (3 : Int32)), .val (.int (1 : Int32)), .val (.ref b51), .val (.int (1 : Int32))] [(.int (3 : Int32)), (.int (0 : Int32))])
    refine Go.step (fun _ k => XS.iload X59.here hx rfl (hb hby at_166) rfl k) ?_
    show Go _ _ _ _ _ _ _ T59 (mkF m 168 #[.val (.int p0), .val (.int p1), .val (.int p2), .val (.int p3), .val (.int p4), .val (.int p5), .val (.int (3 : Int32)), .val (.int (1 : Int32)), .val (.ref b51), .val (.int (1 : Int32))] [(.int (1 : Int32)), (.int (3 : Int32)), (.int (0 : Int32))])
    refine Go.step (fun _ k => XS.isub X59.here hx rfl (hb hby at_168) rfl k) ?_
    show Go _ _ _ _ _ _ _ T59 (mkF m 169 #[.val (.int p0), .val (.int p1), .val (.int p2), .val (.int p3), .val (.int p4), .val (.int p5), .val (.int (3 : Int32)), .val (.int (1 : Int32)), .val (.ref b51), .val (.int (1 : Int32))] [(.int (2 : Int32)), (.int (0 : Int32))])
    refine Go.step (fun _ k => XS.ifYes X59.here hx rfl (pc0 := 169) (pc' := 176) rfl (hb hby at_169) rfl ((if0 _ _).trans (feq (by decide : ¬ ((2 : Int32) = (0 : Int32)))).2) (by decide) (by decide) k) ?_
    show Go _ _ _ _ _ _ _ T59 (mkF m 176 #[.val (.int p0), .val (.int p1), .val (.int p2), .val (.int p3), .val (.int p4), .val (.int p5), .val (.int (3 : Int32)), .val (.int (1 : Int32)), .val (.ref b51), .val (.int (1 : Int32))] [(.int (0 : Int32))])
    refine Go.step (fun _ k => XS.iconst X59.here hx rfl (hb hby at_176) k) ?_
    show Go _ _ _ _ _ _ _ T59 (mkF m 177 #[.val (.int p0), .val (.int p1), .val (.int p2), .val (.int p3), .val (.int p4), .val (.int p5), .val (.int (3 : Int32)), .val (.int (1 : Int32)), .val (.ref b51), .val (.int (1 : Int32))] [(.int (0 : Int32)), (.int (0 : Int32))])
    refine Go.step (fun _ k => XS.icmpNo X59.here hx rfl (hb hby at_177) rfl (teq (by decide : (0 : Int32) = (0 : Int32))).2 k) ?_
    show Go _ _ _ _ _ _ _ T59 (mkF m 180 #[.val (.int p0), .val (.int p1), .val (.int p2), .val (.int p3), .val (.int p4), .val (.int p5), .val (.int (3 : Int32)), .val (.int (1 : Int32)), .val (.ref b51), .val (.int (1 : Int32))] [])
    refine Go.step (fun _ k => XS.iconst X59.here hx rfl (hb hby at_180) k) ?_
    show Go _ _ _ _ _ _ _ T59 (mkF m 181 #[.val (.int p0), .val (.int p1), .val (.int p2), .val (.int p3), .val (.int p4), .val (.int p5), .val (.int (3 : Int32)), .val (.int (1 : Int32)), .val (.ref b51), .val (.int (1 : Int32))] [(.int (1 : Int32))])
    refine Go.step (fun _ k => XS.goto X59.here hx rfl (pc0 := 181) (pc' := 185) rfl (hb hby at_181) (by decide) (by decide) k) ?_
    show Go _ _ _ _ _ _ _ T59 (mkF m 185 #[.val (.int p0), .val (.int p1), .val (.int p2), .val (.int p3), .val (.int p4), .val (.int p5), .val (.int (3 : Int32)), .val (.int (1 : Int32)), .val (.ref b51), .val (.int (1 : Int32))] [(.int (1 : Int32))])
    refine Go.step (fun _ k => XS.istore X59.here hx rfl (hb hby at_185) rfl (l' := #[.val (.int p0), .val (.int p1), .val (.int p2), .val (.int p3), .val (.int p4), .val (.int p5), .val (.int (3 : Int32)), .val (.int (1 : Int32)), .val (.ref b51), .val (.int (1 : Int32))]) rfl k) ?_
    show Go _ _ _ _ _ _ _ T59 (mkF m 187 #[.val (.int p0), .val (.int p1), .val (.int p2), .val (.int p3), .val (.int p4), .val (.int p5), .val (.int (3 : Int32)), .val (.int (1 : Int32)), .val (.ref b51), .val (.int (1 : Int32))] [])
    refine Go.step (fun _ k => XS.iload X59.here hx rfl (hb hby at_187) rfl k) ?_
    show Go _ _ _ _ _ _ _ T59 (mkF m 189 #[.val (.int p0), .val (.int p1), .val (.int p2), .val (.int p3), .val (.int p4), .val (.int p5), .val (.int (3 : Int32)), .val (.int (1 : Int32)), .val (.ref b51), .val (.int (1 : Int32))] [(.int (1 : Int32))])
    refine Go.retZ X59 hx hlk hret (by decide) (hb hby at_189) (by decide) (by decide) ?_
    try rw [hh59]
    exact ⟨rfl, N59⟩
  · show Go _ _ _ _ _ _ _ T0 (mkF m 15 #[.val (.int p0), .val (.int p1), .val (.int p2), .val (.int p3), .val (.int p4), .val (.int p5), .val (.int (3 : Int32)), .val (.int (2 : Int32)), .unset, .unset] [])
    obtain ⟨T60, h60, X60, e60, E60, A60, D60, -, st60⟩ := newO X0 hx hZ hown (hw _ (List.mem_of_getElem? (i := 0) rfl)) (hw _ (List.mem_of_getElem? (i := 1) rfl)) (hw _ (List.mem_of_getElem? (i := 2) rfl)) e0 (g := (mkF m 15 #[.val (.int p0), .val (.int p1), .val (.int p2), .val (.int p3), .val (.int p4), .val (.int p5), .val (.int (3 : Int32)), .val (.int (2 : Int32)), .unset, .unset] [])) rfl (hb hby at_15) (by decide) (by decide)
    obtain ⟨b60, g60⟩ : ∃ z, z = h0.size := ⟨_, rfl⟩
    rw [← g60] at A60 D60 st60
    refine Go.step st60 ?_
    have K60 : Keep h0 h60 [] := (Keep.refl h0 []).ext E60
    have sz_b60 : h0.size ≤ b60 := Nat.le_trans ((Keep.refl h0 []) : Keep h0 h0 []).1 (Nat.le_of_eq g60.symm)
    have ge_b60 : n0 ≤ b60 := Nat.le_trans Z0 sz_b60
    have E_b60 := A60
    have F_times_b60 : Fld Z h60 b60 "com/example/wavegrade/wavegrade/DepartureQueue" "times" "[D" .null := D60 (Or.inl (hw _ (List.mem_of_getElem? (i := 11) rfl))) (ty := (.array .double)) (by decide)
    have F_lightpaths_b60 : Fld Z h60 b60 "com/example/wavegrade/wavegrade/DepartureQueue" "lightpaths" "[I" .null := D60 (Or.inl (hw _ (List.mem_of_getElem? (i := 14) rfl))) (ty := (.array .int)) (by decide)
    have F_size_b60 : Fld Z h60 b60 "com/example/wavegrade/wavegrade/DepartureQueue" "size" "I" (.int (0 : Int32)) := D60 (Or.inl (hw _ (List.mem_of_getElem? (i := 21) rfl))) (ty := .int) (by decide)
    show Go _ _ _ _ _ _ _ T60 (mkF m 18 #[.val (.int p0), .val (.int p1), .val (.int p2), .val (.int p3), .val (.int p4), .val (.int p5), .val (.int (3 : Int32)), .val (.int (2 : Int32)), .unset, .unset] [(.ref b60)])
    refine Go.step (fun _ k => XS.dup X60.here hx rfl (hb hby at_18) rfl rfl k) ?_
    show Go _ _ _ _ _ _ _ T60 (mkF m 19 #[.val (.int p0), .val (.int p1), .val (.int p2), .val (.int p3), .val (.int p4), .val (.int p5), .val (.int (3 : Int32)), .val (.int (2 : Int32)), .unset, .unset] [(.ref b60), (.ref b60)])
    refine Go.callI X60 hx hZ (by rw [hml]; rfl) (y := (⟨"com/example/wavegrade/wavegrade/DepartureQueue", "<init>", "()V"⟩ : MethodName)) (a := b60) (argsL := []) (rest := [(.ref b60)]) rfl hown (hw _ (List.mem_of_getElem? (i := 3) rfl)) (hw _ (List.mem_of_getElem? (i := 4) rfl)) (hw _ (List.mem_of_getElem? (i := 2) rfl)) (hw _ (List.mem_of_getElem? (i := 5) rfl)) (by decide) (rm1 l Z a0 hw b60 h60 n0 (Nat.le_trans Z0 (K60 : Keep h0 h60 []).1) E_b60 F_size_b60 F_times_b60 F_lightpaths_b60 ge_b60) e60 (hb hby at_19) (lenOf pd_0 rfl) rfl rfl (W := 1) (Nat.le_of_eq rfl) (by decide) (by decide) (by decide) (by decide) ?_
    intro v61 T61 L61 X61 Q61
    obtain ⟨rfl, N61q, Kc61, Ec61, Fs61, u61, v61, Ft61, Fl61, Vu61, Vv61, nqu61, nqv61, nuv61, su61, sv61⟩ := Q61
    have N61 := Fr.app N0 N61q
    have E_b60_61 := E_b60.keep Kc61
    have KK61 : Keep h0 T61.heap [] := (K60 : Keep h0 h60 []).trans Kc61 (allS (Or.inr sz_b60) all0)
    have sz_u61 : h0.size ≤ u61 := Nat.le_trans (K60 : Keep h0 h60 []).1 su61
    have ge_u61 : n0 ≤ u61 := Nat.le_trans Z0 sz_u61
    have sz_v61 : h0.size ≤ v61 := Nat.le_trans (K60 : Keep h0 h60 []).1 sv61
    have ge_v61 : n0 ≤ v61 := Nat.le_trans Z0 sz_v61
    have hg61 : ∀ i, i < 0 → (fun _ => (0 : UInt64)) i = (tT p2 p3 p4) ((fun x => x) i) := fun i hi' => absurd hi' (by omega)
    have hl61 : ∀ i, i < 0 → (fun _ => (0 : Int32)) i = (tL p5) ((fun x => x) i) := fun i hi' => absurd hi' (by omega)
    have hi61 : HI (tK p2 p3 p4) (fun x => x) 0 := trivial
    show Go _ _ _ _ _ _ _ T61 (mkF m 22 #[.val (.int p0), .val (.int p1), .val (.int p2), .val (.int p3), .val (.int p4), .val (.int p5), .val (.int (3 : Int32)), .val (.int (2 : Int32)), .unset, .unset] [(.ref b60)])
    refine Go.step (fun _ k => XS.astore X61.here hx rfl (hb hby at_22) rfl rfl (l' := #[.val (.int p0), .val (.int p1), .val (.int p2), .val (.int p3), .val (.int p4), .val (.int p5), .val (.int (3 : Int32)), .val (.int (2 : Int32)), .val (.ref b60), .unset]) rfl k) ?_
    show Go _ _ _ _ _ _ _ T61 (mkF m 24 #[.val (.int p0), .val (.int p1), .val (.int p2), .val (.int p3), .val (.int p4), .val (.int p5), .val (.int (3 : Int32)), .val (.int (2 : Int32)), .val (.ref b60), .unset] [])
    refine Go.step (fun _ k => XS.aload X61.here hx rfl (hb hby at_24) rfl rfl k) ?_
    show Go _ _ _ _ _ _ _ T61 (mkF m 26 #[.val (.int p0), .val (.int p1), .val (.int p2), .val (.int p3), .val (.int p4), .val (.int p5), .val (.int (3 : Int32)), .val (.int (2 : Int32)), .val (.ref b60), .unset] [(.ref b60)])
    refine Go.callV X61 hx hZ (by rw [hml]; rfl) (y := (⟨"com/example/wavegrade/wavegrade/DepartureQueue", "isEmpty", "()Z"⟩ : MethodName)) (z := (⟨"com/example/wavegrade/wavegrade/DepartureQueue", "isEmpty", "()Z"⟩ : MethodName)) (a := b60) (argsL := []) (rest := []) hown (hw _ (List.mem_of_getElem? (i := 15) rfl)) (hw _ (List.mem_of_getElem? (i := 16) rfl)) (notFace_of_selects (args := #[]) (mvT hZ (hw _ (List.mem_of_getElem? (i := 18) rfl)))) (hw _ (List.mem_of_getElem? (i := 18) rfl)) (hw _ (List.mem_of_getElem? (i := 17) rfl)) (hw _ (List.mem_of_getElem? (i := 2) rfl)) (hw _ (List.mem_of_getElem? (i := 19) rfl)) (by decide) (rm_empty0 l Z a0 hw b60 T61.heap n0 (Nat.le_trans Z0 (KK61 : Keep h0 T61.heap []).1) Fs61) rfl Ec61 (hb hby at_26) (lenOf pd_1 rfl) rfl rfl (W := 0) (Nat.le_of_eq rfl) (by decide) (by decide) (by decide) (by decide) ?_
    intro v62 T62 L62 X62 Q62
    obtain ⟨rfl, N62q, hh62⟩ := Q62
    have N62 := Fr.app N61 N62q
    show Go _ _ _ _ _ _ _ T62 (mkF m 29 #[.val (.int p0), .val (.int p1), .val (.int p2), .val (.int p3), .val (.int p4), .val (.int p5), .val (.int (3 : Int32)), .val (.int (2 : Int32)), .val (.ref b60), .unset] [(.int (1 : Int32))])
    refine Go.step (fun _ k => XS.istore X62.here hx rfl (hb hby at_29) rfl (l' := #[.val (.int p0), .val (.int p1), .val (.int p2), .val (.int p3), .val (.int p4), .val (.int p5), .val (.int (3 : Int32)), .val (.int (2 : Int32)), .val (.ref b60), .val (.int (1 : Int32))]) rfl k) ?_
    show Go _ _ _ _ _ _ _ T62 (mkF m 31 #[.val (.int p0), .val (.int p1), .val (.int p2), .val (.int p3), .val (.int p4), .val (.int p5), .val (.int (3 : Int32)), .val (.int (2 : Int32)), .val (.ref b60), .val (.int (1 : Int32))] [])
    refine Go.step (fun _ k => XS.iload X62.here hx rfl (hb hby at_31) rfl k) ?_
    show Go _ _ _ _ _ _ _ T62 (mkF m 33 #[.val (.int p0), .val (.int p1), .val (.int p2), .val (.int p3), .val (.int p4), .val (.int p5), .val (.int (3 : Int32)), .val (.int (2 : Int32)), .val (.ref b60), .val (.int (1 : Int32))] [(.int (3 : Int32))])
    refine Go.step (fun _ k => XS.ifNo X62.here hx rfl (hb hby at_33) rfl ((if0 _ _).trans (tlt (by decide : (0 : Int32) < (3 : Int32))).2.2.2) k) ?_
    show Go _ _ _ _ _ _ _ T62 (mkF m 36 #[.val (.int p0), .val (.int p1), .val (.int p2), .val (.int p3), .val (.int p4), .val (.int p5), .val (.int (3 : Int32)), .val (.int (2 : Int32)), .val (.ref b60), .val (.int (1 : Int32))] [])
    refine Go.step (fun _ k => XS.aload X62.here hx rfl (hb hby at_36) rfl rfl k) ?_
    show Go _ _ _ _ _ _ _ T62 (mkF m 38 #[.val (.int p0), .val (.int p1), .val (.int p2), .val (.int p3), .val (.int p4), .val (.int p5), .val (.int (3 : Int32)), .val (.int (2 : Int32)), .val (.ref b60), .val (.int (1 : Int32))] [(.ref b60)])
    refine Go.step (fun _ k => XS.iloadN X62.here hx rfl (hb hby at_38) rfl k) ?_
    show Go _ _ _ _ _ _ _ T62 (mkF m 39 #[.val (.int p0), .val (.int p1), .val (.int p2), .val (.int p3), .val (.int p4), .val (.int p5), .val (.int (3 : Int32)), .val (.int (2 : Int32)), .val (.ref b60), .val (.int (1 : Int32))] [(.int p2), (.ref b60)])
    refine Go.step (fun _ k => XS.bipush X62.here hx rfl (hb hby at_39) k) ?_
    show Go _ _ _ _ _ _ _ T62 (mkF m 41 #[.val (.int p0), .val (.int p1), .val (.int p2), .val (.int p3), .val (.int p4), .val (.int p5), .val (.int (3 : Int32)), .val (.int (2 : Int32)), .val (.ref b60), .val (.int (1 : Int32))] [(.int (16 : Int32)), (.int p2), (.ref b60)])
    refine Go.step (fun _ k => iremM X62 hx rfl (hb hby at_41) rfl (by decide) k) ?_
    show Go _ _ _ _ _ _ _ T62 (mkF m 42 #[.val (.int p0), .val (.int p1), .val (.int p2), .val (.int p3), .val (.int p4), .val (.int p5), .val (.int (3 : Int32)), .val (.int (2 : Int32)), .val (.ref b60), .val (.int (1 : Int32))] [(.int (p2 % (16 : Int32))), (.ref b60)])
    refine Go.step (fun _ k => XS.i2dS X62.here hx rfl (hb hby at_42) rfl rfl k) ?_
    show Go _ _ _ _ _ _ _ T62 (mkF m 43 #[.val (.int p0), .val (.int p1), .val (.int p2), .val (.int p3), .val (.int p4), .val (.int p5), .val (.int (3 : Int32)), .val (.int (2 : Int32)), .val (.ref b60), .val (.int (1 : Int32))] [(.double (FP.i2d (p2 % (16 : Int32)))), (.ref b60)])
    refine Go.step (fun _ k => XS.iload X62.here hx rfl (hb hby at_43) rfl k) ?_
    show Go _ _ _ _ _ _ _ T62 (mkF m 45 #[.val (.int p0), .val (.int p1), .val (.int p2), .val (.int p3), .val (.int p4), .val (.int p5), .val (.int (3 : Int32)), .val (.int (2 : Int32)), .val (.ref b60), .val (.int (1 : Int32))] [(.int p5), (.double (FP.i2d (p2 % (16 : Int32)))), (.ref b60)])
    refine Go.callV X62 hx hZ (by rw [hml]; rfl) (y := (⟨"com/example/wavegrade/wavegrade/DepartureQueue", "add", "(DI)V"⟩ : MethodName)) (z := (⟨"com/example/wavegrade/wavegrade/DepartureQueue", "add", "(DI)V"⟩ : MethodName)) (a := b60) (argsL := [(.double (FP.i2d (p2 % (16 : Int32)))), (.int p5)]) (rest := []) hown (hw _ (List.mem_of_getElem? (i := 22) rfl)) (hw _ (List.mem_of_getElem? (i := 23) rfl)) (notFace_of_selects (args := #[]) (mvT hZ (hw _ (List.mem_of_getElem? (i := 25) rfl)))) (hw _ (List.mem_of_getElem? (i := 25) rfl)) (hw _ (List.mem_of_getElem? (i := 24) rfl)) (hw _ (List.mem_of_getElem? (i := 2) rfl)) (hw _ (List.mem_of_getElem? (i := 26) rfl)) (by decide) (rm_add0 l Z a0 hw b60 u61 v61 (fun _ => (0 : UInt64)) (fun _ => (0 : Int32)) (tT p2 p3 p4) (tL p5) (tK p2 p3 p4) (fun x => x) 0 T61.heap n0 (Nat.le_trans Z0 (KK61 : Keep h0 T61.heap []).1) Ec61 Fs61 Ft61 Fl61 Vu61 Vv61 nqu61 nqv61 nuv61 ge_b60 ge_u61 ge_v61 (tH p2 p3 p4) hg61 hl61 hi61) hh62 Ec61 (hb hby at_45) (lenOf pd_2 rfl) rfl rfl (W := 0) (Nat.le_of_eq rfl) (by decide) (by decide) (by decide) (by decide) ?_
    intro v63 T63 L63 X63 Q63
    obtain ⟨rfl, N63q, Kc63, Ec63, Fs63, Ft63, Fl63, g63x, l63x, a63x, Vu63, Vv63, hg63, hl63, hi63, hs63, hP63⟩ := Q63
    have N63 := Fr.app N62 N63q
    have Ec61_63 := Ec61.keep Kc63
    have KK63 : Keep h0 T63.heap [] := (KK61 : Keep h0 T61.heap []).trans Kc63 (allS (Or.inr sz_b60) (allS (Or.inr sz_u61) (allS (Or.inr sz_v61) all0)))
    show Go _ _ _ _ _ _ _ T63 (mkF m 48 #[.val (.int p0), .val (.int p1), .val (.int p2), .val (.int p3), .val (.int p4), .val (.int p5), .val (.int (3 : Int32)), .val (.int (2 : Int32)), .val (.ref b60), .val (.int (1 : Int32))] [])
    refine Go.step (fun _ k => XS.iload X63.here hx rfl (hb hby at_48) rfl k) ?_
    show Go _ _ _ _ _ _ _ T63 (mkF m 50 #[.val (.int p0), .val (.int p1), .val (.int p2), .val (.int p3), .val (.int p4), .val (.int p5), .val (.int (3 : Int32)), .val (.int (2 : Int32)), .val (.ref b60), .val (.int (1 : Int32))] [(.int (3 : Int32))])
    refine Go.step (fun _ k => XS.iconst X63.here hx rfl (hb hby at_50) k) ?_
    show Go _ _ _ _ _ _ _ T63 (mkF m 51 #[.val (.int p0), .val (.int p1), .val (.int p2), .val (.int p3), .val (.int p4), .val (.int p5), .val (.int (3 : Int32)), .val (.int (2 : Int32)), .val (.ref b60), .val (.int (1 : Int32))] [(.int (1 : Int32)), (.int (3 : Int32))])
    refine Go.step (fun _ k => XS.icmpNo X63.here hx rfl (hb hby at_51) rfl (tlt (by decide : (1 : Int32) < (3 : Int32))).2.2.2 k) ?_
    show Go _ _ _ _ _ _ _ T63 (mkF m 54 #[.val (.int p0), .val (.int p1), .val (.int p2), .val (.int p3), .val (.int p4), .val (.int p5), .val (.int (3 : Int32)), .val (.int (2 : Int32)), .val (.ref b60), .val (.int (1 : Int32))] [])
    refine Go.step (fun _ k => XS.aload X63.here hx rfl (hb hby at_54) rfl rfl k) ?_
    show Go _ _ _ _ _ _ _ T63 (mkF m 56 #[.val (.int p0), .val (.int p1), .val (.int p2), .val (.int p3), .val (.int p4), .val (.int p5), .val (.int (3 : Int32)), .val (.int (2 : Int32)), .val (.ref b60), .val (.int (1 : Int32))] [(.ref b60)])
    refine Go.step (fun _ k => XS.iloadN X63.here hx rfl (hb hby at_56) rfl k) ?_
    show Go _ _ _ _ _ _ _ T63 (mkF m 57 #[.val (.int p0), .val (.int p1), .val (.int p2), .val (.int p3), .val (.int p4), .val (.int p5), .val (.int (3 : Int32)), .val (.int (2 : Int32)), .val (.ref b60), .val (.int (1 : Int32))] [(.int p3), (.ref b60)])
    refine Go.step (fun _ k => XS.bipush X63.here hx rfl (hb hby at_57) k) ?_
    show Go _ _ _ _ _ _ _ T63 (mkF m 59 #[.val (.int p0), .val (.int p1), .val (.int p2), .val (.int p3), .val (.int p4), .val (.int p5), .val (.int (3 : Int32)), .val (.int (2 : Int32)), .val (.ref b60), .val (.int (1 : Int32))] [(.int (16 : Int32)), (.int p3), (.ref b60)])
    refine Go.step (fun _ k => iremM X63 hx rfl (hb hby at_59) rfl (by decide) k) ?_
    show Go _ _ _ _ _ _ _ T63 (mkF m 60 #[.val (.int p0), .val (.int p1), .val (.int p2), .val (.int p3), .val (.int p4), .val (.int p5), .val (.int (3 : Int32)), .val (.int (2 : Int32)), .val (.ref b60), .val (.int (1 : Int32))] [(.int (p3 % (16 : Int32))), (.ref b60)])
    refine Go.step (fun _ k => XS.i2dS X63.here hx rfl (hb hby at_60) rfl rfl k) ?_
    show Go _ _ _ _ _ _ _ T63 (mkF m 61 #[.val (.int p0), .val (.int p1), .val (.int p2), .val (.int p3), .val (.int p4), .val (.int p5), .val (.int (3 : Int32)), .val (.int (2 : Int32)), .val (.ref b60), .val (.int (1 : Int32))] [(.double (FP.i2d (p3 % (16 : Int32)))), (.ref b60)])
    refine Go.step (fun _ k => XS.iload X63.here hx rfl (hb hby at_61) rfl k) ?_
    show Go _ _ _ _ _ _ _ T63 (mkF m 63 #[.val (.int p0), .val (.int p1), .val (.int p2), .val (.int p3), .val (.int p4), .val (.int p5), .val (.int (3 : Int32)), .val (.int (2 : Int32)), .val (.ref b60), .val (.int (1 : Int32))] [(.int p5), (.double (FP.i2d (p3 % (16 : Int32)))), (.ref b60)])
    refine Go.step (fun _ k => XS.iconst X63.here hx rfl (hb hby at_63) k) ?_
    show Go _ _ _ _ _ _ _ T63 (mkF m 64 #[.val (.int p0), .val (.int p1), .val (.int p2), .val (.int p3), .val (.int p4), .val (.int p5), .val (.int (3 : Int32)), .val (.int (2 : Int32)), .val (.ref b60), .val (.int (1 : Int32))] [(.int (1 : Int32)), (.int p5), (.double (FP.i2d (p3 % (16 : Int32)))), (.ref b60)])
    refine Go.step (fun _ k => XS.iadd X63.here hx rfl (hb hby at_64) rfl k) ?_
    show Go _ _ _ _ _ _ _ T63 (mkF m 65 #[.val (.int p0), .val (.int p1), .val (.int p2), .val (.int p3), .val (.int p4), .val (.int p5), .val (.int (3 : Int32)), .val (.int (2 : Int32)), .val (.ref b60), .val (.int (1 : Int32))] [(.int (p5 + (1 : Int32))), (.double (FP.i2d (p3 % (16 : Int32)))), (.ref b60)])
    refine Go.callV X63 hx hZ (by rw [hml]; rfl) (y := (⟨"com/example/wavegrade/wavegrade/DepartureQueue", "add", "(DI)V"⟩ : MethodName)) (z := (⟨"com/example/wavegrade/wavegrade/DepartureQueue", "add", "(DI)V"⟩ : MethodName)) (a := b60) (argsL := [(.double (FP.i2d (p3 % (16 : Int32)))), (.int (p5 + (1 : Int32)))]) (rest := []) hown (hw _ (List.mem_of_getElem? (i := 22) rfl)) (hw _ (List.mem_of_getElem? (i := 23) rfl)) (notFace_of_selects (args := #[]) (mvT hZ (hw _ (List.mem_of_getElem? (i := 25) rfl)))) (hw _ (List.mem_of_getElem? (i := 25) rfl)) (hw _ (List.mem_of_getElem? (i := 24) rfl)) (hw _ (List.mem_of_getElem? (i := 2) rfl)) (hw _ (List.mem_of_getElem? (i := 26) rfl)) (by decide) (rm_add1 l Z a0 hw b60 u61 v61 g63x l63x (tT p2 p3 p4) (tL p5) (tK p2 p3 p4) a63x 1 T63.heap n0 (Nat.le_trans Z0 (KK63 : Keep h0 T63.heap []).1) Ec63 Fs63 Ft63 Fl63 Vu63 Vv63 nqu61 nqv61 nuv61 ge_b60 ge_u61 ge_v61 (tH p2 p3 p4) hg63 hl63 hi63) rfl Ec63 (hb hby at_65) (lenOf pd_2 rfl) rfl rfl (W := 0) (Nat.le_of_eq rfl) (by decide) (by decide) (by decide) (by decide) ?_
    intro v64 T64 L64 X64 Q64
    obtain ⟨rfl, N64q, Kc64, Ec64, Fs64, Ft64, Fl64, g64x, l64x, a64x, Vu64, Vv64, hg64, hl64, hi64, hs64, hP64⟩ := Q64
    have N64 := Fr.app N63 N64q
    have Ec63_64 := Ec63.keep Kc64
    have KK64 : Keep h0 T64.heap [] := (KK63 : Keep h0 T63.heap []).trans Kc64 (allS (Or.inr sz_b60) (allS (Or.inr sz_u61) (allS (Or.inr sz_v61) all0)))
    show Go _ _ _ _ _ _ _ T64 (mkF m 68 #[.val (.int p0), .val (.int p1), .val (.int p2), .val (.int p3), .val (.int p4), .val (.int p5), .val (.int (3 : Int32)), .val (.int (2 : Int32)), .val (.ref b60), .val (.int (1 : Int32))] [])
    refine Go.step (fun _ k => XS.iload X64.here hx rfl (hb hby at_68) rfl k) ?_
    show Go _ _ _ _ _ _ _ T64 (mkF m 70 #[.val (.int p0), .val (.int p1), .val (.int p2), .val (.int p3), .val (.int p4), .val (.int p5), .val (.int (3 : Int32)), .val (.int (2 : Int32)), .val (.ref b60), .val (.int (1 : Int32))] [(.int (3 : Int32))])
    refine Go.step (fun _ k => XS.iconst X64.here hx rfl (hb hby at_70) k) ?_
    show Go _ _ _ _ _ _ _ T64 (mkF m 71 #[.val (.int p0), .val (.int p1), .val (.int p2), .val (.int p3), .val (.int p4), .val (.int p5), .val (.int (3 : Int32)), .val (.int (2 : Int32)), .val (.ref b60), .val (.int (1 : Int32))] [(.int (2 : Int32)), (.int (3 : Int32))])
    refine Go.step (fun _ k => XS.icmpNo X64.here hx rfl (hb hby at_71) rfl (tlt (by decide : (2 : Int32) < (3 : Int32))).2.2.2 k) ?_
    show Go _ _ _ _ _ _ _ T64 (mkF m 74 #[.val (.int p0), .val (.int p1), .val (.int p2), .val (.int p3), .val (.int p4), .val (.int p5), .val (.int (3 : Int32)), .val (.int (2 : Int32)), .val (.ref b60), .val (.int (1 : Int32))] [])
    refine Go.step (fun _ k => XS.aload X64.here hx rfl (hb hby at_74) rfl rfl k) ?_
    show Go _ _ _ _ _ _ _ T64 (mkF m 76 #[.val (.int p0), .val (.int p1), .val (.int p2), .val (.int p3), .val (.int p4), .val (.int p5), .val (.int (3 : Int32)), .val (.int (2 : Int32)), .val (.ref b60), .val (.int (1 : Int32))] [(.ref b60)])
    refine Go.step (fun _ k => XS.iload X64.here hx rfl (hb hby at_76) rfl k) ?_
    show Go _ _ _ _ _ _ _ T64 (mkF m 78 #[.val (.int p0), .val (.int p1), .val (.int p2), .val (.int p3), .val (.int p4), .val (.int p5), .val (.int (3 : Int32)), .val (.int (2 : Int32)), .val (.ref b60), .val (.int (1 : Int32))] [(.int p4), (.ref b60)])
    refine Go.step (fun _ k => XS.bipush X64.here hx rfl (hb hby at_78) k) ?_
    show Go _ _ _ _ _ _ _ T64 (mkF m 80 #[.val (.int p0), .val (.int p1), .val (.int p2), .val (.int p3), .val (.int p4), .val (.int p5), .val (.int (3 : Int32)), .val (.int (2 : Int32)), .val (.ref b60), .val (.int (1 : Int32))] [(.int (16 : Int32)), (.int p4), (.ref b60)])
    refine Go.step (fun _ k => iremM X64 hx rfl (hb hby at_80) rfl (by decide) k) ?_
    show Go _ _ _ _ _ _ _ T64 (mkF m 81 #[.val (.int p0), .val (.int p1), .val (.int p2), .val (.int p3), .val (.int p4), .val (.int p5), .val (.int (3 : Int32)), .val (.int (2 : Int32)), .val (.ref b60), .val (.int (1 : Int32))] [(.int (p4 % (16 : Int32))), (.ref b60)])
    refine Go.step (fun _ k => XS.i2dS X64.here hx rfl (hb hby at_81) rfl rfl k) ?_
    show Go _ _ _ _ _ _ _ T64 (mkF m 82 #[.val (.int p0), .val (.int p1), .val (.int p2), .val (.int p3), .val (.int p4), .val (.int p5), .val (.int (3 : Int32)), .val (.int (2 : Int32)), .val (.ref b60), .val (.int (1 : Int32))] [(.double (FP.i2d (p4 % (16 : Int32)))), (.ref b60)])
    refine Go.step (fun _ k => XS.iload X64.here hx rfl (hb hby at_82) rfl k) ?_
    show Go _ _ _ _ _ _ _ T64 (mkF m 84 #[.val (.int p0), .val (.int p1), .val (.int p2), .val (.int p3), .val (.int p4), .val (.int p5), .val (.int (3 : Int32)), .val (.int (2 : Int32)), .val (.ref b60), .val (.int (1 : Int32))] [(.int p5), (.double (FP.i2d (p4 % (16 : Int32)))), (.ref b60)])
    refine Go.step (fun _ k => XS.iconst X64.here hx rfl (hb hby at_84) k) ?_
    show Go _ _ _ _ _ _ _ T64 (mkF m 85 #[.val (.int p0), .val (.int p1), .val (.int p2), .val (.int p3), .val (.int p4), .val (.int p5), .val (.int (3 : Int32)), .val (.int (2 : Int32)), .val (.ref b60), .val (.int (1 : Int32))] [(.int (2 : Int32)), (.int p5), (.double (FP.i2d (p4 % (16 : Int32)))), (.ref b60)])
    refine Go.step (fun _ k => XS.iadd X64.here hx rfl (hb hby at_85) rfl k) ?_
    show Go _ _ _ _ _ _ _ T64 (mkF m 86 #[.val (.int p0), .val (.int p1), .val (.int p2), .val (.int p3), .val (.int p4), .val (.int p5), .val (.int (3 : Int32)), .val (.int (2 : Int32)), .val (.ref b60), .val (.int (1 : Int32))] [(.int (p5 + (2 : Int32))), (.double (FP.i2d (p4 % (16 : Int32)))), (.ref b60)])
    refine Go.callV X64 hx hZ (by rw [hml]; rfl) (y := (⟨"com/example/wavegrade/wavegrade/DepartureQueue", "add", "(DI)V"⟩ : MethodName)) (z := (⟨"com/example/wavegrade/wavegrade/DepartureQueue", "add", "(DI)V"⟩ : MethodName)) (a := b60) (argsL := [(.double (FP.i2d (p4 % (16 : Int32)))), (.int (p5 + (2 : Int32)))]) (rest := []) hown (hw _ (List.mem_of_getElem? (i := 22) rfl)) (hw _ (List.mem_of_getElem? (i := 23) rfl)) (notFace_of_selects (args := #[]) (mvT hZ (hw _ (List.mem_of_getElem? (i := 25) rfl)))) (hw _ (List.mem_of_getElem? (i := 25) rfl)) (hw _ (List.mem_of_getElem? (i := 24) rfl)) (hw _ (List.mem_of_getElem? (i := 2) rfl)) (hw _ (List.mem_of_getElem? (i := 26) rfl)) (by decide) (rm_add2 l Z a0 hw b60 u61 v61 g64x l64x (tT p2 p3 p4) (tL p5) (tK p2 p3 p4) a64x 2 T64.heap n0 (Nat.le_trans Z0 (KK64 : Keep h0 T64.heap []).1) Ec64 Fs64 Ft64 Fl64 Vu64 Vv64 nqu61 nqv61 nuv61 ge_b60 ge_u61 ge_v61 (tH p2 p3 p4) hg64 hl64 hi64) rfl Ec64 (hb hby at_86) (lenOf pd_2 rfl) rfl rfl (W := 0) (Nat.le_of_eq rfl) (by decide) (by decide) (by decide) (by decide) ?_
    intro v65 T65 L65 X65 Q65
    obtain ⟨rfl, N65q, Kc65, Ec65, Fs65, Ft65, Fl65, g65x, l65x, a65x, Vu65, Vv65, hg65, hl65, hi65, hs65, hP65⟩ := Q65
    have N65 := Fr.app N64 N65q
    have Ec64_65 := Ec64.keep Kc65
    have KK65 : Keep h0 T65.heap [] := (KK64 : Keep h0 T64.heap []).trans Kc65 (allS (Or.inr sz_b60) (allS (Or.inr sz_u61) (allS (Or.inr sz_v61) all0)))
    show Go _ _ _ _ _ _ _ T65 (mkF m 89 #[.val (.int p0), .val (.int p1), .val (.int p2), .val (.int p3), .val (.int p4), .val (.int p5), .val (.int (3 : Int32)), .val (.int (2 : Int32)), .val (.ref b60), .val (.int (1 : Int32))] [])
    refine Go.step (fun _ k => XS.iload X65.here hx rfl (hb hby at_89) rfl k) ?_
    show Go _ _ _ _ _ _ _ T65 (mkF m 91 #[.val (.int p0), .val (.int p1), .val (.int p2), .val (.int p3), .val (.int p4), .val (.int p5), .val (.int (3 : Int32)), .val (.int (2 : Int32)), .val (.ref b60), .val (.int (1 : Int32))] [(.int (1 : Int32))])
    refine Go.step (fun _ k => XS.ifNo X65.here hx rfl (hb hby at_91) rfl ((if0 _ _).trans (feq (by decide : ¬ ((1 : Int32) = (0 : Int32)))).1) k) ?_
    show Go _ _ _ _ _ _ _ T65 (mkF m 94 #[.val (.int p0), .val (.int p1), .val (.int p2), .val (.int p3), .val (.int p4), .val (.int p5), .val (.int (3 : Int32)), .val (.int (2 : Int32)), .val (.ref b60), .val (.int (1 : Int32))] [])
    refine Go.step (fun _ k => XS.aload X65.here hx rfl (hb hby at_94) rfl rfl k) ?_
    show Go _ _ _ _ _ _ _ T65 (mkF m 96 #[.val (.int p0), .val (.int p1), .val (.int p2), .val (.int p3), .val (.int p4), .val (.int p5), .val (.int (3 : Int32)), .val (.int (2 : Int32)), .val (.ref b60), .val (.int (1 : Int32))] [(.ref b60)])
    refine Go.callV X65 hx hZ (by rw [hml]; rfl) (y := (⟨"com/example/wavegrade/wavegrade/DepartureQueue", "isEmpty", "()Z"⟩ : MethodName)) (z := (⟨"com/example/wavegrade/wavegrade/DepartureQueue", "isEmpty", "()Z"⟩ : MethodName)) (a := b60) (argsL := []) (rest := []) hown (hw _ (List.mem_of_getElem? (i := 15) rfl)) (hw _ (List.mem_of_getElem? (i := 16) rfl)) (notFace_of_selects (args := #[]) (mvT hZ (hw _ (List.mem_of_getElem? (i := 18) rfl)))) (hw _ (List.mem_of_getElem? (i := 18) rfl)) (hw _ (List.mem_of_getElem? (i := 17) rfl)) (hw _ (List.mem_of_getElem? (i := 2) rfl)) (hw _ (List.mem_of_getElem? (i := 19) rfl)) (by decide) (rm_empty3 l Z a0 hw b60 T65.heap n0 (Nat.le_trans Z0 (KK65 : Keep h0 T65.heap []).1) Fs65) rfl Ec65 (hb hby at_96) (lenOf pd_1 rfl) rfl rfl (W := 0) (Nat.le_of_eq rfl) (by decide) (by decide) (by decide) (by decide) ?_
    intro v66 T66 L66 X66 Q66
    obtain ⟨rfl, N66q, hh66⟩ := Q66
    have N66 := Fr.app N65 N66q
    show Go _ _ _ _ _ _ _ T66 (mkF m 99 #[.val (.int p0), .val (.int p1), .val (.int p2), .val (.int p3), .val (.int p4), .val (.int p5), .val (.int (3 : Int32)), .val (.int (2 : Int32)), .val (.ref b60), .val (.int (1 : Int32))] [(.int (0 : Int32))])
    refine Go.step (fun _ k => XS.iload X66.here hx rfl (hb hby at_99) rfl k) ?_
    show Go _ _ _ _ _ _ _ T66 (mkF m 101 #[.val (.int p0), .val (.int p1), .val (.int p2), .val (.int p3), .val (.int p4), .val (.int p5), .val (.int (3 : Int32)), .val (.int (2 : Int32)), .val (.ref b60), .val (.int (1 : Int32))] [(.int (3 : Int32)), (.int (0 : Int32))])
    refine Go.step (fun _ k => XS.ifYes X66.here hx rfl (pc0 := 101) (pc' := 108) rfl (hb hby at_101) rfl ((if0 _ _).trans (feq (by decide : ¬ ((3 : Int32) = (0 : Int32)))).2) (by decide) (by decide) k) ?_
    show Go _ _ _ _ _ _ _ T66 (mkF m 108 #[.val (.int p0), .val (.int p1), .val (.int p2), .val (.int p3), .val (.int p4), .val (.int p5), .val (.int (3 : Int32)), .val (.int (2 : Int32)), .val (.ref b60), .val (.int (1 : Int32))] [(.int (0 : Int32))])
    refine Go.step (fun _ k => XS.iconst X66.here hx rfl (hb hby at_108) k) ?_
    show Go _ _ _ _ _ _ _ T66 (mkF m 109 #[.val (.int p0), .val (.int p1), .val (.int p2), .val (.int p3), .val (.int p4), .val (.int p5), .val (.int (3 : Int32)), .val (.int (2 : Int32)), .val (.ref b60), .val (.int (1 : Int32))] [(.int (0 : Int32)), (.int (0 : Int32))])
    refine Go.step (fun _ k => XS.icmpNo X66.here hx rfl (hb hby at_109) rfl (teq (by decide : (0 : Int32) = (0 : Int32))).2 k) ?_
    show Go _ _ _ _ _ _ _ T66 (mkF m 112 #[.val (.int p0), .val (.int p1), .val (.int p2), .val (.int p3), .val (.int p4), .val (.int p5), .val (.int (3 : Int32)), .val (.int (2 : Int32)), .val (.ref b60), .val (.int (1 : Int32))] [])
    refine Go.step (fun _ k => XS.iconst X66.here hx rfl (hb hby at_112) k) ?_
    show Go _ _ _ _ _ _ _ T66 (mkF m 113 #[.val (.int p0), .val (.int p1), .val (.int p2), .val (.int p3), .val (.int p4), .val (.int p5), .val (.int (3 : Int32)), .val (.int (2 : Int32)), .val (.ref b60), .val (.int (1 : Int32))] [(.int (1 : Int32))])
    refine Go.step (fun _ k => XS.goto X66.here hx rfl (pc0 := 113) (pc' := 117) rfl (hb hby at_113) (by decide) (by decide) k) ?_
    show Go _ _ _ _ _ _ _ T66 (mkF m 117 #[.val (.int p0), .val (.int p1), .val (.int p2), .val (.int p3), .val (.int p4), .val (.int p5), .val (.int (3 : Int32)), .val (.int (2 : Int32)), .val (.ref b60), .val (.int (1 : Int32))] [(.int (1 : Int32))])
    refine Go.step (fun _ k => XS.istore X66.here hx rfl (hb hby at_117) rfl (l' := #[.val (.int p0), .val (.int p1), .val (.int p2), .val (.int p3), .val (.int p4), .val (.int p5), .val (.int (3 : Int32)), .val (.int (2 : Int32)), .val (.ref b60), .val (.int (1 : Int32))]) rfl k) ?_
    show Go _ _ _ _ _ _ _ T66 (mkF m 119 #[.val (.int p0), .val (.int p1), .val (.int p2), .val (.int p3), .val (.int p4), .val (.int p5), .val (.int (3 : Int32)), .val (.int (2 : Int32)), .val (.ref b60), .val (.int (1 : Int32))] [])
    refine Go.step (fun _ k => XS.iload X66.here hx rfl (hb hby at_119) rfl k) ?_
    show Go _ _ _ _ _ _ _ T66 (mkF m 121 #[.val (.int p0), .val (.int p1), .val (.int p2), .val (.int p3), .val (.int p4), .val (.int p5), .val (.int (3 : Int32)), .val (.int (2 : Int32)), .val (.ref b60), .val (.int (1 : Int32))] [(.int (2 : Int32))])
    refine Go.step (fun _ k => XS.ifNo X66.here hx rfl (hb hby at_121) rfl ((if0 _ _).trans (tlt (by decide : (0 : Int32) < (2 : Int32))).2.2.2) k) ?_
    show Go _ _ _ _ _ _ _ T66 (mkF m 124 #[.val (.int p0), .val (.int p1), .val (.int p2), .val (.int p3), .val (.int p4), .val (.int p5), .val (.int (3 : Int32)), .val (.int (2 : Int32)), .val (.ref b60), .val (.int (1 : Int32))] [])
    refine Go.step (fun _ k => XS.aload X66.here hx rfl (hb hby at_124) rfl rfl k) ?_
    show Go _ _ _ _ _ _ _ T66 (mkF m 126 #[.val (.int p0), .val (.int p1), .val (.int p2), .val (.int p3), .val (.int p4), .val (.int p5), .val (.int (3 : Int32)), .val (.int (2 : Int32)), .val (.ref b60), .val (.int (1 : Int32))] [(.ref b60)])
    refine Go.callV X66 hx hZ (by rw [hml]; rfl) (y := (⟨"com/example/wavegrade/wavegrade/DepartureQueue", "removeFirst", "()I"⟩ : MethodName)) (z := (⟨"com/example/wavegrade/wavegrade/DepartureQueue", "removeFirst", "()I"⟩ : MethodName)) (a := b60) (argsL := []) (rest := []) hown (hw _ (List.mem_of_getElem? (i := 27) rfl)) (hw _ (List.mem_of_getElem? (i := 28) rfl)) (notFace_of_selects (args := #[]) (mvT hZ (hw _ (List.mem_of_getElem? (i := 30) rfl)))) (hw _ (List.mem_of_getElem? (i := 30) rfl)) (hw _ (List.mem_of_getElem? (i := 29) rfl)) (hw _ (List.mem_of_getElem? (i := 2) rfl)) (hw _ (List.mem_of_getElem? (i := 31) rfl)) (by decide) (rm_rem3 l Z a0 hw b60 u61 v61 g65x l65x (tT p2 p3 p4) (tL p5) (tK p2 p3 p4) a65x T65.heap n0 (Nat.le_trans Z0 (KK65 : Keep h0 T65.heap []).1) Ec65 Fs65 Ft65 Fl65 Vu65 Vv65 nqu61 nqv61 nuv61 ge_b60 ge_u61 ge_v61 (tH p2 p3 p4) hg65 hl65 hi65) hh66 Ec65 (hb hby at_126) (lenOf pd_3 rfl) rfl rfl (W := 0) (Nat.le_of_eq rfl) (by decide) (by decide) (by decide) (by decide) ?_
    intro v67 T67 L67 X67 Q67
    obtain ⟨rfl, N67q, Kc67, Ec67, Fs67, Ft67, Fl67, g67x, l67x, a67x, Vu67, Vv67, hg67, hl67, hi67, ⟨hm67, hs67⟩, hP67⟩ := Q67
    have N67 := Fr.app N66 N67q
    have Ec65_67 := Ec65.keep Kc67
    have KK67 : Keep h0 T67.heap [] := (KK65 : Keep h0 T65.heap []).trans Kc67 (allS (Or.inr sz_b60) (allS (Or.inr sz_u61) (allS (Or.inr sz_v61) all0)))
    show Go _ _ _ _ _ _ _ T67 (mkF m 129 #[.val (.int p0), .val (.int p1), .val (.int p2), .val (.int p3), .val (.int p4), .val (.int p5), .val (.int (3 : Int32)), .val (.int (2 : Int32)), .val (.ref b60), .val (.int (1 : Int32))] [(.int ((tL p5) (a65x 0)))])
    refine Go.step (fun _ k => XS.pop X67.here hx rfl (hb hby at_129) rfl rfl k) ?_
    show Go _ _ _ _ _ _ _ T67 (mkF m 130 #[.val (.int p0), .val (.int p1), .val (.int p2), .val (.int p3), .val (.int p4), .val (.int p5), .val (.int (3 : Int32)), .val (.int (2 : Int32)), .val (.ref b60), .val (.int (1 : Int32))] [])
    refine Go.step (fun _ k => XS.iload X67.here hx rfl (hb hby at_130) rfl k) ?_
    show Go _ _ _ _ _ _ _ T67 (mkF m 132 #[.val (.int p0), .val (.int p1), .val (.int p2), .val (.int p3), .val (.int p4), .val (.int p5), .val (.int (3 : Int32)), .val (.int (2 : Int32)), .val (.ref b60), .val (.int (1 : Int32))] [(.int (2 : Int32))])
    refine Go.step (fun _ k => XS.iconst X67.here hx rfl (hb hby at_132) k) ?_
    show Go _ _ _ _ _ _ _ T67 (mkF m 133 #[.val (.int p0), .val (.int p1), .val (.int p2), .val (.int p3), .val (.int p4), .val (.int p5), .val (.int (3 : Int32)), .val (.int (2 : Int32)), .val (.ref b60), .val (.int (1 : Int32))] [(.int (1 : Int32)), (.int (2 : Int32))])
    refine Go.step (fun _ k => XS.icmpNo X67.here hx rfl (hb hby at_133) rfl (tlt (by decide : (1 : Int32) < (2 : Int32))).2.2.2 k) ?_
    show Go _ _ _ _ _ _ _ T67 (mkF m 136 #[.val (.int p0), .val (.int p1), .val (.int p2), .val (.int p3), .val (.int p4), .val (.int p5), .val (.int (3 : Int32)), .val (.int (2 : Int32)), .val (.ref b60), .val (.int (1 : Int32))] [])
    refine Go.step (fun _ k => XS.aload X67.here hx rfl (hb hby at_136) rfl rfl k) ?_
    show Go _ _ _ _ _ _ _ T67 (mkF m 138 #[.val (.int p0), .val (.int p1), .val (.int p2), .val (.int p3), .val (.int p4), .val (.int p5), .val (.int (3 : Int32)), .val (.int (2 : Int32)), .val (.ref b60), .val (.int (1 : Int32))] [(.ref b60)])
    refine Go.callV X67 hx hZ (by rw [hml]; rfl) (y := (⟨"com/example/wavegrade/wavegrade/DepartureQueue", "removeFirst", "()I"⟩ : MethodName)) (z := (⟨"com/example/wavegrade/wavegrade/DepartureQueue", "removeFirst", "()I"⟩ : MethodName)) (a := b60) (argsL := []) (rest := []) hown (hw _ (List.mem_of_getElem? (i := 27) rfl)) (hw _ (List.mem_of_getElem? (i := 28) rfl)) (notFace_of_selects (args := #[]) (mvT hZ (hw _ (List.mem_of_getElem? (i := 30) rfl)))) (hw _ (List.mem_of_getElem? (i := 30) rfl)) (hw _ (List.mem_of_getElem? (i := 29) rfl)) (hw _ (List.mem_of_getElem? (i := 2) rfl)) (hw _ (List.mem_of_getElem? (i := 31) rfl)) (by decide) (rm_rem2 l Z a0 hw b60 u61 v61 g67x l67x (tT p2 p3 p4) (tL p5) (tK p2 p3 p4) a67x T67.heap n0 (Nat.le_trans Z0 (KK67 : Keep h0 T67.heap []).1) Ec67 Fs67 Ft67 Fl67 Vu67 Vv67 nqu61 nqv61 nuv61 ge_b60 ge_u61 ge_v61 (tH p2 p3 p4) hg67 hl67 hi67) rfl Ec67 (hb hby at_138) (lenOf pd_3 rfl) rfl rfl (W := 0) (Nat.le_of_eq rfl) (by decide) (by decide) (by decide) (by decide) ?_
    intro v68 T68 L68 X68 Q68
    obtain ⟨rfl, N68q, Kc68, Ec68, Fs68, Ft68, Fl68, g68x, l68x, a68x, Vu68, Vv68, hg68, hl68, hi68, ⟨hm68, hs68⟩, hP68⟩ := Q68
    have N68 := Fr.app N67 N68q
    have Ec67_68 := Ec67.keep Kc68
    have KK68 : Keep h0 T68.heap [] := (KK67 : Keep h0 T67.heap []).trans Kc68 (allS (Or.inr sz_b60) (allS (Or.inr sz_u61) (allS (Or.inr sz_v61) all0)))
    show Go _ _ _ _ _ _ _ T68 (mkF m 141 #[.val (.int p0), .val (.int p1), .val (.int p2), .val (.int p3), .val (.int p4), .val (.int p5), .val (.int (3 : Int32)), .val (.int (2 : Int32)), .val (.ref b60), .val (.int (1 : Int32))] [(.int ((tL p5) (a67x 0)))])
    refine Go.step (fun _ k => XS.pop X68.here hx rfl (hb hby at_141) rfl rfl k) ?_
    show Go _ _ _ _ _ _ _ T68 (mkF m 142 #[.val (.int p0), .val (.int p1), .val (.int p2), .val (.int p3), .val (.int p4), .val (.int p5), .val (.int (3 : Int32)), .val (.int (2 : Int32)), .val (.ref b60), .val (.int (1 : Int32))] [])
    refine Go.step (fun _ k => XS.iload X68.here hx rfl (hb hby at_142) rfl k) ?_
    show Go _ _ _ _ _ _ _ T68 (mkF m 144 #[.val (.int p0), .val (.int p1), .val (.int p2), .val (.int p3), .val (.int p4), .val (.int p5), .val (.int (3 : Int32)), .val (.int (2 : Int32)), .val (.ref b60), .val (.int (1 : Int32))] [(.int (2 : Int32))])
    refine Go.step (fun _ k => XS.iconst X68.here hx rfl (hb hby at_144) k) ?_
    show Go _ _ _ _ _ _ _ T68 (mkF m 145 #[.val (.int p0), .val (.int p1), .val (.int p2), .val (.int p3), .val (.int p4), .val (.int p5), .val (.int (3 : Int32)), .val (.int (2 : Int32)), .val (.ref b60), .val (.int (1 : Int32))] [(.int (2 : Int32)), (.int (2 : Int32))])
    refine Go.step (fun _ k => XS.icmpYes X68.here hx rfl (pc0 := 145) (pc' := 154) rfl (hb hby at_145) rfl (flt (by decide : ¬ ((2 : Int32) < (2 : Int32)))).2.2.2 (by decide) (by decide) k) ?_
    show Go _ _ _ _ _ _ _ T68 (mkF m 154 #[.val (.int p0), .val (.int p1), .val (.int p2), .val (.int p3), .val (.int p4), .val (.int p5), .val (.int (3 : Int32)), .val (.int (2 : Int32)), .val (.ref b60), .val (.int (1 : Int32))] [])
    refine Go.step (fun _ k => XS.iload X68.here hx rfl (hb hby at_154) rfl k) ?_
    show Go _ _ _ _ _ _ _ T68 (mkF m 156 #[.val (.int p0), .val (.int p1), .val (.int p2), .val (.int p3), .val (.int p4), .val (.int p5), .val (.int (3 : Int32)), .val (.int (2 : Int32)), .val (.ref b60), .val (.int (1 : Int32))] [(.int (1 : Int32))])
    refine Go.step (fun _ k => XS.ifNo X68.here hx rfl (hb hby at_156) rfl ((if0 _ _).trans (feq (by decide : ¬ ((1 : Int32) = (0 : Int32)))).1) k) ?_
    show Go _ _ _ _ _ _ _ T68 (mkF m 159 #[.val (.int p0), .val (.int p1), .val (.int p2), .val (.int p3), .val (.int p4), .val (.int p5), .val (.int (3 : Int32)), .val (.int (2 : Int32)), .val (.ref b60), .val (.int (1 : Int32))] [])
    refine Go.step (fun _ k => XS.aload X68.here hx rfl (hb hby at_159) rfl rfl k) ?_
    show Go _ _ _ _ _ _ _ T68 (mkF m 161 #[.val (.int p0), .val (.int p1), .val (.int p2), .val (.int p3), .val (.int p4), .val (.int p5), .val (.int (3 : Int32)), .val (.int (2 : Int32)), .val (.ref b60), .val (.int (1 : Int32))] [(.ref b60)])
    refine Go.callV X68 hx hZ (by rw [hml]; rfl) (y := (⟨"com/example/wavegrade/wavegrade/DepartureQueue", "isEmpty", "()Z"⟩ : MethodName)) (z := (⟨"com/example/wavegrade/wavegrade/DepartureQueue", "isEmpty", "()Z"⟩ : MethodName)) (a := b60) (argsL := []) (rest := []) hown (hw _ (List.mem_of_getElem? (i := 15) rfl)) (hw _ (List.mem_of_getElem? (i := 16) rfl)) (notFace_of_selects (args := #[]) (mvT hZ (hw _ (List.mem_of_getElem? (i := 18) rfl)))) (hw _ (List.mem_of_getElem? (i := 18) rfl)) (hw _ (List.mem_of_getElem? (i := 17) rfl)) (hw _ (List.mem_of_getElem? (i := 2) rfl)) (hw _ (List.mem_of_getElem? (i := 19) rfl)) (by decide) (rm_empty1 l Z a0 hw b60 T68.heap n0 (Nat.le_trans Z0 (KK68 : Keep h0 T68.heap []).1) Fs68) rfl Ec68 (hb hby at_161) (lenOf pd_1 rfl) rfl rfl (W := 0) (Nat.le_of_eq rfl) (by decide) (by decide) (by decide) (by decide) ?_
    intro v69 T69 L69 X69 Q69
    obtain ⟨rfl, N69q, hh69⟩ := Q69
    have N69 := Fr.app N68 N69q
    show Go _ _ _ _ _ _ _ T69 (mkF m 164 #[.val (.int p0), .val (.int p1), .val (.int p2), .val (.int p3), .val (.int p4), .val (.int p5), .val (.int (3 : Int32)), .val (.int (2 : Int32)), .val (.ref b60), .val (.int (1 : Int32))] [(.int (0 : Int32))])
    refine Go.step (fun _ k => XS.iload X69.here hx rfl (hb hby at_164) rfl k) ?_
    show Go _ _ _ _ _ _ _ T69 (mkF m 166 #[.val (.int p0), .val (.int p1), .val (.int p2), .val (.int p3), .val (.int p4), .val (.int p5), .val (.int (3 : Int32)), .val (.int (2 : Int32)), .val (.ref b60), .val (.int (1 : Int32))] [(.int (3 : Int32)), (.int (0 : Int32))])
    refine Go.step (fun _ k => XS.iload X69.here hx rfl (hb hby at_166) rfl k) ?_
    show Go _ _ _ _ _ _ _ T69 (mkF m 168 #[.val (.int p0), .val (.int p1), .val (.int p2), .val (.int p3), .val (.int p4), .val (.int p5), .val (.int (3 : Int32)), .val (.int (2 : Int32)), .val (.ref b60), .val (.int (1 : Int32))] [(.int (2 : Int32)), (.int (3 : Int32)), (.int (0 : Int32))])
    refine Go.step (fun _ k => XS.isub X69.here hx rfl (hb hby at_168) rfl k) ?_
    show Go _ _ _ _ _ _ _ T69 (mkF m 169 #[.val (.int p0), .val (.int p1), .val (.int p2), .val (.int p3), .val (.int p4), .val (.int p5), .val (.int (3 : Int32)), .val (.int (2 : Int32)), .val (.ref b60), .val (.int (1 : Int32))] [(.int (1 : Int32)), (.int (0 : Int32))])
    refine Go.step (fun _ k => XS.ifYes X69.here hx rfl (pc0 := 169) (pc' := 176) rfl (hb hby at_169) rfl ((if0 _ _).trans (feq (by decide : ¬ ((1 : Int32) = (0 : Int32)))).2) (by decide) (by decide) k) ?_
    show Go _ _ _ _ _ _ _ T69 (mkF m 176 #[.val (.int p0), .val (.int p1), .val (.int p2), .val (.int p3), .val (.int p4), .val (.int p5), .val (.int (3 : Int32)), .val (.int (2 : Int32)), .val (.ref b60), .val (.int (1 : Int32))] [(.int (0 : Int32))])
    refine Go.step (fun _ k => XS.iconst X69.here hx rfl (hb hby at_176) k) ?_
    show Go _ _ _ _ _ _ _ T69 (mkF m 177 #[.val (.int p0), .val (.int p1), .val (.int p2), .val (.int p3), .val (.int p4), .val (.int p5), .val (.int (3 : Int32)), .val (.int (2 : Int32)), .val (.ref b60), .val (.int (1 : Int32))] [(.int (0 : Int32)), (.int (0 : Int32))])
    refine Go.step (fun _ k => XS.icmpNo X69.here hx rfl (hb hby at_177) rfl (teq (by decide : (0 : Int32) = (0 : Int32))).2 k) ?_
    show Go _ _ _ _ _ _ _ T69 (mkF m 180 #[.val (.int p0), .val (.int p1), .val (.int p2), .val (.int p3), .val (.int p4), .val (.int p5), .val (.int (3 : Int32)), .val (.int (2 : Int32)), .val (.ref b60), .val (.int (1 : Int32))] [])
    refine Go.step (fun _ k => XS.iconst X69.here hx rfl (hb hby at_180) k) ?_
    show Go _ _ _ _ _ _ _ T69 (mkF m 181 #[.val (.int p0), .val (.int p1), .val (.int p2), .val (.int p3), .val (.int p4), .val (.int p5), .val (.int (3 : Int32)), .val (.int (2 : Int32)), .val (.ref b60), .val (.int (1 : Int32))] [(.int (1 : Int32))])
    refine Go.step (fun _ k => XS.goto X69.here hx rfl (pc0 := 181) (pc' := 185) rfl (hb hby at_181) (by decide) (by decide) k) ?_
    show Go _ _ _ _ _ _ _ T69 (mkF m 185 #[.val (.int p0), .val (.int p1), .val (.int p2), .val (.int p3), .val (.int p4), .val (.int p5), .val (.int (3 : Int32)), .val (.int (2 : Int32)), .val (.ref b60), .val (.int (1 : Int32))] [(.int (1 : Int32))])
    refine Go.step (fun _ k => XS.istore X69.here hx rfl (hb hby at_185) rfl (l' := #[.val (.int p0), .val (.int p1), .val (.int p2), .val (.int p3), .val (.int p4), .val (.int p5), .val (.int (3 : Int32)), .val (.int (2 : Int32)), .val (.ref b60), .val (.int (1 : Int32))]) rfl k) ?_
    show Go _ _ _ _ _ _ _ T69 (mkF m 187 #[.val (.int p0), .val (.int p1), .val (.int p2), .val (.int p3), .val (.int p4), .val (.int p5), .val (.int (3 : Int32)), .val (.int (2 : Int32)), .val (.ref b60), .val (.int (1 : Int32))] [])
    refine Go.step (fun _ k => XS.iload X69.here hx rfl (hb hby at_187) rfl k) ?_
    show Go _ _ _ _ _ _ _ T69 (mkF m 189 #[.val (.int p0), .val (.int p1), .val (.int p2), .val (.int p3), .val (.int p4), .val (.int p5), .val (.int (3 : Int32)), .val (.int (2 : Int32)), .val (.ref b60), .val (.int (1 : Int32))] [(.int (1 : Int32))])
    refine Go.retZ X69 hx hlk hret (by decide) (hb hby at_189) (by decide) (by decide) ?_
    try rw [hh69]
    exact ⟨rfl, N69⟩
  · show Go _ _ _ _ _ _ _ T0 (mkF m 15 #[.val (.int p0), .val (.int p1), .val (.int p2), .val (.int p3), .val (.int p4), .val (.int p5), .val (.int (3 : Int32)), .val (.int (3 : Int32)), .unset, .unset] [])
    obtain ⟨T70, h70, X70, e70, E70, A70, D70, -, st70⟩ := newO X0 hx hZ hown (hw _ (List.mem_of_getElem? (i := 0) rfl)) (hw _ (List.mem_of_getElem? (i := 1) rfl)) (hw _ (List.mem_of_getElem? (i := 2) rfl)) e0 (g := (mkF m 15 #[.val (.int p0), .val (.int p1), .val (.int p2), .val (.int p3), .val (.int p4), .val (.int p5), .val (.int (3 : Int32)), .val (.int (3 : Int32)), .unset, .unset] [])) rfl (hb hby at_15) (by decide) (by decide)
    obtain ⟨b70, g70⟩ : ∃ z, z = h0.size := ⟨_, rfl⟩
    rw [← g70] at A70 D70 st70
    refine Go.step st70 ?_
    have K70 : Keep h0 h70 [] := (Keep.refl h0 []).ext E70
    have sz_b70 : h0.size ≤ b70 := Nat.le_trans ((Keep.refl h0 []) : Keep h0 h0 []).1 (Nat.le_of_eq g70.symm)
    have ge_b70 : n0 ≤ b70 := Nat.le_trans Z0 sz_b70
    have E_b70 := A70
    have F_times_b70 : Fld Z h70 b70 "com/example/wavegrade/wavegrade/DepartureQueue" "times" "[D" .null := D70 (Or.inl (hw _ (List.mem_of_getElem? (i := 11) rfl))) (ty := (.array .double)) (by decide)
    have F_lightpaths_b70 : Fld Z h70 b70 "com/example/wavegrade/wavegrade/DepartureQueue" "lightpaths" "[I" .null := D70 (Or.inl (hw _ (List.mem_of_getElem? (i := 14) rfl))) (ty := (.array .int)) (by decide)
    have F_size_b70 : Fld Z h70 b70 "com/example/wavegrade/wavegrade/DepartureQueue" "size" "I" (.int (0 : Int32)) := D70 (Or.inl (hw _ (List.mem_of_getElem? (i := 21) rfl))) (ty := .int) (by decide)
    show Go _ _ _ _ _ _ _ T70 (mkF m 18 #[.val (.int p0), .val (.int p1), .val (.int p2), .val (.int p3), .val (.int p4), .val (.int p5), .val (.int (3 : Int32)), .val (.int (3 : Int32)), .unset, .unset] [(.ref b70)])
    refine Go.step (fun _ k => XS.dup X70.here hx rfl (hb hby at_18) rfl rfl k) ?_
    show Go _ _ _ _ _ _ _ T70 (mkF m 19 #[.val (.int p0), .val (.int p1), .val (.int p2), .val (.int p3), .val (.int p4), .val (.int p5), .val (.int (3 : Int32)), .val (.int (3 : Int32)), .unset, .unset] [(.ref b70), (.ref b70)])
    refine Go.callI X70 hx hZ (by rw [hml]; rfl) (y := (⟨"com/example/wavegrade/wavegrade/DepartureQueue", "<init>", "()V"⟩ : MethodName)) (a := b70) (argsL := []) (rest := [(.ref b70)]) rfl hown (hw _ (List.mem_of_getElem? (i := 3) rfl)) (hw _ (List.mem_of_getElem? (i := 4) rfl)) (hw _ (List.mem_of_getElem? (i := 2) rfl)) (hw _ (List.mem_of_getElem? (i := 5) rfl)) (by decide) (rm1 l Z a0 hw b70 h70 n0 (Nat.le_trans Z0 (K70 : Keep h0 h70 []).1) E_b70 F_size_b70 F_times_b70 F_lightpaths_b70 ge_b70) e70 (hb hby at_19) (lenOf pd_0 rfl) rfl rfl (W := 1) (Nat.le_of_eq rfl) (by decide) (by decide) (by decide) (by decide) ?_
    intro v71 T71 L71 X71 Q71
    obtain ⟨rfl, N71q, Kc71, Ec71, Fs71, u71, v71, Ft71, Fl71, Vu71, Vv71, nqu71, nqv71, nuv71, su71, sv71⟩ := Q71
    have N71 := Fr.app N0 N71q
    have E_b70_71 := E_b70.keep Kc71
    have KK71 : Keep h0 T71.heap [] := (K70 : Keep h0 h70 []).trans Kc71 (allS (Or.inr sz_b70) all0)
    have sz_u71 : h0.size ≤ u71 := Nat.le_trans (K70 : Keep h0 h70 []).1 su71
    have ge_u71 : n0 ≤ u71 := Nat.le_trans Z0 sz_u71
    have sz_v71 : h0.size ≤ v71 := Nat.le_trans (K70 : Keep h0 h70 []).1 sv71
    have ge_v71 : n0 ≤ v71 := Nat.le_trans Z0 sz_v71
    have hg71 : ∀ i, i < 0 → (fun _ => (0 : UInt64)) i = (tT p2 p3 p4) ((fun x => x) i) := fun i hi' => absurd hi' (by omega)
    have hl71 : ∀ i, i < 0 → (fun _ => (0 : Int32)) i = (tL p5) ((fun x => x) i) := fun i hi' => absurd hi' (by omega)
    have hi71 : HI (tK p2 p3 p4) (fun x => x) 0 := trivial
    show Go _ _ _ _ _ _ _ T71 (mkF m 22 #[.val (.int p0), .val (.int p1), .val (.int p2), .val (.int p3), .val (.int p4), .val (.int p5), .val (.int (3 : Int32)), .val (.int (3 : Int32)), .unset, .unset] [(.ref b70)])
    refine Go.step (fun _ k => XS.astore X71.here hx rfl (hb hby at_22) rfl rfl (l' := #[.val (.int p0), .val (.int p1), .val (.int p2), .val (.int p3), .val (.int p4), .val (.int p5), .val (.int (3 : Int32)), .val (.int (3 : Int32)), .val (.ref b70), .unset]) rfl k) ?_
    show Go _ _ _ _ _ _ _ T71 (mkF m 24 #[.val (.int p0), .val (.int p1), .val (.int p2), .val (.int p3), .val (.int p4), .val (.int p5), .val (.int (3 : Int32)), .val (.int (3 : Int32)), .val (.ref b70), .unset] [])
    refine Go.step (fun _ k => XS.aload X71.here hx rfl (hb hby at_24) rfl rfl k) ?_
    show Go _ _ _ _ _ _ _ T71 (mkF m 26 #[.val (.int p0), .val (.int p1), .val (.int p2), .val (.int p3), .val (.int p4), .val (.int p5), .val (.int (3 : Int32)), .val (.int (3 : Int32)), .val (.ref b70), .unset] [(.ref b70)])
    refine Go.callV X71 hx hZ (by rw [hml]; rfl) (y := (⟨"com/example/wavegrade/wavegrade/DepartureQueue", "isEmpty", "()Z"⟩ : MethodName)) (z := (⟨"com/example/wavegrade/wavegrade/DepartureQueue", "isEmpty", "()Z"⟩ : MethodName)) (a := b70) (argsL := []) (rest := []) hown (hw _ (List.mem_of_getElem? (i := 15) rfl)) (hw _ (List.mem_of_getElem? (i := 16) rfl)) (notFace_of_selects (args := #[]) (mvT hZ (hw _ (List.mem_of_getElem? (i := 18) rfl)))) (hw _ (List.mem_of_getElem? (i := 18) rfl)) (hw _ (List.mem_of_getElem? (i := 17) rfl)) (hw _ (List.mem_of_getElem? (i := 2) rfl)) (hw _ (List.mem_of_getElem? (i := 19) rfl)) (by decide) (rm_empty0 l Z a0 hw b70 T71.heap n0 (Nat.le_trans Z0 (KK71 : Keep h0 T71.heap []).1) Fs71) rfl Ec71 (hb hby at_26) (lenOf pd_1 rfl) rfl rfl (W := 0) (Nat.le_of_eq rfl) (by decide) (by decide) (by decide) (by decide) ?_
    intro v72 T72 L72 X72 Q72
    obtain ⟨rfl, N72q, hh72⟩ := Q72
    have N72 := Fr.app N71 N72q
    show Go _ _ _ _ _ _ _ T72 (mkF m 29 #[.val (.int p0), .val (.int p1), .val (.int p2), .val (.int p3), .val (.int p4), .val (.int p5), .val (.int (3 : Int32)), .val (.int (3 : Int32)), .val (.ref b70), .unset] [(.int (1 : Int32))])
    refine Go.step (fun _ k => XS.istore X72.here hx rfl (hb hby at_29) rfl (l' := #[.val (.int p0), .val (.int p1), .val (.int p2), .val (.int p3), .val (.int p4), .val (.int p5), .val (.int (3 : Int32)), .val (.int (3 : Int32)), .val (.ref b70), .val (.int (1 : Int32))]) rfl k) ?_
    show Go _ _ _ _ _ _ _ T72 (mkF m 31 #[.val (.int p0), .val (.int p1), .val (.int p2), .val (.int p3), .val (.int p4), .val (.int p5), .val (.int (3 : Int32)), .val (.int (3 : Int32)), .val (.ref b70), .val (.int (1 : Int32))] [])
    refine Go.step (fun _ k => XS.iload X72.here hx rfl (hb hby at_31) rfl k) ?_
    show Go _ _ _ _ _ _ _ T72 (mkF m 33 #[.val (.int p0), .val (.int p1), .val (.int p2), .val (.int p3), .val (.int p4), .val (.int p5), .val (.int (3 : Int32)), .val (.int (3 : Int32)), .val (.ref b70), .val (.int (1 : Int32))] [(.int (3 : Int32))])
    refine Go.step (fun _ k => XS.ifNo X72.here hx rfl (hb hby at_33) rfl ((if0 _ _).trans (tlt (by decide : (0 : Int32) < (3 : Int32))).2.2.2) k) ?_
    show Go _ _ _ _ _ _ _ T72 (mkF m 36 #[.val (.int p0), .val (.int p1), .val (.int p2), .val (.int p3), .val (.int p4), .val (.int p5), .val (.int (3 : Int32)), .val (.int (3 : Int32)), .val (.ref b70), .val (.int (1 : Int32))] [])
    refine Go.step (fun _ k => XS.aload X72.here hx rfl (hb hby at_36) rfl rfl k) ?_
    show Go _ _ _ _ _ _ _ T72 (mkF m 38 #[.val (.int p0), .val (.int p1), .val (.int p2), .val (.int p3), .val (.int p4), .val (.int p5), .val (.int (3 : Int32)), .val (.int (3 : Int32)), .val (.ref b70), .val (.int (1 : Int32))] [(.ref b70)])
    refine Go.step (fun _ k => XS.iloadN X72.here hx rfl (hb hby at_38) rfl k) ?_
    show Go _ _ _ _ _ _ _ T72 (mkF m 39 #[.val (.int p0), .val (.int p1), .val (.int p2), .val (.int p3), .val (.int p4), .val (.int p5), .val (.int (3 : Int32)), .val (.int (3 : Int32)), .val (.ref b70), .val (.int (1 : Int32))] [(.int p2), (.ref b70)])
    refine Go.step (fun _ k => XS.bipush X72.here hx rfl (hb hby at_39) k) ?_
    show Go _ _ _ _ _ _ _ T72 (mkF m 41 #[.val (.int p0), .val (.int p1), .val (.int p2), .val (.int p3), .val (.int p4), .val (.int p5), .val (.int (3 : Int32)), .val (.int (3 : Int32)), .val (.ref b70), .val (.int (1 : Int32))] [(.int (16 : Int32)), (.int p2), (.ref b70)])
    refine Go.step (fun _ k => iremM X72 hx rfl (hb hby at_41) rfl (by decide) k) ?_
    show Go _ _ _ _ _ _ _ T72 (mkF m 42 #[.val (.int p0), .val (.int p1), .val (.int p2), .val (.int p3), .val (.int p4), .val (.int p5), .val (.int (3 : Int32)), .val (.int (3 : Int32)), .val (.ref b70), .val (.int (1 : Int32))] [(.int (p2 % (16 : Int32))), (.ref b70)])
    refine Go.step (fun _ k => XS.i2dS X72.here hx rfl (hb hby at_42) rfl rfl k) ?_
    show Go _ _ _ _ _ _ _ T72 (mkF m 43 #[.val (.int p0), .val (.int p1), .val (.int p2), .val (.int p3), .val (.int p4), .val (.int p5), .val (.int (3 : Int32)), .val (.int (3 : Int32)), .val (.ref b70), .val (.int (1 : Int32))] [(.double (FP.i2d (p2 % (16 : Int32)))), (.ref b70)])
    refine Go.step (fun _ k => XS.iload X72.here hx rfl (hb hby at_43) rfl k) ?_
    show Go _ _ _ _ _ _ _ T72 (mkF m 45 #[.val (.int p0), .val (.int p1), .val (.int p2), .val (.int p3), .val (.int p4), .val (.int p5), .val (.int (3 : Int32)), .val (.int (3 : Int32)), .val (.ref b70), .val (.int (1 : Int32))] [(.int p5), (.double (FP.i2d (p2 % (16 : Int32)))), (.ref b70)])
    refine Go.callV X72 hx hZ (by rw [hml]; rfl) (y := (⟨"com/example/wavegrade/wavegrade/DepartureQueue", "add", "(DI)V"⟩ : MethodName)) (z := (⟨"com/example/wavegrade/wavegrade/DepartureQueue", "add", "(DI)V"⟩ : MethodName)) (a := b70) (argsL := [(.double (FP.i2d (p2 % (16 : Int32)))), (.int p5)]) (rest := []) hown (hw _ (List.mem_of_getElem? (i := 22) rfl)) (hw _ (List.mem_of_getElem? (i := 23) rfl)) (notFace_of_selects (args := #[]) (mvT hZ (hw _ (List.mem_of_getElem? (i := 25) rfl)))) (hw _ (List.mem_of_getElem? (i := 25) rfl)) (hw _ (List.mem_of_getElem? (i := 24) rfl)) (hw _ (List.mem_of_getElem? (i := 2) rfl)) (hw _ (List.mem_of_getElem? (i := 26) rfl)) (by decide) (rm_add0 l Z a0 hw b70 u71 v71 (fun _ => (0 : UInt64)) (fun _ => (0 : Int32)) (tT p2 p3 p4) (tL p5) (tK p2 p3 p4) (fun x => x) 0 T71.heap n0 (Nat.le_trans Z0 (KK71 : Keep h0 T71.heap []).1) Ec71 Fs71 Ft71 Fl71 Vu71 Vv71 nqu71 nqv71 nuv71 ge_b70 ge_u71 ge_v71 (tH p2 p3 p4) hg71 hl71 hi71) hh72 Ec71 (hb hby at_45) (lenOf pd_2 rfl) rfl rfl (W := 0) (Nat.le_of_eq rfl) (by decide) (by decide) (by decide) (by decide) ?_
    intro v73 T73 L73 X73 Q73
    obtain ⟨rfl, N73q, Kc73, Ec73, Fs73, Ft73, Fl73, g73x, l73x, a73x, Vu73, Vv73, hg73, hl73, hi73, hs73, hP73⟩ := Q73
    have N73 := Fr.app N72 N73q
    have Ec71_73 := Ec71.keep Kc73
    have KK73 : Keep h0 T73.heap [] := (KK71 : Keep h0 T71.heap []).trans Kc73 (allS (Or.inr sz_b70) (allS (Or.inr sz_u71) (allS (Or.inr sz_v71) all0)))
    show Go _ _ _ _ _ _ _ T73 (mkF m 48 #[.val (.int p0), .val (.int p1), .val (.int p2), .val (.int p3), .val (.int p4), .val (.int p5), .val (.int (3 : Int32)), .val (.int (3 : Int32)), .val (.ref b70), .val (.int (1 : Int32))] [])
    refine Go.step (fun _ k => XS.iload X73.here hx rfl (hb hby at_48) rfl k) ?_
    show Go _ _ _ _ _ _ _ T73 (mkF m 50 #[.val (.int p0), .val (.int p1), .val (.int p2), .val (.int p3), .val (.int p4), .val (.int p5), .val (.int (3 : Int32)), .val (.int (3 : Int32)), .val (.ref b70), .val (.int (1 : Int32))] [(.int (3 : Int32))])
    refine Go.step (fun _ k => XS.iconst X73.here hx rfl (hb hby at_50) k) ?_
    show Go _ _ _ _ _ _ _ T73 (mkF m 51 #[.val (.int p0), .val (.int p1), .val (.int p2), .val (.int p3), .val (.int p4), .val (.int p5), .val (.int (3 : Int32)), .val (.int (3 : Int32)), .val (.ref b70), .val (.int (1 : Int32))] [(.int (1 : Int32)), (.int (3 : Int32))])
    refine Go.step (fun _ k => XS.icmpNo X73.here hx rfl (hb hby at_51) rfl (tlt (by decide : (1 : Int32) < (3 : Int32))).2.2.2 k) ?_
    show Go _ _ _ _ _ _ _ T73 (mkF m 54 #[.val (.int p0), .val (.int p1), .val (.int p2), .val (.int p3), .val (.int p4), .val (.int p5), .val (.int (3 : Int32)), .val (.int (3 : Int32)), .val (.ref b70), .val (.int (1 : Int32))] [])
    refine Go.step (fun _ k => XS.aload X73.here hx rfl (hb hby at_54) rfl rfl k) ?_
    show Go _ _ _ _ _ _ _ T73 (mkF m 56 #[.val (.int p0), .val (.int p1), .val (.int p2), .val (.int p3), .val (.int p4), .val (.int p5), .val (.int (3 : Int32)), .val (.int (3 : Int32)), .val (.ref b70), .val (.int (1 : Int32))] [(.ref b70)])
    refine Go.step (fun _ k => XS.iloadN X73.here hx rfl (hb hby at_56) rfl k) ?_
    show Go _ _ _ _ _ _ _ T73 (mkF m 57 #[.val (.int p0), .val (.int p1), .val (.int p2), .val (.int p3), .val (.int p4), .val (.int p5), .val (.int (3 : Int32)), .val (.int (3 : Int32)), .val (.ref b70), .val (.int (1 : Int32))] [(.int p3), (.ref b70)])
    refine Go.step (fun _ k => XS.bipush X73.here hx rfl (hb hby at_57) k) ?_
    show Go _ _ _ _ _ _ _ T73 (mkF m 59 #[.val (.int p0), .val (.int p1), .val (.int p2), .val (.int p3), .val (.int p4), .val (.int p5), .val (.int (3 : Int32)), .val (.int (3 : Int32)), .val (.ref b70), .val (.int (1 : Int32))] [(.int (16 : Int32)), (.int p3), (.ref b70)])
    refine Go.step (fun _ k => iremM X73 hx rfl (hb hby at_59) rfl (by decide) k) ?_
    show Go _ _ _ _ _ _ _ T73 (mkF m 60 #[.val (.int p0), .val (.int p1), .val (.int p2), .val (.int p3), .val (.int p4), .val (.int p5), .val (.int (3 : Int32)), .val (.int (3 : Int32)), .val (.ref b70), .val (.int (1 : Int32))] [(.int (p3 % (16 : Int32))), (.ref b70)])
    refine Go.step (fun _ k => XS.i2dS X73.here hx rfl (hb hby at_60) rfl rfl k) ?_
    show Go _ _ _ _ _ _ _ T73 (mkF m 61 #[.val (.int p0), .val (.int p1), .val (.int p2), .val (.int p3), .val (.int p4), .val (.int p5), .val (.int (3 : Int32)), .val (.int (3 : Int32)), .val (.ref b70), .val (.int (1 : Int32))] [(.double (FP.i2d (p3 % (16 : Int32)))), (.ref b70)])
    refine Go.step (fun _ k => XS.iload X73.here hx rfl (hb hby at_61) rfl k) ?_
    show Go _ _ _ _ _ _ _ T73 (mkF m 63 #[.val (.int p0), .val (.int p1), .val (.int p2), .val (.int p3), .val (.int p4), .val (.int p5), .val (.int (3 : Int32)), .val (.int (3 : Int32)), .val (.ref b70), .val (.int (1 : Int32))] [(.int p5), (.double (FP.i2d (p3 % (16 : Int32)))), (.ref b70)])
    refine Go.step (fun _ k => XS.iconst X73.here hx rfl (hb hby at_63) k) ?_
    show Go _ _ _ _ _ _ _ T73 (mkF m 64 #[.val (.int p0), .val (.int p1), .val (.int p2), .val (.int p3), .val (.int p4), .val (.int p5), .val (.int (3 : Int32)), .val (.int (3 : Int32)), .val (.ref b70), .val (.int (1 : Int32))] [(.int (1 : Int32)), (.int p5), (.double (FP.i2d (p3 % (16 : Int32)))), (.ref b70)])
    refine Go.step (fun _ k => XS.iadd X73.here hx rfl (hb hby at_64) rfl k) ?_
    show Go _ _ _ _ _ _ _ T73 (mkF m 65 #[.val (.int p0), .val (.int p1), .val (.int p2), .val (.int p3), .val (.int p4), .val (.int p5), .val (.int (3 : Int32)), .val (.int (3 : Int32)), .val (.ref b70), .val (.int (1 : Int32))] [(.int (p5 + (1 : Int32))), (.double (FP.i2d (p3 % (16 : Int32)))), (.ref b70)])
    refine Go.callV X73 hx hZ (by rw [hml]; rfl) (y := (⟨"com/example/wavegrade/wavegrade/DepartureQueue", "add", "(DI)V"⟩ : MethodName)) (z := (⟨"com/example/wavegrade/wavegrade/DepartureQueue", "add", "(DI)V"⟩ : MethodName)) (a := b70) (argsL := [(.double (FP.i2d (p3 % (16 : Int32)))), (.int (p5 + (1 : Int32)))]) (rest := []) hown (hw _ (List.mem_of_getElem? (i := 22) rfl)) (hw _ (List.mem_of_getElem? (i := 23) rfl)) (notFace_of_selects (args := #[]) (mvT hZ (hw _ (List.mem_of_getElem? (i := 25) rfl)))) (hw _ (List.mem_of_getElem? (i := 25) rfl)) (hw _ (List.mem_of_getElem? (i := 24) rfl)) (hw _ (List.mem_of_getElem? (i := 2) rfl)) (hw _ (List.mem_of_getElem? (i := 26) rfl)) (by decide) (rm_add1 l Z a0 hw b70 u71 v71 g73x l73x (tT p2 p3 p4) (tL p5) (tK p2 p3 p4) a73x 1 T73.heap n0 (Nat.le_trans Z0 (KK73 : Keep h0 T73.heap []).1) Ec73 Fs73 Ft73 Fl73 Vu73 Vv73 nqu71 nqv71 nuv71 ge_b70 ge_u71 ge_v71 (tH p2 p3 p4) hg73 hl73 hi73) rfl Ec73 (hb hby at_65) (lenOf pd_2 rfl) rfl rfl (W := 0) (Nat.le_of_eq rfl) (by decide) (by decide) (by decide) (by decide) ?_
    intro v74 T74 L74 X74 Q74
    obtain ⟨rfl, N74q, Kc74, Ec74, Fs74, Ft74, Fl74, g74x, l74x, a74x, Vu74, Vv74, hg74, hl74, hi74, hs74, hP74⟩ := Q74
    have N74 := Fr.app N73 N74q
    have Ec73_74 := Ec73.keep Kc74
    have KK74 : Keep h0 T74.heap [] := (KK73 : Keep h0 T73.heap []).trans Kc74 (allS (Or.inr sz_b70) (allS (Or.inr sz_u71) (allS (Or.inr sz_v71) all0)))
    show Go _ _ _ _ _ _ _ T74 (mkF m 68 #[.val (.int p0), .val (.int p1), .val (.int p2), .val (.int p3), .val (.int p4), .val (.int p5), .val (.int (3 : Int32)), .val (.int (3 : Int32)), .val (.ref b70), .val (.int (1 : Int32))] [])
    refine Go.step (fun _ k => XS.iload X74.here hx rfl (hb hby at_68) rfl k) ?_
    show Go _ _ _ _ _ _ _ T74 (mkF m 70 #[.val (.int p0), .val (.int p1), .val (.int p2), .val (.int p3), .val (.int p4), .val (.int p5), .val (.int (3 : Int32)), .val (.int (3 : Int32)), .val (.ref b70), .val (.int (1 : Int32))] [(.int (3 : Int32))])
    refine Go.step (fun _ k => XS.iconst X74.here hx rfl (hb hby at_70) k) ?_
    show Go _ _ _ _ _ _ _ T74 (mkF m 71 #[.val (.int p0), .val (.int p1), .val (.int p2), .val (.int p3), .val (.int p4), .val (.int p5), .val (.int (3 : Int32)), .val (.int (3 : Int32)), .val (.ref b70), .val (.int (1 : Int32))] [(.int (2 : Int32)), (.int (3 : Int32))])
    refine Go.step (fun _ k => XS.icmpNo X74.here hx rfl (hb hby at_71) rfl (tlt (by decide : (2 : Int32) < (3 : Int32))).2.2.2 k) ?_
    show Go _ _ _ _ _ _ _ T74 (mkF m 74 #[.val (.int p0), .val (.int p1), .val (.int p2), .val (.int p3), .val (.int p4), .val (.int p5), .val (.int (3 : Int32)), .val (.int (3 : Int32)), .val (.ref b70), .val (.int (1 : Int32))] [])
    refine Go.step (fun _ k => XS.aload X74.here hx rfl (hb hby at_74) rfl rfl k) ?_
    show Go _ _ _ _ _ _ _ T74 (mkF m 76 #[.val (.int p0), .val (.int p1), .val (.int p2), .val (.int p3), .val (.int p4), .val (.int p5), .val (.int (3 : Int32)), .val (.int (3 : Int32)), .val (.ref b70), .val (.int (1 : Int32))] [(.ref b70)])
    refine Go.step (fun _ k => XS.iload X74.here hx rfl (hb hby at_76) rfl k) ?_
    show Go _ _ _ _ _ _ _ T74 (mkF m 78 #[.val (.int p0), .val (.int p1), .val (.int p2), .val (.int p3), .val (.int p4), .val (.int p5), .val (.int (3 : Int32)), .val (.int (3 : Int32)), .val (.ref b70), .val (.int (1 : Int32))] [(.int p4), (.ref b70)])
    refine Go.step (fun _ k => XS.bipush X74.here hx rfl (hb hby at_78) k) ?_
    show Go _ _ _ _ _ _ _ T74 (mkF m 80 #[.val (.int p0), .val (.int p1), .val (.int p2), .val (.int p3), .val (.int p4), .val (.int p5), .val (.int (3 : Int32)), .val (.int (3 : Int32)), .val (.ref b70), .val (.int (1 : Int32))] [(.int (16 : Int32)), (.int p4), (.ref b70)])
    refine Go.step (fun _ k => iremM X74 hx rfl (hb hby at_80) rfl (by decide) k) ?_
    show Go _ _ _ _ _ _ _ T74 (mkF m 81 #[.val (.int p0), .val (.int p1), .val (.int p2), .val (.int p3), .val (.int p4), .val (.int p5), .val (.int (3 : Int32)), .val (.int (3 : Int32)), .val (.ref b70), .val (.int (1 : Int32))] [(.int (p4 % (16 : Int32))), (.ref b70)])
    refine Go.step (fun _ k => XS.i2dS X74.here hx rfl (hb hby at_81) rfl rfl k) ?_
    show Go _ _ _ _ _ _ _ T74 (mkF m 82 #[.val (.int p0), .val (.int p1), .val (.int p2), .val (.int p3), .val (.int p4), .val (.int p5), .val (.int (3 : Int32)), .val (.int (3 : Int32)), .val (.ref b70), .val (.int (1 : Int32))] [(.double (FP.i2d (p4 % (16 : Int32)))), (.ref b70)])
    refine Go.step (fun _ k => XS.iload X74.here hx rfl (hb hby at_82) rfl k) ?_
    show Go _ _ _ _ _ _ _ T74 (mkF m 84 #[.val (.int p0), .val (.int p1), .val (.int p2), .val (.int p3), .val (.int p4), .val (.int p5), .val (.int (3 : Int32)), .val (.int (3 : Int32)), .val (.ref b70), .val (.int (1 : Int32))] [(.int p5), (.double (FP.i2d (p4 % (16 : Int32)))), (.ref b70)])
    refine Go.step (fun _ k => XS.iconst X74.here hx rfl (hb hby at_84) k) ?_
    show Go _ _ _ _ _ _ _ T74 (mkF m 85 #[.val (.int p0), .val (.int p1), .val (.int p2), .val (.int p3), .val (.int p4), .val (.int p5), .val (.int (3 : Int32)), .val (.int (3 : Int32)), .val (.ref b70), .val (.int (1 : Int32))] [(.int (2 : Int32)), (.int p5), (.double (FP.i2d (p4 % (16 : Int32)))), (.ref b70)])
    refine Go.step (fun _ k => XS.iadd X74.here hx rfl (hb hby at_85) rfl k) ?_
    show Go _ _ _ _ _ _ _ T74 (mkF m 86 #[.val (.int p0), .val (.int p1), .val (.int p2), .val (.int p3), .val (.int p4), .val (.int p5), .val (.int (3 : Int32)), .val (.int (3 : Int32)), .val (.ref b70), .val (.int (1 : Int32))] [(.int (p5 + (2 : Int32))), (.double (FP.i2d (p4 % (16 : Int32)))), (.ref b70)])
    refine Go.callV X74 hx hZ (by rw [hml]; rfl) (y := (⟨"com/example/wavegrade/wavegrade/DepartureQueue", "add", "(DI)V"⟩ : MethodName)) (z := (⟨"com/example/wavegrade/wavegrade/DepartureQueue", "add", "(DI)V"⟩ : MethodName)) (a := b70) (argsL := [(.double (FP.i2d (p4 % (16 : Int32)))), (.int (p5 + (2 : Int32)))]) (rest := []) hown (hw _ (List.mem_of_getElem? (i := 22) rfl)) (hw _ (List.mem_of_getElem? (i := 23) rfl)) (notFace_of_selects (args := #[]) (mvT hZ (hw _ (List.mem_of_getElem? (i := 25) rfl)))) (hw _ (List.mem_of_getElem? (i := 25) rfl)) (hw _ (List.mem_of_getElem? (i := 24) rfl)) (hw _ (List.mem_of_getElem? (i := 2) rfl)) (hw _ (List.mem_of_getElem? (i := 26) rfl)) (by decide) (rm_add2 l Z a0 hw b70 u71 v71 g74x l74x (tT p2 p3 p4) (tL p5) (tK p2 p3 p4) a74x 2 T74.heap n0 (Nat.le_trans Z0 (KK74 : Keep h0 T74.heap []).1) Ec74 Fs74 Ft74 Fl74 Vu74 Vv74 nqu71 nqv71 nuv71 ge_b70 ge_u71 ge_v71 (tH p2 p3 p4) hg74 hl74 hi74) rfl Ec74 (hb hby at_86) (lenOf pd_2 rfl) rfl rfl (W := 0) (Nat.le_of_eq rfl) (by decide) (by decide) (by decide) (by decide) ?_
    intro v75 T75 L75 X75 Q75
    obtain ⟨rfl, N75q, Kc75, Ec75, Fs75, Ft75, Fl75, g75x, l75x, a75x, Vu75, Vv75, hg75, hl75, hi75, hs75, hP75⟩ := Q75
    have N75 := Fr.app N74 N75q
    have Ec74_75 := Ec74.keep Kc75
    have KK75 : Keep h0 T75.heap [] := (KK74 : Keep h0 T74.heap []).trans Kc75 (allS (Or.inr sz_b70) (allS (Or.inr sz_u71) (allS (Or.inr sz_v71) all0)))
    show Go _ _ _ _ _ _ _ T75 (mkF m 89 #[.val (.int p0), .val (.int p1), .val (.int p2), .val (.int p3), .val (.int p4), .val (.int p5), .val (.int (3 : Int32)), .val (.int (3 : Int32)), .val (.ref b70), .val (.int (1 : Int32))] [])
    refine Go.step (fun _ k => XS.iload X75.here hx rfl (hb hby at_89) rfl k) ?_
    show Go _ _ _ _ _ _ _ T75 (mkF m 91 #[.val (.int p0), .val (.int p1), .val (.int p2), .val (.int p3), .val (.int p4), .val (.int p5), .val (.int (3 : Int32)), .val (.int (3 : Int32)), .val (.ref b70), .val (.int (1 : Int32))] [(.int (1 : Int32))])
    refine Go.step (fun _ k => XS.ifNo X75.here hx rfl (hb hby at_91) rfl ((if0 _ _).trans (feq (by decide : ¬ ((1 : Int32) = (0 : Int32)))).1) k) ?_
    show Go _ _ _ _ _ _ _ T75 (mkF m 94 #[.val (.int p0), .val (.int p1), .val (.int p2), .val (.int p3), .val (.int p4), .val (.int p5), .val (.int (3 : Int32)), .val (.int (3 : Int32)), .val (.ref b70), .val (.int (1 : Int32))] [])
    refine Go.step (fun _ k => XS.aload X75.here hx rfl (hb hby at_94) rfl rfl k) ?_
    show Go _ _ _ _ _ _ _ T75 (mkF m 96 #[.val (.int p0), .val (.int p1), .val (.int p2), .val (.int p3), .val (.int p4), .val (.int p5), .val (.int (3 : Int32)), .val (.int (3 : Int32)), .val (.ref b70), .val (.int (1 : Int32))] [(.ref b70)])
    refine Go.callV X75 hx hZ (by rw [hml]; rfl) (y := (⟨"com/example/wavegrade/wavegrade/DepartureQueue", "isEmpty", "()Z"⟩ : MethodName)) (z := (⟨"com/example/wavegrade/wavegrade/DepartureQueue", "isEmpty", "()Z"⟩ : MethodName)) (a := b70) (argsL := []) (rest := []) hown (hw _ (List.mem_of_getElem? (i := 15) rfl)) (hw _ (List.mem_of_getElem? (i := 16) rfl)) (notFace_of_selects (args := #[]) (mvT hZ (hw _ (List.mem_of_getElem? (i := 18) rfl)))) (hw _ (List.mem_of_getElem? (i := 18) rfl)) (hw _ (List.mem_of_getElem? (i := 17) rfl)) (hw _ (List.mem_of_getElem? (i := 2) rfl)) (hw _ (List.mem_of_getElem? (i := 19) rfl)) (by decide) (rm_empty3 l Z a0 hw b70 T75.heap n0 (Nat.le_trans Z0 (KK75 : Keep h0 T75.heap []).1) Fs75) rfl Ec75 (hb hby at_96) (lenOf pd_1 rfl) rfl rfl (W := 0) (Nat.le_of_eq rfl) (by decide) (by decide) (by decide) (by decide) ?_
    intro v76 T76 L76 X76 Q76
    obtain ⟨rfl, N76q, hh76⟩ := Q76
    have N76 := Fr.app N75 N76q
    show Go _ _ _ _ _ _ _ T76 (mkF m 99 #[.val (.int p0), .val (.int p1), .val (.int p2), .val (.int p3), .val (.int p4), .val (.int p5), .val (.int (3 : Int32)), .val (.int (3 : Int32)), .val (.ref b70), .val (.int (1 : Int32))] [(.int (0 : Int32))])
    refine Go.step (fun _ k => XS.iload X76.here hx rfl (hb hby at_99) rfl k) ?_
    show Go _ _ _ _ _ _ _ T76 (mkF m 101 #[.val (.int p0), .val (.int p1), .val (.int p2), .val (.int p3), .val (.int p4), .val (.int p5), .val (.int (3 : Int32)), .val (.int (3 : Int32)), .val (.ref b70), .val (.int (1 : Int32))] [(.int (3 : Int32)), (.int (0 : Int32))])
    refine Go.step (fun _ k => XS.ifYes X76.here hx rfl (pc0 := 101) (pc' := 108) rfl (hb hby at_101) rfl ((if0 _ _).trans (feq (by decide : ¬ ((3 : Int32) = (0 : Int32)))).2) (by decide) (by decide) k) ?_
    show Go _ _ _ _ _ _ _ T76 (mkF m 108 #[.val (.int p0), .val (.int p1), .val (.int p2), .val (.int p3), .val (.int p4), .val (.int p5), .val (.int (3 : Int32)), .val (.int (3 : Int32)), .val (.ref b70), .val (.int (1 : Int32))] [(.int (0 : Int32))])
    refine Go.step (fun _ k => XS.iconst X76.here hx rfl (hb hby at_108) k) ?_
    show Go _ _ _ _ _ _ _ T76 (mkF m 109 #[.val (.int p0), .val (.int p1), .val (.int p2), .val (.int p3), .val (.int p4), .val (.int p5), .val (.int (3 : Int32)), .val (.int (3 : Int32)), .val (.ref b70), .val (.int (1 : Int32))] [(.int (0 : Int32)), (.int (0 : Int32))])
    refine Go.step (fun _ k => XS.icmpNo X76.here hx rfl (hb hby at_109) rfl (teq (by decide : (0 : Int32) = (0 : Int32))).2 k) ?_
    show Go _ _ _ _ _ _ _ T76 (mkF m 112 #[.val (.int p0), .val (.int p1), .val (.int p2), .val (.int p3), .val (.int p4), .val (.int p5), .val (.int (3 : Int32)), .val (.int (3 : Int32)), .val (.ref b70), .val (.int (1 : Int32))] [])
    refine Go.step (fun _ k => XS.iconst X76.here hx rfl (hb hby at_112) k) ?_
    show Go _ _ _ _ _ _ _ T76 (mkF m 113 #[.val (.int p0), .val (.int p1), .val (.int p2), .val (.int p3), .val (.int p4), .val (.int p5), .val (.int (3 : Int32)), .val (.int (3 : Int32)), .val (.ref b70), .val (.int (1 : Int32))] [(.int (1 : Int32))])
    refine Go.step (fun _ k => XS.goto X76.here hx rfl (pc0 := 113) (pc' := 117) rfl (hb hby at_113) (by decide) (by decide) k) ?_
    show Go _ _ _ _ _ _ _ T76 (mkF m 117 #[.val (.int p0), .val (.int p1), .val (.int p2), .val (.int p3), .val (.int p4), .val (.int p5), .val (.int (3 : Int32)), .val (.int (3 : Int32)), .val (.ref b70), .val (.int (1 : Int32))] [(.int (1 : Int32))])
    refine Go.step (fun _ k => XS.istore X76.here hx rfl (hb hby at_117) rfl (l' := #[.val (.int p0), .val (.int p1), .val (.int p2), .val (.int p3), .val (.int p4), .val (.int p5), .val (.int (3 : Int32)), .val (.int (3 : Int32)), .val (.ref b70), .val (.int (1 : Int32))]) rfl k) ?_
    show Go _ _ _ _ _ _ _ T76 (mkF m 119 #[.val (.int p0), .val (.int p1), .val (.int p2), .val (.int p3), .val (.int p4), .val (.int p5), .val (.int (3 : Int32)), .val (.int (3 : Int32)), .val (.ref b70), .val (.int (1 : Int32))] [])
    refine Go.step (fun _ k => XS.iload X76.here hx rfl (hb hby at_119) rfl k) ?_
    show Go _ _ _ _ _ _ _ T76 (mkF m 121 #[.val (.int p0), .val (.int p1), .val (.int p2), .val (.int p3), .val (.int p4), .val (.int p5), .val (.int (3 : Int32)), .val (.int (3 : Int32)), .val (.ref b70), .val (.int (1 : Int32))] [(.int (3 : Int32))])
    refine Go.step (fun _ k => XS.ifNo X76.here hx rfl (hb hby at_121) rfl ((if0 _ _).trans (tlt (by decide : (0 : Int32) < (3 : Int32))).2.2.2) k) ?_
    show Go _ _ _ _ _ _ _ T76 (mkF m 124 #[.val (.int p0), .val (.int p1), .val (.int p2), .val (.int p3), .val (.int p4), .val (.int p5), .val (.int (3 : Int32)), .val (.int (3 : Int32)), .val (.ref b70), .val (.int (1 : Int32))] [])
    refine Go.step (fun _ k => XS.aload X76.here hx rfl (hb hby at_124) rfl rfl k) ?_
    show Go _ _ _ _ _ _ _ T76 (mkF m 126 #[.val (.int p0), .val (.int p1), .val (.int p2), .val (.int p3), .val (.int p4), .val (.int p5), .val (.int (3 : Int32)), .val (.int (3 : Int32)), .val (.ref b70), .val (.int (1 : Int32))] [(.ref b70)])
    refine Go.callV X76 hx hZ (by rw [hml]; rfl) (y := (⟨"com/example/wavegrade/wavegrade/DepartureQueue", "removeFirst", "()I"⟩ : MethodName)) (z := (⟨"com/example/wavegrade/wavegrade/DepartureQueue", "removeFirst", "()I"⟩ : MethodName)) (a := b70) (argsL := []) (rest := []) hown (hw _ (List.mem_of_getElem? (i := 27) rfl)) (hw _ (List.mem_of_getElem? (i := 28) rfl)) (notFace_of_selects (args := #[]) (mvT hZ (hw _ (List.mem_of_getElem? (i := 30) rfl)))) (hw _ (List.mem_of_getElem? (i := 30) rfl)) (hw _ (List.mem_of_getElem? (i := 29) rfl)) (hw _ (List.mem_of_getElem? (i := 2) rfl)) (hw _ (List.mem_of_getElem? (i := 31) rfl)) (by decide) (rm_rem3 l Z a0 hw b70 u71 v71 g75x l75x (tT p2 p3 p4) (tL p5) (tK p2 p3 p4) a75x T75.heap n0 (Nat.le_trans Z0 (KK75 : Keep h0 T75.heap []).1) Ec75 Fs75 Ft75 Fl75 Vu75 Vv75 nqu71 nqv71 nuv71 ge_b70 ge_u71 ge_v71 (tH p2 p3 p4) hg75 hl75 hi75) hh76 Ec75 (hb hby at_126) (lenOf pd_3 rfl) rfl rfl (W := 0) (Nat.le_of_eq rfl) (by decide) (by decide) (by decide) (by decide) ?_
    intro v77 T77 L77 X77 Q77
    obtain ⟨rfl, N77q, Kc77, Ec77, Fs77, Ft77, Fl77, g77x, l77x, a77x, Vu77, Vv77, hg77, hl77, hi77, ⟨hm77, hs77⟩, hP77⟩ := Q77
    have N77 := Fr.app N76 N77q
    have Ec75_77 := Ec75.keep Kc77
    have KK77 : Keep h0 T77.heap [] := (KK75 : Keep h0 T75.heap []).trans Kc77 (allS (Or.inr sz_b70) (allS (Or.inr sz_u71) (allS (Or.inr sz_v71) all0)))
    show Go _ _ _ _ _ _ _ T77 (mkF m 129 #[.val (.int p0), .val (.int p1), .val (.int p2), .val (.int p3), .val (.int p4), .val (.int p5), .val (.int (3 : Int32)), .val (.int (3 : Int32)), .val (.ref b70), .val (.int (1 : Int32))] [(.int ((tL p5) (a75x 0)))])
    refine Go.step (fun _ k => XS.pop X77.here hx rfl (hb hby at_129) rfl rfl k) ?_
    show Go _ _ _ _ _ _ _ T77 (mkF m 130 #[.val (.int p0), .val (.int p1), .val (.int p2), .val (.int p3), .val (.int p4), .val (.int p5), .val (.int (3 : Int32)), .val (.int (3 : Int32)), .val (.ref b70), .val (.int (1 : Int32))] [])
    refine Go.step (fun _ k => XS.iload X77.here hx rfl (hb hby at_130) rfl k) ?_
    show Go _ _ _ _ _ _ _ T77 (mkF m 132 #[.val (.int p0), .val (.int p1), .val (.int p2), .val (.int p3), .val (.int p4), .val (.int p5), .val (.int (3 : Int32)), .val (.int (3 : Int32)), .val (.ref b70), .val (.int (1 : Int32))] [(.int (3 : Int32))])
    refine Go.step (fun _ k => XS.iconst X77.here hx rfl (hb hby at_132) k) ?_
    show Go _ _ _ _ _ _ _ T77 (mkF m 133 #[.val (.int p0), .val (.int p1), .val (.int p2), .val (.int p3), .val (.int p4), .val (.int p5), .val (.int (3 : Int32)), .val (.int (3 : Int32)), .val (.ref b70), .val (.int (1 : Int32))] [(.int (1 : Int32)), (.int (3 : Int32))])
    refine Go.step (fun _ k => XS.icmpNo X77.here hx rfl (hb hby at_133) rfl (tlt (by decide : (1 : Int32) < (3 : Int32))).2.2.2 k) ?_
    show Go _ _ _ _ _ _ _ T77 (mkF m 136 #[.val (.int p0), .val (.int p1), .val (.int p2), .val (.int p3), .val (.int p4), .val (.int p5), .val (.int (3 : Int32)), .val (.int (3 : Int32)), .val (.ref b70), .val (.int (1 : Int32))] [])
    refine Go.step (fun _ k => XS.aload X77.here hx rfl (hb hby at_136) rfl rfl k) ?_
    show Go _ _ _ _ _ _ _ T77 (mkF m 138 #[.val (.int p0), .val (.int p1), .val (.int p2), .val (.int p3), .val (.int p4), .val (.int p5), .val (.int (3 : Int32)), .val (.int (3 : Int32)), .val (.ref b70), .val (.int (1 : Int32))] [(.ref b70)])
    refine Go.callV X77 hx hZ (by rw [hml]; rfl) (y := (⟨"com/example/wavegrade/wavegrade/DepartureQueue", "removeFirst", "()I"⟩ : MethodName)) (z := (⟨"com/example/wavegrade/wavegrade/DepartureQueue", "removeFirst", "()I"⟩ : MethodName)) (a := b70) (argsL := []) (rest := []) hown (hw _ (List.mem_of_getElem? (i := 27) rfl)) (hw _ (List.mem_of_getElem? (i := 28) rfl)) (notFace_of_selects (args := #[]) (mvT hZ (hw _ (List.mem_of_getElem? (i := 30) rfl)))) (hw _ (List.mem_of_getElem? (i := 30) rfl)) (hw _ (List.mem_of_getElem? (i := 29) rfl)) (hw _ (List.mem_of_getElem? (i := 2) rfl)) (hw _ (List.mem_of_getElem? (i := 31) rfl)) (by decide) (rm_rem2 l Z a0 hw b70 u71 v71 g77x l77x (tT p2 p3 p4) (tL p5) (tK p2 p3 p4) a77x T77.heap n0 (Nat.le_trans Z0 (KK77 : Keep h0 T77.heap []).1) Ec77 Fs77 Ft77 Fl77 Vu77 Vv77 nqu71 nqv71 nuv71 ge_b70 ge_u71 ge_v71 (tH p2 p3 p4) hg77 hl77 hi77) rfl Ec77 (hb hby at_138) (lenOf pd_3 rfl) rfl rfl (W := 0) (Nat.le_of_eq rfl) (by decide) (by decide) (by decide) (by decide) ?_
    intro v78 T78 L78 X78 Q78
    obtain ⟨rfl, N78q, Kc78, Ec78, Fs78, Ft78, Fl78, g78x, l78x, a78x, Vu78, Vv78, hg78, hl78, hi78, ⟨hm78, hs78⟩, hP78⟩ := Q78
    have N78 := Fr.app N77 N78q
    have Ec77_78 := Ec77.keep Kc78
    have KK78 : Keep h0 T78.heap [] := (KK77 : Keep h0 T77.heap []).trans Kc78 (allS (Or.inr sz_b70) (allS (Or.inr sz_u71) (allS (Or.inr sz_v71) all0)))
    show Go _ _ _ _ _ _ _ T78 (mkF m 141 #[.val (.int p0), .val (.int p1), .val (.int p2), .val (.int p3), .val (.int p4), .val (.int p5), .val (.int (3 : Int32)), .val (.int (3 : Int32)), .val (.ref b70), .val (.int (1 : Int32))] [(.int ((tL p5) (a77x 0)))])
    refine Go.step (fun _ k => XS.pop X78.here hx rfl (hb hby at_141) rfl rfl k) ?_
    show Go _ _ _ _ _ _ _ T78 (mkF m 142 #[.val (.int p0), .val (.int p1), .val (.int p2), .val (.int p3), .val (.int p4), .val (.int p5), .val (.int (3 : Int32)), .val (.int (3 : Int32)), .val (.ref b70), .val (.int (1 : Int32))] [])
    refine Go.step (fun _ k => XS.iload X78.here hx rfl (hb hby at_142) rfl k) ?_
    show Go _ _ _ _ _ _ _ T78 (mkF m 144 #[.val (.int p0), .val (.int p1), .val (.int p2), .val (.int p3), .val (.int p4), .val (.int p5), .val (.int (3 : Int32)), .val (.int (3 : Int32)), .val (.ref b70), .val (.int (1 : Int32))] [(.int (3 : Int32))])
    refine Go.step (fun _ k => XS.iconst X78.here hx rfl (hb hby at_144) k) ?_
    show Go _ _ _ _ _ _ _ T78 (mkF m 145 #[.val (.int p0), .val (.int p1), .val (.int p2), .val (.int p3), .val (.int p4), .val (.int p5), .val (.int (3 : Int32)), .val (.int (3 : Int32)), .val (.ref b70), .val (.int (1 : Int32))] [(.int (2 : Int32)), (.int (3 : Int32))])
    refine Go.step (fun _ k => XS.icmpNo X78.here hx rfl (hb hby at_145) rfl (tlt (by decide : (2 : Int32) < (3 : Int32))).2.2.2 k) ?_
    show Go _ _ _ _ _ _ _ T78 (mkF m 148 #[.val (.int p0), .val (.int p1), .val (.int p2), .val (.int p3), .val (.int p4), .val (.int p5), .val (.int (3 : Int32)), .val (.int (3 : Int32)), .val (.ref b70), .val (.int (1 : Int32))] [])
    refine Go.step (fun _ k => XS.aload X78.here hx rfl (hb hby at_148) rfl rfl k) ?_
    show Go _ _ _ _ _ _ _ T78 (mkF m 150 #[.val (.int p0), .val (.int p1), .val (.int p2), .val (.int p3), .val (.int p4), .val (.int p5), .val (.int (3 : Int32)), .val (.int (3 : Int32)), .val (.ref b70), .val (.int (1 : Int32))] [(.ref b70)])
    refine Go.callV X78 hx hZ (by rw [hml]; rfl) (y := (⟨"com/example/wavegrade/wavegrade/DepartureQueue", "removeFirst", "()I"⟩ : MethodName)) (z := (⟨"com/example/wavegrade/wavegrade/DepartureQueue", "removeFirst", "()I"⟩ : MethodName)) (a := b70) (argsL := []) (rest := []) hown (hw _ (List.mem_of_getElem? (i := 27) rfl)) (hw _ (List.mem_of_getElem? (i := 28) rfl)) (notFace_of_selects (args := #[]) (mvT hZ (hw _ (List.mem_of_getElem? (i := 30) rfl)))) (hw _ (List.mem_of_getElem? (i := 30) rfl)) (hw _ (List.mem_of_getElem? (i := 29) rfl)) (hw _ (List.mem_of_getElem? (i := 2) rfl)) (hw _ (List.mem_of_getElem? (i := 31) rfl)) (by decide) (rm_rem1 l Z a0 hw b70 u71 v71 g78x l78x (tT p2 p3 p4) (tL p5) (tK p2 p3 p4) a78x T78.heap n0 (Nat.le_trans Z0 (KK78 : Keep h0 T78.heap []).1) Ec78 Fs78 Ft78 Fl78 Vu78 Vv78 nqu71 nqv71 nuv71 ge_b70 ge_u71 ge_v71 (tH p2 p3 p4) hg78 hl78 hi78) rfl Ec78 (hb hby at_150) (lenOf pd_3 rfl) rfl rfl (W := 0) (Nat.le_of_eq rfl) (by decide) (by decide) (by decide) (by decide) ?_
    intro v79 T79 L79 X79 Q79
    obtain ⟨rfl, N79q, Kc79, Ec79, Fs79, Ft79, Fl79, g79x, l79x, a79x, Vu79, Vv79, hg79, hl79, hi79, ⟨hm79, hs79⟩, hP79⟩ := Q79
    have N79 := Fr.app N78 N79q
    have Ec78_79 := Ec78.keep Kc79
    have KK79 : Keep h0 T79.heap [] := (KK78 : Keep h0 T78.heap []).trans Kc79 (allS (Or.inr sz_b70) (allS (Or.inr sz_u71) (allS (Or.inr sz_v71) all0)))
    show Go _ _ _ _ _ _ _ T79 (mkF m 153 #[.val (.int p0), .val (.int p1), .val (.int p2), .val (.int p3), .val (.int p4), .val (.int p5), .val (.int (3 : Int32)), .val (.int (3 : Int32)), .val (.ref b70), .val (.int (1 : Int32))] [(.int ((tL p5) (a78x 0)))])
    refine Go.step (fun _ k => XS.pop X79.here hx rfl (hb hby at_153) rfl rfl k) ?_
    show Go _ _ _ _ _ _ _ T79 (mkF m 154 #[.val (.int p0), .val (.int p1), .val (.int p2), .val (.int p3), .val (.int p4), .val (.int p5), .val (.int (3 : Int32)), .val (.int (3 : Int32)), .val (.ref b70), .val (.int (1 : Int32))] [])
    refine Go.step (fun _ k => XS.iload X79.here hx rfl (hb hby at_154) rfl k) ?_
    show Go _ _ _ _ _ _ _ T79 (mkF m 156 #[.val (.int p0), .val (.int p1), .val (.int p2), .val (.int p3), .val (.int p4), .val (.int p5), .val (.int (3 : Int32)), .val (.int (3 : Int32)), .val (.ref b70), .val (.int (1 : Int32))] [(.int (1 : Int32))])
    refine Go.step (fun _ k => XS.ifNo X79.here hx rfl (hb hby at_156) rfl ((if0 _ _).trans (feq (by decide : ¬ ((1 : Int32) = (0 : Int32)))).1) k) ?_
    show Go _ _ _ _ _ _ _ T79 (mkF m 159 #[.val (.int p0), .val (.int p1), .val (.int p2), .val (.int p3), .val (.int p4), .val (.int p5), .val (.int (3 : Int32)), .val (.int (3 : Int32)), .val (.ref b70), .val (.int (1 : Int32))] [])
    refine Go.step (fun _ k => XS.aload X79.here hx rfl (hb hby at_159) rfl rfl k) ?_
    show Go _ _ _ _ _ _ _ T79 (mkF m 161 #[.val (.int p0), .val (.int p1), .val (.int p2), .val (.int p3), .val (.int p4), .val (.int p5), .val (.int (3 : Int32)), .val (.int (3 : Int32)), .val (.ref b70), .val (.int (1 : Int32))] [(.ref b70)])
    refine Go.callV X79 hx hZ (by rw [hml]; rfl) (y := (⟨"com/example/wavegrade/wavegrade/DepartureQueue", "isEmpty", "()Z"⟩ : MethodName)) (z := (⟨"com/example/wavegrade/wavegrade/DepartureQueue", "isEmpty", "()Z"⟩ : MethodName)) (a := b70) (argsL := []) (rest := []) hown (hw _ (List.mem_of_getElem? (i := 15) rfl)) (hw _ (List.mem_of_getElem? (i := 16) rfl)) (notFace_of_selects (args := #[]) (mvT hZ (hw _ (List.mem_of_getElem? (i := 18) rfl)))) (hw _ (List.mem_of_getElem? (i := 18) rfl)) (hw _ (List.mem_of_getElem? (i := 17) rfl)) (hw _ (List.mem_of_getElem? (i := 2) rfl)) (hw _ (List.mem_of_getElem? (i := 19) rfl)) (by decide) (rm_empty0 l Z a0 hw b70 T79.heap n0 (Nat.le_trans Z0 (KK79 : Keep h0 T79.heap []).1) Fs79) rfl Ec79 (hb hby at_161) (lenOf pd_1 rfl) rfl rfl (W := 0) (Nat.le_of_eq rfl) (by decide) (by decide) (by decide) (by decide) ?_
    intro v80 T80 L80 X80 Q80
    obtain ⟨rfl, N80q, hh80⟩ := Q80
    have N80 := Fr.app N79 N80q
    show Go _ _ _ _ _ _ _ T80 (mkF m 164 #[.val (.int p0), .val (.int p1), .val (.int p2), .val (.int p3), .val (.int p4), .val (.int p5), .val (.int (3 : Int32)), .val (.int (3 : Int32)), .val (.ref b70), .val (.int (1 : Int32))] [(.int (1 : Int32))])
    refine Go.step (fun _ k => XS.iload X80.here hx rfl (hb hby at_164) rfl k) ?_
    show Go _ _ _ _ _ _ _ T80 (mkF m 166 #[.val (.int p0), .val (.int p1), .val (.int p2), .val (.int p3), .val (.int p4), .val (.int p5), .val (.int (3 : Int32)), .val (.int (3 : Int32)), .val (.ref b70), .val (.int (1 : Int32))] [(.int (3 : Int32)), (.int (1 : Int32))])
    refine Go.step (fun _ k => XS.iload X80.here hx rfl (hb hby at_166) rfl k) ?_
    show Go _ _ _ _ _ _ _ T80 (mkF m 168 #[.val (.int p0), .val (.int p1), .val (.int p2), .val (.int p3), .val (.int p4), .val (.int p5), .val (.int (3 : Int32)), .val (.int (3 : Int32)), .val (.ref b70), .val (.int (1 : Int32))] [(.int (3 : Int32)), (.int (3 : Int32)), (.int (1 : Int32))])
    refine Go.step (fun _ k => XS.isub X80.here hx rfl (hb hby at_168) rfl k) ?_
    show Go _ _ _ _ _ _ _ T80 (mkF m 169 #[.val (.int p0), .val (.int p1), .val (.int p2), .val (.int p3), .val (.int p4), .val (.int p5), .val (.int (3 : Int32)), .val (.int (3 : Int32)), .val (.ref b70), .val (.int (1 : Int32))] [(.int (0 : Int32)), (.int (1 : Int32))])
    refine Go.step (fun _ k => XS.ifNo X80.here hx rfl (hb hby at_169) rfl ((if0 _ _).trans (teq (by decide : (0 : Int32) = (0 : Int32))).2) k) ?_
    show Go _ _ _ _ _ _ _ T80 (mkF m 172 #[.val (.int p0), .val (.int p1), .val (.int p2), .val (.int p3), .val (.int p4), .val (.int p5), .val (.int (3 : Int32)), .val (.int (3 : Int32)), .val (.ref b70), .val (.int (1 : Int32))] [(.int (1 : Int32))])
    refine Go.step (fun _ k => XS.iconst X80.here hx rfl (hb hby at_172) k) ?_
    show Go _ _ _ _ _ _ _ T80 (mkF m 173 #[.val (.int p0), .val (.int p1), .val (.int p2), .val (.int p3), .val (.int p4), .val (.int p5), .val (.int (3 : Int32)), .val (.int (3 : Int32)), .val (.ref b70), .val (.int (1 : Int32))] [(.int (1 : Int32)), (.int (1 : Int32))])
    refine Go.step (fun _ k => XS.goto X80.here hx rfl (pc0 := 173) (pc' := 177) rfl (hb hby at_173) (by decide) (by decide) k) ?_
    show Go _ _ _ _ _ _ _ T80 (mkF m 177 #[.val (.int p0), .val (.int p1), .val (.int p2), .val (.int p3), .val (.int p4), .val (.int p5), .val (.int (3 : Int32)), .val (.int (3 : Int32)), .val (.ref b70), .val (.int (1 : Int32))] [(.int (1 : Int32)), (.int (1 : Int32))])
    refine Go.step (fun _ k => XS.icmpNo X80.here hx rfl (hb hby at_177) rfl (teq (by decide : (1 : Int32) = (1 : Int32))).2 k) ?_
    show Go _ _ _ _ _ _ _ T80 (mkF m 180 #[.val (.int p0), .val (.int p1), .val (.int p2), .val (.int p3), .val (.int p4), .val (.int p5), .val (.int (3 : Int32)), .val (.int (3 : Int32)), .val (.ref b70), .val (.int (1 : Int32))] [])
    refine Go.step (fun _ k => XS.iconst X80.here hx rfl (hb hby at_180) k) ?_
    show Go _ _ _ _ _ _ _ T80 (mkF m 181 #[.val (.int p0), .val (.int p1), .val (.int p2), .val (.int p3), .val (.int p4), .val (.int p5), .val (.int (3 : Int32)), .val (.int (3 : Int32)), .val (.ref b70), .val (.int (1 : Int32))] [(.int (1 : Int32))])
    refine Go.step (fun _ k => XS.goto X80.here hx rfl (pc0 := 181) (pc' := 185) rfl (hb hby at_181) (by decide) (by decide) k) ?_
    show Go _ _ _ _ _ _ _ T80 (mkF m 185 #[.val (.int p0), .val (.int p1), .val (.int p2), .val (.int p3), .val (.int p4), .val (.int p5), .val (.int (3 : Int32)), .val (.int (3 : Int32)), .val (.ref b70), .val (.int (1 : Int32))] [(.int (1 : Int32))])
    refine Go.step (fun _ k => XS.istore X80.here hx rfl (hb hby at_185) rfl (l' := #[.val (.int p0), .val (.int p1), .val (.int p2), .val (.int p3), .val (.int p4), .val (.int p5), .val (.int (3 : Int32)), .val (.int (3 : Int32)), .val (.ref b70), .val (.int (1 : Int32))]) rfl k) ?_
    show Go _ _ _ _ _ _ _ T80 (mkF m 187 #[.val (.int p0), .val (.int p1), .val (.int p2), .val (.int p3), .val (.int p4), .val (.int p5), .val (.int (3 : Int32)), .val (.int (3 : Int32)), .val (.ref b70), .val (.int (1 : Int32))] [])
    refine Go.step (fun _ k => XS.iload X80.here hx rfl (hb hby at_187) rfl k) ?_
    show Go _ _ _ _ _ _ _ T80 (mkF m 189 #[.val (.int p0), .val (.int p1), .val (.int p2), .val (.int p3), .val (.int p4), .val (.int p5), .val (.int (3 : Int32)), .val (.int (3 : Int32)), .val (.ref b70), .val (.int (1 : Int32))] [(.int (1 : Int32))])
    refine Go.retZ X80 hx hlk hret (by decide) (hb hby at_189) (by decide) (by decide) ?_
    try rw [hh80]
    exact ⟨rfl, N80⟩
theorem pn_0 : plainName "com/example/wavegrade/wavegrade/DepartureQueueIsEmptyPinLaw" = true := by first | (simp [plainName, overriddenIn]; done) | decide +kernel
theorem ef_rm0 (m : MethodId) (p0 : Int32) (p1 : Int32) (p2 : Int32) (p3 : Int32) (p4 : Int32) (p5 : Int32) : entryFrame m #[(.int p0), (.int p1), (.int p2), (.int p3), (.int p4), (.int p5)] maxLocals = mkF m 0 #[.val (.int p0), .val (.int p1), .val (.int p2), .val (.int p3), .val (.int p4), .val (.int p5), .unset, .unset, .unset, .unset] [] := by first | (simp [entryFrame, mkF, argsToLocals, Value.category, maxLocals]; done) | rfl
theorem rm0 (l : Launch) (Z : State) (a0 : Array Value) (hw : ∀ d ∈ tables_1, d.before a0 Z = true) (ws : List Jvm.Cond) (p0 p1 p2 p3 p4 p5 : Int32) (h0 : Heap) (n0 : Nat) (Z0 : n0 ≤ h0.size)  :
    MetFree l x (head1 (Jvm.Cond.code x code maxLocals ret :: ws) room_1) (fun a U => a = #[(.int p0), (.int p1), (.int p2), (.int p3), (.int p4), (.int p5)] ∧ Z.Warmed39 U.vm ∧ U.heap = h0) (fun _ _ _ _ _ => True) (fun _ U o U' => ∃ v L, o = .returned v ∧ (fun r h L => r = some (.int 1) ∧ Fr n0 L) v U'.heap L ∧ FrameEnd U o U' L room_1.cells room_1.slots) :=
  con_of (plainFor_of_name pn_0) (fun p_ e_ s_ m_ b_ meth_ c_ T_ X_ hx hZ hby hml hown hnm hret hlk e0 => Go.cast (ef_rm0 m_ p0 p1 p2 p3 p4 p5) (w0 p0 p1 p2 p3 p4 p5 X_ hx hZ hw hby hml hown hnm hret hlk e0 Z0 (Fr.nil n0) ))
set_option maxRecDepth 65536 in
set_option maxHeartbeats 40000000 in
theorem comes_1 {Post : Tables → Env → Array Value → State → Outcome → State → Prop} (hpost : ∀ tb e args s v u, (limb_1_1.after args s (.returned v) u = true ∧ limb_1_2.after args s (.returned v) u = true ∧ True) → FrameEnd s (.returned v) u (Jvm.fieldLocs frame_1_writes args s ++ Jvm.arrayLocs frame_1_arrays args s ++ Jvm.staticLocs frame_1_statics s) 16 384 → Post tb e args s (.returned v) u) :
    ArmFor flags0 classFile x code maxLocals ret World_1 tables_1 room_1 Calls_1 rest_1 Pre_1 Post := by
  intro l hfl _ _ p e ha hc hk s m args below hf hA hF happ hP
  obtain ⟨hcalls, hrest, hpre⟩ := hP
  obtain ⟨-, -, -, hnamed, -, -, -, hat⟩ := (Spec.applies_iff hf).mp happ
  obtain ⟨hg, hn⟩ := and_e (Cond.before_iff.mp (show (Jvm.Cond.and given_1 narrow_1).before args s = true from hpre))
  obtain ⟨g1, g2⟩ := and_e hg
  obtain ⟨g3, g4⟩ := and_e g2
  obtain ⟨g5, g6⟩ := and_e g4
  obtain ⟨g7, g8⟩ := and_e g6
  obtain ⟨g9, g10⟩ := and_e g8
  obtain ⟨g11, g12⟩ := and_e g10
  obtain ⟨w0, w1, w2, w3, w4, w5, rfl⟩ : ∃ w0 w1 w2 w3 w4 w5 : Value, args = #[w0, w1, w2, w3, w4, w5] := by
    have hs : args.size = 6 := by simpa [Cond.value, given_1] using g1
    obtain ⟨L⟩ := args
    match L, hs with
    | [w0, w1, w2, w3, w4, w5], _ => exact ⟨w0, w1, w2, w3, w4, w5, rfl⟩
  have hw := fun d (hd : d ∈ tables_1) => atoms_spec (ws := Jvm.Cond.code x code maxLocals ret :: tables_1) hat d (List.mem_cons_of_mem _ hd)
  have hfit : Fit s := fun {y c} hc i hi => by
    obtain ⟨ha, rfl⟩ := Array.getElem?_eq_some_iff.mp hc
    have q := List.all_eq_true.mp ((Array.all_eq_true_iff_forall_mem.mp hF) _ (Array.getElem_mem ha)) i (List.mem_range.mpr hi)
    simpa [Array.getElem?_eq_getElem hi] using q
  obtain ⟨i0, ei0⟩ := is_v g3
  obtain rfl : w0 = (.int i0) := Option.some.inj ei0
  obtain ⟨i1, ei1⟩ := is_v g5
  obtain rfl : w1 = (.int i1) := Option.some.inj ei1
  obtain ⟨i2, ei2⟩ := is_v g7
  obtain rfl : w2 = (.int i2) := Option.some.inj ei2
  obtain ⟨i3, ei3⟩ := is_v g9
  obtain rfl : w3 = (.int i3) := Option.some.inj ei3
  obtain ⟨i4, ei4⟩ := is_v g11
  obtain rfl : w4 = (.int i4) := Option.some.inj ei4
  obtain ⟨i5, ei5⟩ := is_v g12
  obtain rfl : w5 = (.int i5) := Option.some.inj ei5
  obtain ⟨n, o, h1, h2, h3, _, L, rfl, ⟨rfl, N⟩, hq⟩ := rm0 l s _ hw tables_1 i0 i1 i2 i3 i4 i5 s.heap s.heap.size (Nat.le_refl _)  p e ha hc hk s m _ below hf ((Spec.applies_iff_loose hf).mp happ).1 ⟨rfl, State.Warmed39.refl s, rfl⟩ trivial
  refine ⟨n, _, h1, h2, h3, hpost _ _ _ _ _ _ ⟨Cond.after_iff.mpr rfl, Cond.after_iff.mpr (eq_i res_at (Term.int_eval (1)) rfl), trivial⟩ ⟨hq.1, hq.2.1, (hq.2.2.sift fun y hy => Or.inr (N y hy)).mono (by decide) (by decide)⟩⟩
theorem main_1_1 : Claimed_1_1 := comes_1 fun _ _ _ _ _ _ h hF => ⟨h.1, hF⟩
theorem main_1_2 : Claimed_1_2 := comes_1 fun _ _ _ _ _ _ h hF => ⟨h.2.1, hF⟩
end Jvm.Pilot.@@N@@
namespace Jvm.Pilot.@@N@@
open Jvm Jvm.ClassFile Sem Op Lib Jvm.Free Jvm.Stand Jvm.Pilot.@@N@@.Jvm.D
/-! MADE BY PROGRAM (witnessworld.py) out of the Statement's table words and the real class files: 11 classes; the members and pool entries that the words name. The judged class is class 1, her method 1. -/
namespace start1
open Jvm.ClassFile
def u (s : String) : CpInfo := .utf8 (stringToUtf16 s)
/-- a pool by its gaps: so many unusable entries, then the entry; so many at the end -/
def gap : Nat → List CpInfo → List CpInfo
  | 0, r => r
  | n + 1, r => .unusable :: gap n r
def poolList (es : List (Nat × CpInfo)) (last : Nat) : List CpInfo := es.foldr (fun e r => gap e.1 (e.2 :: r)) (gap last [])
def pool (es : List (Nat × CpInfo)) (last : Nat) : Array CpInfo := ⟨poolList es last⟩
def fileOf (pool : Array CpInfo) (this : Nat) (attrs : Array Attribute := #[]) (ms : Array MethodInfo := #[]) (fl : Nat := 33) (sup : Nat := 0) (ifs : Array Nat := #[]) (fds : Array FieldInfo := #[]) : ClassFile where
  minorVersion := 0
  majorVersion := 65
  constantPool := pool
  accessFlags := fl
  thisClass := this
  superClass := sup
  interfaces := ifs
  fields := fds
  methods := ms
  attributes := attrs
def plain (name : String) (sup : Option ClassId) : Class where
  name := name
  kind := .ordinary
  loader := none
  accessFlags := 33
  super := sup
  interfaces := #[]
  cf := none
  fields := #[]
  methods := #[]
  instanceTypes := #[]
  staticTypes := #[]
  resolved := #[]
  callSites := []
  init := .initialized
  statics := none
  mirror := none

def pool0 : Array CpInfo := pool [(5, u "<init>"), (0, u "()V"), (1, .class_ 10), (1, u "java/lang/Object")] 113

def k0c0 : Code := { maxStack := 0, maxLocals := 1, code := object_method_1_code, exceptionTable := #[], attributes := #[] }
def k0m0 : Method := { name := "<init>", desc := "()V", sig := { parameters := [], returnType := none }, accessFlags := 1, code := some k0c0 }
/-- java/lang/Object -/
def k0 : Class := { plain "java/lang/Object" none with
  accessFlags := 33
  interfaces := #[]
  cf := some (fileOf pool0 8 #[] #[{ accessFlags := 1, nameIndex := 5, descriptorIndex := 6, attributes := #[] }] 33 0 #[] #[])
  fields := #[]
  methods := #[k0m0]
  instanceTypes := #[]
  staticTypes := #[]
  resolved := Array.replicate 124 none
  statics := none }

def pool1 : Array CpInfo := pool [(2, .class_ 4), (0, .nameAndType 5 6), (0, u "java/lang/Object"), (0, u "<init>"), (0, u "()V"), (0, .class_ 8), (0, u "com/example/wavegrade/wavegrade/DepartureQueue"), (0, .methodref 7 3), (0, .methodref 7 11), (0, .nameAndType 12 13), (0, u "isEmpty"), (0, u "()Z"), (0, .methodref 7 15), (0, .nameAndType 16 17), (0, u "add"), (0, u "(DI)V"), (0, .methodref 7 19), (0, .nameAndType 20 21), (0, u "removeFirst"), (0, u "()I"), (0, .class_ 23), (0, u "com/example/wavegrade/wavegrade/DepartureQueueIsEmptyPinLaw"), (2, u "law"), (0, u "(IIIIII)Z")] 3

def k1m0 : Method := { name := "<init>", desc := "()V", sig := { parameters := [], returnType := none }, accessFlags := 1, code := none }
def k1c1 : Code := { maxStack := 5, maxLocals := 10, code := code, exceptionTable := #[], attributes := #[] }
def k1m1 : Method := { name := "law", desc := "(IIIIII)Z", sig := { parameters := [.int, .int, .int, .int, .int, .int], returnType := some .boolean }, accessFlags := 9, code := some k1c1 }
/-- com/example/wavegrade/wavegrade/DepartureQueueIsEmptyPinLaw -/
def k1 : Class := { plain "com/example/wavegrade/wavegrade/DepartureQueueIsEmptyPinLaw" (some 0) with
  accessFlags := 49
  interfaces := #[]
  cf := some (fileOf pool1 22 #[] #[{ accessFlags := 1, nameIndex := 5, descriptorIndex := 6, attributes := #[] }, { accessFlags := 9, nameIndex := 26, descriptorIndex := 27, attributes := #[] }] 49 2 #[] #[])
  fields := #[]
  methods := #[k1m0, k1m1]
  instanceTypes := #[]
  staticTypes := #[]
  resolved := Array.replicate 31 none
  statics := none }

def pool2 : Array CpInfo := pool [(1, .methodref 2 3), (0, .class_ 4), (0, .nameAndType 5 6), (0, u "java/lang/Object"), (0, u "<init>"), (0, u "()V"), (0, .fieldref 8 9), (0, .class_ 10), (0, .nameAndType 11 12), (0, u "com/example/wavegrade/wavegrade/DepartureQueue"), (0, u "times"), (0, u "[D"), (0, .fieldref 8 14), (0, .nameAndType 15 16), (0, u "lightpaths"), (0, u "[I"), (0, .fieldref 8 18), (0, .nameAndType 19 20), (0, u "size"), (0, u "I"), (11, u "isEmpty"), (0, u "()Z"), (3, u "add"), (0, u "(DI)V"), (0, u "removeFirst"), (0, u "()I")] 2

def k2c0 : Code := { maxStack := 2, maxLocals := 1, code := prog_1_method_1_code, exceptionTable := #[], attributes := #[] }
def k2m0 : Method := { name := "<init>", desc := "()V", sig := { parameters := [], returnType := none }, accessFlags := 0, code := some k2c0 }
def k2c1 : Code := { maxStack := 1, maxLocals := 1, code := prog_1_method_2_code, exceptionTable := #[], attributes := #[] }
def k2m1 : Method := { name := "isEmpty", desc := "()Z", sig := { parameters := [], returnType := some .boolean }, accessFlags := 0, code := some k2c1 }
def k2c2 : Code := { maxStack := 4, maxLocals := 6, code := prog_1_method_4_code, exceptionTable := #[], attributes := #[] }
def k2m2 : Method := { name := "add", desc := "(DI)V", sig := { parameters := [.double, .int], returnType := none }, accessFlags := 0, code := some k2c2 }
def k2c3 : Code := { maxStack := 4, maxLocals := 7, code := prog_1_method_5_code, exceptionTable := #[], attributes := #[] }
def k2m3 : Method := { name := "removeFirst", desc := "()I", sig := { parameters := [], returnType := some .int }, accessFlags := 0, code := some k2c3 }
/-- com/example/wavegrade/wavegrade/DepartureQueue -/
def k2 : Class := { plain "com/example/wavegrade/wavegrade/DepartureQueue" (some 0) with
  accessFlags := 48
  interfaces := #[]
  cf := some (fileOf pool2 8 #[] #[{ accessFlags := 0, nameIndex := 5, descriptorIndex := 6, attributes := #[] }, { accessFlags := 0, nameIndex := 32, descriptorIndex := 33, attributes := #[] }, { accessFlags := 0, nameIndex := 37, descriptorIndex := 38, attributes := #[] }, { accessFlags := 0, nameIndex := 39, descriptorIndex := 40, attributes := #[] }] 48 2 #[] #[{ accessFlags := 2, nameIndex := 11, descriptorIndex := 12, attributes := #[] }, { accessFlags := 2, nameIndex := 15, descriptorIndex := 16, attributes := #[] }, { accessFlags := 2, nameIndex := 19, descriptorIndex := 20, attributes := #[] }])
  fields := #[{ name := "times", type := (.array .double), accessFlags := 2, slot := 0, constantValue := 0 }, { name := "lightpaths", type := (.array .int), accessFlags := 2, slot := 1, constantValue := 0 }, { name := "size", type := .int, accessFlags := 2, slot := 2, constantValue := 0 }]
  methods := #[k2m0, k2m1, k2m2, k2m3]
  instanceTypes := #[(.array .double), (.array .int), .int]
  staticTypes := #[]
  resolved := Array.replicate 43 none
  statics := none }

def pool3 : Array CpInfo := pool [(1, u "java/lang/Cloneable"), (0, .class_ 1), (0, u "java/lang/Object"), (0, .class_ 3)] 3

/-- java/lang/Cloneable -/
def k3 : Class := { plain "java/lang/Cloneable" (some 0) with
  accessFlags := 1537
  interfaces := #[]
  cf := some (fileOf pool3 2 #[] #[] 1537 4 #[] #[])
  fields := #[]
  methods := #[]
  instanceTypes := #[]
  staticTypes := #[]
  resolved := Array.replicate 8 none
  statics := none }

def pool4 : Array CpInfo := pool [(1, u "java/io/Serializable"), (0, .class_ 1), (0, u "java/lang/Object"), (0, .class_ 3)] 3

/-- java/io/Serializable -/
def k4 : Class := { plain "java/io/Serializable" (some 0) with
  accessFlags := 1537
  interfaces := #[]
  cf := some (fileOf pool4 2 #[] #[] 1537 4 #[] #[])
  fields := #[]
  methods := #[]
  instanceTypes := #[]
  staticTypes := #[]
  resolved := Array.replicate 8 none
  statics := none }

/-- the primitive byte -/
def k5 : Class := { plain "byte" none with kind := .primitive 'B', accessFlags := 0x411 }
/-- [B -/
def k6 : Class := { plain "[B" (some 0) with kind := .array 5 .byte, interfaces := #[3, 4], accessFlags := 1041 }

/-- the primitive double -/
def k7 : Class := { plain "double" none with kind := .primitive 'D', accessFlags := 0x411 }
/-- [D -/
def k8 : Class := { plain "[D" (some 0) with kind := .array 7 .double, interfaces := #[3, 4], accessFlags := 1041 }

/-- the primitive int -/
def k9 : Class := { plain "int" none with kind := .primitive 'I', accessFlags := 0x411 }
/-- [I -/
def k10 : Class := { plain "[I" (some 0) with kind := .array 9 .int, interfaces := #[3, 4], accessFlags := 1041 }

def heap : Heap := #[]
def classes : Array Class := #[k0, k1, k2, k3, k4, k5, k6, k7, k8, k9, k10]
def interned : List (Array UInt16 × Addr) := []
def slotsUsed : Nat := 0
def theMethod : MethodId := ⟨1, 1⟩
def args0 : Array Value := #[.int 3, .int 2, .int 3, .int 1, .int 2, .int 9]
def aboutOver (below : List Frame) : State where
  vm := { classes := classes, interned := interned.toArray }
  heap := heap
  slotsUsed := slotsUsed
  threads := #[{ frames := .invoking theMethod args0 :: below }]
def below0 : List Frame := [.native { method := ⟨0, 0⟩, args := #[] }]
def about1 : State := aboutOver below0
def p0 : Program := .bare "" "" ""
def e0 : Env := launch0.env 0 0 0
theorem w_frames : about1.frames = Frame.invoking theMethod args0 :: below0 := rfl
set_option maxRecDepth 65536 in
theorem w_args : argsFit about1.vm theMethod args0 = true := by decide +kernel
set_option maxRecDepth 65536 in
theorem w_heap : heapFits about1 = true := by decide +kernel
set_option maxRecDepth 65536 in
theorem w_runnable : about1.curStatus? = some .runnable := by decide +kernel
set_option maxRecDepth 65536 in
theorem w_alone : about1.alone = true := by decide +kernel
set_option maxRecDepth 65536 in
theorem w_named : about1.methodNamed? x = some theMethod := by decide +kernel
set_option maxRecDepth 65536 in
theorem w_hears : about1.hears theMethod below0 = true := by decide +kernel
set_option maxRecDepth 65536 in
theorem w_ripe : about1.ripe theMethod args0 below0 = true := by decide +kernel
theorem w_running : about1.status = .running := rfl
set_option maxRecDepth 65536 in
theorem w_room : about1.hasRoom e0.platform room_1 = true :=
  launch0.hasRoom_least _ room_1 (by decide +kernel) (by decide +kernel) (by decide +kernel) (by decide +kernel) (by decide +kernel) (by decide +kernel)
theorem allAtoms_all (ts : List Jvm.Cond) (a : Array Jvm.Value) (st : Jvm.State) : (allAtoms ts).before a st = ts.all (fun c => c.before a st) := by
  induction ts with
  | nil => rfl
  | cons c t ih =>
    show (Jvm.Cond.and c (allAtoms t)).before a st = _
    rw [Jvm.Cond.before_and, ih, List.all_cons]
def words1 : List Jvm.Cond := Jvm.Cond.code x code maxLocals ret :: tables_1
/-- a 'code' word, met by the world's own term for the bytes: nothing is compared byte by byte -/
theorem code_word {y : MethodName} {bytes : ByteArray} {mx : Nat} {rt : Option FieldType} {a : Array Value} {s : State} {m : MethodId} {meth : Method} {c : Code} (h1 : s.methodNamed? y = some m) (h2 : s.vm.method? m = some meth) (h3 : meth.code = some c) (h4 : c.code = bytes)
    (h5 : (c.maxLocals == mx && c.exceptionTable.isEmpty && decide (c.maxStack ≤ mostOperands) && decide (meth.sig.returnType = rt) && !meth.locks && decide (parseMethodDescriptor y.desc = some meth.sig)) = true) : (Jvm.Cond.code y bytes mx rt).before a s = true := by
  simp only [Bool.and_eq_true, beq_iff_eq, Bool.not_eq_true', decide_eq_true_eq] at h5
  obtain ⟨⟨⟨⟨⟨g1, g2⟩, g3⟩, g4⟩, g5⟩, g6⟩ := h5
  simp [Cond.before, Cond.holds, Cond.value, h1, h2, h3, h4, g1, g2, g3, g4, g5, g6]
def isCode : Jvm.Cond → Bool
  | .code _ _ _ _ => true
  | _ => false
theorem all_split {L : List Jvm.Cond} {P : Jvm.Cond → Bool} (h1 : L.all (fun c => isCode c || P c) = true) (h2 : ∀ c ∈ L.filter isCode, P c = true) : L.all P = true := by
  refine List.all_eq_true.mpr fun c hc => ?_
  have h := List.all_eq_true.mp h1 c hc
  rcases Bool.eq_false_or_eq_true (isCode c) with hi | hi
  · exact h2 c (List.mem_filter.mpr ⟨hc, hi⟩)
  · simpa [hi] using h
set_option maxRecDepth 65536 in
theorem w_c0 : (Jvm.Cond.code x code maxLocals ret).before args0 about1 = true := code_word (m := ⟨1, 1⟩) (meth := k1m1) (c := k1c1) (by decide +kernel) rfl rfl rfl (by decide +kernel)
set_option maxRecDepth 65536 in
theorem w_c1 : (Jvm.Cond.code ({ cls := "com/example/wavegrade/wavegrade/DepartureQueue", name := "<init>", desc := "()V" } : Jvm.MethodName) prog_1_method_1_code (1 : Nat) (Option.none : Option Jvm.ClassFile.FieldType)).before args0 about1 = true := code_word (m := ⟨2, 0⟩) (meth := k2m0) (c := k2c0) (by decide +kernel) rfl rfl rfl (by decide +kernel)
set_option maxRecDepth 65536 in
theorem w_c2 : (Jvm.Cond.code ({ cls := "java/lang/Object", name := "<init>", desc := "()V" } : Jvm.MethodName) object_method_1_code (1 : Nat) (Option.none : Option Jvm.ClassFile.FieldType)).before args0 about1 = true := code_word (m := ⟨0, 0⟩) (meth := k0m0) (c := k0c0) (by decide +kernel) rfl rfl rfl (by decide +kernel)
set_option maxRecDepth 65536 in
theorem w_c3 : (Jvm.Cond.code ({ cls := "com/example/wavegrade/wavegrade/DepartureQueue", name := "isEmpty", desc := "()Z" } : Jvm.MethodName) prog_1_method_2_code (1 : Nat) (Option.some Jvm.ClassFile.FieldType.boolean)).before args0 about1 = true := code_word (m := ⟨2, 1⟩) (meth := k2m1) (c := k2c1) (by decide +kernel) rfl rfl rfl (by decide +kernel)
set_option maxRecDepth 65536 in
theorem w_c4 : (Jvm.Cond.code ({ cls := "com/example/wavegrade/wavegrade/DepartureQueue", name := "add", desc := "(DI)V" } : Jvm.MethodName) prog_1_method_4_code (6 : Nat) (Option.none : Option Jvm.ClassFile.FieldType)).before args0 about1 = true := code_word (m := ⟨2, 2⟩) (meth := k2m2) (c := k2c2) (by decide +kernel) rfl rfl rfl (by decide +kernel)
set_option maxRecDepth 65536 in
theorem w_c5 : (Jvm.Cond.code ({ cls := "com/example/wavegrade/wavegrade/DepartureQueue", name := "removeFirst", desc := "()I" } : Jvm.MethodName) prog_1_method_5_code (7 : Nat) (Option.some Jvm.ClassFile.FieldType.int)).before args0 about1 = true := code_word (m := ⟨2, 3⟩) (meth := k2m3) (c := k2c3) (by decide +kernel) rfl rfl rfl (by decide +kernel)
def codes1 : List Jvm.Cond := [Jvm.Cond.code x code maxLocals ret, Jvm.Cond.code ({ cls := "com/example/wavegrade/wavegrade/DepartureQueue", name := "<init>", desc := "()V" } : Jvm.MethodName) prog_1_method_1_code (1 : Nat) (Option.none : Option Jvm.ClassFile.FieldType), Jvm.Cond.code ({ cls := "java/lang/Object", name := "<init>", desc := "()V" } : Jvm.MethodName) object_method_1_code (1 : Nat) (Option.none : Option Jvm.ClassFile.FieldType), Jvm.Cond.code ({ cls := "com/example/wavegrade/wavegrade/DepartureQueue", name := "isEmpty", desc := "()Z" } : Jvm.MethodName) prog_1_method_2_code (1 : Nat) (Option.some Jvm.ClassFile.FieldType.boolean), Jvm.Cond.code ({ cls := "com/example/wavegrade/wavegrade/DepartureQueue", name := "add", desc := "(DI)V" } : Jvm.MethodName) prog_1_method_4_code (6 : Nat) (Option.none : Option Jvm.ClassFile.FieldType), Jvm.Cond.code ({ cls := "com/example/wavegrade/wavegrade/DepartureQueue", name := "removeFirst", desc := "()I" } : Jvm.MethodName) prog_1_method_5_code (7 : Nat) (Option.some Jvm.ClassFile.FieldType.int)]
set_option maxRecDepth 65536 in
theorem codes_eq : words1.filter isCode = codes1 := rfl
theorem w_codes : ∀ c ∈ words1.filter isCode, c.before args0 about1 = true := by
  rw [codes_eq]
  intro c hc
  simp only [codes1, List.mem_cons, List.not_mem_nil, or_false] at hc
  rcases hc with rfl | rfl | rfl | rfl | rfl | rfl
  · exact w_c0
  · exact w_c1
  · exact w_c2
  · exact w_c3
  · exact w_c4
  · exact w_c5
set_option maxRecDepth 65536 in
theorem w_t1 : (words1.take 24).all (fun c => isCode c || c.before args0 about1) = true := by decide +kernel
set_option maxRecDepth 65536 in
theorem w_t2 : (words1.drop 24).all (fun c => isCode c || c.before args0 about1) = true := by decide +kernel
theorem w_tables : (allAtoms (Jvm.Cond.code x code maxLocals ret :: tables_1)).before args0 about1 = true := by
  rw [allAtoms_all]
  show words1.all (fun c => c.before args0 about1) = true
  refine all_split ?_ w_codes
  rw [← List.take_append_drop 24 words1, List.all_append, w_t1, w_t2]
  rfl
set_option maxRecDepth 65536 in
theorem w_case : (Jvm.Cond.and given_1 narrow_1).before args0 about1 = true := by decide +kernel
theorem w_applies : (headSpec (Jvm.Cond.code x code maxLocals ret :: tables_1) room_1).applies x e0.platform about1 = true :=
  (Spec.applies_iff w_frames).mpr ⟨w_running, w_runnable, w_alone, w_named, w_hears, w_ripe, w_room, w_tables⟩
theorem atStart : AtStart classFile x code maxLocals ret World_1 tables_1 room_1 Calls_1 rest_1 Pre_1 launch0 p0 e0 about1 theMethod args0 below0 :=
  ⟨lists_1, trivial, launch0.admits_env _ _ _, launch0.least_env, fairChoices_fair.cas, fairChoices_fair.clock, w_frames, w_args, w_heap, w_applies, trivial, trivial, w_case⟩
end start1
theorem witness_1 : WitnessClaimed_1 := ⟨start1.p0, start1.e0, start1.about1, start1.theMethod, start1.args0, start1.below0, start1.atStart⟩
end Jvm.Pilot.@@N@@
